import JvmDerived
import JvmDerived.Pilot.@@N@@Statement
import JvmDerived.Pilot.@@N@@Code
set_option linter.unusedVariables false
set_option linter.unusedSimpArgs false


namespace Jvm.OwnW
open Sem ClassFile Op Lib Jvm.Free Jvm.LawKit Jvm.RoadKit
abbrev Cx : Type := Program × Env × State × MethodId × Array Value × List Frame × Method × Code
abbrev Cx.p (x : Cx) : Program := x.1
abbrev Cx.e (x : Cx) : Env := x.2.1
abbrev Cx.s (x : Cx) : State := x.2.2.1
abbrev Cx.m (x : Cx) : MethodId := x.2.2.2.1
abbrev Cx.args (x : Cx) : Array Value := x.2.2.2.2.1
abbrev Cx.below (x : Cx) : List Frame := x.2.2.2.2.2.1
abbrev Cx.meth (x : Cx) : Method := x.2.2.2.2.2.2.1
abbrev Cx.c (x : Cx) : Code := x.2.2.2.2.2.2.2
/-- how a contract ends: narrow or wide -/
def FinE (wd : Bool) (Z : State) (EL : List (String × Nat)) (s : State) (o : Outcome) (t : State) (L : List Loc) (k n : Nat) : Prop :=
  match wd with
  | false => FrameEnd s o t L k n
  | true => CHr Z EL s.vm s.heap t.vm t.heap ∧ ReturnedEndW s o t L k n
def Ct (wd : Bool) (l : Launch) (Z : State) (EL : List (String × Nat)) (y : MethodName) (bytes : ByteArray) (maxL : Nat) (ret : Option FieldType) (ws : List Jvm.Cond) (R : Room) (sf : List Addr) (as' : Array Value) (h : Heap) (Q : Option Value → Heap → Prop) : Prop :=
  MetFree l y (head1 (Jvm.Cond.code y bytes maxL ret :: ws) R) (fun a U => a = as' ∧ Z.Warmed39 U.vm ∧ U.heap = h ∧ (wd = true → CHv Z EL U.vm h ∧ ∀ y ∈ sf, Safe Z EL U.vm h y)) (fun _ _ _ _ _ => True)
    (fun _ U o U' => ∃ v L, o = .returned v ∧ (Q v U'.heap ∧ Fr Z.heap.size L ∧ Ext Z.heap U'.heap ∧ h.size ≤ U'.heap.size) ∧ FinE wd Z EL U o U' L R.cells R.slots)
def Go (x : Cx) (wd : Bool) (Z : State) (EL : List (String × Nat)) (R : Room) (Q : Option Value → Heap → Prop) (T : State) (pc : Nat) (ls : Array Slot) (st : List Value) : Prop :=
  ∃ s₂ o, Steps x.p.tables x.e x.below (T.setTop (mkF x.m pc ls st)) s₂ ∧ s₂.status = .running ∧ Ended s₂ x.below o ∧ ∃ v L, o = .returned v ∧ (Q v s₂.heap ∧ Fr Z.heap.size L ∧ Ext Z.heap s₂.heap ∧ x.s.heap.size ≤ s₂.heap.size) ∧ FinE wd Z EL x.s o s₂ L R.cells R.slots
def W (x : Cx) (wd : Bool) (l : Launch) (Z : State) (EL : List (String × Nat)) (R : Room) (own : String) (code : ByteArray) (mx : Nat) (ret : Option FieldType) (nm : String) (T : State) (h : Heap) (k n : Nat) (sf : List Addr) : Prop :=
  x.p.tables.exec = Jvm.exec ∧ x.c.code = code ∧ x.c.maxLocals = mx ∧ x.meth.sig.returnType = ret ∧ x.meth.name = nm ∧ x.meth.locks = false ∧ T.heap = h ∧ Ext Z.heap h ∧ k ≤ R.cells ∧ n ≤ R.slots ∧ (∀ y ∈ sf, Z.heap.size ≤ y ∧ y < h.size) ∧ (∃ a0, EW Z a0 EL) ∧
    ∃ (L : List Loc) (vm0 : Vm), Fr Z.heap.size L ∧ (wd = false → vm0 = x.s.vm) ∧ Stand x.p l x.e R (x.s.setVm vm0) x.m x.args x.below x.meth x.c T L k n ∧ x.s.Since vm0 h.size ∧ Z.Warmed39 vm0 ∧ vm0.findClass own = some x.m.cls ∧ (wd = true → CHr Z EL x.s.vm x.s.heap vm0 h ∧ ∀ y ∈ sf, Safe Z EL vm0 h y)
/-- an instruction, its length, the next pc -/
def Dc (code : ByteArray) (pc : Nat) (i : Instr) (len pc' : Nat) : Prop := decode code pc = .ok (i, len) ∧ pc + len = pc'
/-- where a branch goes -/
def Tg (pc : Nat) (o : Int) (pc' : Nat) : Prop := 0 ≤ (pc : Int) + o ∧ ((pc : Int) + o).toNat = pc'
theorem since_mono {s : State} {vm : Vm} {n n' : Nat} (h : s.Since vm n) (q : n ≤ n') : s.Since vm n' := ⟨h.1, h.2.mono q⟩
theorem setVm_self (s : State) : s.setVm s.vm = s := rfl
theorem ext_refl (h : Heap) : Ext h h := ⟨Nat.le_refl _, fun _ _ q => q⟩
theorem ext_trans {a b c : Heap} (h1 : Ext a b) (h2 : Ext b c) : Ext a c := ⟨Nat.le_trans h1.1 h2.1, fun x q r => h2.2 x q (h1.2 x q r)⟩
theorem ext_wr {Z : State} {h h' : Heap} {a : Addr} {sl : Nat} {v : Value} (E : Ext Z.heap h) (w : Wr h h' a sl v) (q : Z.heap.size ≤ a) : Ext Z.heap h' := (Old.wr ⟨rfl, E⟩ w q).2
theorem keep_ext {h h' : Heap} {ws : List Addr} (E : Ext h h') : Keep h h' ws := (Keep.refl h ws).ext E
theorem ext_keep {h h' : Heap} (K : Keep h h' []) : Ext h h' := ⟨K.1, fun x c q => K.2.1 x c q nin0⟩
theorem keep_to {h0 h h' : Heap} {ws : List Addr} (E : Ext h0 h) (K : Keep h h' ws) (q : ∀ x ∈ ws, h0.size ≤ x) : Ext h0 h' :=
  ⟨Nat.le_trans E.1 K.1, fun x c r => K.2.1 x c (E.2 x c r) fun z => absurd (Array.getElem?_eq_some_iff.mp r).1 (Nat.not_lt.mpr (q x z))⟩
theorem Ct.mono {wd : Bool} {l : Launch} {Z : State} {EL : List (String × Nat)} {y : MethodName} {bytes : ByteArray} {maxL : Nat} {ret : Option FieldType} {ws : List Jvm.Cond} {R : Room} {sf : List Addr} {as' : Array Value} {h : Heap} {Q Q' : Option Value → Heap → Prop} (C : Ct wd l Z EL y bytes maxL ret ws R sf as' h Q) (q : ∀ v u, Q v u → Q' v u) : Ct wd l Z EL y bytes maxL ret ws R sf as' h Q' := by
  intro p e h1 h2 h3 s m args below h4 h5 h6 h7
  obtain ⟨n, o, a1, a2, a3, v, L, a4, a5, a6⟩ := C p e h1 h2 h3 s m args below h4 h5 h6 h7
  exact ⟨n, o, a1, a2, a3, v, L, a4, ⟨q _ _ a5.1, a5.2⟩, a6⟩
theorem Ct.intro {wd : Bool} {l : Launch} {Z : State} {EL : List (String × Nat)} {y : MethodName} {bytes : ByteArray} {maxL : Nat} {ret : Option FieldType} {ws : List Jvm.Cond} {R : Room} {sf : List Addr} {as' : Array Value} {h : Heap} {Q : Option Value → Heap → Prop} {ls : Array Slot}
    (hpl : plainName y.cls = true) (hE : Ext Z.heap h) (ef : ∀ m, entryFrame m as' maxL = mkF m 0 ls []) (hsf : ∀ y ∈ sf, Z.heap.size ≤ y ∧ y < h.size) (hEL : ∃ a0, EW Z a0 EL)
    (body : ∀ (x : Cx) (T : State), W x wd l Z EL R y.cls bytes maxL ret y.name T h 0 0 sf → Go x wd Z EL R Q T 0 ls []) : Ct wd l Z EL y bytes maxL ret ws R sf as' h Q := by
  refine MetFree.of_bodySF (plainFor_of_name hpl) hisR ?_
  intro p e s m args below meth c s₁ Bd hml0 hP hK
  obtain ⟨rfl, hZ, hh, hC⟩ := hP
  have hown : s.vm.findClass y.cls = some m.cls := findClass_of_methodNamed Bd.named
  have hnm := (name_of_methodNamed Bd.named Bd.method).1
  have e0 : s₁.heap = h := by rw [← hh, Bd.state]; rfl
  obtain ⟨s₂, o, a1, a2, a3, v, L, a4, a5, a6⟩ := body (p, e, s, m, args, below, meth, c) s₁ ⟨Bd.exec, Bd.bytes, hml0, Bd.returns, hnm, Bd.notSynchronized, e0, hE, Nat.zero_le _, Nat.zero_le _, hsf, hEL, [], s.vm, Fr.nil _, fun _ => rfl, Stand.of_body Bd, (State.WarmedH.refl s).since _, hZ, hown, fun q => ⟨by show CHr Z EL s.vm s.heap s.vm h; rw [hh]; exact CHr.refl (hC q).1, (hC q).2⟩⟩
  exact ⟨s₂, o, castTop (ef m) a1, a2, a3, v, L, a4, ⟨a5.1, a5.2.1, a5.2.2.1, by rw [← hh]; exact a5.2.2.2⟩, a6⟩
theorem nosf {Z : State} {h : Heap} : ∀ y ∈ ([] : List Addr), Z.heap.size ≤ y ∧ y < h.size := fun _ q => nomatch q
theorem onesf {Z : State} {h : Heap} {a : Addr} (g : Z.heap.size ≤ a) (q : a < h.size) : ∀ y ∈ [a], Z.heap.size ≤ y ∧ y < h.size := fun y z => by cases List.mem_singleton.mp z; exact ⟨g, q⟩
theorem noEL {Z : State} {a0 : Array Value} : ∃ a0, EW Z a0 [] := ⟨a0, EW.nil⟩
/-- a wide callee's contract, as the library's calls want it -/
theorem backW {p : Program} {l : Launch} {e : Env} {R : Room} {s : State} {args : Array Value} {below : List Frame} {Z : State} {a0 : Array Value} {EL : List (String × Nat)} {h : Heap} {vm0 : Vm} {y : MethodName} {bytes : ByteArray} {maxL : Nat} {ret : Option FieldType} {rm : Room} {len Wn : Nat} {as' : Array Value} {sf : List Addr} {Q : Option Value → Heap → Prop}
    (hM : Ct true l Z EL y bytes maxL ret [] rm sf as' h Q) (hZ : Z.Warmed39 vm0) (wc : (Jvm.Cond.code y bytes maxL ret).before a0 Z = true) (wz : (Jvm.Cond.initialized y.cls).before a0 Z = true) (hf : rm.frames + 1 ≤ R.frames) (hl : Wn + (maxL + 11) + rm.locals ≤ R.locals) (hEL : ∃ a0, EW Z a0 EL) (H : CHv Z EL vm0 h) (hsf : ∀ y ∈ sf, y < h.size ∧ Safe Z EL vm0 h y) :
    BackS l R p e below (s.setVm vm0) args y len Wn (fun A a => a = as' ∧ A.U.heap = h ∧ A.cells + rm.cells ≤ R.cells ∧ A.slots + rm.slots ≤ R.slots)
      (fun A _ v B => ∃ L, (Q v B.U.heap ∧ Fr Z.heap.size L ∧ Ext Z.heap B.U.heap ∧ h.size ≤ B.U.heap.size) ∧ B.locs = A.locs ++ L ∧ B.cells = A.cells + rm.cells ∧ B.slots = A.slots + rm.slots ∧ CHr Z EL vm0 h B.U.vm B.U.heap) := by
  obtain ⟨a1, hEL⟩ := hEL
  exact BackS.of_freeW (bytes := bytes) (maxL := maxL) (ret := ret) (E := fun _ first o t L k n => k = rm.cells ∧ n = rm.slots ∧ (∃ v, o = .returned v ∧ (Q v t.heap ∧ Fr Z.heap.size L ∧ Ext Z.heap t.heap ∧ h.size ≤ t.heap.size)) ∧ CHr Z EL first.vm first.heap t.vm t.heap) hM hf hl
    (fun m meth c A a Y hp => have hU : Z.Warmed39 A.U.vm := wtrans (s := s.setVm vm0) hZ Y.warmed
      ⟨by show (Jvm.Cond.and _ .tt).before a A.U = true; rw [Cond.before_and, mv hU wc]; rfl, mv hU wc, mv hU wz, hp.2.2.1, hp.2.2.2⟩)
    (fun m meth c A a g mk Y hp => ⟨hp.1, wtrans (s := s.setVm vm0) hZ Y.warmed, hp.2.1, fun _ => ⟨(CHv.at Y hZ hEL H).1, fun y hy => (CHv.at Y hZ hEL H).safe (hsf y hy).1 (hsf y hy).2⟩⟩) (fun _ _ _ _ _ _ _ _ _ => trivial)
    (fun _ _ _ _ ⟨v, L, h1, h2, h3, h4⟩ => ⟨L, _, _, h4, rfl, rfl, ⟨v, h1, h2⟩, h3⟩)
    (fun m meth c A a g mk v t L k n Y hp _ _ ⟨e1, e2, ⟨v', e3, e4⟩, e5⟩ => by
      cases e3; subst e1 e2
      refine ⟨L, e4, rfl, rfl, rfl, (CHv.at Y hZ hEL H).trans ?_⟩
      rw [← hp.2.1]; exact e5)
/-- a narrow callee's -/
theorem backN {p : Program} {l : Launch} {e : Env} {R : Room} {s : State} {args : Array Value} {below : List Frame} {Z : State} {a0 : Array Value} {EL : List (String × Nat)} {h : Heap} {y : MethodName} {bytes : ByteArray} {maxL : Nat} {ret : Option FieldType} {rm : Room} {len Wn : Nat} {as' : Array Value} {sf : List Addr} {Q : Option Value → Heap → Prop}
    (hM : Ct false l Z EL y bytes maxL ret [] rm sf as' h Q) (hZ : Z.Warmed39 s.vm) (wc : (Jvm.Cond.code y bytes maxL ret).before a0 Z = true) (wz : (Jvm.Cond.initialized y.cls).before a0 Z = true) (hf : rm.frames + 1 ≤ R.frames) (hl : Wn + (maxL + 11) + rm.locals ≤ R.locals) :
    Back l R p e below s args y len Wn (fun A a => a = as' ∧ A.U.heap = h ∧ A.cells + rm.cells ≤ R.cells ∧ A.slots + rm.slots ≤ R.slots)
      (fun A _ v B => ∃ L, (Q v B.U.heap ∧ Fr Z.heap.size L ∧ Ext Z.heap B.U.heap ∧ h.size ≤ B.U.heap.size) ∧ B.locs = A.locs ++ L ∧ B.cells = A.cells + rm.cells ∧ B.slots = A.slots + rm.slots) :=
  backOf (Q := fun v u L => Q v u ∧ Fr Z.heap.size L ∧ Ext Z.heap u ∧ h.size ≤ u.size) (fun p e h1 h2 h3 s m args below h4 h5 h6 h7 => hM p e h1 h2 h3 s m args below h4 h5 ⟨h6.1, h6.2.1, h6.2.2, fun q => by cases q⟩ h7) hZ wc wz hf hl
section Laws
variable {x : Cx} {wd : Bool} {l : Launch} {Z : State} {EL : List (String × Nat)} {sf : List Addr} {R : Room} {own : String} {code : ByteArray} {mx : Nat} {ret : Option FieldType} {nm : String} {T : State} {h : Heap} {k n : Nat} {Q : Option Value → Heap → Prop} {pc pc' pcT : Nat} {ls : Array Slot} {st : List Value} {a0 : Array Value}
theorem W.old (w : W x wd l Z EL R own code mx ret nm T h k n sf) : Ext Z.heap h := w.2.2.2.2.2.2.2.1
theorem W.size (w : W x wd l Z EL R own code mx ret nm T h k n sf) : Z.heap.size ≤ h.size := w.old.1
theorem W.sta {C f d : String} {v : Value} (w : W x wd l Z EL R own code mx ret nm T h k n sf) (F : Sta Z Z.heap C f d v) : Sta Z h C f d v := F.ext w.old
/-- more cells and slots may be booked -/
theorem W.more {k' n' : Nat} (w : W x wd l Z EL R own code mx ret nm T h k n sf) (hk : k ≤ k') (hn : n ≤ n') (hk' : k' ≤ R.cells) (hn' : n' ≤ R.slots) : W x wd l Z EL R own code mx ret nm T h k' n' sf := by
  obtain ⟨a1, a2, a3, a4, a5, a6, a7, a8, a9, a10, a13, a14, L, vm0, a11, a12, X, b1, b2, b3, b4⟩ := w
  exact ⟨a1, a2, a3, a4, a5, a6, a7, a8, hk', hn', a13, a14, L, vm0, a11, a12, X.mono hk hn, b1, b2, b3, b4⟩
/-- fewer places that may be written -/
theorem W.less {sf' : List Addr} (w : W x wd l Z EL R own code mx ret nm T h k n sf) (q : ∀ y ∈ sf', y ∈ sf) : W x wd l Z EL R own code mx ret nm T h k n sf' := by
  obtain ⟨a1, a2, a3, a4, a5, a6, a7, a8, a9, a10, a13, a14, L, vm0, a11, a12, X, b1, b2, b3, b4⟩ := w
  exact ⟨a1, a2, a3, a4, a5, a6, a7, a8, a9, a10, fun y hy => a13 y (q y hy), a14, L, vm0, a11, a12, X, b1, b2, b3, fun e => ⟨(b4 e).1, fun y hy => (b4 e).2 y (q y hy)⟩⟩
theorem W.go {pc' : Nat} {ls' : Array Slot} {st' : List Value} (w : W x wd l Z EL R own code mx ret nm T h k n sf)
    (f : At T x.m x.c x.below → x.p.tables.exec = Jvm.exec → x.c.code = code → ∀ target, Steps x.p.tables x.e x.below (T.setTop (mkF x.m pc' ls' st')) target → Steps x.p.tables x.e x.below (T.setTop (mkF x.m pc ls st)) target)
    (K : Go x wd Z EL R Q T pc' ls' st') : Go x wd Z EL R Q T pc ls st := by
  obtain ⟨s₂, o, a1, r⟩ := K
  obtain ⟨hx, hb, -, -, -, -, -, -, -, -, -, -, L, vm0, -, -, X, -⟩ := w
  exact ⟨s₂, o, f X.here hx hb _ a1, r⟩
/-- a step that only warms the tables -/
theorem W.goT {pc' : Nat} {ls' : Array Slot} {st' : List Value} (w : W x wd l Z EL R own code mx ret nm T h k n sf)
    (f : ∀ (s0 : State) (L : List Loc), Stand x.p l x.e R s0 x.m x.args x.below x.meth x.c T L k n → x.p.tables.exec = Jvm.exec → Z.Warmed39 s0.vm → s0.vm.findClass own = some x.m.cls → x.c.code = code → x.c.maxLocals = mx → T.heap = h → ∃ T', Stand x.p l x.e R s0 x.m x.args x.below x.meth x.c T' L k n ∧ T'.heap = h ∧ ∀ target, Steps x.p.tables x.e x.below (T'.setTop (mkF x.m pc' ls' st')) target → Steps x.p.tables x.e x.below (T.setTop (mkF x.m pc ls st)) target)
    (K : ∀ T', W x wd l Z EL R own code mx ret nm T' h k n sf → Go x wd Z EL R Q T' pc' ls' st') : Go x wd Z EL R Q T pc ls st := by
  obtain ⟨hx, hb, hm, hr, hn, hl, e0, E, c1, c2, hs, hEL, L, vm0, N, g, X, S, hZ, ho, hC⟩ := w
  obtain ⟨T', X', e', stp⟩ := f _ L X hx hZ ho hb hm e0
  obtain ⟨s₂, o, a1, r⟩ := K T' ⟨hx, hb, hm, hr, hn, hl, e', E, c1, c2, hs, hEL, L, vm0, N, g, X', S, hZ, ho, hC⟩
  exact ⟨s₂, o, stp _ a1, r⟩
/-- a step that makes a cell -/
theorem W.goN {pc' : Nat} {ls' : Array Slot} {st' : List Value} {k' n' : Nat} {P : Heap → Prop} (w : W x wd l Z EL R own code mx ret nm T h k n sf) (hk : k' ≤ R.cells) (hn' : n' ≤ R.slots)
    (f : ∀ (s0 : State) (L : List Loc), Stand x.p l x.e R s0 x.m x.args x.below x.meth x.c T L k n → x.p.tables.exec = Jvm.exec → Z.Warmed39 s0.vm → s0.vm.findClass own = some x.m.cls → x.c.code = code → x.c.maxLocals = mx → T.heap = h → ∃ T' h', Stand x.p l x.e R s0 x.m x.args x.below x.meth x.c T' L k' n' ∧ T'.heap = h' ∧ Ext h h' ∧ h.size < h'.size ∧ P h' ∧ ∀ target, Steps x.p.tables x.e x.below (T'.setTop (mkF x.m pc' ls' st')) target → Steps x.p.tables x.e x.below (T.setTop (mkF x.m pc ls st)) target)
    (K : ∀ T' h', W x wd l Z EL R own code mx ret nm T' h' k' n' (h.size :: sf) → Ext h h' → P h' → Go x wd Z EL R Q T' pc' ls' st') : Go x wd Z EL R Q T pc ls st := by
  obtain ⟨hx, hb, hm, hr, hn, hl, e0, E, c1, c2, hs, hEL, L, vm0, N, g, X, S, hZ, ho, hC⟩ := w
  obtain ⟨T', h', X', e', E', hlt, p', stp⟩ := f _ L X hx hZ ho hb hm e0
  obtain ⟨s₂, o, a1, r⟩ := K T' h' ⟨hx, hb, hm, hr, hn, hl, e', ext_trans E E', hk, hn', fun y hy => by
      rcases List.mem_cons.mp hy with rfl | hy
      · exact ⟨E.1, hlt⟩
      · exact ⟨(hs y hy).1, Nat.lt_of_lt_of_le (hs y hy).2 E'.1⟩, hEL, L, vm0, N, g, X', since_mono S E'.1, hZ, ho, fun q => ⟨(hC q).1.trans (CHr.ext E' (hC q).1.1), fun y hy => by
      rcases List.mem_cons.mp hy with rfl | hy
      · exact (Safe.new (Nat.le_refl _)).ext E' (hC q).1.1
      · exact ((hC q).2 y hy).ext E' (hC q).1.1⟩⟩ E' p'
  exact ⟨s₂, o, stp _ a1, r⟩
/-- a step that writes one place of a new cell -/
theorem W.goW {pc' : Nat} {ls' : Array Slot} {st' : List Value} {a : Addr} {sl : Nat} {v : Value} (w : W x wd l Z EL R own code mx ret nm T h k n sf) (ha : a ∈ sf)
    (f : ∀ (s0 : State) (L : List Loc), Stand x.p l x.e R s0 x.m x.args x.below x.meth x.c T L k n → x.p.tables.exec = Jvm.exec → Z.Warmed39 s0.vm → s0.vm.findClass own = some x.m.cls → x.c.code = code → x.meth.name = nm → T.heap = h → ∃ T' h', Stand x.p l x.e R s0 x.m x.args x.below x.meth x.c T' (L ++ [⟨a, sl⟩]) k n ∧ T'.heap = h' ∧ Wr h h' a sl v ∧ ∀ target, Steps x.p.tables x.e x.below (T'.setTop (mkF x.m pc' ls' st')) target → Steps x.p.tables x.e x.below (T.setTop (mkF x.m pc ls st)) target)
    (K : ∀ T' h', W x wd l Z EL R own code mx ret nm T' h' k n sf → Wr h h' a sl v → Go x wd Z EL R Q T' pc' ls' st') : Go x wd Z EL R Q T pc ls st := by
  obtain ⟨hx, hb, hm, hr, hn, hl, e0, E, c1, c2, hs, hEL, L, vm0, N, g, X, S, hZ, ho, hC⟩ := w
  obtain ⟨T', h', X', e', W', stp⟩ := f _ L X hx hZ ho hb hn e0
  have hz := W'.size
  obtain ⟨s₂, o, a1, r⟩ := K T' h' ⟨hx, hb, hm, hr, hn, hl, e', ext_wr E W' (hs a ha).1, c1, c2, fun y hy => ⟨(hs y hy).1, by rw [hz]; exact (hs y hy).2⟩, hEL, _, vm0, Fr.snoc X' N (hs a ha).1, g, X', since_mono S (Nat.le_of_eq hz.symm), hZ, ho, fun q => ⟨(hC q).1.trans (CHr.wr W' ((hC q).2 a ha) (hC q).1.1), fun y hy => Safe.wr W' ((hC q).2 a ha) (hC q).1.1 ((hC q).2 y hy)⟩⟩ W'
  exact ⟨s₂, o, stp _ a1, r⟩
/-- the end: the value v is handed back -/
theorem W.done {v : Option Value} (w : W x wd l Z EL R own code mx ret nm T h k n sf) (hv : ret = none → v = none) (hQ : Q v h)
    (f : ∀ (s0 : State) (L : List Loc), Stand x.p l x.e R s0 x.m x.args x.below x.meth x.c T L k n → x.p.tables.exec = Jvm.exec → x.c.code = code → x.meth.sig.returnType = ret → ∀ fs : List Frame, (∀ (f : JFrame) (acts : List Action), f.method = x.m → f.locked = none → f.entered = [] → (doReturn x.e (T.setTop f) acts v).1 = T.setFrames fs) → Steps x.p.tables x.e x.below (T.setTop (mkF x.m pc ls st)) (T.setFrames fs)) : Go x wd Z EL R Q T pc ls st := by
  obtain ⟨hx, hb, hm, hr, hn, hl, e0, E, c1, c2, hs, ⟨a9, hEL⟩, L, vm0, N, g, X, S, hZ, ho, hC⟩ := w
  have hv' : x.meth.sig.returnType = none → v = none := fun q => hv (hr ▸ q)
  have hh : ∀ fs, (T.setFrames fs).heap = h := fun fs => e0
  have hg : ∀ fs, x.s.heap.size ≤ (T.setFrames fs).heap.size := fun fs => X.same.2.1
  cases wd with
  | false =>
    have eq := g rfl
    subst eq
    obtain ⟨fs, h1, h2, h3, h4, h5⟩ := X.leave (v := v) hv' hl
    exact ⟨_, _, f _ L X hx hb hr fs h1, h2, h3, v, L, rfl, ⟨(hh fs).symm ▸ hQ, N, (hh fs).symm ▸ E, hg fs⟩, ⟨⟨v, rfl⟩, h4, h5.mono c1 c2⟩⟩
  | true =>
    obtain ⟨fs, h1, h2, h3, h4⟩ := X.leaveW S (by rw [e0]; exact Nat.le_refl _) (v := v) hv' hl
    have hC2 : CHr Z EL x.s.vm x.s.heap T.vm T.heap := by rw [e0]; exact (hC rfl).1.trans (CHv.at X hZ hEL (hC rfl).1.1)
    exact ⟨_, _, f _ L X hx hb hr fs h1, h2, h3, v, L, rfl, ⟨(hh fs).symm ▸ hQ, N, (hh fs).symm ▸ E, hg fs⟩, hC2, ⟨h4.1, h4.2.1, h4.2.2.1, h4.2.2.2.mono c1 c2⟩⟩

theorem W.aloadN (w : W x wd l Z EL R own code mx ret nm T h k n sf) {i : Fin 4} {v : Value} (hd : Dc code pc (.aload_n i) 1 pc') (hl : ls[i.val]? = some (.val v)) (hv : v.isRef = true) (K : Go x wd Z EL R Q T pc' ls (v :: st)) : Go x wd Z EL R Q T pc ls st := by
  obtain ⟨hd, rfl⟩ := hd
  exact w.go (fun A hx hb t hr => XS.aloadN A hx rfl (Jvm.hb hb hd) hl hv hr) K
theorem W.aload (w : W x wd l Z EL R own code mx ret nm T h k n sf) {i : Nat} {v : Value} (hd : Dc code pc (.aload i) 2 pc') (hl : ls[i]? = some (.val v)) (hv : v.isRef = true) (K : Go x wd Z EL R Q T pc' ls (v :: st)) : Go x wd Z EL R Q T pc ls st := by
  obtain ⟨hd, rfl⟩ := hd
  exact w.go (fun A hx hb t hr => XS.aload A hx rfl (Jvm.hb hb hd) hl hv hr) K
theorem W.iloadN (w : W x wd l Z EL R own code mx ret nm T h k n sf) {i : Fin 4} {v : Int32} (hd : Dc code pc (.iload_n i) 1 pc') (hl : ls[i.val]? = some (.val (.int v))) (K : Go x wd Z EL R Q T pc' ls (.int v :: st)) : Go x wd Z EL R Q T pc ls st := by
  obtain ⟨hd, rfl⟩ := hd
  exact w.go (fun A hx hb t hr => XS.iloadN A hx rfl (Jvm.hb hb hd) hl hr) K
theorem W.iload (w : W x wd l Z EL R own code mx ret nm T h k n sf) {i : Nat} {v : Int32} (hd : Dc code pc (.iload i) 2 pc') (hl : ls[i]? = some (.val (.int v))) (K : Go x wd Z EL R Q T pc' ls (.int v :: st)) : Go x wd Z EL R Q T pc ls st := by
  obtain ⟨hd, rfl⟩ := hd
  exact w.go (fun A hx hb t hr => XS.iload A hx rfl (Jvm.hb hb hd) hl hr) K
theorem W.lloadN (w : W x wd l Z EL R own code mx ret nm T h k n sf) {i : Fin 4} {v : Int64} (hd : Dc code pc (.lload_n i) 1 pc') (hl : ls[i.val]? = some (.val (.long v))) (K : Go x wd Z EL R Q T pc' ls (.long v :: st)) : Go x wd Z EL R Q T pc ls st := by
  obtain ⟨hd, rfl⟩ := hd
  exact w.go (fun A hx hb t hr => XT.lloadN A hx rfl (Jvm.hb hb hd) hl hr) K
theorem W.lload (w : W x wd l Z EL R own code mx ret nm T h k n sf) {i : Nat} {v : Int64} (hd : Dc code pc (.lload i) 2 pc') (hl : ls[i]? = some (.val (.long v))) (K : Go x wd Z EL R Q T pc' ls (.long v :: st)) : Go x wd Z EL R Q T pc ls st := by
  obtain ⟨hd, rfl⟩ := hd
  exact w.go (fun A hx hb t hr => XT.lload A hx rfl (Jvm.hb hb hd) hl hr) K
theorem W.iconst (w : W x wd l Z EL R own code mx ret nm T h k n sf) {i : Int} (v : Int32) (hd : Dc code pc (.iconst i) 1 pc') (hv : Int32.ofInt i = v) (K : Go x wd Z EL R Q T pc' ls (.int v :: st)) : Go x wd Z EL R Q T pc ls st := by
  obtain ⟨hd, rfl⟩ := hd
  exact w.go (fun A hx hb t hr => XT.iconstV A hx rfl v (Jvm.hb hb hd) hv hr) K
theorem W.bipush (w : W x wd l Z EL R own code mx ret nm T h k n sf) {i : Int} (v : Int32) (hd : Dc code pc (.bipush i) 2 pc') (hv : (Int8.ofInt i).toInt32 = v) (K : Go x wd Z EL R Q T pc' ls (.int v :: st)) : Go x wd Z EL R Q T pc ls st := by
  obtain ⟨hd, rfl⟩ := hd
  exact w.go (fun A hx hb t hr => XT.bipushV A hx rfl v (Jvm.hb hb hd) hv hr) K
theorem W.sipush (w : W x wd l Z EL R own code mx ret nm T h k n sf) {i : Int} (v : Int32) (hd : Dc code pc (.sipush i) 3 pc') (hv : (Int16.ofInt i).toInt32 = v) (K : Go x wd Z EL R Q T pc' ls (.int v :: st)) : Go x wd Z EL R Q T pc ls st := by
  obtain ⟨hd, rfl⟩ := hd
  exact w.go (fun A hx hb t hr => XT.sipushV A hx rfl v (Jvm.hb hb hd) hv hr) K
theorem W.lconst (w : W x wd l Z EL R own code mx ret nm T h k n sf) {i : Fin 2} (v : Int64) (hd : Dc code pc (.lconst i) 1 pc') (hv : Int64.ofNat i = v) (K : Go x wd Z EL R Q T pc' ls (.long v :: st)) : Go x wd Z EL R Q T pc ls st := by
  obtain ⟨hd, rfl⟩ := hd
  exact w.go (fun A hx hb t hr => XT.lconstV A hx rfl v (Jvm.hb hb hd) hv hr) K
theorem W.aconstNull (w : W x wd l Z EL R own code mx ret nm T h k n sf) (hd : Dc code pc .aconst_null 1 pc') (K : Go x wd Z EL R Q T pc' ls (.null :: st)) : Go x wd Z EL R Q T pc ls st := by
  obtain ⟨hd, rfl⟩ := hd
  exact w.go (fun A hx hb t hr => XS.aconstNull A hx rfl (Jvm.hb hb hd) hr) K
theorem W.iadd (w : W x wd l Z EL R own code mx ret nm T h k n sf) {a b : Int32} (hd : Dc code pc .iadd 1 pc') (K : Go x wd Z EL R Q T pc' ls (.int (a + b) :: st)) : Go x wd Z EL R Q T pc ls (.int b :: .int a :: st) := by
  obtain ⟨hd, rfl⟩ := hd
  exact w.go (fun A hx hb t hr => XS.iadd A hx rfl (Jvm.hb hb hd) rfl hr) K
theorem W.isub (w : W x wd l Z EL R own code mx ret nm T h k n sf) {a b : Int32} (hd : Dc code pc .isub 1 pc') (K : Go x wd Z EL R Q T pc' ls (.int (a - b) :: st)) : Go x wd Z EL R Q T pc ls (.int b :: .int a :: st) := by
  obtain ⟨hd, rfl⟩ := hd
  exact w.go (fun A hx hb t hr => XS.isub A hx rfl (Jvm.hb hb hd) rfl hr) K
theorem W.imul (w : W x wd l Z EL R own code mx ret nm T h k n sf) {a b : Int32} (hd : Dc code pc .imul 1 pc') (K : Go x wd Z EL R Q T pc' ls (.int (a * b) :: st)) : Go x wd Z EL R Q T pc ls (.int b :: .int a :: st) := by
  obtain ⟨hd, rfl⟩ := hd
  exact w.go (fun A hx hb t hr => XS.imul A hx rfl (Jvm.hb hb hd) rfl hr) K
theorem W.iand (w : W x wd l Z EL R own code mx ret nm T h k n sf) {a b : Int32} (hd : Dc code pc .iand 1 pc') (K : Go x wd Z EL R Q T pc' ls (.int (a &&& b) :: st)) : Go x wd Z EL R Q T pc ls (.int b :: .int a :: st) := by
  obtain ⟨hd, rfl⟩ := hd
  exact w.go (fun A hx hb t hr => XS.iand A hx rfl (Jvm.hb hb hd) rfl hr) K
theorem W.ior (w : W x wd l Z EL R own code mx ret nm T h k n sf) {a b : Int32} (hd : Dc code pc .ior 1 pc') (K : Go x wd Z EL R Q T pc' ls (.int (a ||| b) :: st)) : Go x wd Z EL R Q T pc ls (.int b :: .int a :: st) := by
  obtain ⟨hd, rfl⟩ := hd
  exact w.go (fun A hx hb t hr => XT.ior A hx rfl (Jvm.hb hb hd) rfl hr) K
theorem W.ixor (w : W x wd l Z EL R own code mx ret nm T h k n sf) {a b : Int32} (hd : Dc code pc .ixor 1 pc') (K : Go x wd Z EL R Q T pc' ls (.int (a ^^^ b) :: st)) : Go x wd Z EL R Q T pc ls (.int b :: .int a :: st) := by
  obtain ⟨hd, rfl⟩ := hd
  exact w.go (fun A hx hb t hr => XT.ixor A hx rfl (Jvm.hb hb hd) rfl hr) K
theorem W.iushr (w : W x wd l Z EL R own code mx ret nm T h k n sf) {a b : Int32} (hd : Dc code pc .iushr 1 pc') (K : Go x wd Z EL R Q T pc' ls (.int (XT.ushr a b) :: st)) : Go x wd Z EL R Q T pc ls (.int b :: .int a :: st) := by
  obtain ⟨hd, rfl⟩ := hd
  exact w.go (fun A hx hb t hr => XT.iushr A hx rfl (Jvm.hb hb hd) rfl hr) K
theorem W.ishl (w : W x wd l Z EL R own code mx ret nm T h k n sf) {a b : Int32} (hd : Dc code pc .ishl 1 pc') (K : Go x wd Z EL R Q T pc' ls (.int (a <<< (b &&& 31)) :: st)) : Go x wd Z EL R Q T pc ls (.int b :: .int a :: st) := by
  obtain ⟨hd, rfl⟩ := hd
  exact w.go (fun A hx hb t hr => XT.ishl A hx rfl (Jvm.hb hb hd) rfl hr) K
theorem W.ishr (w : W x wd l Z EL R own code mx ret nm T h k n sf) {a b : Int32} (hd : Dc code pc .ishr 1 pc') (K : Go x wd Z EL R Q T pc' ls (.int (a >>> (b &&& 31)) :: st)) : Go x wd Z EL R Q T pc ls (.int b :: .int a :: st) := by
  obtain ⟨hd, rfl⟩ := hd
  exact w.go (fun A hx hb t hr => XT.ishr A hx rfl (Jvm.hb hb hd) rfl hr) K
theorem W.irem (w : W x wd l Z EL R own code mx ret nm T h k n sf) {a b : Int32} (hd : Dc code pc .irem 1 pc') (hy : b ≠ 0) (K : Go x wd Z EL R Q T pc' ls (.int (a % b) :: st)) : Go x wd Z EL R Q T pc ls (.int b :: .int a :: st) := by
  obtain ⟨hd, rfl⟩ := hd
  have q : a - a / b * b = a % b := irem_eq_mod a b
  exact w.go (fun A hx hb t hr => XS.irem A hx rfl (Jvm.hb hb hd) rfl hy (by rw [q]; exact hr)) K
theorem W.idiv (w : W x wd l Z EL R own code mx ret nm T h k n sf) {a b : Int32} (hd : Dc code pc .idiv 1 pc') (hy : b ≠ 0) (K : Go x wd Z EL R Q T pc' ls (.int (a / b) :: st)) : Go x wd Z EL R Q T pc ls (.int b :: .int a :: st) := by
  obtain ⟨hd, rfl⟩ := hd
  exact w.go (fun A hx hb t hr => XS.idiv A hx rfl (Jvm.hb hb hd) rfl hy hr) K
theorem W.ineg (w : W x wd l Z EL R own code mx ret nm T h k n sf) {a : Int32} (hd : Dc code pc .ineg 1 pc') (K : Go x wd Z EL R Q T pc' ls (.int (-a) :: st)) : Go x wd Z EL R Q T pc ls (.int a :: st) := by
  obtain ⟨hd, rfl⟩ := hd
  exact w.go (fun A hx hb t hr => XS.ineg A hx rfl (Jvm.hb hb hd) rfl hr) K
theorem W.i2c (w : W x wd l Z EL R own code mx ret nm T h k n sf) {a : Int32} (hd : Dc code pc .i2c 1 pc') (K : Go x wd Z EL R Q T pc' ls (.int (nar .char a) :: st)) : Go x wd Z EL R Q T pc ls (.int a :: st) := by
  obtain ⟨hd, rfl⟩ := hd
  exact w.go (fun A hx hb t hr => XT.i2c A hx rfl (Jvm.hb hb hd) rfl hr) K
theorem W.i2b (w : W x wd l Z EL R own code mx ret nm T h k n sf) {a : Int32} (hd : Dc code pc .i2b 1 pc') (K : Go x wd Z EL R Q T pc' ls (.int (nar .byte a) :: st)) : Go x wd Z EL R Q T pc ls (.int a :: st) := by
  obtain ⟨hd, rfl⟩ := hd
  exact w.go (fun A hx hb t hr => XT.i2b A hx rfl (Jvm.hb hb hd) rfl hr) K
theorem W.i2l (w : W x wd l Z EL R own code mx ret nm T h k n sf) {a : Int32} (hd : Dc code pc .i2l 1 pc') (K : Go x wd Z EL R Q T pc' ls (.long a.toInt64 :: st)) : Go x wd Z EL R Q T pc ls (.int a :: st) := by
  obtain ⟨hd, rfl⟩ := hd
  exact w.go (fun A hx hb t hr => XT.i2l A hx rfl (Jvm.hb hb hd) rfl hr) K
theorem W.l2i (w : W x wd l Z EL R own code mx ret nm T h k n sf) {a : Int64} (hd : Dc code pc .l2i 1 pc') (K : Go x wd Z EL R Q T pc' ls (.int a.toInt32 :: st)) : Go x wd Z EL R Q T pc ls (.long a :: st) := by
  obtain ⟨hd, rfl⟩ := hd
  exact w.go (fun A hx hb t hr => XT.l2i A hx rfl (Jvm.hb hb hd) rfl hr) K
theorem W.ladd (w : W x wd l Z EL R own code mx ret nm T h k n sf) {a b : Int64} (hd : Dc code pc .ladd 1 pc') (K : Go x wd Z EL R Q T pc' ls (.long (a + b) :: st)) : Go x wd Z EL R Q T pc ls (.long b :: .long a :: st) := by
  obtain ⟨hd, rfl⟩ := hd
  exact w.go (fun A hx hb t hr => XT.ladd A hx rfl (Jvm.hb hb hd) rfl hr) K
theorem W.lsub (w : W x wd l Z EL R own code mx ret nm T h k n sf) {a b : Int64} (hd : Dc code pc .lsub 1 pc') (K : Go x wd Z EL R Q T pc' ls (.long (a - b) :: st)) : Go x wd Z EL R Q T pc ls (.long b :: .long a :: st) := by
  obtain ⟨hd, rfl⟩ := hd
  exact w.go (fun A hx hb t hr => XT.lsub A hx rfl (Jvm.hb hb hd) rfl hr) K
theorem W.lmul (w : W x wd l Z EL R own code mx ret nm T h k n sf) {a b : Int64} (hd : Dc code pc .lmul 1 pc') (K : Go x wd Z EL R Q T pc' ls (.long (a * b) :: st)) : Go x wd Z EL R Q T pc ls (.long b :: .long a :: st) := by
  obtain ⟨hd, rfl⟩ := hd
  exact w.go (fun A hx hb t hr => XT.lmul A hx rfl (Jvm.hb hb hd) rfl hr) K
theorem W.land (w : W x wd l Z EL R own code mx ret nm T h k n sf) {a b : Int64} (hd : Dc code pc .land 1 pc') (K : Go x wd Z EL R Q T pc' ls (.long (a &&& b) :: st)) : Go x wd Z EL R Q T pc ls (.long b :: .long a :: st) := by
  obtain ⟨hd, rfl⟩ := hd
  exact w.go (fun A hx hb t hr => XT.land A hx rfl (Jvm.hb hb hd) rfl hr) K
theorem W.lcmp (w : W x wd l Z EL R own code mx ret nm T h k n sf) {a b : Int64} (hd : Dc code pc .lcmp 1 pc') (K : Go x wd Z EL R Q T pc' ls (.int (XT.cmpL a b) :: st)) : Go x wd Z EL R Q T pc ls (.long b :: .long a :: st) := by
  obtain ⟨hd, rfl⟩ := hd
  exact w.go (fun A hx hb t hr => XT.lcmp A hx rfl (Jvm.hb hb hd) rfl hr) K
theorem W.dup (w : W x wd l Z EL R own code mx ret nm T h k n sf) {v : Value} (hd : Dc code pc .dup 1 pc') (hc : v.category = 1) (K : Go x wd Z EL R Q T pc' ls (v :: v :: st)) : Go x wd Z EL R Q T pc ls (v :: st) := by
  obtain ⟨hd, rfl⟩ := hd
  exact w.go (fun A hx hb t hr => XS.dup A hx rfl (Jvm.hb hb hd) rfl hc hr) K
theorem W.dupX1 (w : W x wd l Z EL R own code mx ret nm T h k n sf) {v u : Value} (hd : Dc code pc .dup_x1 1 pc') (hc : v.category = 1) (hc' : u.category = 1) (K : Go x wd Z EL R Q T pc' ls (v :: u :: v :: st)) : Go x wd Z EL R Q T pc ls (v :: u :: st) := by
  obtain ⟨hd, rfl⟩ := hd
  exact w.go (fun A hx hb t hr => XT.dupX1 A hx rfl (Jvm.hb hb hd) rfl hc hc' hr) K
theorem W.dup2 (w : W x wd l Z EL R own code mx ret nm T h k n sf) {v u : Value} (hd : Dc code pc .dup2 1 pc') (hc : v.category = 1) (hc' : u.category = 1) (K : Go x wd Z EL R Q T pc' ls (v :: u :: v :: u :: st)) : Go x wd Z EL R Q T pc ls (v :: u :: st) := by
  obtain ⟨hd, rfl⟩ := hd
  exact w.go (fun A hx hb t hr => XT.dup2 A hx rfl (Jvm.hb hb hd) rfl hc hc' hr) K
theorem W.pop (w : W x wd l Z EL R own code mx ret nm T h k n sf) {v : Value} (hd : Dc code pc .pop 1 pc') (hc : v.category = 1) (K : Go x wd Z EL R Q T pc' ls st) : Go x wd Z EL R Q T pc ls (v :: st) := by
  obtain ⟨hd, rfl⟩ := hd
  exact w.go (fun A hx hb t hr => XT.pop A hx rfl (Jvm.hb hb hd) rfl hc hr) K
theorem W.istoreN (w : W x wd l Z EL R own code mx ret nm T h k n sf) {i : Fin 4} {v : Int32} (ls' : Array Slot) (hd : Dc code pc (.istore_n i) 1 pc') (hl : storeLocals ls i.val (.int v) = some ls') (K : Go x wd Z EL R Q T pc' ls' st) : Go x wd Z EL R Q T pc ls (.int v :: st) := by
  obtain ⟨hd, rfl⟩ := hd
  exact w.go (fun A hx hb t hr => XS.istoreN A hx rfl (Jvm.hb hb hd) rfl hl hr) K
theorem W.istore (w : W x wd l Z EL R own code mx ret nm T h k n sf) {i : Nat} {v : Int32} (ls' : Array Slot) (hd : Dc code pc (.istore i) 2 pc') (hl : storeLocals ls i (.int v) = some ls') (K : Go x wd Z EL R Q T pc' ls' st) : Go x wd Z EL R Q T pc ls (.int v :: st) := by
  obtain ⟨hd, rfl⟩ := hd
  exact w.go (fun A hx hb t hr => XS.istore A hx rfl (Jvm.hb hb hd) rfl hl hr) K
theorem W.lstoreN (w : W x wd l Z EL R own code mx ret nm T h k n sf) {i : Fin 4} {v : Int64} (ls' : Array Slot) (hd : Dc code pc (.lstore_n i) 1 pc') (hl : storeLocals ls i.val (.long v) = some ls') (K : Go x wd Z EL R Q T pc' ls' st) : Go x wd Z EL R Q T pc ls (.long v :: st) := by
  obtain ⟨hd, rfl⟩ := hd
  exact w.go (fun A hx hb t hr => XT.lstoreN A hx rfl (Jvm.hb hb hd) rfl hl hr) K
theorem W.astoreN (w : W x wd l Z EL R own code mx ret nm T h k n sf) {i : Fin 4} {v : Value} (ls' : Array Slot) (hd : Dc code pc (.astore_n i) 1 pc') (hv : v.isRef = true) (hl : storeLocals ls i.val v = some ls') (K : Go x wd Z EL R Q T pc' ls' st) : Go x wd Z EL R Q T pc ls (v :: st) := by
  obtain ⟨hd, rfl⟩ := hd
  exact w.go (fun A hx hb t hr => XS.astoreN A hx rfl (Jvm.hb hb hd) rfl hv hl hr) K
theorem W.astore (w : W x wd l Z EL R own code mx ret nm T h k n sf) {i : Nat} {v : Value} (ls' : Array Slot) (hd : Dc code pc (.astore i) 2 pc') (hv : v.isRef = true) (hl : storeLocals ls i v = some ls') (K : Go x wd Z EL R Q T pc' ls' st) : Go x wd Z EL R Q T pc ls (v :: st) := by
  obtain ⟨hd, rfl⟩ := hd
  exact w.go (fun A hx hb t hr => XS.astore A hx rfl (Jvm.hb hb hd) rfl hv hl hr) K
theorem W.iinc (w : W x wd l Z EL R own code mx ret nm T h k n sf) {i : Nat} {c : Int} {a : Int32} (v : Int32) (ls' : Array Slot) (hd : Dc code pc (.iinc i c) 3 pc') (hv : Int32.ofInt c = v) (hl : ls[i]? = some (.val (.int a))) (hl' : storeLocals ls i (.int (a + v)) = some ls') (K : Go x wd Z EL R Q T pc' ls' st) : Go x wd Z EL R Q T pc ls st := by
  obtain ⟨hd, rfl⟩ := hd
  exact w.go (fun A hx hb t hr => XT.iincV A hx rfl v (Jvm.hb hb hd) hv hl hl' hr) K
theorem W.goto (w : W x wd l Z EL R own code mx ret nm T h k n sf) {o : Int} (hd : Dc code pc (.goto o) 3 pc') (ht : Tg pc o pcT) (K : Go x wd Z EL R Q T pcT ls st) : Go x wd Z EL R Q T pc ls st := by
  obtain ⟨hd, rfl⟩ := hd
  exact w.go (fun A hx hb t hr => XS.goto A hx rfl (pc0 := pc) (pc' := pcT) rfl (Jvm.hb hb hd) ht.1 ht.2 hr) K
theorem W.ifEq (w : W x wd l Z EL R own code mx ret nm T h k n sf) {a : Int32} {o : Int} (hd : Dc code pc (.ifCond .eq o) 3 pc') (ht : Tg pc o pcT) (K1 : a = 0 → Go x wd Z EL R Q T pcT ls st) (K2 : (¬ a = 0) → Go x wd Z EL R Q T pc' ls st) : Go x wd Z EL R Q T pc ls (.int a :: st) := by
  obtain ⟨hd, rfl⟩ := hd
  by_cases q : a = 0
  · exact w.go (fun A hx hb t hr => XS.ifYes A hx rfl (pc0 := pc) (pc' := pcT) rfl (Jvm.hb hb hd) rfl (XT.i0_eq_t q) ht.1 ht.2 hr) (K1 q)
  · exact w.go (fun A hx hb t hr => XS.ifNo A hx rfl (Jvm.hb hb hd) rfl (XT.i0_eq_f q) hr) (K2 q)
theorem W.ifNe (w : W x wd l Z EL R own code mx ret nm T h k n sf) {a : Int32} {o : Int} (hd : Dc code pc (.ifCond .ne o) 3 pc') (ht : Tg pc o pcT) (K1 : (¬ a = 0) → Go x wd Z EL R Q T pcT ls st) (K2 : (a = 0) → Go x wd Z EL R Q T pc' ls st) : Go x wd Z EL R Q T pc ls (.int a :: st) := by
  obtain ⟨hd, rfl⟩ := hd
  by_cases q : a = 0
  · exact w.go (fun A hx hb t hr => XS.ifNo A hx rfl (Jvm.hb hb hd) rfl (XT.i0_ne_f q) hr) (K2 q)
  · exact w.go (fun A hx hb t hr => XS.ifYes A hx rfl (pc0 := pc) (pc' := pcT) rfl (Jvm.hb hb hd) rfl (XT.i0_ne_t q) ht.1 ht.2 hr) (K1 q)
theorem W.ifLt (w : W x wd l Z EL R own code mx ret nm T h k n sf) {a : Int32} {o : Int} (hd : Dc code pc (.ifCond .lt o) 3 pc') (ht : Tg pc o pcT) (K1 : a < 0 → Go x wd Z EL R Q T pcT ls st) (K2 : (¬ a < 0) → Go x wd Z EL R Q T pc' ls st) : Go x wd Z EL R Q T pc ls (.int a :: st) := by
  obtain ⟨hd, rfl⟩ := hd
  by_cases q : a < 0
  · exact w.go (fun A hx hb t hr => XS.ifYes A hx rfl (pc0 := pc) (pc' := pcT) rfl (Jvm.hb hb hd) rfl (XT.i0_lt_t q) ht.1 ht.2 hr) (K1 q)
  · exact w.go (fun A hx hb t hr => XS.ifNo A hx rfl (Jvm.hb hb hd) rfl (XT.i0_lt_f q) hr) (K2 q)
theorem W.ifGe (w : W x wd l Z EL R own code mx ret nm T h k n sf) {a : Int32} {o : Int} (hd : Dc code pc (.ifCond .ge o) 3 pc') (ht : Tg pc o pcT) (K1 : (¬ a < 0) → Go x wd Z EL R Q T pcT ls st) (K2 : (a < 0) → Go x wd Z EL R Q T pc' ls st) : Go x wd Z EL R Q T pc ls (.int a :: st) := by
  obtain ⟨hd, rfl⟩ := hd
  by_cases q : a < 0
  · exact w.go (fun A hx hb t hr => XS.ifNo A hx rfl (Jvm.hb hb hd) rfl (XT.i0_ge_f q) hr) (K2 q)
  · exact w.go (fun A hx hb t hr => XS.ifYes A hx rfl (pc0 := pc) (pc' := pcT) rfl (Jvm.hb hb hd) rfl (XT.i0_ge_t q) ht.1 ht.2 hr) (K1 q)
theorem W.ifGt (w : W x wd l Z EL R own code mx ret nm T h k n sf) {a : Int32} {o : Int} (hd : Dc code pc (.ifCond .gt o) 3 pc') (ht : Tg pc o pcT) (K1 : 0 < a → Go x wd Z EL R Q T pcT ls st) (K2 : (¬ 0 < a) → Go x wd Z EL R Q T pc' ls st) : Go x wd Z EL R Q T pc ls (.int a :: st) := by
  obtain ⟨hd, rfl⟩ := hd
  by_cases q : 0 < a
  · exact w.go (fun A hx hb t hr => XS.ifYes A hx rfl (pc0 := pc) (pc' := pcT) rfl (Jvm.hb hb hd) rfl (XT.i0_gt_t q) ht.1 ht.2 hr) (K1 q)
  · exact w.go (fun A hx hb t hr => XS.ifNo A hx rfl (Jvm.hb hb hd) rfl (XT.i0_gt_f q) hr) (K2 q)
theorem W.ifLe (w : W x wd l Z EL R own code mx ret nm T h k n sf) {a : Int32} {o : Int} (hd : Dc code pc (.ifCond .le o) 3 pc') (ht : Tg pc o pcT) (K1 : (¬ 0 < a) → Go x wd Z EL R Q T pcT ls st) (K2 : (0 < a) → Go x wd Z EL R Q T pc' ls st) : Go x wd Z EL R Q T pc ls (.int a :: st) := by
  obtain ⟨hd, rfl⟩ := hd
  by_cases q : 0 < a
  · exact w.go (fun A hx hb t hr => XS.ifNo A hx rfl (Jvm.hb hb hd) rfl (XT.i0_le_f q) hr) (K2 q)
  · exact w.go (fun A hx hb t hr => XS.ifYes A hx rfl (pc0 := pc) (pc' := pcT) rfl (Jvm.hb hb hd) rfl (XT.i0_le_t q) ht.1 ht.2 hr) (K1 q)
theorem W.icmpEq (w : W x wd l Z EL R own code mx ret nm T h k n sf) {a b : Int32} {o : Int} (hd : Dc code pc (.if_icmp .eq o) 3 pc') (ht : Tg pc o pcT) (K1 : a = b → Go x wd Z EL R Q T pcT ls st) (K2 : (¬ a = b) → Go x wd Z EL R Q T pc' ls st) : Go x wd Z EL R Q T pc ls (.int b :: .int a :: st) := by
  obtain ⟨hd, rfl⟩ := hd
  by_cases q : a = b
  · exact w.go (fun A hx hb t hr => XS.icmpYes A hx rfl (pc0 := pc) (pc' := pcT) rfl (Jvm.hb hb hd) rfl (XT.ii_eq_t q) ht.1 ht.2 hr) (K1 q)
  · exact w.go (fun A hx hb t hr => XS.icmpNo A hx rfl (Jvm.hb hb hd) rfl (XT.ii_eq_f q) hr) (K2 q)
theorem W.icmpNe (w : W x wd l Z EL R own code mx ret nm T h k n sf) {a b : Int32} {o : Int} (hd : Dc code pc (.if_icmp .ne o) 3 pc') (ht : Tg pc o pcT) (K1 : (¬ a = b) → Go x wd Z EL R Q T pcT ls st) (K2 : (a = b) → Go x wd Z EL R Q T pc' ls st) : Go x wd Z EL R Q T pc ls (.int b :: .int a :: st) := by
  obtain ⟨hd, rfl⟩ := hd
  by_cases q : a = b
  · exact w.go (fun A hx hb t hr => XS.icmpNo A hx rfl (Jvm.hb hb hd) rfl (XT.ii_ne_f q) hr) (K2 q)
  · exact w.go (fun A hx hb t hr => XS.icmpYes A hx rfl (pc0 := pc) (pc' := pcT) rfl (Jvm.hb hb hd) rfl (XT.ii_ne_t q) ht.1 ht.2 hr) (K1 q)
theorem W.icmpLt (w : W x wd l Z EL R own code mx ret nm T h k n sf) {a b : Int32} {o : Int} (hd : Dc code pc (.if_icmp .lt o) 3 pc') (ht : Tg pc o pcT) (K1 : a < b → Go x wd Z EL R Q T pcT ls st) (K2 : (¬ a < b) → Go x wd Z EL R Q T pc' ls st) : Go x wd Z EL R Q T pc ls (.int b :: .int a :: st) := by
  obtain ⟨hd, rfl⟩ := hd
  by_cases q : a < b
  · exact w.go (fun A hx hb t hr => XS.icmpYes A hx rfl (pc0 := pc) (pc' := pcT) rfl (Jvm.hb hb hd) rfl (XT.ii_lt_t q) ht.1 ht.2 hr) (K1 q)
  · exact w.go (fun A hx hb t hr => XS.icmpNo A hx rfl (Jvm.hb hb hd) rfl (XT.ii_lt_f q) hr) (K2 q)
theorem W.icmpGe (w : W x wd l Z EL R own code mx ret nm T h k n sf) {a b : Int32} {o : Int} (hd : Dc code pc (.if_icmp .ge o) 3 pc') (ht : Tg pc o pcT) (K1 : (¬ a < b) → Go x wd Z EL R Q T pcT ls st) (K2 : (a < b) → Go x wd Z EL R Q T pc' ls st) : Go x wd Z EL R Q T pc ls (.int b :: .int a :: st) := by
  obtain ⟨hd, rfl⟩ := hd
  by_cases q : a < b
  · exact w.go (fun A hx hb t hr => XS.icmpNo A hx rfl (Jvm.hb hb hd) rfl (XT.ii_ge_f q) hr) (K2 q)
  · exact w.go (fun A hx hb t hr => XS.icmpYes A hx rfl (pc0 := pc) (pc' := pcT) rfl (Jvm.hb hb hd) rfl (XT.ii_ge_t q) ht.1 ht.2 hr) (K1 q)
theorem W.icmpGt (w : W x wd l Z EL R own code mx ret nm T h k n sf) {a b : Int32} {o : Int} (hd : Dc code pc (.if_icmp .gt o) 3 pc') (ht : Tg pc o pcT) (K1 : b < a → Go x wd Z EL R Q T pcT ls st) (K2 : (¬ b < a) → Go x wd Z EL R Q T pc' ls st) : Go x wd Z EL R Q T pc ls (.int b :: .int a :: st) := by
  obtain ⟨hd, rfl⟩ := hd
  by_cases q : b < a
  · exact w.go (fun A hx hb t hr => XS.icmpYes A hx rfl (pc0 := pc) (pc' := pcT) rfl (Jvm.hb hb hd) rfl (XT.ii_gt_t q) ht.1 ht.2 hr) (K1 q)
  · exact w.go (fun A hx hb t hr => XS.icmpNo A hx rfl (Jvm.hb hb hd) rfl (XT.ii_gt_f q) hr) (K2 q)
theorem W.icmpLe (w : W x wd l Z EL R own code mx ret nm T h k n sf) {a b : Int32} {o : Int} (hd : Dc code pc (.if_icmp .le o) 3 pc') (ht : Tg pc o pcT) (K1 : (¬ b < a) → Go x wd Z EL R Q T pcT ls st) (K2 : (b < a) → Go x wd Z EL R Q T pc' ls st) : Go x wd Z EL R Q T pc ls (.int b :: .int a :: st) := by
  obtain ⟨hd, rfl⟩ := hd
  by_cases q : b < a
  · exact w.go (fun A hx hb t hr => XS.icmpNo A hx rfl (Jvm.hb hb hd) rfl (XT.ii_le_f q) hr) (K2 q)
  · exact w.go (fun A hx hb t hr => XS.icmpYes A hx rfl (pc0 := pc) (pc' := pcT) rfl (Jvm.hb hb hd) rfl (XT.ii_le_t q) ht.1 ht.2 hr) (K1 q)
theorem W.acmpEq (w : W x wd l Z EL R own code mx ret nm T h k n sf) {a b : Value} {o : Int} (hd : Dc code pc (.if_acmp .eq o) 3 pc') (ht : Tg pc o pcT) (h1 : a.isRef = true) (h2 : b.isRef = true) (K1 : a = b → Go x wd Z EL R Q T pcT ls st) (K2 : (¬ a = b) → Go x wd Z EL R Q T pc' ls st) : Go x wd Z EL R Q T pc ls (b :: a :: st) := by
  obtain ⟨hd, rfl⟩ := hd
  by_cases q : a = b
  · exact w.go (fun A hx hb t hr => XT.acmpYes A hx rfl (pc0 := pc) (pc' := pcT) rfl (Jvm.hb hb hd) rfl h1 h2 (XT.aa_eq_t q) ht.1 ht.2 hr) (K1 q)
  · exact w.go (fun A hx hb t hr => XT.acmpNo A hx rfl (Jvm.hb hb hd) rfl h1 h2 (XT.aa_eq_f q) hr) (K2 q)
theorem W.acmpNe (w : W x wd l Z EL R own code mx ret nm T h k n sf) {a b : Value} {o : Int} (hd : Dc code pc (.if_acmp .ne o) 3 pc') (ht : Tg pc o pcT) (h1 : a.isRef = true) (h2 : b.isRef = true) (K1 : (¬ a = b) → Go x wd Z EL R Q T pcT ls st) (K2 : (a = b) → Go x wd Z EL R Q T pc' ls st) : Go x wd Z EL R Q T pc ls (b :: a :: st) := by
  obtain ⟨hd, rfl⟩ := hd
  by_cases q : a = b
  · exact w.go (fun A hx hb t hr => XT.acmpNo A hx rfl (Jvm.hb hb hd) rfl h1 h2 (XT.aa_ne_f q) hr) (K2 q)
  · exact w.go (fun A hx hb t hr => XT.acmpYes A hx rfl (pc0 := pc) (pc' := pcT) rfl (Jvm.hb hb hd) rfl h1 h2 (XT.aa_ne_t q) ht.1 ht.2 hr) (K1 q)
theorem W.racmpEq (w : W x wd l Z EL R own code mx ret nm T h k n sf) {a b : Addr} {o : Int} (hd : Dc code pc (.if_acmp .eq o) 3 pc') (ht : Tg pc o pcT) (K1 : a = b → Go x wd Z EL R Q T pcT ls st) (K2 : ¬ a = b → Go x wd Z EL R Q T pc' ls st) : Go x wd Z EL R Q T pc ls (.ref b :: .ref a :: st) := w.acmpEq hd ht rfl rfl (fun q => K1 (Value.ref.inj q)) (fun q => K2 fun e => q (congrArg _ e))
theorem W.racmpNe (w : W x wd l Z EL R own code mx ret nm T h k n sf) {a b : Addr} {o : Int} (hd : Dc code pc (.if_acmp .ne o) 3 pc') (ht : Tg pc o pcT) (K1 : ¬ a = b → Go x wd Z EL R Q T pcT ls st) (K2 : a = b → Go x wd Z EL R Q T pc' ls st) : Go x wd Z EL R Q T pc ls (.ref b :: .ref a :: st) := w.acmpNe hd ht rfl rfl (fun q => K1 fun e => q (congrArg _ e)) (fun q => K2 (Value.ref.inj q))
theorem W.nullT (w : W x wd l Z EL R own code mx ret nm T h k n sf) {o : Int} (hd : Dc code pc (.ifnull o) 3 pc') (ht : Tg pc o pcT) (K : Go x wd Z EL R Q T pcT ls st) : Go x wd Z EL R Q T pc ls (.null :: st) := by
  obtain ⟨hd, rfl⟩ := hd
  exact w.go (fun A hx hb t hr => XS.ifnullYes A hx rfl (pc0 := pc) (pc' := pcT) rfl (Jvm.hb hb hd) rfl ht.1 ht.2 hr) K
theorem W.nullF (w : W x wd l Z EL R own code mx ret nm T h k n sf) {o : Int} {a : Addr} (hd : Dc code pc (.ifnull o) 3 pc') (K : Go x wd Z EL R Q T pc' ls st) : Go x wd Z EL R Q T pc ls (.ref a :: st) := by
  obtain ⟨hd, rfl⟩ := hd
  exact w.go (fun A hx hb t hr => XS.ifnullNo A hx rfl (Jvm.hb hb hd) rfl hr) K
theorem W.nonnullT (w : W x wd l Z EL R own code mx ret nm T h k n sf) {o : Int} {a : Addr} (hd : Dc code pc (.ifnonnull o) 3 pc') (ht : Tg pc o pcT) (K : Go x wd Z EL R Q T pcT ls st) : Go x wd Z EL R Q T pc ls (.ref a :: st) := by
  obtain ⟨hd, rfl⟩ := hd
  exact w.go (fun A hx hb t hr => XT.ifnonnullYes A hx rfl (pc0 := pc) (pc' := pcT) rfl (Jvm.hb hb hd) rfl ht.1 ht.2 hr) K
theorem W.nonnullF (w : W x wd l Z EL R own code mx ret nm T h k n sf) {o : Int} (hd : Dc code pc (.ifnonnull o) 3 pc') (K : Go x wd Z EL R Q T pc' ls st) : Go x wd Z EL R Q T pc ls (.null :: st) := by
  obtain ⟨hd, rfl⟩ := hd
  exact w.go (fun A hx hb t hr => XT.ifnonnullNo A hx rfl (Jvm.hb hb hd) rfl hr) K
theorem W.ldcI (w : W x wd l Z EL R own code mx ret nm T h k n sf) {i : Nat} {v : Int32} (hd : Dc code pc (.ldc i) 2 pc') (wc : (Jvm.Cond.constant own i v).before a0 Z = true) (K : Go x wd Z EL R Q T pc' ls (.int v :: st)) : Go x wd Z EL R Q T pc ls st := by
  obtain ⟨hd, rfl⟩ := hd
  obtain ⟨hx, hb, hm, hr, hn, hl, e0, E, c1, c2, hs, hEL, L, vm0, N, g, X, S, hZ, ho, hC⟩ := w
  obtain ⟨s₂, o, a1, r⟩ := K
  exact ⟨s₂, o, X.ldcI hx ho (mv (s := x.s.setVm vm0) hZ wc) rfl (Jvm.hb hb hd) a1, r⟩
theorem W.ldcWI (w : W x wd l Z EL R own code mx ret nm T h k n sf) {i : Nat} {v : Int32} (hd : Dc code pc (.ldc_w i) 3 pc') (wc : (Jvm.Cond.constant own i v).before a0 Z = true) (K : Go x wd Z EL R Q T pc' ls (.int v :: st)) : Go x wd Z EL R Q T pc ls st := by
  obtain ⟨hd, rfl⟩ := hd
  obtain ⟨hx, hb, hm, hr, hn, hl, e0, E, c1, c2, hs, hEL, L, vm0, N, g, X, S, hZ, ho, hC⟩ := w
  obtain ⟨s₂, o, a1, r⟩ := K
  exact ⟨s₂, o, X.ldcWI hx ho (mv (s := x.s.setVm vm0) hZ wc) rfl (Jvm.hb hb hd) a1, r⟩
theorem W.getS (w : W x wd l Z EL R own code mx ret nm T h k n sf) {i : Nat} {O f d : String} {v : Value} (hd : Dc code pc (.getstatic i) 3 pc') (wl : (Jvm.Cond.fieldLink own i O f d).before a0 Z = true) (F : Sta Z Z.heap O f d v) (K : ∀ T', W x wd l Z EL R own code mx ret nm T' h k n sf → Go x wd Z EL R Q T' pc' ls (v :: st)) : Go x wd Z EL R Q T pc ls st := by
  obtain ⟨hd, rfl⟩ := hd
  exact w.goT (fun s0 L X hx hZ ho hb hm e0 => RoadKit.getS (host := "") X hx hZ ho wl Via.refl e0 (w.sta F) (g := mkF x.m pc ls st) rfl (Jvm.hb hb hd)) K
theorem W.getF (w : W x wd l Z EL R own code mx ret nm T h k n sf) {i : Nat} {a : Addr} {O f d : String} {v : Value} (hd : Dc code pc (.getfield i) 3 pc') (wl : (Jvm.Cond.fieldLink own i O f d).before a0 Z = true) (F : Fld Z h a O f d v) (K : ∀ T', W x wd l Z EL R own code mx ret nm T' h k n sf → Go x wd Z EL R Q T' pc' ls (v :: st)) : Go x wd Z EL R Q T pc ls (.ref a :: st) := by
  obtain ⟨hd, rfl⟩ := hd
  exact w.goT (fun s0 L X hx hZ ho hb hm e0 => RoadKit.getF (host := "") X hx hZ ho (Or.inl wl) Via.refl e0 F (g := mkF x.m pc ls (.ref a :: st)) rfl rfl (Jvm.hb hb hd)) K
theorem W.cast (w : W x wd l Z EL R own code mx ret nm T h k n sf) {i : Nat} {a : Addr} {C : String} (hd : Dc code pc (.checkcast i) 3 pc') (wl : (Jvm.Cond.classLink own i C).before a0 Z = true) (F : Ins Z h a C true) (K : ∀ T', W x wd l Z EL R own code mx ret nm T' h k n sf → Go x wd Z EL R Q T' pc' ls (.ref a :: st)) : Go x wd Z EL R Q T pc ls (.ref a :: st) := by
  obtain ⟨hd, rfl⟩ := hd
  exact w.goT (fun s0 L X hx hZ ho hb hm e0 => castY X hx hZ ho wl e0 F (g := mkF x.m pc ls (.ref a :: st)) rfl rfl (Jvm.hb hb hd)) K
theorem W.instY (w : W x wd l Z EL R own code mx ret nm T h k n sf) {i : Nat} {a : Addr} {C : String} (hd : Dc code pc (.instanceof i) 3 pc') (wl : (Jvm.Cond.classLink own i C).before a0 Z = true) (F : Ins Z h a C true) (K : ∀ T', W x wd l Z EL R own code mx ret nm T' h k n sf → Go x wd Z EL R Q T' pc' ls (.int 1 :: st)) : Go x wd Z EL R Q T pc ls (.ref a :: st) := by
  obtain ⟨hd, rfl⟩ := hd
  exact w.goT (fun s0 L X hx hZ ho hb hm e0 => RoadKit.instY X hx hZ ho wl e0 F (g := mkF x.m pc ls (.ref a :: st)) rfl rfl (Jvm.hb hb hd)) K
theorem W.initO (w : W x wd l Z EL R own code mx ret nm T h k n sf) {i : Nat} {a : Addr} (Wn : Nat) (hd : Dc code pc (.invokespecial i) 3 pc') (w1 : (Jvm.Cond.methodLink own i Lib.objectInit).before a0 Z = true) (w2 : (Jvm.Cond.instanceMethod Lib.objectInit).before a0 Z = true) (w3 : (Jvm.Cond.code Lib.objectInit ⟨#[0xb1]⟩ 1 none).before a0 Z = true) (hz : ls.size = mx) (hW : (st.map fun v => v.category).sum ≤ Wn) (hr : 1 ≤ R.frames ∧ Wn + 12 ≤ R.locals) (K : ∀ T', W x wd l Z EL R own code mx ret nm T' h k n sf → Go x wd Z EL R Q T' pc' ls st) : Go x wd Z EL R Q T pc ls (.ref a :: st) := by
  obtain ⟨hd, rfl⟩ := hd
  exact w.goT (fun s0 L X hx hZ ho hb hm e0 => RoadKit.initO X hx hZ ho w1 w2 w3 e0 (g := mkF x.m pc ls (.ref a :: st)) rfl (hz.trans hm.symm) rfl (Jvm.hb hb hd) hr.1 (W := Wn) (by show 2 * 0 + _ ≤ _; omega) hr.2) K
theorem W.alen (w : W x wd l Z EL R own code mx ret nm T h k n sf) {a : Addr} {cl : Cell} {ty : FieldType} (v : Int32) (hd : Dc code pc .arraylength 1 pc') (A : Arr Z h a cl ty) (hv : cl.slots.size.toInt32 = v) (K : Go x wd Z EL R Q T pc' ls (.int v :: st)) : Go x wd Z EL R Q T pc ls (.ref a :: st) := by
  obtain ⟨hd, rfl⟩ := hd
  subst hv
  obtain ⟨hx, hb, hm, hr, hn, hl, e0, E, c1, c2, hs, hEL, L, vm0, N, g, X, S, hZ, ho, hC⟩ := w
  obtain ⟨s₂, o, a1, r⟩ := K
  exact ⟨s₂, o, X.arraylength hx (by rw [e0]; exact A.1) (State.isArrayOf_alike (T := x.s.setVm vm0) hZ.alike A.2.1) (g := mkF x.m pc ls (.ref a :: st)) rfl rfl (Jvm.hb hb hd) _ a1, r⟩
theorem W.iaload (w : W x wd l Z EL R own code mx ret nm T h k n sf) {a : Addr} {cl : Cell} {j : Int32} {v : Value} (hd : Dc code pc .iaload 1 pc') (A : Arr Z h a cl .int) (hj : ¬ (j < 0 ∨ cl.slots.size ≤ j.toNatClampNeg)) (hv : cl.slots[j.toNatClampNeg]? = some v) (K : Go x wd Z EL R Q T pc' ls (v :: st)) : Go x wd Z EL R Q T pc ls (.int j :: .ref a :: st) := by
  obtain ⟨hd, rfl⟩ := hd
  obtain ⟨hx, hb, hm, hr, hn, hl, e0, E, c1, c2, hs, hEL, L, vm0, N, g, X, S, hZ, ho, hC⟩ := w
  obtain ⟨s₂, o, a1, r⟩ := K
  exact ⟨s₂, o, X.iaload hx (by rw [e0]; exact A.1) (State.isArrayOf_alike (T := x.s.setVm vm0) hZ.alike A.2.1) A.2.2 hj hv (g := mkF x.m pc ls (.int j :: .ref a :: st)) rfl rfl (Jvm.hb hb hd) _ a1, r⟩
theorem W.caload (w : W x wd l Z EL R own code mx ret nm T h k n sf) {a : Addr} {cl : Cell} {j : Int32} {v : Value} (hd : Dc code pc .caload 1 pc') (A : Arr Z h a cl .char) (hj : ¬ (j < 0 ∨ cl.slots.size ≤ j.toNatClampNeg)) (hv : cl.slots[j.toNatClampNeg]? = some v) (K : Go x wd Z EL R Q T pc' ls (v :: st)) : Go x wd Z EL R Q T pc ls (.int j :: .ref a :: st) := by
  obtain ⟨hd, rfl⟩ := hd
  obtain ⟨hx, hb, hm, hr, hn, hl, e0, E, c1, c2, hs, hEL, L, vm0, N, g, X, S, hZ, ho, hC⟩ := w
  obtain ⟨s₂, o, a1, r⟩ := K
  exact ⟨s₂, o, X.caload hx (by rw [e0]; exact A.1) (State.isArrayOf_alike (T := x.s.setVm vm0) hZ.alike A.2.1) A.2.2 hj hv (g := mkF x.m pc ls (.int j :: .ref a :: st)) rfl rfl (Jvm.hb hb hd) _ a1, r⟩
theorem W.baload (w : W x wd l Z EL R own code mx ret nm T h k n sf) {a : Addr} {cl : Cell} {j : Int32} {v : Value} (hd : Dc code pc .baload 1 pc') (A : Arr Z h a cl .byte) (hj : ¬ (j < 0 ∨ cl.slots.size ≤ j.toNatClampNeg)) (hv : cl.slots[j.toNatClampNeg]? = some v) (K : Go x wd Z EL R Q T pc' ls (v :: st)) : Go x wd Z EL R Q T pc ls (.int j :: .ref a :: st) := by
  obtain ⟨hd, rfl⟩ := hd
  obtain ⟨hx, hb, hm, hr, hn, hl, e0, E, c1, c2, hs, hEL, L, vm0, N, g, X, S, hZ, ho, hC⟩ := w
  obtain ⟨s₂, o, a1, r⟩ := K
  exact ⟨s₂, o, X.baloadBytes hx (by rw [e0]; exact A.1) (State.isArrayOf_alike (T := x.s.setVm vm0) hZ.alike A.2.1) A.2.2 hj hv (g := mkF x.m pc ls (.int j :: .ref a :: st)) rfl rfl (Jvm.hb hb hd) _ a1, r⟩
theorem W.laload (w : W x wd l Z EL R own code mx ret nm T h k n sf) {a : Addr} {cl : Cell} {j : Int32} {v : Value} (hd : Dc code pc .laload 1 pc') (A : Arr Z h a cl .long) (hj : ¬ (j < 0 ∨ cl.slots.size ≤ j.toNatClampNeg)) (hv : cl.slots[j.toNatClampNeg]? = some v) (K : Go x wd Z EL R Q T pc' ls (v :: st)) : Go x wd Z EL R Q T pc ls (.int j :: .ref a :: st) := by
  obtain ⟨hd, rfl⟩ := hd
  obtain ⟨hx, hb, hm, hr, hn, hl, e0, E, c1, c2, hs, hEL, L, vm0, N, g, X, S, hZ, ho, hC⟩ := w
  obtain ⟨s₂, o, a1, r⟩ := K
  exact ⟨s₂, o, X.laload hx (by rw [e0]; exact A.1) (State.isArrayOf_alike (T := x.s.setVm vm0) hZ.alike A.2.1) A.2.2 hj hv (g := mkF x.m pc ls (.int j :: .ref a :: st)) rfl rfl (Jvm.hb hb hd) _ a1, r⟩
theorem W.aaload (w : W x wd l Z EL R own code mx ret nm T h k n sf) {a : Addr} {cl : Cell} {j : Int32} {v : Value} {ty : FieldType} (hd : Dc code pc .aaload 1 pc') (A : Arr Z h a cl ty) (hty : ty.isReference = true) (hj : ¬ (j < 0 ∨ cl.slots.size ≤ j.toNatClampNeg)) (hv : cl.slots[j.toNatClampNeg]? = some v) (K : Go x wd Z EL R Q T pc' ls (v :: st)) : Go x wd Z EL R Q T pc ls (.int j :: .ref a :: st) := by
  obtain ⟨hd, rfl⟩ := hd
  obtain ⟨hx, hb, hm, hr, hn, hl, e0, E, c1, c2, hs, hEL, L, vm0, N, g, X, S, hZ, ho, hC⟩ := w
  obtain ⟨s₂, o, a1, r⟩ := K
  exact ⟨s₂, o, X.aaload hx (by rw [e0]; exact A.1) (State.isArrayOf_alike (T := x.s.setVm vm0) hZ.alike A.2.1) hty A.2.2 hj hv (g := mkF x.m pc ls (.int j :: .ref a :: st)) rfl rfl (Jvm.hb hb hd) _ a1, r⟩
theorem W.new (w : W x wd l Z EL R own code mx ret nm T h k n sf) {i nf : Nat} {C : String} (hd : Dc code pc (.new i) 3 pc') (w1 : (Jvm.Cond.classLink own i C).before a0 Z = true) (w2 : (Jvm.Cond.instantiable C nf).before a0 Z = true) (w3 : (Jvm.Cond.initialized C).before a0 Z = true) (hr : k + 1 ≤ R.cells ∧ n + nf ≤ R.slots) (K : ∀ (a : Addr) T' h', a = h.size → W x wd l Z EL R own code mx ret nm T' h' (k + 1) (n + nf) (a :: sf) → Ext h h' → Exa Z h' a C → (∀ {O f d : String} {ty : FieldType}, Laid Z a0 C O f d → parseFieldDescriptor d = some ty → Fld Z h' a O f d (defaultValue ty)) → Go x wd Z EL R Q T' (pc') ls (.ref a :: st)) : Go x wd Z EL R Q T pc ls st := by
  obtain ⟨hd, rfl⟩ := hd
  refine w.goN (P := fun h' => Exa Z h' h.size C ∧ (∀ {O f d : String} {ty : FieldType}, Laid Z a0 C O f d → parseFieldDescriptor d = some ty → Fld Z h' h.size O f d (defaultValue ty))) hr.1 hr.2 (fun s0 L X hx hZ ho hb hm e0 => ?_) (fun T' h' w' E P => K h.size T' h' rfl w' E P.1 P.2)
  obtain ⟨T', h', X', e', E', A, D, -, stp⟩ := newO X hx hZ ho w1 w2 w3 e0 (g := mkF x.m pc ls st) rfl (Jvm.hb hb hd) hr.1 hr.2
  exact ⟨T', h', X', e', E', A.lt, ⟨A, D⟩, stp⟩
theorem W.newP (w : W x wd l Z EL R own code mx ret nm T h k n sf) {aty : ArrayType} {z : Int32} (cap : Nat) (ad : String) (hd : Dc code pc (.newarray aty) 2 pc') (w1 : (Jvm.Cond.arrayClass (newarray.typeOf aty)).before a0 Z = true) (hz : ¬ z < 0) (hcap : z.toNatClampNeg ≤ cap) (hbig : cap * 8 ≤ 536870912) (had : "[" ++ (newarray.typeOf aty).toString = ad) (hr : k + 1 ≤ R.cells ∧ n + cap ≤ R.slots) (K : ∀ (a : Addr) T' h' kc, a = h.size → W x wd l Z EL R own code mx ret nm T' h' (k + 1) (n + cap) (a :: sf) → Ext h h' → Arv Z h' a kc (newarray.typeOf aty) z [] (defaultValue (newarray.typeOf aty)) → Exa Z h' a ad → Go x wd Z EL R Q T' (pc') ls (.ref a :: st)) : Go x wd Z EL R Q T pc ls (.int z :: st) := by
  obtain ⟨hd, rfl⟩ := hd
  refine w.goN (P := fun h' => ∃ kc, Arv Z h' h.size kc (newarray.typeOf aty) z [] (defaultValue (newarray.typeOf aty)) ∧ Exa Z h' h.size ad) hr.1 hr.2 (fun s0 L X hx hZ ho hb hm e0 => ?_) (fun T' h' w' E ⟨kc, P1, P2⟩ => K h.size T' h' kc rfl w' E P1 P2)
  obtain ⟨T', h', cA, X', e', E', A, EA, stp⟩ := newPE X hx hZ w1 e0 (g := mkF x.m pc ls (.int z :: st)) rfl (Jvm.hb hb hd) rfl hz hcap hbig hr.1 hr.2 had
  exact ⟨T', h', X', e', E', EA.lt, ⟨cA, Arv.new A hz, EA⟩, stp⟩
theorem W.newR (w : W x wd l Z EL R own code mx ret nm T h k n sf) {i : Nat} {C : String} {z : Int32} (cap : Nat) (ad : String) (hd : Dc code pc (.anewarray i) 3 pc') (w1 : (Jvm.Cond.classLink own i C).before a0 Z = true) (w2 : (Jvm.Cond.arrayOver (.object C)).before a0 Z = true) (hz : ¬ z < 0) (hcap : z.toNatClampNeg ≤ cap) (hbig : cap * 8 ≤ 536870912) (had : "[" ++ (FieldType.object C).toString = ad) (hr : k + 1 ≤ R.cells ∧ n + cap ≤ R.slots) (K : ∀ (a : Addr) T' h' kc, a = h.size → W x wd l Z EL R own code mx ret nm T' h' (k + 1) (n + cap) (a :: sf) → Ext h h' → Arv Z h' a kc (.object C) z [] .null → Exa Z h' a ad → Ovr Z kc C → Go x wd Z EL R Q T' (pc') ls (.ref a :: st)) : Go x wd Z EL R Q T pc ls (.int z :: st) := by
  obtain ⟨hd, rfl⟩ := hd
  refine w.goN (P := fun h' => ∃ kc, Arv Z h' h.size kc (.object C) z [] .null ∧ Exa Z h' h.size ad ∧ Ovr Z kc C) hr.1 hr.2 (fun s0 L X hx hZ ho hb hm e0 => ?_) (fun T' h' w' E ⟨kc, P1, P2, P3⟩ => K h.size T' h' kc rfl w' E P1 P2 P3)
  obtain ⟨T', h', cA, X', e', E', A, EA, O, stp⟩ := newRE X hx hZ ho w1 w2 e0 (g := mkF x.m pc ls (.int z :: st)) rfl (Jvm.hb hb hd) rfl hz hcap hbig hr.1 hr.2 had
  exact ⟨T', h', X', e', E', EA.lt, ⟨cA, Arv.new A hz, EA, O⟩, stp⟩
theorem W.clone (w : W x wd l Z EL R own code mx ret nm T h k n sf) {i : Nat} {a : Addr} {ad : String} {kc : ClassId} {ty : FieldType} {z : Int32} {vs : List Value} {dv : Value} (Wn cap : Nat) (hd : Dc code pc (.invokevirtual i) 3 pc') (w1 : (Jvm.Cond.methodLink own i ⟨ad, "clone", "()Ljava/lang/Object;"⟩).before a0 Z = true) (w2 : (Jvm.Cond.sameMethod ad "java/lang/Object" "clone" "()Ljava/lang/Object;").before a0 Z = true) (w3 : (Jvm.Cond.native ⟨"java/lang/Object", "clone", "()Ljava/lang/Object;"⟩).before a0 Z = true) (w4 : (Jvm.Cond.instanceMethod ⟨"java/lang/Object", "clone", "()Ljava/lang/Object;"⟩).before a0 Z = true) (w5 : (Jvm.Cond.selects ad ⟨ad, "clone", "()Ljava/lang/Object;"⟩ ⟨"java/lang/Object", "clone", "()Ljava/lang/Object;"⟩).before a0 Z = true) (w6 : (Jvm.Cond.castable ad "java/lang/Cloneable").before a0 Z = true) (A : Arv Z h a kc ty z vs dv) (E : Exa Z h a ad) (hz : ls.size = mx) (hW : (st.map fun v => v.category).sum ≤ Wn) (hcap : z.toNatClampNeg ≤ cap) (hr : 1 ≤ R.frames ∧ Wn + 14 ≤ R.locals ∧ k + 1 ≤ R.cells ∧ n + cap ≤ R.slots) (K : ∀ (b : Addr) T' h', b = h.size → W x wd l Z EL R own code mx ret nm T' h' (k + 1) (n + cap) (b :: sf) → Ext h h' → Arv Z h' b kc ty z vs dv → Exa Z h' b ad → Go x wd Z EL R Q T' (pc') ls (.ref b :: st)) : Go x wd Z EL R Q T pc ls (.ref a :: st) := by
  obtain ⟨hd, rfl⟩ := hd
  refine w.goN (P := fun h' => Arv Z h' h.size kc ty z vs dv ∧ Exa Z h' h.size ad) hr.2.2.1 hr.2.2.2 (fun s0 L X hx hZ ho hb hm e0 => ?_) (fun T' h' w' E P => K h.size T' h' rfl w' E P.1 P.2)
  obtain ⟨T', h', X', e', E', A', EA, stp⟩ := cloneH X hx hZ ho w1 w2 w3 w4 w5 w6 e0 A.arh E (g := mkF x.m pc ls (.ref a :: st)) rfl (hz.trans hm.symm) rfl (Jvm.hb hb hd) hr.1 (W := Wn) (by show 2 * 0 + _ ≤ _; omega) hr.2.1 hcap hr.2.2.1 hr.2.2.2
  exact ⟨T', h', X', e', E', EA.lt, ⟨A', EA⟩, stp⟩
theorem W.putF (w : W x wd l Z EL R own code mx ret nm T h k n sf) {i kk : Nat} {a : Addr} {O f d C : String} {v old : Value} {ty : FieldType} (hd : Dc code pc (.putfield i) 3 pc') (wl : (Jvm.Cond.fieldLink own i O f d).before a0 Z = true) (F : Fld Z h a O f d old) (E : Exa Z h a C) (La : (Jvm.Cond.lays C O f d).before a0 Z = true ∨ ((Jvm.Cond.laysFinal C O f d).before a0 Z = true ∧ own = O ∧ nm = "<init>")) (wi : (Jvm.Cond.instantiable C kk).before a0 Z = true) (hty : parseFieldDescriptor d = some ty) (hn : narrow ty v = v) (hf : fits ty v = true) (ha : a ∈ sf) (K : ∀ T' h', W x wd l Z EL R own code mx ret nm T' h' k n sf → Wr h h' a (Jvm.RoadKit.slotOf Z O f d) v → Go x wd Z EL R Q T' pc' ls st) : Go x wd Z EL R Q T pc ls (v :: .ref a :: st) := by
  obtain ⟨hd, rfl⟩ := hd
  exact w.goW ha (fun s0 L X hx hZ ho hb hnm e0 => RoadKit.putF X hx hZ ho (host := "") (Or.inl wl) Via.refl e0 F E (La.imp id fun q => ⟨q.1, q.2.1, hnm.trans q.2.2⟩) wi hty hn hf (g := mkF x.m pc ls (v :: .ref a :: st)) rfl rfl (Jvm.hb hb hd)) K
theorem W.stC (w : W x wd l Z EL R own code mx ret nm T h k n sf) {a : Addr} {kc : ClassId} {z j v : Int32} {vs : List Value} {dv : Value} (q : Nat) (vs' : List Value) (hd : Dc code pc .castore 1 pc') (A : Arv Z h a kc .char z vs dv) (hj : j.toNatClampNeg = q ∧ ¬ j < 0) (hz : q < z.toNatClampNeg) (hp : ∀ i, vs'.getD i dv = vs.getD i dv) (hq : q < vs'.length) (hf : fits .char (.int (nar .char v)) = true) (ha : a ∈ sf) (K : ∀ T' h', W x wd l Z EL R own code mx ret nm T' h' k n sf → Wr h h' a q (.int (nar .char v)) → Arv Z h' a kc .char z (vs'.set q (.int (nar .char v))) dv → Go x wd Z EL R Q T' pc' ls st) : Go x wd Z EL R Q T pc ls (.int v :: .int j :: .ref a :: st) := by
  obtain ⟨hd, rfl⟩ := hd
  obtain ⟨hj, h0⟩ := hj
  subst hj
  obtain ⟨cl, Ar, r1, S, r3, H, G⟩ := A.pad hp
  have hin : ¬ (j < 0 ∨ cl.slots.size ≤ j.toNatClampNeg) := by rw [S]; exact fun u => u.elim h0 fun u => absurd hz (Nat.not_lt.mpr u)
  refine w.goW ha (fun s0 L X hx hZ ho hb hnm e0 => RoadKit.stC X hx hZ e0 Ar hin (g := mkF x.m pc ls (.int v :: .int j :: .ref a :: st)) rfl rfl (Jvm.hb hb hd)) (fun T' h' w' Wr' => K T' h' w' Wr' (Arv.set Ar r1 S r3 H G hf Wr' _ rfl hq))
theorem W.stB (w : W x wd l Z EL R own code mx ret nm T h k n sf) {a : Addr} {kc : ClassId} {z j v : Int32} {vs : List Value} {dv : Value} (q : Nat) (vs' : List Value) (hd : Dc code pc .bastore 1 pc') (A : Arv Z h a kc .byte z vs dv) (hj : j.toNatClampNeg = q ∧ ¬ j < 0) (hz : q < z.toNatClampNeg) (hp : ∀ i, vs'.getD i dv = vs.getD i dv) (hq : q < vs'.length) (hf : fits .byte (.int (nar .byte v)) = true) (ha : a ∈ sf) (K : ∀ T' h', W x wd l Z EL R own code mx ret nm T' h' k n sf → Wr h h' a q (.int (nar .byte v)) → Arv Z h' a kc .byte z (vs'.set q (.int (nar .byte v))) dv → Go x wd Z EL R Q T' pc' ls st) : Go x wd Z EL R Q T pc ls (.int v :: .int j :: .ref a :: st) := by
  obtain ⟨hd, rfl⟩ := hd
  obtain ⟨hj, h0⟩ := hj
  subst hj
  obtain ⟨cl, Ar, r1, S, r3, H, G⟩ := A.pad hp
  have hin : ¬ (j < 0 ∨ cl.slots.size ≤ j.toNatClampNeg) := by rw [S]; exact fun u => u.elim h0 fun u => absurd hz (Nat.not_lt.mpr u)
  refine w.goW ha (fun s0 L X hx hZ ho hb hnm e0 => RoadKit.stB X hx hZ e0 Ar hin (g := mkF x.m pc ls (.int v :: .int j :: .ref a :: st)) rfl rfl (Jvm.hb hb hd)) (fun T' h' w' Wr' => K T' h' w' Wr' (Arv.set Ar r1 S r3 H G hf Wr' _ rfl hq))
theorem W.stI (w : W x wd l Z EL R own code mx ret nm T h k n sf) {a : Addr} {kc : ClassId} {z j v : Int32} {vs : List Value} {dv : Value} (q : Nat) (vs' : List Value) (hd : Dc code pc .iastore 1 pc') (A : Arv Z h a kc .int z vs dv) (hj : j.toNatClampNeg = q ∧ ¬ j < 0) (hz : q < z.toNatClampNeg) (hp : ∀ i, vs'.getD i dv = vs.getD i dv) (hq : q < vs'.length) (hf : fits .int (.int v) = true) (ha : a ∈ sf) (K : ∀ T' h', W x wd l Z EL R own code mx ret nm T' h' k n sf → Wr h h' a q (.int v) → Arv Z h' a kc .int z (vs'.set q (.int v)) dv → Go x wd Z EL R Q T' pc' ls st) : Go x wd Z EL R Q T pc ls (.int v :: .int j :: .ref a :: st) := by
  obtain ⟨hd, rfl⟩ := hd
  obtain ⟨hj, h0⟩ := hj
  subst hj
  obtain ⟨cl, Ar, r1, S, r3, H, G⟩ := A.pad hp
  have hin : ¬ (j < 0 ∨ cl.slots.size ≤ j.toNatClampNeg) := by rw [S]; exact fun u => u.elim h0 fun u => absurd hz (Nat.not_lt.mpr u)
  refine w.goW ha (fun s0 L X hx hZ ho hb hnm e0 => RoadKit.stI X hx hZ e0 Ar hin (g := mkF x.m pc ls (.int v :: .int j :: .ref a :: st)) rfl rfl (Jvm.hb hb hd)) (fun T' h' w' Wr' => K T' h' w' Wr' (Arv.set Ar r1 S r3 H G hf Wr' _ rfl hq))
theorem W.stR (w : W x wd l Z EL R own code mx ret nm T h k n sf) {a b : Addr} {kc : ClassId} {z j : Int32} {C : String} {vs : List Value} (q : Nat) (vs' : List Value) (hd : Dc code pc .aastore 1 pc') (A : Arv Z h a kc (.object C) z vs .null) (O : Ovr Z kc C) (I : Ins Z h b C true) (hj : j.toNatClampNeg = q ∧ ¬ j < 0) (hz : q < z.toNatClampNeg) (hp : ∀ i, vs'.getD i .null = vs.getD i .null) (hq : q < vs'.length) (ha : a ∈ sf) (K : ∀ T' h', W x wd l Z EL R own code mx ret nm T' h' k n sf → Wr h h' a q (.ref b) → Arv Z h' a kc (.object C) z (vs'.set q (.ref b)) .null → Go x wd Z EL R Q T' pc' ls st) : Go x wd Z EL R Q T pc ls (.ref b :: .int j :: .ref a :: st) := by
  obtain ⟨hd, rfl⟩ := hd
  obtain ⟨hj, h0⟩ := hj
  subst hj
  obtain ⟨cl, Ar, r1, S, r3, H, G⟩ := A.pad hp
  have hin : ¬ (j < 0 ∨ cl.slots.size ≤ j.toNatClampNeg) := by rw [S]; exact fun u => u.elim h0 fun u => absurd hz (Nat.not_lt.mpr u)
  refine w.goW ha (fun s0 L X hx hZ ho hb hnm e0 => RoadKit.stR X hx hZ e0 Ar hin rfl (Sto.ofV Ar r1 O I) (g := mkF x.m pc ls (.ref b :: .int j :: .ref a :: st)) rfl rfl (Jvm.hb hb hd)) (fun T' h' w' Wr' => K T' h' w' Wr' (Arv.set Ar r1 S r3 H G rfl Wr' _ rfl hq))
theorem W.retN (w : W x wd l Z EL R own code mx ret nm T h k n sf) {t : FieldType} {v : Int32} (hd : Dc code pc .ireturn 1 pc') (hr : ret = some t) (ht : t = .boolean ∨ t = .byte ∨ t = .char ∨ t = .short) (hQ : Q (some (.int (nar t v))) h) : Go x wd Z EL R Q T pc ls (.int v :: st) := by
  obtain ⟨hd, rfl⟩ := hd
  exact w.done (v := some (.int (nar t v))) (fun q => by rw [hr] at q; cases q) hQ fun s0 L X hx hb hret fs hl => RoadKit.retN X hx (hret.trans hr) ht (Jvm.hb hb hd) hl
theorem W.retI (w : W x wd l Z EL R own code mx ret nm T h k n sf) {v : Int32} (hd : Dc code pc .ireturn 1 pc') (hr : ret = some .int) (hQ : Q (some (.int v)) h) : Go x wd Z EL R Q T pc ls (.int v :: st) := by
  obtain ⟨hd, rfl⟩ := hd
  exact w.done (v := some (.int v)) (fun q => by rw [hr] at q; cases q) hQ fun s0 L X hx hb hret fs hl => retOut X hx (hret.trans hr) rfl (Or.inl ⟨rfl, Or.inl rfl, v, rfl⟩) (Jvm.hb hb hd) hl
theorem W.retA (w : W x wd l Z EL R own code mx ret nm T h k n sf) {t : FieldType} {v : Value} (hd : Dc code pc .areturn 1 pc') (hr : ret = some t) (ht : t.isReference = true) (hn : narrow t v = v) (hv : v.isRef = true) (hQ : Q (some v) h) : Go x wd Z EL R Q T pc ls (v :: st) := by
  obtain ⟨hd, rfl⟩ := hd
  exact w.done (v := some v) (fun q => by rw [hr] at q; cases q) hQ fun s0 L X hx hb hret fs hl => retOut X hx (hret.trans hr) hn (Or.inr (Or.inr (Or.inr (Or.inr ⟨rfl, ht, hv⟩)))) (Jvm.hb hb hd) hl
theorem W.retV (w : W x wd l Z EL R own code mx ret nm T h k n sf) (hd : Dc code pc .return_ 1 pc') (hr : ret = none) (hQ : Q none h) : Go x wd Z EL R Q T pc ls [] := by
  obtain ⟨hd, rfl⟩ := hd
  exact w.done (v := none) (fun _ => rfl) hQ fun s0 L X hx hb hret fs hl => X.returnOut hx (hret.trans hr) (Jvm.hb hb hd) hl
theorem W.callS (w : W x wd l Z EL R own code mx ret nm T h k n sf) {y : MethodName} {bytes : ByteArray} {maxL : Nat} {rt : Option FieldType} {rm : Room} {sf0 : List Addr} {Q' : Option Value → Heap → Prop} {i : Nat} {argsL rest : List Value}  (Wn : Nat) (hd : Dc code pc (.invokestatic i) 3 pc') (w1 : (Jvm.Cond.methodLink own i y).before a0 Z = true) (w2 : (Jvm.Cond.static y).before a0 Z = true) (w3 : (Jvm.Cond.initialized y.cls).before a0 Z = true) (w4 : (Jvm.Cond.code y bytes maxL rt).before a0 Z = true) (hy : y.cls ≠ "java/lang/invoke/MethodHandle" ∧ y.cls ≠ "java/lang/invoke/VarHandle") (C : Ct wd l Z EL y bytes maxL rt [] rm sf0 argsL.toArray h Q') (hlen : ∀ sig, parseMethodDescriptor y.desc = some sig → argsL.length = sig.parameters.length) (hz : ls.size = mx) (hst : st = argsL.reverse ++ rest) (hW : (rest.map fun v => v.category).sum ≤ Wn) (hr : rm.frames + 1 ≤ R.frames ∧ Wn + (maxL + 11) + rm.locals ≤ R.locals ∧ k + rm.cells ≤ R.cells ∧ n + rm.slots ≤ R.slots) (hsub : ∀ y ∈ sf0, y ∈ sf) (K : ∀ T' h' v, W x wd l Z EL R own code mx ret nm T' h' (k + rm.cells) (n + rm.slots) sf → h.size ≤ h'.size → Q' v h' → Go x wd Z EL R Q T' pc' ls (v.toList ++ rest)) : Go x wd Z EL R Q T pc ls st := by
  obtain ⟨hd, rfl⟩ := hd
  subst hst
  obtain ⟨hx, hb, hm, hret, hn, hl, e0, E, c1, c2, hs, hEL, L, vm0, N, g, X, S, hZ, ho, hC⟩ := w
  have hWW : 2 * (mkF x.m pc ls (argsL.reverse ++ rest)).monitorRoom + (rest.map fun v => v.category).sum ≤ Wn := by show 2 * 0 + _ ≤ _; omega
  cases wd with
  | false =>
    have eq := g rfl
    subst eq
    obtain ⟨v, _, ⟨T1, L1, k1, n1⟩, -, X1, ⟨Lc, hQ, l1, y1, z1⟩, stp⟩ := Jvm.LawKit.callS X hx (y := y) ho (mvT hZ w1) (mvT hZ w2) (mvT hZ w3) (mvT hZ w4) hy (backN (Wn := Wn) C hZ w4 w3 hr.1 hr.2.1) (g := mkF x.m pc ls (argsL.reverse ++ rest)) rfl (hz.trans hm.symm) (argsL := argsL) (rest := rest) hlen rfl hWW (Jvm.hb hb hd) (fun _ _ => ⟨rfl, e0, hr.2.2.1, hr.2.2.2⟩)
    dsimp only [Pt.U, Pt.locs, Pt.cells, Pt.slots] at X1 l1 y1 z1 stp hQ
    subst l1 y1 z1
    obtain ⟨s₂, o, a1, r⟩ := K T1 T1.heap v ⟨hx, hb, hm, hret, hn, hl, rfl, hQ.2.2.1, hr.2.2.1, hr.2.2.2, fun y hy => ⟨(hs y hy).1, Nat.lt_of_lt_of_le (hs y hy).2 hQ.2.2.2⟩, hEL, _, _, Fr.app N hQ.2.1, fun _ => rfl, X1, (State.WarmedH.refl x.s).since _, hZ, ho, fun q => by cases q⟩ hQ.2.2.2 hQ.1
    exact ⟨s₂, o, stp _ a1, r⟩
  | true =>
    obtain ⟨v, _, ⟨T1, L1, k1, n1⟩, -, X1, hS1, hgr, ⟨Lc, hQ, l1, y1, z1, hCr⟩, stp⟩ := callSS X hx (y := y) ho (mvT (s := x.s.setVm vm0) hZ w1) (mvT (s := x.s.setVm vm0) hZ w2) (mvT (s := x.s.setVm vm0) hZ w3) (mvT (s := x.s.setVm vm0) hZ w4) hy (backW (s := x.s) (Wn := Wn) C hZ w4 w3 hr.1 hr.2.1 hEL (hC rfl).1.1 (fun y hy => ⟨(hs y (hsub y hy)).2, (hC rfl).2 y (hsub y hy)⟩)) (g := mkF x.m pc ls (argsL.reverse ++ rest)) rfl (hz.trans hm.symm) (argsL := argsL) (rest := rest) hlen rfl hWW (Jvm.hb hb hd) (fun _ _ => ⟨rfl, e0, hr.2.2.1, hr.2.2.2⟩)
    dsimp only [Pt.U, Pt.locs, Pt.cells, Pt.slots] at X1 l1 y1 z1 stp hQ hS1 hgr hCr
    subst l1 y1 z1
    rw [e0] at hgr
    obtain ⟨Xr, Sr, Zr, Or⟩ := rebS (s := x.s) (vm0 := vm0) S hgr X1 hS1 (Nat.le_refl _) hZ ho
    obtain ⟨s₂, o, a1, r⟩ := K T1 T1.heap v ⟨hx, hb, hm, hret, hn, hl, rfl, hQ.2.2.1, hr.2.2.1, hr.2.2.2, fun y hy => ⟨(hs y hy).1, Nat.lt_of_lt_of_le (hs y hy).2 hgr⟩, hEL, _, _, Fr.app N hQ.2.1, (fun q => by cases q), Xr, Sr, Zr, Or, fun _ => ⟨(hC rfl).1.trans hCr, fun y hy => hCr.safe (hs y hy).2 ((hC rfl).2 y hy)⟩⟩ hgr hQ.1
    exact ⟨s₂, o, stp.trans a1, r⟩
theorem W.callI (w : W x wd l Z EL R own code mx ret nm T h k n sf) {y : MethodName} {bytes : ByteArray} {maxL : Nat} {rm : Room} {sf0 : List Addr} {Q' : Option Value → Heap → Prop} {i : Nat} {argsL rest : List Value} {a : Addr} (Wn : Nat) (hd : Dc code pc (.invokespecial i) 3 pc') (hy1 : y.name = "<init>") (w1 : (Jvm.Cond.methodLink own i y).before a0 Z = true) (w2 : (Jvm.Cond.instanceMethod y).before a0 Z = true) (w3 : (Jvm.Cond.initialized y.cls).before a0 Z = true) (w4 : (Jvm.Cond.code y bytes maxL none).before a0 Z = true) (hy : y.cls ≠ "java/lang/invoke/MethodHandle" ∧ y.cls ≠ "java/lang/invoke/VarHandle") (C : Ct wd l Z EL y bytes maxL none [] rm sf0 (.ref a :: argsL).toArray h Q') (hlen : ∀ sig, parseMethodDescriptor y.desc = some sig → argsL.length = sig.parameters.length) (hz : ls.size = mx) (hst : st = argsL.reverse ++ .ref a :: rest) (hW : (rest.map fun v => v.category).sum ≤ Wn) (hr : rm.frames + 1 ≤ R.frames ∧ Wn + (maxL + 11) + rm.locals ≤ R.locals ∧ k + rm.cells ≤ R.cells ∧ n + rm.slots ≤ R.slots) (hsub : ∀ y ∈ sf0, y ∈ sf) (K : ∀ T' h' v, W x wd l Z EL R own code mx ret nm T' h' (k + rm.cells) (n + rm.slots) sf → h.size ≤ h'.size → Q' v h' → Go x wd Z EL R Q T' pc' ls (v.toList ++ rest)) : Go x wd Z EL R Q T pc ls st := by
  obtain ⟨hd, rfl⟩ := hd
  subst hst
  obtain ⟨hx, hb, hm, hret, hn, hl, e0, E, c1, c2, hs, hEL, L, vm0, N, g, X, S, hZ, ho, hC⟩ := w
  have hWW : 2 * (mkF x.m pc ls (argsL.reverse ++ .ref a :: rest)).monitorRoom + (rest.map fun v => v.category).sum ≤ Wn := by show 2 * 0 + _ ≤ _; omega
  cases wd with
  | false =>
    have eq := g rfl
    subst eq
    obtain ⟨v, _, ⟨T1, L1, k1, n1⟩, -, X1, ⟨Lc, hQ, l1, y1, z1⟩, stp⟩ := X.specialBack hx (y := y) hy1 ho (mvT hZ w1) (mvT hZ w2) (mvT hZ w4) hy (backN (Wn := Wn) C hZ w4 w3 hr.1 hr.2.1) (g := mkF x.m pc ls (argsL.reverse ++ .ref a :: rest)) rfl (hz.trans hm.symm) (Steps.refl _) (a := a) (argsL := argsL) (rest := rest) hlen rfl hWW (Jvm.hb hb hd) (fun _ _ => ⟨rfl, e0, hr.2.2.1, hr.2.2.2⟩)
    dsimp only [Pt.U, Pt.locs, Pt.cells, Pt.slots] at X1 l1 y1 z1 stp hQ
    subst l1 y1 z1
    obtain ⟨s₂, o, a1, r⟩ := K T1 T1.heap v ⟨hx, hb, hm, hret, hn, hl, rfl, hQ.2.2.1, hr.2.2.1, hr.2.2.2, fun y hy => ⟨(hs y hy).1, Nat.lt_of_lt_of_le (hs y hy).2 hQ.2.2.2⟩, hEL, _, _, Fr.app N hQ.2.1, fun _ => rfl, X1, (State.WarmedH.refl x.s).since _, hZ, ho, fun q => by cases q⟩ hQ.2.2.2 hQ.1
    exact ⟨s₂, o, stp.trans a1, r⟩
  | true =>
    obtain ⟨v, _, ⟨T1, L1, k1, n1⟩, -, X1, hS1, hgr, ⟨Lc, hQ, l1, y1, z1, hCr⟩, stp⟩ := X.specialBackS hx (y := y) hy1 ho (mvT (s := x.s.setVm vm0) hZ w1) (mvT (s := x.s.setVm vm0) hZ w2) (mvT (s := x.s.setVm vm0) hZ w4) hy (backW (s := x.s) (Wn := Wn) C hZ w4 w3 hr.1 hr.2.1 hEL (hC rfl).1.1 (fun y hy => ⟨(hs y (hsub y hy)).2, (hC rfl).2 y (hsub y hy)⟩)) (g := mkF x.m pc ls (argsL.reverse ++ .ref a :: rest)) rfl (hz.trans hm.symm) (Steps.refl _) (a := a) (argsL := argsL) (rest := rest) hlen rfl hWW (Jvm.hb hb hd) (fun _ _ => ⟨rfl, e0, hr.2.2.1, hr.2.2.2⟩)
    dsimp only [Pt.U, Pt.locs, Pt.cells, Pt.slots] at X1 l1 y1 z1 stp hQ hS1 hgr hCr
    subst l1 y1 z1
    rw [e0] at hgr
    obtain ⟨Xr, Sr, Zr, Or⟩ := rebS (s := x.s) (vm0 := vm0) S hgr X1 hS1 (Nat.le_refl _) hZ ho
    obtain ⟨s₂, o, a1, r⟩ := K T1 T1.heap v ⟨hx, hb, hm, hret, hn, hl, rfl, hQ.2.2.1, hr.2.2.1, hr.2.2.2, fun y hy => ⟨(hs y hy).1, Nat.lt_of_lt_of_le (hs y hy).2 hgr⟩, hEL, _, _, Fr.app N hQ.2.1, (fun q => by cases q), Xr, Sr, Zr, Or, fun _ => ⟨(hC rfl).1.trans hCr, fun y hy => hCr.safe (hs y hy).2 ((hC rfl).2 y hy)⟩⟩ hgr hQ.1
    exact ⟨s₂, o, stp.trans a1, r⟩
theorem W.callV (w : W x wd l Z EL R own code mx ret nm T h k n sf) {y : MethodName} {bytes : ByteArray} {maxL : Nat} {rt : Option FieldType} {rm : Room} {sf0 : List Addr} {Q' : Option Value → Heap → Prop} {i : Nat} {argsL rest : List Value} {a : Addr} {Cl : String} (Wn : Nat) (hd : Dc code pc (.invokevirtual i) 3 pc') (w1 : (Jvm.Cond.methodLink own i y).before a0 Z = true) (wd1 : (Jvm.Cond.declares y).before a0 Z = true) (ws : (Jvm.Cond.selects Cl y y).before a0 Z = true) (w2 : (Jvm.Cond.instanceMethod y).before a0 Z = true) (w3 : (Jvm.Cond.initialized y.cls).before a0 Z = true) (w4 : (Jvm.Cond.code y bytes maxL rt).before a0 Z = true) (hy : y.cls ≠ "java/lang/invoke/MethodHandle" ∧ y.cls ≠ "java/lang/invoke/VarHandle") (Ea : Exa Z h a Cl) (C : Ct wd l Z EL y bytes maxL rt [] rm sf0 (.ref a :: argsL).toArray h Q') (hlen : ∀ sig, parseMethodDescriptor y.desc = some sig → argsL.length = sig.parameters.length) (hz : ls.size = mx) (hst : st = argsL.reverse ++ .ref a :: rest) (hW : (rest.map fun v => v.category).sum ≤ Wn) (hr : rm.frames + 1 ≤ R.frames ∧ Wn + (maxL + 11) + rm.locals ≤ R.locals ∧ k + rm.cells ≤ R.cells ∧ n + rm.slots ≤ R.slots) (hsub : ∀ y ∈ sf0, y ∈ sf) (K : ∀ T' h' v, W x wd l Z EL R own code mx ret nm T' h' (k + rm.cells) (n + rm.slots) sf → h.size ≤ h'.size → Q' v h' → Go x wd Z EL R Q T' pc' ls (v.toList ++ rest)) : Go x wd Z EL R Q T pc ls st := by
  obtain ⟨hd, rfl⟩ := hd
  subst hst
  obtain ⟨hx, hb, hm, hret, hn, hl, e0, E, c1, c2, hs, hEL, L, vm0, N, g, X, S, hZ, ho, hC⟩ := w
  have hWW : 2 * (mkF x.m pc ls (argsL.reverse ++ .ref a :: rest)).monitorRoom + (rest.map fun v => v.category).sum ≤ Wn := by show 2 * 0 + _ ≤ _; omega
  obtain ⟨cB, kB, qa, qb, qc⟩ := isOf (s := x.s.setVm vm0) hZ e0 Ea
  cases wd with
  | false =>
    have eq := g rfl
    subst eq
    obtain ⟨v, _, ⟨T1, L1, k1, n1⟩, -, X1, ⟨Lc, hQ, l1, y1, z1⟩, stp⟩ := X.virtualBack hx (y := y) (z := y) ho (mvT hZ w1) (mvT hZ wd1) (notFace_of_selects (args := #[]) (mvT hZ ws)) (mvT hZ ws) (mvT hZ w2) hy (backN (Wn := Wn) C hZ w4 w3 hr.1 hr.2.1) qa qc (g := mkF x.m pc ls (argsL.reverse ++ .ref a :: rest)) rfl (hz.trans hm.symm) (Steps.refl _) (argsL := argsL) (rest := rest) hlen rfl hWW (Jvm.hb hb hd) (fun _ _ => ⟨rfl, e0, hr.2.2.1, hr.2.2.2⟩)
    dsimp only [Pt.U, Pt.locs, Pt.cells, Pt.slots] at X1 l1 y1 z1 stp hQ
    subst l1 y1 z1
    obtain ⟨s₂, o, a1, r⟩ := K T1 T1.heap v ⟨hx, hb, hm, hret, hn, hl, rfl, hQ.2.2.1, hr.2.2.1, hr.2.2.2, fun y hy => ⟨(hs y hy).1, Nat.lt_of_lt_of_le (hs y hy).2 hQ.2.2.2⟩, hEL, _, _, Fr.app N hQ.2.1, fun _ => rfl, X1, (State.WarmedH.refl x.s).since _, hZ, ho, fun q => by cases q⟩ hQ.2.2.2 hQ.1
    exact ⟨s₂, o, stp.trans a1, r⟩
  | true =>
    obtain ⟨v, _, ⟨T1, L1, k1, n1⟩, -, X1, hS1, hgr, ⟨Lc, hQ, l1, y1, z1, hCr⟩, stp⟩ := X.virtualBackS hx (y := y) (z := y) ho (mvT (s := x.s.setVm vm0) hZ w1) (mvT (s := x.s.setVm vm0) hZ wd1) (notFace_of_selects (args := #[]) (mvT (s := x.s.setVm vm0) hZ ws)) (mvT (s := x.s.setVm vm0) hZ ws) (mvT (s := x.s.setVm vm0) hZ w2) hy (backW (s := x.s) (Wn := Wn) C hZ w4 w3 hr.1 hr.2.1 hEL (hC rfl).1.1 (fun y hy => ⟨(hs y (hsub y hy)).2, (hC rfl).2 y (hsub y hy)⟩)) qa qc (g := mkF x.m pc ls (argsL.reverse ++ .ref a :: rest)) rfl (hz.trans hm.symm) (Steps.refl _) (argsL := argsL) (rest := rest) hlen rfl hWW (Jvm.hb hb hd) (fun _ _ => ⟨rfl, e0, hr.2.2.1, hr.2.2.2⟩)
    dsimp only [Pt.U, Pt.locs, Pt.cells, Pt.slots] at X1 l1 y1 z1 stp hQ hS1 hgr hCr
    subst l1 y1 z1
    rw [e0] at hgr
    obtain ⟨Xr, Sr, Zr, Or⟩ := rebS (s := x.s) (vm0 := vm0) S hgr X1 hS1 (Nat.le_refl _) hZ ho
    obtain ⟨s₂, o, a1, r⟩ := K T1 T1.heap v ⟨hx, hb, hm, hret, hn, hl, rfl, hQ.2.2.1, hr.2.2.1, hr.2.2.2, fun y hy => ⟨(hs y hy).1, Nat.lt_of_lt_of_le (hs y hy).2 hgr⟩, hEL, _, _, Fr.app N hQ.2.1, (fun q => by cases q), Xr, Sr, Zr, Or, fun _ => ⟨(hC rfl).1.trans hCr, fun y hy => hCr.safe (hs y hy).2 ((hC rfl).2 y hy)⟩⟩ hgr hQ.1
    exact ⟨s₂, o, stp.trans a1, r⟩
theorem W.callVZ (w : W x wd l Z EL R own code mx ret nm T h k n sf) {y : MethodName} {bytes : ByteArray} {maxL : Nat} {rt : Option FieldType} {rm : Room} {sf0 : List Addr} {Q' : Option Value → Heap → Prop} {i : Nat} {argsL rest : List Value} {a : Addr} {z : MethodName} {Cl Sup : String} (Wn : Nat) (hd : Dc code pc (.invokevirtual i) 3 pc') (w1 : (Jvm.Cond.methodLink own i y).before a0 Z = true) (wd1 : (Jvm.Cond.declares y).before a0 Z = true) (wsp : (Jvm.Cond.superclass y.cls Sup).before a0 Z = true) (ws : (Jvm.Cond.selects Cl y z).before a0 Z = true) (w2 : (Jvm.Cond.instanceMethod z).before a0 Z = true) (w3 : (Jvm.Cond.initialized z.cls).before a0 Z = true) (w4 : (Jvm.Cond.code z bytes maxL rt).before a0 Z = true) (hy : y.cls ≠ "java/lang/invoke/MethodHandle" ∧ y.cls ≠ "java/lang/invoke/VarHandle") (Ea : Exa Z h a Cl) (C : Ct wd l Z EL z bytes maxL rt [] rm sf0 (.ref a :: argsL).toArray h Q') (hlen : ∀ sig, parseMethodDescriptor y.desc = some sig → argsL.length = sig.parameters.length) (hz : ls.size = mx) (hst : st = argsL.reverse ++ .ref a :: rest) (hW : (rest.map fun v => v.category).sum ≤ Wn) (hr : rm.frames + 1 ≤ R.frames ∧ Wn + (maxL + 11) + rm.locals ≤ R.locals ∧ k + rm.cells ≤ R.cells ∧ n + rm.slots ≤ R.slots) (hsub : ∀ y ∈ sf0, y ∈ sf) (K : ∀ T' h' v, W x wd l Z EL R own code mx ret nm T' h' (k + rm.cells) (n + rm.slots) sf → h.size ≤ h'.size → Q' v h' → Go x wd Z EL R Q T' pc' ls (v.toList ++ rest)) : Go x wd Z EL R Q T pc ls st := by
  obtain ⟨hd, rfl⟩ := hd
  subst hst
  obtain ⟨hx, hb, hm, hret, hn, hl, e0, E, c1, c2, hs, hEL, L, vm0, N, g, X, S, hZ, ho, hC⟩ := w
  have hWW : 2 * (mkF x.m pc ls (argsL.reverse ++ .ref a :: rest)).monitorRoom + (rest.map fun v => v.category).sum ≤ Wn := by show 2 * 0 + _ ≤ _; omega
  obtain ⟨cB, kB, qa, qb, qc⟩ := isOf (s := x.s.setVm vm0) hZ e0 Ea
  cases wd with
  | false =>
    have eq := g rfl
    subst eq
    obtain ⟨v, _, ⟨T1, L1, k1, n1⟩, -, X1, ⟨Lc, hQ, l1, y1, z1⟩, stp⟩ := X.virtualBack hx (y := y) (z := z) ho (mvT hZ w1) (mvT hZ wd1) (nf_super (args := #[]) (mvT hZ wsp)) (mvT hZ ws) (mvT hZ w2) hy (backN (Wn := Wn) C hZ w4 w3 hr.1 hr.2.1) qa qc (g := mkF x.m pc ls (argsL.reverse ++ .ref a :: rest)) rfl (hz.trans hm.symm) (Steps.refl _) (argsL := argsL) (rest := rest) hlen rfl hWW (Jvm.hb hb hd) (fun _ _ => ⟨rfl, e0, hr.2.2.1, hr.2.2.2⟩)
    dsimp only [Pt.U, Pt.locs, Pt.cells, Pt.slots] at X1 l1 y1 z1 stp hQ
    subst l1 y1 z1
    obtain ⟨s₂, o, a1, r⟩ := K T1 T1.heap v ⟨hx, hb, hm, hret, hn, hl, rfl, hQ.2.2.1, hr.2.2.1, hr.2.2.2, fun y hy => ⟨(hs y hy).1, Nat.lt_of_lt_of_le (hs y hy).2 hQ.2.2.2⟩, hEL, _, _, Fr.app N hQ.2.1, fun _ => rfl, X1, (State.WarmedH.refl x.s).since _, hZ, ho, fun q => by cases q⟩ hQ.2.2.2 hQ.1
    exact ⟨s₂, o, stp.trans a1, r⟩
  | true =>
    obtain ⟨v, _, ⟨T1, L1, k1, n1⟩, -, X1, hS1, hgr, ⟨Lc, hQ, l1, y1, z1, hCr⟩, stp⟩ := X.virtualBackS hx (y := y) (z := z) ho (mvT (s := x.s.setVm vm0) hZ w1) (mvT (s := x.s.setVm vm0) hZ wd1) (nf_super (args := #[]) (mvT (s := x.s.setVm vm0) hZ wsp)) (mvT (s := x.s.setVm vm0) hZ ws) (mvT (s := x.s.setVm vm0) hZ w2) hy (backW (s := x.s) (Wn := Wn) C hZ w4 w3 hr.1 hr.2.1 hEL (hC rfl).1.1 (fun y hy => ⟨(hs y (hsub y hy)).2, (hC rfl).2 y (hsub y hy)⟩)) qa qc (g := mkF x.m pc ls (argsL.reverse ++ .ref a :: rest)) rfl (hz.trans hm.symm) (Steps.refl _) (argsL := argsL) (rest := rest) hlen rfl hWW (Jvm.hb hb hd) (fun _ _ => ⟨rfl, e0, hr.2.2.1, hr.2.2.2⟩)
    dsimp only [Pt.U, Pt.locs, Pt.cells, Pt.slots] at X1 l1 y1 z1 stp hQ hS1 hgr hCr
    subst l1 y1 z1
    rw [e0] at hgr
    obtain ⟨Xr, Sr, Zr, Or⟩ := rebS (s := x.s) (vm0 := vm0) S hgr X1 hS1 (Nat.le_refl _) hZ ho
    obtain ⟨s₂, o, a1, r⟩ := K T1 T1.heap v ⟨hx, hb, hm, hret, hn, hl, rfl, hQ.2.2.1, hr.2.2.1, hr.2.2.2, fun y hy => ⟨(hs y hy).1, Nat.lt_of_lt_of_le (hs y hy).2 hgr⟩, hEL, _, _, Fr.app N hQ.2.1, (fun q => by cases q), Xr, Sr, Zr, Or, fun _ => ⟨(hC rfl).1.trans hCr, fun y hy => hCr.safe (hs y hy).2 ((hC rfl).2 y hy)⟩⟩ hgr hQ.1
    exact ⟨s₂, o, stp.trans a1, r⟩
theorem W.callVU (w : W x wd l Z EL R own code mx ret nm T h k n sf) {y : MethodName} {bytes : ByteArray} {maxL : Nat} {rt : Option FieldType} {rm : Room} {sf0 : List Addr} {Q' : Option Value → Heap → Prop} {i : Nat} {argsL rest : List Value} {a : Addr} {z : MethodName} {Cl ow : String} (Wn : Nat) (hd : Dc code pc (.invokevirtual i) 3 pc') (w1 : (Jvm.Cond.methodLink own i y).before a0 Z = true) (wsm : (Jvm.Cond.sameMethod y.cls ow y.name y.desc).before a0 Z = true) (wd1 : (Jvm.Cond.declares ⟨ow, y.name, y.desc⟩).before a0 Z = true) (ws : (Jvm.Cond.selects Cl y z).before a0 Z = true) (w2 : (Jvm.Cond.instanceMethod z).before a0 Z = true) (w3 : (Jvm.Cond.initialized z.cls).before a0 Z = true) (w4 : (Jvm.Cond.code z bytes maxL rt).before a0 Z = true) (hy : ow ≠ "java/lang/invoke/MethodHandle" ∧ ow ≠ "java/lang/invoke/VarHandle") (Ea : Exa Z h a Cl) (C : Ct wd l Z EL z bytes maxL rt [] rm sf0 (.ref a :: argsL).toArray h Q') (hlen : ∀ sig, parseMethodDescriptor y.desc = some sig → argsL.length = sig.parameters.length) (hz : ls.size = mx) (hst : st = argsL.reverse ++ .ref a :: rest) (hW : (rest.map fun v => v.category).sum ≤ Wn) (hr : rm.frames + 1 ≤ R.frames ∧ Wn + (maxL + 11) + rm.locals ≤ R.locals ∧ k + rm.cells ≤ R.cells ∧ n + rm.slots ≤ R.slots) (hsub : ∀ y ∈ sf0, y ∈ sf) (K : ∀ T' h' v, W x wd l Z EL R own code mx ret nm T' h' (k + rm.cells) (n + rm.slots) sf → h.size ≤ h'.size → Q' v h' → Go x wd Z EL R Q T' pc' ls (v.toList ++ rest)) : Go x wd Z EL R Q T pc ls st := by
  obtain ⟨hd, rfl⟩ := hd
  subst hst
  obtain ⟨hx, hb, hm, hret, hn, hl, e0, E, c1, c2, hs, hEL, L, vm0, N, g, X, S, hZ, ho, hC⟩ := w
  have hWW : 2 * (mkF x.m pc ls (argsL.reverse ++ .ref a :: rest)).monitorRoom + (rest.map fun v => v.category).sum ≤ Wn := by show 2 * 0 + _ ≤ _; omega
  obtain ⟨cB, kB, qa, qb, qc⟩ := isOf (s := x.s.setVm vm0) hZ e0 Ea
  cases wd with
  | false =>
    have eq := g rfl
    subst eq
    obtain ⟨v, _, ⟨T1, L1, k1, n1⟩, -, X1, ⟨Lc, hQ, l1, y1, z1⟩, stp⟩ := X.virtualBackUp hx (x := y) (y := z) ho (mvT hZ w1) (mvT hZ wsm) (mvT hZ wd1) hy (mvT hZ ws) (mvT hZ w2) (backN (Wn := Wn) C hZ w4 w3 hr.1 hr.2.1) qa qc (g := mkF x.m pc ls (argsL.reverse ++ .ref a :: rest)) rfl (hz.trans hm.symm) (Steps.refl _) (argsL := argsL) (rest := rest) hlen rfl hWW (Jvm.hb hb hd) (fun _ _ => ⟨rfl, e0, hr.2.2.1, hr.2.2.2⟩)
    dsimp only [Pt.U, Pt.locs, Pt.cells, Pt.slots] at X1 l1 y1 z1 stp hQ
    subst l1 y1 z1
    obtain ⟨s₂, o, a1, r⟩ := K T1 T1.heap v ⟨hx, hb, hm, hret, hn, hl, rfl, hQ.2.2.1, hr.2.2.1, hr.2.2.2, fun y hy => ⟨(hs y hy).1, Nat.lt_of_lt_of_le (hs y hy).2 hQ.2.2.2⟩, hEL, _, _, Fr.app N hQ.2.1, fun _ => rfl, X1, (State.WarmedH.refl x.s).since _, hZ, ho, fun q => by cases q⟩ hQ.2.2.2 hQ.1
    exact ⟨s₂, o, stp.trans a1, r⟩
  | true =>
    obtain ⟨v, _, ⟨T1, L1, k1, n1⟩, -, X1, hS1, hgr, ⟨Lc, hQ, l1, y1, z1, hCr⟩, stp⟩ := X.virtualBackUpS hx (x := y) (y := z) ho (mvT (s := x.s.setVm vm0) hZ w1) (mvT (s := x.s.setVm vm0) hZ wsm) (mvT (s := x.s.setVm vm0) hZ wd1) hy (mvT (s := x.s.setVm vm0) hZ ws) (mvT (s := x.s.setVm vm0) hZ w2) (backW (s := x.s) (Wn := Wn) C hZ w4 w3 hr.1 hr.2.1 hEL (hC rfl).1.1 (fun y hy => ⟨(hs y (hsub y hy)).2, (hC rfl).2 y (hsub y hy)⟩)) qa qc (g := mkF x.m pc ls (argsL.reverse ++ .ref a :: rest)) rfl (hz.trans hm.symm) (Steps.refl _) (argsL := argsL) (rest := rest) hlen rfl hWW (Jvm.hb hb hd) (fun _ _ => ⟨rfl, e0, hr.2.2.1, hr.2.2.2⟩)
    dsimp only [Pt.U, Pt.locs, Pt.cells, Pt.slots] at X1 l1 y1 z1 stp hQ hS1 hgr hCr
    subst l1 y1 z1
    rw [e0] at hgr
    obtain ⟨Xr, Sr, Zr, Or⟩ := rebS (s := x.s) (vm0 := vm0) S hgr X1 hS1 (Nat.le_refl _) hZ ho
    obtain ⟨s₂, o, a1, r⟩ := K T1 T1.heap v ⟨hx, hb, hm, hret, hn, hl, rfl, hQ.2.2.1, hr.2.2.1, hr.2.2.2, fun y hy => ⟨(hs y hy).1, Nat.lt_of_lt_of_le (hs y hy).2 hgr⟩, hEL, _, _, Fr.app N hQ.2.1, (fun q => by cases q), Xr, Sr, Zr, Or, fun _ => ⟨(hC rfl).1.trans hCr, fun y hy => hCr.safe (hs y hy).2 ((hC rfl).2 y hy)⟩⟩ hgr hQ.1
    exact ⟨s₂, o, stp.trans a1, r⟩
theorem W.lsw (w : W x wd l Z EL R own code mx ret nm T h k n sf) {dflt off : Int} {pairs : Array (Int × Int)} {len : Nat} {i : Int32} (hd : Dc code pc (.lookupswitch dflt pairs) len pc') (hp : (pairs.toList.zip (pairs.toList.drop 1)).all (fun (a, next) => a.1 < next.1) = true) (ho : (match pairs.find? (·.1 == i.toInt) with | some (_, o) => o | none => dflt) = off) (ht : Tg pc off pcT) (K : Go x wd Z EL R Q T pcT ls st) : Go x wd Z EL R Q T pc ls (.int i :: st) := by
  obtain ⟨hd, rfl⟩ := hd
  obtain ⟨ht, rfl⟩ := ht
  obtain ⟨hx, hb, hm, hr, hn, hl, e0, E, c1, c2, hs, hEL, L, vm0, N, g, X, S, hZ, ho', hC⟩ := w
  obtain ⟨s₂, o, a1, r⟩ := K
  refine ⟨s₂, o, ?_, r⟩
  rcases hf : pairs.find? (·.1 == i.toInt) with _ | ⟨a, off'⟩
  · simp only [hf] at ho
    subst ho
    exact X.lookupswitchMiss hx (g := mkF x.m pc ls (.int i :: st)) rfl rfl (Jvm.hb hb hd) hp hf ht _ a1
  · simp only [hf] at ho
    subst ho
    exact X.lookupswitchHit hx (g := mkF x.m pc ls (.int i :: st)) rfl rfl (Jvm.hb hb hd) hp hf ht _ a1
theorem W.instNo (w : W x wd l Z EL R own code mx ret nm T h k n sf) {i : Nat} {a : Addr} {C K0 : String} (hd : Dc code pc (.instanceof i) 3 pc') (wl : (Jvm.Cond.classLink own i K0).before a0 Z = true) (E : Exa Z h a C) (F : ∃ c t, Z.vm.findClass C = some c ∧ Z.vm.findClass K0 = some t ∧ Z.vm.assignable c t = false) (K : ∀ T', W x wd l Z EL R own code mx ret nm T' h k n sf → Go x wd Z EL R Q T' pc' ls (.int 0 :: st)) : Go x wd Z EL R Q T pc ls (.ref a :: st) := by
  obtain ⟨hd, rfl⟩ := hd
  exact w.goT (fun s0 L X hx hZ ho hb hm e0 => RoadKit.instNo X hx hZ ho wl e0 E F (g := mkF x.m pc ls (.ref a :: st)) rfl rfl (Jvm.hb hb hd)) K
theorem W.ldc2J (w : W x wd l Z EL R own code mx ret nm T h k n sf) {i : Nat} {v : Int64} (hd : Dc code pc (.ldc2_w i) 3 pc') (wc : (Jvm.Cond.constantLong own i v).before a0 Z = true) (K : Go x wd Z EL R Q T pc' ls (.long v :: st)) : Go x wd Z EL R Q T pc ls st := by
  obtain ⟨hd, rfl⟩ := hd
  obtain ⟨hx, hb, hm, hr, hn, hl, e0, E, c1, c2, hs, hEL, L, vm0, N, g, X, S, hZ, ho, hC⟩ := w
  obtain ⟨s₂, o, a1, r⟩ := K
  exact ⟨s₂, o, X.ldc2J hx ho (mv (s := x.s.setVm vm0) hZ wc) rfl (Jvm.hb hb hd) a1, r⟩
theorem W.instNull (w : W x wd l Z EL R own code mx ret nm T h k n sf) {i : Nat} (hd : Dc code pc (.instanceof i) 3 pc') (K : Go x wd Z EL R Q T pc' ls (.int 0 :: st)) : Go x wd Z EL R Q T pc ls (.null :: st) := by
  obtain ⟨hd, rfl⟩ := hd
  obtain ⟨hx, hb, hm, hr, hn, hl, e0, E, c1, c2, hs, hEL, L, vm0, N, g, X, S, hZ, ho, hC⟩ := w
  obtain ⟨s₂, o, a1, r⟩ := K
  exact ⟨s₂, o, X.instanceofNull hx (g := mkF x.m pc ls (.null :: st)) rfl rfl (Jvm.hb hb hd) _ a1, r⟩
theorem W.getFR (w : W x wd l Z EL R own code mx ret nm T h k n sf) {i : Nat} {a : Addr} {O f d : String} {v : Value} (hd : Dc code pc (.getfield i) 3 pc') (wl : (Jvm.Cond.fieldRef own i O f d).before a0 Z = true) (F : Fld Z h a O f d v) (K : Go x wd Z EL R Q T pc' ls (v :: st)) : Go x wd Z EL R Q T pc ls (.ref a :: st) := by
  obtain ⟨hd, rfl⟩ := hd
  obtain ⟨hx, hb, hm, hr, hn, hl, e0, E, c1, c2, hs, hEL, L, vm0, N, g, X, S, hZ, ho, hC⟩ := w
  obtain ⟨s₂, o, a1, r⟩ := K
  obtain ⟨cell, cf, kk, ii, fl, h1, h2, h3, h4, -, -, h7⟩ := F
  have hZT : Z.Warmed39 T.vm := wtrans (s := x.s.setVm vm0) hZ X.warmed
  have hq := Cond.fieldRef_warmed39 hZT wl
  have hoT : (Z.setVm T.vm).vm.findClass own = some x.m.cls := (X.warmed.alike.findClass _ _).trans ho
  obtain ⟨q1, q2, q3, q4, g1, g2⟩ := Cond.fieldRef_spec hoT hq
  obtain ⟨k', hi, -⟩ := State.fieldFound?_setVm (s := Z) hZT.alike h2
  cases hi.symm.trans g1
  have hd' := Jvm.hb hb hd
  have g2' : T.vm.fieldReady x.m.cls i cf fl := g2
  refine ⟨s₂, o, ?_, r⟩
  show Steps x.p.tables x.e x.below (T.setTop { method := x.m, pc := pc, locals := ls, stack := .ref a :: st, locked := none }) _
  jvm_step X.here [hx, hd', getfield.wp_ready (e := x.e) (s := T) (f := mkF x.m pc ls (.ref a :: st)) X.here.top g2' h3 rfl (show T.heap[a]? = some cell by rw [e0]; exact h1) h4 h7]
  exact a1
theorem W.ldcS (w : W x true l Z EL R own code mx ret nm T h k n sf) {i : Nat} {text : String} (nn : Nat) (hd : Dc code pc (.ldc i) 2 pc') (wl : (Jvm.Cond.stringLink own i text).before a0 Z = true) (wS : ∀ a ∈ Bundle.stringAtoms, a.before a0 Z = true) (hEL : EW Z a0 EL) (hn4 : 4 * text.toList.length ≤ nn) (hbig : nn ≤ 536870912) (hr : k + 2 ≤ R.cells ∧ n + (nn + 4) ≤ R.slots) (K : ∀ (a : Addr) T' h', W x true l Z EL R own code mx ret nm T' h' (k + 2) (n + (nn + 4)) sf → Ext h h' → Go x true Z EL R Q T' pc' ls (.ref a :: st)) : Go x true Z EL R Q T pc ls st := by
  obtain ⟨hd, rfl⟩ := hd
  obtain ⟨hx, hb, hm, hret, hnm, hl, e0, E, c1, c2, hs, -, L, vm0, N, g, X, S, hZ, ho, hC⟩ := w
  obtain ⟨a, T', h', k1, X', e', E', S', hk1, Z', o', hCr, -, stp⟩ := ldcOH X hx hZ ho wl wS e0 S (Nat.le_refl _) hEL (hC rfl).1.1 (g := mkF x.m pc ls st) rfl (Jvm.hb hb hd) hn4 hbig hr.1 hr.2
  obtain ⟨s₂, o, a1, r⟩ := K a T' h' ⟨hx, hb, hm, hret, hnm, hl, e', ext_trans E E', hr.1, hr.2, fun y hy => ⟨(hs y hy).1, Nat.lt_of_lt_of_le (hs y hy).2 E'.1⟩, ⟨a0, hEL⟩, L, _, N, (fun q => by cases q), X', since_mono S' hk1, Z', o', fun _ => ⟨(hC rfl).1.trans hCr, fun y hy => hCr.safe (hs y hy).2 ((hC rfl).2 y hy)⟩⟩ E'
  exact ⟨s₂, o, stp _ a1, r⟩
theorem W.ldcR (w : W x true l Z EL R own code mx ret nm T h k n sf) {i : Nat} {text : String} {vs : List Value} (z : Int32) (nn : Nat) (hd : Dc code pc (.ldc i) 2 pc') (wl : (Jvm.Cond.stringLink own i text).before a0 Z = true) (wS : ∀ a ∈ Bundle.stringAtoms, a.before a0 Z = true) (hEL : EW Z a0 EL) (hmem : (own, i) ∈ EL) (ht : (∀ c ∈ text.toList, c.toNat < 256) ∧ text.toList.map (fun c => Value.int (Jvm.Lit.byteI c.toNat.toUInt16)) = vs) (hz : ¬ z < 0) (hlz : z.toNatClampNeg = vs.length) (hn4 : 4 * text.toList.length ≤ nn) (hbig : nn ≤ 536870912) (hr : k + 2 ≤ R.cells ∧ n + (nn + 4) ≤ R.slots) (K : ∀ (a b : Addr) kb T' h', W x true l Z EL R own code mx ret nm T' h' (k + 2) (n + (nn + 4)) sf → Ext h h' → Exa Z h' a "java/lang/String" → Fld Z h' a "java/lang/String" "coder" "B" (.int 0) → Fld Z h' a "java/lang/String" "value" "[B" (.ref b) → Arv Z h' b kb .byte z vs (.int 0) → (∀ y ∈ sf, y ≠ a ∧ y ≠ b) → Go x true Z EL R Q T' pc' ls (.ref a :: st)) : Go x true Z EL R Q T pc ls st := by
  obtain ⟨hd, rfl⟩ := hd
  obtain ⟨hx, hb, hm, hret, hnm, hl, e0, E, c1, c2, hs, -, L, vm0, N, g, X, S, hZ, ho, hC⟩ := w
  obtain ⟨a, T', h', k1, b, kb, X', e', E', S', hk1, Z', o', q1, q2, q3, q4, -, -, hCr, -, hne, stp⟩ := ldcCH X hx hZ ho wl wS e0 S (Nat.le_refl _) hEL hmem (hC rfl).1.1 ht hz hlz (g := mkF x.m pc ls st) rfl (Jvm.hb hb hd) hn4 hbig hr.1 hr.2
  have hsf : ∀ y ∈ sf, Safe Z EL T'.vm h' y := fun y hy => hCr.safe (hs y hy).2 ((hC rfl).2 y hy)
  obtain ⟨s₂, o, a1, r⟩ := K a b kb T' h' ⟨hx, hb, hm, hret, hnm, hl, e', ext_trans E E', hr.1, hr.2, fun y hy => ⟨(hs y hy).1, Nat.lt_of_lt_of_le (hs y hy).2 E'.1⟩, ⟨a0, hEL⟩, L, _, N, (fun q => by cases q), X', since_mono S' hk1, Z', o', fun _ => ⟨(hC rfl).1.trans hCr, hsf⟩⟩ E' q1 q2 q3 q4 (fun y hy => hne y (hsf y hy))
  exact ⟨s₂, o, stp _ a1, r⟩
end Laws
theorem eqv_int {args : Array Value} {first s : State} {o : Option Outcome} {idx : List Nat} {a b : Term} {z : Int32} (h : (Jvm.Cond.eq a b).value args first o s idx = some true) (hb : b.eval args first o idx s = some (.int z)) : a.eval args first o idx s = some (.int z) := by
  cases ha : a.eval args first o idx s with
  | none => simp [Jvm.Cond.value, ha, hb] at h
  | some v => cases v <;> simp [Jvm.Cond.value, ha, hb] at h ⊢; exact h
theorem eqv_ref {args : Array Value} {first s : State} {o : Option Outcome} {idx : List Nat} {a b : Term} {z : Addr} (h : (Jvm.Cond.eq a b).value args first o s idx = some true) (hb : b.eval args first o idx s = some (.ref z)) : a.eval args first o idx s = some (.ref z) := by
  cases ha : a.eval args first o idx s with
  | none => simp [Jvm.Cond.value, ha, hb] at h
  | some v => cases v <;> simp [Jvm.Cond.value, ha, hb] at h ⊢; exact h
theorem sta_exa {Z : State} {args : Array Value} {C f d K : String} (hx : (Jvm.Cond.exactly (.static C f d) K).value args Z none Z [] = some true) (hi : (Jvm.Cond.initialized C).before args Z = true) (hl : (Jvm.Cond.laysStatic C f d).before args Z = true) :
    ∃ a, (Term.static C f d).eval args Z none [] Z = some (.ref a) ∧ Sta Z Z.heap C f d (.ref a) ∧ Exa Z Z.heap a K := by
  obtain ⟨a, ev⟩ := exa_v hx
  exact ⟨a, ev, Sta.start ev (Or.inr ⟨hi, hl⟩), Exa.start ev hx⟩
theorem fld_int {Z : State} {args : Array Value} {t : Term} {C f d : String} {z : Int32} {a : Addr} (h : (Jvm.Cond.eq (.field t C f d) (.int z)).value args Z none Z [] = some true) (ht : t.eval args Z none [] Z = some (.ref a)) : Fld Z Z.heap a C f d (.int z) :=
  Fld.start (by rw [← fld_at ht]; exact eqv_int h (Term.int_eval z))
theorem fld_ref {Z : State} {args : Array Value} {t u : Term} {C f d : String} {a b : Addr} (h : (Jvm.Cond.eq (.field t C f d) u).value args Z none Z [] = some true) (ht : t.eval args Z none [] Z = some (.ref a)) (hu : u.eval args Z none [] Z = some (.ref b)) : Fld Z Z.heap a C f d (.ref b) :=
  Fld.start (by rw [← fld_at ht]; exact eqv_ref h hu)
theorem ord_ne {Z : State} {h : Heap} {a b : Addr} {C f d : String} {u v : Int32} (F : Fld Z h a C f d (.int u)) (G : Fld Z h b C f d (.int v)) (q : u ≠ v) : a ≠ b := Fld.ne F G fun e => q (Value.int.inj e)
/-- a String at a, its bytes in the array at t, its coder k -/
def StrL (Z : State) (h : Heap) (a t : Addr) (k : Int32) (bs : List Int32) : Prop :=
  Exa Z h a "java/lang/String" ∧ Fld Z h a "java/lang/String" "value" "[B" (.ref t) ∧ Fld Z h a "java/lang/String" "coder" "B" (.int k) ∧ ∃ kb, Arv Z h t kb .byte (Int32.ofNat bs.length) (bs.map .int) (.int 0) ∧ bs.length < 2 ^ 31
section StrFacts
variable {Z : State} {h h' : Heap} {a t : Addr} {k : Int32} {bs : List Int32}
theorem StrL.ext (F : StrL Z h a t k bs) (E : Ext h h') : StrL Z h' a t k bs := ⟨F.1.ext E, F.2.1.ext E, F.2.2.1.ext E, by obtain ⟨kb, A, q⟩ := F.2.2.2; exact ⟨kb, A.ext E, q⟩⟩
theorem StrL.keep {ws : List Addr} (F : StrL Z h a t k bs) (K : Keep h h' ws) (q1 : a ∉ ws) (q2 : t ∉ ws) : StrL Z h' a t k bs := ⟨F.1.keep K, F.2.1.keep K q1, F.2.2.1.keep K q1, by obtain ⟨kb, A, q⟩ := F.2.2.2; exact ⟨kb, A.keep K q2, q⟩⟩
theorem StrL.wr {x : Addr} {sl : Nat} {v : Value} (F : StrL Z h a t k bs) (W : Wr h h' x sl v) (q1 : a ≠ x) (q2 : t ≠ x) : StrL Z h' a t k bs := F.keep (Keep.of_wr W) (ninS q1 nin0) (ninS q2 nin0)
theorem StrL.lt (F : StrL Z h a t k bs) : a < h.size := F.1.lt
theorem StrL.lt' (F : StrL Z h a t k bs) : t < h.size := by obtain ⟨kb, A, -⟩ := F.2.2.2; exact A.lt
theorem ofN_toInt {n : Nat} (h : n < 2 ^ 31) : (Int32.ofNat n).toInt = (n : Int) := Int32.toInt_ofNat_small h
theorem ofN_clamp {n : Nat} (h : n < 2 ^ 31) : (Int32.ofNat n).toNatClampNeg = n := by simp only [Int32.toNatClampNeg, ofN_toInt h]; rfl
theorem ofN_nn {n : Nat} (h : n < 2 ^ 31) : ¬ Int32.ofNat n < 0 := by rw [Int32.lt_iff_toInt_lt, ofN_toInt h]; exact Int.not_lt.mpr (Int.natCast_nonneg n)
theorem ofN_lt {i n : Nat} (hi : i < 2 ^ 31) (hn : n < 2 ^ 31) : Int32.ofNat i < Int32.ofNat n ↔ i < n := by rw [Int32.lt_iff_toInt_lt, ofN_toInt hi, ofN_toInt hn]; omega
theorem ofN_inj {i n : Nat} (hi : i < 2 ^ 31) (hn : n < 2 ^ 31) : Int32.ofNat i = Int32.ofNat n ↔ i = n := by rw [← Int32.toInt_inj, ofN_toInt hi, ofN_toInt hn]; omega
theorem ofN_succ {i : Nat} (hi : i + 1 < 2 ^ 31) : Int32.ofNat i + 1 = Int32.ofNat (i + 1) := by
  rw [← Int32.toInt_inj, ofN_toInt hi]
  have q := c_iadd (Int32.ofNat i) 1
  have r := rng32 (Int32.ofNat i + 1)
  rw [ofN_toInt (by omega), show (1 : Int32).toInt = 1 from rfl] at q
  omega
theorem mapGet (bs : List Int32) (i : Nat) : (bs.map Value.int).getD i (.int 0) = .int (bs.getD i 0) := by
  simp only [List.getD_eq_getElem?_getD, List.getElem?_map]; cases bs[i]? <;> rfl
theorem list_eq {bs cs : List Int32} (h : bs.length = cs.length) (q : ∀ j, j < bs.length → bs.getD j 0 = cs.getD j 0) : bs = cs := by
  refine List.ext_getElem h fun i h1 h2 => ?_
  have := q i h1
  simpa [List.getD_eq_getElem?_getD, List.getElem?_eq_getElem h1, List.getElem?_eq_getElem h2] using this
theorem StrL.same {t' : Addr} {k' : Int32} {cs : List Int32} (F : StrL Z h a t k bs) (G : StrL Z h a t' k' cs) : bs = cs := by
  obtain ⟨-, F1, -, kb, A, hb⟩ := F
  obtain ⟨-, G1, -, kc, B, hc⟩ := G
  have e : t = t' := by
    by_cases q : t = t'
    · exact q
    · exact absurd rfl (Fld.ne F1 G1 fun z => q (Value.ref.inj z))
  subst e
  obtain ⟨c1, a1, -, s1, -, h1, -⟩ := A
  obtain ⟨c2, b1, -, s2, -, h2, -⟩ := B
  cases a1.1.symm.trans b1.1
  rw [ofN_clamp hb] at s1
  rw [ofN_clamp hc] at s2
  refine list_eq (s1.symm.trans s2) fun j hj => ?_
  have e1 := h1 j (by rw [s1]; exact hj)
  have e2 := h2 j (by rw [s1]; exact hj)
  rw [mapGet] at e1 e2
  exact Value.int.inj (Option.some.inj (e1.symm.trans e2))
end StrFacts
theorem b255' {c : Int32} (c0 : 0 ≤ c.toInt) (c1 : ¬ 255 < c) : nar .byte c &&& (255 : Int32) = c := by
  rw [Int32.lt_iff_toInt_lt, show (255 : Int32).toInt = 255 from rfl] at c1
  have e1 := c_i2b c
  have e2 := c_mask (nar .byte c) 255 8 (by decide) (by decide)
  apply Int32.toInt_inj.mp
  rw [e2]
  simp only [nar]
  omega
theorem nchar {c : Int32} (c0 : 0 ≤ c.toInt) (c1 : ¬ 255 < c) : nar .char c = c := by
  rw [Int32.lt_iff_toInt_lt, show (255 : Int32).toInt = 255 from rfl] at c1
  have e1 := c_i2c c
  apply Int32.toInt_inj.mp
  simp only [nar]
  omega
theorem b255 {c : Int32} (c0 : 0 ≤ c.toInt) (c1 : ¬ 255 < c) : nar .char (nar .byte c &&& (255 : Int32)) = c := by rw [b255' c0 c1]; exact nchar c0 c1
theorem nb_inj {c d : Int32} (c0 : 0 ≤ c.toInt) (c1 : ¬ 255 < c) (d0 : 0 ≤ d.toInt) (d1 : ¬ 255 < d) (h : nar .byte c = nar .byte d) : c = d := by
  rw [Int32.lt_iff_toInt_lt, show (255 : Int32).toInt = 255 from rfl] at c1 d1
  have h2 : (nar .byte c).toInt = (nar .byte d).toInt := by rw [h]
  have e1 := c_i2b c
  have e2 := c_i2b d
  simp only [nar] at h2
  apply Int32.toInt_inj.mp
  omega
theorem nbb (c : Int32) : nar .byte (nar .byte c) = nar .byte c := by simp [nar]
theorem ncc (c : Int32) : nar .char (nar .char c) = nar .char c := by
  have := XT.narrow_c c
  simp only [narrow, Value.int.injEq] at this
  exact this
theorem nar_and (c : Int32) : nar .char (c &&& 255) = c &&& 255 := i2c_mask c
theorem le255 (c : Int32) : ¬ 255 < c &&& 255 := by
  rw [Int32.lt_iff_toInt_lt]; exact Int.not_lt.mpr (c_and c 255 (by decide)).2
theorem le255n (c : Int32) : ¬ 255 < nar .char (c &&& 255) := by rw [nar_and]; exact le255 c
theorem fnb (c : Int32) : fits .byte (.int (nar .byte c)) = true := fits_nar_byte c
theorem fnc (c : Int32) : fits .char (.int (nar .char c)) = true := fits_nar_char c
theorem cmpL_lt (x y : Int64) : XT.cmpL x y < 0 ↔ x < y := by
  unfold XT.cmpL; split <;> (try split) <;> simp_all [Int64.lt_iff_toInt_lt, ← Int64.toInt_inj] <;> omega
theorem cmpL_gt (x y : Int64) : 0 < XT.cmpL x y ↔ y < x := by
  unfold XT.cmpL; split <;> (try split) <;> simp_all [Int64.lt_iff_toInt_lt, ← Int64.toInt_inj] <;> omega
theorem ns_root {Z : State} {a0 : Array Value} {O K : String} {n : Nat} (w : (Jvm.Cond.noSuperclass O).before a0 Z = true) (wk : (Jvm.Cond.instantiable K n).before a0 Z = true) (hn : O ≠ K) : NS Z O K := by
  obtain ⟨c, k, h1, h2, h3, -, -⟩ := Cond.noSuperclass_spec w
  obtain ⟨t, kt, g1, -⟩ := Cond.instantiable_spec wk
  have ne := ids_ne h1 g1 hn
  refine ⟨c, t, h1, g1, fun fuel => ?_⟩
  cases fuel with
  | zero => rfl
  | succ f => simp [Vm.isSubclassAux, ne, h2, h3]
theorem ns_no {Z : State} {a0 : Array Value} {C S K : String} {n : Nat} (w : (Jvm.Cond.superclass C S).before a0 Z = true) (wk : (Jvm.Cond.instantiable K n).before a0 Z = true) (m : NS Z C K) (hn : C ≠ K) : ∃ c t, Z.vm.findClass C = some c ∧ Z.vm.findClass K = some t ∧ Z.vm.assignable c t = false := by
  obtain ⟨c, t, h0, g0, n3⟩ := m
  obtain ⟨p, k, kp, h1, h2, h3, h4, h5, -, h7⟩ := Cond.superclass_spec h0 w
  obtain ⟨t', kt, g1, g2, g5, g7, -⟩ := Cond.instantiable_spec wk
  cases g0.symm.trans g1
  have ne := ids_ne h0 g0 hn
  have g8 : kt.isInterface = false := (Bool.or_eq_false_iff.mp g7).1
  refine ⟨c, t, h0, g0, ?_⟩
  show Z.vm.assignableAux (255 + 1) c t = false
  simp [Vm.assignableAux, ne, h2, g2, h5, g5, g8, Vm.isSubclass, n3]
/-- an array of boxes that stood at the start: each of its class -/
def Bx (Z : State) (a : Addr) (cl : Cell) (K : String) (z : Int32) : Prop :=
  Arr Z Z.heap a cl (.object K) ∧ cl.slots.size = z.toNatClampNeg ∧ ¬ z < 0 ∧ ∀ j : Int32, ¬ (j < 0 ∨ cl.slots.size ≤ j.toNatClampNeg) → ∃ b : Addr, cl.slots[j.toNatClampNeg]? = some (.ref b) ∧ Exa Z Z.heap b K
theorem Bx.start {Z : State} {a0 : Array Value} {t : Term} {c : Jvm.Cond} {a : Addr} {K : String} {z : Int32} (et : ∀ idx, t.eval a0 Z none idx Z = some (.ref a)) (ha : (Jvm.Cond.arrayOf t (.object K)).value a0 Z none Z [] = some true) (hl : (Jvm.Cond.eq (.length t) (.int z)).value a0 Z none Z [] = some true) (hz : ¬ z < 0)
    (h : (Jvm.Cond.all t (.and (.exactly (.elem t (.index 0)) K) c)).value a0 Z none Z [] = some true) : ∃ cl, Bx Z a cl K z := by
  obtain ⟨cl, A⟩ := Arr.start (et []) ha
  have e1 := eqv_int hl (Term.int_eval z)
  obtain ⟨a', cl', e2, e3, e4⟩ := Term.length_spec e1
  cases (et []).symm.trans e2
  cases (State.arrayAt?_spec e3).1.symm.trans A.1
  have q : cl.slots.size < 2 ^ 31 := by
    simp only [Term.eval, et [], e3, Option.bind_eq_bind, Option.bind_some] at e1
    by_cases q : cl.slots.size < 2 ^ 31
    · exact q
    · simp [q] at e1
  have e := (Value.int.inj e4).symm
  refine ⟨cl, A, by rw [← e]; simp only [Int32.toNatClampNeg, len_toInt q]; rfl, hz, fun j hj => ?_⟩
  have nn : ¬ j < 0 := fun x => hj (Or.inl x)
  obtain ⟨u1, -⟩ := and_e (Cond.all_elim (et []) (A.fin (Vm.Alike.refl _)) h j.toNatClampNeg (Nat.lt_of_not_le fun x => hj (Or.inr x)))
  obtain ⟨box, eb⟩ := exa_v u1
  exact ⟨box, (elem_f (et _) (idx_at nn) (A.fin (Vm.Alike.refl _)) nn).symm.trans eb, exa_at eb u1⟩
theorem natOf {i : Int32} {n : Nat} (h0 : 0 ≤ i.toInt) (h1 : i.toInt < (n : Int)) : ∃ j : Nat, j < n ∧ i = Int32.ofInt (j : Int) := ⟨i.toInt.toNat, by omega, by rw [Int.toNat_of_nonneg h0]; exact (Int32.ofInt_toInt i).symm⟩
theorem own_in {i z : Int32} {D : Int} (h0 : 0 ≤ i.toInt) (h1 : i.toInt < D) (hz : z.toInt = D) : ¬ i < 0 ∧ i < z := ⟨by rw [Int32.lt_iff_toInt_lt]; exact Int.not_lt.mpr h0, by rw [Int32.lt_iff_toInt_lt, hz]; exact h1⟩
theorem modR (k d : Int32) (D : Int) (hd : d.toInt = D) (hD : 0 < D) : 0 ≤ ((k &&& 2147483647) % d).toInt ∧ ((k &&& 2147483647) % d).toInt < D := by
  have h := (c_and k 2147483647 (by decide)).1
  rw [(c_irem _ d D hd).1 h]; exact ⟨Int.emod_nonneg _ (by omega), Int.emod_lt_of_pos _ hD⟩
theorem and1 (k : Int32) : k &&& 1 = 0 ∨ k &&& 1 = 1 := by
  obtain ⟨j, h, e⟩ := natOf (n := 2) (c_and k 1 (by decide)).1 (Int.lt_of_le_of_lt (c_and k 1 (by decide)).2 (by decide))
  rw [e]
  have h2 : j = 0 ∨ j = 1 := by omega
  rcases h2 with rfl | rfl
  · exact Or.inl rfl
  · exact Or.inr rfl
theorem and3 (k : Int32) : k &&& 3 = 0 ∨ k &&& 3 = 1 ∨ k &&& 3 = 2 ∨ k &&& 3 = 3 := by
  obtain ⟨j, h, e⟩ := natOf (n := 4) (c_and k 3 (by decide)).1 (Int.lt_of_le_of_lt (c_and k 3 (by decide)).2 (by decide))
  rw [e]
  have h2 : j = 0 ∨ j = 1 ∨ j = 2 ∨ j = 3 := by omega
  rcases h2 with rfl | rfl | rfl | rfl
  · exact Or.inl rfl
  · exact Or.inr (Or.inl rfl)
  · exact Or.inr (Or.inr (Or.inl rfl))
  · exact Or.inr (Or.inr (Or.inr rfl))
theorem maskNeg (k : Int32) : ¬ (k &&& 2147483647) < 0 := by
  rw [Int32.lt_iff_toInt_lt]; exact Int.not_lt.mpr (c_and k 2147483647 (by decide)).1
/-- an array that stood at the start, by the case's words -/
theorem arv_start {Z : State} {a0 : Array Value} {t : Term} {a : Addr} {ty : FieldType} {z : Int32} {vs : List Value} {dv : Value} (hF : Fit Z) (ha : (Jvm.Cond.arrayOf t ty).value a0 Z none Z [] = some true) (ht : t.eval a0 Z none [] Z = some (.ref a)) (hl : (Jvm.Cond.eq (.length t) (.int z)).value a0 Z none Z [] = some true)
    (hz : ¬ z < 0) (hn : z.toNatClampNeg = vs.length) (H : ∀ cl : Cell, Z.heap[a]? = some cl → HasL cl 0 vs) : ∃ kc, Arv Z Z.heap a kc ty z vs dv := by
  obtain ⟨cl, A⟩ := Arr.start ht ha
  have e1 := eqv_int hl (Term.int_eval z)
  obtain ⟨a', cl', e2, e3, e4⟩ := Term.length_spec e1
  cases ht.symm.trans e2
  cases (State.arrayAt?_spec e3).1.symm.trans A.1
  have hb : cl.slots.size < 2 ^ 31 := by
    simp only [Term.eval, ht, e3, Option.bind_eq_bind, Option.bind_some] at e1
    by_cases q : cl.slots.size < 2 ^ 31
    · exact q
    · simp [q] at e1
  exact ⟨cl.cls, Arv.start hF A hb (Value.int.inj e4).symm hz hn (H cl A.1)⟩
theorem elem_slot {Z : State} {a0 : Array Value} {t u : Term} {a b : Addr} {j : Int32} {n : Nat} {cl : Cell} (h : (Jvm.Cond.eq (.elem t (.int j)) u).value a0 Z none Z [] = some true) (ht : t.eval a0 Z none [] Z = some (.ref a)) (hu : u.eval a0 Z none [] Z = some (.ref b)) (hn : j.toNatClampNeg = n) (hc : Z.heap[a]? = some cl) : cl.slots[n]? = some (.ref b) := by
  subst hn
  exact (elem_in (eqv_ref h hu) ht (Term.int_eval j) hc).2
theorem elem_slotI {Z : State} {a0 : Array Value} {t : Term} {a : Addr} {j b : Int32} {n : Nat} {cl : Cell} (h : (Jvm.Cond.eq (.elem t (.int j)) (.int b)).value a0 Z none Z [] = some true) (ht : t.eval a0 Z none [] Z = some (.ref a)) (hn : j.toNatClampNeg = n) (hc : Z.heap[a]? = some cl) : cl.slots[n]? = some (.int b) := by
  subst hn
  exact (elem_in (eqv_int h (Term.int_eval b)) ht (Term.int_eval j) hc).2
theorem len_start {Z : State} {a0 : Array Value} {t : Term} {a : Addr} {cl : Cell} {ty : FieldType} {z : Int32} (A : Arr Z Z.heap a cl ty) (ht : t.eval a0 Z none [] Z = some (.ref a)) (hl : (Jvm.Cond.eq (.length t) (.int z)).value a0 Z none Z [] = some true) : cl.slots.size = z.toNatClampNeg := by
  have e1 := eqv_int hl (Term.int_eval z)
  obtain ⟨a', cl', e2, e3, e4⟩ := Term.length_spec e1
  cases ht.symm.trans e2
  cases (State.arrayAt?_spec e3).1.symm.trans A.1
  have q : cl.slots.size < 2 ^ 31 := by
    simp only [Term.eval, ht, e3, Option.bind_eq_bind, Option.bind_some] at e1
    by_cases q : cl.slots.size < 2 ^ 31
    · exact q
    · simp [q] at e1
  have e := (Value.int.inj e4).symm
  rw [← e]; simp only [Int32.toNatClampNeg, len_toInt q]; rfl
theorem hasL_rep {cl : Cell} {v : Value} : ∀ (n i : Nat), (∀ j, i ≤ j → j < i + n → cl.slots[j]? = some v) → HasL cl i (List.replicate n v)
  | 0, _, _ => trivial
  | n + 1, i, h => ⟨h i (Nat.le_refl _) (by omega), hasL_rep n (i + 1) fun j h1 h2 => h j (by omega) (by omega)⟩
/-- a String that stood at the start, by the case's words -/
theorem str_start {Z : State} {a0 : Array Value} {t : Term} {a : Addr} {z : Int32} {bs : List Int32} (hF : Fit Z) (ht : t.eval a0 Z none [] Z = some (.ref a)) (hx : (Jvm.Cond.exactly t "java/lang/String").value a0 Z none Z [] = some true) (hc : (Jvm.Cond.eq (.field t "java/lang/String" "coder" "B") (.int 0)).value a0 Z none Z [] = some true) (ha : (Jvm.Cond.arrayOf (.field t "java/lang/String" "value" "[B") .byte).value a0 Z none Z [] = some true) (hl : (Jvm.Cond.eq (.length (.field t "java/lang/String" "value" "[B")) (.int z)).value a0 Z none Z [] = some true) (hz : ¬ z < 0) (hn : z = Int32.ofNat bs.length) (hb : bs.length < 2 ^ 31)
    (H : ∀ (b : Addr) (cl : Cell), (Term.field t "java/lang/String" "value" "[B").eval a0 Z none [] Z = some (.ref b) → Arr Z Z.heap b cl .byte → cl.slots.size = bs.length → HasL cl 0 (bs.map .int)) : ∃ b, StrL Z Z.heap a b 0 bs := by
  obtain ⟨b, eb⟩ := arr_v ha
  obtain ⟨cl0, A0⟩ := Arr.start eb ha
  have hs := len_start A0 eb hl
  subst hn
  obtain ⟨kc, A⟩ := arv_start (vs := bs.map .int) (dv := .int 0) hF ha eb hl hz (by rw [ofN_clamp hb, List.length_map]) (fun cl hcl => by cases A0.1.symm.trans hcl; exact H b _ eb A0 (by rw [hs, ofN_clamp hb]))
  exact ⟨b, Exa.start ht hx, Fld.start (by rw [← fld_at ht]; exact eb), fld_int hc ht, kc, A, hb⟩
theorem str_all {Z : State} {a0 : Array Value} {F : Term} {b : Addr} {cl : Cell} {n : Nat} {v : Int32} (eF : ∀ idx, F.eval a0 Z none idx Z = some (.ref b)) (A : Arr Z Z.heap b cl .byte) (hs : cl.slots.size = n) (hn : n < 2 ^ 31) (hall : (Jvm.Cond.all F (.eq (.elem F (.index 0)) (.int v))).value a0 Z none Z [] = some true) : HasL cl 0 (List.replicate n (.int v)) :=
  hasL_rep n 0 fun j _ hj => by
    have h31 : j < 2 ^ 31 := by omega
    have u := Cond.all_elim (eF []) (A.fin (Vm.Alike.refl _)) hall j (by omega)
    have ix := idx_at (s := Z) (args := a0) (first := Z) (o := none) (j := Int32.ofNat j) (ofN_nn h31)
    rw [ofN_clamp h31] at ix
    have e := elem_f (eF [j]) ix (A.fin (Vm.Alike.refl _)) (ofN_nn h31)
    rw [ofN_clamp h31] at e
    exact e.symm.trans (eqv_int u (Term.int_eval v))
/-- null, or a String -/
def Sn (Z : State) (h : Heap) (v : Value) : Prop := v = .null ∨ ∃ s, v = .ref s ∧ Exa Z h s "java/lang/String"
theorem Sn.ext {Z : State} {h h' : Heap} {v : Value} (F : Sn Z h v) (E : Ext h h') : Sn Z h' v := by
  rcases F with q | ⟨s, q, X⟩
  · exact Or.inl q
  · exact Or.inr ⟨s, q, X.ext E⟩
theorem Sn.isRef {Z : State} {h : Heap} {v : Value} (F : Sn Z h v) : v.isRef = true := by rcases F with rfl | ⟨s, rfl, -⟩ <;> rfl
/-- the conjuncts of a condition -/
def ands : Jvm.Cond → List Jvm.Cond
  | .and a b => a :: ands b
  | c => [c]
theorem ands_all {args : Array Value} {s : State} : ∀ (c : Jvm.Cond), c.value args s none s [] = some true → ∀ d ∈ ands c, d.value args s none s [] = some true := by
  intro c
  induction c with
  | and a b _ ih =>
    intro h d hd
    obtain ⟨h1, h2⟩ := and_e h
    rcases List.mem_cons.mp hd with rfl | hd
    · exact h1
    · exact ih h2 d hd
  | _ => intro h d hd; cases List.mem_singleton.mp hd; exact h
theorem nw {c : Jvm.Cond} {Z : State} {a0 : Array Value} (hn : c.value a0 Z none Z [] = some true) (i : Nat) {d : Jvm.Cond} (h : (ands c)[i]? = some d) : d.value a0 Z none Z [] = some true := ands_all c hn d (List.mem_of_getElem? h)
/-- the object that a static holds at the start -/
def sad (Z : State) (a0 : Array Value) (C f d : String) : Addr := match (Term.static C f d).eval a0 Z none [] Z with | some (.ref a) => a | _ => 0
theorem sad_eq {Z : State} {a0 : Array Value} {C f d : String} {a : Addr} (h : (Term.static C f d).eval a0 Z none [] Z = some (.ref a)) : sad Z a0 C f d = a := by simp only [sad, h]
theorem sad_exa {Z : State} {a0 : Array Value} {C f d K : String} (hx : (Jvm.Cond.exactly (.static C f d) K).value a0 Z none Z [] = some true) (hi : (Jvm.Cond.initialized C).before a0 Z = true) (hl : (Jvm.Cond.laysStatic C f d).before a0 Z = true) :
    (Term.static C f d).eval a0 Z none [] Z = some (.ref (sad Z a0 C f d)) ∧ Sta Z Z.heap C f d (.ref (sad Z a0 C f d)) ∧ Exa Z Z.heap (sad Z a0 C f d) K := by
  obtain ⟨a, ev, S, E⟩ := sta_exa hx hi hl
  rw [sad_eq ev]; exact ⟨ev, S, E⟩
theorem nb1 : nar .boolean 1 = 1 := rfl
theorem nb0 : nar .boolean 0 = 0 := rfl
theorem rne {a b : Addr} (q : a ≠ b) : ¬ (Value.ref a = Value.ref b) := fun e => q (Value.ref.inj e)
theorem narR {t : FieldType} {v : Value} (h : v.isRef = true) : narrow t v = v := by cases v <;> cases t <;> first | rfl | (simp [Value.isRef] at h)
theorem fitR {t : FieldType} {v : Value} (h : v.isRef = true) (ht : t.isReference = true) : fits t v = true := by cases t <;> simp [FieldType.isReference] at ht <;> cases v <;> first | rfl | (simp [Value.isRef] at h)
end Jvm.OwnW
namespace Jvm.Pilot.@@N@@
open Jvm Jvm.ClassFile Sem Op Lib Jvm.Free Jvm.Stand Jvm.LawKit Jvm.RoadKit Jvm.OwnW Bundle Jvm.Pilot.@@N@@.Jvm.D
theorem tw {Z : State} {a0 : Array Value} (hw : ∀ d ∈ tables_1, d.before a0 Z = true) (i : Nat) {d : Jvm.Cond} (h : tables_1[i]? = some d) : d.before a0 Z = true := hw _ (List.mem_of_getElem? h)
theorem fit_of {s : State} (hF : heapFits s = true) : Fit s := fun {y c} hc i hi => by
  obtain ⟨ha, rfl⟩ := Array.getElem?_eq_some_iff.mp hc
  have q := List.all_eq_true.mp ((Array.all_eq_true_iff_forall_mem.mp hF) _ (Array.getElem_mem ha)) i (List.mem_range.mpr hi)
  simpa [Array.getElem?_eq_getElem hi] using q
theorem pn_com_example_matchbook_matchbook_book_Owner : plainName "com/example/matchbook/matchbook/book/Owner" = true := by first | (simp [plainName, overriddenIn]; done) | decide +kernel
theorem pn_com_example_matchbook_matchbook_book_OwnerEqualsPinLaw : plainName "com/example/matchbook/matchbook/book/OwnerEqualsPinLaw" = true := by first | (simp [plainName, overriddenIn]; done) | decide +kernel
theorem pn_java_lang_String : plainName "java/lang/String" = true := by first | (simp [plainName, overriddenIn]; done) | decide +kernel
theorem pn_java_lang_StringLatin1 : plainName "java/lang/StringLatin1" = true := by first | (simp [plainName, overriddenIn]; done) | decide +kernel
theorem pn_java_lang_StringUTF16 : plainName "java/lang/StringUTF16" = true := by first | (simp [plainName, overriddenIn]; done) | decide +kernel
theorem pn_java_util_Objects : plainName "java/util/Objects" = true := by first | (simp [plainName, overriddenIn]; done) | decide +kernel
theorem pd_0 : parseMethodDescriptor "([CI[BII)I" = some ⟨[(.array .char), .int, (.array .byte), .int, .int], some .int⟩ := by decide +kernel
theorem pd_1 : parseMethodDescriptor "([CII)[B" = some ⟨[(.array .char), .int, .int], some (.array .byte)⟩ := by decide +kernel
theorem pd_2 : parseMethodDescriptor "([BI)B" = some ⟨[(.array .byte), .int], some .byte⟩ := by decide +kernel
theorem pd_3 : parseMethodDescriptor "([CIILjava/lang/Void;)V" = some ⟨[(.array .char), .int, .int, (.object "java/lang/Void")], none⟩ := by decide +kernel
theorem pd_4 : parseMethodDescriptor "([B[B)Z" = some ⟨[(.array .byte), (.array .byte)], some .boolean⟩ := by decide +kernel
theorem pd_5 : parseMethodDescriptor "([C)V" = some ⟨[(.array .char)], none⟩ := by decide +kernel
theorem pd_6 : parseMethodDescriptor "(Ljava/lang/Object;Ljava/lang/String;)Ljava/lang/Object;" = some ⟨[(.object "java/lang/Object"), (.object "java/lang/String")], some (.object "java/lang/Object")⟩ := by decide +kernel
theorem pd_7 : parseMethodDescriptor "(Ljava/lang/Object;)Z" = some ⟨[(.object "java/lang/Object")], some .boolean⟩ := by decide +kernel
theorem pd_8 : parseMethodDescriptor "(ICC)Ljava/lang/String;" = some ⟨[.int, .char, .char], some (.object "java/lang/String")⟩ := by decide +kernel
theorem pd_9 : parseMethodDescriptor "(Ljava/lang/String;Ljava/lang/String;Lcom/example/matchbook/matchbook/book/MatchKind;)V" = some ⟨[(.object "java/lang/String"), (.object "java/lang/String"), (.object "com/example/matchbook/matchbook/book/MatchKind")], none⟩ := by decide +kernel
theorem pd_10 : parseMethodDescriptor "(ICCICC)Z" = some ⟨[.int, .char, .char, .int, .char, .char], some .boolean⟩ := by decide +kernel
theorem own_EW {Z : State} {a0 : Array Value} (hw : ∀ d ∈ tables_1, d.before a0 Z = true) : EW Z a0 consts_1 := (EW.cons (tw hw 38 rfl) (by decide) (EW.cons (tw hw 46 rfl) (by decide) (EW.cons (tw hw 49 rfl) (by decide) (EW.cons (tw hw 23 rfl) (by decide) EW.nil))))
def A_FULL (Z : State) (a0 : Array Value) : Addr := sad Z a0 "com/example/matchbook/matchbook/book/MatchKind" "FULL" "Lcom/example/matchbook/matchbook/book/MatchKind;"
theorem s_FULL {Z : State} {a0 : Array Value} (hw : ∀ d ∈ tables_1, d.before a0 Z = true) (hn : narrow_1.value a0 Z none Z [] = some true) : (Term.static "com/example/matchbook/matchbook/book/MatchKind" "FULL" "Lcom/example/matchbook/matchbook/book/MatchKind;").eval a0 Z none [] Z = some (.ref (A_FULL Z a0)) ∧ Sta Z Z.heap "com/example/matchbook/matchbook/book/MatchKind" "FULL" "Lcom/example/matchbook/matchbook/book/MatchKind;" (.ref (A_FULL Z a0)) ∧ Exa Z Z.heap (A_FULL Z a0) "com/example/matchbook/matchbook/book/MatchKind" := sad_exa (nw hn 0 rfl) (tw hw 1 rfl) (tw hw 2 rfl)
def A_PARTIAL (Z : State) (a0 : Array Value) : Addr := sad Z a0 "com/example/matchbook/matchbook/book/MatchKind" "PARTIAL" "Lcom/example/matchbook/matchbook/book/MatchKind;"
theorem s_PARTIAL {Z : State} {a0 : Array Value} (hw : ∀ d ∈ tables_1, d.before a0 Z = true) (hn : narrow_1.value a0 Z none Z [] = some true) : (Term.static "com/example/matchbook/matchbook/book/MatchKind" "PARTIAL" "Lcom/example/matchbook/matchbook/book/MatchKind;").eval a0 Z none [] Z = some (.ref (A_PARTIAL Z a0)) ∧ Sta Z Z.heap "com/example/matchbook/matchbook/book/MatchKind" "PARTIAL" "Lcom/example/matchbook/matchbook/book/MatchKind;" (.ref (A_PARTIAL Z a0)) ∧ Exa Z Z.heap (A_PARTIAL Z a0) "com/example/matchbook/matchbook/book/MatchKind" := sad_exa (nw hn 1 rfl) (tw hw 1 rfl) (tw hw 4 rfl)
theorem f_FULL_ordinal {Z : State} {a0 : Array Value} (hw : ∀ d ∈ tables_1, d.before a0 Z = true) (hn : narrow_1.value a0 Z none Z [] = some true) : Fld Z Z.heap (A_FULL Z a0) "java/lang/Enum" "ordinal" "I" (.int (0 : Int32)) := fld_int (nw hn 2 rfl) (s_FULL hw hn).1
theorem f_PARTIAL_ordinal {Z : State} {a0 : Array Value} (hw : ∀ d ∈ tables_1, d.before a0 Z = true) (hn : narrow_1.value a0 Z none Z [] = some true) : Fld Z Z.heap (A_PARTIAL Z a0) "java/lang/Enum" "ordinal" "I" (.int (1 : Int32)) := fld_int (nw hn 3 rfl) (s_PARTIAL hw hn).1
def own_bytes (l a b : Int32) : List Int32 := if l = 0 then [] else if l = 1 then [nar .byte a] else [nar .byte a, nar .byte b]
def own_same (l1 x0 x1 l2 y0 y1 : Int32) : Int32 := if l1 = l2 ∧ (¬ l1 < 1 → x0 = y0) ∧ (¬ l1 < 2 → x1 = y1) then 1 else 0
/-- a length 0, 1, 2 and two small chars -/
def own_ok (l a b : Int32) : Prop := (l = 0 ∨ l = 1 ∨ l = 2) ∧ nar .char a = a ∧ nar .char b = b ∧ (¬ 255 < a) ∧ (¬ 255 < b) ∧ 0 ≤ a.toInt ∧ 0 ≤ b.toInt
theorem own_okd (v a b : Int32) : own_ok ((v &&& (3 : Int32)) % (3 : Int32)) (nar .char (a &&& (255 : Int32))) (nar .char (b &&& (255 : Int32))) := by
  refine ⟨?_, ncc _, ncc _, le255n _, le255n _, ?_, ?_⟩
  · rcases and3 v with e | e | e | e <;> rw [e] <;> decide
  · rw [nar_and]; exact (c_and a 255 (by decide)).1
  · rw [nar_and]; exact (c_and b 255 (by decide)).1
theorem own_sameb {l a b m c d : Int32} (h : own_ok l a b) (g : own_ok m c d) : own_same l a b m c d = 0 ∧ ¬ own_bytes l a b = own_bytes m c d ∨ ¬ own_same l a b m c d = 0 ∧ own_bytes l a b = own_bytes m c d := by
  obtain ⟨h1, -, -, h2, h3, h4, h5⟩ := h
  obtain ⟨g1, -, -, g2, g3, g4, g5⟩ := g
  have e1 : nar .byte a = nar .byte c ↔ a = c := ⟨nb_inj h4 h2 g4 g2, fun e => by rw [e]⟩
  have e2 : nar .byte b = nar .byte d ↔ b = d := ⟨nb_inj h5 h3 g5 g3, fun e => by rw [e]⟩
  have d1 : ¬ ((0 : Int32) = 1) := by decide
  have d2 : ¬ ((0 : Int32) = 2) := by decide
  have d3 : ¬ ((1 : Int32) = 0) := by decide
  have d4 : ¬ ((1 : Int32) = 2) := by decide
  have d5 : ¬ ((2 : Int32) = 0) := by decide
  have d6 : ¬ ((2 : Int32) = 1) := by decide
  have l0 : (0 : Int32) < 1 := by decide
  have l1 : (0 : Int32) < 2 := by decide
  have l2 : ¬ (1 : Int32) < 1 := by decide
  have l3 : (1 : Int32) < 2 := by decide
  have l4 : ¬ (2 : Int32) < 1 := by decide
  have l5 : ¬ (2 : Int32) < 2 := by decide
  by_cases p : a = c <;> by_cases q : b = d <;> rcases h1 with rfl | rfl | rfl <;> rcases g1 with rfl | rfl | rfl <;> simp [own_same, own_bytes, e1, e2, p, q, d1, d2, d3, d4, d5, d6, l0, l1, l2, l3, l4, l5]
theorem own_if0 {p : Prop} [Decidable p] (h : (if p then (1 : Int32) else 0) = 0) : ¬ p := fun e => by rw [if_pos e] at h; exact absurd h (by decide)
theorem own_if1 {p : Prop} [Decidable p] (h : ¬ (if p then (1 : Int32) else 0) = 0) : p := Classical.byContradiction fun e => h (if_neg e)
section OwnEq
variable {s1 s2 p1 p2 : Int32} {m1 m2 : Addr} {a b c d : List Int32}
theorem own_eqY (h1 : s1 = 0 ∧ ¬ a = b ∨ ¬ s1 = 0 ∧ a = b) (h2 : s2 = 0 ∧ ¬ c = d ∨ ¬ s2 = 0 ∧ c = d) (hm : m1 = m2 ↔ p1 = p2) (h : ¬ s1 = 0 ∧ ¬ s2 = 0 ∧ p1 = p2) : (if a = b ∧ c = d ∧ m1 = m2 then (1 : Int32) else 0) = 1 := if_pos ⟨(h1.resolve_left fun e => h.1 e.1).2, (h2.resolve_left fun e => h.2.1 e.1).2, hm.mpr h.2.2⟩
theorem own_eqN (h1 : s1 = 0 ∧ ¬ a = b ∨ ¬ s1 = 0 ∧ a = b) (h2 : s2 = 0 ∧ ¬ c = d ∨ ¬ s2 = 0 ∧ c = d) (hm : m1 = m2 ↔ p1 = p2) (h : ¬ (¬ s1 = 0 ∧ ¬ s2 = 0 ∧ p1 = p2)) : (if a = b ∧ c = d ∧ m1 = m2 then (1 : Int32) else 0) = 0 := if_neg fun e => h ⟨(h1.resolve_left fun z => z.2 e.1).1, (h2.resolve_left fun z => z.2 e.2.1).1, hm.mp e.2.2⟩
theorem own_eqY' (h1 : s1 = 0 ∧ ¬ a = b ∨ ¬ s1 = 0 ∧ a = b) (h2 : s2 = 0 ∧ ¬ c = d ∨ ¬ s2 = 0 ∧ c = d) (hm : m1 = m2 ↔ p1 = p2) (h : ¬ s1 = 0 ∧ ¬ s2 = 0 ∧ p1 = p2) : (if b = a ∧ d = c ∧ m2 = m1 then (1 : Int32) else 0) = 1 := by
  have := own_eqY h1 h2 hm h
  by_cases q : b = a ∧ d = c ∧ m2 = m1
  · exact if_pos q
  · rw [if_neg (fun e => q ⟨e.1.symm, e.2.1.symm, e.2.2.symm⟩)] at this; exact absurd this (by decide)
theorem own_eqN' (h1 : s1 = 0 ∧ ¬ a = b ∨ ¬ s1 = 0 ∧ a = b) (h2 : s2 = 0 ∧ ¬ c = d ∨ ¬ s2 = 0 ∧ c = d) (hm : m1 = m2 ↔ p1 = p2) (h : ¬ (¬ s1 = 0 ∧ ¬ s2 = 0 ∧ p1 = p2)) : (if b = a ∧ d = c ∧ m2 = m1 then (1 : Int32) else 0) = 0 := by
  have := own_eqN h1 h2 hm h
  refine if_neg fun e => ?_
  rw [if_pos ⟨e.1.symm, e.2.1.symm, e.2.2.symm⟩] at this; exact absurd this (by decide)
end OwnEq
theorem own_no {Z : State} {a0 : Array Value} (hw : ∀ d ∈ tables_1, d.before a0 Z = true) : ∃ c t, Z.vm.findClass "java/lang/String" = some c ∧ Z.vm.findClass "com/example/matchbook/matchbook/book/Owner" = some t ∧ Z.vm.assignable c t = false := ns_no (tw hw 77 rfl) (tw hw 32 rfl) (NS.step (tw hw 77 rfl) (ns_root (tw hw 78 rfl) (tw hw 32 rfl) (by decide)) (by decide)) (by decide)
theorem own_pf {Z : State} {a0 : Array Value} (hw : ∀ d ∈ tables_1, d.before a0 Z = true) (hn : narrow_1.value a0 Z none Z [] = some true) : ¬ (A_PARTIAL Z a0) = (A_FULL Z a0) := ord_ne (f_PARTIAL_ordinal hw hn) (f_FULL_ordinal hw hn) (by decide)
theorem own_sA {Z : State} {a0 : Array Value} (hw : ∀ d ∈ tables_1, d.before a0 Z = true) : ∀ a ∈ Bundle.stringAtoms, a.before a0 Z = true := by
  intro a ha
  simp only [Bundle.stringAtoms, List.mem_cons, List.not_mem_nil, or_false] at ha
  rcases ha with rfl | rfl | rfl | rfl | rfl | rfl | rfl
  · exact (tw hw 11 rfl)
  · exact (tw hw 10 rfl)
  · exact (tw hw 24 rfl)
  · exact (tw hw 25 rfl)
  · exact (tw hw 26 rfl)
  · exact (tw hw 27 rfl)
  · exact (tw hw 28 rfl)
theorem own_held {tb : Tables} {e : Env} {a : Array Value} {s : State} (h : Calls_1 tb e a s) : ∀ p ∈ consts_1, Jvm.Lit.constHeld s p.1 p.2 := fun p hp => h.1 p hp
theorem efS (m : MethodId) (x0 : Int32) (x1 : Int32) (x2 : Int32) : entryFrame m #[(.int x0), (.int x1), (.int x2)] 4 = mkF m 0 #[.val (.int x0), .val (.int x1), .val (.int x2), .unset] [] := by first | (simp [entryFrame, mkF, argsToLocals, Value.category]; done) | rfl
theorem efN (m : MethodId) (x0 : Addr) (x1 : Addr) : entryFrame m #[(.ref x0), (.ref x1)] 2 = mkF m 0 #[.val (.ref x0), .val (.ref x1)] [] := by first | (simp [entryFrame, mkF, argsToLocals, Value.category]; done) | rfl
theorem efI (m : MethodId) (x0 : Addr) (x1 : Addr) (x2 : Addr) (x3 : Addr) : entryFrame m #[(.ref x0), (.ref x1), (.ref x2), (.ref x3)] 4 = mkF m 0 #[.val (.ref x0), .val (.ref x1), .val (.ref x2), .val (.ref x3)] [] := by first | (simp [entryFrame, mkF, argsToLocals, Value.category]; done) | rfl
theorem efE (m : MethodId) (x0 : Addr) (x1 : Addr) : entryFrame m #[(.ref x0), (.ref x1)] 3 = mkF m 0 #[.val (.ref x0), .val (.ref x1), .unset] [] := by first | (simp [entryFrame, mkF, argsToLocals, Value.category]; done) | rfl
theorem efEn (m : MethodId) (x0 : Addr) : entryFrame m #[(.ref x0), .null] 3 = mkF m 0 #[.val (.ref x0), .val .null, .unset] [] := by first | (simp [entryFrame, mkF, argsToLocals, Value.category]; done) | rfl
theorem efSa (m : MethodId) (x0 : Int32) (x1 : Int32) (x2 : Int32) (x3 : Int32) (x4 : Int32) (x5 : Int32) : entryFrame m #[(.int x0), (.int x1), (.int x2), (.int x3), (.int x4), (.int x5)] 6 = mkF m 0 #[.val (.int x0), .val (.int x1), .val (.int x2), .val (.int x3), .val (.int x4), .val (.int x5)] [] := by first | (simp [entryFrame, mkF, argsToLocals, Value.category]; done) | rfl
theorem ef0 (m : MethodId) (x0 : Int32) (x1 : Int32) (x2 : Int32) (x3 : Int32) (x4 : Int32) (x5 : Int32) : entryFrame m #[(.int x0), (.int x1), (.int x2), (.int x3), (.int x4), (.int x5)] maxLocals = mkF m 0 #[.val (.int x0), .val (.int x1), .val (.int x2), .val (.int x3), .val (.int x4), .val (.int x5), .unset, .unset, .unset, .unset, .unset, .unset, .unset, .unset, .unset, .unset, .unset, .unset, .unset, .unset, .unset, .unset, .unset, .unset, .unset, .unset, .unset, .unset, .unset, .unset] [] := by first | (simp [entryFrame, mkF, argsToLocals, Value.category, maxLocals]; done) | rfl
theorem d10_0 : Dc jdk_52_method_21_code 0 (.iconst 0) 1 1 := ⟨by decide +kernel, rfl⟩
theorem d10_1 : Dc jdk_52_method_21_code 1 (.istore 5) 2 3 := ⟨by decide +kernel, rfl⟩
theorem d10_3 : Dc jdk_52_method_21_code 3 (.iload 5) 2 5 := ⟨by decide +kernel, rfl⟩
theorem d10_5 : Dc jdk_52_method_21_code 5 (.iload 4) 2 7 := ⟨by decide +kernel, rfl⟩
theorem d10_7 : Dc jdk_52_method_21_code 7 (.if_icmp .ge 37) 3 10 := ⟨by decide +kernel, rfl⟩
theorem d10_7t : Tg 7 (37) 44 := ⟨by decide, by decide⟩
theorem d10_10 : Dc jdk_52_method_21_code 10 (.aload_n 0) 1 11 := ⟨by decide +kernel, rfl⟩
theorem d10_11 : Dc jdk_52_method_21_code 11 (.iload_n 1) 1 12 := ⟨by decide +kernel, rfl⟩
theorem d10_12 : Dc jdk_52_method_21_code 12 .caload 1 13 := ⟨by decide +kernel, rfl⟩
theorem d10_13 : Dc jdk_52_method_21_code 13 (.istore 6) 2 15 := ⟨by decide +kernel, rfl⟩
theorem d10_15 : Dc jdk_52_method_21_code 15 (.iload 6) 2 17 := ⟨by decide +kernel, rfl⟩
theorem d10_17 : Dc jdk_52_method_21_code 17 (.sipush 255) 3 20 := ⟨by decide +kernel, rfl⟩
theorem d10_20 : Dc jdk_52_method_21_code 20 (.if_icmp .le 6) 3 23 := ⟨by decide +kernel, rfl⟩
theorem d10_20t : Tg 20 (6) 26 := ⟨by decide, by decide⟩
theorem d10_23 : Dc jdk_52_method_21_code 23 (.iload 5) 2 25 := ⟨by decide +kernel, rfl⟩
theorem d10_25 : Dc jdk_52_method_21_code 25 .ireturn 1 26 := ⟨by decide +kernel, rfl⟩
theorem d10_26 : Dc jdk_52_method_21_code 26 (.aload_n 2) 1 27 := ⟨by decide +kernel, rfl⟩
theorem d10_27 : Dc jdk_52_method_21_code 27 (.iload_n 3) 1 28 := ⟨by decide +kernel, rfl⟩
theorem d10_28 : Dc jdk_52_method_21_code 28 (.iload 6) 2 30 := ⟨by decide +kernel, rfl⟩
theorem d10_30 : Dc jdk_52_method_21_code 30 .i2b 1 31 := ⟨by decide +kernel, rfl⟩
theorem d10_31 : Dc jdk_52_method_21_code 31 .bastore 1 32 := ⟨by decide +kernel, rfl⟩
theorem d10_32 : Dc jdk_52_method_21_code 32 (.iinc 1 1) 3 35 := ⟨by decide +kernel, rfl⟩
theorem d10_35 : Dc jdk_52_method_21_code 35 (.iinc 3 1) 3 38 := ⟨by decide +kernel, rfl⟩
theorem d10_38 : Dc jdk_52_method_21_code 38 (.iinc 5 1) 3 41 := ⟨by decide +kernel, rfl⟩
theorem d10_41 : Dc jdk_52_method_21_code 41 (.goto (-38)) 3 44 := ⟨by decide +kernel, rfl⟩
theorem d10_41t : Tg 41 (-38) 3 := ⟨by decide, by decide⟩
theorem d10_44 : Dc jdk_52_method_21_code 44 (.iload 4) 2 46 := ⟨by decide +kernel, rfl⟩
theorem d10_46 : Dc jdk_52_method_21_code 46 .ireturn 1 47 := ⟨by decide +kernel, rfl⟩
theorem d9_0 : Dc jdk_52_method_16_code 0 (.iload_n 2) 1 1 := ⟨by decide +kernel, rfl⟩
theorem d9_1 : Dc jdk_52_method_16_code 1 (.newarray .byte) 2 3 := ⟨by decide +kernel, rfl⟩
theorem d9_3 : Dc jdk_52_method_16_code 3 (.astore_n 3) 1 4 := ⟨by decide +kernel, rfl⟩
theorem d9_4 : Dc jdk_52_method_16_code 4 (.aload_n 0) 1 5 := ⟨by decide +kernel, rfl⟩
theorem d9_5 : Dc jdk_52_method_16_code 5 (.iload_n 1) 1 6 := ⟨by decide +kernel, rfl⟩
theorem d9_6 : Dc jdk_52_method_16_code 6 (.aload_n 3) 1 7 := ⟨by decide +kernel, rfl⟩
theorem d9_7 : Dc jdk_52_method_16_code 7 (.iconst 0) 1 8 := ⟨by decide +kernel, rfl⟩
theorem d9_8 : Dc jdk_52_method_16_code 8 (.iload_n 2) 1 9 := ⟨by decide +kernel, rfl⟩
theorem d9_9 : Dc jdk_52_method_16_code 9 (.invokestatic 115) 3 12 := ⟨by decide +kernel, rfl⟩
theorem d9_12 : Dc jdk_52_method_16_code 12 (.istore 4) 2 14 := ⟨by decide +kernel, rfl⟩
theorem d9_14 : Dc jdk_52_method_16_code 14 (.iload 4) 2 16 := ⟨by decide +kernel, rfl⟩
theorem d9_16 : Dc jdk_52_method_16_code 16 (.iload_n 2) 1 17 := ⟨by decide +kernel, rfl⟩
theorem d9_17 : Dc jdk_52_method_16_code 17 (.if_icmp .eq 40) 3 20 := ⟨by decide +kernel, rfl⟩
theorem d9_17t : Tg 17 (40) 57 := ⟨by decide, by decide⟩
theorem d9_20 : Dc jdk_52_method_16_code 20 (.aload_n 0) 1 21 := ⟨by decide +kernel, rfl⟩
theorem d9_21 : Dc jdk_52_method_16_code 21 (.iload_n 1) 1 22 := ⟨by decide +kernel, rfl⟩
theorem d9_22 : Dc jdk_52_method_16_code 22 (.iload_n 2) 1 23 := ⟨by decide +kernel, rfl⟩
theorem d9_23 : Dc jdk_52_method_16_code 23 (.invokestatic 119) 3 26 := ⟨by decide +kernel, rfl⟩
theorem d9_26 : Dc jdk_52_method_16_code 26 (.astore 5) 2 28 := ⟨by decide +kernel, rfl⟩
theorem d9_28 : Dc jdk_52_method_16_code 28 (.aload 5) 2 30 := ⟨by decide +kernel, rfl⟩
theorem d9_30 : Dc jdk_52_method_16_code 30 (.iload 4) 2 32 := ⟨by decide +kernel, rfl⟩
theorem d9_32 : Dc jdk_52_method_16_code 32 (.invokestatic 71) 3 35 := ⟨by decide +kernel, rfl⟩
theorem d9_35 : Dc jdk_52_method_16_code 35 (.sipush 255) 3 38 := ⟨by decide +kernel, rfl⟩
theorem d9_38 : Dc jdk_52_method_16_code 38 (.if_icmp .gt 16) 3 41 := ⟨by decide +kernel, rfl⟩
theorem d9_38t : Tg 38 (16) 54 := ⟨by decide, by decide⟩
theorem d9_41 : Dc jdk_52_method_16_code 41 (.aload 5) 2 43 := ⟨by decide +kernel, rfl⟩
theorem d9_43 : Dc jdk_52_method_16_code 43 (.iconst 0) 1 44 := ⟨by decide +kernel, rfl⟩
theorem d9_44 : Dc jdk_52_method_16_code 44 (.aload_n 3) 1 45 := ⟨by decide +kernel, rfl⟩
theorem d9_45 : Dc jdk_52_method_16_code 45 (.iconst 0) 1 46 := ⟨by decide +kernel, rfl⟩
theorem d9_46 : Dc jdk_52_method_16_code 46 (.iload_n 2) 1 47 := ⟨by decide +kernel, rfl⟩
theorem d9_47 : Dc jdk_52_method_16_code 47 (.invokestatic 123) 3 50 := ⟨by decide +kernel, rfl⟩
theorem d9_50 : Dc jdk_52_method_16_code 50 (.iload_n 2) 1 51 := ⟨by decide +kernel, rfl⟩
theorem d9_51 : Dc jdk_52_method_16_code 51 (.if_icmp .eq 6) 3 54 := ⟨by decide +kernel, rfl⟩
theorem d9_51t : Tg 51 (6) 57 := ⟨by decide, by decide⟩
theorem d9_54 : Dc jdk_52_method_16_code 54 (.aload 5) 2 56 := ⟨by decide +kernel, rfl⟩
theorem d9_56 : Dc jdk_52_method_16_code 56 .areturn 1 57 := ⟨by decide +kernel, rfl⟩
theorem d9_57 : Dc jdk_52_method_16_code 57 (.aload_n 3) 1 58 := ⟨by decide +kernel, rfl⟩
theorem d9_58 : Dc jdk_52_method_16_code 58 .areturn 1 59 := ⟨by decide +kernel, rfl⟩
theorem d11_0 : Dc jdk_52_method_15_code 0 (.iload_n 1) 1 1 := ⟨by decide +kernel, rfl⟩
theorem d11_1 : Dc jdk_52_method_15_code 1 (.aload_n 0) 1 2 := ⟨by decide +kernel, rfl⟩
theorem d11_2 : Dc jdk_52_method_15_code 2 .arraylength 1 3 := ⟨by decide +kernel, rfl⟩
theorem d11_3 : Dc jdk_52_method_15_code 3 .isub 1 4 := ⟨by decide +kernel, rfl⟩
theorem d11_4 : Dc jdk_52_method_15_code 4 (.bipush 31) 2 6 := ⟨by decide +kernel, rfl⟩
theorem d11_6 : Dc jdk_52_method_15_code 6 .iushr 1 7 := ⟨by decide +kernel, rfl⟩
theorem d11_7 : Dc jdk_52_method_15_code 7 .i2b 1 8 := ⟨by decide +kernel, rfl⟩
theorem d11_8 : Dc jdk_52_method_15_code 8 .ireturn 1 9 := ⟨by decide +kernel, rfl⟩
theorem d3_0 : Dc jdk_42_method_149_code 0 (.aload_n 0) 1 1 := ⟨by decide +kernel, rfl⟩
theorem d3_1 : Dc jdk_42_method_149_code 1 (.invokespecial 1) 3 4 := ⟨by decide +kernel, rfl⟩
theorem d3_4 : Dc jdk_42_method_149_code 4 (.iload_n 3) 1 5 := ⟨by decide +kernel, rfl⟩
theorem d3_5 : Dc jdk_42_method_149_code 5 (.ifCond .ne 22) 3 8 := ⟨by decide +kernel, rfl⟩
theorem d3_5t : Tg 5 (22) 27 := ⟨by decide, by decide⟩
theorem d3_8 : Dc jdk_42_method_149_code 8 (.aload_n 0) 1 9 := ⟨by decide +kernel, rfl⟩
theorem d3_9 : Dc jdk_42_method_149_code 9 (.ldc 7) 2 11 := ⟨by decide +kernel, rfl⟩
theorem d3_11 : Dc jdk_42_method_149_code 11 (.getfield 9) 3 14 := ⟨by decide +kernel, rfl⟩
theorem d3_14 : Dc jdk_42_method_149_code 14 (.putfield 9) 3 17 := ⟨by decide +kernel, rfl⟩
theorem d3_17 : Dc jdk_42_method_149_code 17 (.aload_n 0) 1 18 := ⟨by decide +kernel, rfl⟩
theorem d3_18 : Dc jdk_42_method_149_code 18 (.ldc 7) 2 20 := ⟨by decide +kernel, rfl⟩
theorem d3_20 : Dc jdk_42_method_149_code 20 (.getfield 15) 3 23 := ⟨by decide +kernel, rfl⟩
theorem d3_23 : Dc jdk_42_method_149_code 23 (.putfield 15) 3 26 := ⟨by decide +kernel, rfl⟩
theorem d3_26 : Dc jdk_42_method_149_code 26 .return_ 1 27 := ⟨by decide +kernel, rfl⟩
theorem d3_27 : Dc jdk_42_method_149_code 27 (.getstatic 38) 3 30 := ⟨by decide +kernel, rfl⟩
theorem d3_30 : Dc jdk_42_method_149_code 30 (.ifCond .eq 28) 3 33 := ⟨by decide +kernel, rfl⟩
theorem d3_30t : Tg 30 (28) 58 := ⟨by decide, by decide⟩
theorem d3_33 : Dc jdk_42_method_149_code 33 (.aload_n 1) 1 34 := ⟨by decide +kernel, rfl⟩
theorem d3_34 : Dc jdk_42_method_149_code 34 (.iload_n 2) 1 35 := ⟨by decide +kernel, rfl⟩
theorem d3_35 : Dc jdk_42_method_149_code 35 (.iload_n 3) 1 36 := ⟨by decide +kernel, rfl⟩
theorem d3_36 : Dc jdk_42_method_149_code 36 (.invokestatic 177) 3 39 := ⟨by decide +kernel, rfl⟩
theorem d3_39 : Dc jdk_42_method_149_code 39 (.astore 5) 2 41 := ⟨by decide +kernel, rfl⟩
theorem d3_41 : Dc jdk_42_method_149_code 41 (.aload_n 0) 1 42 := ⟨by decide +kernel, rfl⟩
theorem d3_42 : Dc jdk_42_method_149_code 42 (.aload 5) 2 44 := ⟨by decide +kernel, rfl⟩
theorem d3_44 : Dc jdk_42_method_149_code 44 (.iload_n 3) 1 45 := ⟨by decide +kernel, rfl⟩
theorem d3_45 : Dc jdk_42_method_149_code 45 (.invokestatic 47) 3 48 := ⟨by decide +kernel, rfl⟩
theorem d3_48 : Dc jdk_42_method_149_code 48 (.putfield 15) 3 51 := ⟨by decide +kernel, rfl⟩
theorem d3_51 : Dc jdk_42_method_149_code 51 (.aload_n 0) 1 52 := ⟨by decide +kernel, rfl⟩
theorem d3_52 : Dc jdk_42_method_149_code 52 (.aload 5) 2 54 := ⟨by decide +kernel, rfl⟩
theorem d3_54 : Dc jdk_42_method_149_code 54 (.putfield 9) 3 57 := ⟨by decide +kernel, rfl⟩
theorem d3_57 : Dc jdk_42_method_149_code 57 .return_ 1 58 := ⟨by decide +kernel, rfl⟩
theorem d3_58 : Dc jdk_42_method_149_code 58 (.aload_n 0) 1 59 := ⟨by decide +kernel, rfl⟩
theorem d3_59 : Dc jdk_42_method_149_code 59 (.iconst 1) 1 60 := ⟨by decide +kernel, rfl⟩
theorem d3_60 : Dc jdk_42_method_149_code 60 (.putfield 15) 3 63 := ⟨by decide +kernel, rfl⟩
theorem d3_63 : Dc jdk_42_method_149_code 63 (.aload_n 0) 1 64 := ⟨by decide +kernel, rfl⟩
theorem d3_64 : Dc jdk_42_method_149_code 64 (.aload_n 1) 1 65 := ⟨by decide +kernel, rfl⟩
theorem d3_65 : Dc jdk_42_method_149_code 65 (.iload_n 2) 1 66 := ⟨by decide +kernel, rfl⟩
theorem d3_66 : Dc jdk_42_method_149_code 66 (.iload_n 3) 1 67 := ⟨by decide +kernel, rfl⟩
theorem d3_67 : Dc jdk_42_method_149_code 67 (.invokestatic 180) 3 70 := ⟨by decide +kernel, rfl⟩
theorem d3_70 : Dc jdk_42_method_149_code 70 (.putfield 9) 3 73 := ⟨by decide +kernel, rfl⟩
theorem d3_73 : Dc jdk_42_method_149_code 73 .return_ 1 74 := ⟨by decide +kernel, rfl⟩
theorem d2_0 : Dc jdk_42_method_3_code 0 (.aload_n 0) 1 1 := ⟨by decide +kernel, rfl⟩
theorem d2_1 : Dc jdk_42_method_3_code 1 (.aload_n 1) 1 2 := ⟨by decide +kernel, rfl⟩
theorem d2_2 : Dc jdk_42_method_3_code 2 (.iconst 0) 1 3 := ⟨by decide +kernel, rfl⟩
theorem d2_3 : Dc jdk_42_method_3_code 3 (.aload_n 1) 1 4 := ⟨by decide +kernel, rfl⟩
theorem d2_4 : Dc jdk_42_method_3_code 4 .arraylength 1 5 := ⟨by decide +kernel, rfl⟩
theorem d2_5 : Dc jdk_42_method_3_code 5 .aconst_null 1 6 := ⟨by decide +kernel, rfl⟩
theorem d2_6 : Dc jdk_42_method_3_code 6 (.invokespecial 27) 3 9 := ⟨by decide +kernel, rfl⟩
theorem d2_9 : Dc jdk_42_method_3_code 9 .return_ 1 10 := ⟨by decide +kernel, rfl⟩
theorem d13_0 : Dc jdk_43_method_13_code 0 (.aload_n 0) 1 1 := ⟨by decide +kernel, rfl⟩
theorem d13_1 : Dc jdk_43_method_13_code 1 .arraylength 1 2 := ⟨by decide +kernel, rfl⟩
theorem d13_2 : Dc jdk_43_method_13_code 2 (.aload_n 1) 1 3 := ⟨by decide +kernel, rfl⟩
theorem d13_3 : Dc jdk_43_method_13_code 3 .arraylength 1 4 := ⟨by decide +kernel, rfl⟩
theorem d13_4 : Dc jdk_43_method_13_code 4 (.if_icmp .ne 30) 3 7 := ⟨by decide +kernel, rfl⟩
theorem d13_4t : Tg 4 (30) 34 := ⟨by decide, by decide⟩
theorem d13_7 : Dc jdk_43_method_13_code 7 (.iconst 0) 1 8 := ⟨by decide +kernel, rfl⟩
theorem d13_8 : Dc jdk_43_method_13_code 8 (.istore_n 2) 1 9 := ⟨by decide +kernel, rfl⟩
theorem d13_9 : Dc jdk_43_method_13_code 9 (.iload_n 2) 1 10 := ⟨by decide +kernel, rfl⟩
theorem d13_10 : Dc jdk_43_method_13_code 10 (.aload_n 0) 1 11 := ⟨by decide +kernel, rfl⟩
theorem d13_11 : Dc jdk_43_method_13_code 11 .arraylength 1 12 := ⟨by decide +kernel, rfl⟩
theorem d13_12 : Dc jdk_43_method_13_code 12 (.if_icmp .ge 20) 3 15 := ⟨by decide +kernel, rfl⟩
theorem d13_12t : Tg 12 (20) 32 := ⟨by decide, by decide⟩
theorem d13_15 : Dc jdk_43_method_13_code 15 (.aload_n 0) 1 16 := ⟨by decide +kernel, rfl⟩
theorem d13_16 : Dc jdk_43_method_13_code 16 (.iload_n 2) 1 17 := ⟨by decide +kernel, rfl⟩
theorem d13_17 : Dc jdk_43_method_13_code 17 .baload 1 18 := ⟨by decide +kernel, rfl⟩
theorem d13_18 : Dc jdk_43_method_13_code 18 (.aload_n 1) 1 19 := ⟨by decide +kernel, rfl⟩
theorem d13_19 : Dc jdk_43_method_13_code 19 (.iload_n 2) 1 20 := ⟨by decide +kernel, rfl⟩
theorem d13_20 : Dc jdk_43_method_13_code 20 .baload 1 21 := ⟨by decide +kernel, rfl⟩
theorem d13_21 : Dc jdk_43_method_13_code 21 (.if_icmp .eq 5) 3 24 := ⟨by decide +kernel, rfl⟩
theorem d13_21t : Tg 21 (5) 26 := ⟨by decide, by decide⟩
theorem d13_24 : Dc jdk_43_method_13_code 24 (.iconst 0) 1 25 := ⟨by decide +kernel, rfl⟩
theorem d13_25 : Dc jdk_43_method_13_code 25 .ireturn 1 26 := ⟨by decide +kernel, rfl⟩
theorem d13_26 : Dc jdk_43_method_13_code 26 (.iinc 2 1) 3 29 := ⟨by decide +kernel, rfl⟩
theorem d13_29 : Dc jdk_43_method_13_code 29 (.goto (-20)) 3 32 := ⟨by decide +kernel, rfl⟩
theorem d13_29t : Tg 29 (-20) 9 := ⟨by decide, by decide⟩
theorem d13_32 : Dc jdk_43_method_13_code 32 (.iconst 1) 1 33 := ⟨by decide +kernel, rfl⟩
theorem d13_33 : Dc jdk_43_method_13_code 33 .ireturn 1 34 := ⟨by decide +kernel, rfl⟩
theorem d13_34 : Dc jdk_43_method_13_code 34 (.iconst 0) 1 35 := ⟨by decide +kernel, rfl⟩
theorem d13_35 : Dc jdk_43_method_13_code 35 .ireturn 1 36 := ⟨by decide +kernel, rfl⟩
theorem d8_0 : Dc jdk_42_method_66_code 0 (.aload_n 0) 1 1 := ⟨by decide +kernel, rfl⟩
theorem d8_1 : Dc jdk_42_method_66_code 1 (.aload_n 1) 1 2 := ⟨by decide +kernel, rfl⟩
theorem d8_2 : Dc jdk_42_method_66_code 2 (.if_acmp .ne 5) 3 5 := ⟨by decide +kernel, rfl⟩
theorem d8_2t : Tg 2 (5) 7 := ⟨by decide, by decide⟩
theorem d8_5 : Dc jdk_42_method_66_code 5 (.iconst 1) 1 6 := ⟨by decide +kernel, rfl⟩
theorem d8_6 : Dc jdk_42_method_66_code 6 .ireturn 1 7 := ⟨by decide +kernel, rfl⟩
theorem d8_7 : Dc jdk_42_method_66_code 7 (.aload_n 1) 1 8 := ⟨by decide +kernel, rfl⟩
theorem d8_8 : Dc jdk_42_method_66_code 8 (.instanceof 10) 3 11 := ⟨by decide +kernel, rfl⟩
theorem d8_11 : Dc jdk_42_method_66_code 11 (.ifCond .eq 43) 3 14 := ⟨by decide +kernel, rfl⟩
theorem d8_11t : Tg 11 (43) 54 := ⟨by decide, by decide⟩
theorem d8_14 : Dc jdk_42_method_66_code 14 (.aload_n 1) 1 15 := ⟨by decide +kernel, rfl⟩
theorem d8_15 : Dc jdk_42_method_66_code 15 (.checkcast 10) 3 18 := ⟨by decide +kernel, rfl⟩
theorem d8_18 : Dc jdk_42_method_66_code 18 (.astore_n 2) 1 19 := ⟨by decide +kernel, rfl⟩
theorem d8_19 : Dc jdk_42_method_66_code 19 (.getstatic 38) 3 22 := ⟨by decide +kernel, rfl⟩
theorem d8_22 : Dc jdk_42_method_66_code 22 (.ifCond .eq 14) 3 25 := ⟨by decide +kernel, rfl⟩
theorem d8_22t : Tg 22 (14) 36 := ⟨by decide, by decide⟩
theorem d8_25 : Dc jdk_42_method_66_code 25 (.aload_n 0) 1 26 := ⟨by decide +kernel, rfl⟩
theorem d8_26 : Dc jdk_42_method_66_code 26 (.getfield 15) 3 29 := ⟨by decide +kernel, rfl⟩
theorem d8_29 : Dc jdk_42_method_66_code 29 (.aload_n 2) 1 30 := ⟨by decide +kernel, rfl⟩
theorem d8_30 : Dc jdk_42_method_66_code 30 (.getfield 15) 3 33 := ⟨by decide +kernel, rfl⟩
theorem d8_33 : Dc jdk_42_method_66_code 33 (.if_icmp .ne 21) 3 36 := ⟨by decide +kernel, rfl⟩
theorem d8_33t : Tg 33 (21) 54 := ⟨by decide, by decide⟩
theorem d8_36 : Dc jdk_42_method_66_code 36 (.aload_n 0) 1 37 := ⟨by decide +kernel, rfl⟩
theorem d8_37 : Dc jdk_42_method_66_code 37 (.getfield 9) 3 40 := ⟨by decide +kernel, rfl⟩
theorem d8_40 : Dc jdk_42_method_66_code 40 (.aload_n 2) 1 41 := ⟨by decide +kernel, rfl⟩
theorem d8_41 : Dc jdk_42_method_66_code 41 (.getfield 9) 3 44 := ⟨by decide +kernel, rfl⟩
theorem d8_44 : Dc jdk_42_method_66_code 44 (.invokestatic 541) 3 47 := ⟨by decide +kernel, rfl⟩
theorem d8_47 : Dc jdk_42_method_66_code 47 (.ifCond .eq 7) 3 50 := ⟨by decide +kernel, rfl⟩
theorem d8_47t : Tg 47 (7) 54 := ⟨by decide, by decide⟩
theorem d8_50 : Dc jdk_42_method_66_code 50 (.iconst 1) 1 51 := ⟨by decide +kernel, rfl⟩
theorem d8_51 : Dc jdk_42_method_66_code 51 (.goto 4) 3 54 := ⟨by decide +kernel, rfl⟩
theorem d8_51t : Tg 51 (4) 55 := ⟨by decide, by decide⟩
theorem d8_54 : Dc jdk_42_method_66_code 54 (.iconst 0) 1 55 := ⟨by decide +kernel, rfl⟩
theorem d8_55 : Dc jdk_42_method_66_code 55 .ireturn 1 56 := ⟨by decide +kernel, rfl⟩
theorem own_cs {Z : State} {a0 : Array Value} (hr : rest_1_c.value a0 Z none Z [] = some true) : ∃ z : Int32, Sta Z Z.heap "java/lang/String" "COMPACT_STRINGS" "Z" (.int z) ∧ ¬ z = 0 := by
  obtain ⟨z, ev⟩ := is_v (nw hr 1 rfl)
  refine ⟨z, Sta.start ev (Or.inl (Cond.before_iff.mpr (nw hr 0 rfl))), fun e => ?_⟩
  have q := not_v (nw hr 2 rfl)
  rw [Cond.eq_ints ev (Term.int_eval 0)] at q
  simp [e] at q
theorem ef10_ririi (m : MethodId) (x0 : Addr) (x1 : Int32) (x2 : Addr) (x3 : Int32) (x4 : Int32) : entryFrame m #[(.ref x0), (.int x1), (.ref x2), (.int x3), (.int x4)] 7 = mkF m 0 #[.val (.ref x0), .val (.int x1), .val (.ref x2), .val (.int x3), .val (.int x4), .unset, .unset] [] := by first | (simp [entryFrame, mkF, argsToLocals, Value.category]; done) | rfl
set_option maxRecDepth 65536 in
set_option maxHeartbeats 40000000 in
theorem rmC5_1 (l : Launch) (Z : State) (a0 : Array Value) (hw : ∀ d ∈ tables_1, d.before a0 Z = true) (b d : Addr) (kb kd : ClassId) (c0 : Int32) (h0 : Heap) (hE : Ext Z.heap h0) (ge_d : Z.heap.size ≤ d) (nbd : b ≠ d) (Ab : Arv Z h0 b kb .char (1 : Int32) [(.int c0)] (.int 0)) (Ad : Arv Z h0 d kd .byte (1 : Int32) [] (.int 0)) (u0 : ¬ 255 < c0) :
    Ct true l Z consts_1 (⟨"java/lang/StringUTF16", "compress", "([CI[BII)I"⟩ : MethodName) jdk_52_method_21_code 7 (some .int) [] ({ frames := 0, cells := 0, slots := 0, locals := 0 } : Room) [d] #[(.ref b), (.int (0 : Int32)), (.ref d), (.int (0 : Int32)), (.int (1 : Int32))] h0 (fun r u => r = some (.int (1 : Int32)) ∧ Keep h0 u [d] ∧ Arv Z u d kd .byte (1 : Int32) [(.int (nar .byte c0))] (.int 0)) := by
  refine Ct.intro pn_java_lang_StringUTF16 hE (fun m => ef10_ririi m b _ d _ _) (onesf ge_d Ad.lt) ⟨a0, own_EW hw⟩ ?_
  intro x T w
  refine w.iconst (0 : Int32) d10_0 rfl ?_
  refine w.istore #[.val (.ref b), .val (.int (0 : Int32)), .val (.ref d), .val (.int (0 : Int32)), .val (.int (1 : Int32)), .val (.int (0 : Int32)), .unset] d10_1 rfl ?_
  refine w.iload d10_3 rfl ?_
  refine w.iload d10_5 rfl ?_
  refine w.icmpGe d10_7 d10_7t (fun q => absurd (by decide) q) (fun _ => ?_)
  refine w.aloadN d10_10 rfl rfl ?_
  refine w.iloadN d10_11 rfl ?_
  obtain ⟨cl0, Ar0, -, S0, -, H0, -⟩ := id Ab
  refine w.caload d10_12 Ar0 (inb_of S0 (by decide)) (H0.at (inb_of S0 (by decide)) rfl) ?_
  refine w.istore #[.val (.ref b), .val (.int (0 : Int32)), .val (.ref d), .val (.int (0 : Int32)), .val (.int (1 : Int32)), .val (.int (0 : Int32)), .val (.int c0)] d10_13 rfl ?_
  refine w.iload d10_15 rfl ?_
  refine w.sipush (255 : Int32) d10_17 rfl ?_
  refine w.icmpLe d10_20 d10_20t (fun _ => ?_) (fun q => absurd q u0)
  refine w.aloadN d10_26 rfl rfl ?_
  refine w.iloadN d10_27 rfl ?_
  refine w.iload d10_28 rfl ?_
  refine w.i2b d10_30 ?_
  refine w.stB 0 [(.int 0)] d10_31 Ad ⟨by decide, by decide⟩ (by decide) (pad_rep [] (.int 0) 1) (by simp) (fnb _) (List.mem_of_getElem? (i := 0) rfl) ?_
  intro T h1 w W0 A0
  rw [nbb] at A0 W0
  have Ad0 : Arv Z h1 d kd .byte (1 : Int32) [(.int (nar .byte c0))] (.int 0) := A0
  have Ab0 := Ab.other W0 nbd
  refine w.iinc (1 : Int32) #[.val (.ref b), .val (.int (1 : Int32)), .val (.ref d), .val (.int (0 : Int32)), .val (.int (1 : Int32)), .val (.int (0 : Int32)), .val (.int c0)] d10_32 rfl rfl rfl ?_
  refine w.iinc (1 : Int32) #[.val (.ref b), .val (.int (1 : Int32)), .val (.ref d), .val (.int (1 : Int32)), .val (.int (1 : Int32)), .val (.int (0 : Int32)), .val (.int c0)] d10_35 rfl rfl rfl ?_
  refine w.iinc (1 : Int32) #[.val (.ref b), .val (.int (1 : Int32)), .val (.ref d), .val (.int (1 : Int32)), .val (.int (1 : Int32)), .val (.int (1 : Int32)), .val (.int c0)] d10_38 rfl rfl rfl ?_
  refine w.goto d10_41 d10_41t ?_
  refine w.iload d10_3 rfl ?_
  refine w.iload d10_5 rfl ?_
  refine w.icmpGe d10_7 d10_7t (fun _ => ?_) (fun q => absurd q (by decide))
  refine w.iload d10_44 rfl ?_
  exact w.retI d10_46 rfl ⟨rfl, ((Keep.refl _ _).wr W0 (Or.inl (List.mem_singleton.mpr rfl))), Ad0⟩

theorem ef9_rii (m : MethodId) (x0 : Addr) (x1 : Int32) (x2 : Int32) : entryFrame m #[(.ref x0), (.int x1), (.int x2)] 6 = mkF m 0 #[.val (.ref x0), .val (.int x1), .val (.int x2), .unset, .unset, .unset] [] := by first | (simp [entryFrame, mkF, argsToLocals, Value.category]; done) | rfl
set_option maxRecDepth 65536 in
set_option maxHeartbeats 40000000 in
theorem rmC3_1 (l : Launch) (Z : State) (a0 : Array Value) (hw : ∀ d ∈ tables_1, d.before a0 Z = true) (b : Addr) (kb : ClassId) (c0 : Int32) (h0 : Heap) (hE : Ext Z.heap h0) (Ab : Arv Z h0 b kb .char (1 : Int32) [(.int c0)] (.int 0)) (u0 : ¬ 255 < c0) :
    Ct true l Z consts_1 (⟨"java/lang/StringUTF16", "compress", "([CII)[B"⟩ : MethodName) jdk_52_method_16_code 6 (some (.array .byte)) [] ({ frames := 1, cells := 1, slots := 1, locals := 18 } : Room) [] #[(.ref b), (.int (0 : Int32)), (.int (1 : Int32))] h0 (fun r u => ∃ d kd, r = some (.ref d) ∧ Ext h0 u ∧ h0.size ≤ d ∧ Arv Z u d kd .byte (1 : Int32) [(.int (nar .byte c0))] (.int 0)) := by
  refine Ct.intro pn_java_lang_StringUTF16 hE (fun m => ef9_rii m b _ _) nosf ⟨a0, own_EW hw⟩ ?_
  intro x T w
  refine w.iloadN d9_0 rfl ?_
  have sz0 := w.size
  refine w.newP 1 "[B" d9_1 (tw hw 24 rfl) (by decide) (by decide) (by decide) (by decide) ⟨by decide, by decide⟩ ?_
  intro d T h1 kd g_d w E_d A_d X_d
  have ge_d : Z.heap.size ≤ d := by rw [g_d]; exact sz0
  have nbd : b ≠ d := Nat.ne_of_lt (Nat.lt_of_lt_of_eq Ab.lt g_d.symm)
  refine w.astoreN #[.val (.ref b), .val (.int (0 : Int32)), .val (.int (1 : Int32)), .val (.ref d), .unset, .unset] d9_3 rfl rfl ?_
  refine w.aloadN d9_4 rfl rfl ?_
  refine w.iloadN d9_5 rfl ?_
  refine w.aloadN d9_6 rfl rfl ?_
  refine w.iconst (0 : Int32) d9_7 rfl ?_
  refine w.iloadN d9_8 rfl ?_
  refine w.callS (argsL := [(.ref b), (.int (0 : Int32)), (.ref d), (.int (0 : Int32)), (.int (1 : Int32))]) (rest := []) 0 d9_9 (tw hw 71 rfl) (tw hw 72 rfl) (tw hw 69 rfl) (tw hw 73 rfl) (by decide) (rmC5_1 l Z a0 hw b d kb kd c0 h1 w.old ge_d nbd (Ab.ext E_d) A_d u0) (lenOf pd_0 rfl) rfl rfl (Nat.le_refl _) ⟨by decide, by decide, by decide, by decide⟩ (allS (List.mem_of_getElem? (i := 0) rfl) all0) ?_
  intro T h2 r w _ hQ
  obtain ⟨rfl, K1, A1⟩ := hQ
  show Go x _ Z _ _ _ T 12 #[.val (.ref b), .val (.int (0 : Int32)), .val (.int (1 : Int32)), .val (.ref d), .unset, .unset] [(.int (1 : Int32))]
  refine w.istore #[.val (.ref b), .val (.int (0 : Int32)), .val (.int (1 : Int32)), .val (.ref d), .val (.int (1 : Int32)), .unset] d9_12 rfl ?_
  refine w.iload d9_14 rfl ?_
  refine w.iloadN d9_16 rfl ?_
  refine w.icmpEq d9_17 d9_17t (fun _ => ?_) (fun q => absurd rfl q)
  refine w.aloadN d9_57 rfl rfl ?_
  exact w.retA d9_58 rfl rfl rfl rfl ⟨d, kd, rfl, keep_to E_d K1 (allS (Nat.le_of_eq g_d.symm) all0), Nat.le_of_eq g_d.symm, A1⟩

theorem ef11_ri (m : MethodId) (x0 : Addr) (x1 : Int32) : entryFrame m #[(.ref x0), (.int x1)] 2 = mkF m 0 #[.val (.ref x0), .val (.int x1)] [] := by first | (simp [entryFrame, mkF, argsToLocals, Value.category]; done) | rfl
set_option maxRecDepth 65536 in
set_option maxHeartbeats 40000000 in
theorem rmCL_1_1 (l : Launch) (Z : State) (a0 : Array Value) (hw : ∀ d ∈ tables_1, d.before a0 Z = true) (d : Addr) (kd : ClassId) (vs : List Value) (h0 : Heap) (hE : Ext Z.heap h0) (Ad : Arv Z h0 d kd .byte (1 : Int32) vs (.int 0)) :
    Ct true l Z consts_1 (⟨"java/lang/StringUTF16", "coderFromArrayLen", "([BI)B"⟩ : MethodName) jdk_52_method_15_code 2 (some .byte) [] ({ frames := 0, cells := 0, slots := 0, locals := 0 } : Room) [] #[(.ref d), (.int (1 : Int32))] h0 (fun r u => r = some (.int (0 : Int32)) ∧ h0 = u) := by
  refine Ct.intro pn_java_lang_StringUTF16 hE (fun m => ef11_ri m d _) nosf ⟨a0, own_EW hw⟩ ?_
  intro x T w
  obtain ⟨cl, Ar, -, S, M, -, -⟩ := Ad
  refine w.iloadN d11_0 rfl ?_
  refine w.aloadN d11_1 rfl rfl ?_
  refine w.alen (1 : Int32) d11_2 Ar (len_of S M) ?_
  refine w.isub d11_3 ?_
  refine w.bipush (31 : Int32) d11_4 rfl ?_
  refine w.iushr d11_6 ?_
  refine w.i2b d11_7 ?_
  exact w.retN d11_8 rfl (by simp) ⟨rfl, rfl⟩

theorem ef3_rriin (m : MethodId) (x0 : Addr) (x1 : Addr) (x2 : Int32) (x3 : Int32) : entryFrame m #[(.ref x0), (.ref x1), (.int x2), (.int x3), .null] 6 = mkF m 0 #[.val (.ref x0), .val (.ref x1), .val (.int x2), .val (.int x3), .val .null, .unset] [] := by first | (simp [entryFrame, mkF, argsToLocals, Value.category]; done) | rfl
set_option maxRecDepth 65536 in
set_option maxHeartbeats 40000000 in
theorem rmS4_1 (l : Launch) (Z : State) (a0 : Array Value) (hw : ∀ d ∈ tables_1, d.before a0 Z = true) (hr : rest_1_c.value a0 Z none Z [] = some true) (a b : Addr) (kb : ClassId) (c0 : Int32) (h0 : Heap) (hE : Ext Z.heap h0) (ge_a : Z.heap.size ≤ a) (E0 : Exa Z h0 a "java/lang/String") (G1 : Fld Z h0 a "java/lang/String" "value" "[B" .null) (G2 : Fld Z h0 a "java/lang/String" "coder" "B" (.int (0 : Int32))) (Ab : Arv Z h0 b kb .char (1 : Int32) [(.int c0)] (.int 0)) (u0 : ¬ 255 < c0) :
    Ct true l Z consts_1 (⟨"java/lang/String", "<init>", "([CIILjava/lang/Void;)V"⟩ : MethodName) jdk_42_method_149_code 6 none [] ({ frames := 2, cells := 1, slots := 1, locals := 36 } : Room) [a] #[(.ref a), (.ref b), (.int (0 : Int32)), (.int (1 : Int32)), .null] h0 (fun r u => r = none ∧ Keep h0 u [a] ∧ ∃ t, h0.size ≤ t ∧ StrL Z u a t 0 [nar .byte c0]) := by
  refine Ct.intro pn_java_lang_String hE (fun m => ef3_rriin m a b _ _) (onesf ge_a E0.lt) ⟨a0, own_EW hw⟩ ?_
  intro x T w
  obtain ⟨cz, Scs, hcz⟩ := own_cs hr
  refine w.aloadN d3_0 rfl rfl ?_
  refine w.initO 0 d3_1 (tw hw 20 rfl) (tw hw 21 rfl) (tw hw 22 rfl) rfl (Nat.le_refl _) ⟨by decide, by decide⟩ ?_
  intro T w
  refine w.iloadN d3_4 rfl ?_
  refine w.ifNe d3_5 d3_5t (fun _ => ?_) (fun q => absurd q (by decide))
  refine w.getS d3_27 (tw hw 66 rfl) Scs ?_
  intro T w
  refine w.ifEq d3_30 d3_30t (fun q => absurd q hcz) (fun _ => ?_)
  refine w.aloadN d3_33 rfl rfl ?_
  refine w.iloadN d3_34 rfl ?_
  refine w.iloadN d3_35 rfl ?_
  refine w.callS (argsL := [(.ref b), (.int (0 : Int32)), (.int (1 : Int32))]) (rest := []) 0 d3_36 (tw hw 67 rfl) (tw hw 68 rfl) (tw hw 69 rfl) (tw hw 70 rfl) (by decide) (rmC3_1 l Z a0 hw b kb c0 h0 w.old Ab u0) (lenOf pd_1 rfl) rfl rfl (Nat.le_refl _) ⟨by decide, by decide, by decide, by decide⟩ all0 ?_
  intro T h1 r w _ hQ
  obtain ⟨d, kd, rfl, E1, gd, A1⟩ := hQ
  have ne_a_d : a ≠ d := Nat.ne_of_lt (Nat.lt_of_lt_of_le E0.lt gd)
  have F1 := E0.ext E1
  have F2 := G1.ext E1
  have F3 := G2.ext E1
  show Go x _ Z _ _ _ T 39 #[.val (.ref a), .val (.ref b), .val (.int (0 : Int32)), .val (.int (1 : Int32)), .val .null, .unset] [(.ref d)]
  refine w.astore #[.val (.ref a), .val (.ref b), .val (.int (0 : Int32)), .val (.int (1 : Int32)), .val .null, .val (.ref d)] d3_39 rfl rfl ?_
  refine w.aloadN d3_41 rfl rfl ?_
  refine w.aload d3_42 rfl rfl ?_
  refine w.iloadN d3_44 rfl ?_
  refine w.callS (argsL := [(.ref d), (.int (1 : Int32))]) (rest := [(.ref a)]) 1 d3_45 (tw hw 74 rfl) (tw hw 75 rfl) (tw hw 69 rfl) (tw hw 76 rfl) (by decide) (rmCL_1_1 l Z a0 hw d kd _ h1 w.old A1) (lenOf pd_2 rfl) rfl rfl (Nat.le_refl _) ⟨by decide, by decide, by decide, by decide⟩ all0 ?_
  intro T h2 r w _ hQ
  obtain ⟨rfl, rfl⟩ := hQ
  show Go x _ Z _ _ _ T 48 #[.val (.ref a), .val (.ref b), .val (.int (0 : Int32)), .val (.int (1 : Int32)), .val .null, .val (.ref d)] [(.int (0 : Int32)), (.ref a)]
  refine w.putF d3_48 (tw hw 30 rfl) F3 F1 (Or.inr ⟨(tw hw 26 rfl), rfl, rfl⟩) (tw hw 10 rfl) (ty := .byte) (by decide) rfl rfl (List.mem_of_getElem? (i := 0) rfl) ?_
  intro T h3 w W4
  have F5 := F1.wr W4
  have F6 := F2.other W4 (Or.inr (slot_ne (Or.inr (tw hw 25 rfl)) (Or.inr (tw hw 26 rfl)) (by decide) (t := (.array .byte)) (t' := .byte) (by decide) (by decide)))
  have F7 := F3.same W4
  have F8 := A1.other W4 (Ne.symm ne_a_d)
  refine w.aloadN d3_51 rfl rfl ?_
  refine w.aload d3_52 rfl rfl ?_
  refine w.putF d3_54 (tw hw 29 rfl) F6 F5 (Or.inr ⟨(tw hw 25 rfl), rfl, rfl⟩) (tw hw 10 rfl) (ty := (.array .byte)) (by decide) rfl rfl (List.mem_of_getElem? (i := 0) rfl) ?_
  intro T h4 w W9
  have F10 := F5.wr W9
  have F11 := F6.same W9
  have F12 := F7.other W9 (Or.inr (slot_ne (Or.inr (tw hw 26 rfl)) (Or.inr (tw hw 25 rfl)) (by decide) (t := .byte) (t' := (.array .byte)) (by decide) (by decide)))
  have F13 := F8.other W9 (Ne.symm ne_a_d)
  exact w.retV d3_57 rfl ⟨rfl, (((keep_ext E1).wr W4 (Or.inl (List.mem_singleton.mpr rfl))).wr W9 (Or.inl (List.mem_singleton.mpr rfl))), d, gd, F10, F11, F12, kd, F13, by simp⟩

theorem ef2_rr (m : MethodId) (x0 : Addr) (x1 : Addr) : entryFrame m #[(.ref x0), (.ref x1)] 2 = mkF m 0 #[.val (.ref x0), .val (.ref x1)] [] := by first | (simp [entryFrame, mkF, argsToLocals, Value.category]; done) | rfl
set_option maxRecDepth 65536 in
set_option maxHeartbeats 40000000 in
theorem rmS1_1 (l : Launch) (Z : State) (a0 : Array Value) (hw : ∀ d ∈ tables_1, d.before a0 Z = true) (hr : rest_1_c.value a0 Z none Z [] = some true) (a b : Addr) (kb : ClassId) (c0 : Int32) (h0 : Heap) (hE : Ext Z.heap h0) (ge_a : Z.heap.size ≤ a) (E0 : Exa Z h0 a "java/lang/String") (G1 : Fld Z h0 a "java/lang/String" "value" "[B" .null) (G2 : Fld Z h0 a "java/lang/String" "coder" "B" (.int (0 : Int32))) (Ab : Arv Z h0 b kb .char (1 : Int32) [(.int c0)] (.int 0)) (u0 : ¬ 255 < c0) :
    Ct true l Z consts_1 (⟨"java/lang/String", "<init>", "([C)V"⟩ : MethodName) jdk_42_method_3_code 2 none [] ({ frames := 3, cells := 1, slots := 1, locals := 53 } : Room) [a] #[(.ref a), (.ref b)] h0 (fun r u => r = none ∧ Keep h0 u [a] ∧ ∃ t, h0.size ≤ t ∧ StrL Z u a t 0 [nar .byte c0]) := by
  refine Ct.intro pn_java_lang_String hE (fun m => ef2_rr m a b) (onesf ge_a E0.lt) ⟨a0, own_EW hw⟩ ?_
  intro x T w
  obtain ⟨cl, Ar, -, S, M, -, -⟩ := id Ab
  refine w.aloadN d2_0 rfl rfl ?_
  refine w.aloadN d2_1 rfl rfl ?_
  refine w.iconst (0 : Int32) d2_2 rfl ?_
  refine w.aloadN d2_3 rfl rfl ?_
  refine w.alen (1 : Int32) d2_4 Ar (len_of S M) ?_
  refine w.aconstNull d2_5 ?_
  refine w.callI (argsL := [(.ref b), (.int (0 : Int32)), (.int (1 : Int32)), .null]) (rest := []) 0 d2_6 rfl (tw hw 16 rfl) (tw hw 17 rfl) (tw hw 11 rfl) (tw hw 19 rfl) (by decide) (rmS4_1 l Z a0 hw hr a b kb c0 h0 w.old ge_a E0 G1 G2 Ab u0) (lenOf pd_3 rfl) rfl rfl (Nat.le_refl _) ⟨by decide, by decide, by decide, by decide⟩ (allS (List.mem_of_getElem? (i := 0) rfl) all0) ?_
  intro T h1 r w _ hQ
  obtain ⟨rfl, K1, t, gt, S1⟩ := hQ
  exact w.retV d2_9 rfl ⟨rfl, K1, t, gt, S1⟩

set_option maxRecDepth 65536 in
set_option maxHeartbeats 40000000 in
theorem rmC5_2 (l : Launch) (Z : State) (a0 : Array Value) (hw : ∀ d ∈ tables_1, d.before a0 Z = true) (b d : Addr) (kb kd : ClassId) (c0 c1 : Int32) (h0 : Heap) (hE : Ext Z.heap h0) (ge_d : Z.heap.size ≤ d) (nbd : b ≠ d) (Ab : Arv Z h0 b kb .char (2 : Int32) [(.int c0), (.int c1)] (.int 0)) (Ad : Arv Z h0 d kd .byte (2 : Int32) [] (.int 0)) (u0 : ¬ 255 < c0) (u1 : ¬ 255 < c1) :
    Ct true l Z consts_1 (⟨"java/lang/StringUTF16", "compress", "([CI[BII)I"⟩ : MethodName) jdk_52_method_21_code 7 (some .int) [] ({ frames := 0, cells := 0, slots := 0, locals := 0 } : Room) [d] #[(.ref b), (.int (0 : Int32)), (.ref d), (.int (0 : Int32)), (.int (2 : Int32))] h0 (fun r u => r = some (.int (2 : Int32)) ∧ Keep h0 u [d] ∧ Arv Z u d kd .byte (2 : Int32) [(.int (nar .byte c0)), (.int (nar .byte c1))] (.int 0)) := by
  refine Ct.intro pn_java_lang_StringUTF16 hE (fun m => ef10_ririi m b _ d _ _) (onesf ge_d Ad.lt) ⟨a0, own_EW hw⟩ ?_
  intro x T w
  refine w.iconst (0 : Int32) d10_0 rfl ?_
  refine w.istore #[.val (.ref b), .val (.int (0 : Int32)), .val (.ref d), .val (.int (0 : Int32)), .val (.int (2 : Int32)), .val (.int (0 : Int32)), .unset] d10_1 rfl ?_
  refine w.iload d10_3 rfl ?_
  refine w.iload d10_5 rfl ?_
  refine w.icmpGe d10_7 d10_7t (fun q => absurd (by decide) q) (fun _ => ?_)
  refine w.aloadN d10_10 rfl rfl ?_
  refine w.iloadN d10_11 rfl ?_
  obtain ⟨cl0, Ar0, -, S0, -, H0, -⟩ := id Ab
  refine w.caload d10_12 Ar0 (inb_of S0 (by decide)) (H0.at (inb_of S0 (by decide)) rfl) ?_
  refine w.istore #[.val (.ref b), .val (.int (0 : Int32)), .val (.ref d), .val (.int (0 : Int32)), .val (.int (2 : Int32)), .val (.int (0 : Int32)), .val (.int c0)] d10_13 rfl ?_
  refine w.iload d10_15 rfl ?_
  refine w.sipush (255 : Int32) d10_17 rfl ?_
  refine w.icmpLe d10_20 d10_20t (fun _ => ?_) (fun q => absurd q u0)
  refine w.aloadN d10_26 rfl rfl ?_
  refine w.iloadN d10_27 rfl ?_
  refine w.iload d10_28 rfl ?_
  refine w.i2b d10_30 ?_
  refine w.stB 0 [(.int 0)] d10_31 Ad ⟨by decide, by decide⟩ (by decide) (pad_rep [] (.int 0) 1) (by simp) (fnb _) (List.mem_of_getElem? (i := 0) rfl) ?_
  intro T h1 w W0 A0
  rw [nbb] at A0 W0
  have Ad0 : Arv Z h1 d kd .byte (2 : Int32) [(.int (nar .byte c0))] (.int 0) := A0
  have Ab0 := Ab.other W0 nbd
  refine w.iinc (1 : Int32) #[.val (.ref b), .val (.int (1 : Int32)), .val (.ref d), .val (.int (0 : Int32)), .val (.int (2 : Int32)), .val (.int (0 : Int32)), .val (.int c0)] d10_32 rfl rfl rfl ?_
  refine w.iinc (1 : Int32) #[.val (.ref b), .val (.int (1 : Int32)), .val (.ref d), .val (.int (1 : Int32)), .val (.int (2 : Int32)), .val (.int (0 : Int32)), .val (.int c0)] d10_35 rfl rfl rfl ?_
  refine w.iinc (1 : Int32) #[.val (.ref b), .val (.int (1 : Int32)), .val (.ref d), .val (.int (1 : Int32)), .val (.int (2 : Int32)), .val (.int (1 : Int32)), .val (.int c0)] d10_38 rfl rfl rfl ?_
  refine w.goto d10_41 d10_41t ?_
  refine w.iload d10_3 rfl ?_
  refine w.iload d10_5 rfl ?_
  refine w.icmpGe d10_7 d10_7t (fun q => absurd (by decide) q) (fun _ => ?_)
  refine w.aloadN d10_10 rfl rfl ?_
  refine w.iloadN d10_11 rfl ?_
  obtain ⟨cl1, Ar1, -, S1, -, H1, -⟩ := id Ab0
  refine w.caload d10_12 Ar1 (inb_of S1 (by decide)) (H1.at (inb_of S1 (by decide)) rfl) ?_
  refine w.istore #[.val (.ref b), .val (.int (1 : Int32)), .val (.ref d), .val (.int (1 : Int32)), .val (.int (2 : Int32)), .val (.int (1 : Int32)), .val (.int c1)] d10_13 rfl ?_
  refine w.iload d10_15 rfl ?_
  refine w.sipush (255 : Int32) d10_17 rfl ?_
  refine w.icmpLe d10_20 d10_20t (fun _ => ?_) (fun q => absurd q u1)
  refine w.aloadN d10_26 rfl rfl ?_
  refine w.iloadN d10_27 rfl ?_
  refine w.iload d10_28 rfl ?_
  refine w.i2b d10_30 ?_
  refine w.stB 1 [(.int (nar .byte c0)), (.int 0)] d10_31 Ad0 ⟨by decide, by decide⟩ (by decide) (pad_rep [(.int (nar .byte c0))] (.int 0) 1) (by simp) (fnb _) (List.mem_of_getElem? (i := 0) rfl) ?_
  intro T h2 w W1 A1
  rw [nbb] at A1 W1
  have Ad1 : Arv Z h2 d kd .byte (2 : Int32) [(.int (nar .byte c0)), (.int (nar .byte c1))] (.int 0) := A1
  have Ab1 := Ab0.other W1 nbd
  refine w.iinc (1 : Int32) #[.val (.ref b), .val (.int (2 : Int32)), .val (.ref d), .val (.int (1 : Int32)), .val (.int (2 : Int32)), .val (.int (1 : Int32)), .val (.int c1)] d10_32 rfl rfl rfl ?_
  refine w.iinc (1 : Int32) #[.val (.ref b), .val (.int (2 : Int32)), .val (.ref d), .val (.int (2 : Int32)), .val (.int (2 : Int32)), .val (.int (1 : Int32)), .val (.int c1)] d10_35 rfl rfl rfl ?_
  refine w.iinc (1 : Int32) #[.val (.ref b), .val (.int (2 : Int32)), .val (.ref d), .val (.int (2 : Int32)), .val (.int (2 : Int32)), .val (.int (2 : Int32)), .val (.int c1)] d10_38 rfl rfl rfl ?_
  refine w.goto d10_41 d10_41t ?_
  refine w.iload d10_3 rfl ?_
  refine w.iload d10_5 rfl ?_
  refine w.icmpGe d10_7 d10_7t (fun _ => ?_) (fun q => absurd q (by decide))
  refine w.iload d10_44 rfl ?_
  exact w.retI d10_46 rfl ⟨rfl, (((Keep.refl _ _).wr W0 (Or.inl (List.mem_singleton.mpr rfl))).wr W1 (Or.inl (List.mem_singleton.mpr rfl))), Ad1⟩

set_option maxRecDepth 65536 in
set_option maxHeartbeats 40000000 in
theorem rmC3_2 (l : Launch) (Z : State) (a0 : Array Value) (hw : ∀ d ∈ tables_1, d.before a0 Z = true) (b : Addr) (kb : ClassId) (c0 c1 : Int32) (h0 : Heap) (hE : Ext Z.heap h0) (Ab : Arv Z h0 b kb .char (2 : Int32) [(.int c0), (.int c1)] (.int 0)) (u0 : ¬ 255 < c0) (u1 : ¬ 255 < c1) :
    Ct true l Z consts_1 (⟨"java/lang/StringUTF16", "compress", "([CII)[B"⟩ : MethodName) jdk_52_method_16_code 6 (some (.array .byte)) [] ({ frames := 1, cells := 1, slots := 2, locals := 18 } : Room) [] #[(.ref b), (.int (0 : Int32)), (.int (2 : Int32))] h0 (fun r u => ∃ d kd, r = some (.ref d) ∧ Ext h0 u ∧ h0.size ≤ d ∧ Arv Z u d kd .byte (2 : Int32) [(.int (nar .byte c0)), (.int (nar .byte c1))] (.int 0)) := by
  refine Ct.intro pn_java_lang_StringUTF16 hE (fun m => ef9_rii m b _ _) nosf ⟨a0, own_EW hw⟩ ?_
  intro x T w
  refine w.iloadN d9_0 rfl ?_
  have sz0 := w.size
  refine w.newP 2 "[B" d9_1 (tw hw 24 rfl) (by decide) (by decide) (by decide) (by decide) ⟨by decide, by decide⟩ ?_
  intro d T h1 kd g_d w E_d A_d X_d
  have ge_d : Z.heap.size ≤ d := by rw [g_d]; exact sz0
  have nbd : b ≠ d := Nat.ne_of_lt (Nat.lt_of_lt_of_eq Ab.lt g_d.symm)
  refine w.astoreN #[.val (.ref b), .val (.int (0 : Int32)), .val (.int (2 : Int32)), .val (.ref d), .unset, .unset] d9_3 rfl rfl ?_
  refine w.aloadN d9_4 rfl rfl ?_
  refine w.iloadN d9_5 rfl ?_
  refine w.aloadN d9_6 rfl rfl ?_
  refine w.iconst (0 : Int32) d9_7 rfl ?_
  refine w.iloadN d9_8 rfl ?_
  refine w.callS (argsL := [(.ref b), (.int (0 : Int32)), (.ref d), (.int (0 : Int32)), (.int (2 : Int32))]) (rest := []) 0 d9_9 (tw hw 71 rfl) (tw hw 72 rfl) (tw hw 69 rfl) (tw hw 73 rfl) (by decide) (rmC5_2 l Z a0 hw b d kb kd c0 c1 h1 w.old ge_d nbd (Ab.ext E_d) A_d u0 u1) (lenOf pd_0 rfl) rfl rfl (Nat.le_refl _) ⟨by decide, by decide, by decide, by decide⟩ (allS (List.mem_of_getElem? (i := 0) rfl) all0) ?_
  intro T h2 r w _ hQ
  obtain ⟨rfl, K1, A1⟩ := hQ
  show Go x _ Z _ _ _ T 12 #[.val (.ref b), .val (.int (0 : Int32)), .val (.int (2 : Int32)), .val (.ref d), .unset, .unset] [(.int (2 : Int32))]
  refine w.istore #[.val (.ref b), .val (.int (0 : Int32)), .val (.int (2 : Int32)), .val (.ref d), .val (.int (2 : Int32)), .unset] d9_12 rfl ?_
  refine w.iload d9_14 rfl ?_
  refine w.iloadN d9_16 rfl ?_
  refine w.icmpEq d9_17 d9_17t (fun _ => ?_) (fun q => absurd rfl q)
  refine w.aloadN d9_57 rfl rfl ?_
  exact w.retA d9_58 rfl rfl rfl rfl ⟨d, kd, rfl, keep_to E_d K1 (allS (Nat.le_of_eq g_d.symm) all0), Nat.le_of_eq g_d.symm, A1⟩

set_option maxRecDepth 65536 in
set_option maxHeartbeats 40000000 in
theorem rmCL_2_2 (l : Launch) (Z : State) (a0 : Array Value) (hw : ∀ d ∈ tables_1, d.before a0 Z = true) (d : Addr) (kd : ClassId) (vs : List Value) (h0 : Heap) (hE : Ext Z.heap h0) (Ad : Arv Z h0 d kd .byte (2 : Int32) vs (.int 0)) :
    Ct true l Z consts_1 (⟨"java/lang/StringUTF16", "coderFromArrayLen", "([BI)B"⟩ : MethodName) jdk_52_method_15_code 2 (some .byte) [] ({ frames := 0, cells := 0, slots := 0, locals := 0 } : Room) [] #[(.ref d), (.int (2 : Int32))] h0 (fun r u => r = some (.int (0 : Int32)) ∧ h0 = u) := by
  refine Ct.intro pn_java_lang_StringUTF16 hE (fun m => ef11_ri m d _) nosf ⟨a0, own_EW hw⟩ ?_
  intro x T w
  obtain ⟨cl, Ar, -, S, M, -, -⟩ := Ad
  refine w.iloadN d11_0 rfl ?_
  refine w.aloadN d11_1 rfl rfl ?_
  refine w.alen (2 : Int32) d11_2 Ar (len_of S M) ?_
  refine w.isub d11_3 ?_
  refine w.bipush (31 : Int32) d11_4 rfl ?_
  refine w.iushr d11_6 ?_
  refine w.i2b d11_7 ?_
  exact w.retN d11_8 rfl (by simp) ⟨rfl, rfl⟩

set_option maxRecDepth 65536 in
set_option maxHeartbeats 40000000 in
theorem rmS4_2 (l : Launch) (Z : State) (a0 : Array Value) (hw : ∀ d ∈ tables_1, d.before a0 Z = true) (hr : rest_1_c.value a0 Z none Z [] = some true) (a b : Addr) (kb : ClassId) (c0 c1 : Int32) (h0 : Heap) (hE : Ext Z.heap h0) (ge_a : Z.heap.size ≤ a) (E0 : Exa Z h0 a "java/lang/String") (G1 : Fld Z h0 a "java/lang/String" "value" "[B" .null) (G2 : Fld Z h0 a "java/lang/String" "coder" "B" (.int (0 : Int32))) (Ab : Arv Z h0 b kb .char (2 : Int32) [(.int c0), (.int c1)] (.int 0)) (u0 : ¬ 255 < c0) (u1 : ¬ 255 < c1) :
    Ct true l Z consts_1 (⟨"java/lang/String", "<init>", "([CIILjava/lang/Void;)V"⟩ : MethodName) jdk_42_method_149_code 6 none [] ({ frames := 2, cells := 1, slots := 2, locals := 36 } : Room) [a] #[(.ref a), (.ref b), (.int (0 : Int32)), (.int (2 : Int32)), .null] h0 (fun r u => r = none ∧ Keep h0 u [a] ∧ ∃ t, h0.size ≤ t ∧ StrL Z u a t 0 [nar .byte c0, nar .byte c1]) := by
  refine Ct.intro pn_java_lang_String hE (fun m => ef3_rriin m a b _ _) (onesf ge_a E0.lt) ⟨a0, own_EW hw⟩ ?_
  intro x T w
  obtain ⟨cz, Scs, hcz⟩ := own_cs hr
  refine w.aloadN d3_0 rfl rfl ?_
  refine w.initO 0 d3_1 (tw hw 20 rfl) (tw hw 21 rfl) (tw hw 22 rfl) rfl (Nat.le_refl _) ⟨by decide, by decide⟩ ?_
  intro T w
  refine w.iloadN d3_4 rfl ?_
  refine w.ifNe d3_5 d3_5t (fun _ => ?_) (fun q => absurd q (by decide))
  refine w.getS d3_27 (tw hw 66 rfl) Scs ?_
  intro T w
  refine w.ifEq d3_30 d3_30t (fun q => absurd q hcz) (fun _ => ?_)
  refine w.aloadN d3_33 rfl rfl ?_
  refine w.iloadN d3_34 rfl ?_
  refine w.iloadN d3_35 rfl ?_
  refine w.callS (argsL := [(.ref b), (.int (0 : Int32)), (.int (2 : Int32))]) (rest := []) 0 d3_36 (tw hw 67 rfl) (tw hw 68 rfl) (tw hw 69 rfl) (tw hw 70 rfl) (by decide) (rmC3_2 l Z a0 hw b kb c0 c1 h0 w.old Ab u0 u1) (lenOf pd_1 rfl) rfl rfl (Nat.le_refl _) ⟨by decide, by decide, by decide, by decide⟩ all0 ?_
  intro T h1 r w _ hQ
  obtain ⟨d, kd, rfl, E1, gd, A1⟩ := hQ
  have ne_a_d : a ≠ d := Nat.ne_of_lt (Nat.lt_of_lt_of_le E0.lt gd)
  have F1 := E0.ext E1
  have F2 := G1.ext E1
  have F3 := G2.ext E1
  show Go x _ Z _ _ _ T 39 #[.val (.ref a), .val (.ref b), .val (.int (0 : Int32)), .val (.int (2 : Int32)), .val .null, .unset] [(.ref d)]
  refine w.astore #[.val (.ref a), .val (.ref b), .val (.int (0 : Int32)), .val (.int (2 : Int32)), .val .null, .val (.ref d)] d3_39 rfl rfl ?_
  refine w.aloadN d3_41 rfl rfl ?_
  refine w.aload d3_42 rfl rfl ?_
  refine w.iloadN d3_44 rfl ?_
  refine w.callS (argsL := [(.ref d), (.int (2 : Int32))]) (rest := [(.ref a)]) 1 d3_45 (tw hw 74 rfl) (tw hw 75 rfl) (tw hw 69 rfl) (tw hw 76 rfl) (by decide) (rmCL_2_2 l Z a0 hw d kd _ h1 w.old A1) (lenOf pd_2 rfl) rfl rfl (Nat.le_refl _) ⟨by decide, by decide, by decide, by decide⟩ all0 ?_
  intro T h2 r w _ hQ
  obtain ⟨rfl, rfl⟩ := hQ
  show Go x _ Z _ _ _ T 48 #[.val (.ref a), .val (.ref b), .val (.int (0 : Int32)), .val (.int (2 : Int32)), .val .null, .val (.ref d)] [(.int (0 : Int32)), (.ref a)]
  refine w.putF d3_48 (tw hw 30 rfl) F3 F1 (Or.inr ⟨(tw hw 26 rfl), rfl, rfl⟩) (tw hw 10 rfl) (ty := .byte) (by decide) rfl rfl (List.mem_of_getElem? (i := 0) rfl) ?_
  intro T h3 w W4
  have F5 := F1.wr W4
  have F6 := F2.other W4 (Or.inr (slot_ne (Or.inr (tw hw 25 rfl)) (Or.inr (tw hw 26 rfl)) (by decide) (t := (.array .byte)) (t' := .byte) (by decide) (by decide)))
  have F7 := F3.same W4
  have F8 := A1.other W4 (Ne.symm ne_a_d)
  refine w.aloadN d3_51 rfl rfl ?_
  refine w.aload d3_52 rfl rfl ?_
  refine w.putF d3_54 (tw hw 29 rfl) F6 F5 (Or.inr ⟨(tw hw 25 rfl), rfl, rfl⟩) (tw hw 10 rfl) (ty := (.array .byte)) (by decide) rfl rfl (List.mem_of_getElem? (i := 0) rfl) ?_
  intro T h4 w W9
  have F10 := F5.wr W9
  have F11 := F6.same W9
  have F12 := F7.other W9 (Or.inr (slot_ne (Or.inr (tw hw 26 rfl)) (Or.inr (tw hw 25 rfl)) (by decide) (t := .byte) (t' := (.array .byte)) (by decide) (by decide)))
  have F13 := F8.other W9 (Ne.symm ne_a_d)
  exact w.retV d3_57 rfl ⟨rfl, (((keep_ext E1).wr W4 (Or.inl (List.mem_singleton.mpr rfl))).wr W9 (Or.inl (List.mem_singleton.mpr rfl))), d, gd, F10, F11, F12, kd, F13, by simp⟩

set_option maxRecDepth 65536 in
set_option maxHeartbeats 40000000 in
theorem rmS1_2 (l : Launch) (Z : State) (a0 : Array Value) (hw : ∀ d ∈ tables_1, d.before a0 Z = true) (hr : rest_1_c.value a0 Z none Z [] = some true) (a b : Addr) (kb : ClassId) (c0 c1 : Int32) (h0 : Heap) (hE : Ext Z.heap h0) (ge_a : Z.heap.size ≤ a) (E0 : Exa Z h0 a "java/lang/String") (G1 : Fld Z h0 a "java/lang/String" "value" "[B" .null) (G2 : Fld Z h0 a "java/lang/String" "coder" "B" (.int (0 : Int32))) (Ab : Arv Z h0 b kb .char (2 : Int32) [(.int c0), (.int c1)] (.int 0)) (u0 : ¬ 255 < c0) (u1 : ¬ 255 < c1) :
    Ct true l Z consts_1 (⟨"java/lang/String", "<init>", "([C)V"⟩ : MethodName) jdk_42_method_3_code 2 none [] ({ frames := 3, cells := 1, slots := 2, locals := 53 } : Room) [a] #[(.ref a), (.ref b)] h0 (fun r u => r = none ∧ Keep h0 u [a] ∧ ∃ t, h0.size ≤ t ∧ StrL Z u a t 0 [nar .byte c0, nar .byte c1]) := by
  refine Ct.intro pn_java_lang_String hE (fun m => ef2_rr m a b) (onesf ge_a E0.lt) ⟨a0, own_EW hw⟩ ?_
  intro x T w
  obtain ⟨cl, Ar, -, S, M, -, -⟩ := id Ab
  refine w.aloadN d2_0 rfl rfl ?_
  refine w.aloadN d2_1 rfl rfl ?_
  refine w.iconst (0 : Int32) d2_2 rfl ?_
  refine w.aloadN d2_3 rfl rfl ?_
  refine w.alen (2 : Int32) d2_4 Ar (len_of S M) ?_
  refine w.aconstNull d2_5 ?_
  refine w.callI (argsL := [(.ref b), (.int (0 : Int32)), (.int (2 : Int32)), .null]) (rest := []) 0 d2_6 rfl (tw hw 16 rfl) (tw hw 17 rfl) (tw hw 11 rfl) (tw hw 19 rfl) (by decide) (rmS4_2 l Z a0 hw hr a b kb c0 c1 h0 w.old ge_a E0 G1 G2 Ab u0 u1) (lenOf pd_3 rfl) rfl rfl (Nat.le_refl _) ⟨by decide, by decide, by decide, by decide⟩ (allS (List.mem_of_getElem? (i := 0) rfl) all0) ?_
  intro T h1 r w _ hQ
  obtain ⟨rfl, K1, t, gt, S1⟩ := hQ
  exact w.retV d2_9 rfl ⟨rfl, K1, t, gt, S1⟩

set_option maxRecDepth 65536 in
set_option maxHeartbeats 40000000 in
theorem rmS4_0 (l : Launch) (Z : State) (a0 : Array Value) (hw : ∀ d ∈ tables_1, d.before a0 Z = true) (hr : rest_1_c.value a0 Z none Z [] = some true) (a b : Addr) (h0 : Heap) (hE : Ext Z.heap h0) (ge_a : Z.heap.size ≤ a) (E0 : Exa Z h0 a "java/lang/String") (G1 : Fld Z h0 a "java/lang/String" "value" "[B" .null) (G2 : Fld Z h0 a "java/lang/String" "coder" "B" (.int (0 : Int32))) :
    Ct true l Z consts_1 (⟨"java/lang/String", "<init>", "([CIILjava/lang/Void;)V"⟩ : MethodName) jdk_42_method_149_code 6 none [] ({ frames := 1, cells := 4, slots := 8, locals := 12 } : Room) [a] #[(.ref a), (.ref b), (.int (0 : Int32)), (.int (0 : Int32)), .null] h0 (fun r u => r = none ∧ Keep h0 u [a] ∧ ∃ t, StrL Z u a t 0 []) := by
  refine Ct.intro pn_java_lang_String hE (fun m => ef3_rriin m a b _ _) (onesf ge_a E0.lt) ⟨a0, own_EW hw⟩ ?_
  intro x T w
  refine w.aloadN d3_0 rfl rfl ?_
  refine w.initO 0 d3_1 (tw hw 20 rfl) (tw hw 21 rfl) (tw hw 22 rfl) rfl (Nat.le_refl _) ⟨by decide, by decide⟩ ?_
  intro T w
  refine w.iloadN d3_4 rfl ?_
  refine w.ifNe d3_5 d3_5t (fun q => absurd (by decide) q) (fun _ => ?_)
  refine w.aloadN d3_8 rfl rfl ?_
  refine w.ldcR (0 : Int32) 0 d3_9 (tw hw 23 rfl) (own_sA hw) (own_EW hw) (by decide) ⟨(by decide), rfl⟩ (by decide) rfl (by decide) (by decide) ⟨by decide, by decide⟩ ?_
  intro s1 t1 kbs1 T h1 w Es1 Xs1 Cs1 Vs1 As1 Ns1
  have F21 := E0.ext Es1
  have F22 := G1.ext Es1
  have F23 := G2.ext Es1
  refine w.getF d3_11 (tw hw 29 rfl) Vs1 ?_
  intro T w
  refine w.putF d3_14 (tw hw 29 rfl) F22 F21 (Or.inr ⟨(tw hw 25 rfl), rfl, rfl⟩) (tw hw 10 rfl) (ty := (.array .byte)) (by decide) rfl rfl (List.mem_of_getElem? (i := 0) rfl) ?_
  intro T h2 w W24
  have F25 := F21.wr W24
  have F26 := F22.same W24
  have F27 := F23.other W24 (Or.inr (slot_ne (Or.inr (tw hw 26 rfl)) (Or.inr (tw hw 25 rfl)) (by decide) (t := .byte) (t' := (.array .byte)) (by decide) (by decide)))
  have F28 := Vs1.other W24 (Or.inl (Ne.symm (Ns1 a (List.mem_of_getElem? (i := 0) rfl)).1))
  have F29 := Cs1.other W24 (Or.inl (Ne.symm (Ns1 a (List.mem_of_getElem? (i := 0) rfl)).1))
  have F30 := As1.other W24 (Ne.symm (Ns1 a (List.mem_of_getElem? (i := 0) rfl)).2)
  refine w.aloadN d3_17 rfl rfl ?_
  refine w.ldcR (0 : Int32) 0 d3_18 (tw hw 23 rfl) (own_sA hw) (own_EW hw) (by decide) ⟨(by decide), rfl⟩ (by decide) rfl (by decide) (by decide) ⟨by decide, by decide⟩ ?_
  intro s2 t2 kbs2 T h3 w Es2 Xs2 Cs2 Vs2 As2 Ns2
  have F31 := F25.ext Es2
  have F32 := F26.ext Es2
  have F33 := F27.ext Es2
  have F34 := F28.ext Es2
  have F35 := F29.ext Es2
  have F36 := F30.ext Es2
  refine w.getF d3_20 (tw hw 30 rfl) Cs2 ?_
  intro T w
  refine w.putF d3_23 (tw hw 30 rfl) F33 F31 (Or.inr ⟨(tw hw 26 rfl), rfl, rfl⟩) (tw hw 10 rfl) (ty := .byte) (by decide) rfl rfl (List.mem_of_getElem? (i := 0) rfl) ?_
  intro T h4 w W37
  have F38 := F31.wr W37
  have F39 := F32.other W37 (Or.inr (slot_ne (Or.inr (tw hw 25 rfl)) (Or.inr (tw hw 26 rfl)) (by decide) (t := (.array .byte)) (t' := .byte) (by decide) (by decide)))
  have F40 := F33.same W37
  have F41 := F34.other W37 (Or.inl (Ne.symm (Ns1 a (List.mem_of_getElem? (i := 0) rfl)).1))
  have F42 := F35.other W37 (Or.inl (Ne.symm (Ns1 a (List.mem_of_getElem? (i := 0) rfl)).1))
  have F43 := F36.other W37 (Ne.symm (Ns1 a (List.mem_of_getElem? (i := 0) rfl)).2)
  have F44 := Vs2.other W37 (Or.inl (Ne.symm (Ns2 a (List.mem_of_getElem? (i := 0) rfl)).1))
  have F45 := Cs2.other W37 (Or.inl (Ne.symm (Ns2 a (List.mem_of_getElem? (i := 0) rfl)).1))
  have F46 := As2.other W37 (Ne.symm (Ns2 a (List.mem_of_getElem? (i := 0) rfl)).2)
  exact w.retV d3_26 rfl ⟨rfl, ((((keep_ext Es1).wr W24 (Or.inl (List.mem_singleton.mpr rfl))).ext Es2).wr W37 (Or.inl (List.mem_singleton.mpr rfl))), t1, F38, F39, F40, kbs1, F43, by simp⟩

set_option maxRecDepth 65536 in
set_option maxHeartbeats 40000000 in
theorem rmS1_0 (l : Launch) (Z : State) (a0 : Array Value) (hw : ∀ d ∈ tables_1, d.before a0 Z = true) (hr : rest_1_c.value a0 Z none Z [] = some true) (a b : Addr) (kb : ClassId) (vs : List Value) (h0 : Heap) (hE : Ext Z.heap h0) (ge_a : Z.heap.size ≤ a) (E0 : Exa Z h0 a "java/lang/String") (G1 : Fld Z h0 a "java/lang/String" "value" "[B" .null) (G2 : Fld Z h0 a "java/lang/String" "coder" "B" (.int (0 : Int32))) (Ab : Arv Z h0 b kb .char (0 : Int32) vs (.int 0)) :
    Ct true l Z consts_1 (⟨"java/lang/String", "<init>", "([C)V"⟩ : MethodName) jdk_42_method_3_code 2 none [] ({ frames := 2, cells := 4, slots := 8, locals := 30 } : Room) [a] #[(.ref a), (.ref b)] h0 (fun r u => r = none ∧ Keep h0 u [a] ∧ ∃ t, StrL Z u a t 0 []) := by
  refine Ct.intro pn_java_lang_String hE (fun m => ef2_rr m a b) (onesf ge_a E0.lt) ⟨a0, own_EW hw⟩ ?_
  intro x T w
  obtain ⟨cl, Ar, -, S, M, -, -⟩ := id Ab
  refine w.aloadN d2_0 rfl rfl ?_
  refine w.aloadN d2_1 rfl rfl ?_
  refine w.iconst (0 : Int32) d2_2 rfl ?_
  refine w.aloadN d2_3 rfl rfl ?_
  refine w.alen (0 : Int32) d2_4 Ar (len_of S M) ?_
  refine w.aconstNull d2_5 ?_
  refine w.callI (argsL := [(.ref b), (.int (0 : Int32)), (.int (0 : Int32)), .null]) (rest := []) 0 d2_6 rfl (tw hw 16 rfl) (tw hw 17 rfl) (tw hw 11 rfl) (tw hw 19 rfl) (by decide) (rmS4_0 l Z a0 hw hr a b h0 w.old ge_a E0 G1 G2) (lenOf pd_3 rfl) rfl rfl (Nat.le_refl _) ⟨by decide, by decide, by decide, by decide⟩ (allS (List.mem_of_getElem? (i := 0) rfl) all0) ?_
  intro T h1 r w _ hQ
  obtain ⟨rfl, K1, t, S1⟩ := hQ
  exact w.retV d2_9 rfl ⟨rfl, K1, t, S1⟩

theorem ef13_rr (m : MethodId) (x0 : Addr) (x1 : Addr) : entryFrame m #[(.ref x0), (.ref x1)] 3 = mkF m 0 #[.val (.ref x0), .val (.ref x1), .unset] [] := by first | (simp [entryFrame, mkF, argsToLocals, Value.category]; done) | rfl
set_option maxRecDepth 65536 in
set_option maxHeartbeats 40000000 in
theorem lpLE (l : Launch) (Z : State) (bs cs : List Int32) (t u : Addr) (kb kc : ClassId) (h0 : Heap) (hb : bs.length < 2 ^ 31) (hc : cs.length < 2 ^ 31) (A : Arv Z h0 t kb .byte (Int32.ofNat bs.length) (bs.map .int) (.int 0)) (B : Arv Z h0 u kc .byte (Int32.ofNat cs.length) (cs.map .int) (.int 0)) (hlen : bs.length = cs.length) (cx : Cx) (R : Room) (k n : Nat) (sf : List Addr) : ∀ (r i : Nat) (T : State), i + r = bs.length → (∀ j, j < i → bs.getD j 0 = cs.getD j 0) → W cx true l Z consts_1 R "java/lang/StringLatin1" jdk_43_method_13_code 3 (some .boolean) "equals" T h0 k n sf →
    Go cx true Z consts_1 R (fun r v => r = some (.int (if bs = cs then 1 else 0)) ∧ h0 = v) T 9 #[.val (.ref t), .val (.ref u), .val (.int (Int32.ofNat i))] [] := by
  obtain ⟨c1, A1, -, S1, M1, H1, -⟩ := A
  obtain ⟨c2, B1, -, S2, M2, H2, -⟩ := B
  intro r
  induction r with
  | zero =>
    intro i T hi hj w
    have e : bs = cs := list_eq hlen fun j q => hj j (by omega)
    refine w.iloadN d13_9 rfl ?_
    refine w.aloadN d13_10 rfl rfl ?_
    refine w.alen (Int32.ofNat bs.length) d13_11 A1 (len_of S1 M1) ?_
    refine w.icmpGe d13_12 d13_12t (fun _ => ?_) (fun q => absurd q (by rw [ofN_lt (by omega) hb]; omega))
    refine w.iconst (1 : Int32) d13_32 rfl ?_
    exact w.retN d13_33 rfl (by simp) ⟨by rw [if_pos e]; rfl, rfl⟩
  | succ r ih =>
    intro i T hi hj w
    have g1 : ¬ (Int32.ofNat i < 0 ∨ c1.slots.size ≤ (Int32.ofNat i).toNatClampNeg) := inb_of S1 ⟨ofN_nn (by omega), (ofN_lt (by omega) hb).mpr (by omega)⟩
    have g2 : ¬ (Int32.ofNat i < 0 ∨ c2.slots.size ≤ (Int32.ofNat i).toNatClampNeg) := inb_of S2 ⟨ofN_nn (by omega), (ofN_lt (by omega) (by omega)).mpr (by omega)⟩
    refine w.iloadN d13_9 rfl ?_
    refine w.aloadN d13_10 rfl rfl ?_
    refine w.alen (Int32.ofNat bs.length) d13_11 A1 (len_of S1 M1) ?_
    refine w.icmpGe d13_12 d13_12t (fun q => absurd ((ofN_lt (by omega) hb).mpr (by omega)) q) (fun _ => ?_)
    refine w.aloadN d13_15 rfl rfl ?_
    refine w.iloadN d13_16 rfl ?_
    refine w.baload (v := .int (bs.getD i 0)) d13_17 A1 g1 (H1.at g1 (by rw [ofN_clamp (by omega)]; exact mapGet bs i)) ?_
    refine w.aloadN d13_18 rfl rfl ?_
    refine w.iloadN d13_19 rfl ?_
    refine w.baload (v := .int (cs.getD i 0)) d13_20 B1 g2 (H2.at g2 (by rw [ofN_clamp (by omega)]; exact mapGet cs i)) ?_
    refine w.icmpEq d13_21 d13_21t (fun q1 => ?_) (fun q1 => ?_)
    · refine w.iinc (1 : Int32) #[.val (.ref t), .val (.ref u), .val (.int ((Int32.ofNat i) + (1 : Int32)))] d13_26 rfl rfl rfl ?_
      refine w.goto d13_29 d13_29t ?_
      rw [ofN_succ (by omega)]
      exact ih (i + 1) T (by omega) (fun j hj' => by
        by_cases e : j = i
        · subst e; exact q1
        · exact hj j (by omega)) w
    · refine w.iconst (0 : Int32) d13_24 rfl ?_
      exact w.retN d13_25 rfl (by simp) ⟨by rw [if_neg (fun e => q1 (by rw [e]))]; rfl, rfl⟩

set_option maxRecDepth 65536 in
set_option maxHeartbeats 40000000 in
theorem rmLE (l : Launch) (Z : State) (a0 : Array Value) (hw : ∀ d ∈ tables_1, d.before a0 Z = true) (bs cs : List Int32) (t u : Addr) (kb kc : ClassId) (h0 : Heap) (hE : Ext Z.heap h0) (hb : bs.length < 2 ^ 31) (hc : cs.length < 2 ^ 31) (A : Arv Z h0 t kb .byte (Int32.ofNat bs.length) (bs.map .int) (.int 0)) (B : Arv Z h0 u kc .byte (Int32.ofNat cs.length) (cs.map .int) (.int 0)) :
    Ct true l Z consts_1 (⟨"java/lang/StringLatin1", "equals", "([B[B)Z"⟩ : MethodName) jdk_43_method_13_code 3 (some .boolean) [] ({ frames := 0, cells := 0, slots := 0, locals := 0 } : Room) [] #[(.ref t), (.ref u)] h0 (fun r v => r = some (.int (if bs = cs then 1 else 0)) ∧ h0 = v) := by
  refine Ct.intro pn_java_lang_StringLatin1 hE (fun m => ef13_rr m t u) nosf ⟨a0, own_EW hw⟩ ?_
  intro x T w
  obtain ⟨c1, A1, -, S1, M1, H1, -⟩ := id A
  obtain ⟨c2, B1, -, S2, M2, H2, -⟩ := id B
  refine w.aloadN d13_0 rfl rfl ?_
  refine w.alen (Int32.ofNat bs.length) d13_1 A1 (len_of S1 M1) ?_
  refine w.aloadN d13_2 rfl rfl ?_
  refine w.alen (Int32.ofNat cs.length) d13_3 B1 (len_of S2 M2) ?_
  refine w.icmpNe d13_4 d13_4t (fun q1 => ?_) (fun q1 => ?_)
  · refine w.iconst (0 : Int32) d13_34 rfl ?_
    exact w.retN d13_35 rfl (by simp) ⟨by rw [if_neg (fun e => q1 (by rw [e]))]; rfl, rfl⟩
  · refine w.iconst (0 : Int32) d13_7 rfl ?_
    refine w.istoreN #[.val (.ref t), .val (.ref u), .val (.int (0 : Int32))] d13_8 rfl ?_
    exact lpLE l Z bs cs t u kb kc h0 hb hc A B ((ofN_inj hb hc).mp q1) x _ _ _ _ bs.length 0 T (by omega) (fun j q => absurd q (Nat.not_lt_zero _)) w

theorem ef8_rr (m : MethodId) (x0 : Addr) (x1 : Addr) : entryFrame m #[(.ref x0), (.ref x1)] 3 = mkF m 0 #[.val (.ref x0), .val (.ref x1), .unset] [] := by first | (simp [entryFrame, mkF, argsToLocals, Value.category]; done) | rfl
set_option maxRecDepth 65536 in
set_option maxHeartbeats 40000000 in
theorem rmSE (l : Launch) (Z : State) (a0 : Array Value) (hw : ∀ d ∈ tables_1, d.before a0 Z = true) (hr : rest_1_c.value a0 Z none Z [] = some true) (bs cs : List Int32) (a b t u : Addr) (k : Int32) (h0 : Heap) (hE : Ext Z.heap h0) (Sa : StrL Z h0 a t k bs) (Sb : StrL Z h0 b u k cs) :
    Ct true l Z consts_1 (⟨"java/lang/String", "equals", "(Ljava/lang/Object;)Z"⟩ : MethodName) jdk_42_method_66_code 3 (some .boolean) [] ({ frames := 1, cells := 0, slots := 0, locals := 16 } : Room) [] #[(.ref a), (.ref b)] h0 (fun r v => r = some (.int (if bs = cs then 1 else 0)) ∧ h0 = v) := by
  refine Ct.intro pn_java_lang_String hE (fun m => ef8_rr m a b) nosf ⟨a0, own_EW hw⟩ ?_
  intro x T w
  obtain ⟨cz, Scs, hcz⟩ := own_cs hr
  obtain ⟨Ea, Va, Ca, ka, Aa, la⟩ := id Sa
  obtain ⟨Eb, Vb, Cb, kb, Ab, lb⟩ := id Sb
  refine w.aloadN d8_0 rfl rfl ?_
  refine w.aloadN d8_1 rfl rfl ?_
  refine w.racmpNe d8_2 d8_2t (fun q1 => ?_) (fun q1 => ?_)
  · refine w.aloadN d8_7 rfl rfl ?_
    refine w.instY d8_8 (tw hw 82 rfl) (Ins.self Eb) ?_
    intro T w
    refine w.ifEq d8_11 d8_11t (fun q => absurd q (by decide)) (fun _ => ?_)
    refine w.aloadN d8_14 rfl rfl ?_
    refine w.cast d8_15 (tw hw 82 rfl) (Ins.self Eb) ?_
    intro T w
    refine w.astoreN #[.val (.ref a), .val (.ref b), .val (.ref b)] d8_18 rfl rfl ?_
    refine w.getS d8_19 (tw hw 66 rfl) Scs ?_
    intro T w
    refine w.ifEq d8_22 d8_22t (fun q => absurd q hcz) (fun _ => ?_)
    refine w.aloadN d8_25 rfl rfl ?_
    refine w.getF d8_26 (tw hw 30 rfl) Ca ?_
    intro T w
    refine w.aloadN d8_29 rfl rfl ?_
    refine w.getF d8_30 (tw hw 30 rfl) Cb ?_
    intro T w
    refine w.icmpNe d8_33 d8_33t (fun q => absurd rfl q) (fun _ => ?_)
    refine w.aloadN d8_36 rfl rfl ?_
    refine w.getF d8_37 (tw hw 29 rfl) Va ?_
    intro T w
    refine w.aloadN d8_40 rfl rfl ?_
    refine w.getF d8_41 (tw hw 29 rfl) Vb ?_
    intro T w
    refine w.callS (argsL := [(.ref t), (.ref u)]) (rest := []) 0 d8_44 (tw hw 83 rfl) (tw hw 84 rfl) (tw hw 85 rfl) (tw hw 86 rfl) (by decide) (rmLE l Z a0 hw bs cs t u ka kb h0 w.old la lb Aa Ab) (lenOf pd_4 rfl) rfl rfl (Nat.le_refl _) ⟨by decide, by decide, by decide, by decide⟩ all0 ?_
    intro T h1 r w _ hQ
    obtain ⟨rfl, rfl⟩ := hQ
    show Go x _ Z _ _ _ T 47 #[.val (.ref a), .val (.ref b), .val (.ref b)] [(.int (if bs = cs then 1 else 0))]
    refine w.ifEq d8_47 d8_47t (fun q2 => ?_) (fun q2 => ?_)
    · refine w.iconst (0 : Int32) d8_54 rfl ?_
      exact w.retN d8_55 rfl (by simp) ⟨by rw [if_neg (fun e => by rw [if_pos e] at q2; exact absurd q2 (by decide))]; rfl, rfl⟩
    · refine w.iconst (1 : Int32) d8_50 rfl ?_
      refine w.goto d8_51 d8_51t ?_
      exact w.retN d8_55 rfl (by simp) ⟨by rw [if_pos (Classical.byContradiction fun e => q2 (if_neg e))]; rfl, rfl⟩
  · refine w.iconst (1 : Int32) d8_5 rfl ?_
    exact w.retN d8_6 rfl (by simp) ⟨by subst q1; rw [if_pos (Sa.same Sb)]; rfl, rfl⟩

theorem d1_0 : Dc method_2_code 0 (.iload_n 0) 1 1 := ⟨by decide +kernel, rfl⟩
theorem d1_1 : Dc method_2_code 1 (.ifCond .ne 14) 3 4 := ⟨by decide +kernel, rfl⟩
theorem d1_1t : Tg 1 (14) 15 := ⟨by decide, by decide⟩
theorem d1_4 : Dc method_2_code 4 (.new 7) 3 7 := ⟨by decide +kernel, rfl⟩
theorem d1_7 : Dc method_2_code 7 .dup 1 8 := ⟨by decide +kernel, rfl⟩
theorem d1_8 : Dc method_2_code 8 (.iconst 0) 1 9 := ⟨by decide +kernel, rfl⟩
theorem d1_9 : Dc method_2_code 9 (.newarray .char) 2 11 := ⟨by decide +kernel, rfl⟩
theorem d1_11 : Dc method_2_code 11 (.invokespecial 9) 3 14 := ⟨by decide +kernel, rfl⟩
theorem d1_14 : Dc method_2_code 14 .areturn 1 15 := ⟨by decide +kernel, rfl⟩
theorem d1_15 : Dc method_2_code 15 (.iload_n 0) 1 16 := ⟨by decide +kernel, rfl⟩
theorem d1_16 : Dc method_2_code 16 (.iconst 1) 1 17 := ⟨by decide +kernel, rfl⟩
theorem d1_17 : Dc method_2_code 17 (.if_icmp .ne 20) 3 20 := ⟨by decide +kernel, rfl⟩
theorem d1_17t : Tg 17 (20) 37 := ⟨by decide, by decide⟩
theorem d1_20 : Dc method_2_code 20 (.iconst 1) 1 21 := ⟨by decide +kernel, rfl⟩
theorem d1_21 : Dc method_2_code 21 (.newarray .char) 2 23 := ⟨by decide +kernel, rfl⟩
theorem d1_23 : Dc method_2_code 23 (.astore_n 3) 1 24 := ⟨by decide +kernel, rfl⟩
theorem d1_24 : Dc method_2_code 24 (.aload_n 3) 1 25 := ⟨by decide +kernel, rfl⟩
theorem d1_25 : Dc method_2_code 25 (.iconst 0) 1 26 := ⟨by decide +kernel, rfl⟩
theorem d1_26 : Dc method_2_code 26 (.iload_n 1) 1 27 := ⟨by decide +kernel, rfl⟩
theorem d1_27 : Dc method_2_code 27 .castore 1 28 := ⟨by decide +kernel, rfl⟩
theorem d1_28 : Dc method_2_code 28 (.new 7) 3 31 := ⟨by decide +kernel, rfl⟩
theorem d1_31 : Dc method_2_code 31 .dup 1 32 := ⟨by decide +kernel, rfl⟩
theorem d1_32 : Dc method_2_code 32 (.aload_n 3) 1 33 := ⟨by decide +kernel, rfl⟩
theorem d1_33 : Dc method_2_code 33 (.invokespecial 9) 3 36 := ⟨by decide +kernel, rfl⟩
theorem d1_36 : Dc method_2_code 36 .areturn 1 37 := ⟨by decide +kernel, rfl⟩
theorem d1_37 : Dc method_2_code 37 (.iconst 2) 1 38 := ⟨by decide +kernel, rfl⟩
theorem d1_38 : Dc method_2_code 38 (.newarray .char) 2 40 := ⟨by decide +kernel, rfl⟩
theorem d1_40 : Dc method_2_code 40 (.astore_n 3) 1 41 := ⟨by decide +kernel, rfl⟩
theorem d1_41 : Dc method_2_code 41 (.aload_n 3) 1 42 := ⟨by decide +kernel, rfl⟩
theorem d1_42 : Dc method_2_code 42 (.iconst 0) 1 43 := ⟨by decide +kernel, rfl⟩
theorem d1_43 : Dc method_2_code 43 (.iload_n 1) 1 44 := ⟨by decide +kernel, rfl⟩
theorem d1_44 : Dc method_2_code 44 .castore 1 45 := ⟨by decide +kernel, rfl⟩
theorem d1_45 : Dc method_2_code 45 (.aload_n 3) 1 46 := ⟨by decide +kernel, rfl⟩
theorem d1_46 : Dc method_2_code 46 (.iconst 1) 1 47 := ⟨by decide +kernel, rfl⟩
theorem d1_47 : Dc method_2_code 47 (.iload_n 2) 1 48 := ⟨by decide +kernel, rfl⟩
theorem d1_48 : Dc method_2_code 48 .castore 1 49 := ⟨by decide +kernel, rfl⟩
theorem d1_49 : Dc method_2_code 49 (.new 7) 3 52 := ⟨by decide +kernel, rfl⟩
theorem d1_52 : Dc method_2_code 52 .dup 1 53 := ⟨by decide +kernel, rfl⟩
theorem d1_53 : Dc method_2_code 53 (.aload_n 3) 1 54 := ⟨by decide +kernel, rfl⟩
theorem d1_54 : Dc method_2_code 54 (.invokespecial 9) 3 57 := ⟨by decide +kernel, rfl⟩
theorem d1_57 : Dc method_2_code 57 .areturn 1 58 := ⟨by decide +kernel, rfl⟩
theorem d5_0 : Dc prog_16_method_1_code 0 (.aload_n 0) 1 1 := ⟨by decide +kernel, rfl⟩
theorem d5_1 : Dc prog_16_method_1_code 1 (.invokespecial 1) 3 4 := ⟨by decide +kernel, rfl⟩
theorem d5_4 : Dc prog_16_method_1_code 4 (.aload_n 0) 1 5 := ⟨by decide +kernel, rfl⟩
theorem d5_5 : Dc prog_16_method_1_code 5 (.aload_n 1) 1 6 := ⟨by decide +kernel, rfl⟩
theorem d5_6 : Dc prog_16_method_1_code 6 (.ldc 7) 2 8 := ⟨by decide +kernel, rfl⟩
theorem d5_8 : Dc prog_16_method_1_code 8 (.invokestatic 9) 3 11 := ⟨by decide +kernel, rfl⟩
theorem d5_11 : Dc prog_16_method_1_code 11 (.checkcast 15) 3 14 := ⟨by decide +kernel, rfl⟩
theorem d5_14 : Dc prog_16_method_1_code 14 (.putfield 17) 3 17 := ⟨by decide +kernel, rfl⟩
theorem d5_17 : Dc prog_16_method_1_code 17 (.aload_n 0) 1 18 := ⟨by decide +kernel, rfl⟩
theorem d5_18 : Dc prog_16_method_1_code 18 (.aload_n 2) 1 19 := ⟨by decide +kernel, rfl⟩
theorem d5_19 : Dc prog_16_method_1_code 19 (.ldc 22) 2 21 := ⟨by decide +kernel, rfl⟩
theorem d5_21 : Dc prog_16_method_1_code 21 (.invokestatic 9) 3 24 := ⟨by decide +kernel, rfl⟩
theorem d5_24 : Dc prog_16_method_1_code 24 (.checkcast 15) 3 27 := ⟨by decide +kernel, rfl⟩
theorem d5_27 : Dc prog_16_method_1_code 27 (.putfield 24) 3 30 := ⟨by decide +kernel, rfl⟩
theorem d5_30 : Dc prog_16_method_1_code 30 (.aload_n 0) 1 31 := ⟨by decide +kernel, rfl⟩
theorem d5_31 : Dc prog_16_method_1_code 31 (.aload_n 3) 1 32 := ⟨by decide +kernel, rfl⟩
theorem d5_32 : Dc prog_16_method_1_code 32 (.ldc 26) 2 34 := ⟨by decide +kernel, rfl⟩
theorem d5_34 : Dc prog_16_method_1_code 34 (.invokestatic 9) 3 37 := ⟨by decide +kernel, rfl⟩
theorem d5_37 : Dc prog_16_method_1_code 37 (.checkcast 28) 3 40 := ⟨by decide +kernel, rfl⟩
theorem d5_40 : Dc prog_16_method_1_code 40 (.putfield 30) 3 43 := ⟨by decide +kernel, rfl⟩
theorem d5_43 : Dc prog_16_method_1_code 43 .return_ 1 44 := ⟨by decide +kernel, rfl⟩
theorem d7_0 : Dc prog_16_method_6_code 0 (.aload_n 1) 1 1 := ⟨by decide +kernel, rfl⟩
theorem d7_1 : Dc prog_16_method_6_code 1 (.instanceof 18) 3 4 := ⟨by decide +kernel, rfl⟩
theorem d7_4 : Dc prog_16_method_6_code 4 (.ifCond .eq 51) 3 7 := ⟨by decide +kernel, rfl⟩
theorem d7_4t : Tg 4 (51) 55 := ⟨by decide, by decide⟩
theorem d7_7 : Dc prog_16_method_6_code 7 (.aload_n 1) 1 8 := ⟨by decide +kernel, rfl⟩
theorem d7_8 : Dc prog_16_method_6_code 8 (.checkcast 18) 3 11 := ⟨by decide +kernel, rfl⟩
theorem d7_11 : Dc prog_16_method_6_code 11 (.astore_n 2) 1 12 := ⟨by decide +kernel, rfl⟩
theorem d7_12 : Dc prog_16_method_6_code 12 (.aload_n 0) 1 13 := ⟨by decide +kernel, rfl⟩
theorem d7_13 : Dc prog_16_method_6_code 13 (.getfield 17) 3 16 := ⟨by decide +kernel, rfl⟩
theorem d7_16 : Dc prog_16_method_6_code 16 (.aload_n 2) 1 17 := ⟨by decide +kernel, rfl⟩
theorem d7_17 : Dc prog_16_method_6_code 17 (.getfield 17) 3 20 := ⟨by decide +kernel, rfl⟩
theorem d7_20 : Dc prog_16_method_6_code 20 (.invokevirtual 40) 3 23 := ⟨by decide +kernel, rfl⟩
theorem d7_23 : Dc prog_16_method_6_code 23 (.ifCond .eq 32) 3 26 := ⟨by decide +kernel, rfl⟩
theorem d7_23t : Tg 23 (32) 55 := ⟨by decide, by decide⟩
theorem d7_26 : Dc prog_16_method_6_code 26 (.aload_n 0) 1 27 := ⟨by decide +kernel, rfl⟩
theorem d7_27 : Dc prog_16_method_6_code 27 (.getfield 24) 3 30 := ⟨by decide +kernel, rfl⟩
theorem d7_30 : Dc prog_16_method_6_code 30 (.aload_n 2) 1 31 := ⟨by decide +kernel, rfl⟩
theorem d7_31 : Dc prog_16_method_6_code 31 (.getfield 24) 3 34 := ⟨by decide +kernel, rfl⟩
theorem d7_34 : Dc prog_16_method_6_code 34 (.invokevirtual 40) 3 37 := ⟨by decide +kernel, rfl⟩
theorem d7_37 : Dc prog_16_method_6_code 37 (.ifCond .eq 18) 3 40 := ⟨by decide +kernel, rfl⟩
theorem d7_37t : Tg 37 (18) 55 := ⟨by decide, by decide⟩
theorem d7_40 : Dc prog_16_method_6_code 40 (.aload_n 0) 1 41 := ⟨by decide +kernel, rfl⟩
theorem d7_41 : Dc prog_16_method_6_code 41 (.getfield 30) 3 44 := ⟨by decide +kernel, rfl⟩
theorem d7_44 : Dc prog_16_method_6_code 44 (.aload_n 2) 1 45 := ⟨by decide +kernel, rfl⟩
theorem d7_45 : Dc prog_16_method_6_code 45 (.getfield 30) 3 48 := ⟨by decide +kernel, rfl⟩
theorem d7_48 : Dc prog_16_method_6_code 48 (.if_acmp .ne 7) 3 51 := ⟨by decide +kernel, rfl⟩
theorem d7_48t : Tg 48 (7) 55 := ⟨by decide, by decide⟩
theorem d7_51 : Dc prog_16_method_6_code 51 (.iconst 1) 1 52 := ⟨by decide +kernel, rfl⟩
theorem d7_52 : Dc prog_16_method_6_code 52 (.goto 4) 3 55 := ⟨by decide +kernel, rfl⟩
theorem d7_52t : Tg 52 (4) 56 := ⟨by decide, by decide⟩
theorem d7_55 : Dc prog_16_method_6_code 55 (.iconst 0) 1 56 := ⟨by decide +kernel, rfl⟩
theorem d7_56 : Dc prog_16_method_6_code 56 .ireturn 1 57 := ⟨by decide +kernel, rfl⟩
theorem d6_0 : Dc jdk_31_method_11_code 0 (.aload_n 0) 1 1 := ⟨by decide +kernel, rfl⟩
theorem d6_1 : Dc jdk_31_method_11_code 1 (.ifnonnull 12) 3 4 := ⟨by decide +kernel, rfl⟩
theorem d6_1t : Tg 1 (12) 13 := ⟨by decide, by decide⟩
theorem d6_4 : Dc jdk_31_method_11_code 4 (.new 84) 3 7 := ⟨by decide +kernel, rfl⟩
theorem d6_7 : Dc jdk_31_method_11_code 7 .dup 1 8 := ⟨by decide +kernel, rfl⟩
theorem d6_8 : Dc jdk_31_method_11_code 8 (.aload_n 1) 1 9 := ⟨by decide +kernel, rfl⟩
theorem d6_9 : Dc jdk_31_method_11_code 9 (.invokespecial 87) 3 12 := ⟨by decide +kernel, rfl⟩
theorem d6_12 : Dc jdk_31_method_11_code 12 .athrow 1 13 := ⟨by decide +kernel, rfl⟩
theorem d6_13 : Dc jdk_31_method_11_code 13 (.aload_n 0) 1 14 := ⟨by decide +kernel, rfl⟩
theorem d6_14 : Dc jdk_31_method_11_code 14 .areturn 1 15 := ⟨by decide +kernel, rfl⟩
theorem d12_0 : Dc method_3_code 0 (.iload_n 0) 1 1 := ⟨by decide +kernel, rfl⟩
theorem d12_1 : Dc method_3_code 1 (.iload_n 3) 1 2 := ⟨by decide +kernel, rfl⟩
theorem d12_2 : Dc method_3_code 2 (.if_icmp .eq 5) 3 5 := ⟨by decide +kernel, rfl⟩
theorem d12_2t : Tg 2 (5) 7 := ⟨by decide, by decide⟩
theorem d12_5 : Dc method_3_code 5 (.iconst 0) 1 6 := ⟨by decide +kernel, rfl⟩
theorem d12_6 : Dc method_3_code 6 .ireturn 1 7 := ⟨by decide +kernel, rfl⟩
theorem d12_7 : Dc method_3_code 7 (.iload_n 0) 1 8 := ⟨by decide +kernel, rfl⟩
theorem d12_8 : Dc method_3_code 8 (.iconst 1) 1 9 := ⟨by decide +kernel, rfl⟩
theorem d12_9 : Dc method_3_code 9 (.if_icmp .lt 11) 3 12 := ⟨by decide +kernel, rfl⟩
theorem d12_9t : Tg 9 (11) 20 := ⟨by decide, by decide⟩
theorem d12_12 : Dc method_3_code 12 (.iload_n 1) 1 13 := ⟨by decide +kernel, rfl⟩
theorem d12_13 : Dc method_3_code 13 (.iload 4) 2 15 := ⟨by decide +kernel, rfl⟩
theorem d12_15 : Dc method_3_code 15 (.if_icmp .eq 5) 3 18 := ⟨by decide +kernel, rfl⟩
theorem d12_15t : Tg 15 (5) 20 := ⟨by decide, by decide⟩
theorem d12_18 : Dc method_3_code 18 (.iconst 0) 1 19 := ⟨by decide +kernel, rfl⟩
theorem d12_19 : Dc method_3_code 19 .ireturn 1 20 := ⟨by decide +kernel, rfl⟩
theorem d12_20 : Dc method_3_code 20 (.iload_n 0) 1 21 := ⟨by decide +kernel, rfl⟩
theorem d12_21 : Dc method_3_code 21 (.iconst 2) 1 22 := ⟨by decide +kernel, rfl⟩
theorem d12_22 : Dc method_3_code 22 (.if_icmp .lt 11) 3 25 := ⟨by decide +kernel, rfl⟩
theorem d12_22t : Tg 22 (11) 33 := ⟨by decide, by decide⟩
theorem d12_25 : Dc method_3_code 25 (.iload_n 2) 1 26 := ⟨by decide +kernel, rfl⟩
theorem d12_26 : Dc method_3_code 26 (.iload 5) 2 28 := ⟨by decide +kernel, rfl⟩
theorem d12_28 : Dc method_3_code 28 (.if_icmp .eq 5) 3 31 := ⟨by decide +kernel, rfl⟩
theorem d12_28t : Tg 28 (5) 33 := ⟨by decide, by decide⟩
theorem d12_31 : Dc method_3_code 31 (.iconst 0) 1 32 := ⟨by decide +kernel, rfl⟩
theorem d12_32 : Dc method_3_code 32 .ireturn 1 33 := ⟨by decide +kernel, rfl⟩
theorem d12_33 : Dc method_3_code 33 (.iconst 1) 1 34 := ⟨by decide +kernel, rfl⟩
theorem d12_34 : Dc method_3_code 34 .ireturn 1 35 := ⟨by decide +kernel, rfl⟩
theorem d0_0 : Dc code 0 (.iload_n 0) 1 1 := ⟨at_0, rfl⟩
theorem d0_1 : Dc code 1 (.iconst 3) 1 2 := ⟨at_1, rfl⟩
theorem d0_2 : Dc code 2 .iand 1 3 := ⟨at_2, rfl⟩
theorem d0_3 : Dc code 3 (.iconst 3) 1 4 := ⟨at_3, rfl⟩
theorem d0_4 : Dc code 4 .irem 1 5 := ⟨at_4, rfl⟩
theorem d0_5 : Dc code 5 (.istore 6) 2 7 := ⟨at_5, rfl⟩
theorem d0_7 : Dc code 7 (.iload_n 0) 1 8 := ⟨at_7, rfl⟩
theorem d0_8 : Dc code 8 (.iconst 2) 1 9 := ⟨at_8, rfl⟩
theorem d0_9 : Dc code 9 .iushr 1 10 := ⟨at_9, rfl⟩
theorem d0_10 : Dc code 10 (.sipush 255) 3 13 := ⟨at_10, rfl⟩
theorem d0_13 : Dc code 13 .iand 1 14 := ⟨at_13, rfl⟩
theorem d0_14 : Dc code 14 .i2c 1 15 := ⟨at_14, rfl⟩
theorem d0_15 : Dc code 15 (.istore 7) 2 17 := ⟨at_15, rfl⟩
theorem d0_17 : Dc code 17 (.iload_n 0) 1 18 := ⟨at_17, rfl⟩
theorem d0_18 : Dc code 18 (.bipush 10) 2 20 := ⟨at_18, rfl⟩
theorem d0_20 : Dc code 20 .iushr 1 21 := ⟨at_20, rfl⟩
theorem d0_21 : Dc code 21 (.sipush 255) 3 24 := ⟨at_21, rfl⟩
theorem d0_24 : Dc code 24 .iand 1 25 := ⟨at_24, rfl⟩
theorem d0_25 : Dc code 25 .i2c 1 26 := ⟨at_25, rfl⟩
theorem d0_26 : Dc code 26 (.istore 8) 2 28 := ⟨at_26, rfl⟩
theorem d0_28 : Dc code 28 (.iload_n 1) 1 29 := ⟨at_28, rfl⟩
theorem d0_29 : Dc code 29 (.iconst 3) 1 30 := ⟨at_29, rfl⟩
theorem d0_30 : Dc code 30 .iand 1 31 := ⟨at_30, rfl⟩
theorem d0_31 : Dc code 31 (.iconst 3) 1 32 := ⟨at_31, rfl⟩
theorem d0_32 : Dc code 32 .irem 1 33 := ⟨at_32, rfl⟩
theorem d0_33 : Dc code 33 (.istore 9) 2 35 := ⟨at_33, rfl⟩
theorem d0_35 : Dc code 35 (.iload_n 1) 1 36 := ⟨at_35, rfl⟩
theorem d0_36 : Dc code 36 (.iconst 2) 1 37 := ⟨at_36, rfl⟩
theorem d0_37 : Dc code 37 .iushr 1 38 := ⟨at_37, rfl⟩
theorem d0_38 : Dc code 38 (.sipush 255) 3 41 := ⟨at_38, rfl⟩
theorem d0_41 : Dc code 41 .iand 1 42 := ⟨at_41, rfl⟩
theorem d0_42 : Dc code 42 .i2c 1 43 := ⟨at_42, rfl⟩
theorem d0_43 : Dc code 43 (.istore 10) 2 45 := ⟨at_43, rfl⟩
theorem d0_45 : Dc code 45 (.iload_n 1) 1 46 := ⟨at_45, rfl⟩
theorem d0_46 : Dc code 46 (.bipush 10) 2 48 := ⟨at_46, rfl⟩
theorem d0_48 : Dc code 48 .iushr 1 49 := ⟨at_48, rfl⟩
theorem d0_49 : Dc code 49 (.sipush 255) 3 52 := ⟨at_49, rfl⟩
theorem d0_52 : Dc code 52 .iand 1 53 := ⟨at_52, rfl⟩
theorem d0_53 : Dc code 53 .i2c 1 54 := ⟨at_53, rfl⟩
theorem d0_54 : Dc code 54 (.istore 11) 2 56 := ⟨at_54, rfl⟩
theorem d0_56 : Dc code 56 (.iload_n 3) 1 57 := ⟨at_56, rfl⟩
theorem d0_57 : Dc code 57 (.iconst 1) 1 58 := ⟨at_57, rfl⟩
theorem d0_58 : Dc code 58 .iand 1 59 := ⟨at_58, rfl⟩
theorem d0_59 : Dc code 59 (.ifCond .eq 18) 3 62 := ⟨at_59, rfl⟩
theorem d0_59t : Tg 59 (18) 77 := ⟨by decide, by decide⟩
theorem d0_62 : Dc code 62 (.iload 6) 2 64 := ⟨at_62, rfl⟩
theorem d0_64 : Dc code 64 (.istore 12) 2 66 := ⟨at_64, rfl⟩
theorem d0_66 : Dc code 66 (.iload 7) 2 68 := ⟨at_66, rfl⟩
theorem d0_68 : Dc code 68 (.istore 13) 2 70 := ⟨at_68, rfl⟩
theorem d0_70 : Dc code 70 (.iload 8) 2 72 := ⟨at_70, rfl⟩
theorem d0_72 : Dc code 72 (.istore 14) 2 74 := ⟨at_72, rfl⟩
theorem d0_74 : Dc code 74 (.goto 33) 3 77 := ⟨at_74, rfl⟩
theorem d0_74t : Tg 74 (33) 107 := ⟨by decide, by decide⟩
theorem d0_77 : Dc code 77 (.iload_n 3) 1 78 := ⟨at_77, rfl⟩
theorem d0_78 : Dc code 78 (.iconst 1) 1 79 := ⟨at_78, rfl⟩
theorem d0_79 : Dc code 79 .iushr 1 80 := ⟨at_79, rfl⟩
theorem d0_80 : Dc code 80 (.iconst 3) 1 81 := ⟨at_80, rfl⟩
theorem d0_81 : Dc code 81 .iand 1 82 := ⟨at_81, rfl⟩
theorem d0_82 : Dc code 82 (.iconst 3) 1 83 := ⟨at_82, rfl⟩
theorem d0_83 : Dc code 83 .irem 1 84 := ⟨at_83, rfl⟩
theorem d0_84 : Dc code 84 (.istore 12) 2 86 := ⟨at_84, rfl⟩
theorem d0_86 : Dc code 86 (.iload_n 3) 1 87 := ⟨at_86, rfl⟩
theorem d0_87 : Dc code 87 (.iconst 3) 1 88 := ⟨at_87, rfl⟩
theorem d0_88 : Dc code 88 .iushr 1 89 := ⟨at_88, rfl⟩
theorem d0_89 : Dc code 89 (.sipush 255) 3 92 := ⟨at_89, rfl⟩
theorem d0_92 : Dc code 92 .iand 1 93 := ⟨at_92, rfl⟩
theorem d0_93 : Dc code 93 .i2c 1 94 := ⟨at_93, rfl⟩
theorem d0_94 : Dc code 94 (.istore 13) 2 96 := ⟨at_94, rfl⟩
theorem d0_96 : Dc code 96 (.iload_n 3) 1 97 := ⟨at_96, rfl⟩
theorem d0_97 : Dc code 97 (.bipush 11) 2 99 := ⟨at_97, rfl⟩
theorem d0_99 : Dc code 99 .iushr 1 100 := ⟨at_99, rfl⟩
theorem d0_100 : Dc code 100 (.sipush 255) 3 103 := ⟨at_100, rfl⟩
theorem d0_103 : Dc code 103 .iand 1 104 := ⟨at_103, rfl⟩
theorem d0_104 : Dc code 104 .i2c 1 105 := ⟨at_104, rfl⟩
theorem d0_105 : Dc code 105 (.istore 14) 2 107 := ⟨at_105, rfl⟩
theorem d0_107 : Dc code 107 (.iload 4) 2 109 := ⟨at_107, rfl⟩
theorem d0_109 : Dc code 109 (.iconst 1) 1 110 := ⟨at_109, rfl⟩
theorem d0_110 : Dc code 110 .iand 1 111 := ⟨at_110, rfl⟩
theorem d0_111 : Dc code 111 (.ifCond .eq 18) 3 114 := ⟨at_111, rfl⟩
theorem d0_111t : Tg 111 (18) 129 := ⟨by decide, by decide⟩
theorem d0_114 : Dc code 114 (.iload 9) 2 116 := ⟨at_114, rfl⟩
theorem d0_116 : Dc code 116 (.istore 15) 2 118 := ⟨at_116, rfl⟩
theorem d0_118 : Dc code 118 (.iload 10) 2 120 := ⟨at_118, rfl⟩
theorem d0_120 : Dc code 120 (.istore 16) 2 122 := ⟨at_120, rfl⟩
theorem d0_122 : Dc code 122 (.iload 11) 2 124 := ⟨at_122, rfl⟩
theorem d0_124 : Dc code 124 (.istore 17) 2 126 := ⟨at_124, rfl⟩
theorem d0_126 : Dc code 126 (.goto 36) 3 129 := ⟨at_126, rfl⟩
theorem d0_126t : Tg 126 (36) 162 := ⟨by decide, by decide⟩
theorem d0_129 : Dc code 129 (.iload 4) 2 131 := ⟨at_129, rfl⟩
theorem d0_131 : Dc code 131 (.iconst 1) 1 132 := ⟨at_131, rfl⟩
theorem d0_132 : Dc code 132 .iushr 1 133 := ⟨at_132, rfl⟩
theorem d0_133 : Dc code 133 (.iconst 3) 1 134 := ⟨at_133, rfl⟩
theorem d0_134 : Dc code 134 .iand 1 135 := ⟨at_134, rfl⟩
theorem d0_135 : Dc code 135 (.iconst 3) 1 136 := ⟨at_135, rfl⟩
theorem d0_136 : Dc code 136 .irem 1 137 := ⟨at_136, rfl⟩
theorem d0_137 : Dc code 137 (.istore 15) 2 139 := ⟨at_137, rfl⟩
theorem d0_139 : Dc code 139 (.iload 4) 2 141 := ⟨at_139, rfl⟩
theorem d0_141 : Dc code 141 (.iconst 3) 1 142 := ⟨at_141, rfl⟩
theorem d0_142 : Dc code 142 .iushr 1 143 := ⟨at_142, rfl⟩
theorem d0_143 : Dc code 143 (.sipush 255) 3 146 := ⟨at_143, rfl⟩
theorem d0_146 : Dc code 146 .iand 1 147 := ⟨at_146, rfl⟩
theorem d0_147 : Dc code 147 .i2c 1 148 := ⟨at_147, rfl⟩
theorem d0_148 : Dc code 148 (.istore 16) 2 150 := ⟨at_148, rfl⟩
theorem d0_150 : Dc code 150 (.iload 4) 2 152 := ⟨at_150, rfl⟩
theorem d0_152 : Dc code 152 (.bipush 11) 2 154 := ⟨at_152, rfl⟩
theorem d0_154 : Dc code 154 .iushr 1 155 := ⟨at_154, rfl⟩
theorem d0_155 : Dc code 155 (.sipush 255) 3 158 := ⟨at_155, rfl⟩
theorem d0_158 : Dc code 158 .iand 1 159 := ⟨at_158, rfl⟩
theorem d0_159 : Dc code 159 .i2c 1 160 := ⟨at_159, rfl⟩
theorem d0_160 : Dc code 160 (.istore 17) 2 162 := ⟨at_160, rfl⟩
theorem d0_162 : Dc code 162 (.iload_n 2) 1 163 := ⟨at_162, rfl⟩
theorem d0_163 : Dc code 163 (.iconst 1) 1 164 := ⟨at_163, rfl⟩
theorem d0_164 : Dc code 164 .iand 1 165 := ⟨at_164, rfl⟩
theorem d0_165 : Dc code 165 (.ifCond .eq 7) 3 168 := ⟨at_165, rfl⟩
theorem d0_165t : Tg 165 (7) 172 := ⟨by decide, by decide⟩
theorem d0_168 : Dc code 168 (.iconst 1) 1 169 := ⟨at_168, rfl⟩
theorem d0_169 : Dc code 169 (.goto 4) 3 172 := ⟨at_169, rfl⟩
theorem d0_169t : Tg 169 (4) 173 := ⟨by decide, by decide⟩
theorem d0_172 : Dc code 172 (.iconst 0) 1 173 := ⟨at_172, rfl⟩
theorem d0_173 : Dc code 173 (.istore 18) 2 175 := ⟨at_173, rfl⟩
theorem d0_175 : Dc code 175 (.iload_n 2) 1 176 := ⟨at_175, rfl⟩
theorem d0_176 : Dc code 176 (.iconst 2) 1 177 := ⟨at_176, rfl⟩
theorem d0_177 : Dc code 177 .iand 1 178 := ⟨at_177, rfl⟩
theorem d0_178 : Dc code 178 (.ifCond .eq 7) 3 181 := ⟨at_178, rfl⟩
theorem d0_178t : Tg 178 (7) 185 := ⟨by decide, by decide⟩
theorem d0_181 : Dc code 181 (.iconst 1) 1 182 := ⟨at_181, rfl⟩
theorem d0_182 : Dc code 182 (.goto 4) 3 185 := ⟨at_182, rfl⟩
theorem d0_182t : Tg 182 (4) 186 := ⟨by decide, by decide⟩
theorem d0_185 : Dc code 185 (.iconst 0) 1 186 := ⟨at_185, rfl⟩
theorem d0_186 : Dc code 186 (.istore 19) 2 188 := ⟨at_186, rfl⟩
theorem d0_188 : Dc code 188 (.iload 18) 2 190 := ⟨at_188, rfl⟩
theorem d0_190 : Dc code 190 (.ifCond .eq 9) 3 193 := ⟨at_190, rfl⟩
theorem d0_190t : Tg 190 (9) 199 := ⟨by decide, by decide⟩
theorem d0_193 : Dc code 193 (.getstatic 12) 3 196 := ⟨at_193, rfl⟩
theorem d0_196 : Dc code 196 (.goto 6) 3 199 := ⟨at_196, rfl⟩
theorem d0_196t : Tg 196 (6) 202 := ⟨by decide, by decide⟩
theorem d0_199 : Dc code 199 (.getstatic 18) 3 202 := ⟨at_199, rfl⟩
theorem d0_202 : Dc code 202 (.astore 20) 2 204 := ⟨at_202, rfl⟩
theorem d0_204 : Dc code 204 (.iload 19) 2 206 := ⟨at_204, rfl⟩
theorem d0_206 : Dc code 206 (.ifCond .eq 9) 3 209 := ⟨at_206, rfl⟩
theorem d0_206t : Tg 206 (9) 215 := ⟨by decide, by decide⟩
theorem d0_209 : Dc code 209 (.getstatic 12) 3 212 := ⟨at_209, rfl⟩
theorem d0_212 : Dc code 212 (.goto 6) 3 215 := ⟨at_212, rfl⟩
theorem d0_212t : Tg 212 (6) 218 := ⟨by decide, by decide⟩
theorem d0_215 : Dc code 215 (.getstatic 18) 3 218 := ⟨at_215, rfl⟩
theorem d0_218 : Dc code 218 (.astore 21) 2 220 := ⟨at_218, rfl⟩
theorem d0_220 : Dc code 220 (.iload 6) 2 222 := ⟨at_220, rfl⟩
theorem d0_222 : Dc code 222 (.iload 7) 2 224 := ⟨at_222, rfl⟩
theorem d0_224 : Dc code 224 (.iload 8) 2 226 := ⟨at_224, rfl⟩
theorem d0_226 : Dc code 226 (.invokestatic 21) 3 229 := ⟨at_226, rfl⟩
theorem d0_229 : Dc code 229 (.astore 22) 2 231 := ⟨at_229, rfl⟩
theorem d0_231 : Dc code 231 (.iload 9) 2 233 := ⟨at_231, rfl⟩
theorem d0_233 : Dc code 233 (.iload 10) 2 235 := ⟨at_233, rfl⟩
theorem d0_235 : Dc code 235 (.iload 11) 2 237 := ⟨at_235, rfl⟩
theorem d0_237 : Dc code 237 (.invokestatic 21) 3 240 := ⟨at_237, rfl⟩
theorem d0_240 : Dc code 240 (.astore 23) 2 242 := ⟨at_240, rfl⟩
theorem d0_242 : Dc code 242 (.iload 12) 2 244 := ⟨at_242, rfl⟩
theorem d0_244 : Dc code 244 (.iload 13) 2 246 := ⟨at_244, rfl⟩
theorem d0_246 : Dc code 246 (.iload 14) 2 248 := ⟨at_246, rfl⟩
theorem d0_248 : Dc code 248 (.invokestatic 21) 3 251 := ⟨at_248, rfl⟩
theorem d0_251 : Dc code 251 (.astore 24) 2 253 := ⟨at_251, rfl⟩
theorem d0_253 : Dc code 253 (.iload 15) 2 255 := ⟨at_253, rfl⟩
theorem d0_255 : Dc code 255 (.iload 16) 2 257 := ⟨at_255, rfl⟩
theorem d0_257 : Dc code 257 (.iload 17) 2 259 := ⟨at_257, rfl⟩
theorem d0_259 : Dc code 259 (.invokestatic 21) 3 262 := ⟨at_259, rfl⟩
theorem d0_262 : Dc code 262 (.astore 25) 2 264 := ⟨at_262, rfl⟩
theorem d0_264 : Dc code 264 (.new 27) 3 267 := ⟨at_264, rfl⟩
theorem d0_267 : Dc code 267 .dup 1 268 := ⟨at_267, rfl⟩
theorem d0_268 : Dc code 268 (.aload 22) 2 270 := ⟨at_268, rfl⟩
theorem d0_270 : Dc code 270 (.aload 23) 2 272 := ⟨at_270, rfl⟩
theorem d0_272 : Dc code 272 (.aload 20) 2 274 := ⟨at_272, rfl⟩
theorem d0_274 : Dc code 274 (.invokespecial 29) 3 277 := ⟨at_274, rfl⟩
theorem d0_277 : Dc code 277 (.astore 26) 2 279 := ⟨at_277, rfl⟩
theorem d0_279 : Dc code 279 (.new 27) 3 282 := ⟨at_279, rfl⟩
theorem d0_282 : Dc code 282 .dup 1 283 := ⟨at_282, rfl⟩
theorem d0_283 : Dc code 283 (.aload 24) 2 285 := ⟨at_283, rfl⟩
theorem d0_285 : Dc code 285 (.aload 25) 2 287 := ⟨at_285, rfl⟩
theorem d0_287 : Dc code 287 (.aload 21) 2 289 := ⟨at_287, rfl⟩
theorem d0_289 : Dc code 289 (.invokespecial 29) 3 292 := ⟨at_289, rfl⟩
theorem d0_292 : Dc code 292 (.astore 27) 2 294 := ⟨at_292, rfl⟩
theorem d0_294 : Dc code 294 (.iload 5) 2 296 := ⟨at_294, rfl⟩
theorem d0_296 : Dc code 296 (.iconst 3) 1 297 := ⟨at_296, rfl⟩
theorem d0_297 : Dc code 297 .iand 1 298 := ⟨at_297, rfl⟩
theorem d0_298 : Dc code 298 (.istore 28) 2 300 := ⟨at_298, rfl⟩
theorem d0_300 : Dc code 300 (.iload 28) 2 302 := ⟨at_300, rfl⟩
theorem d0_302 : Dc code 302 (.iconst 1) 1 303 := ⟨at_302, rfl⟩
theorem d0_303 : Dc code 303 (.if_icmp .ne 18) 3 306 := ⟨at_303, rfl⟩
theorem d0_303t : Tg 303 (18) 321 := ⟨by decide, by decide⟩
theorem d0_306 : Dc code 306 (.aload 26) 2 308 := ⟨at_306, rfl⟩
theorem d0_308 : Dc code 308 .aconst_null 1 309 := ⟨at_308, rfl⟩
theorem d0_309 : Dc code 309 (.invokevirtual 32) 3 312 := ⟨at_309, rfl⟩
theorem d0_312 : Dc code 312 (.ifCond .ne 7) 3 315 := ⟨at_312, rfl⟩
theorem d0_312t : Tg 312 (7) 319 := ⟨by decide, by decide⟩
theorem d0_315 : Dc code 315 (.iconst 1) 1 316 := ⟨at_315, rfl⟩
theorem d0_316 : Dc code 316 (.goto 4) 3 319 := ⟨at_316, rfl⟩
theorem d0_316t : Tg 316 (4) 320 := ⟨by decide, by decide⟩
theorem d0_319 : Dc code 319 (.iconst 0) 1 320 := ⟨at_319, rfl⟩
theorem d0_320 : Dc code 320 .ireturn 1 321 := ⟨at_320, rfl⟩
theorem d0_321 : Dc code 321 (.iload 28) 2 323 := ⟨at_321, rfl⟩
theorem d0_323 : Dc code 323 (.iconst 2) 1 324 := ⟨at_323, rfl⟩
theorem d0_324 : Dc code 324 (.if_icmp .ne 23) 3 327 := ⟨at_324, rfl⟩
theorem d0_324t : Tg 324 (23) 347 := ⟨by decide, by decide⟩
theorem d0_327 : Dc code 327 (.aload 22) 2 329 := ⟨at_327, rfl⟩
theorem d0_329 : Dc code 329 (.astore 29) 2 331 := ⟨at_329, rfl⟩
theorem d0_331 : Dc code 331 (.aload 26) 2 333 := ⟨at_331, rfl⟩
theorem d0_333 : Dc code 333 (.aload 29) 2 335 := ⟨at_333, rfl⟩
theorem d0_335 : Dc code 335 (.invokevirtual 32) 3 338 := ⟨at_335, rfl⟩
theorem d0_338 : Dc code 338 (.ifCond .ne 7) 3 341 := ⟨at_338, rfl⟩
theorem d0_338t : Tg 338 (7) 345 := ⟨by decide, by decide⟩
theorem d0_341 : Dc code 341 (.iconst 1) 1 342 := ⟨at_341, rfl⟩
theorem d0_342 : Dc code 342 (.goto 4) 3 345 := ⟨at_342, rfl⟩
theorem d0_342t : Tg 342 (4) 346 := ⟨by decide, by decide⟩
theorem d0_345 : Dc code 345 (.iconst 0) 1 346 := ⟨at_345, rfl⟩
theorem d0_346 : Dc code 346 .ireturn 1 347 := ⟨at_346, rfl⟩
theorem d0_347 : Dc code 347 (.iload 28) 2 349 := ⟨at_347, rfl⟩
theorem d0_349 : Dc code 349 (.iconst 3) 1 350 := ⟨at_349, rfl⟩
theorem d0_350 : Dc code 350 (.if_icmp .ne 11) 3 353 := ⟨at_350, rfl⟩
theorem d0_350t : Tg 350 (11) 361 := ⟨by decide, by decide⟩
theorem d0_353 : Dc code 353 (.aload 26) 2 355 := ⟨at_353, rfl⟩
theorem d0_355 : Dc code 355 (.aload 26) 2 357 := ⟨at_355, rfl⟩
theorem d0_357 : Dc code 357 (.invokevirtual 32) 3 360 := ⟨at_357, rfl⟩
theorem d0_360 : Dc code 360 .ireturn 1 361 := ⟨at_360, rfl⟩
theorem d0_361 : Dc code 361 (.iload 6) 2 363 := ⟨at_361, rfl⟩
theorem d0_363 : Dc code 363 (.iload 7) 2 365 := ⟨at_363, rfl⟩
theorem d0_365 : Dc code 365 (.iload 8) 2 367 := ⟨at_365, rfl⟩
theorem d0_367 : Dc code 367 (.iload 12) 2 369 := ⟨at_367, rfl⟩
theorem d0_369 : Dc code 369 (.iload 13) 2 371 := ⟨at_369, rfl⟩
theorem d0_371 : Dc code 371 (.iload 14) 2 373 := ⟨at_371, rfl⟩
theorem d0_373 : Dc code 373 (.invokestatic 36) 3 376 := ⟨at_373, rfl⟩
theorem d0_376 : Dc code 376 (.ifCond .eq 32) 3 379 := ⟨at_376, rfl⟩
theorem d0_376t : Tg 376 (32) 408 := ⟨by decide, by decide⟩
theorem d0_379 : Dc code 379 (.iload 9) 2 381 := ⟨at_379, rfl⟩
theorem d0_381 : Dc code 381 (.iload 10) 2 383 := ⟨at_381, rfl⟩
theorem d0_383 : Dc code 383 (.iload 11) 2 385 := ⟨at_383, rfl⟩
theorem d0_385 : Dc code 385 (.iload 15) 2 387 := ⟨at_385, rfl⟩
theorem d0_387 : Dc code 387 (.iload 16) 2 389 := ⟨at_387, rfl⟩
theorem d0_389 : Dc code 389 (.iload 17) 2 391 := ⟨at_389, rfl⟩
theorem d0_391 : Dc code 391 (.invokestatic 36) 3 394 := ⟨at_391, rfl⟩
theorem d0_394 : Dc code 394 (.ifCond .eq 14) 3 397 := ⟨at_394, rfl⟩
theorem d0_394t : Tg 394 (14) 408 := ⟨by decide, by decide⟩
theorem d0_397 : Dc code 397 (.iload 18) 2 399 := ⟨at_397, rfl⟩
theorem d0_399 : Dc code 399 (.iload 19) 2 401 := ⟨at_399, rfl⟩
theorem d0_401 : Dc code 401 (.if_icmp .ne 7) 3 404 := ⟨at_401, rfl⟩
theorem d0_401t : Tg 401 (7) 408 := ⟨by decide, by decide⟩
theorem d0_404 : Dc code 404 (.iconst 1) 1 405 := ⟨at_404, rfl⟩
theorem d0_405 : Dc code 405 (.goto 4) 3 408 := ⟨at_405, rfl⟩
theorem d0_405t : Tg 405 (4) 409 := ⟨by decide, by decide⟩
theorem d0_408 : Dc code 408 (.iconst 0) 1 409 := ⟨at_408, rfl⟩
theorem d0_409 : Dc code 409 (.istore 29) 2 411 := ⟨at_409, rfl⟩
theorem d0_411 : Dc code 411 (.aload 26) 2 413 := ⟨at_411, rfl⟩
theorem d0_413 : Dc code 413 (.aload 27) 2 415 := ⟨at_413, rfl⟩
theorem d0_415 : Dc code 415 (.invokevirtual 32) 3 418 := ⟨at_415, rfl⟩
theorem d0_418 : Dc code 418 (.iload 29) 2 420 := ⟨at_418, rfl⟩
theorem d0_420 : Dc code 420 (.if_icmp .ne 19) 3 423 := ⟨at_420, rfl⟩
theorem d0_420t : Tg 420 (19) 439 := ⟨by decide, by decide⟩
theorem d0_423 : Dc code 423 (.aload 27) 2 425 := ⟨at_423, rfl⟩
theorem d0_425 : Dc code 425 (.aload 26) 2 427 := ⟨at_425, rfl⟩
theorem d0_427 : Dc code 427 (.invokevirtual 32) 3 430 := ⟨at_427, rfl⟩
theorem d0_430 : Dc code 430 (.iload 29) 2 432 := ⟨at_430, rfl⟩
theorem d0_432 : Dc code 432 (.if_icmp .ne 7) 3 435 := ⟨at_432, rfl⟩
theorem d0_432t : Tg 432 (7) 439 := ⟨by decide, by decide⟩
theorem d0_435 : Dc code 435 (.iconst 1) 1 436 := ⟨at_435, rfl⟩
theorem d0_436 : Dc code 436 (.goto 4) 3 439 := ⟨at_436, rfl⟩
theorem d0_436t : Tg 436 (4) 440 := ⟨by decide, by decide⟩
theorem d0_439 : Dc code 439 (.iconst 0) 1 440 := ⟨at_439, rfl⟩
theorem d0_440 : Dc code 440 .ireturn 1 441 := ⟨at_440, rfl⟩
set_option maxRecDepth 65536 in
set_option maxHeartbeats 40000000 in
theorem rmStr (l : Launch) (Z : State) (a0 : Array Value) (hw : ∀ d ∈ tables_1, d.before a0 Z = true) (hr : rest_1_c.value a0 Z none Z [] = some true) (ln c0 c1 : Int32) (h0 : Heap) (hE : Ext Z.heap h0) (n0 : nar .char c0 = c0) (n1 : nar .char c1 = c1) (u0 : ¬ 255 < c0) (u1 : ¬ 255 < c1) :
    Ct true l Z consts_1 (⟨"com/example/matchbook/matchbook/book/OwnerEqualsPinLaw", "str", "(ICC)Ljava/lang/String;"⟩ : MethodName) method_2_code 4 (some (.object "java/lang/String")) [] ({ frames := 4, cells := 6, slots := 12, locals := 70 } : Room) [] #[(.int ln), (.int c0), (.int c1)] h0 (fun r u => ∃ s t, r = some (.ref s) ∧ Ext h0 u ∧ StrL Z u s t 0 (own_bytes ln c0 c1)) := by
  refine Ct.intro pn_com_example_matchbook_matchbook_book_OwnerEqualsPinLaw hE (fun m => efS m ln c0 c1) nosf ⟨a0, own_EW hw⟩ ?_
  intro x T w
  refine w.iloadN d1_0 rfl ?_
  refine w.ifNe d1_1 d1_1t (fun q1 => ?_) (fun q1 => ?_)
  · refine w.iloadN d1_15 rfl ?_
    refine w.iconst (1 : Int32) d1_16 rfl ?_
    refine w.icmpNe d1_17 d1_17t (fun q2 => ?_) (fun q2 => ?_)
    · refine w.iconst (2 : Int32) d1_37 rfl ?_
      have sz0 := w.size
      refine w.newP 2 "[C" d1_38 (tw hw 12 rfl) (by decide) (by decide) (by decide) (by decide) ⟨by decide, by decide⟩ ?_
      intro d T h1 kd g_d w E_d A_d X_d
      have ge_d : Z.heap.size ≤ d := by rw [g_d]; exact sz0
      refine w.astoreN #[.val (.int ln), .val (.int c0), .val (.int c1), .val (.ref d)] d1_40 rfl rfl ?_
      refine w.aloadN d1_41 rfl rfl ?_
      refine w.iconst (0 : Int32) d1_42 rfl ?_
      refine w.iloadN d1_43 rfl ?_
      refine w.stC 0 [(.int 0)] d1_44 A_d ⟨by decide, by decide⟩ (by decide) (pad_rep [] (.int 0) 1) (by simp) (fnc _) (List.mem_of_getElem? (i := 0) rfl) ?_
      intro T h2 w W41 A42
      rw [n0] at A42
      have A43 : Arv Z h2 d kd .char (2 : Int32) [(.int c0)] (.int 0) := A42
      refine w.aloadN d1_45 rfl rfl ?_
      refine w.iconst (1 : Int32) d1_46 rfl ?_
      refine w.iloadN d1_47 rfl ?_
      refine w.stC 1 [(.int c0), (.int 0)] d1_48 A43 ⟨by decide, by decide⟩ (by decide) (pad_rep [(.int c0)] (.int 0) 1) (by simp) (fnc _) (List.mem_of_getElem? (i := 0) rfl) ?_
      intro T h3 w W44 A45
      rw [n1] at A45
      have A46 : Arv Z h3 d kd .char (2 : Int32) [(.int c0), (.int c1)] (.int 0) := A45
      have sz0 := w.size
      refine w.new d1_49 (tw hw 9 rfl) (tw hw 10 rfl) (tw hw 11 rfl) ⟨by decide, by decide⟩ ?_
      intro s T h4 g_s w E47 A48 D49
      have ne_d_s : d ≠ s := Nat.ne_of_lt (Nat.lt_of_lt_of_eq A46.lt g_s.symm)
      have ge_s : Z.heap.size ≤ s := by rw [g_s]; exact sz0
      have F50 := A46.ext E47
      have F51 : Fld Z h4 s "java/lang/String" "value" "[B" .null := D49 (Or.inr (tw hw 25 rfl)) (ty := (.array .byte)) (by decide)
      have F52 : Fld Z h4 s "java/lang/String" "coder" "B" (.int (0 : Int32)) := D49 (Or.inr (tw hw 26 rfl)) (ty := .byte) (by decide)
      refine w.dup d1_52 rfl ?_
      refine w.aloadN d1_53 rfl rfl ?_
      refine w.callI (argsL := [(.ref d)]) (rest := [(.ref s)]) 1 d1_54 rfl (tw hw 13 rfl) (tw hw 14 rfl) (tw hw 11 rfl) (tw hw 15 rfl) (by decide) (rmS1_2 l Z a0 hw hr s d kd c0 c1 h4 w.old ge_s A48 F51 F52 F50 u0 u1) (lenOf pd_5 rfl) rfl rfl (Nat.le_refl _) ⟨by decide, by decide, by decide, by decide⟩ (allS (List.mem_of_getElem? (i := 0) rfl) all0) ?_
      intro T h5 r w _ hQ
      obtain ⟨rfl, K_s, t_s, gt_s, S_s⟩ := hQ
      show Go x _ Z _ _ _ T 57 #[.val (.int ln), .val (.int c0), .val (.int c1), .val (.ref d)] [(.ref s)]
      exact w.retA d1_57 rfl rfl rfl rfl ⟨s, t_s, rfl, ext_keep (((((keep_ext (ws := []) E_d).wr W41 (Or.inr (Nat.le_of_eq g_d.symm))).wr W44 (Or.inr (Nat.le_of_eq g_d.symm))).ext E47).trans K_s (allS (Or.inr (Nat.le_trans (Nat.le_trans (Nat.le_trans E_d.1 (Nat.le_of_eq W41.size.symm)) (Nat.le_of_eq W44.size.symm)) (Nat.le_of_eq g_s.symm))) all0)), by rw [own_bytes, if_neg q1, if_neg q2]; exact S_s⟩
    · refine w.iconst (1 : Int32) d1_20 rfl ?_
      have sz0 := w.size
      refine w.newP 1 "[C" d1_21 (tw hw 12 rfl) (by decide) (by decide) (by decide) (by decide) ⟨by decide, by decide⟩ ?_
      intro d T h6 kd g_d w E_d A_d X_d
      have ge_d : Z.heap.size ≤ d := by rw [g_d]; exact sz0
      refine w.astoreN #[.val (.int ln), .val (.int c0), .val (.int c1), .val (.ref d)] d1_23 rfl rfl ?_
      refine w.aloadN d1_24 rfl rfl ?_
      refine w.iconst (0 : Int32) d1_25 rfl ?_
      refine w.iloadN d1_26 rfl ?_
      refine w.stC 0 [(.int 0)] d1_27 A_d ⟨by decide, by decide⟩ (by decide) (pad_rep [] (.int 0) 1) (by simp) (fnc _) (List.mem_of_getElem? (i := 0) rfl) ?_
      intro T h7 w W41 A42
      rw [n0] at A42
      have A43 : Arv Z h7 d kd .char (1 : Int32) [(.int c0)] (.int 0) := A42
      have sz0 := w.size
      refine w.new d1_28 (tw hw 9 rfl) (tw hw 10 rfl) (tw hw 11 rfl) ⟨by decide, by decide⟩ ?_
      intro s T h8 g_s w E44 A45 D46
      have ne_d_s : d ≠ s := Nat.ne_of_lt (Nat.lt_of_lt_of_eq A43.lt g_s.symm)
      have ge_s : Z.heap.size ≤ s := by rw [g_s]; exact sz0
      have F47 := A43.ext E44
      have F48 : Fld Z h8 s "java/lang/String" "value" "[B" .null := D46 (Or.inr (tw hw 25 rfl)) (ty := (.array .byte)) (by decide)
      have F49 : Fld Z h8 s "java/lang/String" "coder" "B" (.int (0 : Int32)) := D46 (Or.inr (tw hw 26 rfl)) (ty := .byte) (by decide)
      refine w.dup d1_31 rfl ?_
      refine w.aloadN d1_32 rfl rfl ?_
      refine w.callI (argsL := [(.ref d)]) (rest := [(.ref s)]) 1 d1_33 rfl (tw hw 13 rfl) (tw hw 14 rfl) (tw hw 11 rfl) (tw hw 15 rfl) (by decide) (rmS1_1 l Z a0 hw hr s d kd c0 h8 w.old ge_s A45 F48 F49 F47 u0) (lenOf pd_5 rfl) rfl rfl (Nat.le_refl _) ⟨by decide, by decide, by decide, by decide⟩ (allS (List.mem_of_getElem? (i := 0) rfl) all0) ?_
      intro T h9 r w _ hQ
      obtain ⟨rfl, K_s, t_s, gt_s, S_s⟩ := hQ
      show Go x _ Z _ _ _ T 36 #[.val (.int ln), .val (.int c0), .val (.int c1), .val (.ref d)] [(.ref s)]
      exact w.retA d1_36 rfl rfl rfl rfl ⟨s, t_s, rfl, ext_keep ((((keep_ext (ws := []) E_d).wr W41 (Or.inr (Nat.le_of_eq g_d.symm))).ext E44).trans K_s (allS (Or.inr (Nat.le_trans (Nat.le_trans E_d.1 (Nat.le_of_eq W41.size.symm)) (Nat.le_of_eq g_s.symm))) all0)), by rw [own_bytes, if_neg q1, if_pos q2]; exact S_s⟩
  · have sz0 := w.size
    refine w.new d1_4 (tw hw 9 rfl) (tw hw 10 rfl) (tw hw 11 rfl) ⟨by decide, by decide⟩ ?_
    intro s T h10 g_s w E41 A42 D43
    have ge_s : Z.heap.size ≤ s := by rw [g_s]; exact sz0
    have F44 : Fld Z h10 s "java/lang/String" "value" "[B" .null := D43 (Or.inr (tw hw 25 rfl)) (ty := (.array .byte)) (by decide)
    have F45 : Fld Z h10 s "java/lang/String" "coder" "B" (.int (0 : Int32)) := D43 (Or.inr (tw hw 26 rfl)) (ty := .byte) (by decide)
    refine w.dup d1_7 rfl ?_
    refine w.iconst (0 : Int32) d1_8 rfl ?_
    have sz0 := w.size
    refine w.newP 0 "[C" d1_9 (tw hw 12 rfl) (by decide) (by decide) (by decide) (by decide) ⟨by decide, by decide⟩ ?_
    intro d T h11 kd g_d w E_d A_d X_d
    have ge_d : Z.heap.size ≤ d := by rw [g_d]; exact sz0
    have ne_s_d : s ≠ d := Nat.ne_of_lt (Nat.lt_of_lt_of_eq A42.lt g_d.symm)
    have F46 := A42.ext E_d
    have F47 := F44.ext E_d
    have F48 := F45.ext E_d
    refine w.callI (argsL := [(.ref d)]) (rest := [(.ref s)]) 1 d1_11 rfl (tw hw 13 rfl) (tw hw 14 rfl) (tw hw 11 rfl) (tw hw 15 rfl) (by decide) (rmS1_0 l Z a0 hw hr s d kd _ h11 w.old ge_s F46 F47 F48 A_d) (lenOf pd_5 rfl) rfl rfl (Nat.le_refl _) ⟨by decide, by decide, by decide, by decide⟩ (allS (List.mem_of_getElem? (i := 1) rfl) all0) ?_
    intro T h12 r w _ hQ
    obtain ⟨rfl, K_s, t_s, S_s⟩ := hQ
    show Go x _ Z _ _ _ T 14 #[.val (.int ln), .val (.int c0), .val (.int c1), .unset] [(.ref s)]
    exact w.retA d1_14 rfl rfl rfl rfl ⟨s, t_s, rfl, ext_keep (((keep_ext (ws := []) E41).ext E_d).trans K_s (allS (Or.inr (Nat.le_of_eq g_s.symm)) all0)), by rw [own_bytes, if_pos q1]; exact S_s⟩

set_option maxRecDepth 65536 in
set_option maxHeartbeats 40000000 in
theorem rmN (l : Launch) (Z : State) (a0 : Array Value) (hw : ∀ d ∈ tables_1, d.before a0 Z = true) (a t : Addr) (h0 : Heap) (hE : Ext Z.heap h0) :
    Ct true l Z consts_1 (⟨"java/util/Objects", "requireNonNull", "(Ljava/lang/Object;Ljava/lang/String;)Ljava/lang/Object;"⟩ : MethodName) jdk_31_method_11_code 2 (some (.object "java/lang/Object")) [] ({ frames := 0, cells := 0, slots := 0, locals := 0 } : Room) [] #[(.ref a), (.ref t)] h0 (fun v u => v = some (.ref a) ∧ h0 = u) := by
  refine Ct.intro pn_java_util_Objects hE (fun m => efN m a t) nosf ⟨a0, own_EW hw⟩ ?_
  intro x T w
  refine w.aloadN d6_0 rfl rfl ?_
  refine w.nonnullT d6_1 d6_1t ?_
  refine w.aloadN d6_13 rfl rfl ?_
  exact w.retA d6_14 rfl rfl rfl rfl ⟨rfl, rfl⟩

set_option maxRecDepth 65536 in
set_option maxHeartbeats 40000000 in
theorem rmI (l : Launch) (Z : State) (a0 : Array Value) (hw : ∀ d ∈ tables_1, d.before a0 Z = true) (a x0 x1 x2 : Addr) (h0 : Heap) (hE : Ext Z.heap h0) (ge_a : Z.heap.size ≤ a) (E0 : Exa Z h0 a "com/example/matchbook/matchbook/book/Owner") (G1 : Fld Z h0 a "com/example/matchbook/matchbook/book/Owner" "lookupKey" "Ljava/lang/String;" .null) (G2 : Fld Z h0 a "com/example/matchbook/matchbook/book/Owner" "displayName" "Ljava/lang/String;" .null) (G3 : Fld Z h0 a "com/example/matchbook/matchbook/book/Owner" "match" "Lcom/example/matchbook/matchbook/book/MatchKind;" .null) (X0 : Exa Z h0 x0 "java/lang/String") (X1 : Exa Z h0 x1 "java/lang/String") (X2 : Exa Z h0 x2 "com/example/matchbook/matchbook/book/MatchKind") :
    Ct true l Z consts_1 (⟨"com/example/matchbook/matchbook/book/Owner", "<init>", "(Ljava/lang/String;Ljava/lang/String;Lcom/example/matchbook/matchbook/book/MatchKind;)V"⟩ : MethodName) prog_16_method_1_code 4 none [] ({ frames := 1, cells := 6, slots := 112, locals := 18 } : Room) [a] #[(.ref a), (.ref x0), (.ref x1), (.ref x2)] h0 (fun r u => r = none ∧ Keep h0 u [a] ∧ Exa Z u a "com/example/matchbook/matchbook/book/Owner" ∧ Fld Z u a "com/example/matchbook/matchbook/book/Owner" "lookupKey" "Ljava/lang/String;" (.ref x0) ∧ Fld Z u a "com/example/matchbook/matchbook/book/Owner" "displayName" "Ljava/lang/String;" (.ref x1) ∧ Fld Z u a "com/example/matchbook/matchbook/book/Owner" "match" "Lcom/example/matchbook/matchbook/book/MatchKind;" (.ref x2)) := by
  refine Ct.intro pn_com_example_matchbook_matchbook_book_Owner hE (fun m => efI m a x0 x1 x2) (onesf ge_a E0.lt) ⟨a0, own_EW hw⟩ ?_
  intro x T w
  refine w.aloadN d5_0 rfl rfl ?_
  refine w.initO 0 d5_1 (tw hw 37 rfl) (tw hw 21 rfl) (tw hw 22 rfl) rfl (Nat.le_refl _) ⟨by decide, by decide⟩ ?_
  intro T w
  refine w.aloadN d5_4 rfl rfl ?_
  refine w.aloadN d5_5 rfl rfl ?_
  refine w.ldcS 36 d5_6 (tw hw 38 rfl) (own_sA hw) (own_EW hw) (by decide) (by decide) ⟨by decide, by decide⟩ ?_
  intro l0 T h1 w E21
  have F22 := E0.ext E21
  have F23 := G1.ext E21
  have F24 := G2.ext E21
  have F25 := G3.ext E21
  have F26 := X0.ext E21
  have F27 := X1.ext E21
  have F28 := X2.ext E21
  refine w.callS (argsL := [(.ref x0), (.ref l0)]) (rest := [(.ref a)]) 1 d5_8 (tw hw 39 rfl) (tw hw 40 rfl) (tw hw 41 rfl) (tw hw 42 rfl) (by decide) (rmN l Z a0 hw x0 l0 h1 w.old) (lenOf pd_6 rfl) rfl rfl (Nat.le_refl _) ⟨by decide, by decide, by decide, by decide⟩ all0 ?_
  intro T h2 r w _ hQ
  obtain ⟨rfl, rfl⟩ := hQ
  show Go x _ Z _ _ _ T 11 #[.val (.ref a), .val (.ref x0), .val (.ref x1), .val (.ref x2)] [(.ref x0), (.ref a)]
  refine w.cast d5_11 (tw hw 43 rfl) (Ins.self F26) ?_
  intro T w
  refine w.putF d5_14 (tw hw 44 rfl) F23 F22 (Or.inr ⟨(tw hw 45 rfl), rfl, rfl⟩) (tw hw 32 rfl) (ty := (.object "java/lang/String")) (by decide) rfl rfl (List.mem_of_getElem? (i := 0) rfl) ?_
  intro T h3 w W29
  have F30 := F22.wr W29
  have F31 := F23.same W29
  have F32 := F24.other W29 (Or.inr (slot_ne (Or.inr (tw hw 48 rfl)) (Or.inr (tw hw 45 rfl)) (by decide) (t := (.object "java/lang/String")) (t' := (.object "java/lang/String")) (by decide) (by decide)))
  have F33 := F25.other W29 (Or.inr (slot_ne (Or.inr (tw hw 53 rfl)) (Or.inr (tw hw 45 rfl)) (by decide) (t := (.object "com/example/matchbook/matchbook/book/MatchKind")) (t' := (.object "java/lang/String")) (by decide) (by decide)))
  have F34 := F26.wr W29
  have F35 := F27.wr W29
  have F36 := F28.wr W29
  refine w.aloadN d5_17 rfl rfl ?_
  refine w.aloadN d5_18 rfl rfl ?_
  refine w.ldcS 44 d5_19 (tw hw 46 rfl) (own_sA hw) (own_EW hw) (by decide) (by decide) ⟨by decide, by decide⟩ ?_
  intro l1 T h4 w E37
  have F38 := F30.ext E37
  have F39 := F31.ext E37
  have F40 := F32.ext E37
  have F41 := F33.ext E37
  have F42 := F34.ext E37
  have F43 := F35.ext E37
  have F44 := F36.ext E37
  refine w.callS (argsL := [(.ref x1), (.ref l1)]) (rest := [(.ref a)]) 1 d5_21 (tw hw 39 rfl) (tw hw 40 rfl) (tw hw 41 rfl) (tw hw 42 rfl) (by decide) (rmN l Z a0 hw x1 l1 h4 w.old) (lenOf pd_6 rfl) rfl rfl (Nat.le_refl _) ⟨by decide, by decide, by decide, by decide⟩ all0 ?_
  intro T h5 r w _ hQ
  obtain ⟨rfl, rfl⟩ := hQ
  show Go x _ Z _ _ _ T 24 #[.val (.ref a), .val (.ref x0), .val (.ref x1), .val (.ref x2)] [(.ref x1), (.ref a)]
  refine w.cast d5_24 (tw hw 43 rfl) (Ins.self F43) ?_
  intro T w
  refine w.putF d5_27 (tw hw 47 rfl) F40 F38 (Or.inr ⟨(tw hw 48 rfl), rfl, rfl⟩) (tw hw 32 rfl) (ty := (.object "java/lang/String")) (by decide) rfl rfl (List.mem_of_getElem? (i := 0) rfl) ?_
  intro T h6 w W45
  have F46 := F38.wr W45
  have F47 := F39.other W45 (Or.inr (slot_ne (Or.inr (tw hw 45 rfl)) (Or.inr (tw hw 48 rfl)) (by decide) (t := (.object "java/lang/String")) (t' := (.object "java/lang/String")) (by decide) (by decide)))
  have F48 := F40.same W45
  have F49 := F41.other W45 (Or.inr (slot_ne (Or.inr (tw hw 53 rfl)) (Or.inr (tw hw 48 rfl)) (by decide) (t := (.object "com/example/matchbook/matchbook/book/MatchKind")) (t' := (.object "java/lang/String")) (by decide) (by decide)))
  have F50 := F42.wr W45
  have F51 := F43.wr W45
  have F52 := F44.wr W45
  refine w.aloadN d5_30 rfl rfl ?_
  refine w.aloadN d5_31 rfl rfl ?_
  refine w.ldcS 20 d5_32 (tw hw 49 rfl) (own_sA hw) (own_EW hw) (by decide) (by decide) ⟨by decide, by decide⟩ ?_
  intro l2 T h7 w E53
  have F54 := F46.ext E53
  have F55 := F47.ext E53
  have F56 := F48.ext E53
  have F57 := F49.ext E53
  have F58 := F50.ext E53
  have F59 := F51.ext E53
  have F60 := F52.ext E53
  refine w.callS (argsL := [(.ref x2), (.ref l2)]) (rest := [(.ref a)]) 1 d5_34 (tw hw 39 rfl) (tw hw 40 rfl) (tw hw 41 rfl) (tw hw 42 rfl) (by decide) (rmN l Z a0 hw x2 l2 h7 w.old) (lenOf pd_6 rfl) rfl rfl (Nat.le_refl _) ⟨by decide, by decide, by decide, by decide⟩ all0 ?_
  intro T h8 r w _ hQ
  obtain ⟨rfl, rfl⟩ := hQ
  show Go x _ Z _ _ _ T 37 #[.val (.ref a), .val (.ref x0), .val (.ref x1), .val (.ref x2)] [(.ref x2), (.ref a)]
  refine w.cast d5_37 (tw hw 50 rfl) (Ins.self F60) ?_
  intro T w
  refine w.putF d5_40 (tw hw 52 rfl) F57 F54 (Or.inr ⟨(tw hw 53 rfl), rfl, rfl⟩) (tw hw 32 rfl) (ty := (.object "com/example/matchbook/matchbook/book/MatchKind")) (by decide) rfl rfl (List.mem_of_getElem? (i := 0) rfl) ?_
  intro T h9 w W61
  have F62 := F54.wr W61
  have F63 := F55.other W61 (Or.inr (slot_ne (Or.inr (tw hw 45 rfl)) (Or.inr (tw hw 53 rfl)) (by decide) (t := (.object "java/lang/String")) (t' := (.object "com/example/matchbook/matchbook/book/MatchKind")) (by decide) (by decide)))
  have F64 := F56.other W61 (Or.inr (slot_ne (Or.inr (tw hw 48 rfl)) (Or.inr (tw hw 53 rfl)) (by decide) (t := (.object "java/lang/String")) (t' := (.object "com/example/matchbook/matchbook/book/MatchKind")) (by decide) (by decide)))
  have F65 := F57.same W61
  have F66 := F58.wr W61
  have F67 := F59.wr W61
  have F68 := F60.wr W61
  exact w.retV d5_43 rfl ⟨rfl, (((((((Keep.refl _ [a]).ext E21).wr W29 (Or.inl (List.mem_singleton.mpr rfl))).ext E37).wr W45 (Or.inl (List.mem_singleton.mpr rfl))).ext E53).wr W61 (Or.inl (List.mem_singleton.mpr rfl))), F62, F63, F64, F65⟩

set_option maxRecDepth 65536 in
set_option maxHeartbeats 40000000 in
theorem rmE (l : Launch) (Z : State) (a0 : Array Value) (hw : ∀ d ∈ tables_1, d.before a0 Z = true) (hr : rest_1_c.value a0 Z none Z [] = some true) (a b fa0 fa1 fa2 fb0 fb1 fb2 ta0 ta1 tb0 tb1 : Addr) (p0 p1 q0 q1 : List Int32) (h0 : Heap) (hE : Ext Z.heap h0) (Eb : Exa Z h0 b "com/example/matchbook/matchbook/book/Owner") (Ga0 : Fld Z h0 a "com/example/matchbook/matchbook/book/Owner" "lookupKey" "Ljava/lang/String;" (.ref fa0)) (Ga1 : Fld Z h0 a "com/example/matchbook/matchbook/book/Owner" "displayName" "Ljava/lang/String;" (.ref fa1)) (Ga2 : Fld Z h0 a "com/example/matchbook/matchbook/book/Owner" "match" "Lcom/example/matchbook/matchbook/book/MatchKind;" (.ref fa2)) (Sa0 : StrL Z h0 fa0 ta0 0 p0) (Sa1 : StrL Z h0 fa1 ta1 0 p1) (Gb0 : Fld Z h0 b "com/example/matchbook/matchbook/book/Owner" "lookupKey" "Ljava/lang/String;" (.ref fb0)) (Gb1 : Fld Z h0 b "com/example/matchbook/matchbook/book/Owner" "displayName" "Ljava/lang/String;" (.ref fb1)) (Gb2 : Fld Z h0 b "com/example/matchbook/matchbook/book/Owner" "match" "Lcom/example/matchbook/matchbook/book/MatchKind;" (.ref fb2)) (Sb0 : StrL Z h0 fb0 tb0 0 q0) (Sb1 : StrL Z h0 fb1 tb1 0 q1) :
    Ct true l Z consts_1 (⟨"com/example/matchbook/matchbook/book/Owner", "equals", "(Ljava/lang/Object;)Z"⟩ : MethodName) prog_16_method_6_code 3 (some .boolean) [] ({ frames := 2, cells := 0, slots := 0, locals := 31 } : Room) [] #[(.ref a), (.ref b)] h0 (fun r v => r = some (.int (if p0 = q0 ∧ p1 = q1 ∧ fa2 = fb2 then 1 else 0)) ∧ h0 = v) := by
  refine Ct.intro pn_com_example_matchbook_matchbook_book_Owner hE (fun m => efE m a b) nosf ⟨a0, own_EW hw⟩ ?_
  intro x T w
  refine w.aloadN d7_0 rfl rfl ?_
  refine w.instY d7_1 (tw hw 59 rfl) (Ins.self Eb) ?_
  intro T w
  refine w.ifEq d7_4 d7_4t (fun q => absurd q (by decide)) (fun _ => ?_)
  refine w.aloadN d7_7 rfl rfl ?_
  refine w.cast d7_8 (tw hw 59 rfl) (Ins.self Eb) ?_
  intro T w
  refine w.astoreN #[.val (.ref a), .val (.ref b), .val (.ref b)] d7_11 rfl rfl ?_
  refine w.aloadN d7_12 rfl rfl ?_
  refine w.getF d7_13 (tw hw 44 rfl) Ga0 ?_
  intro T w
  refine w.aloadN d7_16 rfl rfl ?_
  refine w.getF d7_17 (tw hw 44 rfl) Gb0 ?_
  intro T w
  refine w.callV (argsL := [(.ref fb0)]) (rest := []) 0 d7_20 (tw hw 61 rfl) (tw hw 62 rfl) (tw hw 64 rfl) (tw hw 63 rfl) (tw hw 11 rfl) (tw hw 65 rfl) (by decide) Sa0.1 (rmSE l Z a0 hw hr p0 q0 fa0 fb0 ta0 tb0 0 h0 w.old Sa0 Sb0) (lenOf pd_7 rfl) rfl rfl (Nat.le_refl _) ⟨by decide, by decide, by decide, by decide⟩ all0 ?_
  intro T h1 r w _ hQ
  obtain ⟨rfl, rfl⟩ := hQ
  show Go x _ Z _ _ _ T 23 #[.val (.ref a), .val (.ref b), .val (.ref b)] [(.int (if p0 = q0 then 1 else 0))]
  refine w.ifEq d7_23 d7_23t (fun r1 => ?_) (fun r1 => ?_)
  · refine w.iconst (0 : Int32) d7_55 rfl ?_
    exact w.retN d7_56 rfl (by simp) ⟨by rw [if_neg (fun e => own_if0 r1 e.1)]; rfl, rfl⟩
  · refine w.aloadN d7_26 rfl rfl ?_
    refine w.getF d7_27 (tw hw 47 rfl) Ga1 ?_
    intro T w
    refine w.aloadN d7_30 rfl rfl ?_
    refine w.getF d7_31 (tw hw 47 rfl) Gb1 ?_
    intro T w
    refine w.callV (argsL := [(.ref fb1)]) (rest := []) 0 d7_34 (tw hw 61 rfl) (tw hw 62 rfl) (tw hw 64 rfl) (tw hw 63 rfl) (tw hw 11 rfl) (tw hw 65 rfl) (by decide) Sa1.1 (rmSE l Z a0 hw hr p1 q1 fa1 fb1 ta1 tb1 0 h0 w.old Sa1 Sb1) (lenOf pd_7 rfl) rfl rfl (Nat.le_refl _) ⟨by decide, by decide, by decide, by decide⟩ all0 ?_
    intro T h2 r w _ hQ
    obtain ⟨rfl, rfl⟩ := hQ
    show Go x _ Z _ _ _ T 37 #[.val (.ref a), .val (.ref b), .val (.ref b)] [(.int (if p1 = q1 then 1 else 0))]
    refine w.ifEq d7_37 d7_37t (fun r2 => ?_) (fun r2 => ?_)
    · refine w.iconst (0 : Int32) d7_55 rfl ?_
      exact w.retN d7_56 rfl (by simp) ⟨by rw [if_neg (fun e => own_if0 r2 e.2.1)]; rfl, rfl⟩
    · refine w.aloadN d7_40 rfl rfl ?_
      refine w.getF d7_41 (tw hw 52 rfl) Ga2 ?_
      intro T w
      refine w.aloadN d7_44 rfl rfl ?_
      refine w.getF d7_45 (tw hw 52 rfl) Gb2 ?_
      intro T w
      refine w.racmpNe d7_48 d7_48t (fun r3 => ?_) (fun r3 => ?_)
      · refine w.iconst (0 : Int32) d7_55 rfl ?_
        exact w.retN d7_56 rfl (by simp) ⟨by rw [if_neg (fun e => r3 e.2.2)]; rfl, rfl⟩
      · refine w.iconst (1 : Int32) d7_51 rfl ?_
        refine w.goto d7_52 d7_52t ?_
        exact w.retN d7_56 rfl (by simp) ⟨by rw [if_pos ⟨own_if1 r1, own_if1 r2, r3⟩]; rfl, rfl⟩

set_option maxRecDepth 65536 in
set_option maxHeartbeats 40000000 in
theorem rmEn (l : Launch) (Z : State) (a0 : Array Value) (hw : ∀ d ∈ tables_1, d.before a0 Z = true) (a : Addr) (h0 : Heap) (hE : Ext Z.heap h0) :
    Ct true l Z consts_1 (⟨"com/example/matchbook/matchbook/book/Owner", "equals", "(Ljava/lang/Object;)Z"⟩ : MethodName) prog_16_method_6_code 3 (some .boolean) [] ({ frames := 0, cells := 0, slots := 0, locals := 0 } : Room) [] #[(.ref a), .null] h0 (fun r w => r = some (.int (0 : Int32)) ∧ h0 = w) := by
  refine Ct.intro pn_com_example_matchbook_matchbook_book_Owner hE (fun m => efEn m a) nosf ⟨a0, own_EW hw⟩ ?_
  intro x T w
  refine w.aloadN d7_0 rfl rfl ?_
  refine w.instNull d7_1 ?_
  refine w.ifEq d7_4 d7_4t (fun _ => ?_) (fun q => absurd (by decide) q)
  refine w.iconst (0 : Int32) d7_55 rfl ?_
  exact w.retN d7_56 rfl (by simp) ⟨rfl, rfl⟩

set_option maxRecDepth 65536 in
set_option maxHeartbeats 40000000 in
theorem rmEo (l : Launch) (Z : State) (a0 : Array Value) (hw : ∀ d ∈ tables_1, d.before a0 Z = true) (a b : Addr) (h0 : Heap) (hE : Ext Z.heap h0) (E2 : Exa Z h0 b "java/lang/String") :
    Ct true l Z consts_1 (⟨"com/example/matchbook/matchbook/book/Owner", "equals", "(Ljava/lang/Object;)Z"⟩ : MethodName) prog_16_method_6_code 3 (some .boolean) [] ({ frames := 0, cells := 0, slots := 0, locals := 0 } : Room) [] #[(.ref a), (.ref b)] h0 (fun r w => r = some (.int (0 : Int32)) ∧ h0 = w) := by
  refine Ct.intro pn_com_example_matchbook_matchbook_book_Owner hE (fun m => efE m a b) nosf ⟨a0, own_EW hw⟩ ?_
  intro x T w
  refine w.aloadN d7_0 rfl rfl ?_
  refine w.instNo d7_1 (tw hw 59 rfl) E2 (own_no hw) ?_
  intro T w
  refine w.ifEq d7_4 d7_4t (fun _ => ?_) (fun q => absurd (by decide) q)
  refine w.iconst (0 : Int32) d7_55 rfl ?_
  exact w.retN d7_56 rfl (by simp) ⟨rfl, rfl⟩

set_option maxRecDepth 65536 in
set_option maxHeartbeats 40000000 in
theorem rmSame (l : Launch) (Z : State) (a0 : Array Value) (hw : ∀ d ∈ tables_1, d.before a0 Z = true) (l1 x0 x1 l2 y0 y1 : Int32) (h0 : Heap) (hE : Ext Z.heap h0) :
    Ct true l Z consts_1 (⟨"com/example/matchbook/matchbook/book/OwnerEqualsPinLaw", "same", "(ICCICC)Z"⟩ : MethodName) method_3_code 6 (some .boolean) [] ({ frames := 0, cells := 0, slots := 0, locals := 0 } : Room) [] #[(.int l1), (.int x0), (.int x1), (.int l2), (.int y0), (.int y1)] h0 (fun r u => r = some (.int (own_same l1 x0 x1 l2 y0 y1)) ∧ h0 = u) := by
  refine Ct.intro pn_com_example_matchbook_matchbook_book_OwnerEqualsPinLaw hE (fun m => efSa m l1 x0 x1 l2 y0 y1) nosf ⟨a0, own_EW hw⟩ ?_
  intro x T w
  refine w.iloadN d12_0 rfl ?_
  refine w.iloadN d12_1 rfl ?_
  refine w.icmpEq d12_2 d12_2t (fun q1 => ?_) (fun q1 => ?_)
  · refine w.iloadN d12_7 rfl ?_
    refine w.iconst (1 : Int32) d12_8 rfl ?_
    refine w.icmpLt d12_9 d12_9t (fun q2 => ?_) (fun q2 => ?_)
    · refine w.iloadN d12_20 rfl ?_
      refine w.iconst (2 : Int32) d12_21 rfl ?_
      refine w.icmpLt d12_22 d12_22t (fun q4 => ?_) (fun q4 => ?_)
      · refine w.iconst (1 : Int32) d12_33 rfl ?_
        exact w.retN d12_34 rfl (by simp) ⟨by rw [own_same, if_pos ⟨q1, fun e => absurd q2 e, fun e => absurd q4 e⟩]; rfl, rfl⟩
      · refine w.iloadN d12_25 rfl ?_
        refine w.iload d12_26 rfl ?_
        refine w.icmpEq d12_28 d12_28t (fun q5 => ?_) (fun q5 => ?_)
        · refine w.iconst (1 : Int32) d12_33 rfl ?_
          exact w.retN d12_34 rfl (by simp) ⟨by rw [own_same, if_pos ⟨q1, fun e => absurd q2 e, fun _ => q5⟩]; rfl, rfl⟩
        · refine w.iconst (0 : Int32) d12_31 rfl ?_
          exact w.retN d12_32 rfl (by simp) ⟨by rw [own_same, if_neg (fun e => q5 (e.2.2 q4))]; rfl, rfl⟩
    · refine w.iloadN d12_12 rfl ?_
      refine w.iload d12_13 rfl ?_
      refine w.icmpEq d12_15 d12_15t (fun q3 => ?_) (fun q3 => ?_)
      · refine w.iloadN d12_20 rfl ?_
        refine w.iconst (2 : Int32) d12_21 rfl ?_
        refine w.icmpLt d12_22 d12_22t (fun q4 => ?_) (fun q4 => ?_)
        · refine w.iconst (1 : Int32) d12_33 rfl ?_
          exact w.retN d12_34 rfl (by simp) ⟨by rw [own_same, if_pos ⟨q1, fun _ => q3, fun e => absurd q4 e⟩]; rfl, rfl⟩
        · refine w.iloadN d12_25 rfl ?_
          refine w.iload d12_26 rfl ?_
          refine w.icmpEq d12_28 d12_28t (fun q5 => ?_) (fun q5 => ?_)
          · refine w.iconst (1 : Int32) d12_33 rfl ?_
            exact w.retN d12_34 rfl (by simp) ⟨by rw [own_same, if_pos ⟨q1, fun _ => q3, fun _ => q5⟩]; rfl, rfl⟩
          · refine w.iconst (0 : Int32) d12_31 rfl ?_
            exact w.retN d12_32 rfl (by simp) ⟨by rw [own_same, if_neg (fun e => q5 (e.2.2 q4))]; rfl, rfl⟩
      · refine w.iconst (0 : Int32) d12_18 rfl ?_
        exact w.retN d12_19 rfl (by simp) ⟨by rw [own_same, if_neg (fun e => q3 (e.2.1 q2))]; rfl, rfl⟩
  · refine w.iconst (0 : Int32) d12_5 rfl ?_
    exact w.retN d12_6 rfl (by simp) ⟨by rw [own_same, if_neg (fun e => q1 e.1)]; rfl, rfl⟩

set_option maxRecDepth 65536 in
set_option maxHeartbeats 40000000 in
theorem pc220 (l : Launch) (Z : State) (a0 : Array Value) (hw : ∀ d ∈ tables_1, d.before a0 Z = true) (hr : rest_1_c.value a0 Z none Z [] = some true) (hn : narrow_1.value a0 Z none Z [] = some true) (v0 v1 v2 v3 v4 v5 k0 k1 k2 n0 n1 n2 j0 j1 j2 i0 i1 i2 : Int32) (o1 : (own_ok k0 k1 k2)) (o2 : (own_ok n0 n1 n2)) (o3 : (own_ok j0 j1 j2)) (o4 : (own_ok i0 i1 i2)) (p1 p2 : Int32) (m1 m2 : Addr) (hm : m1 = m2 ↔ p1 = p2) (M1 : Exa Z Z.heap m1 "com/example/matchbook/matchbook/book/MatchKind") (M2 : Exa Z Z.heap m2 "com/example/matchbook/matchbook/book/MatchKind") (h0 : Heap) (cx : Cx) (T : State) (w : W cx true l Z consts_1 room_1 (MethodName.cls x) code maxLocals ret (MethodName.name x) T h0 (0) (0) []) :
    Go cx true Z consts_1 room_1 (fun v _ => v = some (.int 1)) T 220 #[.val (.int v0), .val (.int v1), .val (.int v2), .val (.int v3), .val (.int v4), .val (.int v5), .val (.int k0), .val (.int k1), .val (.int k2), .val (.int n0), .val (.int n1), .val (.int n2), .val (.int j0), .val (.int j1), .val (.int j2), .val (.int i0), .val (.int i1), .val (.int i2), .val (.int p1), .val (.int p2), .val (.ref m1), .val (.ref m2), .unset, .unset, .unset, .unset, .unset, .unset, .unset, .unset] [] := by
  refine w.iload d0_220 rfl ?_
  refine w.iload d0_222 rfl ?_
  refine w.iload d0_224 rfl ?_
  refine w.callS (argsL := [(.int k0), (.int k1), (.int k2)]) (rest := []) 0 d0_226 (tw hw 5 rfl) (tw hw 6 rfl) (tw hw 7 rfl) (tw hw 8 rfl) (by decide) (rmStr l Z a0 hw hr k0 k1 k2 h0 w.old o1.2.1 o1.2.2.1 o1.2.2.2.1 o1.2.2.2.2.1) (lenOf pd_8 rfl) rfl rfl (Nat.le_refl _) ⟨by decide, by decide, by decide, by decide⟩ all0 ?_
  intro T h1 r w _ hQ
  obtain ⟨s1, t_s1, rfl, E_s1, S_s1⟩ := hQ
  show Go cx _ Z _ _ _ T 229 #[.val (.int v0), .val (.int v1), .val (.int v2), .val (.int v3), .val (.int v4), .val (.int v5), .val (.int k0), .val (.int k1), .val (.int k2), .val (.int n0), .val (.int n1), .val (.int n2), .val (.int j0), .val (.int j1), .val (.int j2), .val (.int i0), .val (.int i1), .val (.int i2), .val (.int p1), .val (.int p2), .val (.ref m1), .val (.ref m2), .unset, .unset, .unset, .unset, .unset, .unset, .unset, .unset] [(.ref s1)]
  refine w.astore #[.val (.int v0), .val (.int v1), .val (.int v2), .val (.int v3), .val (.int v4), .val (.int v5), .val (.int k0), .val (.int k1), .val (.int k2), .val (.int n0), .val (.int n1), .val (.int n2), .val (.int j0), .val (.int j1), .val (.int j2), .val (.int i0), .val (.int i1), .val (.int i2), .val (.int p1), .val (.int p2), .val (.ref m1), .val (.ref m2), .val (.ref s1), .unset, .unset, .unset, .unset, .unset, .unset, .unset] d0_229 rfl rfl ?_
  refine w.iload d0_231 rfl ?_
  refine w.iload d0_233 rfl ?_
  refine w.iload d0_235 rfl ?_
  refine w.callS (argsL := [(.int n0), (.int n1), (.int n2)]) (rest := []) 0 d0_237 (tw hw 5 rfl) (tw hw 6 rfl) (tw hw 7 rfl) (tw hw 8 rfl) (by decide) (rmStr l Z a0 hw hr n0 n1 n2 h1 w.old o2.2.1 o2.2.2.1 o2.2.2.2.1 o2.2.2.2.2.1) (lenOf pd_8 rfl) rfl rfl (Nat.le_refl _) ⟨by decide, by decide, by decide, by decide⟩ all0 ?_
  intro T h2 r w _ hQ
  obtain ⟨s2, t_s2, rfl, E_s2, S_s2⟩ := hQ
  have F1 := S_s1.ext E_s2
  show Go cx _ Z _ _ _ T 240 #[.val (.int v0), .val (.int v1), .val (.int v2), .val (.int v3), .val (.int v4), .val (.int v5), .val (.int k0), .val (.int k1), .val (.int k2), .val (.int n0), .val (.int n1), .val (.int n2), .val (.int j0), .val (.int j1), .val (.int j2), .val (.int i0), .val (.int i1), .val (.int i2), .val (.int p1), .val (.int p2), .val (.ref m1), .val (.ref m2), .val (.ref s1), .unset, .unset, .unset, .unset, .unset, .unset, .unset] [(.ref s2)]
  refine w.astore #[.val (.int v0), .val (.int v1), .val (.int v2), .val (.int v3), .val (.int v4), .val (.int v5), .val (.int k0), .val (.int k1), .val (.int k2), .val (.int n0), .val (.int n1), .val (.int n2), .val (.int j0), .val (.int j1), .val (.int j2), .val (.int i0), .val (.int i1), .val (.int i2), .val (.int p1), .val (.int p2), .val (.ref m1), .val (.ref m2), .val (.ref s1), .val (.ref s2), .unset, .unset, .unset, .unset, .unset, .unset] d0_240 rfl rfl ?_
  refine w.iload d0_242 rfl ?_
  refine w.iload d0_244 rfl ?_
  refine w.iload d0_246 rfl ?_
  refine w.callS (argsL := [(.int j0), (.int j1), (.int j2)]) (rest := []) 0 d0_248 (tw hw 5 rfl) (tw hw 6 rfl) (tw hw 7 rfl) (tw hw 8 rfl) (by decide) (rmStr l Z a0 hw hr j0 j1 j2 h2 w.old o3.2.1 o3.2.2.1 o3.2.2.2.1 o3.2.2.2.2.1) (lenOf pd_8 rfl) rfl rfl (Nat.le_refl _) ⟨by decide, by decide, by decide, by decide⟩ all0 ?_
  intro T h3 r w _ hQ
  obtain ⟨s3, t_s3, rfl, E_s3, S_s3⟩ := hQ
  have F2 := F1.ext E_s3
  have F3 := S_s2.ext E_s3
  show Go cx _ Z _ _ _ T 251 #[.val (.int v0), .val (.int v1), .val (.int v2), .val (.int v3), .val (.int v4), .val (.int v5), .val (.int k0), .val (.int k1), .val (.int k2), .val (.int n0), .val (.int n1), .val (.int n2), .val (.int j0), .val (.int j1), .val (.int j2), .val (.int i0), .val (.int i1), .val (.int i2), .val (.int p1), .val (.int p2), .val (.ref m1), .val (.ref m2), .val (.ref s1), .val (.ref s2), .unset, .unset, .unset, .unset, .unset, .unset] [(.ref s3)]
  refine w.astore #[.val (.int v0), .val (.int v1), .val (.int v2), .val (.int v3), .val (.int v4), .val (.int v5), .val (.int k0), .val (.int k1), .val (.int k2), .val (.int n0), .val (.int n1), .val (.int n2), .val (.int j0), .val (.int j1), .val (.int j2), .val (.int i0), .val (.int i1), .val (.int i2), .val (.int p1), .val (.int p2), .val (.ref m1), .val (.ref m2), .val (.ref s1), .val (.ref s2), .val (.ref s3), .unset, .unset, .unset, .unset, .unset] d0_251 rfl rfl ?_
  refine w.iload d0_253 rfl ?_
  refine w.iload d0_255 rfl ?_
  refine w.iload d0_257 rfl ?_
  refine w.callS (argsL := [(.int i0), (.int i1), (.int i2)]) (rest := []) 0 d0_259 (tw hw 5 rfl) (tw hw 6 rfl) (tw hw 7 rfl) (tw hw 8 rfl) (by decide) (rmStr l Z a0 hw hr i0 i1 i2 h3 w.old o4.2.1 o4.2.2.1 o4.2.2.2.1 o4.2.2.2.2.1) (lenOf pd_8 rfl) rfl rfl (Nat.le_refl _) ⟨by decide, by decide, by decide, by decide⟩ all0 ?_
  intro T h4 r w _ hQ
  obtain ⟨s4, t_s4, rfl, E_s4, S_s4⟩ := hQ
  have F4 := F2.ext E_s4
  have F5 := F3.ext E_s4
  have F6 := S_s3.ext E_s4
  show Go cx _ Z _ _ _ T 262 #[.val (.int v0), .val (.int v1), .val (.int v2), .val (.int v3), .val (.int v4), .val (.int v5), .val (.int k0), .val (.int k1), .val (.int k2), .val (.int n0), .val (.int n1), .val (.int n2), .val (.int j0), .val (.int j1), .val (.int j2), .val (.int i0), .val (.int i1), .val (.int i2), .val (.int p1), .val (.int p2), .val (.ref m1), .val (.ref m2), .val (.ref s1), .val (.ref s2), .val (.ref s3), .unset, .unset, .unset, .unset, .unset] [(.ref s4)]
  refine w.astore #[.val (.int v0), .val (.int v1), .val (.int v2), .val (.int v3), .val (.int v4), .val (.int v5), .val (.int k0), .val (.int k1), .val (.int k2), .val (.int n0), .val (.int n1), .val (.int n2), .val (.int j0), .val (.int j1), .val (.int j2), .val (.int i0), .val (.int i1), .val (.int i2), .val (.int p1), .val (.int p2), .val (.ref m1), .val (.ref m2), .val (.ref s1), .val (.ref s2), .val (.ref s3), .val (.ref s4), .unset, .unset, .unset, .unset] d0_262 rfl rfl ?_
  have sz0 := w.size
  refine w.new d0_264 (tw hw 31 rfl) (tw hw 32 rfl) (tw hw 33 rfl) ⟨by decide, by decide⟩ ?_
  intro x1 T h5 g_x1 w E7 A8 D9
  have ne_s1_x1 : s1 ≠ x1 := Nat.ne_of_lt (Nat.lt_of_lt_of_eq F4.lt g_x1.symm)
  have ne_t_s1_x1 : t_s1 ≠ x1 := Nat.ne_of_lt (Nat.lt_of_lt_of_eq F4.lt' g_x1.symm)
  have ne_s2_x1 : s2 ≠ x1 := Nat.ne_of_lt (Nat.lt_of_lt_of_eq F5.lt g_x1.symm)
  have ne_t_s2_x1 : t_s2 ≠ x1 := Nat.ne_of_lt (Nat.lt_of_lt_of_eq F5.lt' g_x1.symm)
  have ne_s3_x1 : s3 ≠ x1 := Nat.ne_of_lt (Nat.lt_of_lt_of_eq F6.lt g_x1.symm)
  have ne_t_s3_x1 : t_s3 ≠ x1 := Nat.ne_of_lt (Nat.lt_of_lt_of_eq F6.lt' g_x1.symm)
  have ne_s4_x1 : s4 ≠ x1 := Nat.ne_of_lt (Nat.lt_of_lt_of_eq S_s4.lt g_x1.symm)
  have ne_t_s4_x1 : t_s4 ≠ x1 := Nat.ne_of_lt (Nat.lt_of_lt_of_eq S_s4.lt' g_x1.symm)
  have ge_x1 : Z.heap.size ≤ x1 := by rw [g_x1]; exact sz0
  have F10 := F4.ext E7
  have F11 := F5.ext E7
  have F12 := F6.ext E7
  have F13 := S_s4.ext E7
  have F14 : Fld Z h5 x1 "com/example/matchbook/matchbook/book/Owner" "lookupKey" "Ljava/lang/String;" .null := D9 (Or.inr (tw hw 45 rfl)) (ty := (.object "java/lang/String")) (by decide)
  have F15 : Fld Z h5 x1 "com/example/matchbook/matchbook/book/Owner" "displayName" "Ljava/lang/String;" .null := D9 (Or.inr (tw hw 48 rfl)) (ty := (.object "java/lang/String")) (by decide)
  have F16 : Fld Z h5 x1 "com/example/matchbook/matchbook/book/Owner" "match" "Lcom/example/matchbook/matchbook/book/MatchKind;" .null := D9 (Or.inr (tw hw 53 rfl)) (ty := (.object "com/example/matchbook/matchbook/book/MatchKind")) (by decide)
  refine w.dup d0_267 rfl ?_
  refine w.aload d0_268 rfl rfl ?_
  refine w.aload d0_270 rfl rfl ?_
  refine w.aload d0_272 rfl rfl ?_
  refine w.callI (argsL := [(.ref s1), (.ref s2), (.ref m1)]) (rest := [(.ref x1)]) 1 d0_274 rfl (tw hw 34 rfl) (tw hw 35 rfl) (tw hw 33 rfl) (tw hw 36 rfl) (by decide) (rmI l Z a0 hw x1 s1 s2 m1 h5 w.old ge_x1 A8 F14 F15 F16 F10.1 F11.1 (M1.ext w.old)) (lenOf pd_9 rfl) rfl rfl (Nat.le_refl _) ⟨by decide, by decide, by decide, by decide⟩ (allS (List.mem_of_getElem? (i := 0) rfl) all0) ?_
  intro T h6 r w _ hQ
  obtain ⟨rfl, K_x1, EE_x1, F0_x1, F1_x1, F2_x1⟩ := hQ
  have F17 := F10.keep K_x1 (ninS ne_s1_x1 nin0) (ninS ne_t_s1_x1 nin0)
  have F18 := F11.keep K_x1 (ninS ne_s2_x1 nin0) (ninS ne_t_s2_x1 nin0)
  have F19 := F12.keep K_x1 (ninS ne_s3_x1 nin0) (ninS ne_t_s3_x1 nin0)
  have F20 := F13.keep K_x1 (ninS ne_s4_x1 nin0) (ninS ne_t_s4_x1 nin0)
  show Go cx _ Z _ _ _ T 277 #[.val (.int v0), .val (.int v1), .val (.int v2), .val (.int v3), .val (.int v4), .val (.int v5), .val (.int k0), .val (.int k1), .val (.int k2), .val (.int n0), .val (.int n1), .val (.int n2), .val (.int j0), .val (.int j1), .val (.int j2), .val (.int i0), .val (.int i1), .val (.int i2), .val (.int p1), .val (.int p2), .val (.ref m1), .val (.ref m2), .val (.ref s1), .val (.ref s2), .val (.ref s3), .val (.ref s4), .unset, .unset, .unset, .unset] [(.ref x1)]
  refine w.astore #[.val (.int v0), .val (.int v1), .val (.int v2), .val (.int v3), .val (.int v4), .val (.int v5), .val (.int k0), .val (.int k1), .val (.int k2), .val (.int n0), .val (.int n1), .val (.int n2), .val (.int j0), .val (.int j1), .val (.int j2), .val (.int i0), .val (.int i1), .val (.int i2), .val (.int p1), .val (.int p2), .val (.ref m1), .val (.ref m2), .val (.ref s1), .val (.ref s2), .val (.ref s3), .val (.ref s4), .val (.ref x1), .unset, .unset, .unset] d0_277 rfl rfl ?_
  have sz0 := w.size
  refine w.new d0_279 (tw hw 31 rfl) (tw hw 32 rfl) (tw hw 33 rfl) ⟨by decide, by decide⟩ ?_
  intro x2 T h7 g_x2 w E21 A22 D23
  have ne_s1_x2 : s1 ≠ x2 := Nat.ne_of_lt (Nat.lt_of_lt_of_eq F17.lt g_x2.symm)
  have ne_t_s1_x2 : t_s1 ≠ x2 := Nat.ne_of_lt (Nat.lt_of_lt_of_eq F17.lt' g_x2.symm)
  have ne_s2_x2 : s2 ≠ x2 := Nat.ne_of_lt (Nat.lt_of_lt_of_eq F18.lt g_x2.symm)
  have ne_t_s2_x2 : t_s2 ≠ x2 := Nat.ne_of_lt (Nat.lt_of_lt_of_eq F18.lt' g_x2.symm)
  have ne_s3_x2 : s3 ≠ x2 := Nat.ne_of_lt (Nat.lt_of_lt_of_eq F19.lt g_x2.symm)
  have ne_t_s3_x2 : t_s3 ≠ x2 := Nat.ne_of_lt (Nat.lt_of_lt_of_eq F19.lt' g_x2.symm)
  have ne_s4_x2 : s4 ≠ x2 := Nat.ne_of_lt (Nat.lt_of_lt_of_eq F20.lt g_x2.symm)
  have ne_t_s4_x2 : t_s4 ≠ x2 := Nat.ne_of_lt (Nat.lt_of_lt_of_eq F20.lt' g_x2.symm)
  have ne_x1_x2 : x1 ≠ x2 := Nat.ne_of_lt (Nat.lt_of_lt_of_eq EE_x1.lt g_x2.symm)
  have ge_x2 : Z.heap.size ≤ x2 := by rw [g_x2]; exact sz0
  have F24 := F17.ext E21
  have F25 := F18.ext E21
  have F26 := F19.ext E21
  have F27 := F20.ext E21
  have F28 := EE_x1.ext E21
  have F29 := F0_x1.ext E21
  have F30 := F1_x1.ext E21
  have F31 := F2_x1.ext E21
  have F32 : Fld Z h7 x2 "com/example/matchbook/matchbook/book/Owner" "lookupKey" "Ljava/lang/String;" .null := D23 (Or.inr (tw hw 45 rfl)) (ty := (.object "java/lang/String")) (by decide)
  have F33 : Fld Z h7 x2 "com/example/matchbook/matchbook/book/Owner" "displayName" "Ljava/lang/String;" .null := D23 (Or.inr (tw hw 48 rfl)) (ty := (.object "java/lang/String")) (by decide)
  have F34 : Fld Z h7 x2 "com/example/matchbook/matchbook/book/Owner" "match" "Lcom/example/matchbook/matchbook/book/MatchKind;" .null := D23 (Or.inr (tw hw 53 rfl)) (ty := (.object "com/example/matchbook/matchbook/book/MatchKind")) (by decide)
  refine w.dup d0_282 rfl ?_
  refine w.aload d0_283 rfl rfl ?_
  refine w.aload d0_285 rfl rfl ?_
  refine w.aload d0_287 rfl rfl ?_
  refine w.callI (argsL := [(.ref s3), (.ref s4), (.ref m2)]) (rest := [(.ref x2)]) 1 d0_289 rfl (tw hw 34 rfl) (tw hw 35 rfl) (tw hw 33 rfl) (tw hw 36 rfl) (by decide) (rmI l Z a0 hw x2 s3 s4 m2 h7 w.old ge_x2 A22 F32 F33 F34 F26.1 F27.1 (M2.ext w.old)) (lenOf pd_9 rfl) rfl rfl (Nat.le_refl _) ⟨by decide, by decide, by decide, by decide⟩ (allS (List.mem_of_getElem? (i := 0) rfl) all0) ?_
  intro T h8 r w _ hQ
  obtain ⟨rfl, K_x2, EE_x2, F0_x2, F1_x2, F2_x2⟩ := hQ
  have F35 := F24.keep K_x2 (ninS ne_s1_x2 nin0) (ninS ne_t_s1_x2 nin0)
  have F36 := F25.keep K_x2 (ninS ne_s2_x2 nin0) (ninS ne_t_s2_x2 nin0)
  have F37 := F26.keep K_x2 (ninS ne_s3_x2 nin0) (ninS ne_t_s3_x2 nin0)
  have F38 := F27.keep K_x2 (ninS ne_s4_x2 nin0) (ninS ne_t_s4_x2 nin0)
  have F39 := F28.keep K_x2
  have F40 := F29.keep K_x2 (ninS ne_x1_x2 nin0)
  have F41 := F30.keep K_x2 (ninS ne_x1_x2 nin0)
  have F42 := F31.keep K_x2 (ninS ne_x1_x2 nin0)
  show Go cx _ Z _ _ _ T 292 #[.val (.int v0), .val (.int v1), .val (.int v2), .val (.int v3), .val (.int v4), .val (.int v5), .val (.int k0), .val (.int k1), .val (.int k2), .val (.int n0), .val (.int n1), .val (.int n2), .val (.int j0), .val (.int j1), .val (.int j2), .val (.int i0), .val (.int i1), .val (.int i2), .val (.int p1), .val (.int p2), .val (.ref m1), .val (.ref m2), .val (.ref s1), .val (.ref s2), .val (.ref s3), .val (.ref s4), .val (.ref x1), .unset, .unset, .unset] [(.ref x2)]
  refine w.astore #[.val (.int v0), .val (.int v1), .val (.int v2), .val (.int v3), .val (.int v4), .val (.int v5), .val (.int k0), .val (.int k1), .val (.int k2), .val (.int n0), .val (.int n1), .val (.int n2), .val (.int j0), .val (.int j1), .val (.int j2), .val (.int i0), .val (.int i1), .val (.int i2), .val (.int p1), .val (.int p2), .val (.ref m1), .val (.ref m2), .val (.ref s1), .val (.ref s2), .val (.ref s3), .val (.ref s4), .val (.ref x1), .val (.ref x2), .unset, .unset] d0_292 rfl rfl ?_
  refine w.iload d0_294 rfl ?_
  refine w.iconst (3 : Int32) d0_296 rfl ?_
  refine w.iand d0_297 ?_
  refine w.istore #[.val (.int v0), .val (.int v1), .val (.int v2), .val (.int v3), .val (.int v4), .val (.int v5), .val (.int k0), .val (.int k1), .val (.int k2), .val (.int n0), .val (.int n1), .val (.int n2), .val (.int j0), .val (.int j1), .val (.int j2), .val (.int i0), .val (.int i1), .val (.int i2), .val (.int p1), .val (.int p2), .val (.ref m1), .val (.ref m2), .val (.ref s1), .val (.ref s2), .val (.ref s3), .val (.ref s4), .val (.ref x1), .val (.ref x2), .val (.int (v5 &&& (3 : Int32))), .unset] d0_298 rfl ?_
  have e4 := and3 v5
  generalize v5 &&& (3 : Int32) = md at e4 ⊢
  rcases e4 with rfl | rfl | rfl | rfl
  · show Go cx _ Z _ _ _ T 300 #[.val (.int v0), .val (.int v1), .val (.int v2), .val (.int v3), .val (.int v4), .val (.int v5), .val (.int k0), .val (.int k1), .val (.int k2), .val (.int n0), .val (.int n1), .val (.int n2), .val (.int j0), .val (.int j1), .val (.int j2), .val (.int i0), .val (.int i1), .val (.int i2), .val (.int p1), .val (.int p2), .val (.ref m1), .val (.ref m2), .val (.ref s1), .val (.ref s2), .val (.ref s3), .val (.ref s4), .val (.ref x1), .val (.ref x2), .val (.int (0 : Int32)), .unset] []
    refine w.iload d0_300 rfl ?_
    refine w.iconst (1 : Int32) d0_302 rfl ?_
    refine w.icmpNe d0_303 d0_303t (fun _ => ?_) (fun q => absurd q (by decide))
    refine w.iload d0_321 rfl ?_
    refine w.iconst (2 : Int32) d0_323 rfl ?_
    refine w.icmpNe d0_324 d0_324t (fun _ => ?_) (fun q => absurd q (by decide))
    refine w.iload d0_347 rfl ?_
    refine w.iconst (3 : Int32) d0_349 rfl ?_
    refine w.icmpNe d0_350 d0_350t (fun _ => ?_) (fun q => absurd q (by decide))
    refine w.iload d0_361 rfl ?_
    refine w.iload d0_363 rfl ?_
    refine w.iload d0_365 rfl ?_
    refine w.iload d0_367 rfl ?_
    refine w.iload d0_369 rfl ?_
    refine w.iload d0_371 rfl ?_
    refine w.callS (argsL := [(.int k0), (.int k1), (.int k2), (.int j0), (.int j1), (.int j2)]) (rest := []) 0 d0_373 (tw hw 79 rfl) (tw hw 80 rfl) (tw hw 7 rfl) (tw hw 81 rfl) (by decide) (rmSame l Z a0 hw k0 k1 k2 j0 j1 j2 h8 w.old) (lenOf pd_10 rfl) rfl rfl (Nat.le_refl _) ⟨by decide, by decide, by decide, by decide⟩ all0 ?_
    intro T h9 r w _ hQ
    obtain ⟨rfl, rfl⟩ := hQ
    show Go cx _ Z _ _ _ T 376 #[.val (.int v0), .val (.int v1), .val (.int v2), .val (.int v3), .val (.int v4), .val (.int v5), .val (.int k0), .val (.int k1), .val (.int k2), .val (.int n0), .val (.int n1), .val (.int n2), .val (.int j0), .val (.int j1), .val (.int j2), .val (.int i0), .val (.int i1), .val (.int i2), .val (.int p1), .val (.int p2), .val (.ref m1), .val (.ref m2), .val (.ref s1), .val (.ref s2), .val (.ref s3), .val (.ref s4), .val (.ref x1), .val (.ref x2), .val (.int (0 : Int32)), .unset] [(.int (own_same k0 k1 k2 j0 j1 j2))]
    have hb1 := own_sameb o1 o3
    have hb2 := own_sameb o2 o4
    refine w.ifEq d0_376 d0_376t (fun r1 => ?_) (fun r1 => ?_)
    · refine w.iconst (0 : Int32) d0_408 rfl ?_
      refine w.istore #[.val (.int v0), .val (.int v1), .val (.int v2), .val (.int v3), .val (.int v4), .val (.int v5), .val (.int k0), .val (.int k1), .val (.int k2), .val (.int n0), .val (.int n1), .val (.int n2), .val (.int j0), .val (.int j1), .val (.int j2), .val (.int i0), .val (.int i1), .val (.int i2), .val (.int p1), .val (.int p2), .val (.ref m1), .val (.ref m2), .val (.ref s1), .val (.ref s2), .val (.ref s3), .val (.ref s4), .val (.ref x1), .val (.ref x2), .val (.int (0 : Int32)), .val (.int (0 : Int32))] d0_409 rfl ?_
      refine w.aload d0_411 rfl rfl ?_
      refine w.aload d0_413 rfl rfl ?_
      refine w.callV (argsL := [(.ref x2)]) (rest := []) 0 d0_415 (tw hw 54 rfl) (tw hw 55 rfl) (tw hw 57 rfl) (tw hw 56 rfl) (tw hw 33 rfl) (tw hw 58 rfl) (by decide) F39 (rmE l Z a0 hw hr x1 x2 s1 s2 m1 s3 s4 m2 t_s1 t_s2 t_s3 t_s4 _ _ _ _ h8 w.old EE_x2 F40 F41 F42 F35 F36 F0_x2 F1_x2 F2_x2 F37 F38) (lenOf pd_7 rfl) rfl rfl (Nat.le_refl _) ⟨by decide, by decide, by decide, by decide⟩ all0 ?_
      intro T h10 r w _ hQ
      obtain ⟨rfl, rfl⟩ := hQ
      show Go cx _ Z _ _ _ T 418 #[.val (.int v0), .val (.int v1), .val (.int v2), .val (.int v3), .val (.int v4), .val (.int v5), .val (.int k0), .val (.int k1), .val (.int k2), .val (.int n0), .val (.int n1), .val (.int n2), .val (.int j0), .val (.int j1), .val (.int j2), .val (.int i0), .val (.int i1), .val (.int i2), .val (.int p1), .val (.int p2), .val (.ref m1), .val (.ref m2), .val (.ref s1), .val (.ref s2), .val (.ref s3), .val (.ref s4), .val (.ref x1), .val (.ref x2), .val (.int (0 : Int32)), .val (.int (0 : Int32))] [(.int (if (own_bytes k0 k1 k2) = (own_bytes j0 j1 j2) ∧ (own_bytes n0 n1 n2) = (own_bytes i0 i1 i2) ∧ m1 = m2 then 1 else 0))]
      refine w.iload d0_418 rfl ?_
      refine w.icmpNe d0_420 d0_420t (fun q => absurd (own_eqN hb1 hb2 hm (fun e => e.1 r1)) q) (fun _ => ?_)
      refine w.aload d0_423 rfl rfl ?_
      refine w.aload d0_425 rfl rfl ?_
      refine w.callV (argsL := [(.ref x1)]) (rest := []) 0 d0_427 (tw hw 54 rfl) (tw hw 55 rfl) (tw hw 57 rfl) (tw hw 56 rfl) (tw hw 33 rfl) (tw hw 58 rfl) (by decide) EE_x2 (rmE l Z a0 hw hr x2 x1 s3 s4 m2 s1 s2 m1 t_s3 t_s4 t_s1 t_s2 _ _ _ _ h8 w.old F39 F0_x2 F1_x2 F2_x2 F37 F38 F40 F41 F42 F35 F36) (lenOf pd_7 rfl) rfl rfl (Nat.le_refl _) ⟨by decide, by decide, by decide, by decide⟩ all0 ?_
      intro T h11 r w _ hQ
      obtain ⟨rfl, rfl⟩ := hQ
      show Go cx _ Z _ _ _ T 430 #[.val (.int v0), .val (.int v1), .val (.int v2), .val (.int v3), .val (.int v4), .val (.int v5), .val (.int k0), .val (.int k1), .val (.int k2), .val (.int n0), .val (.int n1), .val (.int n2), .val (.int j0), .val (.int j1), .val (.int j2), .val (.int i0), .val (.int i1), .val (.int i2), .val (.int p1), .val (.int p2), .val (.ref m1), .val (.ref m2), .val (.ref s1), .val (.ref s2), .val (.ref s3), .val (.ref s4), .val (.ref x1), .val (.ref x2), .val (.int (0 : Int32)), .val (.int (0 : Int32))] [(.int (if (own_bytes j0 j1 j2) = (own_bytes k0 k1 k2) ∧ (own_bytes i0 i1 i2) = (own_bytes n0 n1 n2) ∧ m2 = m1 then 1 else 0))]
      refine w.iload d0_430 rfl ?_
      refine w.icmpNe d0_432 d0_432t (fun q => absurd (own_eqN' hb1 hb2 hm (fun e => e.1 r1)) q) (fun _ => ?_)
      refine w.iconst (1 : Int32) d0_435 rfl ?_
      refine w.goto d0_436 d0_436t ?_
      exact w.retN d0_440 rfl (by simp) rfl
    · refine w.iload d0_379 rfl ?_
      refine w.iload d0_381 rfl ?_
      refine w.iload d0_383 rfl ?_
      refine w.iload d0_385 rfl ?_
      refine w.iload d0_387 rfl ?_
      refine w.iload d0_389 rfl ?_
      refine w.callS (argsL := [(.int n0), (.int n1), (.int n2), (.int i0), (.int i1), (.int i2)]) (rest := []) 0 d0_391 (tw hw 79 rfl) (tw hw 80 rfl) (tw hw 7 rfl) (tw hw 81 rfl) (by decide) (rmSame l Z a0 hw n0 n1 n2 i0 i1 i2 h8 w.old) (lenOf pd_10 rfl) rfl rfl (Nat.le_refl _) ⟨by decide, by decide, by decide, by decide⟩ all0 ?_
      intro T h12 r w _ hQ
      obtain ⟨rfl, rfl⟩ := hQ
      show Go cx _ Z _ _ _ T 394 #[.val (.int v0), .val (.int v1), .val (.int v2), .val (.int v3), .val (.int v4), .val (.int v5), .val (.int k0), .val (.int k1), .val (.int k2), .val (.int n0), .val (.int n1), .val (.int n2), .val (.int j0), .val (.int j1), .val (.int j2), .val (.int i0), .val (.int i1), .val (.int i2), .val (.int p1), .val (.int p2), .val (.ref m1), .val (.ref m2), .val (.ref s1), .val (.ref s2), .val (.ref s3), .val (.ref s4), .val (.ref x1), .val (.ref x2), .val (.int (0 : Int32)), .unset] [(.int (own_same n0 n1 n2 i0 i1 i2))]
      refine w.ifEq d0_394 d0_394t (fun r2 => ?_) (fun r2 => ?_)
      · refine w.iconst (0 : Int32) d0_408 rfl ?_
        refine w.istore #[.val (.int v0), .val (.int v1), .val (.int v2), .val (.int v3), .val (.int v4), .val (.int v5), .val (.int k0), .val (.int k1), .val (.int k2), .val (.int n0), .val (.int n1), .val (.int n2), .val (.int j0), .val (.int j1), .val (.int j2), .val (.int i0), .val (.int i1), .val (.int i2), .val (.int p1), .val (.int p2), .val (.ref m1), .val (.ref m2), .val (.ref s1), .val (.ref s2), .val (.ref s3), .val (.ref s4), .val (.ref x1), .val (.ref x2), .val (.int (0 : Int32)), .val (.int (0 : Int32))] d0_409 rfl ?_
        refine w.aload d0_411 rfl rfl ?_
        refine w.aload d0_413 rfl rfl ?_
        refine w.callV (argsL := [(.ref x2)]) (rest := []) 0 d0_415 (tw hw 54 rfl) (tw hw 55 rfl) (tw hw 57 rfl) (tw hw 56 rfl) (tw hw 33 rfl) (tw hw 58 rfl) (by decide) F39 (rmE l Z a0 hw hr x1 x2 s1 s2 m1 s3 s4 m2 t_s1 t_s2 t_s3 t_s4 _ _ _ _ h8 w.old EE_x2 F40 F41 F42 F35 F36 F0_x2 F1_x2 F2_x2 F37 F38) (lenOf pd_7 rfl) rfl rfl (Nat.le_refl _) ⟨by decide, by decide, by decide, by decide⟩ all0 ?_
        intro T h13 r w _ hQ
        obtain ⟨rfl, rfl⟩ := hQ
        show Go cx _ Z _ _ _ T 418 #[.val (.int v0), .val (.int v1), .val (.int v2), .val (.int v3), .val (.int v4), .val (.int v5), .val (.int k0), .val (.int k1), .val (.int k2), .val (.int n0), .val (.int n1), .val (.int n2), .val (.int j0), .val (.int j1), .val (.int j2), .val (.int i0), .val (.int i1), .val (.int i2), .val (.int p1), .val (.int p2), .val (.ref m1), .val (.ref m2), .val (.ref s1), .val (.ref s2), .val (.ref s3), .val (.ref s4), .val (.ref x1), .val (.ref x2), .val (.int (0 : Int32)), .val (.int (0 : Int32))] [(.int (if (own_bytes k0 k1 k2) = (own_bytes j0 j1 j2) ∧ (own_bytes n0 n1 n2) = (own_bytes i0 i1 i2) ∧ m1 = m2 then 1 else 0))]
        refine w.iload d0_418 rfl ?_
        refine w.icmpNe d0_420 d0_420t (fun q => absurd (own_eqN hb1 hb2 hm (fun e => e.2.1 r2)) q) (fun _ => ?_)
        refine w.aload d0_423 rfl rfl ?_
        refine w.aload d0_425 rfl rfl ?_
        refine w.callV (argsL := [(.ref x1)]) (rest := []) 0 d0_427 (tw hw 54 rfl) (tw hw 55 rfl) (tw hw 57 rfl) (tw hw 56 rfl) (tw hw 33 rfl) (tw hw 58 rfl) (by decide) EE_x2 (rmE l Z a0 hw hr x2 x1 s3 s4 m2 s1 s2 m1 t_s3 t_s4 t_s1 t_s2 _ _ _ _ h8 w.old F39 F0_x2 F1_x2 F2_x2 F37 F38 F40 F41 F42 F35 F36) (lenOf pd_7 rfl) rfl rfl (Nat.le_refl _) ⟨by decide, by decide, by decide, by decide⟩ all0 ?_
        intro T h14 r w _ hQ
        obtain ⟨rfl, rfl⟩ := hQ
        show Go cx _ Z _ _ _ T 430 #[.val (.int v0), .val (.int v1), .val (.int v2), .val (.int v3), .val (.int v4), .val (.int v5), .val (.int k0), .val (.int k1), .val (.int k2), .val (.int n0), .val (.int n1), .val (.int n2), .val (.int j0), .val (.int j1), .val (.int j2), .val (.int i0), .val (.int i1), .val (.int i2), .val (.int p1), .val (.int p2), .val (.ref m1), .val (.ref m2), .val (.ref s1), .val (.ref s2), .val (.ref s3), .val (.ref s4), .val (.ref x1), .val (.ref x2), .val (.int (0 : Int32)), .val (.int (0 : Int32))] [(.int (if (own_bytes j0 j1 j2) = (own_bytes k0 k1 k2) ∧ (own_bytes i0 i1 i2) = (own_bytes n0 n1 n2) ∧ m2 = m1 then 1 else 0))]
        refine w.iload d0_430 rfl ?_
        refine w.icmpNe d0_432 d0_432t (fun q => absurd (own_eqN' hb1 hb2 hm (fun e => e.2.1 r2)) q) (fun _ => ?_)
        refine w.iconst (1 : Int32) d0_435 rfl ?_
        refine w.goto d0_436 d0_436t ?_
        exact w.retN d0_440 rfl (by simp) rfl
      · refine w.iload d0_397 rfl ?_
        refine w.iload d0_399 rfl ?_
        refine w.icmpNe d0_401 d0_401t (fun r3 => ?_) (fun r3 => ?_)
        · refine w.iconst (0 : Int32) d0_408 rfl ?_
          refine w.istore #[.val (.int v0), .val (.int v1), .val (.int v2), .val (.int v3), .val (.int v4), .val (.int v5), .val (.int k0), .val (.int k1), .val (.int k2), .val (.int n0), .val (.int n1), .val (.int n2), .val (.int j0), .val (.int j1), .val (.int j2), .val (.int i0), .val (.int i1), .val (.int i2), .val (.int p1), .val (.int p2), .val (.ref m1), .val (.ref m2), .val (.ref s1), .val (.ref s2), .val (.ref s3), .val (.ref s4), .val (.ref x1), .val (.ref x2), .val (.int (0 : Int32)), .val (.int (0 : Int32))] d0_409 rfl ?_
          refine w.aload d0_411 rfl rfl ?_
          refine w.aload d0_413 rfl rfl ?_
          refine w.callV (argsL := [(.ref x2)]) (rest := []) 0 d0_415 (tw hw 54 rfl) (tw hw 55 rfl) (tw hw 57 rfl) (tw hw 56 rfl) (tw hw 33 rfl) (tw hw 58 rfl) (by decide) F39 (rmE l Z a0 hw hr x1 x2 s1 s2 m1 s3 s4 m2 t_s1 t_s2 t_s3 t_s4 _ _ _ _ h8 w.old EE_x2 F40 F41 F42 F35 F36 F0_x2 F1_x2 F2_x2 F37 F38) (lenOf pd_7 rfl) rfl rfl (Nat.le_refl _) ⟨by decide, by decide, by decide, by decide⟩ all0 ?_
          intro T h15 r w _ hQ
          obtain ⟨rfl, rfl⟩ := hQ
          show Go cx _ Z _ _ _ T 418 #[.val (.int v0), .val (.int v1), .val (.int v2), .val (.int v3), .val (.int v4), .val (.int v5), .val (.int k0), .val (.int k1), .val (.int k2), .val (.int n0), .val (.int n1), .val (.int n2), .val (.int j0), .val (.int j1), .val (.int j2), .val (.int i0), .val (.int i1), .val (.int i2), .val (.int p1), .val (.int p2), .val (.ref m1), .val (.ref m2), .val (.ref s1), .val (.ref s2), .val (.ref s3), .val (.ref s4), .val (.ref x1), .val (.ref x2), .val (.int (0 : Int32)), .val (.int (0 : Int32))] [(.int (if (own_bytes k0 k1 k2) = (own_bytes j0 j1 j2) ∧ (own_bytes n0 n1 n2) = (own_bytes i0 i1 i2) ∧ m1 = m2 then 1 else 0))]
          refine w.iload d0_418 rfl ?_
          refine w.icmpNe d0_420 d0_420t (fun q => absurd (own_eqN hb1 hb2 hm (fun e => r3 e.2.2)) q) (fun _ => ?_)
          refine w.aload d0_423 rfl rfl ?_
          refine w.aload d0_425 rfl rfl ?_
          refine w.callV (argsL := [(.ref x1)]) (rest := []) 0 d0_427 (tw hw 54 rfl) (tw hw 55 rfl) (tw hw 57 rfl) (tw hw 56 rfl) (tw hw 33 rfl) (tw hw 58 rfl) (by decide) EE_x2 (rmE l Z a0 hw hr x2 x1 s3 s4 m2 s1 s2 m1 t_s3 t_s4 t_s1 t_s2 _ _ _ _ h8 w.old F39 F0_x2 F1_x2 F2_x2 F37 F38 F40 F41 F42 F35 F36) (lenOf pd_7 rfl) rfl rfl (Nat.le_refl _) ⟨by decide, by decide, by decide, by decide⟩ all0 ?_
          intro T h16 r w _ hQ
          obtain ⟨rfl, rfl⟩ := hQ
          show Go cx _ Z _ _ _ T 430 #[.val (.int v0), .val (.int v1), .val (.int v2), .val (.int v3), .val (.int v4), .val (.int v5), .val (.int k0), .val (.int k1), .val (.int k2), .val (.int n0), .val (.int n1), .val (.int n2), .val (.int j0), .val (.int j1), .val (.int j2), .val (.int i0), .val (.int i1), .val (.int i2), .val (.int p1), .val (.int p2), .val (.ref m1), .val (.ref m2), .val (.ref s1), .val (.ref s2), .val (.ref s3), .val (.ref s4), .val (.ref x1), .val (.ref x2), .val (.int (0 : Int32)), .val (.int (0 : Int32))] [(.int (if (own_bytes j0 j1 j2) = (own_bytes k0 k1 k2) ∧ (own_bytes i0 i1 i2) = (own_bytes n0 n1 n2) ∧ m2 = m1 then 1 else 0))]
          refine w.iload d0_430 rfl ?_
          refine w.icmpNe d0_432 d0_432t (fun q => absurd (own_eqN' hb1 hb2 hm (fun e => r3 e.2.2)) q) (fun _ => ?_)
          refine w.iconst (1 : Int32) d0_435 rfl ?_
          refine w.goto d0_436 d0_436t ?_
          exact w.retN d0_440 rfl (by simp) rfl
        · refine w.iconst (1 : Int32) d0_404 rfl ?_
          refine w.goto d0_405 d0_405t ?_
          refine w.istore #[.val (.int v0), .val (.int v1), .val (.int v2), .val (.int v3), .val (.int v4), .val (.int v5), .val (.int k0), .val (.int k1), .val (.int k2), .val (.int n0), .val (.int n1), .val (.int n2), .val (.int j0), .val (.int j1), .val (.int j2), .val (.int i0), .val (.int i1), .val (.int i2), .val (.int p1), .val (.int p2), .val (.ref m1), .val (.ref m2), .val (.ref s1), .val (.ref s2), .val (.ref s3), .val (.ref s4), .val (.ref x1), .val (.ref x2), .val (.int (0 : Int32)), .val (.int (1 : Int32))] d0_409 rfl ?_
          refine w.aload d0_411 rfl rfl ?_
          refine w.aload d0_413 rfl rfl ?_
          refine w.callV (argsL := [(.ref x2)]) (rest := []) 0 d0_415 (tw hw 54 rfl) (tw hw 55 rfl) (tw hw 57 rfl) (tw hw 56 rfl) (tw hw 33 rfl) (tw hw 58 rfl) (by decide) F39 (rmE l Z a0 hw hr x1 x2 s1 s2 m1 s3 s4 m2 t_s1 t_s2 t_s3 t_s4 _ _ _ _ h8 w.old EE_x2 F40 F41 F42 F35 F36 F0_x2 F1_x2 F2_x2 F37 F38) (lenOf pd_7 rfl) rfl rfl (Nat.le_refl _) ⟨by decide, by decide, by decide, by decide⟩ all0 ?_
          intro T h17 r w _ hQ
          obtain ⟨rfl, rfl⟩ := hQ
          show Go cx _ Z _ _ _ T 418 #[.val (.int v0), .val (.int v1), .val (.int v2), .val (.int v3), .val (.int v4), .val (.int v5), .val (.int k0), .val (.int k1), .val (.int k2), .val (.int n0), .val (.int n1), .val (.int n2), .val (.int j0), .val (.int j1), .val (.int j2), .val (.int i0), .val (.int i1), .val (.int i2), .val (.int p1), .val (.int p2), .val (.ref m1), .val (.ref m2), .val (.ref s1), .val (.ref s2), .val (.ref s3), .val (.ref s4), .val (.ref x1), .val (.ref x2), .val (.int (0 : Int32)), .val (.int (1 : Int32))] [(.int (if (own_bytes k0 k1 k2) = (own_bytes j0 j1 j2) ∧ (own_bytes n0 n1 n2) = (own_bytes i0 i1 i2) ∧ m1 = m2 then 1 else 0))]
          refine w.iload d0_418 rfl ?_
          refine w.icmpNe d0_420 d0_420t (fun q => absurd (own_eqY hb1 hb2 hm ⟨r1, r2, r3⟩) q) (fun _ => ?_)
          refine w.aload d0_423 rfl rfl ?_
          refine w.aload d0_425 rfl rfl ?_
          refine w.callV (argsL := [(.ref x1)]) (rest := []) 0 d0_427 (tw hw 54 rfl) (tw hw 55 rfl) (tw hw 57 rfl) (tw hw 56 rfl) (tw hw 33 rfl) (tw hw 58 rfl) (by decide) EE_x2 (rmE l Z a0 hw hr x2 x1 s3 s4 m2 s1 s2 m1 t_s3 t_s4 t_s1 t_s2 _ _ _ _ h8 w.old F39 F0_x2 F1_x2 F2_x2 F37 F38 F40 F41 F42 F35 F36) (lenOf pd_7 rfl) rfl rfl (Nat.le_refl _) ⟨by decide, by decide, by decide, by decide⟩ all0 ?_
          intro T h18 r w _ hQ
          obtain ⟨rfl, rfl⟩ := hQ
          show Go cx _ Z _ _ _ T 430 #[.val (.int v0), .val (.int v1), .val (.int v2), .val (.int v3), .val (.int v4), .val (.int v5), .val (.int k0), .val (.int k1), .val (.int k2), .val (.int n0), .val (.int n1), .val (.int n2), .val (.int j0), .val (.int j1), .val (.int j2), .val (.int i0), .val (.int i1), .val (.int i2), .val (.int p1), .val (.int p2), .val (.ref m1), .val (.ref m2), .val (.ref s1), .val (.ref s2), .val (.ref s3), .val (.ref s4), .val (.ref x1), .val (.ref x2), .val (.int (0 : Int32)), .val (.int (1 : Int32))] [(.int (if (own_bytes j0 j1 j2) = (own_bytes k0 k1 k2) ∧ (own_bytes i0 i1 i2) = (own_bytes n0 n1 n2) ∧ m2 = m1 then 1 else 0))]
          refine w.iload d0_430 rfl ?_
          refine w.icmpNe d0_432 d0_432t (fun q => absurd (own_eqY' hb1 hb2 hm ⟨r1, r2, r3⟩) q) (fun _ => ?_)
          refine w.iconst (1 : Int32) d0_435 rfl ?_
          refine w.goto d0_436 d0_436t ?_
          exact w.retN d0_440 rfl (by simp) rfl
  · show Go cx _ Z _ _ _ T 300 #[.val (.int v0), .val (.int v1), .val (.int v2), .val (.int v3), .val (.int v4), .val (.int v5), .val (.int k0), .val (.int k1), .val (.int k2), .val (.int n0), .val (.int n1), .val (.int n2), .val (.int j0), .val (.int j1), .val (.int j2), .val (.int i0), .val (.int i1), .val (.int i2), .val (.int p1), .val (.int p2), .val (.ref m1), .val (.ref m2), .val (.ref s1), .val (.ref s2), .val (.ref s3), .val (.ref s4), .val (.ref x1), .val (.ref x2), .val (.int (1 : Int32)), .unset] []
    refine w.iload d0_300 rfl ?_
    refine w.iconst (1 : Int32) d0_302 rfl ?_
    refine w.icmpNe d0_303 d0_303t (fun q => absurd (by decide) q) (fun _ => ?_)
    refine w.aload d0_306 rfl rfl ?_
    refine w.aconstNull d0_308 ?_
    refine w.callV (argsL := [.null]) (rest := []) 0 d0_309 (tw hw 54 rfl) (tw hw 55 rfl) (tw hw 57 rfl) (tw hw 56 rfl) (tw hw 33 rfl) (tw hw 58 rfl) (by decide) F39 (rmEn l Z a0 hw x1 h8 w.old) (lenOf pd_7 rfl) rfl rfl (Nat.le_refl _) ⟨by decide, by decide, by decide, by decide⟩ all0 ?_
    intro T h19 r w _ hQ
    obtain ⟨rfl, rfl⟩ := hQ
    show Go cx _ Z _ _ _ T 312 #[.val (.int v0), .val (.int v1), .val (.int v2), .val (.int v3), .val (.int v4), .val (.int v5), .val (.int k0), .val (.int k1), .val (.int k2), .val (.int n0), .val (.int n1), .val (.int n2), .val (.int j0), .val (.int j1), .val (.int j2), .val (.int i0), .val (.int i1), .val (.int i2), .val (.int p1), .val (.int p2), .val (.ref m1), .val (.ref m2), .val (.ref s1), .val (.ref s2), .val (.ref s3), .val (.ref s4), .val (.ref x1), .val (.ref x2), .val (.int (1 : Int32)), .unset] [(.int (0 : Int32))]
    refine w.ifNe d0_312 d0_312t (fun q => absurd rfl q) (fun _ => ?_)
    refine w.iconst (1 : Int32) d0_315 rfl ?_
    refine w.goto d0_316 d0_316t ?_
    exact w.retN d0_320 rfl (by simp) rfl
  · show Go cx _ Z _ _ _ T 300 #[.val (.int v0), .val (.int v1), .val (.int v2), .val (.int v3), .val (.int v4), .val (.int v5), .val (.int k0), .val (.int k1), .val (.int k2), .val (.int n0), .val (.int n1), .val (.int n2), .val (.int j0), .val (.int j1), .val (.int j2), .val (.int i0), .val (.int i1), .val (.int i2), .val (.int p1), .val (.int p2), .val (.ref m1), .val (.ref m2), .val (.ref s1), .val (.ref s2), .val (.ref s3), .val (.ref s4), .val (.ref x1), .val (.ref x2), .val (.int (2 : Int32)), .unset] []
    refine w.iload d0_300 rfl ?_
    refine w.iconst (1 : Int32) d0_302 rfl ?_
    refine w.icmpNe d0_303 d0_303t (fun _ => ?_) (fun q => absurd q (by decide))
    refine w.iload d0_321 rfl ?_
    refine w.iconst (2 : Int32) d0_323 rfl ?_
    refine w.icmpNe d0_324 d0_324t (fun q => absurd (by decide) q) (fun _ => ?_)
    refine w.aload d0_327 rfl rfl ?_
    refine w.astore #[.val (.int v0), .val (.int v1), .val (.int v2), .val (.int v3), .val (.int v4), .val (.int v5), .val (.int k0), .val (.int k1), .val (.int k2), .val (.int n0), .val (.int n1), .val (.int n2), .val (.int j0), .val (.int j1), .val (.int j2), .val (.int i0), .val (.int i1), .val (.int i2), .val (.int p1), .val (.int p2), .val (.ref m1), .val (.ref m2), .val (.ref s1), .val (.ref s2), .val (.ref s3), .val (.ref s4), .val (.ref x1), .val (.ref x2), .val (.int (2 : Int32)), .val (.ref s1)] d0_329 rfl rfl ?_
    refine w.aload d0_331 rfl rfl ?_
    refine w.aload d0_333 rfl rfl ?_
    refine w.callV (argsL := [(.ref s1)]) (rest := []) 0 d0_335 (tw hw 54 rfl) (tw hw 55 rfl) (tw hw 57 rfl) (tw hw 56 rfl) (tw hw 33 rfl) (tw hw 58 rfl) (by decide) F39 (rmEo l Z a0 hw x1 s1 h8 w.old F35.1) (lenOf pd_7 rfl) rfl rfl (Nat.le_refl _) ⟨by decide, by decide, by decide, by decide⟩ all0 ?_
    intro T h20 r w _ hQ
    obtain ⟨rfl, rfl⟩ := hQ
    show Go cx _ Z _ _ _ T 338 #[.val (.int v0), .val (.int v1), .val (.int v2), .val (.int v3), .val (.int v4), .val (.int v5), .val (.int k0), .val (.int k1), .val (.int k2), .val (.int n0), .val (.int n1), .val (.int n2), .val (.int j0), .val (.int j1), .val (.int j2), .val (.int i0), .val (.int i1), .val (.int i2), .val (.int p1), .val (.int p2), .val (.ref m1), .val (.ref m2), .val (.ref s1), .val (.ref s2), .val (.ref s3), .val (.ref s4), .val (.ref x1), .val (.ref x2), .val (.int (2 : Int32)), .val (.ref s1)] [(.int (0 : Int32))]
    refine w.ifNe d0_338 d0_338t (fun q => absurd rfl q) (fun _ => ?_)
    refine w.iconst (1 : Int32) d0_341 rfl ?_
    refine w.goto d0_342 d0_342t ?_
    exact w.retN d0_346 rfl (by simp) rfl
  · show Go cx _ Z _ _ _ T 300 #[.val (.int v0), .val (.int v1), .val (.int v2), .val (.int v3), .val (.int v4), .val (.int v5), .val (.int k0), .val (.int k1), .val (.int k2), .val (.int n0), .val (.int n1), .val (.int n2), .val (.int j0), .val (.int j1), .val (.int j2), .val (.int i0), .val (.int i1), .val (.int i2), .val (.int p1), .val (.int p2), .val (.ref m1), .val (.ref m2), .val (.ref s1), .val (.ref s2), .val (.ref s3), .val (.ref s4), .val (.ref x1), .val (.ref x2), .val (.int (3 : Int32)), .unset] []
    refine w.iload d0_300 rfl ?_
    refine w.iconst (1 : Int32) d0_302 rfl ?_
    refine w.icmpNe d0_303 d0_303t (fun _ => ?_) (fun q => absurd q (by decide))
    refine w.iload d0_321 rfl ?_
    refine w.iconst (2 : Int32) d0_323 rfl ?_
    refine w.icmpNe d0_324 d0_324t (fun _ => ?_) (fun q => absurd q (by decide))
    refine w.iload d0_347 rfl ?_
    refine w.iconst (3 : Int32) d0_349 rfl ?_
    refine w.icmpNe d0_350 d0_350t (fun q => absurd (by decide) q) (fun _ => ?_)
    refine w.aload d0_353 rfl rfl ?_
    refine w.aload d0_355 rfl rfl ?_
    refine w.callV (argsL := [(.ref x1)]) (rest := []) 0 d0_357 (tw hw 54 rfl) (tw hw 55 rfl) (tw hw 57 rfl) (tw hw 56 rfl) (tw hw 33 rfl) (tw hw 58 rfl) (by decide) F39 (rmE l Z a0 hw hr x1 x1 s1 s2 m1 s1 s2 m1 t_s1 t_s2 t_s1 t_s2 _ _ _ _ h8 w.old F39 F40 F41 F42 F35 F36 F40 F41 F42 F35 F36) (lenOf pd_7 rfl) rfl rfl (Nat.le_refl _) ⟨by decide, by decide, by decide, by decide⟩ all0 ?_
    intro T h21 r w _ hQ
    obtain ⟨rfl, rfl⟩ := hQ
    show Go cx _ Z _ _ _ T 360 #[.val (.int v0), .val (.int v1), .val (.int v2), .val (.int v3), .val (.int v4), .val (.int v5), .val (.int k0), .val (.int k1), .val (.int k2), .val (.int n0), .val (.int n1), .val (.int n2), .val (.int j0), .val (.int j1), .val (.int j2), .val (.int i0), .val (.int i1), .val (.int i2), .val (.int p1), .val (.int p2), .val (.ref m1), .val (.ref m2), .val (.ref s1), .val (.ref s2), .val (.ref s3), .val (.ref s4), .val (.ref x1), .val (.ref x2), .val (.int (3 : Int32)), .unset] [(.int (if (own_bytes k0 k1 k2) = (own_bytes k0 k1 k2) ∧ (own_bytes n0 n1 n2) = (own_bytes n0 n1 n2) ∧ m1 = m1 then 1 else 0))]
    rw [if_pos ⟨rfl, rfl, rfl⟩]
    exact w.retN d0_360 rfl (by simp) rfl

set_option maxRecDepth 65536 in
set_option maxHeartbeats 40000000 in
theorem pc162 (l : Launch) (Z : State) (a0 : Array Value) (hw : ∀ d ∈ tables_1, d.before a0 Z = true) (hr : rest_1_c.value a0 Z none Z [] = some true) (hn : narrow_1.value a0 Z none Z [] = some true) (v0 v1 v2 v3 v4 v5 k0 k1 k2 n0 n1 n2 j0 j1 j2 i0 i1 i2 : Int32) (o1 : (own_ok k0 k1 k2)) (o2 : (own_ok n0 n1 n2)) (o3 : (own_ok j0 j1 j2)) (o4 : (own_ok i0 i1 i2)) (h0 : Heap) (cx : Cx) (T : State) (w : W cx true l Z consts_1 room_1 (MethodName.cls x) code maxLocals ret (MethodName.name x) T h0 (0) (0) []) :
    Go cx true Z consts_1 room_1 (fun v _ => v = some (.int 1)) T 162 #[.val (.int v0), .val (.int v1), .val (.int v2), .val (.int v3), .val (.int v4), .val (.int v5), .val (.int k0), .val (.int k1), .val (.int k2), .val (.int n0), .val (.int n1), .val (.int n2), .val (.int j0), .val (.int j1), .val (.int j2), .val (.int i0), .val (.int i1), .val (.int i2), .unset, .unset, .unset, .unset, .unset, .unset, .unset, .unset, .unset, .unset, .unset, .unset] [] := by
  refine w.iloadN d0_162 rfl ?_
  refine w.iconst (1 : Int32) d0_163 rfl ?_
  refine w.iand d0_164 ?_
  refine w.ifEq d0_165 d0_165t (fun q1 => ?_) (fun q1 => ?_)
  · refine w.iconst (0 : Int32) d0_172 rfl ?_
    refine w.istore #[.val (.int v0), .val (.int v1), .val (.int v2), .val (.int v3), .val (.int v4), .val (.int v5), .val (.int k0), .val (.int k1), .val (.int k2), .val (.int n0), .val (.int n1), .val (.int n2), .val (.int j0), .val (.int j1), .val (.int j2), .val (.int i0), .val (.int i1), .val (.int i2), .val (.int (0 : Int32)), .unset, .unset, .unset, .unset, .unset, .unset, .unset, .unset, .unset, .unset, .unset] d0_173 rfl ?_
    refine w.iloadN d0_175 rfl ?_
    refine w.iconst (2 : Int32) d0_176 rfl ?_
    refine w.iand d0_177 ?_
    refine w.ifEq d0_178 d0_178t (fun q2 => ?_) (fun q2 => ?_)
    · refine w.iconst (0 : Int32) d0_185 rfl ?_
      refine w.istore #[.val (.int v0), .val (.int v1), .val (.int v2), .val (.int v3), .val (.int v4), .val (.int v5), .val (.int k0), .val (.int k1), .val (.int k2), .val (.int n0), .val (.int n1), .val (.int n2), .val (.int j0), .val (.int j1), .val (.int j2), .val (.int i0), .val (.int i1), .val (.int i2), .val (.int (0 : Int32)), .val (.int (0 : Int32)), .unset, .unset, .unset, .unset, .unset, .unset, .unset, .unset, .unset, .unset] d0_186 rfl ?_
      refine w.iload d0_188 rfl ?_
      refine w.ifEq d0_190 d0_190t (fun _ => ?_) (fun q => absurd (by decide) q)
      refine w.getS d0_199 (tw hw 0 rfl) (s_FULL hw hn).2.1 ?_
      intro T w
      refine w.astore #[.val (.int v0), .val (.int v1), .val (.int v2), .val (.int v3), .val (.int v4), .val (.int v5), .val (.int k0), .val (.int k1), .val (.int k2), .val (.int n0), .val (.int n1), .val (.int n2), .val (.int j0), .val (.int j1), .val (.int j2), .val (.int i0), .val (.int i1), .val (.int i2), .val (.int (0 : Int32)), .val (.int (0 : Int32)), .val (.ref (A_FULL Z a0)), .unset, .unset, .unset, .unset, .unset, .unset, .unset, .unset, .unset] d0_202 rfl rfl ?_
      refine w.iload d0_204 rfl ?_
      refine w.ifEq d0_206 d0_206t (fun _ => ?_) (fun q => absurd (by decide) q)
      refine w.getS d0_215 (tw hw 0 rfl) (s_FULL hw hn).2.1 ?_
      intro T w
      refine w.astore #[.val (.int v0), .val (.int v1), .val (.int v2), .val (.int v3), .val (.int v4), .val (.int v5), .val (.int k0), .val (.int k1), .val (.int k2), .val (.int n0), .val (.int n1), .val (.int n2), .val (.int j0), .val (.int j1), .val (.int j2), .val (.int i0), .val (.int i1), .val (.int i2), .val (.int (0 : Int32)), .val (.int (0 : Int32)), .val (.ref (A_FULL Z a0)), .val (.ref (A_FULL Z a0)), .unset, .unset, .unset, .unset, .unset, .unset, .unset, .unset] d0_218 rfl rfl ?_
      exact pc220 l Z a0 hw hr hn v0 v1 v2 v3 v4 v5 k0 k1 k2 n0 n1 n2 j0 j1 j2 i0 i1 i2 o1 o2 o3 o4 _ _ (A_FULL Z a0) (A_FULL Z a0) ⟨fun _ => rfl, fun _ => rfl⟩ (s_FULL hw hn).2.2 (s_FULL hw hn).2.2 h0 cx T w
    · refine w.iconst (1 : Int32) d0_181 rfl ?_
      refine w.goto d0_182 d0_182t ?_
      refine w.istore #[.val (.int v0), .val (.int v1), .val (.int v2), .val (.int v3), .val (.int v4), .val (.int v5), .val (.int k0), .val (.int k1), .val (.int k2), .val (.int n0), .val (.int n1), .val (.int n2), .val (.int j0), .val (.int j1), .val (.int j2), .val (.int i0), .val (.int i1), .val (.int i2), .val (.int (0 : Int32)), .val (.int (1 : Int32)), .unset, .unset, .unset, .unset, .unset, .unset, .unset, .unset, .unset, .unset] d0_186 rfl ?_
      refine w.iload d0_188 rfl ?_
      refine w.ifEq d0_190 d0_190t (fun _ => ?_) (fun q => absurd (by decide) q)
      refine w.getS d0_199 (tw hw 0 rfl) (s_FULL hw hn).2.1 ?_
      intro T w
      refine w.astore #[.val (.int v0), .val (.int v1), .val (.int v2), .val (.int v3), .val (.int v4), .val (.int v5), .val (.int k0), .val (.int k1), .val (.int k2), .val (.int n0), .val (.int n1), .val (.int n2), .val (.int j0), .val (.int j1), .val (.int j2), .val (.int i0), .val (.int i1), .val (.int i2), .val (.int (0 : Int32)), .val (.int (1 : Int32)), .val (.ref (A_FULL Z a0)), .unset, .unset, .unset, .unset, .unset, .unset, .unset, .unset, .unset] d0_202 rfl rfl ?_
      refine w.iload d0_204 rfl ?_
      refine w.ifEq d0_206 d0_206t (fun q => absurd q (by decide)) (fun _ => ?_)
      refine w.getS d0_209 (tw hw 3 rfl) (s_PARTIAL hw hn).2.1 ?_
      intro T w
      refine w.goto d0_212 d0_212t ?_
      refine w.astore #[.val (.int v0), .val (.int v1), .val (.int v2), .val (.int v3), .val (.int v4), .val (.int v5), .val (.int k0), .val (.int k1), .val (.int k2), .val (.int n0), .val (.int n1), .val (.int n2), .val (.int j0), .val (.int j1), .val (.int j2), .val (.int i0), .val (.int i1), .val (.int i2), .val (.int (0 : Int32)), .val (.int (1 : Int32)), .val (.ref (A_FULL Z a0)), .val (.ref (A_PARTIAL Z a0)), .unset, .unset, .unset, .unset, .unset, .unset, .unset, .unset] d0_218 rfl rfl ?_
      exact pc220 l Z a0 hw hr hn v0 v1 v2 v3 v4 v5 k0 k1 k2 n0 n1 n2 j0 j1 j2 i0 i1 i2 o1 o2 o3 o4 _ _ (A_FULL Z a0) (A_PARTIAL Z a0) ⟨fun e => absurd e (Ne.symm (own_pf hw hn)), fun e => absurd e (by decide)⟩ (s_FULL hw hn).2.2 (s_PARTIAL hw hn).2.2 h0 cx T w
  · refine w.iconst (1 : Int32) d0_168 rfl ?_
    refine w.goto d0_169 d0_169t ?_
    refine w.istore #[.val (.int v0), .val (.int v1), .val (.int v2), .val (.int v3), .val (.int v4), .val (.int v5), .val (.int k0), .val (.int k1), .val (.int k2), .val (.int n0), .val (.int n1), .val (.int n2), .val (.int j0), .val (.int j1), .val (.int j2), .val (.int i0), .val (.int i1), .val (.int i2), .val (.int (1 : Int32)), .unset, .unset, .unset, .unset, .unset, .unset, .unset, .unset, .unset, .unset, .unset] d0_173 rfl ?_
    refine w.iloadN d0_175 rfl ?_
    refine w.iconst (2 : Int32) d0_176 rfl ?_
    refine w.iand d0_177 ?_
    refine w.ifEq d0_178 d0_178t (fun q2 => ?_) (fun q2 => ?_)
    · refine w.iconst (0 : Int32) d0_185 rfl ?_
      refine w.istore #[.val (.int v0), .val (.int v1), .val (.int v2), .val (.int v3), .val (.int v4), .val (.int v5), .val (.int k0), .val (.int k1), .val (.int k2), .val (.int n0), .val (.int n1), .val (.int n2), .val (.int j0), .val (.int j1), .val (.int j2), .val (.int i0), .val (.int i1), .val (.int i2), .val (.int (1 : Int32)), .val (.int (0 : Int32)), .unset, .unset, .unset, .unset, .unset, .unset, .unset, .unset, .unset, .unset] d0_186 rfl ?_
      refine w.iload d0_188 rfl ?_
      refine w.ifEq d0_190 d0_190t (fun q => absurd q (by decide)) (fun _ => ?_)
      refine w.getS d0_193 (tw hw 3 rfl) (s_PARTIAL hw hn).2.1 ?_
      intro T w
      refine w.goto d0_196 d0_196t ?_
      refine w.astore #[.val (.int v0), .val (.int v1), .val (.int v2), .val (.int v3), .val (.int v4), .val (.int v5), .val (.int k0), .val (.int k1), .val (.int k2), .val (.int n0), .val (.int n1), .val (.int n2), .val (.int j0), .val (.int j1), .val (.int j2), .val (.int i0), .val (.int i1), .val (.int i2), .val (.int (1 : Int32)), .val (.int (0 : Int32)), .val (.ref (A_PARTIAL Z a0)), .unset, .unset, .unset, .unset, .unset, .unset, .unset, .unset, .unset] d0_202 rfl rfl ?_
      refine w.iload d0_204 rfl ?_
      refine w.ifEq d0_206 d0_206t (fun _ => ?_) (fun q => absurd (by decide) q)
      refine w.getS d0_215 (tw hw 0 rfl) (s_FULL hw hn).2.1 ?_
      intro T w
      refine w.astore #[.val (.int v0), .val (.int v1), .val (.int v2), .val (.int v3), .val (.int v4), .val (.int v5), .val (.int k0), .val (.int k1), .val (.int k2), .val (.int n0), .val (.int n1), .val (.int n2), .val (.int j0), .val (.int j1), .val (.int j2), .val (.int i0), .val (.int i1), .val (.int i2), .val (.int (1 : Int32)), .val (.int (0 : Int32)), .val (.ref (A_PARTIAL Z a0)), .val (.ref (A_FULL Z a0)), .unset, .unset, .unset, .unset, .unset, .unset, .unset, .unset] d0_218 rfl rfl ?_
      exact pc220 l Z a0 hw hr hn v0 v1 v2 v3 v4 v5 k0 k1 k2 n0 n1 n2 j0 j1 j2 i0 i1 i2 o1 o2 o3 o4 _ _ (A_PARTIAL Z a0) (A_FULL Z a0) ⟨fun e => absurd e (own_pf hw hn), fun e => absurd e (by decide)⟩ (s_PARTIAL hw hn).2.2 (s_FULL hw hn).2.2 h0 cx T w
    · refine w.iconst (1 : Int32) d0_181 rfl ?_
      refine w.goto d0_182 d0_182t ?_
      refine w.istore #[.val (.int v0), .val (.int v1), .val (.int v2), .val (.int v3), .val (.int v4), .val (.int v5), .val (.int k0), .val (.int k1), .val (.int k2), .val (.int n0), .val (.int n1), .val (.int n2), .val (.int j0), .val (.int j1), .val (.int j2), .val (.int i0), .val (.int i1), .val (.int i2), .val (.int (1 : Int32)), .val (.int (1 : Int32)), .unset, .unset, .unset, .unset, .unset, .unset, .unset, .unset, .unset, .unset] d0_186 rfl ?_
      refine w.iload d0_188 rfl ?_
      refine w.ifEq d0_190 d0_190t (fun q => absurd q (by decide)) (fun _ => ?_)
      refine w.getS d0_193 (tw hw 3 rfl) (s_PARTIAL hw hn).2.1 ?_
      intro T w
      refine w.goto d0_196 d0_196t ?_
      refine w.astore #[.val (.int v0), .val (.int v1), .val (.int v2), .val (.int v3), .val (.int v4), .val (.int v5), .val (.int k0), .val (.int k1), .val (.int k2), .val (.int n0), .val (.int n1), .val (.int n2), .val (.int j0), .val (.int j1), .val (.int j2), .val (.int i0), .val (.int i1), .val (.int i2), .val (.int (1 : Int32)), .val (.int (1 : Int32)), .val (.ref (A_PARTIAL Z a0)), .unset, .unset, .unset, .unset, .unset, .unset, .unset, .unset, .unset] d0_202 rfl rfl ?_
      refine w.iload d0_204 rfl ?_
      refine w.ifEq d0_206 d0_206t (fun q => absurd q (by decide)) (fun _ => ?_)
      refine w.getS d0_209 (tw hw 3 rfl) (s_PARTIAL hw hn).2.1 ?_
      intro T w
      refine w.goto d0_212 d0_212t ?_
      refine w.astore #[.val (.int v0), .val (.int v1), .val (.int v2), .val (.int v3), .val (.int v4), .val (.int v5), .val (.int k0), .val (.int k1), .val (.int k2), .val (.int n0), .val (.int n1), .val (.int n2), .val (.int j0), .val (.int j1), .val (.int j2), .val (.int i0), .val (.int i1), .val (.int i2), .val (.int (1 : Int32)), .val (.int (1 : Int32)), .val (.ref (A_PARTIAL Z a0)), .val (.ref (A_PARTIAL Z a0)), .unset, .unset, .unset, .unset, .unset, .unset, .unset, .unset] d0_218 rfl rfl ?_
      exact pc220 l Z a0 hw hr hn v0 v1 v2 v3 v4 v5 k0 k1 k2 n0 n1 n2 j0 j1 j2 i0 i1 i2 o1 o2 o3 o4 _ _ (A_PARTIAL Z a0) (A_PARTIAL Z a0) ⟨fun _ => rfl, fun _ => rfl⟩ (s_PARTIAL hw hn).2.2 (s_PARTIAL hw hn).2.2 h0 cx T w

set_option maxRecDepth 65536 in
set_option maxHeartbeats 40000000 in
theorem pc107 (l : Launch) (Z : State) (a0 : Array Value) (hw : ∀ d ∈ tables_1, d.before a0 Z = true) (hr : rest_1_c.value a0 Z none Z [] = some true) (hn : narrow_1.value a0 Z none Z [] = some true) (v0 v1 v2 v3 v4 v5 k0 k1 k2 n0 n1 n2 j0 j1 j2 : Int32) (o1 : (own_ok k0 k1 k2)) (o2 : (own_ok n0 n1 n2)) (o3 : (own_ok j0 j1 j2)) (h0 : Heap) (cx : Cx) (T : State) (w : W cx true l Z consts_1 room_1 (MethodName.cls x) code maxLocals ret (MethodName.name x) T h0 (0) (0) []) :
    Go cx true Z consts_1 room_1 (fun v _ => v = some (.int 1)) T 107 #[.val (.int v0), .val (.int v1), .val (.int v2), .val (.int v3), .val (.int v4), .val (.int v5), .val (.int k0), .val (.int k1), .val (.int k2), .val (.int n0), .val (.int n1), .val (.int n2), .val (.int j0), .val (.int j1), .val (.int j2), .unset, .unset, .unset, .unset, .unset, .unset, .unset, .unset, .unset, .unset, .unset, .unset, .unset, .unset, .unset] [] := by
  refine w.iload d0_107 rfl ?_
  refine w.iconst (1 : Int32) d0_109 rfl ?_
  refine w.iand d0_110 ?_
  refine w.ifEq d0_111 d0_111t (fun q1 => ?_) (fun q1 => ?_)
  · refine w.iload d0_129 rfl ?_
    refine w.iconst (1 : Int32) d0_131 rfl ?_
    refine w.iushr d0_132 ?_
    refine w.iconst (3 : Int32) d0_133 rfl ?_
    refine w.iand d0_134 ?_
    refine w.iconst (3 : Int32) d0_135 rfl ?_
    refine w.irem d0_136 (by decide) ?_
    refine w.istore #[.val (.int v0), .val (.int v1), .val (.int v2), .val (.int v3), .val (.int v4), .val (.int v5), .val (.int k0), .val (.int k1), .val (.int k2), .val (.int n0), .val (.int n1), .val (.int n2), .val (.int j0), .val (.int j1), .val (.int j2), .val (.int (((XT.ushr v4 (1 : Int32)) &&& (3 : Int32)) % (3 : Int32))), .unset, .unset, .unset, .unset, .unset, .unset, .unset, .unset, .unset, .unset, .unset, .unset, .unset, .unset] d0_137 rfl ?_
    refine w.iload d0_139 rfl ?_
    refine w.iconst (3 : Int32) d0_141 rfl ?_
    refine w.iushr d0_142 ?_
    refine w.sipush (255 : Int32) d0_143 rfl ?_
    refine w.iand d0_146 ?_
    refine w.i2c d0_147 ?_
    refine w.istore #[.val (.int v0), .val (.int v1), .val (.int v2), .val (.int v3), .val (.int v4), .val (.int v5), .val (.int k0), .val (.int k1), .val (.int k2), .val (.int n0), .val (.int n1), .val (.int n2), .val (.int j0), .val (.int j1), .val (.int j2), .val (.int (((XT.ushr v4 (1 : Int32)) &&& (3 : Int32)) % (3 : Int32))), .val (.int (nar .char ((XT.ushr v4 (3 : Int32)) &&& (255 : Int32)))), .unset, .unset, .unset, .unset, .unset, .unset, .unset, .unset, .unset, .unset, .unset, .unset, .unset] d0_148 rfl ?_
    refine w.iload d0_150 rfl ?_
    refine w.bipush (11 : Int32) d0_152 rfl ?_
    refine w.iushr d0_154 ?_
    refine w.sipush (255 : Int32) d0_155 rfl ?_
    refine w.iand d0_158 ?_
    refine w.i2c d0_159 ?_
    refine w.istore #[.val (.int v0), .val (.int v1), .val (.int v2), .val (.int v3), .val (.int v4), .val (.int v5), .val (.int k0), .val (.int k1), .val (.int k2), .val (.int n0), .val (.int n1), .val (.int n2), .val (.int j0), .val (.int j1), .val (.int j2), .val (.int (((XT.ushr v4 (1 : Int32)) &&& (3 : Int32)) % (3 : Int32))), .val (.int (nar .char ((XT.ushr v4 (3 : Int32)) &&& (255 : Int32)))), .val (.int (nar .char ((XT.ushr v4 (11 : Int32)) &&& (255 : Int32)))), .unset, .unset, .unset, .unset, .unset, .unset, .unset, .unset, .unset, .unset, .unset, .unset] d0_160 rfl ?_
    exact pc162 l Z a0 hw hr hn v0 v1 v2 v3 v4 v5 k0 k1 k2 n0 n1 n2 j0 j1 j2 (((XT.ushr v4 (1 : Int32)) &&& (3 : Int32)) % (3 : Int32)) (nar .char ((XT.ushr v4 (3 : Int32)) &&& (255 : Int32))) (nar .char ((XT.ushr v4 (11 : Int32)) &&& (255 : Int32))) o1 o2 o3 (own_okd _ _ _) h0 cx T w
  · refine w.iload d0_114 rfl ?_
    refine w.istore #[.val (.int v0), .val (.int v1), .val (.int v2), .val (.int v3), .val (.int v4), .val (.int v5), .val (.int k0), .val (.int k1), .val (.int k2), .val (.int n0), .val (.int n1), .val (.int n2), .val (.int j0), .val (.int j1), .val (.int j2), .val (.int n0), .unset, .unset, .unset, .unset, .unset, .unset, .unset, .unset, .unset, .unset, .unset, .unset, .unset, .unset] d0_116 rfl ?_
    refine w.iload d0_118 rfl ?_
    refine w.istore #[.val (.int v0), .val (.int v1), .val (.int v2), .val (.int v3), .val (.int v4), .val (.int v5), .val (.int k0), .val (.int k1), .val (.int k2), .val (.int n0), .val (.int n1), .val (.int n2), .val (.int j0), .val (.int j1), .val (.int j2), .val (.int n0), .val (.int n1), .unset, .unset, .unset, .unset, .unset, .unset, .unset, .unset, .unset, .unset, .unset, .unset, .unset] d0_120 rfl ?_
    refine w.iload d0_122 rfl ?_
    refine w.istore #[.val (.int v0), .val (.int v1), .val (.int v2), .val (.int v3), .val (.int v4), .val (.int v5), .val (.int k0), .val (.int k1), .val (.int k2), .val (.int n0), .val (.int n1), .val (.int n2), .val (.int j0), .val (.int j1), .val (.int j2), .val (.int n0), .val (.int n1), .val (.int n2), .unset, .unset, .unset, .unset, .unset, .unset, .unset, .unset, .unset, .unset, .unset, .unset] d0_124 rfl ?_
    refine w.goto d0_126 d0_126t ?_
    exact pc162 l Z a0 hw hr hn v0 v1 v2 v3 v4 v5 k0 k1 k2 n0 n1 n2 j0 j1 j2 n0 n1 n2 o1 o2 o3 o2 h0 cx T w

set_option maxRecDepth 65536 in
set_option maxHeartbeats 40000000 in
theorem rm0 (l : Launch) (Z : State) (a0 : Array Value) (hw : ∀ d ∈ tables_1, d.before a0 Z = true) (hr : rest_1_c.value a0 Z none Z [] = some true) (hn : narrow_1.value a0 Z none Z [] = some true) (v0 v1 v2 v3 v4 v5 : Int32) (h0 : Heap) (hE : Ext Z.heap h0) :
    Ct true l Z consts_1 x code maxLocals ret tables_1 room_1 [] #[(.int v0), (.int v1), (.int v2), (.int v3), (.int v4), (.int v5)] h0 (fun v _ => v = some (.int 1)) := by
  refine Ct.intro pn_com_example_matchbook_matchbook_book_OwnerEqualsPinLaw hE (fun m => ef0 m v0 v1 v2 v3 v4 v5) nosf ⟨a0, own_EW hw⟩ ?_
  intro x T w
  refine w.iloadN d0_0 rfl ?_
  refine w.iconst (3 : Int32) d0_1 rfl ?_
  refine w.iand d0_2 ?_
  refine w.iconst (3 : Int32) d0_3 rfl ?_
  refine w.irem d0_4 (by decide) ?_
  refine w.istore #[.val (.int v0), .val (.int v1), .val (.int v2), .val (.int v3), .val (.int v4), .val (.int v5), .val (.int ((v0 &&& (3 : Int32)) % (3 : Int32))), .unset, .unset, .unset, .unset, .unset, .unset, .unset, .unset, .unset, .unset, .unset, .unset, .unset, .unset, .unset, .unset, .unset, .unset, .unset, .unset, .unset, .unset, .unset] d0_5 rfl ?_
  refine w.iloadN d0_7 rfl ?_
  refine w.iconst (2 : Int32) d0_8 rfl ?_
  refine w.iushr d0_9 ?_
  refine w.sipush (255 : Int32) d0_10 rfl ?_
  refine w.iand d0_13 ?_
  refine w.i2c d0_14 ?_
  refine w.istore #[.val (.int v0), .val (.int v1), .val (.int v2), .val (.int v3), .val (.int v4), .val (.int v5), .val (.int ((v0 &&& (3 : Int32)) % (3 : Int32))), .val (.int (nar .char ((XT.ushr v0 (2 : Int32)) &&& (255 : Int32)))), .unset, .unset, .unset, .unset, .unset, .unset, .unset, .unset, .unset, .unset, .unset, .unset, .unset, .unset, .unset, .unset, .unset, .unset, .unset, .unset, .unset, .unset] d0_15 rfl ?_
  refine w.iloadN d0_17 rfl ?_
  refine w.bipush (10 : Int32) d0_18 rfl ?_
  refine w.iushr d0_20 ?_
  refine w.sipush (255 : Int32) d0_21 rfl ?_
  refine w.iand d0_24 ?_
  refine w.i2c d0_25 ?_
  refine w.istore #[.val (.int v0), .val (.int v1), .val (.int v2), .val (.int v3), .val (.int v4), .val (.int v5), .val (.int ((v0 &&& (3 : Int32)) % (3 : Int32))), .val (.int (nar .char ((XT.ushr v0 (2 : Int32)) &&& (255 : Int32)))), .val (.int (nar .char ((XT.ushr v0 (10 : Int32)) &&& (255 : Int32)))), .unset, .unset, .unset, .unset, .unset, .unset, .unset, .unset, .unset, .unset, .unset, .unset, .unset, .unset, .unset, .unset, .unset, .unset, .unset, .unset, .unset] d0_26 rfl ?_
  refine w.iloadN d0_28 rfl ?_
  refine w.iconst (3 : Int32) d0_29 rfl ?_
  refine w.iand d0_30 ?_
  refine w.iconst (3 : Int32) d0_31 rfl ?_
  refine w.irem d0_32 (by decide) ?_
  refine w.istore #[.val (.int v0), .val (.int v1), .val (.int v2), .val (.int v3), .val (.int v4), .val (.int v5), .val (.int ((v0 &&& (3 : Int32)) % (3 : Int32))), .val (.int (nar .char ((XT.ushr v0 (2 : Int32)) &&& (255 : Int32)))), .val (.int (nar .char ((XT.ushr v0 (10 : Int32)) &&& (255 : Int32)))), .val (.int ((v1 &&& (3 : Int32)) % (3 : Int32))), .unset, .unset, .unset, .unset, .unset, .unset, .unset, .unset, .unset, .unset, .unset, .unset, .unset, .unset, .unset, .unset, .unset, .unset, .unset, .unset] d0_33 rfl ?_
  refine w.iloadN d0_35 rfl ?_
  refine w.iconst (2 : Int32) d0_36 rfl ?_
  refine w.iushr d0_37 ?_
  refine w.sipush (255 : Int32) d0_38 rfl ?_
  refine w.iand d0_41 ?_
  refine w.i2c d0_42 ?_
  refine w.istore #[.val (.int v0), .val (.int v1), .val (.int v2), .val (.int v3), .val (.int v4), .val (.int v5), .val (.int ((v0 &&& (3 : Int32)) % (3 : Int32))), .val (.int (nar .char ((XT.ushr v0 (2 : Int32)) &&& (255 : Int32)))), .val (.int (nar .char ((XT.ushr v0 (10 : Int32)) &&& (255 : Int32)))), .val (.int ((v1 &&& (3 : Int32)) % (3 : Int32))), .val (.int (nar .char ((XT.ushr v1 (2 : Int32)) &&& (255 : Int32)))), .unset, .unset, .unset, .unset, .unset, .unset, .unset, .unset, .unset, .unset, .unset, .unset, .unset, .unset, .unset, .unset, .unset, .unset, .unset] d0_43 rfl ?_
  refine w.iloadN d0_45 rfl ?_
  refine w.bipush (10 : Int32) d0_46 rfl ?_
  refine w.iushr d0_48 ?_
  refine w.sipush (255 : Int32) d0_49 rfl ?_
  refine w.iand d0_52 ?_
  refine w.i2c d0_53 ?_
  refine w.istore #[.val (.int v0), .val (.int v1), .val (.int v2), .val (.int v3), .val (.int v4), .val (.int v5), .val (.int ((v0 &&& (3 : Int32)) % (3 : Int32))), .val (.int (nar .char ((XT.ushr v0 (2 : Int32)) &&& (255 : Int32)))), .val (.int (nar .char ((XT.ushr v0 (10 : Int32)) &&& (255 : Int32)))), .val (.int ((v1 &&& (3 : Int32)) % (3 : Int32))), .val (.int (nar .char ((XT.ushr v1 (2 : Int32)) &&& (255 : Int32)))), .val (.int (nar .char ((XT.ushr v1 (10 : Int32)) &&& (255 : Int32)))), .unset, .unset, .unset, .unset, .unset, .unset, .unset, .unset, .unset, .unset, .unset, .unset, .unset, .unset, .unset, .unset, .unset, .unset] d0_54 rfl ?_
  refine w.iloadN d0_56 rfl ?_
  refine w.iconst (1 : Int32) d0_57 rfl ?_
  refine w.iand d0_58 ?_
  refine w.ifEq d0_59 d0_59t (fun q1 => ?_) (fun q1 => ?_)
  · refine w.iloadN d0_77 rfl ?_
    refine w.iconst (1 : Int32) d0_78 rfl ?_
    refine w.iushr d0_79 ?_
    refine w.iconst (3 : Int32) d0_80 rfl ?_
    refine w.iand d0_81 ?_
    refine w.iconst (3 : Int32) d0_82 rfl ?_
    refine w.irem d0_83 (by decide) ?_
    refine w.istore #[.val (.int v0), .val (.int v1), .val (.int v2), .val (.int v3), .val (.int v4), .val (.int v5), .val (.int ((v0 &&& (3 : Int32)) % (3 : Int32))), .val (.int (nar .char ((XT.ushr v0 (2 : Int32)) &&& (255 : Int32)))), .val (.int (nar .char ((XT.ushr v0 (10 : Int32)) &&& (255 : Int32)))), .val (.int ((v1 &&& (3 : Int32)) % (3 : Int32))), .val (.int (nar .char ((XT.ushr v1 (2 : Int32)) &&& (255 : Int32)))), .val (.int (nar .char ((XT.ushr v1 (10 : Int32)) &&& (255 : Int32)))), .val (.int (((XT.ushr v3 (1 : Int32)) &&& (3 : Int32)) % (3 : Int32))), .unset, .unset, .unset, .unset, .unset, .unset, .unset, .unset, .unset, .unset, .unset, .unset, .unset, .unset, .unset, .unset, .unset] d0_84 rfl ?_
    refine w.iloadN d0_86 rfl ?_
    refine w.iconst (3 : Int32) d0_87 rfl ?_
    refine w.iushr d0_88 ?_
    refine w.sipush (255 : Int32) d0_89 rfl ?_
    refine w.iand d0_92 ?_
    refine w.i2c d0_93 ?_
    refine w.istore #[.val (.int v0), .val (.int v1), .val (.int v2), .val (.int v3), .val (.int v4), .val (.int v5), .val (.int ((v0 &&& (3 : Int32)) % (3 : Int32))), .val (.int (nar .char ((XT.ushr v0 (2 : Int32)) &&& (255 : Int32)))), .val (.int (nar .char ((XT.ushr v0 (10 : Int32)) &&& (255 : Int32)))), .val (.int ((v1 &&& (3 : Int32)) % (3 : Int32))), .val (.int (nar .char ((XT.ushr v1 (2 : Int32)) &&& (255 : Int32)))), .val (.int (nar .char ((XT.ushr v1 (10 : Int32)) &&& (255 : Int32)))), .val (.int (((XT.ushr v3 (1 : Int32)) &&& (3 : Int32)) % (3 : Int32))), .val (.int (nar .char ((XT.ushr v3 (3 : Int32)) &&& (255 : Int32)))), .unset, .unset, .unset, .unset, .unset, .unset, .unset, .unset, .unset, .unset, .unset, .unset, .unset, .unset, .unset, .unset] d0_94 rfl ?_
    refine w.iloadN d0_96 rfl ?_
    refine w.bipush (11 : Int32) d0_97 rfl ?_
    refine w.iushr d0_99 ?_
    refine w.sipush (255 : Int32) d0_100 rfl ?_
    refine w.iand d0_103 ?_
    refine w.i2c d0_104 ?_
    refine w.istore #[.val (.int v0), .val (.int v1), .val (.int v2), .val (.int v3), .val (.int v4), .val (.int v5), .val (.int ((v0 &&& (3 : Int32)) % (3 : Int32))), .val (.int (nar .char ((XT.ushr v0 (2 : Int32)) &&& (255 : Int32)))), .val (.int (nar .char ((XT.ushr v0 (10 : Int32)) &&& (255 : Int32)))), .val (.int ((v1 &&& (3 : Int32)) % (3 : Int32))), .val (.int (nar .char ((XT.ushr v1 (2 : Int32)) &&& (255 : Int32)))), .val (.int (nar .char ((XT.ushr v1 (10 : Int32)) &&& (255 : Int32)))), .val (.int (((XT.ushr v3 (1 : Int32)) &&& (3 : Int32)) % (3 : Int32))), .val (.int (nar .char ((XT.ushr v3 (3 : Int32)) &&& (255 : Int32)))), .val (.int (nar .char ((XT.ushr v3 (11 : Int32)) &&& (255 : Int32)))), .unset, .unset, .unset, .unset, .unset, .unset, .unset, .unset, .unset, .unset, .unset, .unset, .unset, .unset, .unset] d0_105 rfl ?_
    exact pc107 l Z a0 hw hr hn v0 v1 v2 v3 v4 v5 ((v0 &&& (3 : Int32)) % (3 : Int32)) (nar .char ((XT.ushr v0 (2 : Int32)) &&& (255 : Int32))) (nar .char ((XT.ushr v0 (10 : Int32)) &&& (255 : Int32))) ((v1 &&& (3 : Int32)) % (3 : Int32)) (nar .char ((XT.ushr v1 (2 : Int32)) &&& (255 : Int32))) (nar .char ((XT.ushr v1 (10 : Int32)) &&& (255 : Int32))) (((XT.ushr v3 (1 : Int32)) &&& (3 : Int32)) % (3 : Int32)) (nar .char ((XT.ushr v3 (3 : Int32)) &&& (255 : Int32))) (nar .char ((XT.ushr v3 (11 : Int32)) &&& (255 : Int32))) (own_okd _ _ _) (own_okd _ _ _) (own_okd _ _ _) h0 x T w
  · refine w.iload d0_62 rfl ?_
    refine w.istore #[.val (.int v0), .val (.int v1), .val (.int v2), .val (.int v3), .val (.int v4), .val (.int v5), .val (.int ((v0 &&& (3 : Int32)) % (3 : Int32))), .val (.int (nar .char ((XT.ushr v0 (2 : Int32)) &&& (255 : Int32)))), .val (.int (nar .char ((XT.ushr v0 (10 : Int32)) &&& (255 : Int32)))), .val (.int ((v1 &&& (3 : Int32)) % (3 : Int32))), .val (.int (nar .char ((XT.ushr v1 (2 : Int32)) &&& (255 : Int32)))), .val (.int (nar .char ((XT.ushr v1 (10 : Int32)) &&& (255 : Int32)))), .val (.int ((v0 &&& (3 : Int32)) % (3 : Int32))), .unset, .unset, .unset, .unset, .unset, .unset, .unset, .unset, .unset, .unset, .unset, .unset, .unset, .unset, .unset, .unset, .unset] d0_64 rfl ?_
    refine w.iload d0_66 rfl ?_
    refine w.istore #[.val (.int v0), .val (.int v1), .val (.int v2), .val (.int v3), .val (.int v4), .val (.int v5), .val (.int ((v0 &&& (3 : Int32)) % (3 : Int32))), .val (.int (nar .char ((XT.ushr v0 (2 : Int32)) &&& (255 : Int32)))), .val (.int (nar .char ((XT.ushr v0 (10 : Int32)) &&& (255 : Int32)))), .val (.int ((v1 &&& (3 : Int32)) % (3 : Int32))), .val (.int (nar .char ((XT.ushr v1 (2 : Int32)) &&& (255 : Int32)))), .val (.int (nar .char ((XT.ushr v1 (10 : Int32)) &&& (255 : Int32)))), .val (.int ((v0 &&& (3 : Int32)) % (3 : Int32))), .val (.int (nar .char ((XT.ushr v0 (2 : Int32)) &&& (255 : Int32)))), .unset, .unset, .unset, .unset, .unset, .unset, .unset, .unset, .unset, .unset, .unset, .unset, .unset, .unset, .unset, .unset] d0_68 rfl ?_
    refine w.iload d0_70 rfl ?_
    refine w.istore #[.val (.int v0), .val (.int v1), .val (.int v2), .val (.int v3), .val (.int v4), .val (.int v5), .val (.int ((v0 &&& (3 : Int32)) % (3 : Int32))), .val (.int (nar .char ((XT.ushr v0 (2 : Int32)) &&& (255 : Int32)))), .val (.int (nar .char ((XT.ushr v0 (10 : Int32)) &&& (255 : Int32)))), .val (.int ((v1 &&& (3 : Int32)) % (3 : Int32))), .val (.int (nar .char ((XT.ushr v1 (2 : Int32)) &&& (255 : Int32)))), .val (.int (nar .char ((XT.ushr v1 (10 : Int32)) &&& (255 : Int32)))), .val (.int ((v0 &&& (3 : Int32)) % (3 : Int32))), .val (.int (nar .char ((XT.ushr v0 (2 : Int32)) &&& (255 : Int32)))), .val (.int (nar .char ((XT.ushr v0 (10 : Int32)) &&& (255 : Int32)))), .unset, .unset, .unset, .unset, .unset, .unset, .unset, .unset, .unset, .unset, .unset, .unset, .unset, .unset, .unset] d0_72 rfl ?_
    refine w.goto d0_74 d0_74t ?_
    exact pc107 l Z a0 hw hr hn v0 v1 v2 v3 v4 v5 ((v0 &&& (3 : Int32)) % (3 : Int32)) (nar .char ((XT.ushr v0 (2 : Int32)) &&& (255 : Int32))) (nar .char ((XT.ushr v0 (10 : Int32)) &&& (255 : Int32))) ((v1 &&& (3 : Int32)) % (3 : Int32)) (nar .char ((XT.ushr v1 (2 : Int32)) &&& (255 : Int32))) (nar .char ((XT.ushr v1 (10 : Int32)) &&& (255 : Int32))) ((v0 &&& (3 : Int32)) % (3 : Int32)) (nar .char ((XT.ushr v0 (2 : Int32)) &&& (255 : Int32))) (nar .char ((XT.ushr v0 (10 : Int32)) &&& (255 : Int32))) (own_okd _ _ _) (own_okd _ _ _) (own_okd _ _ _) h0 x T w

set_option maxRecDepth 65536 in
set_option maxHeartbeats 40000000 in
theorem comes_1 {Post : Tables → Env → Array Value → State → Outcome → State → Prop} (hpost : ∀ tb e args s v u, (limb_1_1.after args s (.returned v) u = true ∧ limb_1_2.after args s (.returned v) u = true) → ReturnedEndW s (.returned v) u (Jvm.fieldLocs frame_1_writes args s ++ Jvm.arrayLocs frame_1_arrays args s ++ Jvm.staticLocs frame_1_statics s) 48 4288 → Post tb e args s (.returned v) u) :
    ArmFor flags0 classFile x code maxLocals ret World_1 tables_1 room_1 Calls_1 rest_1 Pre_1 Post := by
  intro l hfl _ _ p e ha hc hk s m args below hf hA hF happ hP
  obtain ⟨hcalls, hrest, hpre⟩ := hP
  obtain ⟨-, -, -, hnamed, -, -, -, hat⟩ := (Spec.applies_iff hf).mp happ
  obtain ⟨hg, hn⟩ := and_e (Cond.before_iff.mp (show (Jvm.Cond.and given_1 narrow_1).before args s = true from hpre))
  obtain ⟨hc0, hg⟩ := and_e hg
  obtain ⟨w0, w1, w2, w3, w4, w5, rfl⟩ : ∃ w0 w1 w2 w3 w4 w5 : Value, args = #[w0, w1, w2, w3, w4, w5] := by
    have hs : args.size = 6 := by simpa [Cond.value] using hc0
    obtain ⟨L⟩ := args
    match L, hs with
    | [w0, w1, w2, w3, w4, w5], _ => exact ⟨w0, w1, w2, w3, w4, w5, rfl⟩
  have hw := fun d (hd : d ∈ tables_1) => atoms_spec (ws := Jvm.Cond.code x code maxLocals ret :: tables_1) hat d (List.mem_cons_of_mem _ hd)
  have hfit : Fit s := fit_of hF
  obtain ⟨hg0, hg⟩ := and_e hg
  obtain ⟨i0, e0⟩ := is_v hg0
  obtain rfl : w0 = (.int i0) := Option.some.inj e0
  obtain ⟨hg1, hg⟩ := and_e hg
  obtain ⟨i1, e1⟩ := is_v hg1
  obtain rfl : w1 = (.int i1) := Option.some.inj e1
  obtain ⟨hg2, hg⟩ := and_e hg
  obtain ⟨i2, e2⟩ := is_v hg2
  obtain rfl : w2 = (.int i2) := Option.some.inj e2
  obtain ⟨hg3, hg⟩ := and_e hg
  obtain ⟨i3, e3⟩ := is_v hg3
  obtain rfl : w3 = (.int i3) := Option.some.inj e3
  obtain ⟨hg4, hg⟩ := and_e hg
  obtain ⟨i4, e4⟩ := is_v hg4
  obtain rfl : w4 = (.int i4) := Option.some.inj e4
  obtain ⟨i5, e5⟩ := is_v hg
  obtain rfl : w5 = (.int i5) := Option.some.inj e5
  obtain ⟨n, o, h1, h2, h3, _, L, rfl, ⟨rfl, N, -, -⟩, hq⟩ := rm0 l s _ hw (Cond.before_iff.mp hrest) hn i0 i1 i2 i3 i4 i5 s.heap (ext_refl _) p e ha hc hk s m _ below hf ((Spec.applies_iff_loose hf).mp happ).1 ⟨rfl, State.Warmed39.refl s, rfl, fun _ => ⟨CHv.start (own_EW hw) (own_held hcalls) (nw (Cond.before_iff.mp hrest) 2 rfl |> Cond.before_iff.mpr) (tw hw 24 rfl) (tw hw 10 rfl), (fun _ q => nomatch q)⟩⟩ trivial
  refine ⟨n, _, h1, h2, h3, hpost _ _ _ _ _ _ ⟨Cond.after_iff.mpr rfl, Cond.after_iff.mpr (eq_i res_at (Term.int_eval (1)) rfl)⟩ ⟨hq.2.1, hq.2.2.1, hq.2.2.2.1, (hq.2.2.2.2.sift fun y hy => Or.inr (N y hy)).mono (by decide) (by decide)⟩⟩
theorem main_1_1 : Claimed_1_1 := comes_1 fun _ _ _ _ _ _ h hF => ⟨h.1, hF⟩
theorem main_1_2 : Claimed_1_2 := comes_1 fun _ _ _ _ _ _ h hF => ⟨h.2, hF⟩
end Jvm.Pilot.@@N@@
namespace Jvm.Pilot.@@N@@
open Jvm Jvm.ClassFile Sem Op Lib Jvm.Free Jvm.Stand Jvm.Pilot.@@N@@.Jvm.D
/-! MADE BY PROGRAM (witnessworld.py) out of the Statement's table words and the real class files: 23 classes; the members and pool entries that the words name. The judged class is class 1, her method 3. -/
namespace start1
open Jvm.ClassFile
def u (s : String) : CpInfo := .utf8 (stringToUtf16 s)
/-- a pool by its gaps: so many unusable entries, then the entry; so many at the end -/
def gap : Nat → List CpInfo → List CpInfo
  | 0, r => r
  | n + 1, r => .unusable :: gap n r
def poolList (es : List (Nat × CpInfo)) (last : Nat) : List CpInfo := es.foldr (fun e r => gap e.1 (e.2 :: r)) (gap last [])
def pool (es : List (Nat × CpInfo)) (last : Nat) : Array CpInfo := ⟨poolList es last⟩
def fileOf (pool : Array CpInfo) (this : Nat) (attrs : Array Attribute := #[]) (ms : Array MethodInfo := #[]) (fl : Nat := 33) (sup : Nat := 0) (ifs : Array Nat := #[]) (fds : Array FieldInfo := #[]) : ClassFile where
  minorVersion := 0
  majorVersion := 65
  constantPool := pool
  accessFlags := fl
  thisClass := this
  superClass := sup
  interfaces := ifs
  fields := fds
  methods := ms
  attributes := attrs
def plain (name : String) (sup : Option ClassId) : Class where
  name := name
  kind := .ordinary
  loader := none
  accessFlags := 33
  super := sup
  interfaces := #[]
  cf := none
  fields := #[]
  methods := #[]
  instanceTypes := #[]
  staticTypes := #[]
  resolved := #[]
  callSites := []
  init := .initialized
  statics := none
  mirror := none

def pool0 : Array CpInfo := pool [(5, u "<init>"), (0, u "()V"), (1, .class_ 10), (1, u "java/lang/Object")] 113

def k0c0 : Code := { maxStack := 0, maxLocals := 1, code := object_method_1_code, exceptionTable := #[], attributes := #[] }
def k0m0 : Method := { name := "<init>", desc := "()V", sig := { parameters := [], returnType := none }, accessFlags := 1, code := some k0c0 }
/-- java/lang/Object -/
def k0 : Class := { plain "java/lang/Object" none with
  accessFlags := 33
  interfaces := #[]
  cf := some (fileOf pool0 8 #[] #[{ accessFlags := 1, nameIndex := 5, descriptorIndex := 6, attributes := #[] }] 33 0 #[] #[])
  fields := #[]
  methods := #[k0m0]
  instanceTypes := #[]
  staticTypes := #[]
  resolved := Array.replicate 124 none
  statics := none }

def pool1 : Array CpInfo := pool [(2, .class_ 4), (1, u "java/lang/Object"), (0, u "<init>"), (0, u "()V"), (0, .class_ 8), (0, u "java/lang/String"), (0, .methodref 7 10), (0, .nameAndType 5 11), (0, u "([C)V"), (0, .fieldref 13 14), (0, .class_ 15), (0, .nameAndType 16 17), (0, u "com/example/matchbook/matchbook/book/MatchKind"), (0, u "PARTIAL"), (0, u "Lcom/example/matchbook/matchbook/book/MatchKind;"), (0, .fieldref 13 19), (0, .nameAndType 20 17), (0, u "FULL"), (0, .methodref 22 23), (0, .class_ 24), (0, .nameAndType 25 26), (0, u "com/example/matchbook/matchbook/book/OwnerEqualsPinLaw"), (0, u "str"), (0, u "(ICC)Ljava/lang/String;"), (0, .class_ 28), (0, u "com/example/matchbook/matchbook/book/Owner"), (0, .methodref 27 30), (0, .nameAndType 5 31), (0, u "(Ljava/lang/String;Ljava/lang/String;Lcom/example/matchbook/matchbook/book/MatchKind;)V"), (0, .methodref 27 33), (0, .nameAndType 34 35), (0, u "equals"), (0, u "(Ljava/lang/Object;)Z"), (0, .methodref 22 37), (0, .nameAndType 38 39), (0, u "same"), (0, u "(ICCICC)Z"), (3, u "law"), (0, u "(IIIIII)Z")] 2

def k1m0 : Method := { name := "<init>", desc := "()V", sig := { parameters := [], returnType := none }, accessFlags := 1, code := none }
def k1c1 : Code := { maxStack := 3, maxLocals := 4, code := method_2_code, exceptionTable := #[], attributes := #[] }
def k1m1 : Method := { name := "str", desc := "(ICC)Ljava/lang/String;", sig := { parameters := [.int, .char, .char], returnType := some (.object "java/lang/String") }, accessFlags := 10, code := some k1c1 }
def k1c2 : Code := { maxStack := 2, maxLocals := 6, code := method_3_code, exceptionTable := #[], attributes := #[] }
def k1m2 : Method := { name := "same", desc := "(ICCICC)Z", sig := { parameters := [.int, .char, .char, .int, .char, .char], returnType := some .boolean }, accessFlags := 10, code := some k1c2 }
def k1c3 : Code := { maxStack := 6, maxLocals := 30, code := code, exceptionTable := #[], attributes := #[] }
def k1m3 : Method := { name := "law", desc := "(IIIIII)Z", sig := { parameters := [.int, .int, .int, .int, .int, .int], returnType := some .boolean }, accessFlags := 9, code := some k1c3 }
/-- com/example/matchbook/matchbook/book/OwnerEqualsPinLaw -/
def k1 : Class := { plain "com/example/matchbook/matchbook/book/OwnerEqualsPinLaw" (some 0) with
  accessFlags := 49
  interfaces := #[]
  cf := some (fileOf pool1 22 #[] #[{ accessFlags := 1, nameIndex := 5, descriptorIndex := 6, attributes := #[] }, { accessFlags := 10, nameIndex := 25, descriptorIndex := 26, attributes := #[] }, { accessFlags := 10, nameIndex := 38, descriptorIndex := 39, attributes := #[] }, { accessFlags := 9, nameIndex := 43, descriptorIndex := 44, attributes := #[] }] 49 2 #[] #[])
  fields := #[]
  methods := #[k1m0, k1m1, k1m2, k1m3]
  instanceTypes := #[]
  staticTypes := #[]
  resolved := Array.replicate 47 none
  statics := none }

def pool2 : Array CpInfo := pool [(1, .class_ 2), (0, u "java/lang/constant/Constable"), (0, .class_ 4), (0, u "java/lang/Object")] 6

/-- java/lang/constant/Constable -/
def k2 : Class := { plain "java/lang/constant/Constable" (some 0) with
  accessFlags := 1537
  interfaces := #[]
  cf := some (fileOf pool2 1 #[] #[] 1537 3 #[] #[])
  fields := #[]
  methods := #[]
  instanceTypes := #[]
  staticTypes := #[]
  resolved := Array.replicate 11 none
  statics := none }

def pool3 : Array CpInfo := pool [(1, .class_ 2), (0, u "java/lang/Comparable"), (0, .class_ 4), (0, u "java/lang/Object")] 7

/-- java/lang/Comparable -/
def k3 : Class := { plain "java/lang/Comparable" (some 0) with
  accessFlags := 1537
  interfaces := #[]
  cf := some (fileOf pool3 1 #[] #[] 1537 3 #[] #[])
  fields := #[]
  methods := #[]
  instanceTypes := #[]
  staticTypes := #[]
  resolved := Array.replicate 12 none
  statics := none }

def pool4 : Array CpInfo := pool [(1, .class_ 2), (0, u "java/io/Serializable"), (0, .class_ 4), (0, u "java/lang/Object")] 2

/-- java/io/Serializable -/
def k4 : Class := { plain "java/io/Serializable" (some 0) with
  accessFlags := 1537
  interfaces := #[]
  cf := some (fileOf pool4 1 #[] #[] 1537 3 #[] #[])
  fields := #[]
  methods := #[]
  instanceTypes := #[]
  staticTypes := #[]
  resolved := Array.replicate 7 none
  statics := none }

def pool5 : Array CpInfo := pool [(2, .class_ 4), (1, u "java/lang/Enum"), (0, u "name"), (0, u "Ljava/lang/String;"), (2, u "ordinal"), (0, u "I"), (1, .class_ 14), (1, u "java/lang/Object"), (4, u "hash"), (86, .class_ 108), (1, u "java/lang/Enum$EnumDesc"), (2, .class_ 112), (0, u "java/lang/constant/Constable"), (0, .class_ 114), (0, u "java/lang/Comparable"), (0, .class_ 116), (0, u "java/io/Serializable")] 87

/-- java/lang/Enum -/
def k5 : Class := { plain "java/lang/Enum" (some 0) with
  accessFlags := 1057
  interfaces := #[2, 3, 4]
  cf := some (fileOf pool5 2 #[.nestMembers #[106]] #[] 1057 12 #[111, 113, 115] #[{ accessFlags := 18, nameIndex := 5, descriptorIndex := 6, attributes := #[] }, { accessFlags := 18, nameIndex := 9, descriptorIndex := 10, attributes := #[] }, { accessFlags := 2, nameIndex := 19, descriptorIndex := 10, attributes := #[] }])
  fields := #[{ name := "name", type := (.object "java/lang/String"), accessFlags := 18, slot := 0, constantValue := 0 }, { name := "ordinal", type := .int, accessFlags := 18, slot := 1, constantValue := 0 }, { name := "hash", type := .int, accessFlags := 2, slot := 2, constantValue := 0 }]
  methods := #[]
  instanceTypes := #[(.object "java/lang/String"), .int, .int]
  staticTypes := #[]
  resolved := Array.replicate 204 none
  statics := none }

def pool6 : Array CpInfo := pool [(1, .class_ 2), (0, u "com/example/matchbook/matchbook/book/MatchKind"), (2, u "FULL"), (0, u "Lcom/example/matchbook/matchbook/book/MatchKind;"), (2, u "PARTIAL"), (2, u "$VALUES"), (0, u "[Lcom/example/matchbook/matchbook/book/MatchKind;"), (6, .class_ 22), (1, u "java/lang/Enum"), (8, u "word"), (0, u "Ljava/lang/String;")] 26

/-- com/example/matchbook/matchbook/book/MatchKind -/
def k6 : Class := { plain "com/example/matchbook/matchbook/book/MatchKind" (some 5) with
  accessFlags := 16433
  interfaces := #[]
  cf := some (fileOf pool6 1 #[] #[] 16433 20 #[] #[{ accessFlags := 16409, nameIndex := 5, descriptorIndex := 6, attributes := #[] }, { accessFlags := 16409, nameIndex := 9, descriptorIndex := 6, attributes := #[] }, { accessFlags := 18, nameIndex := 31, descriptorIndex := 32, attributes := #[] }, { accessFlags := 4122, nameIndex := 12, descriptorIndex := 13, attributes := #[] }])
  fields := #[{ name := "FULL", type := (.object "com/example/matchbook/matchbook/book/MatchKind"), accessFlags := 16409, slot := 0, constantValue := 0 }, { name := "PARTIAL", type := (.object "com/example/matchbook/matchbook/book/MatchKind"), accessFlags := 16409, slot := 1, constantValue := 0 }, { name := "word", type := (.object "java/lang/String"), accessFlags := 18, slot := 3, constantValue := 0 }, { name := "$VALUES", type := (.array (.object "com/example/matchbook/matchbook/book/MatchKind")), accessFlags := 4122, slot := 2, constantValue := 0 }]
  methods := #[]
  instanceTypes := #[(.object "java/lang/String"), .int, .int, (.object "java/lang/String")]
  staticTypes := #[(.object "com/example/matchbook/matchbook/book/MatchKind"), (.object "com/example/matchbook/matchbook/book/MatchKind"), (.array (.object "com/example/matchbook/matchbook/book/MatchKind"))]
  resolved := Array.replicate 59 none
  statics := some 0 }

def pool7 : Array CpInfo := pool [(2, .class_ 4), (1, u "java/lang/CharSequence"), (42, .class_ 48), (0, u "java/lang/CharSequence$1CodePointIterator"), (10, .class_ 60), (0, u "java/lang/CharSequence$1CharIterator"), (5, .class_ 67), (0, u "java/lang/Object")] 63

/-- java/lang/CharSequence -/
def k7 : Class := { plain "java/lang/CharSequence" (some 0) with
  accessFlags := 1537
  interfaces := #[]
  cf := some (fileOf pool7 2 #[.nestMembers #[47, 59]] #[] 1537 66 #[] #[])
  fields := #[]
  methods := #[]
  instanceTypes := #[]
  staticTypes := #[]
  resolved := Array.replicate 131 none
  statics := none }

def pool8 : Array CpInfo := pool [(1, .class_ 2), (0, u "java/lang/constant/ConstantDesc"), (0, .class_ 4), (0, u "java/lang/Object")] 32

/-- java/lang/constant/ConstantDesc -/
def k8 : Class := { plain "java/lang/constant/ConstantDesc" (some 0) with
  accessFlags := 1537
  interfaces := #[]
  cf := some (fileOf pool8 1 #[] #[] 1537 3 #[] #[])
  fields := #[]
  methods := #[]
  instanceTypes := #[]
  staticTypes := #[]
  resolved := Array.replicate 37 none
  statics := none }

def pool9 : Array CpInfo := pool [(1, .methodref 2 3), (0, .class_ 4), (0, .nameAndType 5 6), (0, u "java/lang/Object"), (0, u "<init>"), (0, u "()V"), (0, .string 8), (0, u ""), (0, .fieldref 10 11), (0, .class_ 12), (0, .nameAndType 13 14), (0, u "java/lang/String"), (0, u "value"), (0, u "[B"), (0, .fieldref 10 16), (0, .nameAndType 17 18), (0, u "coder"), (0, u "B"), (2, u "hash"), (0, u "I"), (2, u "hashIsZero"), (0, u "Z"), (0, .methodref 10 28), (0, .nameAndType 5 29), (0, u "([CIILjava/lang/Void;)V"), (8, .fieldref 10 39), (0, .nameAndType 40 26), (0, u "COMPACT_STRINGS"), (1, .class_ 44), (1, u "java/lang/StringUTF16"), (0, u "compress"), (1, .methodref 42 48), (0, .nameAndType 49 50), (0, u "coderFromArrayLen"), (0, u "([BI)B"), (56, .class_ 109), (1, u "java/lang/StringLatin1"), (67, .methodref 42 178), (0, .nameAndType 45 179), (0, u "([CII)[B"), (361, .methodref 107 542), (0, .nameAndType 543 544), (0, u "equals"), (0, u "([B[B)Z"), (28, u "(Ljava/lang/Object;)Z"), (1, .class_ 576), (0, u "java/lang/CharSequence"), (22, u "CASE_INSENSITIVE_ORDER"), (0, u "Ljava/util/Comparator;"), (409, u "([C)V"), (90, u "serialPersistentFields"), (0, u "[Ljava/io/ObjectStreamField;"), (0, .class_ 1104), (0, u "java/lang/String$CaseInsensitiveComparator"), (1, .class_ 1107), (0, u "java/io/Serializable"), (0, .class_ 1109), (0, u "java/lang/Comparable"), (0, .class_ 1111), (0, u "java/lang/constant/Constable"), (0, .class_ 1113), (0, u "java/lang/constant/ConstantDesc"), (2, u "serialVersionUID"), (0, u "J"), (3, u "REPL"), (0, u "C"), (2, u "LATIN1"), (1, u "UTF16")] 323

def k9m0 : Method := { name := "<init>", desc := "()V", sig := { parameters := [], returnType := none }, accessFlags := 1, code := none }
def k9c1 : Code := { maxStack := 5, maxLocals := 2, code := jdk_42_method_3_code, exceptionTable := #[], attributes := #[] }
def k9m1 : Method := { name := "<init>", desc := "([C)V", sig := { parameters := [(.array .char)], returnType := none }, accessFlags := 1, code := some k9c1 }
def k9c2 : Code := { maxStack := 2, maxLocals := 3, code := jdk_42_method_66_code, exceptionTable := #[], attributes := #[] }
def k9m2 : Method := { name := "equals", desc := "(Ljava/lang/Object;)Z", sig := { parameters := [(.object "java/lang/Object")], returnType := some .boolean }, accessFlags := 1, code := some k9c2 }
def k9c3 : Code := { maxStack := 4, maxLocals := 6, code := jdk_42_method_149_code, exceptionTable := #[], attributes := #[] }
def k9m3 : Method := { name := "<init>", desc := "([CIILjava/lang/Void;)V", sig := { parameters := [(.array .char), .int, .int, (.object "java/lang/Void")], returnType := none }, accessFlags := 2, code := some k9c3 }
/-- java/lang/String -/
def k9 : Class := { plain "java/lang/String" (some 0) with
  accessFlags := 49
  interfaces := #[4, 3, 7, 2, 8]
  cf := some (fileOf pool9 10 #[.nestMembers #[1103]] #[{ accessFlags := 1, nameIndex := 5, descriptorIndex := 6, attributes := #[] }, { accessFlags := 1, nameIndex := 5, descriptorIndex := 1010, attributes := #[] }, { accessFlags := 1, nameIndex := 543, descriptorIndex := 573, attributes := #[] }, { accessFlags := 2, nameIndex := 5, descriptorIndex := 29, attributes := #[] }] 49 2 #[1106, 1108, 575, 1110, 1112] #[{ accessFlags := 18, nameIndex := 13, descriptorIndex := 14, attributes := #[] }, { accessFlags := 18, nameIndex := 17, descriptorIndex := 18, attributes := #[] }, { accessFlags := 2, nameIndex := 21, descriptorIndex := 22, attributes := #[] }, { accessFlags := 2, nameIndex := 25, descriptorIndex := 26, attributes := #[] }, { accessFlags := 26, nameIndex := 1116, descriptorIndex := 1117, attributes := #[] }, { accessFlags := 24, nameIndex := 40, descriptorIndex := 26, attributes := #[] }, { accessFlags := 26, nameIndex := 1101, descriptorIndex := 1102, attributes := #[] }, { accessFlags := 26, nameIndex := 1121, descriptorIndex := 1122, attributes := #[] }, { accessFlags := 25, nameIndex := 599, descriptorIndex := 600, attributes := #[] }, { accessFlags := 24, nameIndex := 1125, descriptorIndex := 18, attributes := #[] }, { accessFlags := 24, nameIndex := 1127, descriptorIndex := 18, attributes := #[] }])
  fields := #[{ name := "value", type := (.array .byte), accessFlags := 18, slot := 0, constantValue := 0 }, { name := "coder", type := .byte, accessFlags := 18, slot := 1, constantValue := 0 }, { name := "hash", type := .int, accessFlags := 2, slot := 2, constantValue := 0 }, { name := "hashIsZero", type := .boolean, accessFlags := 2, slot := 3, constantValue := 0 }, { name := "serialVersionUID", type := .long, accessFlags := 26, slot := 0, constantValue := 0 }, { name := "COMPACT_STRINGS", type := .boolean, accessFlags := 24, slot := 1, constantValue := 0 }, { name := "serialPersistentFields", type := (.array (.object "java/io/ObjectStreamField")), accessFlags := 26, slot := 2, constantValue := 0 }, { name := "REPL", type := .char, accessFlags := 26, slot := 3, constantValue := 0 }, { name := "CASE_INSENSITIVE_ORDER", type := (.object "java/util/Comparator"), accessFlags := 25, slot := 4, constantValue := 0 }, { name := "LATIN1", type := .byte, accessFlags := 24, slot := 5, constantValue := 0 }, { name := "UTF16", type := .byte, accessFlags := 24, slot := 6, constantValue := 0 }]
  methods := #[k9m0, k9m1, k9m2, k9m3]
  instanceTypes := #[(.array .byte), .byte, .int, .boolean]
  staticTypes := #[.long, .boolean, (.array (.object "java/io/ObjectStreamField")), .char, (.object "java/util/Comparator"), .byte, .byte]
  resolved := Array.replicate 1451 none
  statics := some 1 }

def pool10 : Array CpInfo := pool [(1, .methodref 2 3), (0, .class_ 4), (0, .nameAndType 5 6), (0, u "java/lang/Object"), (0, u "<init>"), (0, u "()V"), (0, .string 8), (0, u "lookupKey"), (0, .methodref 10 11), (0, .class_ 12), (0, .nameAndType 13 14), (0, u "java/util/Objects"), (0, u "requireNonNull"), (0, u "(Ljava/lang/Object;Ljava/lang/String;)Ljava/lang/Object;"), (0, .class_ 16), (0, u "java/lang/String"), (0, .fieldref 18 19), (0, .class_ 20), (0, .nameAndType 8 21), (0, u "com/example/matchbook/matchbook/book/Owner"), (0, u "Ljava/lang/String;"), (0, .string 23), (0, u "displayName"), (0, .fieldref 18 25), (0, .nameAndType 23 21), (0, .string 27), (0, u "match"), (0, .class_ 29), (0, u "com/example/matchbook/matchbook/book/MatchKind"), (0, .fieldref 18 31), (0, .nameAndType 27 32), (0, u "Lcom/example/matchbook/matchbook/book/MatchKind;"), (7, .methodref 15 41), (0, .nameAndType 42 43), (0, u "equals"), (0, u "(Ljava/lang/Object;)Z"), (11, u "PARTIAL_MARK"), (3, u "(Ljava/lang/String;Ljava/lang/String;Lcom/example/matchbook/matchbook/book/MatchKind;)V")] 27

def k10c0 : Code := { maxStack := 3, maxLocals := 4, code := prog_16_method_1_code, exceptionTable := #[], attributes := #[] }
def k10m0 : Method := { name := "<init>", desc := "(Ljava/lang/String;Ljava/lang/String;Lcom/example/matchbook/matchbook/book/MatchKind;)V", sig := { parameters := [(.object "java/lang/String"), (.object "java/lang/String"), (.object "com/example/matchbook/matchbook/book/MatchKind")], returnType := none }, accessFlags := 0, code := some k10c0 }
def k10c1 : Code := { maxStack := 2, maxLocals := 3, code := prog_16_method_6_code, exceptionTable := #[], attributes := #[] }
def k10m1 : Method := { name := "equals", desc := "(Ljava/lang/Object;)Z", sig := { parameters := [(.object "java/lang/Object")], returnType := some .boolean }, accessFlags := 1, code := some k10c1 }
/-- com/example/matchbook/matchbook/book/Owner -/
def k10 : Class := { plain "com/example/matchbook/matchbook/book/Owner" (some 0) with
  accessFlags := 49
  interfaces := #[]
  cf := some (fileOf pool10 18 #[] #[{ accessFlags := 0, nameIndex := 5, descriptorIndex := 59, attributes := #[] }, { accessFlags := 1, nameIndex := 42, descriptorIndex := 43, attributes := #[] }] 49 2 #[] #[{ accessFlags := 24, nameIndex := 55, descriptorIndex := 21, attributes := #[] }, { accessFlags := 18, nameIndex := 8, descriptorIndex := 21, attributes := #[] }, { accessFlags := 18, nameIndex := 23, descriptorIndex := 21, attributes := #[] }, { accessFlags := 18, nameIndex := 27, descriptorIndex := 32, attributes := #[] }])
  fields := #[{ name := "PARTIAL_MARK", type := (.object "java/lang/String"), accessFlags := 24, slot := 0, constantValue := 0 }, { name := "lookupKey", type := (.object "java/lang/String"), accessFlags := 18, slot := 0, constantValue := 0 }, { name := "displayName", type := (.object "java/lang/String"), accessFlags := 18, slot := 1, constantValue := 0 }, { name := "match", type := (.object "com/example/matchbook/matchbook/book/MatchKind"), accessFlags := 18, slot := 2, constantValue := 0 }]
  methods := #[k10m0, k10m1]
  instanceTypes := #[(.object "java/lang/String"), (.object "java/lang/String"), (.object "com/example/matchbook/matchbook/book/MatchKind")]
  staticTypes := #[(.object "java/lang/String")]
  resolved := Array.replicate 87 none
  statics := none }

def pool11 : Array CpInfo := pool [(2, .class_ 4), (1, u "java/lang/Object"), (0, u "<init>"), (0, u "()V"), (35, .class_ 44), (1, u "java/util/Objects"), (0, u "requireNonNull"), (48, u "(Ljava/lang/Object;Ljava/lang/String;)Ljava/lang/Object;")] 89

def k11m0 : Method := { name := "<init>", desc := "()V", sig := { parameters := [], returnType := none }, accessFlags := 2, code := none }
def k11c1 : Code := { maxStack := 3, maxLocals := 2, code := jdk_31_method_11_code, exceptionTable := #[], attributes := #[] }
def k11m1 : Method := { name := "requireNonNull", desc := "(Ljava/lang/Object;Ljava/lang/String;)Ljava/lang/Object;", sig := { parameters := [(.object "java/lang/Object"), (.object "java/lang/String")], returnType := some (.object "java/lang/Object") }, accessFlags := 9, code := some k11c1 }
/-- java/util/Objects -/
def k11 : Class := { plain "java/util/Objects" (some 0) with
  accessFlags := 49
  interfaces := #[]
  cf := some (fileOf pool11 42 #[] #[{ accessFlags := 2, nameIndex := 5, descriptorIndex := 6, attributes := #[] }, { accessFlags := 9, nameIndex := 45, descriptorIndex := 94, attributes := #[] }] 49 2 #[] #[])
  fields := #[]
  methods := #[k11m0, k11m1]
  instanceTypes := #[]
  staticTypes := #[]
  resolved := Array.replicate 184 none
  statics := none }

def pool12 : Array CpInfo := pool [(6, .class_ 8), (1, u "java/lang/Object"), (0, u "<init>"), (0, u "()V"), (1, .class_ 14), (1, u "java/lang/StringUTF16"), (31, u "$assertionsDisabled"), (0, u "Z"), (13, u "HI_BYTE_SHIFT"), (0, u "I"), (2, u "LO_BYTE_SHIFT"), (49, .methodref 12 116), (0, .nameAndType 117 118), (0, u "compress"), (0, u "([CI[BII)I"), (3, u "([CII)[B"), (138, u "coderFromArrayLen"), (0, u "([BI)B"), (106, .class_ 371), (1, u "java/lang/StringUTF16$LinesSpliterator"), (58, u "MAX_LENGTH"), (196, .class_ 628), (0, u "java/lang/StringUTF16$CodePointsSpliterator"), (0, .class_ 630), (0, u "java/lang/StringUTF16$CharsSpliterator")] 4

def k12m0 : Method := { name := "<init>", desc := "()V", sig := { parameters := [], returnType := none }, accessFlags := 0, code := none }
def k12c1 : Code := { maxStack := 2, maxLocals := 2, code := jdk_52_method_15_code, exceptionTable := #[], attributes := #[] }
def k12m1 : Method := { name := "coderFromArrayLen", desc := "([BI)B", sig := { parameters := [(.array .byte), .int], returnType := some .byte }, accessFlags := 8, code := some k12c1 }
def k12c2 : Code := { maxStack := 5, maxLocals := 6, code := jdk_52_method_16_code, exceptionTable := #[], attributes := #[] }
def k12m2 : Method := { name := "compress", desc := "([CII)[B", sig := { parameters := [(.array .char), .int, .int], returnType := some (.array .byte) }, accessFlags := 9, code := some k12c2 }
def k12c3 : Code := { maxStack := 3, maxLocals := 7, code := jdk_52_method_21_code, exceptionTable := #[], attributes := #[] }
def k12m3 : Method := { name := "compress", desc := "([CI[BII)I", sig := { parameters := [(.array .char), .int, (.array .byte), .int, .int], returnType := some .int }, accessFlags := 9, code := some k12c3 }
/-- java/lang/StringUTF16 -/
def k12 : Class := { plain "java/lang/StringUTF16" (some 0) with
  accessFlags := 48
  interfaces := #[]
  cf := some (fileOf pool12 12 #[.nestMembers #[627, 629, 369]] #[{ accessFlags := 0, nameIndex := 9, descriptorIndex := 10, attributes := #[] }, { accessFlags := 8, nameIndex := 261, descriptorIndex := 262, attributes := #[] }, { accessFlags := 9, nameIndex := 117, descriptorIndex := 122, attributes := #[] }, { accessFlags := 9, nameIndex := 117, descriptorIndex := 118, attributes := #[] }] 48 6 #[] #[{ accessFlags := 26, nameIndex := 61, descriptorIndex := 62, attributes := #[] }, { accessFlags := 26, nameIndex := 65, descriptorIndex := 62, attributes := #[] }, { accessFlags := 24, nameIndex := 430, descriptorIndex := 62, attributes := #[] }, { accessFlags := 4120, nameIndex := 46, descriptorIndex := 47, attributes := #[] }])
  fields := #[{ name := "HI_BYTE_SHIFT", type := .int, accessFlags := 26, slot := 0, constantValue := 0 }, { name := "LO_BYTE_SHIFT", type := .int, accessFlags := 26, slot := 1, constantValue := 0 }, { name := "MAX_LENGTH", type := .int, accessFlags := 24, slot := 2, constantValue := 0 }, { name := "$assertionsDisabled", type := .boolean, accessFlags := 4120, slot := 3, constantValue := 0 }]
  methods := #[k12m0, k12m1, k12m2, k12m3]
  instanceTypes := #[]
  staticTypes := #[.int, .int, .int, .boolean]
  resolved := Array.replicate 635 none
  statics := none }

def pool13 : Array CpInfo := pool [(4, .class_ 6), (1, u "java/lang/Object"), (0, u "<init>"), (0, u "()V"), (5, .class_ 16), (1, u "java/lang/StringLatin1"), (104, u "$assertionsDisabled"), (0, u "Z"), (98, .class_ 223), (1, u "java/lang/StringLatin1$LinesSpliterator"), (57, u "equals"), (0, u "([B[B)Z"), (107, .class_ 391), (0, u "java/lang/StringLatin1$CharsSpliterator")] 3

def k13m0 : Method := { name := "<init>", desc := "()V", sig := { parameters := [], returnType := none }, accessFlags := 0, code := none }
def k13c1 : Code := { maxStack := 3, maxLocals := 3, code := jdk_43_method_13_code, exceptionTable := #[], attributes := #[] }
def k13m1 : Method := { name := "equals", desc := "([B[B)Z", sig := { parameters := [(.array .byte), (.array .byte)], returnType := some .boolean }, accessFlags := 9, code := some k13c1 }
/-- java/lang/StringLatin1 -/
def k13 : Class := { plain "java/lang/StringLatin1" (some 0) with
  accessFlags := 48
  interfaces := #[]
  cf := some (fileOf pool13 14 #[.nestMembers #[390, 221]] #[{ accessFlags := 0, nameIndex := 7, descriptorIndex := 8, attributes := #[] }, { accessFlags := 9, nameIndex := 281, descriptorIndex := 282, attributes := #[] }] 48 4 #[] #[{ accessFlags := 4120, nameIndex := 121, descriptorIndex := 122, attributes := #[] }])
  fields := #[{ name := "$assertionsDisabled", type := .boolean, accessFlags := 4120, slot := 0, constantValue := 0 }]
  methods := #[k13m0, k13m1]
  instanceTypes := #[]
  staticTypes := #[.boolean]
  resolved := Array.replicate 395 none
  statics := none }

def pool14 : Array CpInfo := pool [(2, .class_ 4), (1, u "java/lang/Object"), (0, u "<init>"), (0, u "()V"), (17, .class_ 26), (1, u "jdk/internal/util/Preconditions"), (28, .class_ 56), (0, u "jdk/internal/util/Preconditions$4"), (57, .class_ 115), (0, u "jdk/internal/util/Preconditions$1"), (7, u "SIOOBE_FORMATTER"), (0, u "Ljava/util/function/BiFunction;"), (0, .class_ 126), (0, u "jdk/internal/util/Preconditions$2"), (3, u "AIOOBE_FORMATTER"), (0, .class_ 132), (0, u "jdk/internal/util/Preconditions$3"), (3, u "IOOBE_FORMATTER")] 57

def k14m0 : Method := { name := "<init>", desc := "()V", sig := { parameters := [], returnType := none }, accessFlags := 1, code := none }
/-- jdk/internal/util/Preconditions -/
def k14 : Class := { plain "jdk/internal/util/Preconditions" (some 0) with
  accessFlags := 33
  interfaces := #[]
  cf := some (fileOf pool14 24 #[.nestMembers #[55, 131, 125, 114]] #[{ accessFlags := 1, nameIndex := 5, descriptorIndex := 6, attributes := #[] }] 33 2 #[] #[{ accessFlags := 25, nameIndex := 123, descriptorIndex := 124, attributes := #[] }, { accessFlags := 25, nameIndex := 130, descriptorIndex := 124, attributes := #[] }, { accessFlags := 25, nameIndex := 136, descriptorIndex := 124, attributes := #[] }])
  fields := #[{ name := "SIOOBE_FORMATTER", type := (.object "java/util/function/BiFunction"), accessFlags := 25, slot := 0, constantValue := 0 }, { name := "AIOOBE_FORMATTER", type := (.object "java/util/function/BiFunction"), accessFlags := 25, slot := 1, constantValue := 0 }, { name := "IOOBE_FORMATTER", type := (.object "java/util/function/BiFunction"), accessFlags := 25, slot := 2, constantValue := 0 }]
  methods := #[k14m0]
  instanceTypes := #[]
  staticTypes := #[(.object "java/util/function/BiFunction"), (.object "java/util/function/BiFunction"), (.object "java/util/function/BiFunction")]
  resolved := Array.replicate 194 none
  statics := some 2 }

def pool15 : Array CpInfo := pool [(9, u "<init>"), (6, .class_ 18), (1, u "java/lang/Object"), (0, u "()V"), (1, .class_ 23), (1, u "jdk/internal/util/ArraysSupport"), (0, u "LOG2_ARRAY_LONG_INDEX_SCALE"), (0, u "I"), (2, u "U"), (0, u "Ljdk/internal/misc/Unsafe;"), (8, u "BIG_ENDIAN"), (0, u "Z"), (8, u "LOG2_BYTE_BIT_SIZE"), (4, u "LOG2_ARRAY_INT_INDEX_SCALE"), (54, u "JLA"), (0, u "Ljdk/internal/access/JavaLangAccess;"), (11, u "LOG2_ARRAY_BOOLEAN_INDEX_SCALE"), (9, u "LOG2_ARRAY_BYTE_INDEX_SCALE"), (5, u "LOG2_ARRAY_CHAR_INDEX_SCALE"), (5, u "LOG2_ARRAY_SHORT_INDEX_SCALE"), (18, u "LOG2_ARRAY_FLOAT_INDEX_SCALE"), (24, u "LOG2_ARRAY_DOUBLE_INDEX_SCALE"), (89, u "T_BOOLEAN"), (2, u "T_CHAR"), (1, u "T_FLOAT"), (1, u "T_DOUBLE"), (1, u "T_BYTE"), (1, u "T_SHORT"), (1, u "T_INT"), (1, u "T_LONG"), (1, u "SOFT_MAX_ARRAY_LENGTH")] 83

def k15m0 : Method := { name := "<init>", desc := "()V", sig := { parameters := [], returnType := none }, accessFlags := 2, code := none }
/-- jdk/internal/util/ArraysSupport -/
def k15 : Class := { plain "jdk/internal/util/ArraysSupport" (some 0) with
  accessFlags := 33
  interfaces := #[]
  cf := some (fileOf pool15 21 #[] #[{ accessFlags := 2, nameIndex := 9, descriptorIndex := 19, attributes := #[] }] 33 16 #[] #[{ accessFlags := 24, nameIndex := 28, descriptorIndex := 29, attributes := #[] }, { accessFlags := 26, nameIndex := 38, descriptorIndex := 39, attributes := #[] }, { accessFlags := 25, nameIndex := 121, descriptorIndex := 25, attributes := #[] }, { accessFlags := 25, nameIndex := 131, descriptorIndex := 25, attributes := #[] }, { accessFlags := 25, nameIndex := 137, descriptorIndex := 25, attributes := #[] }, { accessFlags := 25, nameIndex := 143, descriptorIndex := 25, attributes := #[] }, { accessFlags := 25, nameIndex := 53, descriptorIndex := 25, attributes := #[] }, { accessFlags := 25, nameIndex := 24, descriptorIndex := 25, attributes := #[] }, { accessFlags := 25, nameIndex := 162, descriptorIndex := 25, attributes := #[] }, { accessFlags := 25, nameIndex := 187, descriptorIndex := 25, attributes := #[] }, { accessFlags := 26, nameIndex := 48, descriptorIndex := 25, attributes := #[] }, { accessFlags := 25, nameIndex := 277, descriptorIndex := 25, attributes := #[] }, { accessFlags := 25, nameIndex := 280, descriptorIndex := 25, attributes := #[] }, { accessFlags := 25, nameIndex := 282, descriptorIndex := 25, attributes := #[] }, { accessFlags := 25, nameIndex := 284, descriptorIndex := 25, attributes := #[] }, { accessFlags := 25, nameIndex := 286, descriptorIndex := 25, attributes := #[] }, { accessFlags := 25, nameIndex := 288, descriptorIndex := 25, attributes := #[] }, { accessFlags := 25, nameIndex := 290, descriptorIndex := 25, attributes := #[] }, { accessFlags := 25, nameIndex := 292, descriptorIndex := 25, attributes := #[] }, { accessFlags := 26, nameIndex := 108, descriptorIndex := 109, attributes := #[] }, { accessFlags := 25, nameIndex := 294, descriptorIndex := 25, attributes := #[] }])
  fields := #[{ name := "U", type := (.object "jdk/internal/misc/Unsafe"), accessFlags := 24, slot := 0, constantValue := 0 }, { name := "BIG_ENDIAN", type := .boolean, accessFlags := 26, slot := 1, constantValue := 0 }, { name := "LOG2_ARRAY_BOOLEAN_INDEX_SCALE", type := .int, accessFlags := 25, slot := 2, constantValue := 0 }, { name := "LOG2_ARRAY_BYTE_INDEX_SCALE", type := .int, accessFlags := 25, slot := 3, constantValue := 0 }, { name := "LOG2_ARRAY_CHAR_INDEX_SCALE", type := .int, accessFlags := 25, slot := 4, constantValue := 0 }, { name := "LOG2_ARRAY_SHORT_INDEX_SCALE", type := .int, accessFlags := 25, slot := 5, constantValue := 0 }, { name := "LOG2_ARRAY_INT_INDEX_SCALE", type := .int, accessFlags := 25, slot := 6, constantValue := 0 }, { name := "LOG2_ARRAY_LONG_INDEX_SCALE", type := .int, accessFlags := 25, slot := 7, constantValue := 0 }, { name := "LOG2_ARRAY_FLOAT_INDEX_SCALE", type := .int, accessFlags := 25, slot := 8, constantValue := 0 }, { name := "LOG2_ARRAY_DOUBLE_INDEX_SCALE", type := .int, accessFlags := 25, slot := 9, constantValue := 0 }, { name := "LOG2_BYTE_BIT_SIZE", type := .int, accessFlags := 26, slot := 10, constantValue := 0 }, { name := "T_BOOLEAN", type := .int, accessFlags := 25, slot := 11, constantValue := 0 }, { name := "T_CHAR", type := .int, accessFlags := 25, slot := 12, constantValue := 0 }, { name := "T_FLOAT", type := .int, accessFlags := 25, slot := 13, constantValue := 0 }, { name := "T_DOUBLE", type := .int, accessFlags := 25, slot := 14, constantValue := 0 }, { name := "T_BYTE", type := .int, accessFlags := 25, slot := 15, constantValue := 0 }, { name := "T_SHORT", type := .int, accessFlags := 25, slot := 16, constantValue := 0 }, { name := "T_INT", type := .int, accessFlags := 25, slot := 17, constantValue := 0 }, { name := "T_LONG", type := .int, accessFlags := 25, slot := 18, constantValue := 0 }, { name := "JLA", type := (.object "jdk/internal/access/JavaLangAccess"), accessFlags := 26, slot := 19, constantValue := 0 }, { name := "SOFT_MAX_ARRAY_LENGTH", type := .int, accessFlags := 25, slot := 20, constantValue := 0 }]
  methods := #[k15m0]
  instanceTypes := #[]
  staticTypes := #[(.object "jdk/internal/misc/Unsafe"), .boolean, .int, .int, .int, .int, .int, .int, .int, .int, .int, .int, .int, .int, .int, .int, .int, .int, .int, (.object "jdk/internal/access/JavaLangAccess"), .int]
  resolved := Array.replicate 378 none
  statics := none }

def pool16 : Array CpInfo := pool [(1, u "java/lang/Cloneable"), (0, .class_ 1), (0, u "java/lang/Object"), (0, .class_ 3)] 3

/-- java/lang/Cloneable -/
def k16 : Class := { plain "java/lang/Cloneable" (some 0) with
  accessFlags := 1537
  interfaces := #[]
  cf := some (fileOf pool16 2 #[] #[] 1537 4 #[] #[])
  fields := #[]
  methods := #[]
  instanceTypes := #[]
  staticTypes := #[]
  resolved := Array.replicate 8 none
  statics := none }

/-- the primitive byte -/
def k17 : Class := { plain "byte" none with kind := .primitive 'B', accessFlags := 0x411 }
/-- [B -/
def k18 : Class := { plain "[B" (some 0) with kind := .array 17 .byte, interfaces := #[16, 4], accessFlags := 1041 }

/-- the primitive char -/
def k19 : Class := { plain "char" none with kind := .primitive 'C', accessFlags := 0x411 }
/-- [C -/
def k20 : Class := { plain "[C" (some 0) with kind := .array 19 .char, interfaces := #[16, 4], accessFlags := 1041 }

/-- the primitive int -/
def k21 : Class := { plain "int" none with kind := .primitive 'I', accessFlags := 0x411 }
/-- [I -/
def k22 : Class := { plain "[I" (some 0) with kind := .array 21 .int, interfaces := #[16, 4], accessFlags := 1041 }

def heap : Heap := #[{ cls := 6, slots := #[.ref 3, .ref 4, .null], vm := .statics 6 },
  { cls := 9, slots := #[.long 0, .int 1, .null, .int 0, .null, .int 0, .int 0], vm := .statics 9 },
  { cls := 14, slots := #[.null, .null, .null], vm := .statics 14 },
  { cls := 6, slots := #[.null, .int 0, .int 0, .null], vm := .none },
  { cls := 6, slots := #[.null, .int 1, .int 0, .null], vm := .none }]
def classes : Array Class := #[k0, k1, k2, k3, k4, k5, k6, k7, k8, k9, k10, k11, k12, k13, k14, k15, k16, k17, k18, k19, k20, k21, k22]
def interned : List (Array UInt16 × Addr) := []
def slotsUsed : Nat := 21
def theMethod : MethodId := ⟨1, 3⟩
def args0 : Array Value := #[.int 1, .int 5, .int 3, .int 1, .int 0, .int 0]
def aboutOver (below : List Frame) : State where
  vm := { classes := classes, interned := interned.toArray }
  heap := heap
  slotsUsed := slotsUsed
  threads := #[{ frames := .invoking theMethod args0 :: below }]
def below0 : List Frame := [.native { method := ⟨0, 0⟩, args := #[] }]
def about1 : State := aboutOver below0
def p0 : Program := .bare "" "" ""
def e0 : Env := launch0.env 0 0 0
theorem w_frames : about1.frames = Frame.invoking theMethod args0 :: below0 := rfl
set_option maxRecDepth 65536 in
theorem w_args : argsFit about1.vm theMethod args0 = true := by decide +kernel
set_option maxRecDepth 65536 in
theorem w_heap : heapFits about1 = true := by decide +kernel
set_option maxRecDepth 65536 in
theorem w_runnable : about1.curStatus? = some .runnable := by decide +kernel
set_option maxRecDepth 65536 in
theorem w_alone : about1.alone = true := by decide +kernel
set_option maxRecDepth 65536 in
theorem w_named : about1.methodNamed? x = some theMethod := by decide +kernel
set_option maxRecDepth 65536 in
theorem w_hears : about1.hears theMethod below0 = true := by decide +kernel
set_option maxRecDepth 65536 in
theorem w_ripe : about1.ripe theMethod args0 below0 = true := by decide +kernel
theorem w_running : about1.status = .running := rfl
set_option maxRecDepth 65536 in
theorem w_room : about1.hasRoom e0.platform room_1 = true :=
  launch0.hasRoom_least _ room_1 (by decide +kernel) (by decide +kernel) (by decide +kernel) (by decide +kernel) (by decide +kernel) (by decide +kernel)
theorem allAtoms_all (ts : List Jvm.Cond) (a : Array Jvm.Value) (st : Jvm.State) : (allAtoms ts).before a st = ts.all (fun c => c.before a st) := by
  induction ts with
  | nil => rfl
  | cons c t ih =>
    show (Jvm.Cond.and c (allAtoms t)).before a st = _
    rw [Jvm.Cond.before_and, ih, List.all_cons]
def words1 : List Jvm.Cond := Jvm.Cond.code x code maxLocals ret :: tables_1
/-- a 'code' word, met by the world's own term for the bytes: nothing is compared byte by byte -/
theorem code_word {y : MethodName} {bytes : ByteArray} {mx : Nat} {rt : Option FieldType} {a : Array Value} {s : State} {m : MethodId} {meth : Method} {c : Code} (h1 : s.methodNamed? y = some m) (h2 : s.vm.method? m = some meth) (h3 : meth.code = some c) (h4 : c.code = bytes)
    (h5 : (c.maxLocals == mx && c.exceptionTable.isEmpty && decide (c.maxStack ≤ mostOperands) && decide (meth.sig.returnType = rt) && !meth.locks && decide (parseMethodDescriptor y.desc = some meth.sig)) = true) : (Jvm.Cond.code y bytes mx rt).before a s = true := by
  simp only [Bool.and_eq_true, beq_iff_eq, Bool.not_eq_true', decide_eq_true_eq] at h5
  obtain ⟨⟨⟨⟨⟨g1, g2⟩, g3⟩, g4⟩, g5⟩, g6⟩ := h5
  simp [Cond.before, Cond.holds, Cond.value, h1, h2, h3, h4, g1, g2, g3, g4, g5, g6]
def isCode : Jvm.Cond → Bool
  | .code _ _ _ _ => true
  | _ => false
theorem all_split {L : List Jvm.Cond} {P : Jvm.Cond → Bool} (h1 : L.all (fun c => isCode c || P c) = true) (h2 : ∀ c ∈ L.filter isCode, P c = true) : L.all P = true := by
  refine List.all_eq_true.mpr fun c hc => ?_
  have h := List.all_eq_true.mp h1 c hc
  rcases Bool.eq_false_or_eq_true (isCode c) with hi | hi
  · exact h2 c (List.mem_filter.mpr ⟨hc, hi⟩)
  · simpa [hi] using h
set_option maxRecDepth 65536 in
theorem w_c0 : (Jvm.Cond.code x code maxLocals ret).before args0 about1 = true := code_word (m := ⟨1, 3⟩) (meth := k1m3) (c := k1c3) (by decide +kernel) rfl rfl rfl (by decide +kernel)
set_option maxRecDepth 65536 in
theorem w_c1 : (Jvm.Cond.code ({ cls := "com/example/matchbook/matchbook/book/OwnerEqualsPinLaw", name := "str", desc := "(ICC)Ljava/lang/String;" } : Jvm.MethodName) method_2_code (4 : Nat) (Option.some (Jvm.ClassFile.FieldType.object "java/lang/String"))).before args0 about1 = true := code_word (m := ⟨1, 1⟩) (meth := k1m1) (c := k1c1) (by decide +kernel) rfl rfl rfl (by decide +kernel)
set_option maxRecDepth 65536 in
theorem w_c2 : (Jvm.Cond.code ({ cls := "java/lang/String", name := "<init>", desc := "([C)V" } : Jvm.MethodName) jdk_42_method_3_code (2 : Nat) (Option.none : Option Jvm.ClassFile.FieldType)).before args0 about1 = true := code_word (m := ⟨9, 1⟩) (meth := k9m1) (c := k9c1) (by decide +kernel) rfl rfl rfl (by decide +kernel)
set_option maxRecDepth 65536 in
theorem w_c3 : (Jvm.Cond.code ({ cls := "java/lang/String", name := "<init>", desc := "([CIILjava/lang/Void;)V" } : Jvm.MethodName) jdk_42_method_149_code (6 : Nat) (Option.none : Option Jvm.ClassFile.FieldType)).before args0 about1 = true := code_word (m := ⟨9, 3⟩) (meth := k9m3) (c := k9c3) (by decide +kernel) rfl rfl rfl (by decide +kernel)
set_option maxRecDepth 65536 in
theorem w_c4 : (Jvm.Cond.code ({ cls := "java/lang/Object", name := "<init>", desc := "()V" } : Jvm.MethodName) object_method_1_code (1 : Nat) (Option.none : Option Jvm.ClassFile.FieldType)).before args0 about1 = true := code_word (m := ⟨0, 0⟩) (meth := k0m0) (c := k0c0) (by decide +kernel) rfl rfl rfl (by decide +kernel)
set_option maxRecDepth 65536 in
theorem w_c5 : (Jvm.Cond.code ({ cls := "com/example/matchbook/matchbook/book/Owner", name := "<init>", desc := "(Ljava/lang/String;Ljava/lang/String;Lcom/example/matchbook/matchbook/book/MatchKind;)V" } : Jvm.MethodName) prog_16_method_1_code (4 : Nat) (Option.none : Option Jvm.ClassFile.FieldType)).before args0 about1 = true := code_word (m := ⟨10, 0⟩) (meth := k10m0) (c := k10c0) (by decide +kernel) rfl rfl rfl (by decide +kernel)
set_option maxRecDepth 65536 in
theorem w_c6 : (Jvm.Cond.code ({ cls := "java/util/Objects", name := "requireNonNull", desc := "(Ljava/lang/Object;Ljava/lang/String;)Ljava/lang/Object;" } : Jvm.MethodName) jdk_31_method_11_code (2 : Nat) (Option.some (Jvm.ClassFile.FieldType.object "java/lang/Object"))).before args0 about1 = true := code_word (m := ⟨11, 1⟩) (meth := k11m1) (c := k11c1) (by decide +kernel) rfl rfl rfl (by decide +kernel)
set_option maxRecDepth 65536 in
theorem w_c7 : (Jvm.Cond.code ({ cls := "com/example/matchbook/matchbook/book/Owner", name := "equals", desc := "(Ljava/lang/Object;)Z" } : Jvm.MethodName) prog_16_method_6_code (3 : Nat) (Option.some Jvm.ClassFile.FieldType.boolean)).before args0 about1 = true := code_word (m := ⟨10, 1⟩) (meth := k10m1) (c := k10c1) (by decide +kernel) rfl rfl rfl (by decide +kernel)
set_option maxRecDepth 65536 in
theorem w_c8 : (Jvm.Cond.code ({ cls := "java/lang/String", name := "equals", desc := "(Ljava/lang/Object;)Z" } : Jvm.MethodName) jdk_42_method_66_code (3 : Nat) (Option.some Jvm.ClassFile.FieldType.boolean)).before args0 about1 = true := code_word (m := ⟨9, 2⟩) (meth := k9m2) (c := k9c2) (by decide +kernel) rfl rfl rfl (by decide +kernel)
set_option maxRecDepth 65536 in
theorem w_c9 : (Jvm.Cond.code ({ cls := "java/lang/StringUTF16", name := "compress", desc := "([CII)[B" } : Jvm.MethodName) jdk_52_method_16_code (6 : Nat) (Option.some (Jvm.ClassFile.FieldType.array Jvm.ClassFile.FieldType.byte))).before args0 about1 = true := code_word (m := ⟨12, 2⟩) (meth := k12m2) (c := k12c2) (by decide +kernel) rfl rfl rfl (by decide +kernel)
set_option maxRecDepth 65536 in
theorem w_c10 : (Jvm.Cond.code ({ cls := "java/lang/StringUTF16", name := "compress", desc := "([CI[BII)I" } : Jvm.MethodName) jdk_52_method_21_code (7 : Nat) (Option.some Jvm.ClassFile.FieldType.int)).before args0 about1 = true := code_word (m := ⟨12, 3⟩) (meth := k12m3) (c := k12c3) (by decide +kernel) rfl rfl rfl (by decide +kernel)
set_option maxRecDepth 65536 in
theorem w_c11 : (Jvm.Cond.code ({ cls := "java/lang/StringUTF16", name := "coderFromArrayLen", desc := "([BI)B" } : Jvm.MethodName) jdk_52_method_15_code (2 : Nat) (Option.some Jvm.ClassFile.FieldType.byte)).before args0 about1 = true := code_word (m := ⟨12, 1⟩) (meth := k12m1) (c := k12c1) (by decide +kernel) rfl rfl rfl (by decide +kernel)
set_option maxRecDepth 65536 in
theorem w_c12 : (Jvm.Cond.code ({ cls := "com/example/matchbook/matchbook/book/OwnerEqualsPinLaw", name := "same", desc := "(ICCICC)Z" } : Jvm.MethodName) method_3_code (6 : Nat) (Option.some Jvm.ClassFile.FieldType.boolean)).before args0 about1 = true := code_word (m := ⟨1, 2⟩) (meth := k1m2) (c := k1c2) (by decide +kernel) rfl rfl rfl (by decide +kernel)
set_option maxRecDepth 65536 in
theorem w_c13 : (Jvm.Cond.code ({ cls := "java/lang/StringLatin1", name := "equals", desc := "([B[B)Z" } : Jvm.MethodName) jdk_43_method_13_code (3 : Nat) (Option.some Jvm.ClassFile.FieldType.boolean)).before args0 about1 = true := code_word (m := ⟨13, 1⟩) (meth := k13m1) (c := k13c1) (by decide +kernel) rfl rfl rfl (by decide +kernel)
def codes1 : List Jvm.Cond := [Jvm.Cond.code x code maxLocals ret, Jvm.Cond.code ({ cls := "com/example/matchbook/matchbook/book/OwnerEqualsPinLaw", name := "str", desc := "(ICC)Ljava/lang/String;" } : Jvm.MethodName) method_2_code (4 : Nat) (Option.some (Jvm.ClassFile.FieldType.object "java/lang/String")), Jvm.Cond.code ({ cls := "java/lang/String", name := "<init>", desc := "([C)V" } : Jvm.MethodName) jdk_42_method_3_code (2 : Nat) (Option.none : Option Jvm.ClassFile.FieldType), Jvm.Cond.code ({ cls := "java/lang/String", name := "<init>", desc := "([CIILjava/lang/Void;)V" } : Jvm.MethodName) jdk_42_method_149_code (6 : Nat) (Option.none : Option Jvm.ClassFile.FieldType), Jvm.Cond.code ({ cls := "java/lang/Object", name := "<init>", desc := "()V" } : Jvm.MethodName) object_method_1_code (1 : Nat) (Option.none : Option Jvm.ClassFile.FieldType), Jvm.Cond.code ({ cls := "com/example/matchbook/matchbook/book/Owner", name := "<init>", desc := "(Ljava/lang/String;Ljava/lang/String;Lcom/example/matchbook/matchbook/book/MatchKind;)V" } : Jvm.MethodName) prog_16_method_1_code (4 : Nat) (Option.none : Option Jvm.ClassFile.FieldType), Jvm.Cond.code ({ cls := "java/util/Objects", name := "requireNonNull", desc := "(Ljava/lang/Object;Ljava/lang/String;)Ljava/lang/Object;" } : Jvm.MethodName) jdk_31_method_11_code (2 : Nat) (Option.some (Jvm.ClassFile.FieldType.object "java/lang/Object")), Jvm.Cond.code ({ cls := "com/example/matchbook/matchbook/book/Owner", name := "equals", desc := "(Ljava/lang/Object;)Z" } : Jvm.MethodName) prog_16_method_6_code (3 : Nat) (Option.some Jvm.ClassFile.FieldType.boolean), Jvm.Cond.code ({ cls := "java/lang/String", name := "equals", desc := "(Ljava/lang/Object;)Z" } : Jvm.MethodName) jdk_42_method_66_code (3 : Nat) (Option.some Jvm.ClassFile.FieldType.boolean), Jvm.Cond.code ({ cls := "java/lang/StringUTF16", name := "compress", desc := "([CII)[B" } : Jvm.MethodName) jdk_52_method_16_code (6 : Nat) (Option.some (Jvm.ClassFile.FieldType.array Jvm.ClassFile.FieldType.byte)), Jvm.Cond.code ({ cls := "java/lang/StringUTF16", name := "compress", desc := "([CI[BII)I" } : Jvm.MethodName) jdk_52_method_21_code (7 : Nat) (Option.some Jvm.ClassFile.FieldType.int), Jvm.Cond.code ({ cls := "java/lang/StringUTF16", name := "coderFromArrayLen", desc := "([BI)B" } : Jvm.MethodName) jdk_52_method_15_code (2 : Nat) (Option.some Jvm.ClassFile.FieldType.byte), Jvm.Cond.code ({ cls := "com/example/matchbook/matchbook/book/OwnerEqualsPinLaw", name := "same", desc := "(ICCICC)Z" } : Jvm.MethodName) method_3_code (6 : Nat) (Option.some Jvm.ClassFile.FieldType.boolean), Jvm.Cond.code ({ cls := "java/lang/StringLatin1", name := "equals", desc := "([B[B)Z" } : Jvm.MethodName) jdk_43_method_13_code (3 : Nat) (Option.some Jvm.ClassFile.FieldType.boolean)]
set_option maxRecDepth 65536 in
theorem codes_eq : words1.filter isCode = codes1 := rfl
theorem w_codes : ∀ c ∈ words1.filter isCode, c.before args0 about1 = true := by
  rw [codes_eq]
  intro c hc
  simp only [codes1, List.mem_cons, List.not_mem_nil, or_false] at hc
  rcases hc with rfl | rfl | rfl | rfl | rfl | rfl | rfl | rfl | rfl | rfl | rfl | rfl | rfl | rfl
  · exact w_c0
  · exact w_c1
  · exact w_c2
  · exact w_c3
  · exact w_c4
  · exact w_c5
  · exact w_c6
  · exact w_c7
  · exact w_c8
  · exact w_c9
  · exact w_c10
  · exact w_c11
  · exact w_c12
  · exact w_c13
set_option maxRecDepth 65536 in
theorem w_t1 : (words1.take 24).all (fun c => isCode c || c.before args0 about1) = true := by decide +kernel
set_option maxRecDepth 65536 in
theorem w_t2 : ((words1.drop 24).take 24).all (fun c => isCode c || c.before args0 about1) = true := by decide +kernel
set_option maxRecDepth 65536 in
theorem w_t3 : (((words1.drop 24).drop 24).take 24).all (fun c => isCode c || c.before args0 about1) = true := by decide +kernel
set_option maxRecDepth 65536 in
theorem w_t4 : (((words1.drop 24).drop 24).drop 24).all (fun c => isCode c || c.before args0 about1) = true := by decide +kernel
theorem w_tables : (allAtoms (Jvm.Cond.code x code maxLocals ret :: tables_1)).before args0 about1 = true := by
  rw [allAtoms_all]
  show words1.all (fun c => c.before args0 about1) = true
  refine all_split ?_ w_codes
  rw [← List.take_append_drop 24 words1, List.all_append, w_t1, ← List.take_append_drop 24 (words1.drop 24), List.all_append, w_t2, ← List.take_append_drop 24 ((words1.drop 24).drop 24), List.all_append, w_t3, w_t4]
  rfl
set_option maxRecDepth 65536 in
theorem w_rest : rest_1_c.before args0 about1 = true := by decide +kernel
set_option maxRecDepth 65536 in
theorem w_case : (Jvm.Cond.and given_1 narrow_1).before args0 about1 = true := by decide +kernel
set_option maxRecDepth 65536 in
theorem w_consts : constsHeld consts_1 about1 := Jvm.Lit.constsHeldB_iff.mp (by decide +kernel)
theorem w_applies : (headSpec (Jvm.Cond.code x code maxLocals ret :: tables_1) room_1).applies x e0.platform about1 = true :=
  (Spec.applies_iff w_frames).mpr ⟨w_running, w_runnable, w_alone, w_named, w_hears, w_ripe, w_room, w_tables⟩
theorem atStart : AtStart classFile x code maxLocals ret World_1 tables_1 room_1 Calls_1 rest_1 Pre_1 launch0 p0 e0 about1 theMethod args0 below0 :=
  ⟨lists_1, trivial, launch0.admits_env _ _ _, launch0.least_env, fairChoices_fair.cas, fairChoices_fair.clock, w_frames, w_args, w_heap, w_applies, ⟨w_consts, trivial⟩, w_rest, w_case⟩
end start1
theorem witness_1 : WitnessClaimed_1 := ⟨start1.p0, start1.e0, start1.about1, start1.theMethod, start1.args0, start1.below0, start1.atStart⟩
end Jvm.Pilot.@@N@@
