import JvmDerived
import JvmDerived.Pilot.@@N@@Statement
import JvmDerived.Pilot.@@N@@Code
set_option linter.unusedVariables false
set_option linter.unusedSimpArgs false


namespace Jvm.OwnW
open Sem ClassFile Op Lib Jvm.Free Jvm.LawKit Jvm.RoadKit
abbrev Cx : Type := Program × Env × State × MethodId × Array Value × List Frame × Method × Code
abbrev Cx.p (x : Cx) : Program := x.1
abbrev Cx.e (x : Cx) : Env := x.2.1
abbrev Cx.s (x : Cx) : State := x.2.2.1
abbrev Cx.m (x : Cx) : MethodId := x.2.2.2.1
abbrev Cx.args (x : Cx) : Array Value := x.2.2.2.2.1
abbrev Cx.below (x : Cx) : List Frame := x.2.2.2.2.2.1
abbrev Cx.meth (x : Cx) : Method := x.2.2.2.2.2.2.1
abbrev Cx.c (x : Cx) : Code := x.2.2.2.2.2.2.2
/-- how a contract ends: narrow or wide -/
def FinE (wd : Bool) (Z : State) (EL : List (String × Nat)) (s : State) (o : Outcome) (t : State) (L : List Loc) (k n : Nat) : Prop :=
  match wd with
  | false => FrameEnd s o t L k n
  | true => CHr Z EL s.vm s.heap t.vm t.heap ∧ ReturnedEndW s o t L k n
def Ct (wd : Bool) (l : Launch) (Z : State) (EL : List (String × Nat)) (y : MethodName) (bytes : ByteArray) (maxL : Nat) (ret : Option FieldType) (ws : List Jvm.Cond) (R : Room) (sf : List Addr) (as' : Array Value) (h : Heap) (Q : Option Value → Heap → Prop) : Prop :=
  MetFree l y (head1 (Jvm.Cond.code y bytes maxL ret :: ws) R) (fun a U => a = as' ∧ Z.Warmed39 U.vm ∧ U.heap = h ∧ (wd = true → CHv Z EL U.vm h ∧ ∀ y ∈ sf, Safe Z EL U.vm h y)) (fun _ _ _ _ _ => True)
    (fun _ U o U' => ∃ v L, o = .returned v ∧ (Q v U'.heap ∧ Fr Z.heap.size L ∧ Ext Z.heap U'.heap ∧ h.size ≤ U'.heap.size) ∧ FinE wd Z EL U o U' L R.cells R.slots)
def Go (x : Cx) (wd : Bool) (Z : State) (EL : List (String × Nat)) (R : Room) (Q : Option Value → Heap → Prop) (T : State) (pc : Nat) (ls : Array Slot) (st : List Value) : Prop :=
  ∃ s₂ o, Steps x.p.tables x.e x.below (T.setTop (mkF x.m pc ls st)) s₂ ∧ s₂.status = .running ∧ Ended s₂ x.below o ∧ ∃ v L, o = .returned v ∧ (Q v s₂.heap ∧ Fr Z.heap.size L ∧ Ext Z.heap s₂.heap ∧ x.s.heap.size ≤ s₂.heap.size) ∧ FinE wd Z EL x.s o s₂ L R.cells R.slots
def W (x : Cx) (wd : Bool) (l : Launch) (Z : State) (EL : List (String × Nat)) (R : Room) (own : String) (code : ByteArray) (mx : Nat) (ret : Option FieldType) (nm : String) (T : State) (h : Heap) (k n : Nat) (sf : List Addr) : Prop :=
  x.p.tables.exec = Jvm.exec ∧ x.c.code = code ∧ x.c.maxLocals = mx ∧ x.meth.sig.returnType = ret ∧ x.meth.name = nm ∧ x.meth.locks = false ∧ T.heap = h ∧ Ext Z.heap h ∧ k ≤ R.cells ∧ n ≤ R.slots ∧ (∀ y ∈ sf, Z.heap.size ≤ y ∧ y < h.size) ∧ (∃ a0, EW Z a0 EL) ∧
    ∃ (L : List Loc) (vm0 : Vm), Fr Z.heap.size L ∧ (wd = false → vm0 = x.s.vm) ∧ Stand x.p l x.e R (x.s.setVm vm0) x.m x.args x.below x.meth x.c T L k n ∧ x.s.Since vm0 h.size ∧ Z.Warmed39 vm0 ∧ vm0.findClass own = some x.m.cls ∧ (wd = true → CHr Z EL x.s.vm x.s.heap vm0 h ∧ ∀ y ∈ sf, Safe Z EL vm0 h y)
/-- an instruction, its length, the next pc -/
def Dc (code : ByteArray) (pc : Nat) (i : Instr) (len pc' : Nat) : Prop := decode code pc = .ok (i, len) ∧ pc + len = pc'
/-- where a branch goes -/
def Tg (pc : Nat) (o : Int) (pc' : Nat) : Prop := 0 ≤ (pc : Int) + o ∧ ((pc : Int) + o).toNat = pc'
theorem since_mono {s : State} {vm : Vm} {n n' : Nat} (h : s.Since vm n) (q : n ≤ n') : s.Since vm n' := ⟨h.1, h.2.mono q⟩
theorem setVm_self (s : State) : s.setVm s.vm = s := rfl
theorem ext_refl (h : Heap) : Ext h h := ⟨Nat.le_refl _, fun _ _ q => q⟩
theorem ext_trans {a b c : Heap} (h1 : Ext a b) (h2 : Ext b c) : Ext a c := ⟨Nat.le_trans h1.1 h2.1, fun x q r => h2.2 x q (h1.2 x q r)⟩
theorem ext_wr {Z : State} {h h' : Heap} {a : Addr} {sl : Nat} {v : Value} (E : Ext Z.heap h) (w : Wr h h' a sl v) (q : Z.heap.size ≤ a) : Ext Z.heap h' := (Old.wr ⟨rfl, E⟩ w q).2
theorem keep_ext {h h' : Heap} {ws : List Addr} (E : Ext h h') : Keep h h' ws := (Keep.refl h ws).ext E
theorem ext_keep {h h' : Heap} (K : Keep h h' []) : Ext h h' := ⟨K.1, fun x c q => K.2.1 x c q nin0⟩
theorem keep_to {h0 h h' : Heap} {ws : List Addr} (E : Ext h0 h) (K : Keep h h' ws) (q : ∀ x ∈ ws, h0.size ≤ x) : Ext h0 h' :=
  ⟨Nat.le_trans E.1 K.1, fun x c r => K.2.1 x c (E.2 x c r) fun z => absurd (Array.getElem?_eq_some_iff.mp r).1 (Nat.not_lt.mpr (q x z))⟩
theorem Ct.mono {wd : Bool} {l : Launch} {Z : State} {EL : List (String × Nat)} {y : MethodName} {bytes : ByteArray} {maxL : Nat} {ret : Option FieldType} {ws : List Jvm.Cond} {R : Room} {sf : List Addr} {as' : Array Value} {h : Heap} {Q Q' : Option Value → Heap → Prop} (C : Ct wd l Z EL y bytes maxL ret ws R sf as' h Q) (q : ∀ v u, Q v u → Q' v u) : Ct wd l Z EL y bytes maxL ret ws R sf as' h Q' := by
  intro p e h1 h2 h3 s m args below h4 h5 h6 h7
  obtain ⟨n, o, a1, a2, a3, v, L, a4, a5, a6⟩ := C p e h1 h2 h3 s m args below h4 h5 h6 h7
  exact ⟨n, o, a1, a2, a3, v, L, a4, ⟨q _ _ a5.1, a5.2⟩, a6⟩
theorem Ct.intro {wd : Bool} {l : Launch} {Z : State} {EL : List (String × Nat)} {y : MethodName} {bytes : ByteArray} {maxL : Nat} {ret : Option FieldType} {ws : List Jvm.Cond} {R : Room} {sf : List Addr} {as' : Array Value} {h : Heap} {Q : Option Value → Heap → Prop} {ls : Array Slot}
    (hpl : plainName y.cls = true) (hE : Ext Z.heap h) (ef : ∀ m, entryFrame m as' maxL = mkF m 0 ls []) (hsf : ∀ y ∈ sf, Z.heap.size ≤ y ∧ y < h.size) (hEL : ∃ a0, EW Z a0 EL)
    (body : ∀ (x : Cx) (T : State), W x wd l Z EL R y.cls bytes maxL ret y.name T h 0 0 sf → Go x wd Z EL R Q T 0 ls []) : Ct wd l Z EL y bytes maxL ret ws R sf as' h Q := by
  refine MetFree.of_bodySF (plainFor_of_name hpl) hisR ?_
  intro p e s m args below meth c s₁ Bd hml0 hP hK
  obtain ⟨rfl, hZ, hh, hC⟩ := hP
  have hown : s.vm.findClass y.cls = some m.cls := findClass_of_methodNamed Bd.named
  have hnm := (name_of_methodNamed Bd.named Bd.method).1
  have e0 : s₁.heap = h := by rw [← hh, Bd.state]; rfl
  obtain ⟨s₂, o, a1, a2, a3, v, L, a4, a5, a6⟩ := body (p, e, s, m, args, below, meth, c) s₁ ⟨Bd.exec, Bd.bytes, hml0, Bd.returns, hnm, Bd.notSynchronized, e0, hE, Nat.zero_le _, Nat.zero_le _, hsf, hEL, [], s.vm, Fr.nil _, fun _ => rfl, Stand.of_body Bd, (State.WarmedH.refl s).since _, hZ, hown, fun q => ⟨by show CHr Z EL s.vm s.heap s.vm h; rw [hh]; exact CHr.refl (hC q).1, (hC q).2⟩⟩
  exact ⟨s₂, o, castTop (ef m) a1, a2, a3, v, L, a4, ⟨a5.1, a5.2.1, a5.2.2.1, by rw [← hh]; exact a5.2.2.2⟩, a6⟩
theorem nosf {Z : State} {h : Heap} : ∀ y ∈ ([] : List Addr), Z.heap.size ≤ y ∧ y < h.size := fun _ q => nomatch q
theorem onesf {Z : State} {h : Heap} {a : Addr} (g : Z.heap.size ≤ a) (q : a < h.size) : ∀ y ∈ [a], Z.heap.size ≤ y ∧ y < h.size := fun y z => by cases List.mem_singleton.mp z; exact ⟨g, q⟩
theorem noEL {Z : State} {a0 : Array Value} : ∃ a0, EW Z a0 [] := ⟨a0, EW.nil⟩
/-- a wide callee's contract, as the library's calls want it -/
theorem backW {p : Program} {l : Launch} {e : Env} {R : Room} {s : State} {args : Array Value} {below : List Frame} {Z : State} {a0 : Array Value} {EL : List (String × Nat)} {h : Heap} {vm0 : Vm} {y : MethodName} {bytes : ByteArray} {maxL : Nat} {ret : Option FieldType} {rm : Room} {len Wn : Nat} {as' : Array Value} {sf : List Addr} {Q : Option Value → Heap → Prop}
    (hM : Ct true l Z EL y bytes maxL ret [] rm sf as' h Q) (hZ : Z.Warmed39 vm0) (wc : (Jvm.Cond.code y bytes maxL ret).before a0 Z = true) (wz : (Jvm.Cond.initialized y.cls).before a0 Z = true) (hf : rm.frames + 1 ≤ R.frames) (hl : Wn + (maxL + 11) + rm.locals ≤ R.locals) (hEL : ∃ a0, EW Z a0 EL) (H : CHv Z EL vm0 h) (hsf : ∀ y ∈ sf, y < h.size ∧ Safe Z EL vm0 h y) :
    BackS l R p e below (s.setVm vm0) args y len Wn (fun A a => a = as' ∧ A.U.heap = h ∧ A.cells + rm.cells ≤ R.cells ∧ A.slots + rm.slots ≤ R.slots)
      (fun A _ v B => ∃ L, (Q v B.U.heap ∧ Fr Z.heap.size L ∧ Ext Z.heap B.U.heap ∧ h.size ≤ B.U.heap.size) ∧ B.locs = A.locs ++ L ∧ B.cells = A.cells + rm.cells ∧ B.slots = A.slots + rm.slots ∧ CHr Z EL vm0 h B.U.vm B.U.heap) := by
  obtain ⟨a1, hEL⟩ := hEL
  exact BackS.of_freeW (bytes := bytes) (maxL := maxL) (ret := ret) (E := fun _ first o t L k n => k = rm.cells ∧ n = rm.slots ∧ (∃ v, o = .returned v ∧ (Q v t.heap ∧ Fr Z.heap.size L ∧ Ext Z.heap t.heap ∧ h.size ≤ t.heap.size)) ∧ CHr Z EL first.vm first.heap t.vm t.heap) hM hf hl
    (fun m meth c A a Y hp => have hU : Z.Warmed39 A.U.vm := wtrans (s := s.setVm vm0) hZ Y.warmed
      ⟨by show (Jvm.Cond.and _ .tt).before a A.U = true; rw [Cond.before_and, mv hU wc]; rfl, mv hU wc, mv hU wz, hp.2.2.1, hp.2.2.2⟩)
    (fun m meth c A a g mk Y hp => ⟨hp.1, wtrans (s := s.setVm vm0) hZ Y.warmed, hp.2.1, fun _ => ⟨(CHv.at Y hZ hEL H).1, fun y hy => (CHv.at Y hZ hEL H).safe (hsf y hy).1 (hsf y hy).2⟩⟩) (fun _ _ _ _ _ _ _ _ _ => trivial)
    (fun _ _ _ _ ⟨v, L, h1, h2, h3, h4⟩ => ⟨L, _, _, h4, rfl, rfl, ⟨v, h1, h2⟩, h3⟩)
    (fun m meth c A a g mk v t L k n Y hp _ _ ⟨e1, e2, ⟨v', e3, e4⟩, e5⟩ => by
      cases e3; subst e1 e2
      refine ⟨L, e4, rfl, rfl, rfl, (CHv.at Y hZ hEL H).trans ?_⟩
      rw [← hp.2.1]; exact e5)
/-- a narrow callee's -/
theorem backN {p : Program} {l : Launch} {e : Env} {R : Room} {s : State} {args : Array Value} {below : List Frame} {Z : State} {a0 : Array Value} {EL : List (String × Nat)} {h : Heap} {y : MethodName} {bytes : ByteArray} {maxL : Nat} {ret : Option FieldType} {rm : Room} {len Wn : Nat} {as' : Array Value} {sf : List Addr} {Q : Option Value → Heap → Prop}
    (hM : Ct false l Z EL y bytes maxL ret [] rm sf as' h Q) (hZ : Z.Warmed39 s.vm) (wc : (Jvm.Cond.code y bytes maxL ret).before a0 Z = true) (wz : (Jvm.Cond.initialized y.cls).before a0 Z = true) (hf : rm.frames + 1 ≤ R.frames) (hl : Wn + (maxL + 11) + rm.locals ≤ R.locals) :
    Back l R p e below s args y len Wn (fun A a => a = as' ∧ A.U.heap = h ∧ A.cells + rm.cells ≤ R.cells ∧ A.slots + rm.slots ≤ R.slots)
      (fun A _ v B => ∃ L, (Q v B.U.heap ∧ Fr Z.heap.size L ∧ Ext Z.heap B.U.heap ∧ h.size ≤ B.U.heap.size) ∧ B.locs = A.locs ++ L ∧ B.cells = A.cells + rm.cells ∧ B.slots = A.slots + rm.slots) :=
  backOf (Q := fun v u L => Q v u ∧ Fr Z.heap.size L ∧ Ext Z.heap u ∧ h.size ≤ u.size) (fun p e h1 h2 h3 s m args below h4 h5 h6 h7 => hM p e h1 h2 h3 s m args below h4 h5 ⟨h6.1, h6.2.1, h6.2.2, fun q => by cases q⟩ h7) hZ wc wz hf hl
section Laws
variable {x : Cx} {wd : Bool} {l : Launch} {Z : State} {EL : List (String × Nat)} {sf : List Addr} {R : Room} {own : String} {code : ByteArray} {mx : Nat} {ret : Option FieldType} {nm : String} {T : State} {h : Heap} {k n : Nat} {Q : Option Value → Heap → Prop} {pc pc' pcT : Nat} {ls : Array Slot} {st : List Value} {a0 : Array Value}
theorem W.old (w : W x wd l Z EL R own code mx ret nm T h k n sf) : Ext Z.heap h := w.2.2.2.2.2.2.2.1
theorem W.size (w : W x wd l Z EL R own code mx ret nm T h k n sf) : Z.heap.size ≤ h.size := w.old.1
theorem W.sta {C f d : String} {v : Value} (w : W x wd l Z EL R own code mx ret nm T h k n sf) (F : Sta Z Z.heap C f d v) : Sta Z h C f d v := F.ext w.old
/-- more cells and slots may be booked -/
theorem W.more {k' n' : Nat} (w : W x wd l Z EL R own code mx ret nm T h k n sf) (hk : k ≤ k') (hn : n ≤ n') (hk' : k' ≤ R.cells) (hn' : n' ≤ R.slots) : W x wd l Z EL R own code mx ret nm T h k' n' sf := by
  obtain ⟨a1, a2, a3, a4, a5, a6, a7, a8, a9, a10, a13, a14, L, vm0, a11, a12, X, b1, b2, b3, b4⟩ := w
  exact ⟨a1, a2, a3, a4, a5, a6, a7, a8, hk', hn', a13, a14, L, vm0, a11, a12, X.mono hk hn, b1, b2, b3, b4⟩
/-- fewer places that may be written -/
theorem W.less {sf' : List Addr} (w : W x wd l Z EL R own code mx ret nm T h k n sf) (q : ∀ y ∈ sf', y ∈ sf) : W x wd l Z EL R own code mx ret nm T h k n sf' := by
  obtain ⟨a1, a2, a3, a4, a5, a6, a7, a8, a9, a10, a13, a14, L, vm0, a11, a12, X, b1, b2, b3, b4⟩ := w
  exact ⟨a1, a2, a3, a4, a5, a6, a7, a8, a9, a10, fun y hy => a13 y (q y hy), a14, L, vm0, a11, a12, X, b1, b2, b3, fun e => ⟨(b4 e).1, fun y hy => (b4 e).2 y (q y hy)⟩⟩
theorem W.go {pc' : Nat} {ls' : Array Slot} {st' : List Value} (w : W x wd l Z EL R own code mx ret nm T h k n sf)
    (f : At T x.m x.c x.below → x.p.tables.exec = Jvm.exec → x.c.code = code → ∀ target, Steps x.p.tables x.e x.below (T.setTop (mkF x.m pc' ls' st')) target → Steps x.p.tables x.e x.below (T.setTop (mkF x.m pc ls st)) target)
    (K : Go x wd Z EL R Q T pc' ls' st') : Go x wd Z EL R Q T pc ls st := by
  obtain ⟨s₂, o, a1, r⟩ := K
  obtain ⟨hx, hb, -, -, -, -, -, -, -, -, -, -, L, vm0, -, -, X, -⟩ := w
  exact ⟨s₂, o, f X.here hx hb _ a1, r⟩
/-- a step that only warms the tables -/
theorem W.goT {pc' : Nat} {ls' : Array Slot} {st' : List Value} (w : W x wd l Z EL R own code mx ret nm T h k n sf)
    (f : ∀ (s0 : State) (L : List Loc), Stand x.p l x.e R s0 x.m x.args x.below x.meth x.c T L k n → x.p.tables.exec = Jvm.exec → Z.Warmed39 s0.vm → s0.vm.findClass own = some x.m.cls → x.c.code = code → x.c.maxLocals = mx → T.heap = h → ∃ T', Stand x.p l x.e R s0 x.m x.args x.below x.meth x.c T' L k n ∧ T'.heap = h ∧ ∀ target, Steps x.p.tables x.e x.below (T'.setTop (mkF x.m pc' ls' st')) target → Steps x.p.tables x.e x.below (T.setTop (mkF x.m pc ls st)) target)
    (K : ∀ T', W x wd l Z EL R own code mx ret nm T' h k n sf → Go x wd Z EL R Q T' pc' ls' st') : Go x wd Z EL R Q T pc ls st := by
  obtain ⟨hx, hb, hm, hr, hn, hl, e0, E, c1, c2, hs, hEL, L, vm0, N, g, X, S, hZ, ho, hC⟩ := w
  obtain ⟨T', X', e', stp⟩ := f _ L X hx hZ ho hb hm e0
  obtain ⟨s₂, o, a1, r⟩ := K T' ⟨hx, hb, hm, hr, hn, hl, e', E, c1, c2, hs, hEL, L, vm0, N, g, X', S, hZ, ho, hC⟩
  exact ⟨s₂, o, stp _ a1, r⟩
/-- a step that makes a cell -/
theorem W.goN {pc' : Nat} {ls' : Array Slot} {st' : List Value} {k' n' : Nat} {P : Heap → Prop} (w : W x wd l Z EL R own code mx ret nm T h k n sf) (hk : k' ≤ R.cells) (hn' : n' ≤ R.slots)
    (f : ∀ (s0 : State) (L : List Loc), Stand x.p l x.e R s0 x.m x.args x.below x.meth x.c T L k n → x.p.tables.exec = Jvm.exec → Z.Warmed39 s0.vm → s0.vm.findClass own = some x.m.cls → x.c.code = code → x.c.maxLocals = mx → T.heap = h → ∃ T' h', Stand x.p l x.e R s0 x.m x.args x.below x.meth x.c T' L k' n' ∧ T'.heap = h' ∧ Ext h h' ∧ h.size < h'.size ∧ P h' ∧ ∀ target, Steps x.p.tables x.e x.below (T'.setTop (mkF x.m pc' ls' st')) target → Steps x.p.tables x.e x.below (T.setTop (mkF x.m pc ls st)) target)
    (K : ∀ T' h', W x wd l Z EL R own code mx ret nm T' h' k' n' (h.size :: sf) → Ext h h' → P h' → Go x wd Z EL R Q T' pc' ls' st') : Go x wd Z EL R Q T pc ls st := by
  obtain ⟨hx, hb, hm, hr, hn, hl, e0, E, c1, c2, hs, hEL, L, vm0, N, g, X, S, hZ, ho, hC⟩ := w
  obtain ⟨T', h', X', e', E', hlt, p', stp⟩ := f _ L X hx hZ ho hb hm e0
  obtain ⟨s₂, o, a1, r⟩ := K T' h' ⟨hx, hb, hm, hr, hn, hl, e', ext_trans E E', hk, hn', fun y hy => by
      rcases List.mem_cons.mp hy with rfl | hy
      · exact ⟨E.1, hlt⟩
      · exact ⟨(hs y hy).1, Nat.lt_of_lt_of_le (hs y hy).2 E'.1⟩, hEL, L, vm0, N, g, X', since_mono S E'.1, hZ, ho, fun q => ⟨(hC q).1.trans (CHr.ext E' (hC q).1.1), fun y hy => by
      rcases List.mem_cons.mp hy with rfl | hy
      · exact (Safe.new (Nat.le_refl _)).ext E' (hC q).1.1
      · exact ((hC q).2 y hy).ext E' (hC q).1.1⟩⟩ E' p'
  exact ⟨s₂, o, stp _ a1, r⟩
/-- a step that writes one place of a new cell -/
theorem W.goW {pc' : Nat} {ls' : Array Slot} {st' : List Value} {a : Addr} {sl : Nat} {v : Value} (w : W x wd l Z EL R own code mx ret nm T h k n sf) (ha : a ∈ sf)
    (f : ∀ (s0 : State) (L : List Loc), Stand x.p l x.e R s0 x.m x.args x.below x.meth x.c T L k n → x.p.tables.exec = Jvm.exec → Z.Warmed39 s0.vm → s0.vm.findClass own = some x.m.cls → x.c.code = code → x.meth.name = nm → T.heap = h → ∃ T' h', Stand x.p l x.e R s0 x.m x.args x.below x.meth x.c T' (L ++ [⟨a, sl⟩]) k n ∧ T'.heap = h' ∧ Wr h h' a sl v ∧ ∀ target, Steps x.p.tables x.e x.below (T'.setTop (mkF x.m pc' ls' st')) target → Steps x.p.tables x.e x.below (T.setTop (mkF x.m pc ls st)) target)
    (K : ∀ T' h', W x wd l Z EL R own code mx ret nm T' h' k n sf → Wr h h' a sl v → Go x wd Z EL R Q T' pc' ls' st') : Go x wd Z EL R Q T pc ls st := by
  obtain ⟨hx, hb, hm, hr, hn, hl, e0, E, c1, c2, hs, hEL, L, vm0, N, g, X, S, hZ, ho, hC⟩ := w
  obtain ⟨T', h', X', e', W', stp⟩ := f _ L X hx hZ ho hb hn e0
  have hz := W'.size
  obtain ⟨s₂, o, a1, r⟩ := K T' h' ⟨hx, hb, hm, hr, hn, hl, e', ext_wr E W' (hs a ha).1, c1, c2, fun y hy => ⟨(hs y hy).1, by rw [hz]; exact (hs y hy).2⟩, hEL, _, vm0, Fr.snoc X' N (hs a ha).1, g, X', since_mono S (Nat.le_of_eq hz.symm), hZ, ho, fun q => ⟨(hC q).1.trans (CHr.wr W' ((hC q).2 a ha) (hC q).1.1), fun y hy => Safe.wr W' ((hC q).2 a ha) (hC q).1.1 ((hC q).2 y hy)⟩⟩ W'
  exact ⟨s₂, o, stp _ a1, r⟩
/-- the end: the value v is handed back -/
theorem W.done {v : Option Value} (w : W x wd l Z EL R own code mx ret nm T h k n sf) (hv : ret = none → v = none) (hQ : Q v h)
    (f : ∀ (s0 : State) (L : List Loc), Stand x.p l x.e R s0 x.m x.args x.below x.meth x.c T L k n → x.p.tables.exec = Jvm.exec → x.c.code = code → x.meth.sig.returnType = ret → ∀ fs : List Frame, (∀ (f : JFrame) (acts : List Action), f.method = x.m → f.locked = none → f.entered = [] → (doReturn x.e (T.setTop f) acts v).1 = T.setFrames fs) → Steps x.p.tables x.e x.below (T.setTop (mkF x.m pc ls st)) (T.setFrames fs)) : Go x wd Z EL R Q T pc ls st := by
  obtain ⟨hx, hb, hm, hr, hn, hl, e0, E, c1, c2, hs, ⟨a9, hEL⟩, L, vm0, N, g, X, S, hZ, ho, hC⟩ := w
  have hv' : x.meth.sig.returnType = none → v = none := fun q => hv (hr ▸ q)
  have hh : ∀ fs, (T.setFrames fs).heap = h := fun fs => e0
  have hg : ∀ fs, x.s.heap.size ≤ (T.setFrames fs).heap.size := fun fs => X.same.2.1
  cases wd with
  | false =>
    have eq := g rfl
    subst eq
    obtain ⟨fs, h1, h2, h3, h4, h5⟩ := X.leave (v := v) hv' hl
    exact ⟨_, _, f _ L X hx hb hr fs h1, h2, h3, v, L, rfl, ⟨(hh fs).symm ▸ hQ, N, (hh fs).symm ▸ E, hg fs⟩, ⟨⟨v, rfl⟩, h4, h5.mono c1 c2⟩⟩
  | true =>
    obtain ⟨fs, h1, h2, h3, h4⟩ := X.leaveW S (by rw [e0]; exact Nat.le_refl _) (v := v) hv' hl
    have hC2 : CHr Z EL x.s.vm x.s.heap T.vm T.heap := by rw [e0]; exact (hC rfl).1.trans (CHv.at X hZ hEL (hC rfl).1.1)
    exact ⟨_, _, f _ L X hx hb hr fs h1, h2, h3, v, L, rfl, ⟨(hh fs).symm ▸ hQ, N, (hh fs).symm ▸ E, hg fs⟩, hC2, ⟨h4.1, h4.2.1, h4.2.2.1, h4.2.2.2.mono c1 c2⟩⟩

theorem W.aloadN (w : W x wd l Z EL R own code mx ret nm T h k n sf) {i : Fin 4} {v : Value} (hd : Dc code pc (.aload_n i) 1 pc') (hl : ls[i.val]? = some (.val v)) (hv : v.isRef = true) (K : Go x wd Z EL R Q T pc' ls (v :: st)) : Go x wd Z EL R Q T pc ls st := by
  obtain ⟨hd, rfl⟩ := hd
  exact w.go (fun A hx hb t hr => XS.aloadN A hx rfl (Jvm.hb hb hd) hl hv hr) K
theorem W.aload (w : W x wd l Z EL R own code mx ret nm T h k n sf) {i : Nat} {v : Value} (hd : Dc code pc (.aload i) 2 pc') (hl : ls[i]? = some (.val v)) (hv : v.isRef = true) (K : Go x wd Z EL R Q T pc' ls (v :: st)) : Go x wd Z EL R Q T pc ls st := by
  obtain ⟨hd, rfl⟩ := hd
  exact w.go (fun A hx hb t hr => XS.aload A hx rfl (Jvm.hb hb hd) hl hv hr) K
theorem W.iloadN (w : W x wd l Z EL R own code mx ret nm T h k n sf) {i : Fin 4} {v : Int32} (hd : Dc code pc (.iload_n i) 1 pc') (hl : ls[i.val]? = some (.val (.int v))) (K : Go x wd Z EL R Q T pc' ls (.int v :: st)) : Go x wd Z EL R Q T pc ls st := by
  obtain ⟨hd, rfl⟩ := hd
  exact w.go (fun A hx hb t hr => XS.iloadN A hx rfl (Jvm.hb hb hd) hl hr) K
theorem W.iload (w : W x wd l Z EL R own code mx ret nm T h k n sf) {i : Nat} {v : Int32} (hd : Dc code pc (.iload i) 2 pc') (hl : ls[i]? = some (.val (.int v))) (K : Go x wd Z EL R Q T pc' ls (.int v :: st)) : Go x wd Z EL R Q T pc ls st := by
  obtain ⟨hd, rfl⟩ := hd
  exact w.go (fun A hx hb t hr => XS.iload A hx rfl (Jvm.hb hb hd) hl hr) K
theorem W.lloadN (w : W x wd l Z EL R own code mx ret nm T h k n sf) {i : Fin 4} {v : Int64} (hd : Dc code pc (.lload_n i) 1 pc') (hl : ls[i.val]? = some (.val (.long v))) (K : Go x wd Z EL R Q T pc' ls (.long v :: st)) : Go x wd Z EL R Q T pc ls st := by
  obtain ⟨hd, rfl⟩ := hd
  exact w.go (fun A hx hb t hr => XT.lloadN A hx rfl (Jvm.hb hb hd) hl hr) K
theorem W.lload (w : W x wd l Z EL R own code mx ret nm T h k n sf) {i : Nat} {v : Int64} (hd : Dc code pc (.lload i) 2 pc') (hl : ls[i]? = some (.val (.long v))) (K : Go x wd Z EL R Q T pc' ls (.long v :: st)) : Go x wd Z EL R Q T pc ls st := by
  obtain ⟨hd, rfl⟩ := hd
  exact w.go (fun A hx hb t hr => XT.lload A hx rfl (Jvm.hb hb hd) hl hr) K
theorem W.iconst (w : W x wd l Z EL R own code mx ret nm T h k n sf) {i : Int} (v : Int32) (hd : Dc code pc (.iconst i) 1 pc') (hv : Int32.ofInt i = v) (K : Go x wd Z EL R Q T pc' ls (.int v :: st)) : Go x wd Z EL R Q T pc ls st := by
  obtain ⟨hd, rfl⟩ := hd
  exact w.go (fun A hx hb t hr => XT.iconstV A hx rfl v (Jvm.hb hb hd) hv hr) K
theorem W.bipush (w : W x wd l Z EL R own code mx ret nm T h k n sf) {i : Int} (v : Int32) (hd : Dc code pc (.bipush i) 2 pc') (hv : (Int8.ofInt i).toInt32 = v) (K : Go x wd Z EL R Q T pc' ls (.int v :: st)) : Go x wd Z EL R Q T pc ls st := by
  obtain ⟨hd, rfl⟩ := hd
  exact w.go (fun A hx hb t hr => XT.bipushV A hx rfl v (Jvm.hb hb hd) hv hr) K
theorem W.sipush (w : W x wd l Z EL R own code mx ret nm T h k n sf) {i : Int} (v : Int32) (hd : Dc code pc (.sipush i) 3 pc') (hv : (Int16.ofInt i).toInt32 = v) (K : Go x wd Z EL R Q T pc' ls (.int v :: st)) : Go x wd Z EL R Q T pc ls st := by
  obtain ⟨hd, rfl⟩ := hd
  exact w.go (fun A hx hb t hr => XT.sipushV A hx rfl v (Jvm.hb hb hd) hv hr) K
theorem W.lconst (w : W x wd l Z EL R own code mx ret nm T h k n sf) {i : Fin 2} (v : Int64) (hd : Dc code pc (.lconst i) 1 pc') (hv : Int64.ofNat i = v) (K : Go x wd Z EL R Q T pc' ls (.long v :: st)) : Go x wd Z EL R Q T pc ls st := by
  obtain ⟨hd, rfl⟩ := hd
  exact w.go (fun A hx hb t hr => XT.lconstV A hx rfl v (Jvm.hb hb hd) hv hr) K
theorem W.aconstNull (w : W x wd l Z EL R own code mx ret nm T h k n sf) (hd : Dc code pc .aconst_null 1 pc') (K : Go x wd Z EL R Q T pc' ls (.null :: st)) : Go x wd Z EL R Q T pc ls st := by
  obtain ⟨hd, rfl⟩ := hd
  exact w.go (fun A hx hb t hr => XS.aconstNull A hx rfl (Jvm.hb hb hd) hr) K
theorem W.iadd (w : W x wd l Z EL R own code mx ret nm T h k n sf) {a b : Int32} (hd : Dc code pc .iadd 1 pc') (K : Go x wd Z EL R Q T pc' ls (.int (a + b) :: st)) : Go x wd Z EL R Q T pc ls (.int b :: .int a :: st) := by
  obtain ⟨hd, rfl⟩ := hd
  exact w.go (fun A hx hb t hr => XS.iadd A hx rfl (Jvm.hb hb hd) rfl hr) K
theorem W.isub (w : W x wd l Z EL R own code mx ret nm T h k n sf) {a b : Int32} (hd : Dc code pc .isub 1 pc') (K : Go x wd Z EL R Q T pc' ls (.int (a - b) :: st)) : Go x wd Z EL R Q T pc ls (.int b :: .int a :: st) := by
  obtain ⟨hd, rfl⟩ := hd
  exact w.go (fun A hx hb t hr => XS.isub A hx rfl (Jvm.hb hb hd) rfl hr) K
theorem W.imul (w : W x wd l Z EL R own code mx ret nm T h k n sf) {a b : Int32} (hd : Dc code pc .imul 1 pc') (K : Go x wd Z EL R Q T pc' ls (.int (a * b) :: st)) : Go x wd Z EL R Q T pc ls (.int b :: .int a :: st) := by
  obtain ⟨hd, rfl⟩ := hd
  exact w.go (fun A hx hb t hr => XS.imul A hx rfl (Jvm.hb hb hd) rfl hr) K
theorem W.iand (w : W x wd l Z EL R own code mx ret nm T h k n sf) {a b : Int32} (hd : Dc code pc .iand 1 pc') (K : Go x wd Z EL R Q T pc' ls (.int (a &&& b) :: st)) : Go x wd Z EL R Q T pc ls (.int b :: .int a :: st) := by
  obtain ⟨hd, rfl⟩ := hd
  exact w.go (fun A hx hb t hr => XS.iand A hx rfl (Jvm.hb hb hd) rfl hr) K
theorem W.ior (w : W x wd l Z EL R own code mx ret nm T h k n sf) {a b : Int32} (hd : Dc code pc .ior 1 pc') (K : Go x wd Z EL R Q T pc' ls (.int (a ||| b) :: st)) : Go x wd Z EL R Q T pc ls (.int b :: .int a :: st) := by
  obtain ⟨hd, rfl⟩ := hd
  exact w.go (fun A hx hb t hr => XT.ior A hx rfl (Jvm.hb hb hd) rfl hr) K
theorem W.ixor (w : W x wd l Z EL R own code mx ret nm T h k n sf) {a b : Int32} (hd : Dc code pc .ixor 1 pc') (K : Go x wd Z EL R Q T pc' ls (.int (a ^^^ b) :: st)) : Go x wd Z EL R Q T pc ls (.int b :: .int a :: st) := by
  obtain ⟨hd, rfl⟩ := hd
  exact w.go (fun A hx hb t hr => XT.ixor A hx rfl (Jvm.hb hb hd) rfl hr) K
theorem W.iushr (w : W x wd l Z EL R own code mx ret nm T h k n sf) {a b : Int32} (hd : Dc code pc .iushr 1 pc') (K : Go x wd Z EL R Q T pc' ls (.int (XT.ushr a b) :: st)) : Go x wd Z EL R Q T pc ls (.int b :: .int a :: st) := by
  obtain ⟨hd, rfl⟩ := hd
  exact w.go (fun A hx hb t hr => XT.iushr A hx rfl (Jvm.hb hb hd) rfl hr) K
theorem W.ishl (w : W x wd l Z EL R own code mx ret nm T h k n sf) {a b : Int32} (hd : Dc code pc .ishl 1 pc') (K : Go x wd Z EL R Q T pc' ls (.int (a <<< (b &&& 31)) :: st)) : Go x wd Z EL R Q T pc ls (.int b :: .int a :: st) := by
  obtain ⟨hd, rfl⟩ := hd
  exact w.go (fun A hx hb t hr => XT.ishl A hx rfl (Jvm.hb hb hd) rfl hr) K
theorem W.ishr (w : W x wd l Z EL R own code mx ret nm T h k n sf) {a b : Int32} (hd : Dc code pc .ishr 1 pc') (K : Go x wd Z EL R Q T pc' ls (.int (a >>> (b &&& 31)) :: st)) : Go x wd Z EL R Q T pc ls (.int b :: .int a :: st) := by
  obtain ⟨hd, rfl⟩ := hd
  exact w.go (fun A hx hb t hr => XT.ishr A hx rfl (Jvm.hb hb hd) rfl hr) K
theorem W.irem (w : W x wd l Z EL R own code mx ret nm T h k n sf) {a b : Int32} (hd : Dc code pc .irem 1 pc') (hy : b ≠ 0) (K : Go x wd Z EL R Q T pc' ls (.int (a % b) :: st)) : Go x wd Z EL R Q T pc ls (.int b :: .int a :: st) := by
  obtain ⟨hd, rfl⟩ := hd
  have q : a - a / b * b = a % b := irem_eq_mod a b
  exact w.go (fun A hx hb t hr => XS.irem A hx rfl (Jvm.hb hb hd) rfl hy (by rw [q]; exact hr)) K
theorem W.idiv (w : W x wd l Z EL R own code mx ret nm T h k n sf) {a b : Int32} (hd : Dc code pc .idiv 1 pc') (hy : b ≠ 0) (K : Go x wd Z EL R Q T pc' ls (.int (a / b) :: st)) : Go x wd Z EL R Q T pc ls (.int b :: .int a :: st) := by
  obtain ⟨hd, rfl⟩ := hd
  exact w.go (fun A hx hb t hr => XS.idiv A hx rfl (Jvm.hb hb hd) rfl hy hr) K
theorem W.ineg (w : W x wd l Z EL R own code mx ret nm T h k n sf) {a : Int32} (hd : Dc code pc .ineg 1 pc') (K : Go x wd Z EL R Q T pc' ls (.int (-a) :: st)) : Go x wd Z EL R Q T pc ls (.int a :: st) := by
  obtain ⟨hd, rfl⟩ := hd
  exact w.go (fun A hx hb t hr => XS.ineg A hx rfl (Jvm.hb hb hd) rfl hr) K
theorem W.i2c (w : W x wd l Z EL R own code mx ret nm T h k n sf) {a : Int32} (hd : Dc code pc .i2c 1 pc') (K : Go x wd Z EL R Q T pc' ls (.int (nar .char a) :: st)) : Go x wd Z EL R Q T pc ls (.int a :: st) := by
  obtain ⟨hd, rfl⟩ := hd
  exact w.go (fun A hx hb t hr => XT.i2c A hx rfl (Jvm.hb hb hd) rfl hr) K
theorem W.i2b (w : W x wd l Z EL R own code mx ret nm T h k n sf) {a : Int32} (hd : Dc code pc .i2b 1 pc') (K : Go x wd Z EL R Q T pc' ls (.int (nar .byte a) :: st)) : Go x wd Z EL R Q T pc ls (.int a :: st) := by
  obtain ⟨hd, rfl⟩ := hd
  exact w.go (fun A hx hb t hr => XT.i2b A hx rfl (Jvm.hb hb hd) rfl hr) K
theorem W.i2l (w : W x wd l Z EL R own code mx ret nm T h k n sf) {a : Int32} (hd : Dc code pc .i2l 1 pc') (K : Go x wd Z EL R Q T pc' ls (.long a.toInt64 :: st)) : Go x wd Z EL R Q T pc ls (.int a :: st) := by
  obtain ⟨hd, rfl⟩ := hd
  exact w.go (fun A hx hb t hr => XT.i2l A hx rfl (Jvm.hb hb hd) rfl hr) K
theorem W.l2i (w : W x wd l Z EL R own code mx ret nm T h k n sf) {a : Int64} (hd : Dc code pc .l2i 1 pc') (K : Go x wd Z EL R Q T pc' ls (.int a.toInt32 :: st)) : Go x wd Z EL R Q T pc ls (.long a :: st) := by
  obtain ⟨hd, rfl⟩ := hd
  exact w.go (fun A hx hb t hr => XT.l2i A hx rfl (Jvm.hb hb hd) rfl hr) K
theorem W.ladd (w : W x wd l Z EL R own code mx ret nm T h k n sf) {a b : Int64} (hd : Dc code pc .ladd 1 pc') (K : Go x wd Z EL R Q T pc' ls (.long (a + b) :: st)) : Go x wd Z EL R Q T pc ls (.long b :: .long a :: st) := by
  obtain ⟨hd, rfl⟩ := hd
  exact w.go (fun A hx hb t hr => XT.ladd A hx rfl (Jvm.hb hb hd) rfl hr) K
theorem W.lsub (w : W x wd l Z EL R own code mx ret nm T h k n sf) {a b : Int64} (hd : Dc code pc .lsub 1 pc') (K : Go x wd Z EL R Q T pc' ls (.long (a - b) :: st)) : Go x wd Z EL R Q T pc ls (.long b :: .long a :: st) := by
  obtain ⟨hd, rfl⟩ := hd
  exact w.go (fun A hx hb t hr => XT.lsub A hx rfl (Jvm.hb hb hd) rfl hr) K
theorem W.lmul (w : W x wd l Z EL R own code mx ret nm T h k n sf) {a b : Int64} (hd : Dc code pc .lmul 1 pc') (K : Go x wd Z EL R Q T pc' ls (.long (a * b) :: st)) : Go x wd Z EL R Q T pc ls (.long b :: .long a :: st) := by
  obtain ⟨hd, rfl⟩ := hd
  exact w.go (fun A hx hb t hr => XT.lmul A hx rfl (Jvm.hb hb hd) rfl hr) K
theorem W.land (w : W x wd l Z EL R own code mx ret nm T h k n sf) {a b : Int64} (hd : Dc code pc .land 1 pc') (K : Go x wd Z EL R Q T pc' ls (.long (a &&& b) :: st)) : Go x wd Z EL R Q T pc ls (.long b :: .long a :: st) := by
  obtain ⟨hd, rfl⟩ := hd
  exact w.go (fun A hx hb t hr => XT.land A hx rfl (Jvm.hb hb hd) rfl hr) K
theorem W.lcmp (w : W x wd l Z EL R own code mx ret nm T h k n sf) {a b : Int64} (hd : Dc code pc .lcmp 1 pc') (K : Go x wd Z EL R Q T pc' ls (.int (XT.cmpL a b) :: st)) : Go x wd Z EL R Q T pc ls (.long b :: .long a :: st) := by
  obtain ⟨hd, rfl⟩ := hd
  exact w.go (fun A hx hb t hr => XT.lcmp A hx rfl (Jvm.hb hb hd) rfl hr) K
theorem W.dup (w : W x wd l Z EL R own code mx ret nm T h k n sf) {v : Value} (hd : Dc code pc .dup 1 pc') (hc : v.category = 1) (K : Go x wd Z EL R Q T pc' ls (v :: v :: st)) : Go x wd Z EL R Q T pc ls (v :: st) := by
  obtain ⟨hd, rfl⟩ := hd
  exact w.go (fun A hx hb t hr => XS.dup A hx rfl (Jvm.hb hb hd) rfl hc hr) K
theorem W.dupX1 (w : W x wd l Z EL R own code mx ret nm T h k n sf) {v u : Value} (hd : Dc code pc .dup_x1 1 pc') (hc : v.category = 1) (hc' : u.category = 1) (K : Go x wd Z EL R Q T pc' ls (v :: u :: v :: st)) : Go x wd Z EL R Q T pc ls (v :: u :: st) := by
  obtain ⟨hd, rfl⟩ := hd
  exact w.go (fun A hx hb t hr => XT.dupX1 A hx rfl (Jvm.hb hb hd) rfl hc hc' hr) K
theorem W.dup2 (w : W x wd l Z EL R own code mx ret nm T h k n sf) {v u : Value} (hd : Dc code pc .dup2 1 pc') (hc : v.category = 1) (hc' : u.category = 1) (K : Go x wd Z EL R Q T pc' ls (v :: u :: v :: u :: st)) : Go x wd Z EL R Q T pc ls (v :: u :: st) := by
  obtain ⟨hd, rfl⟩ := hd
  exact w.go (fun A hx hb t hr => XT.dup2 A hx rfl (Jvm.hb hb hd) rfl hc hc' hr) K
theorem W.pop (w : W x wd l Z EL R own code mx ret nm T h k n sf) {v : Value} (hd : Dc code pc .pop 1 pc') (hc : v.category = 1) (K : Go x wd Z EL R Q T pc' ls st) : Go x wd Z EL R Q T pc ls (v :: st) := by
  obtain ⟨hd, rfl⟩ := hd
  exact w.go (fun A hx hb t hr => XT.pop A hx rfl (Jvm.hb hb hd) rfl hc hr) K
theorem W.istoreN (w : W x wd l Z EL R own code mx ret nm T h k n sf) {i : Fin 4} {v : Int32} (ls' : Array Slot) (hd : Dc code pc (.istore_n i) 1 pc') (hl : storeLocals ls i.val (.int v) = some ls') (K : Go x wd Z EL R Q T pc' ls' st) : Go x wd Z EL R Q T pc ls (.int v :: st) := by
  obtain ⟨hd, rfl⟩ := hd
  exact w.go (fun A hx hb t hr => XS.istoreN A hx rfl (Jvm.hb hb hd) rfl hl hr) K
theorem W.istore (w : W x wd l Z EL R own code mx ret nm T h k n sf) {i : Nat} {v : Int32} (ls' : Array Slot) (hd : Dc code pc (.istore i) 2 pc') (hl : storeLocals ls i (.int v) = some ls') (K : Go x wd Z EL R Q T pc' ls' st) : Go x wd Z EL R Q T pc ls (.int v :: st) := by
  obtain ⟨hd, rfl⟩ := hd
  exact w.go (fun A hx hb t hr => XS.istore A hx rfl (Jvm.hb hb hd) rfl hl hr) K
theorem W.lstoreN (w : W x wd l Z EL R own code mx ret nm T h k n sf) {i : Fin 4} {v : Int64} (ls' : Array Slot) (hd : Dc code pc (.lstore_n i) 1 pc') (hl : storeLocals ls i.val (.long v) = some ls') (K : Go x wd Z EL R Q T pc' ls' st) : Go x wd Z EL R Q T pc ls (.long v :: st) := by
  obtain ⟨hd, rfl⟩ := hd
  exact w.go (fun A hx hb t hr => XT.lstoreN A hx rfl (Jvm.hb hb hd) rfl hl hr) K
theorem W.astoreN (w : W x wd l Z EL R own code mx ret nm T h k n sf) {i : Fin 4} {v : Value} (ls' : Array Slot) (hd : Dc code pc (.astore_n i) 1 pc') (hv : v.isRef = true) (hl : storeLocals ls i.val v = some ls') (K : Go x wd Z EL R Q T pc' ls' st) : Go x wd Z EL R Q T pc ls (v :: st) := by
  obtain ⟨hd, rfl⟩ := hd
  exact w.go (fun A hx hb t hr => XS.astoreN A hx rfl (Jvm.hb hb hd) rfl hv hl hr) K
theorem W.astore (w : W x wd l Z EL R own code mx ret nm T h k n sf) {i : Nat} {v : Value} (ls' : Array Slot) (hd : Dc code pc (.astore i) 2 pc') (hv : v.isRef = true) (hl : storeLocals ls i v = some ls') (K : Go x wd Z EL R Q T pc' ls' st) : Go x wd Z EL R Q T pc ls (v :: st) := by
  obtain ⟨hd, rfl⟩ := hd
  exact w.go (fun A hx hb t hr => XS.astore A hx rfl (Jvm.hb hb hd) rfl hv hl hr) K
theorem W.iinc (w : W x wd l Z EL R own code mx ret nm T h k n sf) {i : Nat} {c : Int} {a : Int32} (v : Int32) (ls' : Array Slot) (hd : Dc code pc (.iinc i c) 3 pc') (hv : Int32.ofInt c = v) (hl : ls[i]? = some (.val (.int a))) (hl' : storeLocals ls i (.int (a + v)) = some ls') (K : Go x wd Z EL R Q T pc' ls' st) : Go x wd Z EL R Q T pc ls st := by
  obtain ⟨hd, rfl⟩ := hd
  exact w.go (fun A hx hb t hr => XT.iincV A hx rfl v (Jvm.hb hb hd) hv hl hl' hr) K
theorem W.goto (w : W x wd l Z EL R own code mx ret nm T h k n sf) {o : Int} (hd : Dc code pc (.goto o) 3 pc') (ht : Tg pc o pcT) (K : Go x wd Z EL R Q T pcT ls st) : Go x wd Z EL R Q T pc ls st := by
  obtain ⟨hd, rfl⟩ := hd
  exact w.go (fun A hx hb t hr => XS.goto A hx rfl (pc0 := pc) (pc' := pcT) rfl (Jvm.hb hb hd) ht.1 ht.2 hr) K
theorem W.ifEq (w : W x wd l Z EL R own code mx ret nm T h k n sf) {a : Int32} {o : Int} (hd : Dc code pc (.ifCond .eq o) 3 pc') (ht : Tg pc o pcT) (K1 : a = 0 → Go x wd Z EL R Q T pcT ls st) (K2 : (¬ a = 0) → Go x wd Z EL R Q T pc' ls st) : Go x wd Z EL R Q T pc ls (.int a :: st) := by
  obtain ⟨hd, rfl⟩ := hd
  by_cases q : a = 0
  · exact w.go (fun A hx hb t hr => XS.ifYes A hx rfl (pc0 := pc) (pc' := pcT) rfl (Jvm.hb hb hd) rfl (XT.i0_eq_t q) ht.1 ht.2 hr) (K1 q)
  · exact w.go (fun A hx hb t hr => XS.ifNo A hx rfl (Jvm.hb hb hd) rfl (XT.i0_eq_f q) hr) (K2 q)
theorem W.ifNe (w : W x wd l Z EL R own code mx ret nm T h k n sf) {a : Int32} {o : Int} (hd : Dc code pc (.ifCond .ne o) 3 pc') (ht : Tg pc o pcT) (K1 : (¬ a = 0) → Go x wd Z EL R Q T pcT ls st) (K2 : (a = 0) → Go x wd Z EL R Q T pc' ls st) : Go x wd Z EL R Q T pc ls (.int a :: st) := by
  obtain ⟨hd, rfl⟩ := hd
  by_cases q : a = 0
  · exact w.go (fun A hx hb t hr => XS.ifNo A hx rfl (Jvm.hb hb hd) rfl (XT.i0_ne_f q) hr) (K2 q)
  · exact w.go (fun A hx hb t hr => XS.ifYes A hx rfl (pc0 := pc) (pc' := pcT) rfl (Jvm.hb hb hd) rfl (XT.i0_ne_t q) ht.1 ht.2 hr) (K1 q)
theorem W.ifLt (w : W x wd l Z EL R own code mx ret nm T h k n sf) {a : Int32} {o : Int} (hd : Dc code pc (.ifCond .lt o) 3 pc') (ht : Tg pc o pcT) (K1 : a < 0 → Go x wd Z EL R Q T pcT ls st) (K2 : (¬ a < 0) → Go x wd Z EL R Q T pc' ls st) : Go x wd Z EL R Q T pc ls (.int a :: st) := by
  obtain ⟨hd, rfl⟩ := hd
  by_cases q : a < 0
  · exact w.go (fun A hx hb t hr => XS.ifYes A hx rfl (pc0 := pc) (pc' := pcT) rfl (Jvm.hb hb hd) rfl (XT.i0_lt_t q) ht.1 ht.2 hr) (K1 q)
  · exact w.go (fun A hx hb t hr => XS.ifNo A hx rfl (Jvm.hb hb hd) rfl (XT.i0_lt_f q) hr) (K2 q)
theorem W.ifGe (w : W x wd l Z EL R own code mx ret nm T h k n sf) {a : Int32} {o : Int} (hd : Dc code pc (.ifCond .ge o) 3 pc') (ht : Tg pc o pcT) (K1 : (¬ a < 0) → Go x wd Z EL R Q T pcT ls st) (K2 : (a < 0) → Go x wd Z EL R Q T pc' ls st) : Go x wd Z EL R Q T pc ls (.int a :: st) := by
  obtain ⟨hd, rfl⟩ := hd
  by_cases q : a < 0
  · exact w.go (fun A hx hb t hr => XS.ifNo A hx rfl (Jvm.hb hb hd) rfl (XT.i0_ge_f q) hr) (K2 q)
  · exact w.go (fun A hx hb t hr => XS.ifYes A hx rfl (pc0 := pc) (pc' := pcT) rfl (Jvm.hb hb hd) rfl (XT.i0_ge_t q) ht.1 ht.2 hr) (K1 q)
theorem W.ifGt (w : W x wd l Z EL R own code mx ret nm T h k n sf) {a : Int32} {o : Int} (hd : Dc code pc (.ifCond .gt o) 3 pc') (ht : Tg pc o pcT) (K1 : 0 < a → Go x wd Z EL R Q T pcT ls st) (K2 : (¬ 0 < a) → Go x wd Z EL R Q T pc' ls st) : Go x wd Z EL R Q T pc ls (.int a :: st) := by
  obtain ⟨hd, rfl⟩ := hd
  by_cases q : 0 < a
  · exact w.go (fun A hx hb t hr => XS.ifYes A hx rfl (pc0 := pc) (pc' := pcT) rfl (Jvm.hb hb hd) rfl (XT.i0_gt_t q) ht.1 ht.2 hr) (K1 q)
  · exact w.go (fun A hx hb t hr => XS.ifNo A hx rfl (Jvm.hb hb hd) rfl (XT.i0_gt_f q) hr) (K2 q)
theorem W.ifLe (w : W x wd l Z EL R own code mx ret nm T h k n sf) {a : Int32} {o : Int} (hd : Dc code pc (.ifCond .le o) 3 pc') (ht : Tg pc o pcT) (K1 : (¬ 0 < a) → Go x wd Z EL R Q T pcT ls st) (K2 : (0 < a) → Go x wd Z EL R Q T pc' ls st) : Go x wd Z EL R Q T pc ls (.int a :: st) := by
  obtain ⟨hd, rfl⟩ := hd
  by_cases q : 0 < a
  · exact w.go (fun A hx hb t hr => XS.ifNo A hx rfl (Jvm.hb hb hd) rfl (XT.i0_le_f q) hr) (K2 q)
  · exact w.go (fun A hx hb t hr => XS.ifYes A hx rfl (pc0 := pc) (pc' := pcT) rfl (Jvm.hb hb hd) rfl (XT.i0_le_t q) ht.1 ht.2 hr) (K1 q)
theorem W.icmpEq (w : W x wd l Z EL R own code mx ret nm T h k n sf) {a b : Int32} {o : Int} (hd : Dc code pc (.if_icmp .eq o) 3 pc') (ht : Tg pc o pcT) (K1 : a = b → Go x wd Z EL R Q T pcT ls st) (K2 : (¬ a = b) → Go x wd Z EL R Q T pc' ls st) : Go x wd Z EL R Q T pc ls (.int b :: .int a :: st) := by
  obtain ⟨hd, rfl⟩ := hd
  by_cases q : a = b
  · exact w.go (fun A hx hb t hr => XS.icmpYes A hx rfl (pc0 := pc) (pc' := pcT) rfl (Jvm.hb hb hd) rfl (XT.ii_eq_t q) ht.1 ht.2 hr) (K1 q)
  · exact w.go (fun A hx hb t hr => XS.icmpNo A hx rfl (Jvm.hb hb hd) rfl (XT.ii_eq_f q) hr) (K2 q)
theorem W.icmpNe (w : W x wd l Z EL R own code mx ret nm T h k n sf) {a b : Int32} {o : Int} (hd : Dc code pc (.if_icmp .ne o) 3 pc') (ht : Tg pc o pcT) (K1 : (¬ a = b) → Go x wd Z EL R Q T pcT ls st) (K2 : (a = b) → Go x wd Z EL R Q T pc' ls st) : Go x wd Z EL R Q T pc ls (.int b :: .int a :: st) := by
  obtain ⟨hd, rfl⟩ := hd
  by_cases q : a = b
  · exact w.go (fun A hx hb t hr => XS.icmpNo A hx rfl (Jvm.hb hb hd) rfl (XT.ii_ne_f q) hr) (K2 q)
  · exact w.go (fun A hx hb t hr => XS.icmpYes A hx rfl (pc0 := pc) (pc' := pcT) rfl (Jvm.hb hb hd) rfl (XT.ii_ne_t q) ht.1 ht.2 hr) (K1 q)
theorem W.icmpLt (w : W x wd l Z EL R own code mx ret nm T h k n sf) {a b : Int32} {o : Int} (hd : Dc code pc (.if_icmp .lt o) 3 pc') (ht : Tg pc o pcT) (K1 : a < b → Go x wd Z EL R Q T pcT ls st) (K2 : (¬ a < b) → Go x wd Z EL R Q T pc' ls st) : Go x wd Z EL R Q T pc ls (.int b :: .int a :: st) := by
  obtain ⟨hd, rfl⟩ := hd
  by_cases q : a < b
  · exact w.go (fun A hx hb t hr => XS.icmpYes A hx rfl (pc0 := pc) (pc' := pcT) rfl (Jvm.hb hb hd) rfl (XT.ii_lt_t q) ht.1 ht.2 hr) (K1 q)
  · exact w.go (fun A hx hb t hr => XS.icmpNo A hx rfl (Jvm.hb hb hd) rfl (XT.ii_lt_f q) hr) (K2 q)
theorem W.icmpGe (w : W x wd l Z EL R own code mx ret nm T h k n sf) {a b : Int32} {o : Int} (hd : Dc code pc (.if_icmp .ge o) 3 pc') (ht : Tg pc o pcT) (K1 : (¬ a < b) → Go x wd Z EL R Q T pcT ls st) (K2 : (a < b) → Go x wd Z EL R Q T pc' ls st) : Go x wd Z EL R Q T pc ls (.int b :: .int a :: st) := by
  obtain ⟨hd, rfl⟩ := hd
  by_cases q : a < b
  · exact w.go (fun A hx hb t hr => XS.icmpNo A hx rfl (Jvm.hb hb hd) rfl (XT.ii_ge_f q) hr) (K2 q)
  · exact w.go (fun A hx hb t hr => XS.icmpYes A hx rfl (pc0 := pc) (pc' := pcT) rfl (Jvm.hb hb hd) rfl (XT.ii_ge_t q) ht.1 ht.2 hr) (K1 q)
theorem W.icmpGt (w : W x wd l Z EL R own code mx ret nm T h k n sf) {a b : Int32} {o : Int} (hd : Dc code pc (.if_icmp .gt o) 3 pc') (ht : Tg pc o pcT) (K1 : b < a → Go x wd Z EL R Q T pcT ls st) (K2 : (¬ b < a) → Go x wd Z EL R Q T pc' ls st) : Go x wd Z EL R Q T pc ls (.int b :: .int a :: st) := by
  obtain ⟨hd, rfl⟩ := hd
  by_cases q : b < a
  · exact w.go (fun A hx hb t hr => XS.icmpYes A hx rfl (pc0 := pc) (pc' := pcT) rfl (Jvm.hb hb hd) rfl (XT.ii_gt_t q) ht.1 ht.2 hr) (K1 q)
  · exact w.go (fun A hx hb t hr => XS.icmpNo A hx rfl (Jvm.hb hb hd) rfl (XT.ii_gt_f q) hr) (K2 q)
theorem W.icmpLe (w : W x wd l Z EL R own code mx ret nm T h k n sf) {a b : Int32} {o : Int} (hd : Dc code pc (.if_icmp .le o) 3 pc') (ht : Tg pc o pcT) (K1 : (¬ b < a) → Go x wd Z EL R Q T pcT ls st) (K2 : (b < a) → Go x wd Z EL R Q T pc' ls st) : Go x wd Z EL R Q T pc ls (.int b :: .int a :: st) := by
  obtain ⟨hd, rfl⟩ := hd
  by_cases q : b < a
  · exact w.go (fun A hx hb t hr => XS.icmpNo A hx rfl (Jvm.hb hb hd) rfl (XT.ii_le_f q) hr) (K2 q)
  · exact w.go (fun A hx hb t hr => XS.icmpYes A hx rfl (pc0 := pc) (pc' := pcT) rfl (Jvm.hb hb hd) rfl (XT.ii_le_t q) ht.1 ht.2 hr) (K1 q)
theorem W.acmpEq (w : W x wd l Z EL R own code mx ret nm T h k n sf) {a b : Value} {o : Int} (hd : Dc code pc (.if_acmp .eq o) 3 pc') (ht : Tg pc o pcT) (h1 : a.isRef = true) (h2 : b.isRef = true) (K1 : a = b → Go x wd Z EL R Q T pcT ls st) (K2 : (¬ a = b) → Go x wd Z EL R Q T pc' ls st) : Go x wd Z EL R Q T pc ls (b :: a :: st) := by
  obtain ⟨hd, rfl⟩ := hd
  by_cases q : a = b
  · exact w.go (fun A hx hb t hr => XT.acmpYes A hx rfl (pc0 := pc) (pc' := pcT) rfl (Jvm.hb hb hd) rfl h1 h2 (XT.aa_eq_t q) ht.1 ht.2 hr) (K1 q)
  · exact w.go (fun A hx hb t hr => XT.acmpNo A hx rfl (Jvm.hb hb hd) rfl h1 h2 (XT.aa_eq_f q) hr) (K2 q)
theorem W.acmpNe (w : W x wd l Z EL R own code mx ret nm T h k n sf) {a b : Value} {o : Int} (hd : Dc code pc (.if_acmp .ne o) 3 pc') (ht : Tg pc o pcT) (h1 : a.isRef = true) (h2 : b.isRef = true) (K1 : (¬ a = b) → Go x wd Z EL R Q T pcT ls st) (K2 : (a = b) → Go x wd Z EL R Q T pc' ls st) : Go x wd Z EL R Q T pc ls (b :: a :: st) := by
  obtain ⟨hd, rfl⟩ := hd
  by_cases q : a = b
  · exact w.go (fun A hx hb t hr => XT.acmpNo A hx rfl (Jvm.hb hb hd) rfl h1 h2 (XT.aa_ne_f q) hr) (K2 q)
  · exact w.go (fun A hx hb t hr => XT.acmpYes A hx rfl (pc0 := pc) (pc' := pcT) rfl (Jvm.hb hb hd) rfl h1 h2 (XT.aa_ne_t q) ht.1 ht.2 hr) (K1 q)
theorem W.racmpEq (w : W x wd l Z EL R own code mx ret nm T h k n sf) {a b : Addr} {o : Int} (hd : Dc code pc (.if_acmp .eq o) 3 pc') (ht : Tg pc o pcT) (K1 : a = b → Go x wd Z EL R Q T pcT ls st) (K2 : ¬ a = b → Go x wd Z EL R Q T pc' ls st) : Go x wd Z EL R Q T pc ls (.ref b :: .ref a :: st) := w.acmpEq hd ht rfl rfl (fun q => K1 (Value.ref.inj q)) (fun q => K2 fun e => q (congrArg _ e))
theorem W.racmpNe (w : W x wd l Z EL R own code mx ret nm T h k n sf) {a b : Addr} {o : Int} (hd : Dc code pc (.if_acmp .ne o) 3 pc') (ht : Tg pc o pcT) (K1 : ¬ a = b → Go x wd Z EL R Q T pcT ls st) (K2 : a = b → Go x wd Z EL R Q T pc' ls st) : Go x wd Z EL R Q T pc ls (.ref b :: .ref a :: st) := w.acmpNe hd ht rfl rfl (fun q => K1 fun e => q (congrArg _ e)) (fun q => K2 (Value.ref.inj q))
theorem W.nullT (w : W x wd l Z EL R own code mx ret nm T h k n sf) {o : Int} (hd : Dc code pc (.ifnull o) 3 pc') (ht : Tg pc o pcT) (K : Go x wd Z EL R Q T pcT ls st) : Go x wd Z EL R Q T pc ls (.null :: st) := by
  obtain ⟨hd, rfl⟩ := hd
  exact w.go (fun A hx hb t hr => XS.ifnullYes A hx rfl (pc0 := pc) (pc' := pcT) rfl (Jvm.hb hb hd) rfl ht.1 ht.2 hr) K
theorem W.nullF (w : W x wd l Z EL R own code mx ret nm T h k n sf) {o : Int} {a : Addr} (hd : Dc code pc (.ifnull o) 3 pc') (K : Go x wd Z EL R Q T pc' ls st) : Go x wd Z EL R Q T pc ls (.ref a :: st) := by
  obtain ⟨hd, rfl⟩ := hd
  exact w.go (fun A hx hb t hr => XS.ifnullNo A hx rfl (Jvm.hb hb hd) rfl hr) K
theorem W.nonnullT (w : W x wd l Z EL R own code mx ret nm T h k n sf) {o : Int} {a : Addr} (hd : Dc code pc (.ifnonnull o) 3 pc') (ht : Tg pc o pcT) (K : Go x wd Z EL R Q T pcT ls st) : Go x wd Z EL R Q T pc ls (.ref a :: st) := by
  obtain ⟨hd, rfl⟩ := hd
  exact w.go (fun A hx hb t hr => XT.ifnonnullYes A hx rfl (pc0 := pc) (pc' := pcT) rfl (Jvm.hb hb hd) rfl ht.1 ht.2 hr) K
theorem W.nonnullF (w : W x wd l Z EL R own code mx ret nm T h k n sf) {o : Int} (hd : Dc code pc (.ifnonnull o) 3 pc') (K : Go x wd Z EL R Q T pc' ls st) : Go x wd Z EL R Q T pc ls (.null :: st) := by
  obtain ⟨hd, rfl⟩ := hd
  exact w.go (fun A hx hb t hr => XT.ifnonnullNo A hx rfl (Jvm.hb hb hd) rfl hr) K
theorem W.ldcI (w : W x wd l Z EL R own code mx ret nm T h k n sf) {i : Nat} {v : Int32} (hd : Dc code pc (.ldc i) 2 pc') (wc : (Jvm.Cond.constant own i v).before a0 Z = true) (K : Go x wd Z EL R Q T pc' ls (.int v :: st)) : Go x wd Z EL R Q T pc ls st := by
  obtain ⟨hd, rfl⟩ := hd
  obtain ⟨hx, hb, hm, hr, hn, hl, e0, E, c1, c2, hs, hEL, L, vm0, N, g, X, S, hZ, ho, hC⟩ := w
  obtain ⟨s₂, o, a1, r⟩ := K
  exact ⟨s₂, o, X.ldcI hx ho (mv (s := x.s.setVm vm0) hZ wc) rfl (Jvm.hb hb hd) a1, r⟩
theorem W.ldcWI (w : W x wd l Z EL R own code mx ret nm T h k n sf) {i : Nat} {v : Int32} (hd : Dc code pc (.ldc_w i) 3 pc') (wc : (Jvm.Cond.constant own i v).before a0 Z = true) (K : Go x wd Z EL R Q T pc' ls (.int v :: st)) : Go x wd Z EL R Q T pc ls st := by
  obtain ⟨hd, rfl⟩ := hd
  obtain ⟨hx, hb, hm, hr, hn, hl, e0, E, c1, c2, hs, hEL, L, vm0, N, g, X, S, hZ, ho, hC⟩ := w
  obtain ⟨s₂, o, a1, r⟩ := K
  exact ⟨s₂, o, X.ldcWI hx ho (mv (s := x.s.setVm vm0) hZ wc) rfl (Jvm.hb hb hd) a1, r⟩
theorem W.getS (w : W x wd l Z EL R own code mx ret nm T h k n sf) {i : Nat} {O f d : String} {v : Value} (hd : Dc code pc (.getstatic i) 3 pc') (wl : (Jvm.Cond.fieldLink own i O f d).before a0 Z = true) (F : Sta Z Z.heap O f d v) (K : ∀ T', W x wd l Z EL R own code mx ret nm T' h k n sf → Go x wd Z EL R Q T' pc' ls (v :: st)) : Go x wd Z EL R Q T pc ls st := by
  obtain ⟨hd, rfl⟩ := hd
  exact w.goT (fun s0 L X hx hZ ho hb hm e0 => RoadKit.getS (host := "") X hx hZ ho wl Via.refl e0 (w.sta F) (g := mkF x.m pc ls st) rfl (Jvm.hb hb hd)) K
theorem W.getF (w : W x wd l Z EL R own code mx ret nm T h k n sf) {i : Nat} {a : Addr} {O f d : String} {v : Value} (hd : Dc code pc (.getfield i) 3 pc') (wl : (Jvm.Cond.fieldLink own i O f d).before a0 Z = true) (F : Fld Z h a O f d v) (K : ∀ T', W x wd l Z EL R own code mx ret nm T' h k n sf → Go x wd Z EL R Q T' pc' ls (v :: st)) : Go x wd Z EL R Q T pc ls (.ref a :: st) := by
  obtain ⟨hd, rfl⟩ := hd
  exact w.goT (fun s0 L X hx hZ ho hb hm e0 => RoadKit.getF (host := "") X hx hZ ho (Or.inl wl) Via.refl e0 F (g := mkF x.m pc ls (.ref a :: st)) rfl rfl (Jvm.hb hb hd)) K
theorem W.cast (w : W x wd l Z EL R own code mx ret nm T h k n sf) {i : Nat} {a : Addr} {C : String} (hd : Dc code pc (.checkcast i) 3 pc') (wl : (Jvm.Cond.classLink own i C).before a0 Z = true) (F : Ins Z h a C true) (K : ∀ T', W x wd l Z EL R own code mx ret nm T' h k n sf → Go x wd Z EL R Q T' pc' ls (.ref a :: st)) : Go x wd Z EL R Q T pc ls (.ref a :: st) := by
  obtain ⟨hd, rfl⟩ := hd
  exact w.goT (fun s0 L X hx hZ ho hb hm e0 => castY X hx hZ ho wl e0 F (g := mkF x.m pc ls (.ref a :: st)) rfl rfl (Jvm.hb hb hd)) K
theorem W.instY (w : W x wd l Z EL R own code mx ret nm T h k n sf) {i : Nat} {a : Addr} {C : String} (hd : Dc code pc (.instanceof i) 3 pc') (wl : (Jvm.Cond.classLink own i C).before a0 Z = true) (F : Ins Z h a C true) (K : ∀ T', W x wd l Z EL R own code mx ret nm T' h k n sf → Go x wd Z EL R Q T' pc' ls (.int 1 :: st)) : Go x wd Z EL R Q T pc ls (.ref a :: st) := by
  obtain ⟨hd, rfl⟩ := hd
  exact w.goT (fun s0 L X hx hZ ho hb hm e0 => RoadKit.instY X hx hZ ho wl e0 F (g := mkF x.m pc ls (.ref a :: st)) rfl rfl (Jvm.hb hb hd)) K
theorem W.initO (w : W x wd l Z EL R own code mx ret nm T h k n sf) {i : Nat} {a : Addr} (Wn : Nat) (hd : Dc code pc (.invokespecial i) 3 pc') (w1 : (Jvm.Cond.methodLink own i Lib.objectInit).before a0 Z = true) (w2 : (Jvm.Cond.instanceMethod Lib.objectInit).before a0 Z = true) (w3 : (Jvm.Cond.code Lib.objectInit ⟨#[0xb1]⟩ 1 none).before a0 Z = true) (hz : ls.size = mx) (hW : (st.map fun v => v.category).sum ≤ Wn) (hr : 1 ≤ R.frames ∧ Wn + 12 ≤ R.locals) (K : ∀ T', W x wd l Z EL R own code mx ret nm T' h k n sf → Go x wd Z EL R Q T' pc' ls st) : Go x wd Z EL R Q T pc ls (.ref a :: st) := by
  obtain ⟨hd, rfl⟩ := hd
  exact w.goT (fun s0 L X hx hZ ho hb hm e0 => RoadKit.initO X hx hZ ho w1 w2 w3 e0 (g := mkF x.m pc ls (.ref a :: st)) rfl (hz.trans hm.symm) rfl (Jvm.hb hb hd) hr.1 (W := Wn) (by show 2 * 0 + _ ≤ _; omega) hr.2) K
theorem W.alen (w : W x wd l Z EL R own code mx ret nm T h k n sf) {a : Addr} {cl : Cell} {ty : FieldType} (v : Int32) (hd : Dc code pc .arraylength 1 pc') (A : Arr Z h a cl ty) (hv : cl.slots.size.toInt32 = v) (K : Go x wd Z EL R Q T pc' ls (.int v :: st)) : Go x wd Z EL R Q T pc ls (.ref a :: st) := by
  obtain ⟨hd, rfl⟩ := hd
  subst hv
  obtain ⟨hx, hb, hm, hr, hn, hl, e0, E, c1, c2, hs, hEL, L, vm0, N, g, X, S, hZ, ho, hC⟩ := w
  obtain ⟨s₂, o, a1, r⟩ := K
  exact ⟨s₂, o, X.arraylength hx (by rw [e0]; exact A.1) (State.isArrayOf_alike (T := x.s.setVm vm0) hZ.alike A.2.1) (g := mkF x.m pc ls (.ref a :: st)) rfl rfl (Jvm.hb hb hd) _ a1, r⟩
theorem W.iaload (w : W x wd l Z EL R own code mx ret nm T h k n sf) {a : Addr} {cl : Cell} {j : Int32} {v : Value} (hd : Dc code pc .iaload 1 pc') (A : Arr Z h a cl .int) (hj : ¬ (j < 0 ∨ cl.slots.size ≤ j.toNatClampNeg)) (hv : cl.slots[j.toNatClampNeg]? = some v) (K : Go x wd Z EL R Q T pc' ls (v :: st)) : Go x wd Z EL R Q T pc ls (.int j :: .ref a :: st) := by
  obtain ⟨hd, rfl⟩ := hd
  obtain ⟨hx, hb, hm, hr, hn, hl, e0, E, c1, c2, hs, hEL, L, vm0, N, g, X, S, hZ, ho, hC⟩ := w
  obtain ⟨s₂, o, a1, r⟩ := K
  exact ⟨s₂, o, X.iaload hx (by rw [e0]; exact A.1) (State.isArrayOf_alike (T := x.s.setVm vm0) hZ.alike A.2.1) A.2.2 hj hv (g := mkF x.m pc ls (.int j :: .ref a :: st)) rfl rfl (Jvm.hb hb hd) _ a1, r⟩
theorem W.caload (w : W x wd l Z EL R own code mx ret nm T h k n sf) {a : Addr} {cl : Cell} {j : Int32} {v : Value} (hd : Dc code pc .caload 1 pc') (A : Arr Z h a cl .char) (hj : ¬ (j < 0 ∨ cl.slots.size ≤ j.toNatClampNeg)) (hv : cl.slots[j.toNatClampNeg]? = some v) (K : Go x wd Z EL R Q T pc' ls (v :: st)) : Go x wd Z EL R Q T pc ls (.int j :: .ref a :: st) := by
  obtain ⟨hd, rfl⟩ := hd
  obtain ⟨hx, hb, hm, hr, hn, hl, e0, E, c1, c2, hs, hEL, L, vm0, N, g, X, S, hZ, ho, hC⟩ := w
  obtain ⟨s₂, o, a1, r⟩ := K
  exact ⟨s₂, o, X.caload hx (by rw [e0]; exact A.1) (State.isArrayOf_alike (T := x.s.setVm vm0) hZ.alike A.2.1) A.2.2 hj hv (g := mkF x.m pc ls (.int j :: .ref a :: st)) rfl rfl (Jvm.hb hb hd) _ a1, r⟩
theorem W.baload (w : W x wd l Z EL R own code mx ret nm T h k n sf) {a : Addr} {cl : Cell} {j : Int32} {v : Value} (hd : Dc code pc .baload 1 pc') (A : Arr Z h a cl .byte) (hj : ¬ (j < 0 ∨ cl.slots.size ≤ j.toNatClampNeg)) (hv : cl.slots[j.toNatClampNeg]? = some v) (K : Go x wd Z EL R Q T pc' ls (v :: st)) : Go x wd Z EL R Q T pc ls (.int j :: .ref a :: st) := by
  obtain ⟨hd, rfl⟩ := hd
  obtain ⟨hx, hb, hm, hr, hn, hl, e0, E, c1, c2, hs, hEL, L, vm0, N, g, X, S, hZ, ho, hC⟩ := w
  obtain ⟨s₂, o, a1, r⟩ := K
  exact ⟨s₂, o, X.baloadBytes hx (by rw [e0]; exact A.1) (State.isArrayOf_alike (T := x.s.setVm vm0) hZ.alike A.2.1) A.2.2 hj hv (g := mkF x.m pc ls (.int j :: .ref a :: st)) rfl rfl (Jvm.hb hb hd) _ a1, r⟩
theorem W.laload (w : W x wd l Z EL R own code mx ret nm T h k n sf) {a : Addr} {cl : Cell} {j : Int32} {v : Value} (hd : Dc code pc .laload 1 pc') (A : Arr Z h a cl .long) (hj : ¬ (j < 0 ∨ cl.slots.size ≤ j.toNatClampNeg)) (hv : cl.slots[j.toNatClampNeg]? = some v) (K : Go x wd Z EL R Q T pc' ls (v :: st)) : Go x wd Z EL R Q T pc ls (.int j :: .ref a :: st) := by
  obtain ⟨hd, rfl⟩ := hd
  obtain ⟨hx, hb, hm, hr, hn, hl, e0, E, c1, c2, hs, hEL, L, vm0, N, g, X, S, hZ, ho, hC⟩ := w
  obtain ⟨s₂, o, a1, r⟩ := K
  exact ⟨s₂, o, X.laload hx (by rw [e0]; exact A.1) (State.isArrayOf_alike (T := x.s.setVm vm0) hZ.alike A.2.1) A.2.2 hj hv (g := mkF x.m pc ls (.int j :: .ref a :: st)) rfl rfl (Jvm.hb hb hd) _ a1, r⟩
theorem W.aaload (w : W x wd l Z EL R own code mx ret nm T h k n sf) {a : Addr} {cl : Cell} {j : Int32} {v : Value} {ty : FieldType} (hd : Dc code pc .aaload 1 pc') (A : Arr Z h a cl ty) (hty : ty.isReference = true) (hj : ¬ (j < 0 ∨ cl.slots.size ≤ j.toNatClampNeg)) (hv : cl.slots[j.toNatClampNeg]? = some v) (K : Go x wd Z EL R Q T pc' ls (v :: st)) : Go x wd Z EL R Q T pc ls (.int j :: .ref a :: st) := by
  obtain ⟨hd, rfl⟩ := hd
  obtain ⟨hx, hb, hm, hr, hn, hl, e0, E, c1, c2, hs, hEL, L, vm0, N, g, X, S, hZ, ho, hC⟩ := w
  obtain ⟨s₂, o, a1, r⟩ := K
  exact ⟨s₂, o, X.aaload hx (by rw [e0]; exact A.1) (State.isArrayOf_alike (T := x.s.setVm vm0) hZ.alike A.2.1) hty A.2.2 hj hv (g := mkF x.m pc ls (.int j :: .ref a :: st)) rfl rfl (Jvm.hb hb hd) _ a1, r⟩
theorem W.new (w : W x wd l Z EL R own code mx ret nm T h k n sf) {i nf : Nat} {C : String} (hd : Dc code pc (.new i) 3 pc') (w1 : (Jvm.Cond.classLink own i C).before a0 Z = true) (w2 : (Jvm.Cond.instantiable C nf).before a0 Z = true) (w3 : (Jvm.Cond.initialized C).before a0 Z = true) (hr : k + 1 ≤ R.cells ∧ n + nf ≤ R.slots) (K : ∀ (a : Addr) T' h', a = h.size → W x wd l Z EL R own code mx ret nm T' h' (k + 1) (n + nf) (a :: sf) → Ext h h' → Exa Z h' a C → (∀ {O f d : String} {ty : FieldType}, Laid Z a0 C O f d → parseFieldDescriptor d = some ty → Fld Z h' a O f d (defaultValue ty)) → Go x wd Z EL R Q T' (pc') ls (.ref a :: st)) : Go x wd Z EL R Q T pc ls st := by
  obtain ⟨hd, rfl⟩ := hd
  refine w.goN (P := fun h' => Exa Z h' h.size C ∧ (∀ {O f d : String} {ty : FieldType}, Laid Z a0 C O f d → parseFieldDescriptor d = some ty → Fld Z h' h.size O f d (defaultValue ty))) hr.1 hr.2 (fun s0 L X hx hZ ho hb hm e0 => ?_) (fun T' h' w' E P => K h.size T' h' rfl w' E P.1 P.2)
  obtain ⟨T', h', X', e', E', A, D, -, stp⟩ := newO X hx hZ ho w1 w2 w3 e0 (g := mkF x.m pc ls st) rfl (Jvm.hb hb hd) hr.1 hr.2
  exact ⟨T', h', X', e', E', A.lt, ⟨A, D⟩, stp⟩
theorem W.newP (w : W x wd l Z EL R own code mx ret nm T h k n sf) {aty : ArrayType} {z : Int32} (cap : Nat) (ad : String) (hd : Dc code pc (.newarray aty) 2 pc') (w1 : (Jvm.Cond.arrayClass (newarray.typeOf aty)).before a0 Z = true) (hz : ¬ z < 0) (hcap : z.toNatClampNeg ≤ cap) (hbig : cap * 8 ≤ 536870912) (had : "[" ++ (newarray.typeOf aty).toString = ad) (hr : k + 1 ≤ R.cells ∧ n + cap ≤ R.slots) (K : ∀ (a : Addr) T' h' kc, a = h.size → W x wd l Z EL R own code mx ret nm T' h' (k + 1) (n + cap) (a :: sf) → Ext h h' → Arv Z h' a kc (newarray.typeOf aty) z [] (defaultValue (newarray.typeOf aty)) → Exa Z h' a ad → Go x wd Z EL R Q T' (pc') ls (.ref a :: st)) : Go x wd Z EL R Q T pc ls (.int z :: st) := by
  obtain ⟨hd, rfl⟩ := hd
  refine w.goN (P := fun h' => ∃ kc, Arv Z h' h.size kc (newarray.typeOf aty) z [] (defaultValue (newarray.typeOf aty)) ∧ Exa Z h' h.size ad) hr.1 hr.2 (fun s0 L X hx hZ ho hb hm e0 => ?_) (fun T' h' w' E ⟨kc, P1, P2⟩ => K h.size T' h' kc rfl w' E P1 P2)
  obtain ⟨T', h', cA, X', e', E', A, EA, stp⟩ := newPE X hx hZ w1 e0 (g := mkF x.m pc ls (.int z :: st)) rfl (Jvm.hb hb hd) rfl hz hcap hbig hr.1 hr.2 had
  exact ⟨T', h', X', e', E', EA.lt, ⟨cA, Arv.new A hz, EA⟩, stp⟩
theorem W.newR (w : W x wd l Z EL R own code mx ret nm T h k n sf) {i : Nat} {C : String} {z : Int32} (cap : Nat) (ad : String) (hd : Dc code pc (.anewarray i) 3 pc') (w1 : (Jvm.Cond.classLink own i C).before a0 Z = true) (w2 : (Jvm.Cond.arrayOver (.object C)).before a0 Z = true) (hz : ¬ z < 0) (hcap : z.toNatClampNeg ≤ cap) (hbig : cap * 8 ≤ 536870912) (had : "[" ++ (FieldType.object C).toString = ad) (hr : k + 1 ≤ R.cells ∧ n + cap ≤ R.slots) (K : ∀ (a : Addr) T' h' kc, a = h.size → W x wd l Z EL R own code mx ret nm T' h' (k + 1) (n + cap) (a :: sf) → Ext h h' → Arv Z h' a kc (.object C) z [] .null → Exa Z h' a ad → Ovr Z kc C → Go x wd Z EL R Q T' (pc') ls (.ref a :: st)) : Go x wd Z EL R Q T pc ls (.int z :: st) := by
  obtain ⟨hd, rfl⟩ := hd
  refine w.goN (P := fun h' => ∃ kc, Arv Z h' h.size kc (.object C) z [] .null ∧ Exa Z h' h.size ad ∧ Ovr Z kc C) hr.1 hr.2 (fun s0 L X hx hZ ho hb hm e0 => ?_) (fun T' h' w' E ⟨kc, P1, P2, P3⟩ => K h.size T' h' kc rfl w' E P1 P2 P3)
  obtain ⟨T', h', cA, X', e', E', A, EA, O, stp⟩ := newRE X hx hZ ho w1 w2 e0 (g := mkF x.m pc ls (.int z :: st)) rfl (Jvm.hb hb hd) rfl hz hcap hbig hr.1 hr.2 had
  exact ⟨T', h', X', e', E', EA.lt, ⟨cA, Arv.new A hz, EA, O⟩, stp⟩
theorem W.clone (w : W x wd l Z EL R own code mx ret nm T h k n sf) {i : Nat} {a : Addr} {ad : String} {kc : ClassId} {ty : FieldType} {z : Int32} {vs : List Value} {dv : Value} (Wn cap : Nat) (hd : Dc code pc (.invokevirtual i) 3 pc') (w1 : (Jvm.Cond.methodLink own i ⟨ad, "clone", "()Ljava/lang/Object;"⟩).before a0 Z = true) (w2 : (Jvm.Cond.sameMethod ad "java/lang/Object" "clone" "()Ljava/lang/Object;").before a0 Z = true) (w3 : (Jvm.Cond.native ⟨"java/lang/Object", "clone", "()Ljava/lang/Object;"⟩).before a0 Z = true) (w4 : (Jvm.Cond.instanceMethod ⟨"java/lang/Object", "clone", "()Ljava/lang/Object;"⟩).before a0 Z = true) (w5 : (Jvm.Cond.selects ad ⟨ad, "clone", "()Ljava/lang/Object;"⟩ ⟨"java/lang/Object", "clone", "()Ljava/lang/Object;"⟩).before a0 Z = true) (w6 : (Jvm.Cond.castable ad "java/lang/Cloneable").before a0 Z = true) (A : Arv Z h a kc ty z vs dv) (E : Exa Z h a ad) (hz : ls.size = mx) (hW : (st.map fun v => v.category).sum ≤ Wn) (hcap : z.toNatClampNeg ≤ cap) (hr : 1 ≤ R.frames ∧ Wn + 14 ≤ R.locals ∧ k + 1 ≤ R.cells ∧ n + cap ≤ R.slots) (K : ∀ (b : Addr) T' h', b = h.size → W x wd l Z EL R own code mx ret nm T' h' (k + 1) (n + cap) (b :: sf) → Ext h h' → Arv Z h' b kc ty z vs dv → Exa Z h' b ad → Go x wd Z EL R Q T' (pc') ls (.ref b :: st)) : Go x wd Z EL R Q T pc ls (.ref a :: st) := by
  obtain ⟨hd, rfl⟩ := hd
  refine w.goN (P := fun h' => Arv Z h' h.size kc ty z vs dv ∧ Exa Z h' h.size ad) hr.2.2.1 hr.2.2.2 (fun s0 L X hx hZ ho hb hm e0 => ?_) (fun T' h' w' E P => K h.size T' h' rfl w' E P.1 P.2)
  obtain ⟨T', h', X', e', E', A', EA, stp⟩ := cloneH X hx hZ ho w1 w2 w3 w4 w5 w6 e0 A.arh E (g := mkF x.m pc ls (.ref a :: st)) rfl (hz.trans hm.symm) rfl (Jvm.hb hb hd) hr.1 (W := Wn) (by show 2 * 0 + _ ≤ _; omega) hr.2.1 hcap hr.2.2.1 hr.2.2.2
  exact ⟨T', h', X', e', E', EA.lt, ⟨A', EA⟩, stp⟩
theorem W.putF (w : W x wd l Z EL R own code mx ret nm T h k n sf) {i kk : Nat} {a : Addr} {O f d C : String} {v old : Value} {ty : FieldType} (hd : Dc code pc (.putfield i) 3 pc') (wl : (Jvm.Cond.fieldLink own i O f d).before a0 Z = true) (F : Fld Z h a O f d old) (E : Exa Z h a C) (La : (Jvm.Cond.lays C O f d).before a0 Z = true ∨ ((Jvm.Cond.laysFinal C O f d).before a0 Z = true ∧ own = O ∧ nm = "<init>")) (wi : (Jvm.Cond.instantiable C kk).before a0 Z = true) (hty : parseFieldDescriptor d = some ty) (hn : narrow ty v = v) (hf : fits ty v = true) (ha : a ∈ sf) (K : ∀ T' h', W x wd l Z EL R own code mx ret nm T' h' k n sf → Wr h h' a (Jvm.RoadKit.slotOf Z O f d) v → Go x wd Z EL R Q T' pc' ls st) : Go x wd Z EL R Q T pc ls (v :: .ref a :: st) := by
  obtain ⟨hd, rfl⟩ := hd
  exact w.goW ha (fun s0 L X hx hZ ho hb hnm e0 => RoadKit.putF X hx hZ ho (host := "") (Or.inl wl) Via.refl e0 F E (La.imp id fun q => ⟨q.1, q.2.1, hnm.trans q.2.2⟩) wi hty hn hf (g := mkF x.m pc ls (v :: .ref a :: st)) rfl rfl (Jvm.hb hb hd)) K
theorem W.stC (w : W x wd l Z EL R own code mx ret nm T h k n sf) {a : Addr} {kc : ClassId} {z j v : Int32} {vs : List Value} {dv : Value} (q : Nat) (vs' : List Value) (hd : Dc code pc .castore 1 pc') (A : Arv Z h a kc .char z vs dv) (hj : j.toNatClampNeg = q ∧ ¬ j < 0) (hz : q < z.toNatClampNeg) (hp : ∀ i, vs'.getD i dv = vs.getD i dv) (hq : q < vs'.length) (hf : fits .char (.int (nar .char v)) = true) (ha : a ∈ sf) (K : ∀ T' h', W x wd l Z EL R own code mx ret nm T' h' k n sf → Wr h h' a q (.int (nar .char v)) → Arv Z h' a kc .char z (vs'.set q (.int (nar .char v))) dv → Go x wd Z EL R Q T' pc' ls st) : Go x wd Z EL R Q T pc ls (.int v :: .int j :: .ref a :: st) := by
  obtain ⟨hd, rfl⟩ := hd
  obtain ⟨hj, h0⟩ := hj
  subst hj
  obtain ⟨cl, Ar, r1, S, r3, H, G⟩ := A.pad hp
  have hin : ¬ (j < 0 ∨ cl.slots.size ≤ j.toNatClampNeg) := by rw [S]; exact fun u => u.elim h0 fun u => absurd hz (Nat.not_lt.mpr u)
  refine w.goW ha (fun s0 L X hx hZ ho hb hnm e0 => RoadKit.stC X hx hZ e0 Ar hin (g := mkF x.m pc ls (.int v :: .int j :: .ref a :: st)) rfl rfl (Jvm.hb hb hd)) (fun T' h' w' Wr' => K T' h' w' Wr' (Arv.set Ar r1 S r3 H G hf Wr' _ rfl hq))
theorem W.stB (w : W x wd l Z EL R own code mx ret nm T h k n sf) {a : Addr} {kc : ClassId} {z j v : Int32} {vs : List Value} {dv : Value} (q : Nat) (vs' : List Value) (hd : Dc code pc .bastore 1 pc') (A : Arv Z h a kc .byte z vs dv) (hj : j.toNatClampNeg = q ∧ ¬ j < 0) (hz : q < z.toNatClampNeg) (hp : ∀ i, vs'.getD i dv = vs.getD i dv) (hq : q < vs'.length) (hf : fits .byte (.int (nar .byte v)) = true) (ha : a ∈ sf) (K : ∀ T' h', W x wd l Z EL R own code mx ret nm T' h' k n sf → Wr h h' a q (.int (nar .byte v)) → Arv Z h' a kc .byte z (vs'.set q (.int (nar .byte v))) dv → Go x wd Z EL R Q T' pc' ls st) : Go x wd Z EL R Q T pc ls (.int v :: .int j :: .ref a :: st) := by
  obtain ⟨hd, rfl⟩ := hd
  obtain ⟨hj, h0⟩ := hj
  subst hj
  obtain ⟨cl, Ar, r1, S, r3, H, G⟩ := A.pad hp
  have hin : ¬ (j < 0 ∨ cl.slots.size ≤ j.toNatClampNeg) := by rw [S]; exact fun u => u.elim h0 fun u => absurd hz (Nat.not_lt.mpr u)
  refine w.goW ha (fun s0 L X hx hZ ho hb hnm e0 => RoadKit.stB X hx hZ e0 Ar hin (g := mkF x.m pc ls (.int v :: .int j :: .ref a :: st)) rfl rfl (Jvm.hb hb hd)) (fun T' h' w' Wr' => K T' h' w' Wr' (Arv.set Ar r1 S r3 H G hf Wr' _ rfl hq))
theorem W.stI (w : W x wd l Z EL R own code mx ret nm T h k n sf) {a : Addr} {kc : ClassId} {z j v : Int32} {vs : List Value} {dv : Value} (q : Nat) (vs' : List Value) (hd : Dc code pc .iastore 1 pc') (A : Arv Z h a kc .int z vs dv) (hj : j.toNatClampNeg = q ∧ ¬ j < 0) (hz : q < z.toNatClampNeg) (hp : ∀ i, vs'.getD i dv = vs.getD i dv) (hq : q < vs'.length) (hf : fits .int (.int v) = true) (ha : a ∈ sf) (K : ∀ T' h', W x wd l Z EL R own code mx ret nm T' h' k n sf → Wr h h' a q (.int v) → Arv Z h' a kc .int z (vs'.set q (.int v)) dv → Go x wd Z EL R Q T' pc' ls st) : Go x wd Z EL R Q T pc ls (.int v :: .int j :: .ref a :: st) := by
  obtain ⟨hd, rfl⟩ := hd
  obtain ⟨hj, h0⟩ := hj
  subst hj
  obtain ⟨cl, Ar, r1, S, r3, H, G⟩ := A.pad hp
  have hin : ¬ (j < 0 ∨ cl.slots.size ≤ j.toNatClampNeg) := by rw [S]; exact fun u => u.elim h0 fun u => absurd hz (Nat.not_lt.mpr u)
  refine w.goW ha (fun s0 L X hx hZ ho hb hnm e0 => RoadKit.stI X hx hZ e0 Ar hin (g := mkF x.m pc ls (.int v :: .int j :: .ref a :: st)) rfl rfl (Jvm.hb hb hd)) (fun T' h' w' Wr' => K T' h' w' Wr' (Arv.set Ar r1 S r3 H G hf Wr' _ rfl hq))
theorem W.stR (w : W x wd l Z EL R own code mx ret nm T h k n sf) {a b : Addr} {kc : ClassId} {z j : Int32} {C : String} {vs : List Value} (q : Nat) (vs' : List Value) (hd : Dc code pc .aastore 1 pc') (A : Arv Z h a kc (.object C) z vs .null) (O : Ovr Z kc C) (I : Ins Z h b C true) (hj : j.toNatClampNeg = q ∧ ¬ j < 0) (hz : q < z.toNatClampNeg) (hp : ∀ i, vs'.getD i .null = vs.getD i .null) (hq : q < vs'.length) (ha : a ∈ sf) (K : ∀ T' h', W x wd l Z EL R own code mx ret nm T' h' k n sf → Wr h h' a q (.ref b) → Arv Z h' a kc (.object C) z (vs'.set q (.ref b)) .null → Go x wd Z EL R Q T' pc' ls st) : Go x wd Z EL R Q T pc ls (.ref b :: .int j :: .ref a :: st) := by
  obtain ⟨hd, rfl⟩ := hd
  obtain ⟨hj, h0⟩ := hj
  subst hj
  obtain ⟨cl, Ar, r1, S, r3, H, G⟩ := A.pad hp
  have hin : ¬ (j < 0 ∨ cl.slots.size ≤ j.toNatClampNeg) := by rw [S]; exact fun u => u.elim h0 fun u => absurd hz (Nat.not_lt.mpr u)
  refine w.goW ha (fun s0 L X hx hZ ho hb hnm e0 => RoadKit.stR X hx hZ e0 Ar hin rfl (Sto.ofV Ar r1 O I) (g := mkF x.m pc ls (.ref b :: .int j :: .ref a :: st)) rfl rfl (Jvm.hb hb hd)) (fun T' h' w' Wr' => K T' h' w' Wr' (Arv.set Ar r1 S r3 H G rfl Wr' _ rfl hq))
theorem W.retN (w : W x wd l Z EL R own code mx ret nm T h k n sf) {t : FieldType} {v : Int32} (hd : Dc code pc .ireturn 1 pc') (hr : ret = some t) (ht : t = .boolean ∨ t = .byte ∨ t = .char ∨ t = .short) (hQ : Q (some (.int (nar t v))) h) : Go x wd Z EL R Q T pc ls (.int v :: st) := by
  obtain ⟨hd, rfl⟩ := hd
  exact w.done (v := some (.int (nar t v))) (fun q => by rw [hr] at q; cases q) hQ fun s0 L X hx hb hret fs hl => RoadKit.retN X hx (hret.trans hr) ht (Jvm.hb hb hd) hl
theorem W.retI (w : W x wd l Z EL R own code mx ret nm T h k n sf) {v : Int32} (hd : Dc code pc .ireturn 1 pc') (hr : ret = some .int) (hQ : Q (some (.int v)) h) : Go x wd Z EL R Q T pc ls (.int v :: st) := by
  obtain ⟨hd, rfl⟩ := hd
  exact w.done (v := some (.int v)) (fun q => by rw [hr] at q; cases q) hQ fun s0 L X hx hb hret fs hl => retOut X hx (hret.trans hr) rfl (Or.inl ⟨rfl, Or.inl rfl, v, rfl⟩) (Jvm.hb hb hd) hl
theorem W.retA (w : W x wd l Z EL R own code mx ret nm T h k n sf) {t : FieldType} {v : Value} (hd : Dc code pc .areturn 1 pc') (hr : ret = some t) (ht : t.isReference = true) (hn : narrow t v = v) (hv : v.isRef = true) (hQ : Q (some v) h) : Go x wd Z EL R Q T pc ls (v :: st) := by
  obtain ⟨hd, rfl⟩ := hd
  exact w.done (v := some v) (fun q => by rw [hr] at q; cases q) hQ fun s0 L X hx hb hret fs hl => retOut X hx (hret.trans hr) hn (Or.inr (Or.inr (Or.inr (Or.inr ⟨rfl, ht, hv⟩)))) (Jvm.hb hb hd) hl
theorem W.retV (w : W x wd l Z EL R own code mx ret nm T h k n sf) (hd : Dc code pc .return_ 1 pc') (hr : ret = none) (hQ : Q none h) : Go x wd Z EL R Q T pc ls [] := by
  obtain ⟨hd, rfl⟩ := hd
  exact w.done (v := none) (fun _ => rfl) hQ fun s0 L X hx hb hret fs hl => X.returnOut hx (hret.trans hr) (Jvm.hb hb hd) hl
theorem W.callS (w : W x wd l Z EL R own code mx ret nm T h k n sf) {y : MethodName} {bytes : ByteArray} {maxL : Nat} {rt : Option FieldType} {rm : Room} {sf0 : List Addr} {Q' : Option Value → Heap → Prop} {i : Nat} {argsL rest : List Value}  (Wn : Nat) (hd : Dc code pc (.invokestatic i) 3 pc') (w1 : (Jvm.Cond.methodLink own i y).before a0 Z = true) (w2 : (Jvm.Cond.static y).before a0 Z = true) (w3 : (Jvm.Cond.initialized y.cls).before a0 Z = true) (w4 : (Jvm.Cond.code y bytes maxL rt).before a0 Z = true) (hy : y.cls ≠ "java/lang/invoke/MethodHandle" ∧ y.cls ≠ "java/lang/invoke/VarHandle") (C : Ct wd l Z EL y bytes maxL rt [] rm sf0 argsL.toArray h Q') (hlen : ∀ sig, parseMethodDescriptor y.desc = some sig → argsL.length = sig.parameters.length) (hz : ls.size = mx) (hst : st = argsL.reverse ++ rest) (hW : (rest.map fun v => v.category).sum ≤ Wn) (hr : rm.frames + 1 ≤ R.frames ∧ Wn + (maxL + 11) + rm.locals ≤ R.locals ∧ k + rm.cells ≤ R.cells ∧ n + rm.slots ≤ R.slots) (hsub : ∀ y ∈ sf0, y ∈ sf) (K : ∀ T' h' v, W x wd l Z EL R own code mx ret nm T' h' (k + rm.cells) (n + rm.slots) sf → h.size ≤ h'.size → Q' v h' → Go x wd Z EL R Q T' pc' ls (v.toList ++ rest)) : Go x wd Z EL R Q T pc ls st := by
  obtain ⟨hd, rfl⟩ := hd
  subst hst
  obtain ⟨hx, hb, hm, hret, hn, hl, e0, E, c1, c2, hs, hEL, L, vm0, N, g, X, S, hZ, ho, hC⟩ := w
  have hWW : 2 * (mkF x.m pc ls (argsL.reverse ++ rest)).monitorRoom + (rest.map fun v => v.category).sum ≤ Wn := by show 2 * 0 + _ ≤ _; omega
  cases wd with
  | false =>
    have eq := g rfl
    subst eq
    obtain ⟨v, _, ⟨T1, L1, k1, n1⟩, -, X1, ⟨Lc, hQ, l1, y1, z1⟩, stp⟩ := Jvm.LawKit.callS X hx (y := y) ho (mvT hZ w1) (mvT hZ w2) (mvT hZ w3) (mvT hZ w4) hy (backN (Wn := Wn) C hZ w4 w3 hr.1 hr.2.1) (g := mkF x.m pc ls (argsL.reverse ++ rest)) rfl (hz.trans hm.symm) (argsL := argsL) (rest := rest) hlen rfl hWW (Jvm.hb hb hd) (fun _ _ => ⟨rfl, e0, hr.2.2.1, hr.2.2.2⟩)
    dsimp only [Pt.U, Pt.locs, Pt.cells, Pt.slots] at X1 l1 y1 z1 stp hQ
    subst l1 y1 z1
    obtain ⟨s₂, o, a1, r⟩ := K T1 T1.heap v ⟨hx, hb, hm, hret, hn, hl, rfl, hQ.2.2.1, hr.2.2.1, hr.2.2.2, fun y hy => ⟨(hs y hy).1, Nat.lt_of_lt_of_le (hs y hy).2 hQ.2.2.2⟩, hEL, _, _, Fr.app N hQ.2.1, fun _ => rfl, X1, (State.WarmedH.refl x.s).since _, hZ, ho, fun q => by cases q⟩ hQ.2.2.2 hQ.1
    exact ⟨s₂, o, stp _ a1, r⟩
  | true =>
    obtain ⟨v, _, ⟨T1, L1, k1, n1⟩, -, X1, hS1, hgr, ⟨Lc, hQ, l1, y1, z1, hCr⟩, stp⟩ := callSS X hx (y := y) ho (mvT (s := x.s.setVm vm0) hZ w1) (mvT (s := x.s.setVm vm0) hZ w2) (mvT (s := x.s.setVm vm0) hZ w3) (mvT (s := x.s.setVm vm0) hZ w4) hy (backW (s := x.s) (Wn := Wn) C hZ w4 w3 hr.1 hr.2.1 hEL (hC rfl).1.1 (fun y hy => ⟨(hs y (hsub y hy)).2, (hC rfl).2 y (hsub y hy)⟩)) (g := mkF x.m pc ls (argsL.reverse ++ rest)) rfl (hz.trans hm.symm) (argsL := argsL) (rest := rest) hlen rfl hWW (Jvm.hb hb hd) (fun _ _ => ⟨rfl, e0, hr.2.2.1, hr.2.2.2⟩)
    dsimp only [Pt.U, Pt.locs, Pt.cells, Pt.slots] at X1 l1 y1 z1 stp hQ hS1 hgr hCr
    subst l1 y1 z1
    rw [e0] at hgr
    obtain ⟨Xr, Sr, Zr, Or⟩ := rebS (s := x.s) (vm0 := vm0) S hgr X1 hS1 (Nat.le_refl _) hZ ho
    obtain ⟨s₂, o, a1, r⟩ := K T1 T1.heap v ⟨hx, hb, hm, hret, hn, hl, rfl, hQ.2.2.1, hr.2.2.1, hr.2.2.2, fun y hy => ⟨(hs y hy).1, Nat.lt_of_lt_of_le (hs y hy).2 hgr⟩, hEL, _, _, Fr.app N hQ.2.1, (fun q => by cases q), Xr, Sr, Zr, Or, fun _ => ⟨(hC rfl).1.trans hCr, fun y hy => hCr.safe (hs y hy).2 ((hC rfl).2 y hy)⟩⟩ hgr hQ.1
    exact ⟨s₂, o, stp.trans a1, r⟩
theorem W.callI (w : W x wd l Z EL R own code mx ret nm T h k n sf) {y : MethodName} {bytes : ByteArray} {maxL : Nat} {rm : Room} {sf0 : List Addr} {Q' : Option Value → Heap → Prop} {i : Nat} {argsL rest : List Value} {a : Addr} (Wn : Nat) (hd : Dc code pc (.invokespecial i) 3 pc') (hy1 : y.name = "<init>") (w1 : (Jvm.Cond.methodLink own i y).before a0 Z = true) (w2 : (Jvm.Cond.instanceMethod y).before a0 Z = true) (w3 : (Jvm.Cond.initialized y.cls).before a0 Z = true) (w4 : (Jvm.Cond.code y bytes maxL none).before a0 Z = true) (hy : y.cls ≠ "java/lang/invoke/MethodHandle" ∧ y.cls ≠ "java/lang/invoke/VarHandle") (C : Ct wd l Z EL y bytes maxL none [] rm sf0 (.ref a :: argsL).toArray h Q') (hlen : ∀ sig, parseMethodDescriptor y.desc = some sig → argsL.length = sig.parameters.length) (hz : ls.size = mx) (hst : st = argsL.reverse ++ .ref a :: rest) (hW : (rest.map fun v => v.category).sum ≤ Wn) (hr : rm.frames + 1 ≤ R.frames ∧ Wn + (maxL + 11) + rm.locals ≤ R.locals ∧ k + rm.cells ≤ R.cells ∧ n + rm.slots ≤ R.slots) (hsub : ∀ y ∈ sf0, y ∈ sf) (K : ∀ T' h' v, W x wd l Z EL R own code mx ret nm T' h' (k + rm.cells) (n + rm.slots) sf → h.size ≤ h'.size → Q' v h' → Go x wd Z EL R Q T' pc' ls (v.toList ++ rest)) : Go x wd Z EL R Q T pc ls st := by
  obtain ⟨hd, rfl⟩ := hd
  subst hst
  obtain ⟨hx, hb, hm, hret, hn, hl, e0, E, c1, c2, hs, hEL, L, vm0, N, g, X, S, hZ, ho, hC⟩ := w
  have hWW : 2 * (mkF x.m pc ls (argsL.reverse ++ .ref a :: rest)).monitorRoom + (rest.map fun v => v.category).sum ≤ Wn := by show 2 * 0 + _ ≤ _; omega
  cases wd with
  | false =>
    have eq := g rfl
    subst eq
    obtain ⟨v, _, ⟨T1, L1, k1, n1⟩, -, X1, ⟨Lc, hQ, l1, y1, z1⟩, stp⟩ := X.specialBack hx (y := y) hy1 ho (mvT hZ w1) (mvT hZ w2) (mvT hZ w4) hy (backN (Wn := Wn) C hZ w4 w3 hr.1 hr.2.1) (g := mkF x.m pc ls (argsL.reverse ++ .ref a :: rest)) rfl (hz.trans hm.symm) (Steps.refl _) (a := a) (argsL := argsL) (rest := rest) hlen rfl hWW (Jvm.hb hb hd) (fun _ _ => ⟨rfl, e0, hr.2.2.1, hr.2.2.2⟩)
    dsimp only [Pt.U, Pt.locs, Pt.cells, Pt.slots] at X1 l1 y1 z1 stp hQ
    subst l1 y1 z1
    obtain ⟨s₂, o, a1, r⟩ := K T1 T1.heap v ⟨hx, hb, hm, hret, hn, hl, rfl, hQ.2.2.1, hr.2.2.1, hr.2.2.2, fun y hy => ⟨(hs y hy).1, Nat.lt_of_lt_of_le (hs y hy).2 hQ.2.2.2⟩, hEL, _, _, Fr.app N hQ.2.1, fun _ => rfl, X1, (State.WarmedH.refl x.s).since _, hZ, ho, fun q => by cases q⟩ hQ.2.2.2 hQ.1
    exact ⟨s₂, o, stp.trans a1, r⟩
  | true =>
    obtain ⟨v, _, ⟨T1, L1, k1, n1⟩, -, X1, hS1, hgr, ⟨Lc, hQ, l1, y1, z1, hCr⟩, stp⟩ := X.specialBackS hx (y := y) hy1 ho (mvT (s := x.s.setVm vm0) hZ w1) (mvT (s := x.s.setVm vm0) hZ w2) (mvT (s := x.s.setVm vm0) hZ w4) hy (backW (s := x.s) (Wn := Wn) C hZ w4 w3 hr.1 hr.2.1 hEL (hC rfl).1.1 (fun y hy => ⟨(hs y (hsub y hy)).2, (hC rfl).2 y (hsub y hy)⟩)) (g := mkF x.m pc ls (argsL.reverse ++ .ref a :: rest)) rfl (hz.trans hm.symm) (Steps.refl _) (a := a) (argsL := argsL) (rest := rest) hlen rfl hWW (Jvm.hb hb hd) (fun _ _ => ⟨rfl, e0, hr.2.2.1, hr.2.2.2⟩)
    dsimp only [Pt.U, Pt.locs, Pt.cells, Pt.slots] at X1 l1 y1 z1 stp hQ hS1 hgr hCr
    subst l1 y1 z1
    rw [e0] at hgr
    obtain ⟨Xr, Sr, Zr, Or⟩ := rebS (s := x.s) (vm0 := vm0) S hgr X1 hS1 (Nat.le_refl _) hZ ho
    obtain ⟨s₂, o, a1, r⟩ := K T1 T1.heap v ⟨hx, hb, hm, hret, hn, hl, rfl, hQ.2.2.1, hr.2.2.1, hr.2.2.2, fun y hy => ⟨(hs y hy).1, Nat.lt_of_lt_of_le (hs y hy).2 hgr⟩, hEL, _, _, Fr.app N hQ.2.1, (fun q => by cases q), Xr, Sr, Zr, Or, fun _ => ⟨(hC rfl).1.trans hCr, fun y hy => hCr.safe (hs y hy).2 ((hC rfl).2 y hy)⟩⟩ hgr hQ.1
    exact ⟨s₂, o, stp.trans a1, r⟩
theorem W.callV (w : W x wd l Z EL R own code mx ret nm T h k n sf) {y : MethodName} {bytes : ByteArray} {maxL : Nat} {rt : Option FieldType} {rm : Room} {sf0 : List Addr} {Q' : Option Value → Heap → Prop} {i : Nat} {argsL rest : List Value} {a : Addr} {Cl : String} (Wn : Nat) (hd : Dc code pc (.invokevirtual i) 3 pc') (w1 : (Jvm.Cond.methodLink own i y).before a0 Z = true) (wd1 : (Jvm.Cond.declares y).before a0 Z = true) (ws : (Jvm.Cond.selects Cl y y).before a0 Z = true) (w2 : (Jvm.Cond.instanceMethod y).before a0 Z = true) (w3 : (Jvm.Cond.initialized y.cls).before a0 Z = true) (w4 : (Jvm.Cond.code y bytes maxL rt).before a0 Z = true) (hy : y.cls ≠ "java/lang/invoke/MethodHandle" ∧ y.cls ≠ "java/lang/invoke/VarHandle") (Ea : Exa Z h a Cl) (C : Ct wd l Z EL y bytes maxL rt [] rm sf0 (.ref a :: argsL).toArray h Q') (hlen : ∀ sig, parseMethodDescriptor y.desc = some sig → argsL.length = sig.parameters.length) (hz : ls.size = mx) (hst : st = argsL.reverse ++ .ref a :: rest) (hW : (rest.map fun v => v.category).sum ≤ Wn) (hr : rm.frames + 1 ≤ R.frames ∧ Wn + (maxL + 11) + rm.locals ≤ R.locals ∧ k + rm.cells ≤ R.cells ∧ n + rm.slots ≤ R.slots) (hsub : ∀ y ∈ sf0, y ∈ sf) (K : ∀ T' h' v, W x wd l Z EL R own code mx ret nm T' h' (k + rm.cells) (n + rm.slots) sf → h.size ≤ h'.size → Q' v h' → Go x wd Z EL R Q T' pc' ls (v.toList ++ rest)) : Go x wd Z EL R Q T pc ls st := by
  obtain ⟨hd, rfl⟩ := hd
  subst hst
  obtain ⟨hx, hb, hm, hret, hn, hl, e0, E, c1, c2, hs, hEL, L, vm0, N, g, X, S, hZ, ho, hC⟩ := w
  have hWW : 2 * (mkF x.m pc ls (argsL.reverse ++ .ref a :: rest)).monitorRoom + (rest.map fun v => v.category).sum ≤ Wn := by show 2 * 0 + _ ≤ _; omega
  obtain ⟨cB, kB, qa, qb, qc⟩ := isOf (s := x.s.setVm vm0) hZ e0 Ea
  cases wd with
  | false =>
    have eq := g rfl
    subst eq
    obtain ⟨v, _, ⟨T1, L1, k1, n1⟩, -, X1, ⟨Lc, hQ, l1, y1, z1⟩, stp⟩ := X.virtualBack hx (y := y) (z := y) ho (mvT hZ w1) (mvT hZ wd1) (notFace_of_selects (args := #[]) (mvT hZ ws)) (mvT hZ ws) (mvT hZ w2) hy (backN (Wn := Wn) C hZ w4 w3 hr.1 hr.2.1) qa qc (g := mkF x.m pc ls (argsL.reverse ++ .ref a :: rest)) rfl (hz.trans hm.symm) (Steps.refl _) (argsL := argsL) (rest := rest) hlen rfl hWW (Jvm.hb hb hd) (fun _ _ => ⟨rfl, e0, hr.2.2.1, hr.2.2.2⟩)
    dsimp only [Pt.U, Pt.locs, Pt.cells, Pt.slots] at X1 l1 y1 z1 stp hQ
    subst l1 y1 z1
    obtain ⟨s₂, o, a1, r⟩ := K T1 T1.heap v ⟨hx, hb, hm, hret, hn, hl, rfl, hQ.2.2.1, hr.2.2.1, hr.2.2.2, fun y hy => ⟨(hs y hy).1, Nat.lt_of_lt_of_le (hs y hy).2 hQ.2.2.2⟩, hEL, _, _, Fr.app N hQ.2.1, fun _ => rfl, X1, (State.WarmedH.refl x.s).since _, hZ, ho, fun q => by cases q⟩ hQ.2.2.2 hQ.1
    exact ⟨s₂, o, stp.trans a1, r⟩
  | true =>
    obtain ⟨v, _, ⟨T1, L1, k1, n1⟩, -, X1, hS1, hgr, ⟨Lc, hQ, l1, y1, z1, hCr⟩, stp⟩ := X.virtualBackS hx (y := y) (z := y) ho (mvT (s := x.s.setVm vm0) hZ w1) (mvT (s := x.s.setVm vm0) hZ wd1) (notFace_of_selects (args := #[]) (mvT (s := x.s.setVm vm0) hZ ws)) (mvT (s := x.s.setVm vm0) hZ ws) (mvT (s := x.s.setVm vm0) hZ w2) hy (backW (s := x.s) (Wn := Wn) C hZ w4 w3 hr.1 hr.2.1 hEL (hC rfl).1.1 (fun y hy => ⟨(hs y (hsub y hy)).2, (hC rfl).2 y (hsub y hy)⟩)) qa qc (g := mkF x.m pc ls (argsL.reverse ++ .ref a :: rest)) rfl (hz.trans hm.symm) (Steps.refl _) (argsL := argsL) (rest := rest) hlen rfl hWW (Jvm.hb hb hd) (fun _ _ => ⟨rfl, e0, hr.2.2.1, hr.2.2.2⟩)
    dsimp only [Pt.U, Pt.locs, Pt.cells, Pt.slots] at X1 l1 y1 z1 stp hQ hS1 hgr hCr
    subst l1 y1 z1
    rw [e0] at hgr
    obtain ⟨Xr, Sr, Zr, Or⟩ := rebS (s := x.s) (vm0 := vm0) S hgr X1 hS1 (Nat.le_refl _) hZ ho
    obtain ⟨s₂, o, a1, r⟩ := K T1 T1.heap v ⟨hx, hb, hm, hret, hn, hl, rfl, hQ.2.2.1, hr.2.2.1, hr.2.2.2, fun y hy => ⟨(hs y hy).1, Nat.lt_of_lt_of_le (hs y hy).2 hgr⟩, hEL, _, _, Fr.app N hQ.2.1, (fun q => by cases q), Xr, Sr, Zr, Or, fun _ => ⟨(hC rfl).1.trans hCr, fun y hy => hCr.safe (hs y hy).2 ((hC rfl).2 y hy)⟩⟩ hgr hQ.1
    exact ⟨s₂, o, stp.trans a1, r⟩
theorem W.callVZ (w : W x wd l Z EL R own code mx ret nm T h k n sf) {y : MethodName} {bytes : ByteArray} {maxL : Nat} {rt : Option FieldType} {rm : Room} {sf0 : List Addr} {Q' : Option Value → Heap → Prop} {i : Nat} {argsL rest : List Value} {a : Addr} {z : MethodName} {Cl Sup : String} (Wn : Nat) (hd : Dc code pc (.invokevirtual i) 3 pc') (w1 : (Jvm.Cond.methodLink own i y).before a0 Z = true) (wd1 : (Jvm.Cond.declares y).before a0 Z = true) (wsp : (Jvm.Cond.superclass y.cls Sup).before a0 Z = true) (ws : (Jvm.Cond.selects Cl y z).before a0 Z = true) (w2 : (Jvm.Cond.instanceMethod z).before a0 Z = true) (w3 : (Jvm.Cond.initialized z.cls).before a0 Z = true) (w4 : (Jvm.Cond.code z bytes maxL rt).before a0 Z = true) (hy : y.cls ≠ "java/lang/invoke/MethodHandle" ∧ y.cls ≠ "java/lang/invoke/VarHandle") (Ea : Exa Z h a Cl) (C : Ct wd l Z EL z bytes maxL rt [] rm sf0 (.ref a :: argsL).toArray h Q') (hlen : ∀ sig, parseMethodDescriptor y.desc = some sig → argsL.length = sig.parameters.length) (hz : ls.size = mx) (hst : st = argsL.reverse ++ .ref a :: rest) (hW : (rest.map fun v => v.category).sum ≤ Wn) (hr : rm.frames + 1 ≤ R.frames ∧ Wn + (maxL + 11) + rm.locals ≤ R.locals ∧ k + rm.cells ≤ R.cells ∧ n + rm.slots ≤ R.slots) (hsub : ∀ y ∈ sf0, y ∈ sf) (K : ∀ T' h' v, W x wd l Z EL R own code mx ret nm T' h' (k + rm.cells) (n + rm.slots) sf → h.size ≤ h'.size → Q' v h' → Go x wd Z EL R Q T' pc' ls (v.toList ++ rest)) : Go x wd Z EL R Q T pc ls st := by
  obtain ⟨hd, rfl⟩ := hd
  subst hst
  obtain ⟨hx, hb, hm, hret, hn, hl, e0, E, c1, c2, hs, hEL, L, vm0, N, g, X, S, hZ, ho, hC⟩ := w
  have hWW : 2 * (mkF x.m pc ls (argsL.reverse ++ .ref a :: rest)).monitorRoom + (rest.map fun v => v.category).sum ≤ Wn := by show 2 * 0 + _ ≤ _; omega
  obtain ⟨cB, kB, qa, qb, qc⟩ := isOf (s := x.s.setVm vm0) hZ e0 Ea
  cases wd with
  | false =>
    have eq := g rfl
    subst eq
    obtain ⟨v, _, ⟨T1, L1, k1, n1⟩, -, X1, ⟨Lc, hQ, l1, y1, z1⟩, stp⟩ := X.virtualBack hx (y := y) (z := z) ho (mvT hZ w1) (mvT hZ wd1) (nf_super (args := #[]) (mvT hZ wsp)) (mvT hZ ws) (mvT hZ w2) hy (backN (Wn := Wn) C hZ w4 w3 hr.1 hr.2.1) qa qc (g := mkF x.m pc ls (argsL.reverse ++ .ref a :: rest)) rfl (hz.trans hm.symm) (Steps.refl _) (argsL := argsL) (rest := rest) hlen rfl hWW (Jvm.hb hb hd) (fun _ _ => ⟨rfl, e0, hr.2.2.1, hr.2.2.2⟩)
    dsimp only [Pt.U, Pt.locs, Pt.cells, Pt.slots] at X1 l1 y1 z1 stp hQ
    subst l1 y1 z1
    obtain ⟨s₂, o, a1, r⟩ := K T1 T1.heap v ⟨hx, hb, hm, hret, hn, hl, rfl, hQ.2.2.1, hr.2.2.1, hr.2.2.2, fun y hy => ⟨(hs y hy).1, Nat.lt_of_lt_of_le (hs y hy).2 hQ.2.2.2⟩, hEL, _, _, Fr.app N hQ.2.1, fun _ => rfl, X1, (State.WarmedH.refl x.s).since _, hZ, ho, fun q => by cases q⟩ hQ.2.2.2 hQ.1
    exact ⟨s₂, o, stp.trans a1, r⟩
  | true =>
    obtain ⟨v, _, ⟨T1, L1, k1, n1⟩, -, X1, hS1, hgr, ⟨Lc, hQ, l1, y1, z1, hCr⟩, stp⟩ := X.virtualBackS hx (y := y) (z := z) ho (mvT (s := x.s.setVm vm0) hZ w1) (mvT (s := x.s.setVm vm0) hZ wd1) (nf_super (args := #[]) (mvT (s := x.s.setVm vm0) hZ wsp)) (mvT (s := x.s.setVm vm0) hZ ws) (mvT (s := x.s.setVm vm0) hZ w2) hy (backW (s := x.s) (Wn := Wn) C hZ w4 w3 hr.1 hr.2.1 hEL (hC rfl).1.1 (fun y hy => ⟨(hs y (hsub y hy)).2, (hC rfl).2 y (hsub y hy)⟩)) qa qc (g := mkF x.m pc ls (argsL.reverse ++ .ref a :: rest)) rfl (hz.trans hm.symm) (Steps.refl _) (argsL := argsL) (rest := rest) hlen rfl hWW (Jvm.hb hb hd) (fun _ _ => ⟨rfl, e0, hr.2.2.1, hr.2.2.2⟩)
    dsimp only [Pt.U, Pt.locs, Pt.cells, Pt.slots] at X1 l1 y1 z1 stp hQ hS1 hgr hCr
    subst l1 y1 z1
    rw [e0] at hgr
    obtain ⟨Xr, Sr, Zr, Or⟩ := rebS (s := x.s) (vm0 := vm0) S hgr X1 hS1 (Nat.le_refl _) hZ ho
    obtain ⟨s₂, o, a1, r⟩ := K T1 T1.heap v ⟨hx, hb, hm, hret, hn, hl, rfl, hQ.2.2.1, hr.2.2.1, hr.2.2.2, fun y hy => ⟨(hs y hy).1, Nat.lt_of_lt_of_le (hs y hy).2 hgr⟩, hEL, _, _, Fr.app N hQ.2.1, (fun q => by cases q), Xr, Sr, Zr, Or, fun _ => ⟨(hC rfl).1.trans hCr, fun y hy => hCr.safe (hs y hy).2 ((hC rfl).2 y hy)⟩⟩ hgr hQ.1
    exact ⟨s₂, o, stp.trans a1, r⟩
theorem W.callVU (w : W x wd l Z EL R own code mx ret nm T h k n sf) {y : MethodName} {bytes : ByteArray} {maxL : Nat} {rt : Option FieldType} {rm : Room} {sf0 : List Addr} {Q' : Option Value → Heap → Prop} {i : Nat} {argsL rest : List Value} {a : Addr} {z : MethodName} {Cl ow : String} (Wn : Nat) (hd : Dc code pc (.invokevirtual i) 3 pc') (w1 : (Jvm.Cond.methodLink own i y).before a0 Z = true) (wsm : (Jvm.Cond.sameMethod y.cls ow y.name y.desc).before a0 Z = true) (wd1 : (Jvm.Cond.declares ⟨ow, y.name, y.desc⟩).before a0 Z = true) (ws : (Jvm.Cond.selects Cl y z).before a0 Z = true) (w2 : (Jvm.Cond.instanceMethod z).before a0 Z = true) (w3 : (Jvm.Cond.initialized z.cls).before a0 Z = true) (w4 : (Jvm.Cond.code z bytes maxL rt).before a0 Z = true) (hy : ow ≠ "java/lang/invoke/MethodHandle" ∧ ow ≠ "java/lang/invoke/VarHandle") (Ea : Exa Z h a Cl) (C : Ct wd l Z EL z bytes maxL rt [] rm sf0 (.ref a :: argsL).toArray h Q') (hlen : ∀ sig, parseMethodDescriptor y.desc = some sig → argsL.length = sig.parameters.length) (hz : ls.size = mx) (hst : st = argsL.reverse ++ .ref a :: rest) (hW : (rest.map fun v => v.category).sum ≤ Wn) (hr : rm.frames + 1 ≤ R.frames ∧ Wn + (maxL + 11) + rm.locals ≤ R.locals ∧ k + rm.cells ≤ R.cells ∧ n + rm.slots ≤ R.slots) (hsub : ∀ y ∈ sf0, y ∈ sf) (K : ∀ T' h' v, W x wd l Z EL R own code mx ret nm T' h' (k + rm.cells) (n + rm.slots) sf → h.size ≤ h'.size → Q' v h' → Go x wd Z EL R Q T' pc' ls (v.toList ++ rest)) : Go x wd Z EL R Q T pc ls st := by
  obtain ⟨hd, rfl⟩ := hd
  subst hst
  obtain ⟨hx, hb, hm, hret, hn, hl, e0, E, c1, c2, hs, hEL, L, vm0, N, g, X, S, hZ, ho, hC⟩ := w
  have hWW : 2 * (mkF x.m pc ls (argsL.reverse ++ .ref a :: rest)).monitorRoom + (rest.map fun v => v.category).sum ≤ Wn := by show 2 * 0 + _ ≤ _; omega
  obtain ⟨cB, kB, qa, qb, qc⟩ := isOf (s := x.s.setVm vm0) hZ e0 Ea
  cases wd with
  | false =>
    have eq := g rfl
    subst eq
    obtain ⟨v, _, ⟨T1, L1, k1, n1⟩, -, X1, ⟨Lc, hQ, l1, y1, z1⟩, stp⟩ := X.virtualBackUp hx (x := y) (y := z) ho (mvT hZ w1) (mvT hZ wsm) (mvT hZ wd1) hy (mvT hZ ws) (mvT hZ w2) (backN (Wn := Wn) C hZ w4 w3 hr.1 hr.2.1) qa qc (g := mkF x.m pc ls (argsL.reverse ++ .ref a :: rest)) rfl (hz.trans hm.symm) (Steps.refl _) (argsL := argsL) (rest := rest) hlen rfl hWW (Jvm.hb hb hd) (fun _ _ => ⟨rfl, e0, hr.2.2.1, hr.2.2.2⟩)
    dsimp only [Pt.U, Pt.locs, Pt.cells, Pt.slots] at X1 l1 y1 z1 stp hQ
    subst l1 y1 z1
    obtain ⟨s₂, o, a1, r⟩ := K T1 T1.heap v ⟨hx, hb, hm, hret, hn, hl, rfl, hQ.2.2.1, hr.2.2.1, hr.2.2.2, fun y hy => ⟨(hs y hy).1, Nat.lt_of_lt_of_le (hs y hy).2 hQ.2.2.2⟩, hEL, _, _, Fr.app N hQ.2.1, fun _ => rfl, X1, (State.WarmedH.refl x.s).since _, hZ, ho, fun q => by cases q⟩ hQ.2.2.2 hQ.1
    exact ⟨s₂, o, stp.trans a1, r⟩
  | true =>
    obtain ⟨v, _, ⟨T1, L1, k1, n1⟩, -, X1, hS1, hgr, ⟨Lc, hQ, l1, y1, z1, hCr⟩, stp⟩ := X.virtualBackUpS hx (x := y) (y := z) ho (mvT (s := x.s.setVm vm0) hZ w1) (mvT (s := x.s.setVm vm0) hZ wsm) (mvT (s := x.s.setVm vm0) hZ wd1) hy (mvT (s := x.s.setVm vm0) hZ ws) (mvT (s := x.s.setVm vm0) hZ w2) (backW (s := x.s) (Wn := Wn) C hZ w4 w3 hr.1 hr.2.1 hEL (hC rfl).1.1 (fun y hy => ⟨(hs y (hsub y hy)).2, (hC rfl).2 y (hsub y hy)⟩)) qa qc (g := mkF x.m pc ls (argsL.reverse ++ .ref a :: rest)) rfl (hz.trans hm.symm) (Steps.refl _) (argsL := argsL) (rest := rest) hlen rfl hWW (Jvm.hb hb hd) (fun _ _ => ⟨rfl, e0, hr.2.2.1, hr.2.2.2⟩)
    dsimp only [Pt.U, Pt.locs, Pt.cells, Pt.slots] at X1 l1 y1 z1 stp hQ hS1 hgr hCr
    subst l1 y1 z1
    rw [e0] at hgr
    obtain ⟨Xr, Sr, Zr, Or⟩ := rebS (s := x.s) (vm0 := vm0) S hgr X1 hS1 (Nat.le_refl _) hZ ho
    obtain ⟨s₂, o, a1, r⟩ := K T1 T1.heap v ⟨hx, hb, hm, hret, hn, hl, rfl, hQ.2.2.1, hr.2.2.1, hr.2.2.2, fun y hy => ⟨(hs y hy).1, Nat.lt_of_lt_of_le (hs y hy).2 hgr⟩, hEL, _, _, Fr.app N hQ.2.1, (fun q => by cases q), Xr, Sr, Zr, Or, fun _ => ⟨(hC rfl).1.trans hCr, fun y hy => hCr.safe (hs y hy).2 ((hC rfl).2 y hy)⟩⟩ hgr hQ.1
    exact ⟨s₂, o, stp.trans a1, r⟩
theorem W.lsw (w : W x wd l Z EL R own code mx ret nm T h k n sf) {dflt off : Int} {pairs : Array (Int × Int)} {len : Nat} {i : Int32} (hd : Dc code pc (.lookupswitch dflt pairs) len pc') (hp : (pairs.toList.zip (pairs.toList.drop 1)).all (fun (a, next) => a.1 < next.1) = true) (ho : (match pairs.find? (·.1 == i.toInt) with | some (_, o) => o | none => dflt) = off) (ht : Tg pc off pcT) (K : Go x wd Z EL R Q T pcT ls st) : Go x wd Z EL R Q T pc ls (.int i :: st) := by
  obtain ⟨hd, rfl⟩ := hd
  obtain ⟨ht, rfl⟩ := ht
  obtain ⟨hx, hb, hm, hr, hn, hl, e0, E, c1, c2, hs, hEL, L, vm0, N, g, X, S, hZ, ho', hC⟩ := w
  obtain ⟨s₂, o, a1, r⟩ := K
  refine ⟨s₂, o, ?_, r⟩
  rcases hf : pairs.find? (·.1 == i.toInt) with _ | ⟨a, off'⟩
  · simp only [hf] at ho
    subst ho
    exact X.lookupswitchMiss hx (g := mkF x.m pc ls (.int i :: st)) rfl rfl (Jvm.hb hb hd) hp hf ht _ a1
  · simp only [hf] at ho
    subst ho
    exact X.lookupswitchHit hx (g := mkF x.m pc ls (.int i :: st)) rfl rfl (Jvm.hb hb hd) hp hf ht _ a1
theorem W.instNo (w : W x wd l Z EL R own code mx ret nm T h k n sf) {i : Nat} {a : Addr} {C K0 : String} (hd : Dc code pc (.instanceof i) 3 pc') (wl : (Jvm.Cond.classLink own i K0).before a0 Z = true) (E : Exa Z h a C) (F : ∃ c t, Z.vm.findClass C = some c ∧ Z.vm.findClass K0 = some t ∧ Z.vm.assignable c t = false) (K : ∀ T', W x wd l Z EL R own code mx ret nm T' h k n sf → Go x wd Z EL R Q T' pc' ls (.int 0 :: st)) : Go x wd Z EL R Q T pc ls (.ref a :: st) := by
  obtain ⟨hd, rfl⟩ := hd
  exact w.goT (fun s0 L X hx hZ ho hb hm e0 => RoadKit.instNo X hx hZ ho wl e0 E F (g := mkF x.m pc ls (.ref a :: st)) rfl rfl (Jvm.hb hb hd)) K
theorem W.ldc2J (w : W x wd l Z EL R own code mx ret nm T h k n sf) {i : Nat} {v : Int64} (hd : Dc code pc (.ldc2_w i) 3 pc') (wc : (Jvm.Cond.constantLong own i v).before a0 Z = true) (K : Go x wd Z EL R Q T pc' ls (.long v :: st)) : Go x wd Z EL R Q T pc ls st := by
  obtain ⟨hd, rfl⟩ := hd
  obtain ⟨hx, hb, hm, hr, hn, hl, e0, E, c1, c2, hs, hEL, L, vm0, N, g, X, S, hZ, ho, hC⟩ := w
  obtain ⟨s₂, o, a1, r⟩ := K
  exact ⟨s₂, o, X.ldc2J hx ho (mv (s := x.s.setVm vm0) hZ wc) rfl (Jvm.hb hb hd) a1, r⟩
theorem W.instNull (w : W x wd l Z EL R own code mx ret nm T h k n sf) {i : Nat} (hd : Dc code pc (.instanceof i) 3 pc') (K : Go x wd Z EL R Q T pc' ls (.int 0 :: st)) : Go x wd Z EL R Q T pc ls (.null :: st) := by
  obtain ⟨hd, rfl⟩ := hd
  obtain ⟨hx, hb, hm, hr, hn, hl, e0, E, c1, c2, hs, hEL, L, vm0, N, g, X, S, hZ, ho, hC⟩ := w
  obtain ⟨s₂, o, a1, r⟩ := K
  exact ⟨s₂, o, X.instanceofNull hx (g := mkF x.m pc ls (.null :: st)) rfl rfl (Jvm.hb hb hd) _ a1, r⟩
theorem W.getFR (w : W x wd l Z EL R own code mx ret nm T h k n sf) {i : Nat} {a : Addr} {O f d : String} {v : Value} (hd : Dc code pc (.getfield i) 3 pc') (wl : (Jvm.Cond.fieldRef own i O f d).before a0 Z = true) (F : Fld Z h a O f d v) (K : Go x wd Z EL R Q T pc' ls (v :: st)) : Go x wd Z EL R Q T pc ls (.ref a :: st) := by
  obtain ⟨hd, rfl⟩ := hd
  obtain ⟨hx, hb, hm, hr, hn, hl, e0, E, c1, c2, hs, hEL, L, vm0, N, g, X, S, hZ, ho, hC⟩ := w
  obtain ⟨s₂, o, a1, r⟩ := K
  obtain ⟨cell, cf, kk, ii, fl, h1, h2, h3, h4, -, -, h7⟩ := F
  have hZT : Z.Warmed39 T.vm := wtrans (s := x.s.setVm vm0) hZ X.warmed
  have hq := Cond.fieldRef_warmed39 hZT wl
  have hoT : (Z.setVm T.vm).vm.findClass own = some x.m.cls := (X.warmed.alike.findClass _ _).trans ho
  obtain ⟨q1, q2, q3, q4, g1, g2⟩ := Cond.fieldRef_spec hoT hq
  obtain ⟨k', hi, -⟩ := State.fieldFound?_setVm (s := Z) hZT.alike h2
  cases hi.symm.trans g1
  have hd' := Jvm.hb hb hd
  have g2' : T.vm.fieldReady x.m.cls i cf fl := g2
  refine ⟨s₂, o, ?_, r⟩
  show Steps x.p.tables x.e x.below (T.setTop { method := x.m, pc := pc, locals := ls, stack := .ref a :: st, locked := none }) _
  jvm_step X.here [hx, hd', getfield.wp_ready (e := x.e) (s := T) (f := mkF x.m pc ls (.ref a :: st)) X.here.top g2' h3 rfl (show T.heap[a]? = some cell by rw [e0]; exact h1) h4 h7]
  exact a1
theorem W.ldcS (w : W x true l Z EL R own code mx ret nm T h k n sf) {i : Nat} {text : String} (nn : Nat) (hd : Dc code pc (.ldc i) 2 pc') (wl : (Jvm.Cond.stringLink own i text).before a0 Z = true) (wS : ∀ a ∈ Bundle.stringAtoms, a.before a0 Z = true) (hEL : EW Z a0 EL) (hn4 : 4 * text.toList.length ≤ nn) (hbig : nn ≤ 536870912) (hr : k + 2 ≤ R.cells ∧ n + (nn + 4) ≤ R.slots) (K : ∀ (a : Addr) T' h', W x true l Z EL R own code mx ret nm T' h' (k + 2) (n + (nn + 4)) sf → Ext h h' → Go x true Z EL R Q T' pc' ls (.ref a :: st)) : Go x true Z EL R Q T pc ls st := by
  obtain ⟨hd, rfl⟩ := hd
  obtain ⟨hx, hb, hm, hret, hnm, hl, e0, E, c1, c2, hs, -, L, vm0, N, g, X, S, hZ, ho, hC⟩ := w
  obtain ⟨a, T', h', k1, X', e', E', S', hk1, Z', o', hCr, -, stp⟩ := ldcOH X hx hZ ho wl wS e0 S (Nat.le_refl _) hEL (hC rfl).1.1 (g := mkF x.m pc ls st) rfl (Jvm.hb hb hd) hn4 hbig hr.1 hr.2
  obtain ⟨s₂, o, a1, r⟩ := K a T' h' ⟨hx, hb, hm, hret, hnm, hl, e', ext_trans E E', hr.1, hr.2, fun y hy => ⟨(hs y hy).1, Nat.lt_of_lt_of_le (hs y hy).2 E'.1⟩, ⟨a0, hEL⟩, L, _, N, (fun q => by cases q), X', since_mono S' hk1, Z', o', fun _ => ⟨(hC rfl).1.trans hCr, fun y hy => hCr.safe (hs y hy).2 ((hC rfl).2 y hy)⟩⟩ E'
  exact ⟨s₂, o, stp _ a1, r⟩
theorem W.ldcR (w : W x true l Z EL R own code mx ret nm T h k n sf) {i : Nat} {text : String} {vs : List Value} (z : Int32) (nn : Nat) (hd : Dc code pc (.ldc i) 2 pc') (wl : (Jvm.Cond.stringLink own i text).before a0 Z = true) (wS : ∀ a ∈ Bundle.stringAtoms, a.before a0 Z = true) (hEL : EW Z a0 EL) (hmem : (own, i) ∈ EL) (ht : (∀ c ∈ text.toList, c.toNat < 256) ∧ text.toList.map (fun c => Value.int (Jvm.Lit.byteI c.toNat.toUInt16)) = vs) (hz : ¬ z < 0) (hlz : z.toNatClampNeg = vs.length) (hn4 : 4 * text.toList.length ≤ nn) (hbig : nn ≤ 536870912) (hr : k + 2 ≤ R.cells ∧ n + (nn + 4) ≤ R.slots) (K : ∀ (a b : Addr) kb T' h', W x true l Z EL R own code mx ret nm T' h' (k + 2) (n + (nn + 4)) sf → Ext h h' → Exa Z h' a "java/lang/String" → Fld Z h' a "java/lang/String" "coder" "B" (.int 0) → Fld Z h' a "java/lang/String" "value" "[B" (.ref b) → Arv Z h' b kb .byte z vs (.int 0) → (∀ y ∈ sf, y ≠ a ∧ y ≠ b) → Go x true Z EL R Q T' pc' ls (.ref a :: st)) : Go x true Z EL R Q T pc ls st := by
  obtain ⟨hd, rfl⟩ := hd
  obtain ⟨hx, hb, hm, hret, hnm, hl, e0, E, c1, c2, hs, -, L, vm0, N, g, X, S, hZ, ho, hC⟩ := w
  obtain ⟨a, T', h', k1, b, kb, X', e', E', S', hk1, Z', o', q1, q2, q3, q4, -, -, hCr, -, hne, stp⟩ := ldcCH X hx hZ ho wl wS e0 S (Nat.le_refl _) hEL hmem (hC rfl).1.1 ht hz hlz (g := mkF x.m pc ls st) rfl (Jvm.hb hb hd) hn4 hbig hr.1 hr.2
  have hsf : ∀ y ∈ sf, Safe Z EL T'.vm h' y := fun y hy => hCr.safe (hs y hy).2 ((hC rfl).2 y hy)
  obtain ⟨s₂, o, a1, r⟩ := K a b kb T' h' ⟨hx, hb, hm, hret, hnm, hl, e', ext_trans E E', hr.1, hr.2, fun y hy => ⟨(hs y hy).1, Nat.lt_of_lt_of_le (hs y hy).2 E'.1⟩, ⟨a0, hEL⟩, L, _, N, (fun q => by cases q), X', since_mono S' hk1, Z', o', fun _ => ⟨(hC rfl).1.trans hCr, hsf⟩⟩ E' q1 q2 q3 q4 (fun y hy => hne y (hsf y hy))
  exact ⟨s₂, o, stp _ a1, r⟩
end Laws
theorem eqv_int {args : Array Value} {first s : State} {o : Option Outcome} {idx : List Nat} {a b : Term} {z : Int32} (h : (Jvm.Cond.eq a b).value args first o s idx = some true) (hb : b.eval args first o idx s = some (.int z)) : a.eval args first o idx s = some (.int z) := by
  cases ha : a.eval args first o idx s with
  | none => simp [Jvm.Cond.value, ha, hb] at h
  | some v => cases v <;> simp [Jvm.Cond.value, ha, hb] at h ⊢; exact h
theorem eqv_ref {args : Array Value} {first s : State} {o : Option Outcome} {idx : List Nat} {a b : Term} {z : Addr} (h : (Jvm.Cond.eq a b).value args first o s idx = some true) (hb : b.eval args first o idx s = some (.ref z)) : a.eval args first o idx s = some (.ref z) := by
  cases ha : a.eval args first o idx s with
  | none => simp [Jvm.Cond.value, ha, hb] at h
  | some v => cases v <;> simp [Jvm.Cond.value, ha, hb] at h ⊢; exact h
theorem sta_exa {Z : State} {args : Array Value} {C f d K : String} (hx : (Jvm.Cond.exactly (.static C f d) K).value args Z none Z [] = some true) (hi : (Jvm.Cond.initialized C).before args Z = true) (hl : (Jvm.Cond.laysStatic C f d).before args Z = true) :
    ∃ a, (Term.static C f d).eval args Z none [] Z = some (.ref a) ∧ Sta Z Z.heap C f d (.ref a) ∧ Exa Z Z.heap a K := by
  obtain ⟨a, ev⟩ := exa_v hx
  exact ⟨a, ev, Sta.start ev (Or.inr ⟨hi, hl⟩), Exa.start ev hx⟩
theorem fld_int {Z : State} {args : Array Value} {t : Term} {C f d : String} {z : Int32} {a : Addr} (h : (Jvm.Cond.eq (.field t C f d) (.int z)).value args Z none Z [] = some true) (ht : t.eval args Z none [] Z = some (.ref a)) : Fld Z Z.heap a C f d (.int z) :=
  Fld.start (by rw [← fld_at ht]; exact eqv_int h (Term.int_eval z))
theorem fld_ref {Z : State} {args : Array Value} {t u : Term} {C f d : String} {a b : Addr} (h : (Jvm.Cond.eq (.field t C f d) u).value args Z none Z [] = some true) (ht : t.eval args Z none [] Z = some (.ref a)) (hu : u.eval args Z none [] Z = some (.ref b)) : Fld Z Z.heap a C f d (.ref b) :=
  Fld.start (by rw [← fld_at ht]; exact eqv_ref h hu)
theorem ord_ne {Z : State} {h : Heap} {a b : Addr} {C f d : String} {u v : Int32} (F : Fld Z h a C f d (.int u)) (G : Fld Z h b C f d (.int v)) (q : u ≠ v) : a ≠ b := Fld.ne F G fun e => q (Value.int.inj e)
/-- a String at a, its bytes in the array at t, its coder k -/
def StrL (Z : State) (h : Heap) (a t : Addr) (k : Int32) (bs : List Int32) : Prop :=
  Exa Z h a "java/lang/String" ∧ Fld Z h a "java/lang/String" "value" "[B" (.ref t) ∧ Fld Z h a "java/lang/String" "coder" "B" (.int k) ∧ ∃ kb, Arv Z h t kb .byte (Int32.ofNat bs.length) (bs.map .int) (.int 0) ∧ bs.length < 2 ^ 31
section StrFacts
variable {Z : State} {h h' : Heap} {a t : Addr} {k : Int32} {bs : List Int32}
theorem StrL.ext (F : StrL Z h a t k bs) (E : Ext h h') : StrL Z h' a t k bs := ⟨F.1.ext E, F.2.1.ext E, F.2.2.1.ext E, by obtain ⟨kb, A, q⟩ := F.2.2.2; exact ⟨kb, A.ext E, q⟩⟩
theorem StrL.keep {ws : List Addr} (F : StrL Z h a t k bs) (K : Keep h h' ws) (q1 : a ∉ ws) (q2 : t ∉ ws) : StrL Z h' a t k bs := ⟨F.1.keep K, F.2.1.keep K q1, F.2.2.1.keep K q1, by obtain ⟨kb, A, q⟩ := F.2.2.2; exact ⟨kb, A.keep K q2, q⟩⟩
theorem StrL.wr {x : Addr} {sl : Nat} {v : Value} (F : StrL Z h a t k bs) (W : Wr h h' x sl v) (q1 : a ≠ x) (q2 : t ≠ x) : StrL Z h' a t k bs := F.keep (Keep.of_wr W) (ninS q1 nin0) (ninS q2 nin0)
theorem StrL.lt (F : StrL Z h a t k bs) : a < h.size := F.1.lt
theorem StrL.lt' (F : StrL Z h a t k bs) : t < h.size := by obtain ⟨kb, A, -⟩ := F.2.2.2; exact A.lt
theorem ofN_toInt {n : Nat} (h : n < 2 ^ 31) : (Int32.ofNat n).toInt = (n : Int) := Int32.toInt_ofNat_small h
theorem ofN_clamp {n : Nat} (h : n < 2 ^ 31) : (Int32.ofNat n).toNatClampNeg = n := by simp only [Int32.toNatClampNeg, ofN_toInt h]; rfl
theorem ofN_nn {n : Nat} (h : n < 2 ^ 31) : ¬ Int32.ofNat n < 0 := by rw [Int32.lt_iff_toInt_lt, ofN_toInt h]; exact Int.not_lt.mpr (Int.natCast_nonneg n)
theorem ofN_lt {i n : Nat} (hi : i < 2 ^ 31) (hn : n < 2 ^ 31) : Int32.ofNat i < Int32.ofNat n ↔ i < n := by rw [Int32.lt_iff_toInt_lt, ofN_toInt hi, ofN_toInt hn]; omega
theorem ofN_inj {i n : Nat} (hi : i < 2 ^ 31) (hn : n < 2 ^ 31) : Int32.ofNat i = Int32.ofNat n ↔ i = n := by rw [← Int32.toInt_inj, ofN_toInt hi, ofN_toInt hn]; omega
theorem ofN_succ {i : Nat} (hi : i + 1 < 2 ^ 31) : Int32.ofNat i + 1 = Int32.ofNat (i + 1) := by
  rw [← Int32.toInt_inj, ofN_toInt hi]
  have q := c_iadd (Int32.ofNat i) 1
  have r := rng32 (Int32.ofNat i + 1)
  rw [ofN_toInt (by omega), show (1 : Int32).toInt = 1 from rfl] at q
  omega
theorem mapGet (bs : List Int32) (i : Nat) : (bs.map Value.int).getD i (.int 0) = .int (bs.getD i 0) := by
  simp only [List.getD_eq_getElem?_getD, List.getElem?_map]; cases bs[i]? <;> rfl
theorem list_eq {bs cs : List Int32} (h : bs.length = cs.length) (q : ∀ j, j < bs.length → bs.getD j 0 = cs.getD j 0) : bs = cs := by
  refine List.ext_getElem h fun i h1 h2 => ?_
  have := q i h1
  simpa [List.getD_eq_getElem?_getD, List.getElem?_eq_getElem h1, List.getElem?_eq_getElem h2] using this
theorem StrL.same {t' : Addr} {k' : Int32} {cs : List Int32} (F : StrL Z h a t k bs) (G : StrL Z h a t' k' cs) : bs = cs := by
  obtain ⟨-, F1, -, kb, A, hb⟩ := F
  obtain ⟨-, G1, -, kc, B, hc⟩ := G
  have e : t = t' := by
    by_cases q : t = t'
    · exact q
    · exact absurd rfl (Fld.ne F1 G1 fun z => q (Value.ref.inj z))
  subst e
  obtain ⟨c1, a1, -, s1, -, h1, -⟩ := A
  obtain ⟨c2, b1, -, s2, -, h2, -⟩ := B
  cases a1.1.symm.trans b1.1
  rw [ofN_clamp hb] at s1
  rw [ofN_clamp hc] at s2
  refine list_eq (s1.symm.trans s2) fun j hj => ?_
  have e1 := h1 j (by rw [s1]; exact hj)
  have e2 := h2 j (by rw [s1]; exact hj)
  rw [mapGet] at e1 e2
  exact Value.int.inj (Option.some.inj (e1.symm.trans e2))
end StrFacts
theorem b255' {c : Int32} (c0 : 0 ≤ c.toInt) (c1 : ¬ 255 < c) : nar .byte c &&& (255 : Int32) = c := by
  rw [Int32.lt_iff_toInt_lt, show (255 : Int32).toInt = 255 from rfl] at c1
  have e1 := c_i2b c
  have e2 := c_mask (nar .byte c) 255 8 (by decide) (by decide)
  apply Int32.toInt_inj.mp
  rw [e2]
  simp only [nar]
  omega
theorem nchar {c : Int32} (c0 : 0 ≤ c.toInt) (c1 : ¬ 255 < c) : nar .char c = c := by
  rw [Int32.lt_iff_toInt_lt, show (255 : Int32).toInt = 255 from rfl] at c1
  have e1 := c_i2c c
  apply Int32.toInt_inj.mp
  simp only [nar]
  omega
theorem b255 {c : Int32} (c0 : 0 ≤ c.toInt) (c1 : ¬ 255 < c) : nar .char (nar .byte c &&& (255 : Int32)) = c := by rw [b255' c0 c1]; exact nchar c0 c1
theorem nb_inj {c d : Int32} (c0 : 0 ≤ c.toInt) (c1 : ¬ 255 < c) (d0 : 0 ≤ d.toInt) (d1 : ¬ 255 < d) (h : nar .byte c = nar .byte d) : c = d := by
  rw [Int32.lt_iff_toInt_lt, show (255 : Int32).toInt = 255 from rfl] at c1 d1
  have h2 : (nar .byte c).toInt = (nar .byte d).toInt := by rw [h]
  have e1 := c_i2b c
  have e2 := c_i2b d
  simp only [nar] at h2
  apply Int32.toInt_inj.mp
  omega
theorem nbb (c : Int32) : nar .byte (nar .byte c) = nar .byte c := by simp [nar]
theorem ncc (c : Int32) : nar .char (nar .char c) = nar .char c := by
  have := XT.narrow_c c
  simp only [narrow, Value.int.injEq] at this
  exact this
theorem nar_and (c : Int32) : nar .char (c &&& 255) = c &&& 255 := i2c_mask c
theorem le255 (c : Int32) : ¬ 255 < c &&& 255 := by
  rw [Int32.lt_iff_toInt_lt]; exact Int.not_lt.mpr (c_and c 255 (by decide)).2
theorem le255n (c : Int32) : ¬ 255 < nar .char (c &&& 255) := by rw [nar_and]; exact le255 c
theorem fnb (c : Int32) : fits .byte (.int (nar .byte c)) = true := fits_nar_byte c
theorem fnc (c : Int32) : fits .char (.int (nar .char c)) = true := fits_nar_char c
theorem cmpL_lt (x y : Int64) : XT.cmpL x y < 0 ↔ x < y := by
  unfold XT.cmpL; split <;> (try split) <;> simp_all [Int64.lt_iff_toInt_lt, ← Int64.toInt_inj] <;> omega
theorem cmpL_gt (x y : Int64) : 0 < XT.cmpL x y ↔ y < x := by
  unfold XT.cmpL; split <;> (try split) <;> simp_all [Int64.lt_iff_toInt_lt, ← Int64.toInt_inj] <;> omega
theorem ns_root {Z : State} {a0 : Array Value} {O K : String} {n : Nat} (w : (Jvm.Cond.noSuperclass O).before a0 Z = true) (wk : (Jvm.Cond.instantiable K n).before a0 Z = true) (hn : O ≠ K) : NS Z O K := by
  obtain ⟨c, k, h1, h2, h3, -, -⟩ := Cond.noSuperclass_spec w
  obtain ⟨t, kt, g1, -⟩ := Cond.instantiable_spec wk
  have ne := ids_ne h1 g1 hn
  refine ⟨c, t, h1, g1, fun fuel => ?_⟩
  cases fuel with
  | zero => rfl
  | succ f => simp [Vm.isSubclassAux, ne, h2, h3]
theorem ns_no {Z : State} {a0 : Array Value} {C S K : String} {n : Nat} (w : (Jvm.Cond.superclass C S).before a0 Z = true) (wk : (Jvm.Cond.instantiable K n).before a0 Z = true) (m : NS Z C K) (hn : C ≠ K) : ∃ c t, Z.vm.findClass C = some c ∧ Z.vm.findClass K = some t ∧ Z.vm.assignable c t = false := by
  obtain ⟨c, t, h0, g0, n3⟩ := m
  obtain ⟨p, k, kp, h1, h2, h3, h4, h5, -, h7⟩ := Cond.superclass_spec h0 w
  obtain ⟨t', kt, g1, g2, g5, g7, -⟩ := Cond.instantiable_spec wk
  cases g0.symm.trans g1
  have ne := ids_ne h0 g0 hn
  have g8 : kt.isInterface = false := (Bool.or_eq_false_iff.mp g7).1
  refine ⟨c, t, h0, g0, ?_⟩
  show Z.vm.assignableAux (255 + 1) c t = false
  simp [Vm.assignableAux, ne, h2, g2, h5, g5, g8, Vm.isSubclass, n3]
/-- an array of boxes that stood at the start: each of its class -/
def Bx (Z : State) (a : Addr) (cl : Cell) (K : String) (z : Int32) : Prop :=
  Arr Z Z.heap a cl (.object K) ∧ cl.slots.size = z.toNatClampNeg ∧ ¬ z < 0 ∧ ∀ j : Int32, ¬ (j < 0 ∨ cl.slots.size ≤ j.toNatClampNeg) → ∃ b : Addr, cl.slots[j.toNatClampNeg]? = some (.ref b) ∧ Exa Z Z.heap b K
theorem Bx.start {Z : State} {a0 : Array Value} {t : Term} {c : Jvm.Cond} {a : Addr} {K : String} {z : Int32} (et : ∀ idx, t.eval a0 Z none idx Z = some (.ref a)) (ha : (Jvm.Cond.arrayOf t (.object K)).value a0 Z none Z [] = some true) (hl : (Jvm.Cond.eq (.length t) (.int z)).value a0 Z none Z [] = some true) (hz : ¬ z < 0)
    (h : (Jvm.Cond.all t (.and (.exactly (.elem t (.index 0)) K) c)).value a0 Z none Z [] = some true) : ∃ cl, Bx Z a cl K z := by
  obtain ⟨cl, A⟩ := Arr.start (et []) ha
  have e1 := eqv_int hl (Term.int_eval z)
  obtain ⟨a', cl', e2, e3, e4⟩ := Term.length_spec e1
  cases (et []).symm.trans e2
  cases (State.arrayAt?_spec e3).1.symm.trans A.1
  have q : cl.slots.size < 2 ^ 31 := by
    simp only [Term.eval, et [], e3, Option.bind_eq_bind, Option.bind_some] at e1
    by_cases q : cl.slots.size < 2 ^ 31
    · exact q
    · simp [q] at e1
  have e := (Value.int.inj e4).symm
  refine ⟨cl, A, by rw [← e]; simp only [Int32.toNatClampNeg, len_toInt q]; rfl, hz, fun j hj => ?_⟩
  have nn : ¬ j < 0 := fun x => hj (Or.inl x)
  obtain ⟨u1, -⟩ := and_e (Cond.all_elim (et []) (A.fin (Vm.Alike.refl _)) h j.toNatClampNeg (Nat.lt_of_not_le fun x => hj (Or.inr x)))
  obtain ⟨box, eb⟩ := exa_v u1
  exact ⟨box, (elem_f (et _) (idx_at nn) (A.fin (Vm.Alike.refl _)) nn).symm.trans eb, exa_at eb u1⟩
theorem natOf {i : Int32} {n : Nat} (h0 : 0 ≤ i.toInt) (h1 : i.toInt < (n : Int)) : ∃ j : Nat, j < n ∧ i = Int32.ofInt (j : Int) := ⟨i.toInt.toNat, by omega, by rw [Int.toNat_of_nonneg h0]; exact (Int32.ofInt_toInt i).symm⟩
theorem own_in {i z : Int32} {D : Int} (h0 : 0 ≤ i.toInt) (h1 : i.toInt < D) (hz : z.toInt = D) : ¬ i < 0 ∧ i < z := ⟨by rw [Int32.lt_iff_toInt_lt]; exact Int.not_lt.mpr h0, by rw [Int32.lt_iff_toInt_lt, hz]; exact h1⟩
theorem modR (k d : Int32) (D : Int) (hd : d.toInt = D) (hD : 0 < D) : 0 ≤ ((k &&& 2147483647) % d).toInt ∧ ((k &&& 2147483647) % d).toInt < D := by
  have h := (c_and k 2147483647 (by decide)).1
  rw [(c_irem _ d D hd).1 h]; exact ⟨Int.emod_nonneg _ (by omega), Int.emod_lt_of_pos _ hD⟩
theorem and1 (k : Int32) : k &&& 1 = 0 ∨ k &&& 1 = 1 := by
  obtain ⟨j, h, e⟩ := natOf (n := 2) (c_and k 1 (by decide)).1 (Int.lt_of_le_of_lt (c_and k 1 (by decide)).2 (by decide))
  rw [e]
  have h2 : j = 0 ∨ j = 1 := by omega
  rcases h2 with rfl | rfl
  · exact Or.inl rfl
  · exact Or.inr rfl
theorem and3 (k : Int32) : k &&& 3 = 0 ∨ k &&& 3 = 1 ∨ k &&& 3 = 2 ∨ k &&& 3 = 3 := by
  obtain ⟨j, h, e⟩ := natOf (n := 4) (c_and k 3 (by decide)).1 (Int.lt_of_le_of_lt (c_and k 3 (by decide)).2 (by decide))
  rw [e]
  have h2 : j = 0 ∨ j = 1 ∨ j = 2 ∨ j = 3 := by omega
  rcases h2 with rfl | rfl | rfl | rfl
  · exact Or.inl rfl
  · exact Or.inr (Or.inl rfl)
  · exact Or.inr (Or.inr (Or.inl rfl))
  · exact Or.inr (Or.inr (Or.inr rfl))
theorem maskNeg (k : Int32) : ¬ (k &&& 2147483647) < 0 := by
  rw [Int32.lt_iff_toInt_lt]; exact Int.not_lt.mpr (c_and k 2147483647 (by decide)).1
/-- an array that stood at the start, by the case's words -/
theorem arv_start {Z : State} {a0 : Array Value} {t : Term} {a : Addr} {ty : FieldType} {z : Int32} {vs : List Value} {dv : Value} (hF : Fit Z) (ha : (Jvm.Cond.arrayOf t ty).value a0 Z none Z [] = some true) (ht : t.eval a0 Z none [] Z = some (.ref a)) (hl : (Jvm.Cond.eq (.length t) (.int z)).value a0 Z none Z [] = some true)
    (hz : ¬ z < 0) (hn : z.toNatClampNeg = vs.length) (H : ∀ cl : Cell, Z.heap[a]? = some cl → HasL cl 0 vs) : ∃ kc, Arv Z Z.heap a kc ty z vs dv := by
  obtain ⟨cl, A⟩ := Arr.start ht ha
  have e1 := eqv_int hl (Term.int_eval z)
  obtain ⟨a', cl', e2, e3, e4⟩ := Term.length_spec e1
  cases ht.symm.trans e2
  cases (State.arrayAt?_spec e3).1.symm.trans A.1
  have hb : cl.slots.size < 2 ^ 31 := by
    simp only [Term.eval, ht, e3, Option.bind_eq_bind, Option.bind_some] at e1
    by_cases q : cl.slots.size < 2 ^ 31
    · exact q
    · simp [q] at e1
  exact ⟨cl.cls, Arv.start hF A hb (Value.int.inj e4).symm hz hn (H cl A.1)⟩
theorem elem_slot {Z : State} {a0 : Array Value} {t u : Term} {a b : Addr} {j : Int32} {n : Nat} {cl : Cell} (h : (Jvm.Cond.eq (.elem t (.int j)) u).value a0 Z none Z [] = some true) (ht : t.eval a0 Z none [] Z = some (.ref a)) (hu : u.eval a0 Z none [] Z = some (.ref b)) (hn : j.toNatClampNeg = n) (hc : Z.heap[a]? = some cl) : cl.slots[n]? = some (.ref b) := by
  subst hn
  exact (elem_in (eqv_ref h hu) ht (Term.int_eval j) hc).2
theorem elem_slotI {Z : State} {a0 : Array Value} {t : Term} {a : Addr} {j b : Int32} {n : Nat} {cl : Cell} (h : (Jvm.Cond.eq (.elem t (.int j)) (.int b)).value a0 Z none Z [] = some true) (ht : t.eval a0 Z none [] Z = some (.ref a)) (hn : j.toNatClampNeg = n) (hc : Z.heap[a]? = some cl) : cl.slots[n]? = some (.int b) := by
  subst hn
  exact (elem_in (eqv_int h (Term.int_eval b)) ht (Term.int_eval j) hc).2
theorem len_start {Z : State} {a0 : Array Value} {t : Term} {a : Addr} {cl : Cell} {ty : FieldType} {z : Int32} (A : Arr Z Z.heap a cl ty) (ht : t.eval a0 Z none [] Z = some (.ref a)) (hl : (Jvm.Cond.eq (.length t) (.int z)).value a0 Z none Z [] = some true) : cl.slots.size = z.toNatClampNeg := by
  have e1 := eqv_int hl (Term.int_eval z)
  obtain ⟨a', cl', e2, e3, e4⟩ := Term.length_spec e1
  cases ht.symm.trans e2
  cases (State.arrayAt?_spec e3).1.symm.trans A.1
  have q : cl.slots.size < 2 ^ 31 := by
    simp only [Term.eval, ht, e3, Option.bind_eq_bind, Option.bind_some] at e1
    by_cases q : cl.slots.size < 2 ^ 31
    · exact q
    · simp [q] at e1
  have e := (Value.int.inj e4).symm
  rw [← e]; simp only [Int32.toNatClampNeg, len_toInt q]; rfl
theorem hasL_rep {cl : Cell} {v : Value} : ∀ (n i : Nat), (∀ j, i ≤ j → j < i + n → cl.slots[j]? = some v) → HasL cl i (List.replicate n v)
  | 0, _, _ => trivial
  | n + 1, i, h => ⟨h i (Nat.le_refl _) (by omega), hasL_rep n (i + 1) fun j h1 h2 => h j (by omega) (by omega)⟩
/-- a String that stood at the start, by the case's words -/
theorem str_start {Z : State} {a0 : Array Value} {t : Term} {a : Addr} {z : Int32} {bs : List Int32} (hF : Fit Z) (ht : t.eval a0 Z none [] Z = some (.ref a)) (hx : (Jvm.Cond.exactly t "java/lang/String").value a0 Z none Z [] = some true) (hc : (Jvm.Cond.eq (.field t "java/lang/String" "coder" "B") (.int 0)).value a0 Z none Z [] = some true) (ha : (Jvm.Cond.arrayOf (.field t "java/lang/String" "value" "[B") .byte).value a0 Z none Z [] = some true) (hl : (Jvm.Cond.eq (.length (.field t "java/lang/String" "value" "[B")) (.int z)).value a0 Z none Z [] = some true) (hz : ¬ z < 0) (hn : z = Int32.ofNat bs.length) (hb : bs.length < 2 ^ 31)
    (H : ∀ (b : Addr) (cl : Cell), (Term.field t "java/lang/String" "value" "[B").eval a0 Z none [] Z = some (.ref b) → Arr Z Z.heap b cl .byte → cl.slots.size = bs.length → HasL cl 0 (bs.map .int)) : ∃ b, StrL Z Z.heap a b 0 bs := by
  obtain ⟨b, eb⟩ := arr_v ha
  obtain ⟨cl0, A0⟩ := Arr.start eb ha
  have hs := len_start A0 eb hl
  subst hn
  obtain ⟨kc, A⟩ := arv_start (vs := bs.map .int) (dv := .int 0) hF ha eb hl hz (by rw [ofN_clamp hb, List.length_map]) (fun cl hcl => by cases A0.1.symm.trans hcl; exact H b _ eb A0 (by rw [hs, ofN_clamp hb]))
  exact ⟨b, Exa.start ht hx, Fld.start (by rw [← fld_at ht]; exact eb), fld_int hc ht, kc, A, hb⟩
theorem str_all {Z : State} {a0 : Array Value} {F : Term} {b : Addr} {cl : Cell} {n : Nat} {v : Int32} (eF : ∀ idx, F.eval a0 Z none idx Z = some (.ref b)) (A : Arr Z Z.heap b cl .byte) (hs : cl.slots.size = n) (hn : n < 2 ^ 31) (hall : (Jvm.Cond.all F (.eq (.elem F (.index 0)) (.int v))).value a0 Z none Z [] = some true) : HasL cl 0 (List.replicate n (.int v)) :=
  hasL_rep n 0 fun j _ hj => by
    have h31 : j < 2 ^ 31 := by omega
    have u := Cond.all_elim (eF []) (A.fin (Vm.Alike.refl _)) hall j (by omega)
    have ix := idx_at (s := Z) (args := a0) (first := Z) (o := none) (j := Int32.ofNat j) (ofN_nn h31)
    rw [ofN_clamp h31] at ix
    have e := elem_f (eF [j]) ix (A.fin (Vm.Alike.refl _)) (ofN_nn h31)
    rw [ofN_clamp h31] at e
    exact e.symm.trans (eqv_int u (Term.int_eval v))
/-- null, or a String -/
def Sn (Z : State) (h : Heap) (v : Value) : Prop := v = .null ∨ ∃ s, v = .ref s ∧ Exa Z h s "java/lang/String"
theorem Sn.ext {Z : State} {h h' : Heap} {v : Value} (F : Sn Z h v) (E : Ext h h') : Sn Z h' v := by
  rcases F with q | ⟨s, q, X⟩
  · exact Or.inl q
  · exact Or.inr ⟨s, q, X.ext E⟩
theorem Sn.isRef {Z : State} {h : Heap} {v : Value} (F : Sn Z h v) : v.isRef = true := by rcases F with rfl | ⟨s, rfl, -⟩ <;> rfl
/-- the conjuncts of a condition -/
def ands : Jvm.Cond → List Jvm.Cond
  | .and a b => a :: ands b
  | c => [c]
theorem ands_all {args : Array Value} {s : State} : ∀ (c : Jvm.Cond), c.value args s none s [] = some true → ∀ d ∈ ands c, d.value args s none s [] = some true := by
  intro c
  induction c with
  | and a b _ ih =>
    intro h d hd
    obtain ⟨h1, h2⟩ := and_e h
    rcases List.mem_cons.mp hd with rfl | hd
    · exact h1
    · exact ih h2 d hd
  | _ => intro h d hd; cases List.mem_singleton.mp hd; exact h
theorem nw {c : Jvm.Cond} {Z : State} {a0 : Array Value} (hn : c.value a0 Z none Z [] = some true) (i : Nat) {d : Jvm.Cond} (h : (ands c)[i]? = some d) : d.value a0 Z none Z [] = some true := ands_all c hn d (List.mem_of_getElem? h)
/-- the object that a static holds at the start -/
def sad (Z : State) (a0 : Array Value) (C f d : String) : Addr := match (Term.static C f d).eval a0 Z none [] Z with | some (.ref a) => a | _ => 0
theorem sad_eq {Z : State} {a0 : Array Value} {C f d : String} {a : Addr} (h : (Term.static C f d).eval a0 Z none [] Z = some (.ref a)) : sad Z a0 C f d = a := by simp only [sad, h]
theorem sad_exa {Z : State} {a0 : Array Value} {C f d K : String} (hx : (Jvm.Cond.exactly (.static C f d) K).value a0 Z none Z [] = some true) (hi : (Jvm.Cond.initialized C).before a0 Z = true) (hl : (Jvm.Cond.laysStatic C f d).before a0 Z = true) :
    (Term.static C f d).eval a0 Z none [] Z = some (.ref (sad Z a0 C f d)) ∧ Sta Z Z.heap C f d (.ref (sad Z a0 C f d)) ∧ Exa Z Z.heap (sad Z a0 C f d) K := by
  obtain ⟨a, ev, S, E⟩ := sta_exa hx hi hl
  rw [sad_eq ev]; exact ⟨ev, S, E⟩
theorem nb1 : nar .boolean 1 = 1 := rfl
theorem nb0 : nar .boolean 0 = 0 := rfl
theorem rne {a b : Addr} (q : a ≠ b) : ¬ (Value.ref a = Value.ref b) := fun e => q (Value.ref.inj e)
theorem narR {t : FieldType} {v : Value} (h : v.isRef = true) : narrow t v = v := by cases v <;> cases t <;> first | rfl | (simp [Value.isRef] at h)
theorem fitR {t : FieldType} {v : Value} (h : v.isRef = true) (ht : t.isReference = true) : fits t v = true := by cases t <;> simp [FieldType.isReference] at ht <;> cases v <;> first | rfl | (simp [Value.isRef] at h)
end Jvm.OwnW
namespace Jvm.Pilot.@@N@@
open Jvm Jvm.ClassFile Sem Op Lib Jvm.Free Jvm.Stand Jvm.LawKit Jvm.RoadKit Jvm.OwnW Bundle Jvm.Pilot.@@N@@.Jvm.D
theorem tw {Z : State} {a0 : Array Value} (hw : ∀ d ∈ tables_1, d.before a0 Z = true) (i : Nat) {d : Jvm.Cond} (h : tables_1[i]? = some d) : d.before a0 Z = true := hw _ (List.mem_of_getElem? h)
theorem fit_of {s : State} (hF : heapFits s = true) : Fit s := fun {y c} hc i hi => by
  obtain ⟨ha, rfl⟩ := Array.getElem?_eq_some_iff.mp hc
  have q := List.all_eq_true.mp ((Array.all_eq_true_iff_forall_mem.mp hF) _ (Array.getElem_mem ha)) i (List.mem_range.mpr hi)
  simpa [Array.getElem?_eq_getElem hi] using q
theorem pn_com_example_lynnfield_lynnfield_model_CursorId : plainName "com/example/lynnfield/lynnfield/model/CursorId" = true := by first | (simp [plainName, overriddenIn]; done) | decide +kernel
theorem pn_com_example_lynnfield_lynnfield_model_CursorIdDirectionPinLaw : plainName "com/example/lynnfield/lynnfield/model/CursorIdDirectionPinLaw" = true := by first | (simp [plainName, overriddenIn]; done) | decide +kernel
theorem pn_java_lang_Record : plainName "java/lang/Record" = true := by first | (simp [plainName, overriddenIn]; done) | decide +kernel
theorem pn_java_lang_String : plainName "java/lang/String" = true := by first | (simp [plainName, overriddenIn]; done) | decide +kernel
theorem pn_java_lang_StringLatin1 : plainName "java/lang/StringLatin1" = true := by first | (simp [plainName, overriddenIn]; done) | decide +kernel
theorem pn_java_lang_StringUTF16 : plainName "java/lang/StringUTF16" = true := by first | (simp [plainName, overriddenIn]; done) | decide +kernel
theorem pd_0 : parseMethodDescriptor "([CI[BII)I" = some ⟨[(.array .char), .int, (.array .byte), .int, .int], some .int⟩ := by decide +kernel
theorem pd_1 : parseMethodDescriptor "([CII)[B" = some ⟨[(.array .char), .int, .int], some (.array .byte)⟩ := by decide +kernel
theorem pd_2 : parseMethodDescriptor "([BI)B" = some ⟨[(.array .byte), .int], some .byte⟩ := by decide +kernel
theorem pd_3 : parseMethodDescriptor "([CIILjava/lang/Void;)V" = some ⟨[(.array .char), .int, .int, (.object "java/lang/Void")], none⟩ := by decide +kernel
theorem pd_4 : parseMethodDescriptor "(C)Z" = some ⟨[.char], some .boolean⟩ := by decide +kernel
theorem pd_5 : parseMethodDescriptor "(C)[B" = some ⟨[.char], some (.array .byte)⟩ := by decide +kernel
theorem pd_6 : parseMethodDescriptor "([BB)V" = some ⟨[(.array .byte), .byte], none⟩ := by decide +kernel
theorem pd_7 : parseMethodDescriptor "()V" = some ⟨[], none⟩ := by decide +kernel
theorem pd_8 : parseMethodDescriptor "(Ljava/lang/String;Lcom/example/lynnfield/lynnfield/model/Operation;Ljava/lang/String;Lcom/example/lynnfield/lynnfield/model/CursorId$Scope;Ljava/lang/String;Ljava/lang/String;)V" = some ⟨[(.object "java/lang/String"), (.object "com/example/lynnfield/lynnfield/model/Operation"), (.object "java/lang/String"), (.object "com/example/lynnfield/lynnfield/model/CursorId$Scope"), (.object "java/lang/String"), (.object "java/lang/String")], none⟩ := by decide +kernel
theorem pd_9 : parseMethodDescriptor "()Lcom/example/lynnfield/lynnfield/model/CursorId$Direction;" = some ⟨[], some (.object "com/example/lynnfield/lynnfield/model/CursorId$Direction")⟩ := by decide +kernel
theorem pd_10 : parseMethodDescriptor "([C)V" = some ⟨[(.array .char)], none⟩ := by decide +kernel
theorem pd_11 : parseMethodDescriptor "(C)Ljava/lang/String;" = some ⟨[.char], some (.object "java/lang/String")⟩ := by decide +kernel
theorem own_EW {Z : State} {a0 : Array Value} (hw : ∀ d ∈ tables_1, d.before a0 Z = true) : EW Z a0 [] := EW.nil
def A_HARVEST (Z : State) (a0 : Array Value) : Addr := sad Z a0 "com/example/lynnfield/lynnfield/model/Operation" "HARVEST" "Lcom/example/lynnfield/lynnfield/model/Operation;"
theorem s_HARVEST {Z : State} {a0 : Array Value} (hw : ∀ d ∈ tables_1, d.before a0 Z = true) (hn : narrow_1.value a0 Z none Z [] = some true) : (Term.static "com/example/lynnfield/lynnfield/model/Operation" "HARVEST" "Lcom/example/lynnfield/lynnfield/model/Operation;").eval a0 Z none [] Z = some (.ref (A_HARVEST Z a0)) ∧ Sta Z Z.heap "com/example/lynnfield/lynnfield/model/Operation" "HARVEST" "Lcom/example/lynnfield/lynnfield/model/Operation;" (.ref (A_HARVEST Z a0)) ∧ Exa Z Z.heap (A_HARVEST Z a0) "com/example/lynnfield/lynnfield/model/Operation" := sad_exa (nw hn 0 rfl) (tw hw 1 rfl) (tw hw 2 rfl)
def A_BACKFILL (Z : State) (a0 : Array Value) : Addr := sad Z a0 "com/example/lynnfield/lynnfield/model/Operation" "BACKFILL" "Lcom/example/lynnfield/lynnfield/model/Operation;"
theorem s_BACKFILL {Z : State} {a0 : Array Value} (hw : ∀ d ∈ tables_1, d.before a0 Z = true) (hn : narrow_1.value a0 Z none Z [] = some true) : (Term.static "com/example/lynnfield/lynnfield/model/Operation" "BACKFILL" "Lcom/example/lynnfield/lynnfield/model/Operation;").eval a0 Z none [] Z = some (.ref (A_BACKFILL Z a0)) ∧ Sta Z Z.heap "com/example/lynnfield/lynnfield/model/Operation" "BACKFILL" "Lcom/example/lynnfield/lynnfield/model/Operation;" (.ref (A_BACKFILL Z a0)) ∧ Exa Z Z.heap (A_BACKFILL Z a0) "com/example/lynnfield/lynnfield/model/Operation" := sad_exa (nw hn 1 rfl) (tw hw 1 rfl) (tw hw 77 rfl)
def A_FORWARD (Z : State) (a0 : Array Value) : Addr := sad Z a0 "com/example/lynnfield/lynnfield/model/CursorId$Direction" "FORWARD" "Lcom/example/lynnfield/lynnfield/model/CursorId$Direction;"
theorem s_FORWARD {Z : State} {a0 : Array Value} (hw : ∀ d ∈ tables_1, d.before a0 Z = true) (hn : narrow_1.value a0 Z none Z [] = some true) : (Term.static "com/example/lynnfield/lynnfield/model/CursorId$Direction" "FORWARD" "Lcom/example/lynnfield/lynnfield/model/CursorId$Direction;").eval a0 Z none [] Z = some (.ref (A_FORWARD Z a0)) ∧ Sta Z Z.heap "com/example/lynnfield/lynnfield/model/CursorId$Direction" "FORWARD" "Lcom/example/lynnfield/lynnfield/model/CursorId$Direction;" (.ref (A_FORWARD Z a0)) ∧ Exa Z Z.heap (A_FORWARD Z a0) "com/example/lynnfield/lynnfield/model/CursorId$Direction" := sad_exa (nw hn 4 rfl) (tw hw 79 rfl) (tw hw 80 rfl)
def A_UPDATE (Z : State) (a0 : Array Value) : Addr := sad Z a0 "com/example/lynnfield/lynnfield/model/Operation" "UPDATE" "Lcom/example/lynnfield/lynnfield/model/Operation;"
theorem s_UPDATE {Z : State} {a0 : Array Value} (hw : ∀ d ∈ tables_1, d.before a0 Z = true) (hn : narrow_1.value a0 Z none Z [] = some true) : (Term.static "com/example/lynnfield/lynnfield/model/Operation" "UPDATE" "Lcom/example/lynnfield/lynnfield/model/Operation;").eval a0 Z none [] Z = some (.ref (A_UPDATE Z a0)) ∧ Sta Z Z.heap "com/example/lynnfield/lynnfield/model/Operation" "UPDATE" "Lcom/example/lynnfield/lynnfield/model/Operation;" (.ref (A_UPDATE Z a0)) ∧ Exa Z Z.heap (A_UPDATE Z a0) "com/example/lynnfield/lynnfield/model/Operation" := sad_exa (nw hn 5 rfl) (tw hw 1 rfl) (tw hw 83 rfl)
def A_CUSTOM (Z : State) (a0 : Array Value) : Addr := sad Z a0 "com/example/lynnfield/lynnfield/model/CursorId$Scope" "CUSTOM" "Lcom/example/lynnfield/lynnfield/model/CursorId$Scope;"
theorem s_CUSTOM {Z : State} {a0 : Array Value} (hw : ∀ d ∈ tables_1, d.before a0 Z = true) (hn : narrow_1.value a0 Z none Z [] = some true) : (Term.static "com/example/lynnfield/lynnfield/model/CursorId$Scope" "CUSTOM" "Lcom/example/lynnfield/lynnfield/model/CursorId$Scope;").eval a0 Z none [] Z = some (.ref (A_CUSTOM Z a0)) ∧ Sta Z Z.heap "com/example/lynnfield/lynnfield/model/CursorId$Scope" "CUSTOM" "Lcom/example/lynnfield/lynnfield/model/CursorId$Scope;" (.ref (A_CUSTOM Z a0)) ∧ Exa Z Z.heap (A_CUSTOM Z a0) "com/example/lynnfield/lynnfield/model/CursorId$Scope" := sad_exa (nw hn 6 rfl) (tw hw 85 rfl) (tw hw 86 rfl)
def A_GLOBAL (Z : State) (a0 : Array Value) : Addr := sad Z a0 "com/example/lynnfield/lynnfield/model/CursorId$Scope" "GLOBAL" "Lcom/example/lynnfield/lynnfield/model/CursorId$Scope;"
theorem s_GLOBAL {Z : State} {a0 : Array Value} (hw : ∀ d ∈ tables_1, d.before a0 Z = true) (hn : narrow_1.value a0 Z none Z [] = some true) : (Term.static "com/example/lynnfield/lynnfield/model/CursorId$Scope" "GLOBAL" "Lcom/example/lynnfield/lynnfield/model/CursorId$Scope;").eval a0 Z none [] Z = some (.ref (A_GLOBAL Z a0)) ∧ Sta Z Z.heap "com/example/lynnfield/lynnfield/model/CursorId$Scope" "GLOBAL" "Lcom/example/lynnfield/lynnfield/model/CursorId$Scope;" (.ref (A_GLOBAL Z a0)) ∧ Exa Z Z.heap (A_GLOBAL Z a0) "com/example/lynnfield/lynnfield/model/CursorId$Scope" := sad_exa (nw hn 8 rfl) (tw hw 85 rfl) (tw hw 89 rfl)
def A_BACKFILL_CursorId_Direction (Z : State) (a0 : Array Value) : Addr := sad Z a0 "com/example/lynnfield/lynnfield/model/CursorId$Direction" "BACKFILL" "Lcom/example/lynnfield/lynnfield/model/CursorId$Direction;"
theorem s_BACKFILL_CursorId_Direction {Z : State} {a0 : Array Value} (hw : ∀ d ∈ tables_1, d.before a0 Z = true) (hn : narrow_1.value a0 Z none Z [] = some true) : (Term.static "com/example/lynnfield/lynnfield/model/CursorId$Direction" "BACKFILL" "Lcom/example/lynnfield/lynnfield/model/CursorId$Direction;").eval a0 Z none [] Z = some (.ref (A_BACKFILL_CursorId_Direction Z a0)) ∧ Sta Z Z.heap "com/example/lynnfield/lynnfield/model/CursorId$Direction" "BACKFILL" "Lcom/example/lynnfield/lynnfield/model/CursorId$Direction;" (.ref (A_BACKFILL_CursorId_Direction Z a0)) ∧ Exa Z Z.heap (A_BACKFILL_CursorId_Direction Z a0) "com/example/lynnfield/lynnfield/model/CursorId$Direction" := sad_exa (nw hn 9 rfl) (tw hw 79 rfl) (tw hw 91 rfl)
def A_EXPR (Z : State) (a0 : Array Value) : Addr := sad Z a0 "com/example/lynnfield/lynnfield/model/CursorId$Scope" "EXPR" "Lcom/example/lynnfield/lynnfield/model/CursorId$Scope;"
theorem s_EXPR {Z : State} {a0 : Array Value} (hw : ∀ d ∈ tables_1, d.before a0 Z = true) (hn : narrow_1.value a0 Z none Z [] = some true) : (Term.static "com/example/lynnfield/lynnfield/model/CursorId$Scope" "EXPR" "Lcom/example/lynnfield/lynnfield/model/CursorId$Scope;").eval a0 Z none [] Z = some (.ref (A_EXPR Z a0)) ∧ Sta Z Z.heap "com/example/lynnfield/lynnfield/model/CursorId$Scope" "EXPR" "Lcom/example/lynnfield/lynnfield/model/CursorId$Scope;" (.ref (A_EXPR Z a0)) ∧ Exa Z Z.heap (A_EXPR Z a0) "com/example/lynnfield/lynnfield/model/CursorId$Scope" := sad_exa (nw hn 10 rfl) (tw hw 85 rfl) (tw hw 94 rfl)
theorem f_HARVEST_ordinal {Z : State} {a0 : Array Value} (hw : ∀ d ∈ tables_1, d.before a0 Z = true) (hn : narrow_1.value a0 Z none Z [] = some true) : Fld Z Z.heap (A_HARVEST Z a0) "java/lang/Enum" "ordinal" "I" (.int (0 : Int32)) := fld_int (nw hn 2 rfl) (s_HARVEST hw hn).1
theorem f_BACKFILL_ordinal {Z : State} {a0 : Array Value} (hw : ∀ d ∈ tables_1, d.before a0 Z = true) (hn : narrow_1.value a0 Z none Z [] = some true) : Fld Z Z.heap (A_BACKFILL Z a0) "java/lang/Enum" "ordinal" "I" (.int (1 : Int32)) := fld_int (nw hn 3 rfl) (s_BACKFILL hw hn).1
theorem f_UPDATE_ordinal {Z : State} {a0 : Array Value} (hw : ∀ d ∈ tables_1, d.before a0 Z = true) (hn : narrow_1.value a0 Z none Z [] = some true) : Fld Z Z.heap (A_UPDATE Z a0) "java/lang/Enum" "ordinal" "I" (.int (2 : Int32)) := fld_int (nw hn 7 rfl) (s_UPDATE hw hn).1
theorem own_ne0 {Z : State} {a0 : Array Value} (hw : ∀ d ∈ tables_1, d.before a0 Z = true) (hn : narrow_1.value a0 Z none Z [] = some true) : ¬ (A_HARVEST Z a0) = (A_BACKFILL Z a0) := ord_ne (f_HARVEST_ordinal hw hn) (f_BACKFILL_ordinal hw hn) (by decide)
theorem own_ne2 {Z : State} {a0 : Array Value} (hw : ∀ d ∈ tables_1, d.before a0 Z = true) (hn : narrow_1.value a0 Z none Z [] = some true) : ¬ (A_UPDATE Z a0) = (A_BACKFILL Z a0) := ord_ne (f_UPDATE_ordinal hw hn) (f_BACKFILL_ordinal hw hn) (by decide)
theorem efR (m : MethodId) (x0 : Addr) : entryFrame m #[(.ref x0)] 1 = mkF m 0 #[.val (.ref x0)] [] := by first | (simp [entryFrame, mkF, argsToLocals, Value.category]; done) | rfl
theorem efI (m : MethodId) (a : Addr) (v0 v1 v2 v3 v4 v5 : Value) (r0 : v0.isRef = true) (r1 : v1.isRef = true) (r2 : v2.isRef = true) (r3 : v3.isRef = true) (r4 : v4.isRef = true) (r5 : v5.isRef = true) : entryFrame m #[.ref a, v0, v1, v2, v3, v4, v5] 7 = mkF m 0 #[.val (.ref a), .val v0, .val v1, .val v2, .val v3, .val v4, .val v5] [] := by
  simp [entryFrame, mkF, argsToLocals, show ∀ z : Addr, (Value.ref z).category = 1 from fun _ => rfl, show ∀ z : Int32, (Value.int z).category = 1 from fun _ => rfl, XT.cat1 r0, XT.cat1 r1, XT.cat1 r2, XT.cat1 r3, XT.cat1 r4, XT.cat1 r5]
theorem efR2 (m : MethodId) (x0 : Addr) : entryFrame m #[(.ref x0)] 1 = mkF m 0 #[.val (.ref x0)] [] := by first | (simp [entryFrame, mkF, argsToLocals, Value.category]; done) | rfl
theorem ef0 (m : MethodId) (x0 : Int32) (x1 : Int32) (x2 : Int32) (x3 : Int32) : entryFrame m #[(.int x0), (.int x1), (.int x2), (.int x3)] maxLocals = mkF m 0 #[.val (.int x0), .val (.int x1), .val (.int x2), .val (.int x3), .unset, .unset, .unset, .unset, .unset, .unset, .unset, .unset, .unset, .unset, .unset, .unset] [] := by first | (simp [entryFrame, mkF, argsToLocals, Value.category, maxLocals]; done) | rfl
theorem d5_0 : Dc jdk_52_method_21_code 0 (.iconst 0) 1 1 := ⟨by decide +kernel, rfl⟩
theorem d5_1 : Dc jdk_52_method_21_code 1 (.istore 5) 2 3 := ⟨by decide +kernel, rfl⟩
theorem d5_3 : Dc jdk_52_method_21_code 3 (.iload 5) 2 5 := ⟨by decide +kernel, rfl⟩
theorem d5_5 : Dc jdk_52_method_21_code 5 (.iload 4) 2 7 := ⟨by decide +kernel, rfl⟩
theorem d5_7 : Dc jdk_52_method_21_code 7 (.if_icmp .ge 37) 3 10 := ⟨by decide +kernel, rfl⟩
theorem d5_7t : Tg 7 (37) 44 := ⟨by decide, by decide⟩
theorem d5_10 : Dc jdk_52_method_21_code 10 (.aload_n 0) 1 11 := ⟨by decide +kernel, rfl⟩
theorem d5_11 : Dc jdk_52_method_21_code 11 (.iload_n 1) 1 12 := ⟨by decide +kernel, rfl⟩
theorem d5_12 : Dc jdk_52_method_21_code 12 .caload 1 13 := ⟨by decide +kernel, rfl⟩
theorem d5_13 : Dc jdk_52_method_21_code 13 (.istore 6) 2 15 := ⟨by decide +kernel, rfl⟩
theorem d5_15 : Dc jdk_52_method_21_code 15 (.iload 6) 2 17 := ⟨by decide +kernel, rfl⟩
theorem d5_17 : Dc jdk_52_method_21_code 17 (.sipush 255) 3 20 := ⟨by decide +kernel, rfl⟩
theorem d5_20 : Dc jdk_52_method_21_code 20 (.if_icmp .le 6) 3 23 := ⟨by decide +kernel, rfl⟩
theorem d5_20t : Tg 20 (6) 26 := ⟨by decide, by decide⟩
theorem d5_23 : Dc jdk_52_method_21_code 23 (.iload 5) 2 25 := ⟨by decide +kernel, rfl⟩
theorem d5_25 : Dc jdk_52_method_21_code 25 .ireturn 1 26 := ⟨by decide +kernel, rfl⟩
theorem d5_26 : Dc jdk_52_method_21_code 26 (.aload_n 2) 1 27 := ⟨by decide +kernel, rfl⟩
theorem d5_27 : Dc jdk_52_method_21_code 27 (.iload_n 3) 1 28 := ⟨by decide +kernel, rfl⟩
theorem d5_28 : Dc jdk_52_method_21_code 28 (.iload 6) 2 30 := ⟨by decide +kernel, rfl⟩
theorem d5_30 : Dc jdk_52_method_21_code 30 .i2b 1 31 := ⟨by decide +kernel, rfl⟩
theorem d5_31 : Dc jdk_52_method_21_code 31 .bastore 1 32 := ⟨by decide +kernel, rfl⟩
theorem d5_32 : Dc jdk_52_method_21_code 32 (.iinc 1 1) 3 35 := ⟨by decide +kernel, rfl⟩
theorem d5_35 : Dc jdk_52_method_21_code 35 (.iinc 3 1) 3 38 := ⟨by decide +kernel, rfl⟩
theorem d5_38 : Dc jdk_52_method_21_code 38 (.iinc 5 1) 3 41 := ⟨by decide +kernel, rfl⟩
theorem d5_41 : Dc jdk_52_method_21_code 41 (.goto (-38)) 3 44 := ⟨by decide +kernel, rfl⟩
theorem d5_41t : Tg 41 (-38) 3 := ⟨by decide, by decide⟩
theorem d5_44 : Dc jdk_52_method_21_code 44 (.iload 4) 2 46 := ⟨by decide +kernel, rfl⟩
theorem d5_46 : Dc jdk_52_method_21_code 46 .ireturn 1 47 := ⟨by decide +kernel, rfl⟩
theorem d4_0 : Dc jdk_52_method_16_code 0 (.iload_n 2) 1 1 := ⟨by decide +kernel, rfl⟩
theorem d4_1 : Dc jdk_52_method_16_code 1 (.newarray .byte) 2 3 := ⟨by decide +kernel, rfl⟩
theorem d4_3 : Dc jdk_52_method_16_code 3 (.astore_n 3) 1 4 := ⟨by decide +kernel, rfl⟩
theorem d4_4 : Dc jdk_52_method_16_code 4 (.aload_n 0) 1 5 := ⟨by decide +kernel, rfl⟩
theorem d4_5 : Dc jdk_52_method_16_code 5 (.iload_n 1) 1 6 := ⟨by decide +kernel, rfl⟩
theorem d4_6 : Dc jdk_52_method_16_code 6 (.aload_n 3) 1 7 := ⟨by decide +kernel, rfl⟩
theorem d4_7 : Dc jdk_52_method_16_code 7 (.iconst 0) 1 8 := ⟨by decide +kernel, rfl⟩
theorem d4_8 : Dc jdk_52_method_16_code 8 (.iload_n 2) 1 9 := ⟨by decide +kernel, rfl⟩
theorem d4_9 : Dc jdk_52_method_16_code 9 (.invokestatic 115) 3 12 := ⟨by decide +kernel, rfl⟩
theorem d4_12 : Dc jdk_52_method_16_code 12 (.istore 4) 2 14 := ⟨by decide +kernel, rfl⟩
theorem d4_14 : Dc jdk_52_method_16_code 14 (.iload 4) 2 16 := ⟨by decide +kernel, rfl⟩
theorem d4_16 : Dc jdk_52_method_16_code 16 (.iload_n 2) 1 17 := ⟨by decide +kernel, rfl⟩
theorem d4_17 : Dc jdk_52_method_16_code 17 (.if_icmp .eq 40) 3 20 := ⟨by decide +kernel, rfl⟩
theorem d4_17t : Tg 17 (40) 57 := ⟨by decide, by decide⟩
theorem d4_20 : Dc jdk_52_method_16_code 20 (.aload_n 0) 1 21 := ⟨by decide +kernel, rfl⟩
theorem d4_21 : Dc jdk_52_method_16_code 21 (.iload_n 1) 1 22 := ⟨by decide +kernel, rfl⟩
theorem d4_22 : Dc jdk_52_method_16_code 22 (.iload_n 2) 1 23 := ⟨by decide +kernel, rfl⟩
theorem d4_23 : Dc jdk_52_method_16_code 23 (.invokestatic 119) 3 26 := ⟨by decide +kernel, rfl⟩
theorem d4_26 : Dc jdk_52_method_16_code 26 (.astore 5) 2 28 := ⟨by decide +kernel, rfl⟩
theorem d4_28 : Dc jdk_52_method_16_code 28 (.aload 5) 2 30 := ⟨by decide +kernel, rfl⟩
theorem d4_30 : Dc jdk_52_method_16_code 30 (.iload 4) 2 32 := ⟨by decide +kernel, rfl⟩
theorem d4_32 : Dc jdk_52_method_16_code 32 (.invokestatic 71) 3 35 := ⟨by decide +kernel, rfl⟩
theorem d4_35 : Dc jdk_52_method_16_code 35 (.sipush 255) 3 38 := ⟨by decide +kernel, rfl⟩
theorem d4_38 : Dc jdk_52_method_16_code 38 (.if_icmp .gt 16) 3 41 := ⟨by decide +kernel, rfl⟩
theorem d4_38t : Tg 38 (16) 54 := ⟨by decide, by decide⟩
theorem d4_41 : Dc jdk_52_method_16_code 41 (.aload 5) 2 43 := ⟨by decide +kernel, rfl⟩
theorem d4_43 : Dc jdk_52_method_16_code 43 (.iconst 0) 1 44 := ⟨by decide +kernel, rfl⟩
theorem d4_44 : Dc jdk_52_method_16_code 44 (.aload_n 3) 1 45 := ⟨by decide +kernel, rfl⟩
theorem d4_45 : Dc jdk_52_method_16_code 45 (.iconst 0) 1 46 := ⟨by decide +kernel, rfl⟩
theorem d4_46 : Dc jdk_52_method_16_code 46 (.iload_n 2) 1 47 := ⟨by decide +kernel, rfl⟩
theorem d4_47 : Dc jdk_52_method_16_code 47 (.invokestatic 123) 3 50 := ⟨by decide +kernel, rfl⟩
theorem d4_50 : Dc jdk_52_method_16_code 50 (.iload_n 2) 1 51 := ⟨by decide +kernel, rfl⟩
theorem d4_51 : Dc jdk_52_method_16_code 51 (.if_icmp .eq 6) 3 54 := ⟨by decide +kernel, rfl⟩
theorem d4_51t : Tg 51 (6) 57 := ⟨by decide, by decide⟩
theorem d4_54 : Dc jdk_52_method_16_code 54 (.aload 5) 2 56 := ⟨by decide +kernel, rfl⟩
theorem d4_56 : Dc jdk_52_method_16_code 56 .areturn 1 57 := ⟨by decide +kernel, rfl⟩
theorem d4_57 : Dc jdk_52_method_16_code 57 (.aload_n 3) 1 58 := ⟨by decide +kernel, rfl⟩
theorem d4_58 : Dc jdk_52_method_16_code 58 .areturn 1 59 := ⟨by decide +kernel, rfl⟩
theorem d6_0 : Dc jdk_52_method_15_code 0 (.iload_n 1) 1 1 := ⟨by decide +kernel, rfl⟩
theorem d6_1 : Dc jdk_52_method_15_code 1 (.aload_n 0) 1 2 := ⟨by decide +kernel, rfl⟩
theorem d6_2 : Dc jdk_52_method_15_code 2 .arraylength 1 3 := ⟨by decide +kernel, rfl⟩
theorem d6_3 : Dc jdk_52_method_15_code 3 .isub 1 4 := ⟨by decide +kernel, rfl⟩
theorem d6_4 : Dc jdk_52_method_15_code 4 (.bipush 31) 2 6 := ⟨by decide +kernel, rfl⟩
theorem d6_6 : Dc jdk_52_method_15_code 6 .iushr 1 7 := ⟨by decide +kernel, rfl⟩
theorem d6_7 : Dc jdk_52_method_15_code 7 .i2b 1 8 := ⟨by decide +kernel, rfl⟩
theorem d6_8 : Dc jdk_52_method_15_code 8 .ireturn 1 9 := ⟨by decide +kernel, rfl⟩
theorem d2_0 : Dc jdk_42_method_149_code 0 (.aload_n 0) 1 1 := ⟨by decide +kernel, rfl⟩
theorem d2_1 : Dc jdk_42_method_149_code 1 (.invokespecial 1) 3 4 := ⟨by decide +kernel, rfl⟩
theorem d2_4 : Dc jdk_42_method_149_code 4 (.iload_n 3) 1 5 := ⟨by decide +kernel, rfl⟩
theorem d2_5 : Dc jdk_42_method_149_code 5 (.ifCond .ne 22) 3 8 := ⟨by decide +kernel, rfl⟩
theorem d2_5t : Tg 5 (22) 27 := ⟨by decide, by decide⟩
theorem d2_8 : Dc jdk_42_method_149_code 8 (.aload_n 0) 1 9 := ⟨by decide +kernel, rfl⟩
theorem d2_9 : Dc jdk_42_method_149_code 9 (.ldc 7) 2 11 := ⟨by decide +kernel, rfl⟩
theorem d2_11 : Dc jdk_42_method_149_code 11 (.getfield 9) 3 14 := ⟨by decide +kernel, rfl⟩
theorem d2_14 : Dc jdk_42_method_149_code 14 (.putfield 9) 3 17 := ⟨by decide +kernel, rfl⟩
theorem d2_17 : Dc jdk_42_method_149_code 17 (.aload_n 0) 1 18 := ⟨by decide +kernel, rfl⟩
theorem d2_18 : Dc jdk_42_method_149_code 18 (.ldc 7) 2 20 := ⟨by decide +kernel, rfl⟩
theorem d2_20 : Dc jdk_42_method_149_code 20 (.getfield 15) 3 23 := ⟨by decide +kernel, rfl⟩
theorem d2_23 : Dc jdk_42_method_149_code 23 (.putfield 15) 3 26 := ⟨by decide +kernel, rfl⟩
theorem d2_26 : Dc jdk_42_method_149_code 26 .return_ 1 27 := ⟨by decide +kernel, rfl⟩
theorem d2_27 : Dc jdk_42_method_149_code 27 (.getstatic 38) 3 30 := ⟨by decide +kernel, rfl⟩
theorem d2_30 : Dc jdk_42_method_149_code 30 (.ifCond .eq 28) 3 33 := ⟨by decide +kernel, rfl⟩
theorem d2_30t : Tg 30 (28) 58 := ⟨by decide, by decide⟩
theorem d2_33 : Dc jdk_42_method_149_code 33 (.aload_n 1) 1 34 := ⟨by decide +kernel, rfl⟩
theorem d2_34 : Dc jdk_42_method_149_code 34 (.iload_n 2) 1 35 := ⟨by decide +kernel, rfl⟩
theorem d2_35 : Dc jdk_42_method_149_code 35 (.iload_n 3) 1 36 := ⟨by decide +kernel, rfl⟩
theorem d2_36 : Dc jdk_42_method_149_code 36 (.invokestatic 177) 3 39 := ⟨by decide +kernel, rfl⟩
theorem d2_39 : Dc jdk_42_method_149_code 39 (.astore 5) 2 41 := ⟨by decide +kernel, rfl⟩
theorem d2_41 : Dc jdk_42_method_149_code 41 (.aload_n 0) 1 42 := ⟨by decide +kernel, rfl⟩
theorem d2_42 : Dc jdk_42_method_149_code 42 (.aload 5) 2 44 := ⟨by decide +kernel, rfl⟩
theorem d2_44 : Dc jdk_42_method_149_code 44 (.iload_n 3) 1 45 := ⟨by decide +kernel, rfl⟩
theorem d2_45 : Dc jdk_42_method_149_code 45 (.invokestatic 47) 3 48 := ⟨by decide +kernel, rfl⟩
theorem d2_48 : Dc jdk_42_method_149_code 48 (.putfield 15) 3 51 := ⟨by decide +kernel, rfl⟩
theorem d2_51 : Dc jdk_42_method_149_code 51 (.aload_n 0) 1 52 := ⟨by decide +kernel, rfl⟩
theorem d2_52 : Dc jdk_42_method_149_code 52 (.aload 5) 2 54 := ⟨by decide +kernel, rfl⟩
theorem d2_54 : Dc jdk_42_method_149_code 54 (.putfield 9) 3 57 := ⟨by decide +kernel, rfl⟩
theorem d2_57 : Dc jdk_42_method_149_code 57 .return_ 1 58 := ⟨by decide +kernel, rfl⟩
theorem d2_58 : Dc jdk_42_method_149_code 58 (.aload_n 0) 1 59 := ⟨by decide +kernel, rfl⟩
theorem d2_59 : Dc jdk_42_method_149_code 59 (.iconst 1) 1 60 := ⟨by decide +kernel, rfl⟩
theorem d2_60 : Dc jdk_42_method_149_code 60 (.putfield 15) 3 63 := ⟨by decide +kernel, rfl⟩
theorem d2_63 : Dc jdk_42_method_149_code 63 (.aload_n 0) 1 64 := ⟨by decide +kernel, rfl⟩
theorem d2_64 : Dc jdk_42_method_149_code 64 (.aload_n 1) 1 65 := ⟨by decide +kernel, rfl⟩
theorem d2_65 : Dc jdk_42_method_149_code 65 (.iload_n 2) 1 66 := ⟨by decide +kernel, rfl⟩
theorem d2_66 : Dc jdk_42_method_149_code 66 (.iload_n 3) 1 67 := ⟨by decide +kernel, rfl⟩
theorem d2_67 : Dc jdk_42_method_149_code 67 (.invokestatic 180) 3 70 := ⟨by decide +kernel, rfl⟩
theorem d2_70 : Dc jdk_42_method_149_code 70 (.putfield 9) 3 73 := ⟨by decide +kernel, rfl⟩
theorem d2_73 : Dc jdk_42_method_149_code 73 .return_ 1 74 := ⟨by decide +kernel, rfl⟩
theorem d1_0 : Dc jdk_42_method_3_code 0 (.aload_n 0) 1 1 := ⟨by decide +kernel, rfl⟩
theorem d1_1 : Dc jdk_42_method_3_code 1 (.aload_n 1) 1 2 := ⟨by decide +kernel, rfl⟩
theorem d1_2 : Dc jdk_42_method_3_code 2 (.iconst 0) 1 3 := ⟨by decide +kernel, rfl⟩
theorem d1_3 : Dc jdk_42_method_3_code 3 (.aload_n 1) 1 4 := ⟨by decide +kernel, rfl⟩
theorem d1_4 : Dc jdk_42_method_3_code 4 .arraylength 1 5 := ⟨by decide +kernel, rfl⟩
theorem d1_5 : Dc jdk_42_method_3_code 5 .aconst_null 1 6 := ⟨by decide +kernel, rfl⟩
theorem d1_6 : Dc jdk_42_method_3_code 6 (.invokespecial 27) 3 9 := ⟨by decide +kernel, rfl⟩
theorem d1_9 : Dc jdk_42_method_3_code 9 .return_ 1 10 := ⟨by decide +kernel, rfl⟩
theorem d8_0 : Dc jdk_43_method_3_code 0 (.iload_n 0) 1 1 := ⟨by decide +kernel, rfl⟩
theorem d8_1 : Dc jdk_43_method_3_code 1 (.sipush 255) 3 4 := ⟨by decide +kernel, rfl⟩
theorem d8_4 : Dc jdk_43_method_3_code 4 (.if_icmp .gt 7) 3 7 := ⟨by decide +kernel, rfl⟩
theorem d8_4t : Tg 4 (7) 11 := ⟨by decide, by decide⟩
theorem d8_7 : Dc jdk_43_method_3_code 7 (.iconst 1) 1 8 := ⟨by decide +kernel, rfl⟩
theorem d8_8 : Dc jdk_43_method_3_code 8 (.goto 4) 3 11 := ⟨by decide +kernel, rfl⟩
theorem d8_8t : Tg 8 (4) 12 := ⟨by decide, by decide⟩
theorem d8_11 : Dc jdk_43_method_3_code 11 (.iconst 0) 1 12 := ⟨by decide +kernel, rfl⟩
theorem d8_12 : Dc jdk_43_method_3_code 12 .ireturn 1 13 := ⟨by decide +kernel, rfl⟩
theorem d9_0 : Dc jdk_43_method_46_code 0 (.iconst 1) 1 1 := ⟨by decide +kernel, rfl⟩
theorem d9_1 : Dc jdk_43_method_46_code 1 (.newarray .byte) 2 3 := ⟨by decide +kernel, rfl⟩
theorem d9_3 : Dc jdk_43_method_46_code 3 .dup 1 4 := ⟨by decide +kernel, rfl⟩
theorem d9_4 : Dc jdk_43_method_46_code 4 (.iconst 0) 1 5 := ⟨by decide +kernel, rfl⟩
theorem d9_5 : Dc jdk_43_method_46_code 5 (.iload_n 0) 1 6 := ⟨by decide +kernel, rfl⟩
theorem d9_6 : Dc jdk_43_method_46_code 6 .i2b 1 7 := ⟨by decide +kernel, rfl⟩
theorem d9_7 : Dc jdk_43_method_46_code 7 .bastore 1 8 := ⟨by decide +kernel, rfl⟩
theorem d9_8 : Dc jdk_43_method_46_code 8 .areturn 1 9 := ⟨by decide +kernel, rfl⟩
theorem d10_0 : Dc jdk_42_method_151_code 0 (.aload_n 0) 1 1 := ⟨by decide +kernel, rfl⟩
theorem d10_1 : Dc jdk_42_method_151_code 1 (.invokespecial 1) 3 4 := ⟨by decide +kernel, rfl⟩
theorem d10_4 : Dc jdk_42_method_151_code 4 (.aload_n 0) 1 5 := ⟨by decide +kernel, rfl⟩
theorem d10_5 : Dc jdk_42_method_151_code 5 (.aload_n 1) 1 6 := ⟨by decide +kernel, rfl⟩
theorem d10_6 : Dc jdk_42_method_151_code 6 (.putfield 9) 3 9 := ⟨by decide +kernel, rfl⟩
theorem d10_9 : Dc jdk_42_method_151_code 9 (.aload_n 0) 1 10 := ⟨by decide +kernel, rfl⟩
theorem d10_10 : Dc jdk_42_method_151_code 10 (.iload_n 2) 1 11 := ⟨by decide +kernel, rfl⟩
theorem d10_11 : Dc jdk_42_method_151_code 11 (.putfield 15) 3 14 := ⟨by decide +kernel, rfl⟩
theorem d10_14 : Dc jdk_42_method_151_code 14 .return_ 1 15 := ⟨by decide +kernel, rfl⟩
theorem d7_0 : Dc jdk_42_method_139_code 0 (.getstatic 38) 3 3 := ⟨by decide +kernel, rfl⟩
theorem d7_3 : Dc jdk_42_method_139_code 3 (.ifCond .eq 23) 3 6 := ⟨by decide +kernel, rfl⟩
theorem d7_3t : Tg 3 (23) 26 := ⟨by decide, by decide⟩
theorem d7_6 : Dc jdk_42_method_139_code 6 (.iload_n 0) 1 7 := ⟨by decide +kernel, rfl⟩
theorem d7_7 : Dc jdk_42_method_139_code 7 (.invokestatic 1015) 3 10 := ⟨by decide +kernel, rfl⟩
theorem d7_10 : Dc jdk_42_method_139_code 10 (.ifCond .eq 16) 3 13 := ⟨by decide +kernel, rfl⟩
theorem d7_10t : Tg 10 (16) 26 := ⟨by decide, by decide⟩
theorem d7_13 : Dc jdk_42_method_139_code 13 (.new 10) 3 16 := ⟨by decide +kernel, rfl⟩
theorem d7_16 : Dc jdk_42_method_139_code 16 .dup 1 17 := ⟨by decide +kernel, rfl⟩
theorem d7_17 : Dc jdk_42_method_139_code 17 (.iload_n 0) 1 18 := ⟨by decide +kernel, rfl⟩
theorem d7_18 : Dc jdk_42_method_139_code 18 (.invokestatic 1018) 3 21 := ⟨by decide +kernel, rfl⟩
theorem d7_21 : Dc jdk_42_method_139_code 21 (.iconst 0) 1 22 := ⟨by decide +kernel, rfl⟩
theorem d7_22 : Dc jdk_42_method_139_code 22 (.invokespecial 209) 3 25 := ⟨by decide +kernel, rfl⟩
theorem d7_25 : Dc jdk_42_method_139_code 25 .areturn 1 26 := ⟨by decide +kernel, rfl⟩
theorem d7_26 : Dc jdk_42_method_139_code 26 (.new 10) 3 29 := ⟨by decide +kernel, rfl⟩
theorem d7_29 : Dc jdk_42_method_139_code 29 .dup 1 30 := ⟨by decide +kernel, rfl⟩
theorem d7_30 : Dc jdk_42_method_139_code 30 (.iload_n 0) 1 31 := ⟨by decide +kernel, rfl⟩
theorem d7_31 : Dc jdk_42_method_139_code 31 (.invokestatic 1021) 3 34 := ⟨by decide +kernel, rfl⟩
theorem d7_34 : Dc jdk_42_method_139_code 34 (.iconst 1) 1 35 := ⟨by decide +kernel, rfl⟩
theorem d7_35 : Dc jdk_42_method_139_code 35 (.invokespecial 209) 3 38 := ⟨by decide +kernel, rfl⟩
theorem d7_38 : Dc jdk_42_method_139_code 38 .areturn 1 39 := ⟨by decide +kernel, rfl⟩
theorem own_cs {Z : State} {a0 : Array Value} (hr : rest_1_c.value a0 Z none Z [] = some true) : ∃ z : Int32, Sta Z Z.heap "java/lang/String" "COMPACT_STRINGS" "Z" (.int z) ∧ ¬ z = 0 := by
  obtain ⟨z, ev⟩ := is_v (nw hr 1 rfl)
  refine ⟨z, Sta.start ev (Or.inl (Cond.before_iff.mpr (nw hr 0 rfl))), fun e => ?_⟩
  have q := not_v (nw hr 2 rfl)
  rw [Cond.eq_ints ev (Term.int_eval 0)] at q
  simp [e] at q
theorem ef5_ririi (m : MethodId) (x0 : Addr) (x1 : Int32) (x2 : Addr) (x3 : Int32) (x4 : Int32) : entryFrame m #[(.ref x0), (.int x1), (.ref x2), (.int x3), (.int x4)] 7 = mkF m 0 #[.val (.ref x0), .val (.int x1), .val (.ref x2), .val (.int x3), .val (.int x4), .unset, .unset] [] := by first | (simp [entryFrame, mkF, argsToLocals, Value.category]; done) | rfl
set_option maxRecDepth 65536 in
set_option maxHeartbeats 40000000 in
theorem rmC5_1 (l : Launch) (Z : State) (a0 : Array Value) (hw : ∀ d ∈ tables_1, d.before a0 Z = true) (b d : Addr) (kb kd : ClassId) (c0 : Int32) (h0 : Heap) (hE : Ext Z.heap h0) (ge_d : Z.heap.size ≤ d) (nbd : b ≠ d) (Ab : Arv Z h0 b kb .char (1 : Int32) [(.int c0)] (.int 0)) (Ad : Arv Z h0 d kd .byte (1 : Int32) [] (.int 0)) (u0 : ¬ 255 < c0) :
    Ct false l Z [] (⟨"java/lang/StringUTF16", "compress", "([CI[BII)I"⟩ : MethodName) jdk_52_method_21_code 7 (some .int) [] ({ frames := 0, cells := 0, slots := 0, locals := 0 } : Room) [d] #[(.ref b), (.int (0 : Int32)), (.ref d), (.int (0 : Int32)), (.int (1 : Int32))] h0 (fun r u => r = some (.int (1 : Int32)) ∧ Keep h0 u [d] ∧ Arv Z u d kd .byte (1 : Int32) [(.int (nar .byte c0))] (.int 0)) := by
  refine Ct.intro pn_java_lang_StringUTF16 hE (fun m => ef5_ririi m b _ d _ _) (onesf ge_d Ad.lt) ⟨a0, own_EW hw⟩ ?_
  intro x T w
  refine w.iconst (0 : Int32) d5_0 rfl ?_
  refine w.istore #[.val (.ref b), .val (.int (0 : Int32)), .val (.ref d), .val (.int (0 : Int32)), .val (.int (1 : Int32)), .val (.int (0 : Int32)), .unset] d5_1 rfl ?_
  refine w.iload d5_3 rfl ?_
  refine w.iload d5_5 rfl ?_
  refine w.icmpGe d5_7 d5_7t (fun q => absurd (by decide) q) (fun _ => ?_)
  refine w.aloadN d5_10 rfl rfl ?_
  refine w.iloadN d5_11 rfl ?_
  obtain ⟨cl0, Ar0, -, S0, -, H0, -⟩ := id Ab
  refine w.caload d5_12 Ar0 (inb_of S0 (by decide)) (H0.at (inb_of S0 (by decide)) rfl) ?_
  refine w.istore #[.val (.ref b), .val (.int (0 : Int32)), .val (.ref d), .val (.int (0 : Int32)), .val (.int (1 : Int32)), .val (.int (0 : Int32)), .val (.int c0)] d5_13 rfl ?_
  refine w.iload d5_15 rfl ?_
  refine w.sipush (255 : Int32) d5_17 rfl ?_
  refine w.icmpLe d5_20 d5_20t (fun _ => ?_) (fun q => absurd q u0)
  refine w.aloadN d5_26 rfl rfl ?_
  refine w.iloadN d5_27 rfl ?_
  refine w.iload d5_28 rfl ?_
  refine w.i2b d5_30 ?_
  refine w.stB 0 [(.int 0)] d5_31 Ad ⟨by decide, by decide⟩ (by decide) (pad_rep [] (.int 0) 1) (by simp) (fnb _) (List.mem_of_getElem? (i := 0) rfl) ?_
  intro T h1 w W0 A0
  rw [nbb] at A0 W0
  have Ad0 : Arv Z h1 d kd .byte (1 : Int32) [(.int (nar .byte c0))] (.int 0) := A0
  have Ab0 := Ab.other W0 nbd
  refine w.iinc (1 : Int32) #[.val (.ref b), .val (.int (1 : Int32)), .val (.ref d), .val (.int (0 : Int32)), .val (.int (1 : Int32)), .val (.int (0 : Int32)), .val (.int c0)] d5_32 rfl rfl rfl ?_
  refine w.iinc (1 : Int32) #[.val (.ref b), .val (.int (1 : Int32)), .val (.ref d), .val (.int (1 : Int32)), .val (.int (1 : Int32)), .val (.int (0 : Int32)), .val (.int c0)] d5_35 rfl rfl rfl ?_
  refine w.iinc (1 : Int32) #[.val (.ref b), .val (.int (1 : Int32)), .val (.ref d), .val (.int (1 : Int32)), .val (.int (1 : Int32)), .val (.int (1 : Int32)), .val (.int c0)] d5_38 rfl rfl rfl ?_
  refine w.goto d5_41 d5_41t ?_
  refine w.iload d5_3 rfl ?_
  refine w.iload d5_5 rfl ?_
  refine w.icmpGe d5_7 d5_7t (fun _ => ?_) (fun q => absurd q (by decide))
  refine w.iload d5_44 rfl ?_
  exact w.retI d5_46 rfl ⟨rfl, ((Keep.refl _ _).wr W0 (Or.inl (List.mem_singleton.mpr rfl))), Ad0⟩

theorem ef4_rii (m : MethodId) (x0 : Addr) (x1 : Int32) (x2 : Int32) : entryFrame m #[(.ref x0), (.int x1), (.int x2)] 6 = mkF m 0 #[.val (.ref x0), .val (.int x1), .val (.int x2), .unset, .unset, .unset] [] := by first | (simp [entryFrame, mkF, argsToLocals, Value.category]; done) | rfl
set_option maxRecDepth 65536 in
set_option maxHeartbeats 40000000 in
theorem rmC3_1 (l : Launch) (Z : State) (a0 : Array Value) (hw : ∀ d ∈ tables_1, d.before a0 Z = true) (b : Addr) (kb : ClassId) (c0 : Int32) (h0 : Heap) (hE : Ext Z.heap h0) (Ab : Arv Z h0 b kb .char (1 : Int32) [(.int c0)] (.int 0)) (u0 : ¬ 255 < c0) :
    Ct false l Z [] (⟨"java/lang/StringUTF16", "compress", "([CII)[B"⟩ : MethodName) jdk_52_method_16_code 6 (some (.array .byte)) [] ({ frames := 1, cells := 1, slots := 1, locals := 18 } : Room) [] #[(.ref b), (.int (0 : Int32)), (.int (1 : Int32))] h0 (fun r u => ∃ d kd, r = some (.ref d) ∧ Ext h0 u ∧ h0.size ≤ d ∧ Arv Z u d kd .byte (1 : Int32) [(.int (nar .byte c0))] (.int 0)) := by
  refine Ct.intro pn_java_lang_StringUTF16 hE (fun m => ef4_rii m b _ _) nosf ⟨a0, own_EW hw⟩ ?_
  intro x T w
  refine w.iloadN d4_0 rfl ?_
  have sz0 := w.size
  refine w.newP 1 "[B" d4_1 (tw hw 22 rfl) (by decide) (by decide) (by decide) (by decide) ⟨by decide, by decide⟩ ?_
  intro d T h1 kd g_d w E_d A_d X_d
  have ge_d : Z.heap.size ≤ d := by rw [g_d]; exact sz0
  have nbd : b ≠ d := Nat.ne_of_lt (Nat.lt_of_lt_of_eq Ab.lt g_d.symm)
  refine w.astoreN #[.val (.ref b), .val (.int (0 : Int32)), .val (.int (1 : Int32)), .val (.ref d), .unset, .unset] d4_3 rfl rfl ?_
  refine w.aloadN d4_4 rfl rfl ?_
  refine w.iloadN d4_5 rfl ?_
  refine w.aloadN d4_6 rfl rfl ?_
  refine w.iconst (0 : Int32) d4_7 rfl ?_
  refine w.iloadN d4_8 rfl ?_
  refine w.callS (argsL := [(.ref b), (.int (0 : Int32)), (.ref d), (.int (0 : Int32)), (.int (1 : Int32))]) (rest := []) 0 d4_9 (tw hw 23 rfl) (tw hw 24 rfl) (tw hw 20 rfl) (tw hw 25 rfl) (by decide) (rmC5_1 l Z a0 hw b d kb kd c0 h1 w.old ge_d nbd (Ab.ext E_d) A_d u0) (lenOf pd_0 rfl) rfl rfl (Nat.le_refl _) ⟨by decide, by decide, by decide, by decide⟩ (allS (List.mem_of_getElem? (i := 0) rfl) all0) ?_
  intro T h2 r w _ hQ
  obtain ⟨rfl, K1, A1⟩ := hQ
  show Go x _ Z _ _ _ T 12 #[.val (.ref b), .val (.int (0 : Int32)), .val (.int (1 : Int32)), .val (.ref d), .unset, .unset] [(.int (1 : Int32))]
  refine w.istore #[.val (.ref b), .val (.int (0 : Int32)), .val (.int (1 : Int32)), .val (.ref d), .val (.int (1 : Int32)), .unset] d4_12 rfl ?_
  refine w.iload d4_14 rfl ?_
  refine w.iloadN d4_16 rfl ?_
  refine w.icmpEq d4_17 d4_17t (fun _ => ?_) (fun q => absurd rfl q)
  refine w.aloadN d4_57 rfl rfl ?_
  exact w.retA d4_58 rfl rfl rfl rfl ⟨d, kd, rfl, keep_to E_d K1 (allS (Nat.le_of_eq g_d.symm) all0), Nat.le_of_eq g_d.symm, A1⟩

theorem ef6_ri (m : MethodId) (x0 : Addr) (x1 : Int32) : entryFrame m #[(.ref x0), (.int x1)] 2 = mkF m 0 #[.val (.ref x0), .val (.int x1)] [] := by first | (simp [entryFrame, mkF, argsToLocals, Value.category]; done) | rfl
set_option maxRecDepth 65536 in
set_option maxHeartbeats 40000000 in
theorem rmCL_1_1 (l : Launch) (Z : State) (a0 : Array Value) (hw : ∀ d ∈ tables_1, d.before a0 Z = true) (d : Addr) (kd : ClassId) (vs : List Value) (h0 : Heap) (hE : Ext Z.heap h0) (Ad : Arv Z h0 d kd .byte (1 : Int32) vs (.int 0)) :
    Ct false l Z [] (⟨"java/lang/StringUTF16", "coderFromArrayLen", "([BI)B"⟩ : MethodName) jdk_52_method_15_code 2 (some .byte) [] ({ frames := 0, cells := 0, slots := 0, locals := 0 } : Room) [] #[(.ref d), (.int (1 : Int32))] h0 (fun r u => r = some (.int (0 : Int32)) ∧ h0 = u) := by
  refine Ct.intro pn_java_lang_StringUTF16 hE (fun m => ef6_ri m d _) nosf ⟨a0, own_EW hw⟩ ?_
  intro x T w
  obtain ⟨cl, Ar, -, S, M, -, -⟩ := Ad
  refine w.iloadN d6_0 rfl ?_
  refine w.aloadN d6_1 rfl rfl ?_
  refine w.alen (1 : Int32) d6_2 Ar (len_of S M) ?_
  refine w.isub d6_3 ?_
  refine w.bipush (31 : Int32) d6_4 rfl ?_
  refine w.iushr d6_6 ?_
  refine w.i2b d6_7 ?_
  exact w.retN d6_8 rfl (by simp) ⟨rfl, rfl⟩

theorem ef2_rriin (m : MethodId) (x0 : Addr) (x1 : Addr) (x2 : Int32) (x3 : Int32) : entryFrame m #[(.ref x0), (.ref x1), (.int x2), (.int x3), .null] 6 = mkF m 0 #[.val (.ref x0), .val (.ref x1), .val (.int x2), .val (.int x3), .val .null, .unset] [] := by first | (simp [entryFrame, mkF, argsToLocals, Value.category]; done) | rfl
set_option maxRecDepth 65536 in
set_option maxHeartbeats 40000000 in
theorem rmS4_1 (l : Launch) (Z : State) (a0 : Array Value) (hw : ∀ d ∈ tables_1, d.before a0 Z = true) (hr : rest_1_c.value a0 Z none Z [] = some true) (a b : Addr) (kb : ClassId) (c0 : Int32) (h0 : Heap) (hE : Ext Z.heap h0) (ge_a : Z.heap.size ≤ a) (E0 : Exa Z h0 a "java/lang/String") (G1 : Fld Z h0 a "java/lang/String" "value" "[B" .null) (G2 : Fld Z h0 a "java/lang/String" "coder" "B" (.int (0 : Int32))) (Ab : Arv Z h0 b kb .char (1 : Int32) [(.int c0)] (.int 0)) (u0 : ¬ 255 < c0) :
    Ct false l Z [] (⟨"java/lang/String", "<init>", "([CIILjava/lang/Void;)V"⟩ : MethodName) jdk_42_method_149_code 6 none [] ({ frames := 2, cells := 1, slots := 1, locals := 36 } : Room) [a] #[(.ref a), (.ref b), (.int (0 : Int32)), (.int (1 : Int32)), .null] h0 (fun r u => r = none ∧ Keep h0 u [a] ∧ ∃ t, h0.size ≤ t ∧ StrL Z u a t 0 [nar .byte c0]) := by
  refine Ct.intro pn_java_lang_String hE (fun m => ef2_rriin m a b _ _) (onesf ge_a E0.lt) ⟨a0, own_EW hw⟩ ?_
  intro x T w
  obtain ⟨cz, Scs, hcz⟩ := own_cs hr
  refine w.aloadN d2_0 rfl rfl ?_
  refine w.initO 0 d2_1 (tw hw 14 rfl) (tw hw 15 rfl) (tw hw 16 rfl) rfl (Nat.le_refl _) ⟨by decide, by decide⟩ ?_
  intro T w
  refine w.iloadN d2_4 rfl ?_
  refine w.ifNe d2_5 d2_5t (fun _ => ?_) (fun q => absurd q (by decide))
  refine w.getS d2_27 (tw hw 17 rfl) Scs ?_
  intro T w
  refine w.ifEq d2_30 d2_30t (fun q => absurd q hcz) (fun _ => ?_)
  refine w.aloadN d2_33 rfl rfl ?_
  refine w.iloadN d2_34 rfl ?_
  refine w.iloadN d2_35 rfl ?_
  refine w.callS (argsL := [(.ref b), (.int (0 : Int32)), (.int (1 : Int32))]) (rest := []) 0 d2_36 (tw hw 18 rfl) (tw hw 19 rfl) (tw hw 20 rfl) (tw hw 21 rfl) (by decide) (rmC3_1 l Z a0 hw b kb c0 h0 w.old Ab u0) (lenOf pd_1 rfl) rfl rfl (Nat.le_refl _) ⟨by decide, by decide, by decide, by decide⟩ all0 ?_
  intro T h1 r w _ hQ
  obtain ⟨d, kd, rfl, E1, gd, A1⟩ := hQ
  have ne_a_d : a ≠ d := Nat.ne_of_lt (Nat.lt_of_lt_of_le E0.lt gd)
  have F1 := E0.ext E1
  have F2 := G1.ext E1
  have F3 := G2.ext E1
  show Go x _ Z _ _ _ T 39 #[.val (.ref a), .val (.ref b), .val (.int (0 : Int32)), .val (.int (1 : Int32)), .val .null, .unset] [(.ref d)]
  refine w.astore #[.val (.ref a), .val (.ref b), .val (.int (0 : Int32)), .val (.int (1 : Int32)), .val .null, .val (.ref d)] d2_39 rfl rfl ?_
  refine w.aloadN d2_41 rfl rfl ?_
  refine w.aload d2_42 rfl rfl ?_
  refine w.iloadN d2_44 rfl ?_
  refine w.callS (argsL := [(.ref d), (.int (1 : Int32))]) (rest := [(.ref a)]) 1 d2_45 (tw hw 26 rfl) (tw hw 27 rfl) (tw hw 20 rfl) (tw hw 28 rfl) (by decide) (rmCL_1_1 l Z a0 hw d kd _ h1 w.old A1) (lenOf pd_2 rfl) rfl rfl (Nat.le_refl _) ⟨by decide, by decide, by decide, by decide⟩ all0 ?_
  intro T h2 r w _ hQ
  obtain ⟨rfl, rfl⟩ := hQ
  show Go x _ Z _ _ _ T 48 #[.val (.ref a), .val (.ref b), .val (.int (0 : Int32)), .val (.int (1 : Int32)), .val .null, .val (.ref d)] [(.int (0 : Int32)), (.ref a)]
  refine w.putF d2_48 (tw hw 29 rfl) F3 F1 (Or.inr ⟨(tw hw 30 rfl), rfl, rfl⟩) (tw hw 5 rfl) (ty := .byte) (by decide) rfl rfl (List.mem_of_getElem? (i := 0) rfl) ?_
  intro T h3 w W4
  have F5 := F1.wr W4
  have F6 := F2.other W4 (Or.inr (slot_ne (Or.inr (tw hw 32 rfl)) (Or.inr (tw hw 30 rfl)) (by decide) (t := (.array .byte)) (t' := .byte) (by decide) (by decide)))
  have F7 := F3.same W4
  have F8 := A1.other W4 (Ne.symm ne_a_d)
  refine w.aloadN d2_51 rfl rfl ?_
  refine w.aload d2_52 rfl rfl ?_
  refine w.putF d2_54 (tw hw 31 rfl) F6 F5 (Or.inr ⟨(tw hw 32 rfl), rfl, rfl⟩) (tw hw 5 rfl) (ty := (.array .byte)) (by decide) rfl rfl (List.mem_of_getElem? (i := 0) rfl) ?_
  intro T h4 w W9
  have F10 := F5.wr W9
  have F11 := F6.same W9
  have F12 := F7.other W9 (Or.inr (slot_ne (Or.inr (tw hw 30 rfl)) (Or.inr (tw hw 32 rfl)) (by decide) (t := .byte) (t' := (.array .byte)) (by decide) (by decide)))
  have F13 := F8.other W9 (Ne.symm ne_a_d)
  exact w.retV d2_57 rfl ⟨rfl, (((keep_ext E1).wr W4 (Or.inl (List.mem_singleton.mpr rfl))).wr W9 (Or.inl (List.mem_singleton.mpr rfl))), d, gd, F10, F11, F12, kd, F13, by simp⟩

theorem ef1_rr (m : MethodId) (x0 : Addr) (x1 : Addr) : entryFrame m #[(.ref x0), (.ref x1)] 2 = mkF m 0 #[.val (.ref x0), .val (.ref x1)] [] := by first | (simp [entryFrame, mkF, argsToLocals, Value.category]; done) | rfl
set_option maxRecDepth 65536 in
set_option maxHeartbeats 40000000 in
theorem rmS1_1 (l : Launch) (Z : State) (a0 : Array Value) (hw : ∀ d ∈ tables_1, d.before a0 Z = true) (hr : rest_1_c.value a0 Z none Z [] = some true) (a b : Addr) (kb : ClassId) (c0 : Int32) (h0 : Heap) (hE : Ext Z.heap h0) (ge_a : Z.heap.size ≤ a) (E0 : Exa Z h0 a "java/lang/String") (G1 : Fld Z h0 a "java/lang/String" "value" "[B" .null) (G2 : Fld Z h0 a "java/lang/String" "coder" "B" (.int (0 : Int32))) (Ab : Arv Z h0 b kb .char (1 : Int32) [(.int c0)] (.int 0)) (u0 : ¬ 255 < c0) :
    Ct false l Z [] (⟨"java/lang/String", "<init>", "([C)V"⟩ : MethodName) jdk_42_method_3_code 2 none [] ({ frames := 3, cells := 1, slots := 1, locals := 53 } : Room) [a] #[(.ref a), (.ref b)] h0 (fun r u => r = none ∧ Keep h0 u [a] ∧ ∃ t, h0.size ≤ t ∧ StrL Z u a t 0 [nar .byte c0]) := by
  refine Ct.intro pn_java_lang_String hE (fun m => ef1_rr m a b) (onesf ge_a E0.lt) ⟨a0, own_EW hw⟩ ?_
  intro x T w
  obtain ⟨cl, Ar, -, S, M, -, -⟩ := id Ab
  refine w.aloadN d1_0 rfl rfl ?_
  refine w.aloadN d1_1 rfl rfl ?_
  refine w.iconst (0 : Int32) d1_2 rfl ?_
  refine w.aloadN d1_3 rfl rfl ?_
  refine w.alen (1 : Int32) d1_4 Ar (len_of S M) ?_
  refine w.aconstNull d1_5 ?_
  refine w.callI (argsL := [(.ref b), (.int (0 : Int32)), (.int (1 : Int32)), .null]) (rest := []) 0 d1_6 rfl (tw hw 10 rfl) (tw hw 11 rfl) (tw hw 6 rfl) (tw hw 13 rfl) (by decide) (rmS4_1 l Z a0 hw hr a b kb c0 h0 w.old ge_a E0 G1 G2 Ab u0) (lenOf pd_3 rfl) rfl rfl (Nat.le_refl _) ⟨by decide, by decide, by decide, by decide⟩ (allS (List.mem_of_getElem? (i := 0) rfl) all0) ?_
  intro T h1 r w _ hQ
  obtain ⟨rfl, K1, t, gt, S1⟩ := hQ
  exact w.retV d1_9 rfl ⟨rfl, K1, t, gt, S1⟩

theorem ef8_i (m : MethodId) (x0 : Int32) : entryFrame m #[(.int x0)] 1 = mkF m 0 #[.val (.int x0)] [] := by first | (simp [entryFrame, mkF, argsToLocals, Value.category]; done) | rfl
set_option maxRecDepth 65536 in
set_option maxHeartbeats 40000000 in
theorem rmCE (l : Launch) (Z : State) (a0 : Array Value) (hw : ∀ d ∈ tables_1, d.before a0 Z = true) (c : Int32) (h0 : Heap) (hE : Ext Z.heap h0) (u : ¬ 255 < c) :
    Ct false l Z [] (⟨"java/lang/StringLatin1", "canEncode", "(C)Z"⟩ : MethodName) jdk_43_method_3_code 1 (some .boolean) [] ({ frames := 0, cells := 0, slots := 0, locals := 0 } : Room) [] #[(.int c)] h0 (fun r w => r = some (.int (1 : Int32)) ∧ h0 = w) := by
  refine Ct.intro pn_java_lang_StringLatin1 hE (fun m => ef8_i m _) nosf ⟨a0, own_EW hw⟩ ?_
  intro x T w
  refine w.iloadN d8_0 rfl ?_
  refine w.sipush (255 : Int32) d8_1 rfl ?_
  refine w.icmpGt d8_4 d8_4t (fun q => absurd q u) (fun _ => ?_)
  refine w.iconst (1 : Int32) d8_7 rfl ?_
  refine w.goto d8_8 d8_8t ?_
  exact w.retN d8_12 rfl (by simp) ⟨rfl, rfl⟩

theorem ef9_i (m : MethodId) (x0 : Int32) : entryFrame m #[(.int x0)] 1 = mkF m 0 #[.val (.int x0)] [] := by first | (simp [entryFrame, mkF, argsToLocals, Value.category]; done) | rfl
set_option maxRecDepth 65536 in
set_option maxHeartbeats 40000000 in
theorem rmTB (l : Launch) (Z : State) (a0 : Array Value) (hw : ∀ d ∈ tables_1, d.before a0 Z = true) (c : Int32) (h0 : Heap) (hE : Ext Z.heap h0) :
    Ct false l Z [] (⟨"java/lang/StringLatin1", "toBytes", "(C)[B"⟩ : MethodName) jdk_43_method_46_code 1 (some (.array .byte)) [] ({ frames := 0, cells := 1, slots := 1, locals := 0 } : Room) [] #[(.int c)] h0 (fun r u => ∃ d kd, r = some (.ref d) ∧ Ext h0 u ∧ h0.size ≤ d ∧ Arv Z u d kd .byte (1 : Int32) [(.int (nar .byte c))] (.int 0)) := by
  refine Ct.intro pn_java_lang_StringLatin1 hE (fun m => ef9_i m _) nosf ⟨a0, own_EW hw⟩ ?_
  intro x T w
  refine w.iconst (1 : Int32) d9_0 rfl ?_
  have sz0 := w.size
  refine w.newP 1 "[B" d9_1 (tw hw 22 rfl) (by decide) (by decide) (by decide) (by decide) ⟨by decide, by decide⟩ ?_
  intro d T h1 kd g_d w E_d A_d X_d
  have ge_d : Z.heap.size ≤ d := by rw [g_d]; exact sz0
  refine w.dup d9_3 rfl ?_
  refine w.iconst (0 : Int32) d9_4 rfl ?_
  refine w.iloadN d9_5 rfl ?_
  refine w.i2b d9_6 ?_
  refine w.stB 0 [(.int 0)] d9_7 A_d ⟨by decide, by decide⟩ (by decide) (pad_rep [] (.int 0) 1) (by decide) (fnb _) (List.mem_of_getElem? (i := 0) rfl) ?_
  intro T h9 w W1 A1
  rw [nbb] at A1 W1
  exact w.retA d9_8 rfl rfl rfl rfl ⟨d, kd, rfl, keep_to E_d (Keep.of_wr W1) (allS (Nat.le_of_eq g_d.symm) all0), Nat.le_of_eq g_d.symm, A1⟩

theorem ef10_rri (m : MethodId) (x0 : Addr) (x1 : Addr) (x2 : Int32) : entryFrame m #[(.ref x0), (.ref x1), (.int x2)] 3 = mkF m 0 #[.val (.ref x0), .val (.ref x1), .val (.int x2)] [] := by first | (simp [entryFrame, mkF, argsToLocals, Value.category]; done) | rfl
set_option maxRecDepth 65536 in
set_option maxHeartbeats 40000000 in
theorem rmSB (l : Launch) (Z : State) (a0 : Array Value) (hw : ∀ d ∈ tables_1, d.before a0 Z = true) (a d : Addr) (k : Int32) (h0 : Heap) (hE : Ext Z.heap h0) (ge_a : Z.heap.size ≤ a) (E0 : Exa Z h0 a "java/lang/String") (G1 : Fld Z h0 a "java/lang/String" "value" "[B" .null) (G2 : Fld Z h0 a "java/lang/String" "coder" "B" (.int (0 : Int32))) (hk : narrow .byte (.int k) = .int k) (hk2 : fits .byte (.int k) = true) :
    Ct false l Z [] (⟨"java/lang/String", "<init>", "([BB)V"⟩ : MethodName) jdk_42_method_151_code 3 none [] ({ frames := 1, cells := 0, slots := 0, locals := 12 } : Room) [a] #[(.ref a), (.ref d), (.int k)] h0 (fun r u => r = none ∧ Keep h0 u [a] ∧ Exa Z u a "java/lang/String" ∧ Fld Z u a "java/lang/String" "value" "[B" (.ref d) ∧ Fld Z u a "java/lang/String" "coder" "B" (.int k)) := by
  refine Ct.intro pn_java_lang_String hE (fun m => ef10_rri m a d k) (onesf ge_a E0.lt) ⟨a0, own_EW hw⟩ ?_
  intro x T w
  refine w.aloadN d10_0 rfl rfl ?_
  refine w.initO 0 d10_1 (tw hw 14 rfl) (tw hw 15 rfl) (tw hw 16 rfl) rfl (Nat.le_refl _) ⟨by decide, by decide⟩ ?_
  intro T w
  refine w.aloadN d10_4 rfl rfl ?_
  refine w.aloadN d10_5 rfl rfl ?_
  refine w.putF d10_6 (tw hw 31 rfl) G1 E0 (Or.inr ⟨(tw hw 32 rfl), rfl, rfl⟩) (tw hw 5 rfl) (ty := (.array .byte)) (by decide) rfl rfl (List.mem_of_getElem? (i := 0) rfl) ?_
  intro T h1 w W1
  have F2 := E0.wr W1
  have F3 := G1.same W1
  have F4 := G2.other W1 (Or.inr (slot_ne (Or.inr (tw hw 30 rfl)) (Or.inr (tw hw 32 rfl)) (by decide) (t := .byte) (t' := (.array .byte)) (by decide) (by decide)))
  refine w.aloadN d10_9 rfl rfl ?_
  refine w.iloadN d10_10 rfl ?_
  refine w.putF d10_11 (tw hw 29 rfl) F4 F2 (Or.inr ⟨(tw hw 30 rfl), rfl, rfl⟩) (tw hw 5 rfl) (ty := .byte) (by decide) hk hk2 (List.mem_of_getElem? (i := 0) rfl) ?_
  intro T h2 w W5
  have F6 := F2.wr W5
  have F7 := F3.other W5 (Or.inr (slot_ne (Or.inr (tw hw 32 rfl)) (Or.inr (tw hw 30 rfl)) (by decide) (t := (.array .byte)) (t' := .byte) (by decide) (by decide)))
  have F8 := F4.same W5
  exact w.retV d10_14 rfl ⟨rfl, (((Keep.refl _ _).wr W1 (Or.inl (List.mem_singleton.mpr rfl))).wr W5 (Or.inl (List.mem_singleton.mpr rfl))), F6, F7, F8⟩

theorem ef7_i (m : MethodId) (x0 : Int32) : entryFrame m #[(.int x0)] 1 = mkF m 0 #[.val (.int x0)] [] := by first | (simp [entryFrame, mkF, argsToLocals, Value.category]; done) | rfl
set_option maxRecDepth 65536 in
set_option maxHeartbeats 40000000 in
theorem rmVC (l : Launch) (Z : State) (a0 : Array Value) (hw : ∀ d ∈ tables_1, d.before a0 Z = true) (hr : rest_1_c.value a0 Z none Z [] = some true) (c : Int32) (h0 : Heap) (hE : Ext Z.heap h0) (u : ¬ 255 < c) :
    Ct false l Z [] (⟨"java/lang/String", "valueOf", "(C)Ljava/lang/String;"⟩ : MethodName) jdk_42_method_139_code 1 (some (.object "java/lang/String")) [] ({ frames := 3, cells := 2, slots := 5, locals := 60 } : Room) [] #[(.int c)] h0 (fun r u => ∃ a t, r = some (.ref a) ∧ Ext h0 u ∧ h0.size ≤ a ∧ h0.size ≤ t ∧ StrL Z u a t 0 [nar .byte c]) := by
  refine Ct.intro pn_java_lang_String hE (fun m => ef7_i m c) nosf ⟨a0, own_EW hw⟩ ?_
  intro x T w
  obtain ⟨cz, Scs, hcz⟩ := own_cs hr
  refine w.getS d7_0 (tw hw 17 rfl) Scs ?_
  intro T w
  refine w.ifEq d7_3 d7_3t (fun q => absurd q hcz) (fun _ => ?_)
  refine w.iloadN d7_6 rfl ?_
  refine w.callS (argsL := [(.int c)]) (rest := []) 0 d7_7 (tw hw 36 rfl) (tw hw 37 rfl) (tw hw 38 rfl) (tw hw 39 rfl) (by decide) (rmCE l Z a0 hw c h0 w.old u) (lenOf pd_4 rfl) rfl rfl (Nat.le_refl _) ⟨by decide, by decide, by decide, by decide⟩ all0 ?_
  intro T h1 r w _ hQ
  obtain ⟨rfl, rfl⟩ := hQ
  show Go x _ Z _ _ _ T 10 #[.val (.int c)] [(.int (1 : Int32))]
  refine w.ifEq d7_10 d7_10t (fun q => absurd q (by decide)) (fun _ => ?_)
  have sz0 := w.size
  refine w.new d7_13 (tw hw 40 rfl) (tw hw 5 rfl) (tw hw 6 rfl) ⟨by decide, by decide⟩ ?_
  intro a T h2 g_a w E1 A2 D3
  have ge_a : Z.heap.size ≤ a := by rw [g_a]; exact sz0
  have F4 : Fld Z h2 a "java/lang/String" "coder" "B" (.int (0 : Int32)) := D3 (Or.inr (tw hw 30 rfl)) (ty := .byte) (by decide)
  have F5 : Fld Z h2 a "java/lang/String" "value" "[B" .null := D3 (Or.inr (tw hw 32 rfl)) (ty := (.array .byte)) (by decide)
  refine w.dup d7_16 rfl ?_
  refine w.iloadN d7_17 rfl ?_
  refine w.callS (argsL := [(.int c)]) (rest := [(.ref a), (.ref a)]) 2 d7_18 (tw hw 41 rfl) (tw hw 42 rfl) (tw hw 38 rfl) (tw hw 43 rfl) (by decide) (rmTB l Z a0 hw c h2 w.old) (lenOf pd_5 rfl) rfl rfl (Nat.le_refl _) ⟨by decide, by decide, by decide, by decide⟩ all0 ?_
  intro T h3 r w _ hQ
  obtain ⟨d, kd, rfl, E5, gd, A5⟩ := hQ
  have ne_a_d : a ≠ d := Nat.ne_of_lt (Nat.lt_of_lt_of_le A2.lt gd)
  have F6 := A2.ext E5
  have F7 := F4.ext E5
  have F8 := F5.ext E5
  show Go x _ Z _ _ _ T 21 #[.val (.int c)] [(.ref d), (.ref a), (.ref a)]
  refine w.iconst (0 : Int32) d7_21 rfl ?_
  refine w.callI (argsL := [(.ref d), (.int (0 : Int32))]) (rest := [(.ref a)]) 1 d7_22 rfl (tw hw 44 rfl) (tw hw 45 rfl) (tw hw 6 rfl) (tw hw 46 rfl) (by decide) (rmSB l Z a0 hw a d (0 : Int32) h3 w.old ge_a F6 F8 F7 rfl rfl) (lenOf pd_6 rfl) rfl rfl (Nat.le_refl _) ⟨by decide, by decide, by decide, by decide⟩ (allS (List.mem_of_getElem? (i := 0) rfl) all0) ?_
  intro T h4 r w _ hQ
  obtain ⟨rfl, K9, E9, F9, C9⟩ := hQ
  exact w.retA d7_25 rfl rfl rfl rfl ⟨a, d, rfl, keep_to (ext_trans E1 E5) K9 (allS (Nat.le_of_eq g_a.symm) all0), Nat.le_of_eq g_a.symm, Nat.le_trans E1.1 gd, E9, F9, C9, kd, A5.keep K9 (ninS (Ne.symm ne_a_d) nin0), by simp⟩

theorem d12_0 : Dc jdk_30_method_1_code 0 (.aload_n 0) 1 1 := ⟨by decide +kernel, rfl⟩
theorem d12_1 : Dc jdk_30_method_1_code 1 (.invokespecial 1) 3 4 := ⟨by decide +kernel, rfl⟩
theorem d12_4 : Dc jdk_30_method_1_code 4 .return_ 1 5 := ⟨by decide +kernel, rfl⟩
theorem d11_0 : Dc prog_5_method_1_code 0 (.aload_n 0) 1 1 := ⟨by decide +kernel, rfl⟩
theorem d11_1 : Dc prog_5_method_1_code 1 (.invokespecial 1) 3 4 := ⟨by decide +kernel, rfl⟩
theorem d11_4 : Dc prog_5_method_1_code 4 (.aload_n 0) 1 5 := ⟨by decide +kernel, rfl⟩
theorem d11_5 : Dc prog_5_method_1_code 5 (.aload_n 1) 1 6 := ⟨by decide +kernel, rfl⟩
theorem d11_6 : Dc prog_5_method_1_code 6 (.putfield 7) 3 9 := ⟨by decide +kernel, rfl⟩
theorem d11_9 : Dc prog_5_method_1_code 9 (.aload_n 0) 1 10 := ⟨by decide +kernel, rfl⟩
theorem d11_10 : Dc prog_5_method_1_code 10 (.aload_n 2) 1 11 := ⟨by decide +kernel, rfl⟩
theorem d11_11 : Dc prog_5_method_1_code 11 (.putfield 13) 3 14 := ⟨by decide +kernel, rfl⟩
theorem d11_14 : Dc prog_5_method_1_code 14 (.aload_n 0) 1 15 := ⟨by decide +kernel, rfl⟩
theorem d11_15 : Dc prog_5_method_1_code 15 (.aload_n 3) 1 16 := ⟨by decide +kernel, rfl⟩
theorem d11_16 : Dc prog_5_method_1_code 16 (.putfield 17) 3 19 := ⟨by decide +kernel, rfl⟩
theorem d11_19 : Dc prog_5_method_1_code 19 (.aload_n 0) 1 20 := ⟨by decide +kernel, rfl⟩
theorem d11_20 : Dc prog_5_method_1_code 20 (.aload 4) 2 22 := ⟨by decide +kernel, rfl⟩
theorem d11_22 : Dc prog_5_method_1_code 22 (.putfield 20) 3 25 := ⟨by decide +kernel, rfl⟩
theorem d11_25 : Dc prog_5_method_1_code 25 (.aload_n 0) 1 26 := ⟨by decide +kernel, rfl⟩
theorem d11_26 : Dc prog_5_method_1_code 26 (.aload 5) 2 28 := ⟨by decide +kernel, rfl⟩
theorem d11_28 : Dc prog_5_method_1_code 28 (.putfield 24) 3 31 := ⟨by decide +kernel, rfl⟩
theorem d11_31 : Dc prog_5_method_1_code 31 (.aload_n 0) 1 32 := ⟨by decide +kernel, rfl⟩
theorem d11_32 : Dc prog_5_method_1_code 32 (.aload 6) 2 34 := ⟨by decide +kernel, rfl⟩
theorem d11_34 : Dc prog_5_method_1_code 34 (.putfield 27) 3 37 := ⟨by decide +kernel, rfl⟩
theorem d11_37 : Dc prog_5_method_1_code 37 .return_ 1 38 := ⟨by decide +kernel, rfl⟩
theorem d13_0 : Dc prog_5_method_4_code 0 (.aload_n 0) 1 1 := ⟨by decide +kernel, rfl⟩
theorem d13_1 : Dc prog_5_method_4_code 1 (.getfield 13) 3 4 := ⟨by decide +kernel, rfl⟩
theorem d13_4 : Dc prog_5_method_4_code 4 (.getstatic 50) 3 7 := ⟨by decide +kernel, rfl⟩
theorem d13_7 : Dc prog_5_method_4_code 7 (.if_acmp .ne 9) 3 10 := ⟨by decide +kernel, rfl⟩
theorem d13_7t : Tg 7 (9) 16 := ⟨by decide, by decide⟩
theorem d13_10 : Dc prog_5_method_4_code 10 (.getstatic 55) 3 13 := ⟨by decide +kernel, rfl⟩
theorem d13_13 : Dc prog_5_method_4_code 13 (.goto 6) 3 16 := ⟨by decide +kernel, rfl⟩
theorem d13_13t : Tg 13 (6) 19 := ⟨by decide, by decide⟩
theorem d13_16 : Dc prog_5_method_4_code 16 (.getstatic 60) 3 19 := ⟨by decide +kernel, rfl⟩
theorem d13_19 : Dc prog_5_method_4_code 19 .areturn 1 20 := ⟨by decide +kernel, rfl⟩
theorem d0_0 : Dc code 0 (.iload_n 0) 1 1 := ⟨at_0, rfl⟩
theorem d0_1 : Dc code 1 (.iconst 3) 1 2 := ⟨at_1, rfl⟩
theorem d0_2 : Dc code 2 .iand 1 3 := ⟨at_2, rfl⟩
theorem d0_3 : Dc code 3 (.istore 4) 2 5 := ⟨at_3, rfl⟩
theorem d0_5 : Dc code 5 (.iload 4) 2 7 := ⟨at_5, rfl⟩
theorem d0_7 : Dc code 7 (.ifCond .ne 11) 3 10 := ⟨at_7, rfl⟩
theorem d0_7t : Tg 7 (11) 18 := ⟨by decide, by decide⟩
theorem d0_10 : Dc code 10 (.getstatic 7) 3 13 := ⟨at_10, rfl⟩
theorem d0_13 : Dc code 13 (.astore 5) 2 15 := ⟨at_13, rfl⟩
theorem d0_15 : Dc code 15 (.goto 34) 3 18 := ⟨at_15, rfl⟩
theorem d0_15t : Tg 15 (34) 49 := ⟨by decide, by decide⟩
theorem d0_18 : Dc code 18 (.iload 4) 2 20 := ⟨at_18, rfl⟩
theorem d0_20 : Dc code 20 (.iconst 1) 1 21 := ⟨at_20, rfl⟩
theorem d0_21 : Dc code 21 (.if_icmp .ne 11) 3 24 := ⟨at_21, rfl⟩
theorem d0_21t : Tg 21 (11) 32 := ⟨by decide, by decide⟩
theorem d0_24 : Dc code 24 (.getstatic 13) 3 27 := ⟨at_24, rfl⟩
theorem d0_27 : Dc code 27 (.astore 5) 2 29 := ⟨at_27, rfl⟩
theorem d0_29 : Dc code 29 (.goto 20) 3 32 := ⟨at_29, rfl⟩
theorem d0_29t : Tg 29 (20) 49 := ⟨by decide, by decide⟩
theorem d0_32 : Dc code 32 (.iload 4) 2 34 := ⟨at_32, rfl⟩
theorem d0_34 : Dc code 34 (.iconst 2) 1 35 := ⟨at_34, rfl⟩
theorem d0_35 : Dc code 35 (.if_icmp .ne 11) 3 38 := ⟨at_35, rfl⟩
theorem d0_35t : Tg 35 (11) 46 := ⟨by decide, by decide⟩
theorem d0_38 : Dc code 38 (.getstatic 16) 3 41 := ⟨at_38, rfl⟩
theorem d0_41 : Dc code 41 (.astore 5) 2 43 := ⟨at_41, rfl⟩
theorem d0_43 : Dc code 43 (.goto 6) 3 46 := ⟨at_43, rfl⟩
theorem d0_43t : Tg 43 (6) 49 := ⟨by decide, by decide⟩
theorem d0_46 : Dc code 46 .aconst_null 1 47 := ⟨at_46, rfl⟩
theorem d0_47 : Dc code 47 (.astore 5) 2 49 := ⟨at_47, rfl⟩
theorem d0_49 : Dc code 49 (.iload_n 1) 1 50 := ⟨at_49, rfl⟩
theorem d0_50 : Dc code 50 (.iconst 3) 1 51 := ⟨at_50, rfl⟩
theorem d0_51 : Dc code 51 .iand 1 52 := ⟨at_51, rfl⟩
theorem d0_52 : Dc code 52 (.istore 6) 2 54 := ⟨at_52, rfl⟩
theorem d0_54 : Dc code 54 (.iload 6) 2 56 := ⟨at_54, rfl⟩
theorem d0_56 : Dc code 56 (.ifCond .ne 11) 3 59 := ⟨at_56, rfl⟩
theorem d0_56t : Tg 56 (11) 67 := ⟨by decide, by decide⟩
theorem d0_59 : Dc code 59 (.getstatic 19) 3 62 := ⟨at_59, rfl⟩
theorem d0_62 : Dc code 62 (.astore 7) 2 64 := ⟨at_62, rfl⟩
theorem d0_64 : Dc code 64 (.goto 34) 3 67 := ⟨at_64, rfl⟩
theorem d0_64t : Tg 64 (34) 98 := ⟨by decide, by decide⟩
theorem d0_67 : Dc code 67 (.iload 6) 2 69 := ⟨at_67, rfl⟩
theorem d0_69 : Dc code 69 (.iconst 1) 1 70 := ⟨at_69, rfl⟩
theorem d0_70 : Dc code 70 (.if_icmp .ne 11) 3 73 := ⟨at_70, rfl⟩
theorem d0_70t : Tg 70 (11) 81 := ⟨by decide, by decide⟩
theorem d0_73 : Dc code 73 (.getstatic 25) 3 76 := ⟨at_73, rfl⟩
theorem d0_76 : Dc code 76 (.astore 7) 2 78 := ⟨at_76, rfl⟩
theorem d0_78 : Dc code 78 (.goto 20) 3 81 := ⟨at_78, rfl⟩
theorem d0_78t : Tg 78 (20) 98 := ⟨by decide, by decide⟩
theorem d0_81 : Dc code 81 (.iload 6) 2 83 := ⟨at_81, rfl⟩
theorem d0_83 : Dc code 83 (.iconst 2) 1 84 := ⟨at_83, rfl⟩
theorem d0_84 : Dc code 84 (.if_icmp .ne 11) 3 87 := ⟨at_84, rfl⟩
theorem d0_84t : Tg 84 (11) 95 := ⟨by decide, by decide⟩
theorem d0_87 : Dc code 87 (.getstatic 28) 3 90 := ⟨at_87, rfl⟩
theorem d0_90 : Dc code 90 (.astore 7) 2 92 := ⟨at_90, rfl⟩
theorem d0_92 : Dc code 92 (.goto 6) 3 95 := ⟨at_92, rfl⟩
theorem d0_92t : Tg 92 (6) 98 := ⟨by decide, by decide⟩
theorem d0_95 : Dc code 95 .aconst_null 1 96 := ⟨at_95, rfl⟩
theorem d0_96 : Dc code 96 (.astore 7) 2 98 := ⟨at_96, rfl⟩
theorem d0_98 : Dc code 98 (.iconst 1) 1 99 := ⟨at_98, rfl⟩
theorem d0_99 : Dc code 99 (.newarray .char) 2 101 := ⟨at_99, rfl⟩
theorem d0_101 : Dc code 101 .dup 1 102 := ⟨at_101, rfl⟩
theorem d0_102 : Dc code 102 (.iconst 0) 1 103 := ⟨at_102, rfl⟩
theorem d0_103 : Dc code 103 (.iload_n 2) 1 104 := ⟨at_103, rfl⟩
theorem d0_104 : Dc code 104 (.sipush 255) 3 107 := ⟨at_104, rfl⟩
theorem d0_107 : Dc code 107 .iand 1 108 := ⟨at_107, rfl⟩
theorem d0_108 : Dc code 108 .i2c 1 109 := ⟨at_108, rfl⟩
theorem d0_109 : Dc code 109 .castore 1 110 := ⟨at_109, rfl⟩
theorem d0_110 : Dc code 110 (.astore 8) 2 112 := ⟨at_110, rfl⟩
theorem d0_112 : Dc code 112 (.new 31) 3 115 := ⟨at_112, rfl⟩
theorem d0_115 : Dc code 115 .dup 1 116 := ⟨at_115, rfl⟩
theorem d0_116 : Dc code 116 (.aload 8) 2 118 := ⟨at_116, rfl⟩
theorem d0_118 : Dc code 118 (.invokespecial 33) 3 121 := ⟨at_118, rfl⟩
theorem d0_121 : Dc code 121 (.astore 9) 2 123 := ⟨at_121, rfl⟩
theorem d0_123 : Dc code 123 (.iload_n 2) 1 124 := ⟨at_123, rfl⟩
theorem d0_124 : Dc code 124 (.bipush 8) 2 126 := ⟨at_124, rfl⟩
theorem d0_126 : Dc code 126 .iushr 1 127 := ⟨at_126, rfl⟩
theorem d0_127 : Dc code 127 (.sipush 255) 3 130 := ⟨at_127, rfl⟩
theorem d0_130 : Dc code 130 .iand 1 131 := ⟨at_130, rfl⟩
theorem d0_131 : Dc code 131 .i2c 1 132 := ⟨at_131, rfl⟩
theorem d0_132 : Dc code 132 (.invokestatic 36) 3 135 := ⟨at_132, rfl⟩
theorem d0_135 : Dc code 135 (.astore 10) 2 137 := ⟨at_135, rfl⟩
theorem d0_137 : Dc code 137 (.iload_n 3) 1 138 := ⟨at_137, rfl⟩
theorem d0_138 : Dc code 138 (.sipush 255) 3 141 := ⟨at_138, rfl⟩
theorem d0_141 : Dc code 141 .iand 1 142 := ⟨at_141, rfl⟩
theorem d0_142 : Dc code 142 .i2c 1 143 := ⟨at_142, rfl⟩
theorem d0_143 : Dc code 143 (.invokestatic 36) 3 146 := ⟨at_143, rfl⟩
theorem d0_146 : Dc code 146 (.astore 11) 2 148 := ⟨at_146, rfl⟩
theorem d0_148 : Dc code 148 (.iload_n 3) 1 149 := ⟨at_148, rfl⟩
theorem d0_149 : Dc code 149 (.sipush 256) 3 152 := ⟨at_149, rfl⟩
theorem d0_152 : Dc code 152 .iand 1 153 := ⟨at_152, rfl⟩
theorem d0_153 : Dc code 153 (.ifCond .eq 7) 3 156 := ⟨at_153, rfl⟩
theorem d0_153t : Tg 153 (7) 160 := ⟨by decide, by decide⟩
theorem d0_156 : Dc code 156 .aconst_null 1 157 := ⟨at_156, rfl⟩
theorem d0_157 : Dc code 157 (.goto 15) 3 160 := ⟨at_157, rfl⟩
theorem d0_157t : Tg 157 (15) 172 := ⟨by decide, by decide⟩
theorem d0_160 : Dc code 160 (.iload_n 3) 1 161 := ⟨at_160, rfl⟩
theorem d0_161 : Dc code 161 (.bipush 16) 2 163 := ⟨at_161, rfl⟩
theorem d0_163 : Dc code 163 .iushr 1 164 := ⟨at_163, rfl⟩
theorem d0_164 : Dc code 164 (.sipush 255) 3 167 := ⟨at_164, rfl⟩
theorem d0_167 : Dc code 167 .iand 1 168 := ⟨at_167, rfl⟩
theorem d0_168 : Dc code 168 .i2c 1 169 := ⟨at_168, rfl⟩
theorem d0_169 : Dc code 169 (.invokestatic 36) 3 172 := ⟨at_169, rfl⟩
theorem d0_172 : Dc code 172 (.astore 12) 2 174 := ⟨at_172, rfl⟩
theorem d0_174 : Dc code 174 (.new 40) 3 177 := ⟨at_174, rfl⟩
theorem d0_177 : Dc code 177 .dup 1 178 := ⟨at_177, rfl⟩
theorem d0_178 : Dc code 178 (.aload 9) 2 180 := ⟨at_178, rfl⟩
theorem d0_180 : Dc code 180 (.aload 5) 2 182 := ⟨at_180, rfl⟩
theorem d0_182 : Dc code 182 (.aload 10) 2 184 := ⟨at_182, rfl⟩
theorem d0_184 : Dc code 184 (.aload 7) 2 186 := ⟨at_184, rfl⟩
theorem d0_186 : Dc code 186 (.aload 11) 2 188 := ⟨at_186, rfl⟩
theorem d0_188 : Dc code 188 (.aload 12) 2 190 := ⟨at_188, rfl⟩
theorem d0_190 : Dc code 190 (.invokespecial 42) 3 193 := ⟨at_190, rfl⟩
theorem d0_193 : Dc code 193 (.astore 13) 2 195 := ⟨at_193, rfl⟩
theorem d0_195 : Dc code 195 (.aload 13) 2 197 := ⟨at_195, rfl⟩
theorem d0_197 : Dc code 197 (.invokevirtual 45) 3 200 := ⟨at_197, rfl⟩
theorem d0_200 : Dc code 200 (.astore 14) 2 202 := ⟨at_200, rfl⟩
theorem d0_202 : Dc code 202 (.iload 4) 2 204 := ⟨at_202, rfl⟩
theorem d0_204 : Dc code 204 (.iconst 1) 1 205 := ⟨at_204, rfl⟩
theorem d0_205 : Dc code 205 (.if_icmp .ne 11) 3 208 := ⟨at_205, rfl⟩
theorem d0_205t : Tg 205 (11) 216 := ⟨by decide, by decide⟩
theorem d0_208 : Dc code 208 (.getstatic 49) 3 211 := ⟨at_208, rfl⟩
theorem d0_211 : Dc code 211 (.astore 15) 2 213 := ⟨at_211, rfl⟩
theorem d0_213 : Dc code 213 (.goto 8) 3 216 := ⟨at_213, rfl⟩
theorem d0_213t : Tg 213 (8) 221 := ⟨by decide, by decide⟩
theorem d0_216 : Dc code 216 (.getstatic 54) 3 219 := ⟨at_216, rfl⟩
theorem d0_219 : Dc code 219 (.astore 15) 2 221 := ⟨at_219, rfl⟩
theorem d0_221 : Dc code 221 (.aload 14) 2 223 := ⟨at_221, rfl⟩
theorem d0_223 : Dc code 223 (.aload 15) 2 225 := ⟨at_223, rfl⟩
theorem d0_225 : Dc code 225 (.if_acmp .ne 7) 3 228 := ⟨at_225, rfl⟩
theorem d0_225t : Tg 225 (7) 232 := ⟨by decide, by decide⟩
theorem d0_228 : Dc code 228 (.iconst 1) 1 229 := ⟨at_228, rfl⟩
theorem d0_229 : Dc code 229 (.goto 4) 3 232 := ⟨at_229, rfl⟩
theorem d0_229t : Tg 229 (4) 233 := ⟨by decide, by decide⟩
theorem d0_232 : Dc code 232 (.iconst 0) 1 233 := ⟨at_232, rfl⟩
theorem d0_233 : Dc code 233 .ireturn 1 234 := ⟨at_233, rfl⟩
set_option maxRecDepth 65536 in
set_option maxHeartbeats 40000000 in
theorem rmRec (l : Launch) (Z : State) (a0 : Array Value) (hw : ∀ d ∈ tables_1, d.before a0 Z = true) (a : Addr) (h0 : Heap) (hE : Ext Z.heap h0) :
    Ct false l Z [] (⟨"java/lang/Record", "<init>", "()V"⟩ : MethodName) jdk_30_method_1_code 1 none [] ({ frames := 1, cells := 0, slots := 0, locals := 12 } : Room) [] #[(.ref a)] h0 (fun v u => v = none ∧ h0 = u) := by
  refine Ct.intro pn_java_lang_Record hE (fun m => efR m a) nosf ⟨a0, own_EW hw⟩ ?_
  intro x T w
  refine w.aloadN d12_0 rfl rfl ?_
  refine w.initO 0 d12_1 (tw hw 58 rfl) (tw hw 15 rfl) (tw hw 16 rfl) rfl (Nat.le_refl _) ⟨by decide, by decide⟩ ?_
  intro T w
  exact w.retV d12_4 rfl ⟨rfl, rfl⟩

set_option maxRecDepth 65536 in
set_option maxHeartbeats 40000000 in
theorem rmI (l : Launch) (Z : State) (a0 : Array Value) (hw : ∀ d ∈ tables_1, d.before a0 Z = true) (a : Addr) (v0 v1 v2 v3 v4 v5 : Value) (r0 : v0.isRef = true) (r1 : v1.isRef = true) (r2 : v2.isRef = true) (r3 : v3.isRef = true) (r4 : v4.isRef = true) (r5 : v5.isRef = true) (h0 : Heap) (hE : Ext Z.heap h0) (ge_a : Z.heap.size ≤ a) (E0 : Exa Z h0 a "com/example/lynnfield/lynnfield/model/CursorId") (G1 : Fld Z h0 a "com/example/lynnfield/lynnfield/model/CursorId" "provenanceCode" "Ljava/lang/String;" .null) (G2 : Fld Z h0 a "com/example/lynnfield/lynnfield/model/CursorId" "operation" "Lcom/example/lynnfield/lynnfield/model/Operation;" .null) (G3 : Fld Z h0 a "com/example/lynnfield/lynnfield/model/CursorId" "cursorKey" "Ljava/lang/String;" .null) (G4 : Fld Z h0 a "com/example/lynnfield/lynnfield/model/CursorId" "scope" "Lcom/example/lynnfield/lynnfield/model/CursorId$Scope;" .null) (G5 : Fld Z h0 a "com/example/lynnfield/lynnfield/model/CursorId" "namespaceKey" "Ljava/lang/String;" .null) (G6 : Fld Z h0 a "com/example/lynnfield/lynnfield/model/CursorId" "namespaceName" "Ljava/lang/String;" .null) :
    Ct false l Z [] (⟨"com/example/lynnfield/lynnfield/model/CursorId", "<init>", "(Ljava/lang/String;Lcom/example/lynnfield/lynnfield/model/Operation;Ljava/lang/String;Lcom/example/lynnfield/lynnfield/model/CursorId$Scope;Ljava/lang/String;Ljava/lang/String;)V"⟩ : MethodName) prog_5_method_1_code 7 none [] ({ frames := 2, cells := 0, slots := 0, locals := 24 } : Room) [a] #[(.ref a), v0, v1, v2, v3, v4, v5] h0 (fun r u => r = none ∧ Keep h0 u [a] ∧ Exa Z u a "com/example/lynnfield/lynnfield/model/CursorId" ∧ Fld Z u a "com/example/lynnfield/lynnfield/model/CursorId" "provenanceCode" "Ljava/lang/String;" v0 ∧ Fld Z u a "com/example/lynnfield/lynnfield/model/CursorId" "operation" "Lcom/example/lynnfield/lynnfield/model/Operation;" v1 ∧ Fld Z u a "com/example/lynnfield/lynnfield/model/CursorId" "cursorKey" "Ljava/lang/String;" v2 ∧ Fld Z u a "com/example/lynnfield/lynnfield/model/CursorId" "scope" "Lcom/example/lynnfield/lynnfield/model/CursorId$Scope;" v3 ∧ Fld Z u a "com/example/lynnfield/lynnfield/model/CursorId" "namespaceKey" "Ljava/lang/String;" v4 ∧ Fld Z u a "com/example/lynnfield/lynnfield/model/CursorId" "namespaceName" "Ljava/lang/String;" v5) := by
  refine Ct.intro pn_com_example_lynnfield_lynnfield_model_CursorId hE (fun m => efI m a v0 v1 v2 v3 v4 v5 r0 r1 r2 r3 r4 r5) (onesf ge_a E0.lt) ⟨a0, own_EW hw⟩ ?_
  intro x T w
  refine w.aloadN d11_0 rfl rfl ?_
  refine w.callI (argsL := []) (rest := []) 0 d11_1 rfl (tw hw 53 rfl) (tw hw 54 rfl) (tw hw 56 rfl) (tw hw 57 rfl) (by decide) (rmRec l Z a0 hw a h0 w.old) (lenOf pd_7 rfl) rfl rfl (Nat.le_refl _) ⟨by decide, by decide, by decide, by decide⟩ all0 ?_
  intro T h1 r w _ hQ
  obtain ⟨rfl, rfl⟩ := hQ
  show Go x _ Z _ _ _ T 4 #[.val (.ref a), .val v0, .val v1, .val v2, .val v3, .val v4, .val v5] []
  refine w.aloadN d11_4 rfl rfl ?_
  refine w.aloadN d11_5 rfl r0 ?_
  refine w.putF d11_6 (tw hw 59 rfl) G1 E0 (Or.inr ⟨(tw hw 60 rfl), rfl, rfl⟩) (tw hw 48 rfl) (ty := (.object "java/lang/String")) (by decide) (narR r0) (fitR r0 rfl) (List.mem_of_getElem? (i := 0) rfl) ?_
  intro T h2 w W21
  have F22 := E0.wr W21
  have F23 := G1.same W21
  have F24 := G2.other W21 (Or.inr (slot_ne (Or.inr (tw hw 62 rfl)) (Or.inr (tw hw 60 rfl)) (by decide) (t := (.object "com/example/lynnfield/lynnfield/model/Operation")) (t' := (.object "java/lang/String")) (by decide) (by decide)))
  have F25 := G3.other W21 (Or.inr (slot_ne (Or.inr (tw hw 64 rfl)) (Or.inr (tw hw 60 rfl)) (by decide) (t := (.object "java/lang/String")) (t' := (.object "java/lang/String")) (by decide) (by decide)))
  have F26 := G4.other W21 (Or.inr (slot_ne (Or.inr (tw hw 66 rfl)) (Or.inr (tw hw 60 rfl)) (by decide) (t := (.object "com/example/lynnfield/lynnfield/model/CursorId$Scope")) (t' := (.object "java/lang/String")) (by decide) (by decide)))
  have F27 := G5.other W21 (Or.inr (slot_ne (Or.inr (tw hw 68 rfl)) (Or.inr (tw hw 60 rfl)) (by decide) (t := (.object "java/lang/String")) (t' := (.object "java/lang/String")) (by decide) (by decide)))
  have F28 := G6.other W21 (Or.inr (slot_ne (Or.inr (tw hw 70 rfl)) (Or.inr (tw hw 60 rfl)) (by decide) (t := (.object "java/lang/String")) (t' := (.object "java/lang/String")) (by decide) (by decide)))
  refine w.aloadN d11_9 rfl rfl ?_
  refine w.aloadN d11_10 rfl r1 ?_
  refine w.putF d11_11 (tw hw 61 rfl) F24 F22 (Or.inr ⟨(tw hw 62 rfl), rfl, rfl⟩) (tw hw 48 rfl) (ty := (.object "com/example/lynnfield/lynnfield/model/Operation")) (by decide) (narR r1) (fitR r1 rfl) (List.mem_of_getElem? (i := 0) rfl) ?_
  intro T h3 w W29
  have F30 := F22.wr W29
  have F31 := F23.other W29 (Or.inr (slot_ne (Or.inr (tw hw 60 rfl)) (Or.inr (tw hw 62 rfl)) (by decide) (t := (.object "java/lang/String")) (t' := (.object "com/example/lynnfield/lynnfield/model/Operation")) (by decide) (by decide)))
  have F32 := F24.same W29
  have F33 := F25.other W29 (Or.inr (slot_ne (Or.inr (tw hw 64 rfl)) (Or.inr (tw hw 62 rfl)) (by decide) (t := (.object "java/lang/String")) (t' := (.object "com/example/lynnfield/lynnfield/model/Operation")) (by decide) (by decide)))
  have F34 := F26.other W29 (Or.inr (slot_ne (Or.inr (tw hw 66 rfl)) (Or.inr (tw hw 62 rfl)) (by decide) (t := (.object "com/example/lynnfield/lynnfield/model/CursorId$Scope")) (t' := (.object "com/example/lynnfield/lynnfield/model/Operation")) (by decide) (by decide)))
  have F35 := F27.other W29 (Or.inr (slot_ne (Or.inr (tw hw 68 rfl)) (Or.inr (tw hw 62 rfl)) (by decide) (t := (.object "java/lang/String")) (t' := (.object "com/example/lynnfield/lynnfield/model/Operation")) (by decide) (by decide)))
  have F36 := F28.other W29 (Or.inr (slot_ne (Or.inr (tw hw 70 rfl)) (Or.inr (tw hw 62 rfl)) (by decide) (t := (.object "java/lang/String")) (t' := (.object "com/example/lynnfield/lynnfield/model/Operation")) (by decide) (by decide)))
  refine w.aloadN d11_14 rfl rfl ?_
  refine w.aloadN d11_15 rfl r2 ?_
  refine w.putF d11_16 (tw hw 63 rfl) F33 F30 (Or.inr ⟨(tw hw 64 rfl), rfl, rfl⟩) (tw hw 48 rfl) (ty := (.object "java/lang/String")) (by decide) (narR r2) (fitR r2 rfl) (List.mem_of_getElem? (i := 0) rfl) ?_
  intro T h4 w W37
  have F38 := F30.wr W37
  have F39 := F31.other W37 (Or.inr (slot_ne (Or.inr (tw hw 60 rfl)) (Or.inr (tw hw 64 rfl)) (by decide) (t := (.object "java/lang/String")) (t' := (.object "java/lang/String")) (by decide) (by decide)))
  have F40 := F32.other W37 (Or.inr (slot_ne (Or.inr (tw hw 62 rfl)) (Or.inr (tw hw 64 rfl)) (by decide) (t := (.object "com/example/lynnfield/lynnfield/model/Operation")) (t' := (.object "java/lang/String")) (by decide) (by decide)))
  have F41 := F33.same W37
  have F42 := F34.other W37 (Or.inr (slot_ne (Or.inr (tw hw 66 rfl)) (Or.inr (tw hw 64 rfl)) (by decide) (t := (.object "com/example/lynnfield/lynnfield/model/CursorId$Scope")) (t' := (.object "java/lang/String")) (by decide) (by decide)))
  have F43 := F35.other W37 (Or.inr (slot_ne (Or.inr (tw hw 68 rfl)) (Or.inr (tw hw 64 rfl)) (by decide) (t := (.object "java/lang/String")) (t' := (.object "java/lang/String")) (by decide) (by decide)))
  have F44 := F36.other W37 (Or.inr (slot_ne (Or.inr (tw hw 70 rfl)) (Or.inr (tw hw 64 rfl)) (by decide) (t := (.object "java/lang/String")) (t' := (.object "java/lang/String")) (by decide) (by decide)))
  refine w.aloadN d11_19 rfl rfl ?_
  refine w.aload d11_20 rfl r3 ?_
  refine w.putF d11_22 (tw hw 65 rfl) F42 F38 (Or.inr ⟨(tw hw 66 rfl), rfl, rfl⟩) (tw hw 48 rfl) (ty := (.object "com/example/lynnfield/lynnfield/model/CursorId$Scope")) (by decide) (narR r3) (fitR r3 rfl) (List.mem_of_getElem? (i := 0) rfl) ?_
  intro T h5 w W45
  have F46 := F38.wr W45
  have F47 := F39.other W45 (Or.inr (slot_ne (Or.inr (tw hw 60 rfl)) (Or.inr (tw hw 66 rfl)) (by decide) (t := (.object "java/lang/String")) (t' := (.object "com/example/lynnfield/lynnfield/model/CursorId$Scope")) (by decide) (by decide)))
  have F48 := F40.other W45 (Or.inr (slot_ne (Or.inr (tw hw 62 rfl)) (Or.inr (tw hw 66 rfl)) (by decide) (t := (.object "com/example/lynnfield/lynnfield/model/Operation")) (t' := (.object "com/example/lynnfield/lynnfield/model/CursorId$Scope")) (by decide) (by decide)))
  have F49 := F41.other W45 (Or.inr (slot_ne (Or.inr (tw hw 64 rfl)) (Or.inr (tw hw 66 rfl)) (by decide) (t := (.object "java/lang/String")) (t' := (.object "com/example/lynnfield/lynnfield/model/CursorId$Scope")) (by decide) (by decide)))
  have F50 := F42.same W45
  have F51 := F43.other W45 (Or.inr (slot_ne (Or.inr (tw hw 68 rfl)) (Or.inr (tw hw 66 rfl)) (by decide) (t := (.object "java/lang/String")) (t' := (.object "com/example/lynnfield/lynnfield/model/CursorId$Scope")) (by decide) (by decide)))
  have F52 := F44.other W45 (Or.inr (slot_ne (Or.inr (tw hw 70 rfl)) (Or.inr (tw hw 66 rfl)) (by decide) (t := (.object "java/lang/String")) (t' := (.object "com/example/lynnfield/lynnfield/model/CursorId$Scope")) (by decide) (by decide)))
  refine w.aloadN d11_25 rfl rfl ?_
  refine w.aload d11_26 rfl r4 ?_
  refine w.putF d11_28 (tw hw 67 rfl) F51 F46 (Or.inr ⟨(tw hw 68 rfl), rfl, rfl⟩) (tw hw 48 rfl) (ty := (.object "java/lang/String")) (by decide) (narR r4) (fitR r4 rfl) (List.mem_of_getElem? (i := 0) rfl) ?_
  intro T h6 w W53
  have F54 := F46.wr W53
  have F55 := F47.other W53 (Or.inr (slot_ne (Or.inr (tw hw 60 rfl)) (Or.inr (tw hw 68 rfl)) (by decide) (t := (.object "java/lang/String")) (t' := (.object "java/lang/String")) (by decide) (by decide)))
  have F56 := F48.other W53 (Or.inr (slot_ne (Or.inr (tw hw 62 rfl)) (Or.inr (tw hw 68 rfl)) (by decide) (t := (.object "com/example/lynnfield/lynnfield/model/Operation")) (t' := (.object "java/lang/String")) (by decide) (by decide)))
  have F57 := F49.other W53 (Or.inr (slot_ne (Or.inr (tw hw 64 rfl)) (Or.inr (tw hw 68 rfl)) (by decide) (t := (.object "java/lang/String")) (t' := (.object "java/lang/String")) (by decide) (by decide)))
  have F58 := F50.other W53 (Or.inr (slot_ne (Or.inr (tw hw 66 rfl)) (Or.inr (tw hw 68 rfl)) (by decide) (t := (.object "com/example/lynnfield/lynnfield/model/CursorId$Scope")) (t' := (.object "java/lang/String")) (by decide) (by decide)))
  have F59 := F51.same W53
  have F60 := F52.other W53 (Or.inr (slot_ne (Or.inr (tw hw 70 rfl)) (Or.inr (tw hw 68 rfl)) (by decide) (t := (.object "java/lang/String")) (t' := (.object "java/lang/String")) (by decide) (by decide)))
  refine w.aloadN d11_31 rfl rfl ?_
  refine w.aload d11_32 rfl r5 ?_
  refine w.putF d11_34 (tw hw 69 rfl) F60 F54 (Or.inr ⟨(tw hw 70 rfl), rfl, rfl⟩) (tw hw 48 rfl) (ty := (.object "java/lang/String")) (by decide) (narR r5) (fitR r5 rfl) (List.mem_of_getElem? (i := 0) rfl) ?_
  intro T h7 w W61
  have F62 := F54.wr W61
  have F63 := F55.other W61 (Or.inr (slot_ne (Or.inr (tw hw 60 rfl)) (Or.inr (tw hw 70 rfl)) (by decide) (t := (.object "java/lang/String")) (t' := (.object "java/lang/String")) (by decide) (by decide)))
  have F64 := F56.other W61 (Or.inr (slot_ne (Or.inr (tw hw 62 rfl)) (Or.inr (tw hw 70 rfl)) (by decide) (t := (.object "com/example/lynnfield/lynnfield/model/Operation")) (t' := (.object "java/lang/String")) (by decide) (by decide)))
  have F65 := F57.other W61 (Or.inr (slot_ne (Or.inr (tw hw 64 rfl)) (Or.inr (tw hw 70 rfl)) (by decide) (t := (.object "java/lang/String")) (t' := (.object "java/lang/String")) (by decide) (by decide)))
  have F66 := F58.other W61 (Or.inr (slot_ne (Or.inr (tw hw 66 rfl)) (Or.inr (tw hw 70 rfl)) (by decide) (t := (.object "com/example/lynnfield/lynnfield/model/CursorId$Scope")) (t' := (.object "java/lang/String")) (by decide) (by decide)))
  have F67 := F59.other W61 (Or.inr (slot_ne (Or.inr (tw hw 68 rfl)) (Or.inr (tw hw 70 rfl)) (by decide) (t := (.object "java/lang/String")) (t' := (.object "java/lang/String")) (by decide) (by decide)))
  have F68 := F60.same W61
  exact w.retV d11_37 rfl ⟨rfl, (((((((Keep.refl _ _).wr W21 (Or.inl (List.mem_singleton.mpr rfl))).wr W29 (Or.inl (List.mem_singleton.mpr rfl))).wr W37 (Or.inl (List.mem_singleton.mpr rfl))).wr W45 (Or.inl (List.mem_singleton.mpr rfl))).wr W53 (Or.inl (List.mem_singleton.mpr rfl))).wr W61 (Or.inl (List.mem_singleton.mpr rfl))), F62, F63, F64, F65, F66, F67, F68⟩

set_option maxRecDepth 65536 in
set_option maxHeartbeats 40000000 in
theorem rmD (l : Launch) (Z : State) (a0 : Array Value) (hw : ∀ d ∈ tables_1, d.before a0 Z = true) (hn : narrow_1.value a0 Z none Z [] = some true) (a : Addr) (vo : Value) (ro : vo.isRef = true) (h0 : Heap) (hE : Ext Z.heap h0) (G1 : Fld Z h0 a "com/example/lynnfield/lynnfield/model/CursorId" "operation" "Lcom/example/lynnfield/lynnfield/model/Operation;" vo) :
    Ct false l Z [] (⟨"com/example/lynnfield/lynnfield/model/CursorId", "direction", "()Lcom/example/lynnfield/lynnfield/model/CursorId$Direction;"⟩ : MethodName) prog_5_method_4_code 1 (some (.object "com/example/lynnfield/lynnfield/model/CursorId$Direction")) [] ({ frames := 0, cells := 0, slots := 0, locals := 0 } : Room) [] #[(.ref a)] h0 (fun r u => r = some (.ref (if vo = .ref (A_BACKFILL Z a0) then (A_BACKFILL_CursorId_Direction Z a0) else (A_FORWARD Z a0))) ∧ h0 = u) := by
  refine Ct.intro pn_com_example_lynnfield_lynnfield_model_CursorId hE (fun m => efR2 m a) nosf ⟨a0, own_EW hw⟩ ?_
  intro x T w
  refine w.aloadN d13_0 rfl rfl ?_
  refine w.getF d13_1 (tw hw 61 rfl) G1 ?_
  intro T w
  refine w.getS d13_4 (tw hw 76 rfl) (s_BACKFILL hw hn).2.1 ?_
  intro T w
  refine w.acmpNe d13_7 d13_7t ro rfl (fun q1 => ?_) (fun q1 => ?_)
  · refine w.getS d13_16 (tw hw 78 rfl) (s_FORWARD hw hn).2.1 ?_
    intro T w
    exact w.retA d13_19 rfl rfl rfl rfl ⟨by rw [if_neg q1], rfl⟩
  · refine w.getS d13_10 (tw hw 90 rfl) (s_BACKFILL_CursorId_Direction hw hn).2.1 ?_
    intro T w
    refine w.goto d13_13 d13_13t ?_
    exact w.retA d13_19 rfl rfl rfl rfl ⟨by rw [if_pos q1], rfl⟩

set_option maxRecDepth 65536 in
set_option maxHeartbeats 40000000 in
theorem pc174 (l : Launch) (Z : State) (a0 : Array Value) (hw : ∀ d ∈ tables_1, d.before a0 Z = true) (hn : narrow_1.value a0 Z none Z [] = some true) (op sc c1 c2 t ts : Int32) (vo : Value) (ro : vo.isRef = true) (hd : (vo = .ref (A_BACKFILL Z a0) ∧ t = 1) ∨ (¬ vo = .ref (A_BACKFILL Z a0) ∧ ¬ t = 1)) (pc s1 s2 s3 : Addr) (vs vn : Value) (rs : vs.isRef = true) (rn : vn.isRef = true) (h0 : Heap) (cx : Cx) (T : State) (w : W cx false l Z [] room_1 (MethodName.cls x) code maxLocals ret (MethodName.name x) T h0 (10) (30) []) :
    Go cx false Z [] room_1 (fun v _ => v = some (.int 1)) T 174 #[.val (.int op), .val (.int sc), .val (.int c1), .val (.int c2), .val (.int t), .val vo, .val (.int ts), .val vs, .val (.ref pc), .val (.ref s1), .val (.ref s2), .val (.ref s3), .val vn, .unset, .unset, .unset] [] := by
  have sz0 := w.size
  refine w.new d0_174 (tw hw 47 rfl) (tw hw 48 rfl) (tw hw 49 rfl) ⟨by decide, by decide⟩ ?_
  intro a T h1 g_a w E1 A2 D3
  have ge_a : Z.heap.size ≤ a := by rw [g_a]; exact sz0
  have F4 : Fld Z h1 a "com/example/lynnfield/lynnfield/model/CursorId" "provenanceCode" "Ljava/lang/String;" .null := D3 (Or.inr (tw hw 60 rfl)) (ty := (.object "java/lang/String")) (by decide)
  have F5 : Fld Z h1 a "com/example/lynnfield/lynnfield/model/CursorId" "operation" "Lcom/example/lynnfield/lynnfield/model/Operation;" .null := D3 (Or.inr (tw hw 62 rfl)) (ty := (.object "com/example/lynnfield/lynnfield/model/Operation")) (by decide)
  have F6 : Fld Z h1 a "com/example/lynnfield/lynnfield/model/CursorId" "cursorKey" "Ljava/lang/String;" .null := D3 (Or.inr (tw hw 64 rfl)) (ty := (.object "java/lang/String")) (by decide)
  have F7 : Fld Z h1 a "com/example/lynnfield/lynnfield/model/CursorId" "scope" "Lcom/example/lynnfield/lynnfield/model/CursorId$Scope;" .null := D3 (Or.inr (tw hw 66 rfl)) (ty := (.object "com/example/lynnfield/lynnfield/model/CursorId$Scope")) (by decide)
  have F8 : Fld Z h1 a "com/example/lynnfield/lynnfield/model/CursorId" "namespaceKey" "Ljava/lang/String;" .null := D3 (Or.inr (tw hw 68 rfl)) (ty := (.object "java/lang/String")) (by decide)
  have F9 : Fld Z h1 a "com/example/lynnfield/lynnfield/model/CursorId" "namespaceName" "Ljava/lang/String;" .null := D3 (Or.inr (tw hw 70 rfl)) (ty := (.object "java/lang/String")) (by decide)
  refine w.dup d0_177 rfl ?_
  refine w.aload d0_178 rfl rfl ?_
  refine w.aload d0_180 rfl ro ?_
  refine w.aload d0_182 rfl rfl ?_
  refine w.aload d0_184 rfl rs ?_
  refine w.aload d0_186 rfl rfl ?_
  refine w.aload d0_188 rfl rn ?_
  refine w.callI (argsL := [(.ref s1), vo, (.ref s2), vs, (.ref s3), vn]) (rest := [(.ref a)]) 1 d0_190 rfl (tw hw 50 rfl) (tw hw 51 rfl) (tw hw 49 rfl) (tw hw 52 rfl) (by decide) (rmI l Z a0 hw a (.ref s1) vo (.ref s2) vs (.ref s3) vn rfl ro rfl rs rfl rn h1 w.old ge_a A2 F4 F5 F6 F7 F8 F9) (lenOf pd_8 rfl) rfl rfl (Nat.le_refl _) ⟨by decide, by decide, by decide, by decide⟩ (allS (List.mem_of_getElem? (i := 0) rfl) all0) ?_
  intro T h2 r w _ hQ
  obtain ⟨rfl, K9, E9, -, F9, -⟩ := hQ
  show Go cx _ Z _ _ _ T 193 #[.val (.int op), .val (.int sc), .val (.int c1), .val (.int c2), .val (.int t), .val vo, .val (.int ts), .val vs, .val (.ref pc), .val (.ref s1), .val (.ref s2), .val (.ref s3), .val vn, .unset, .unset, .unset] [(.ref a)]
  refine w.astore #[.val (.int op), .val (.int sc), .val (.int c1), .val (.int c2), .val (.int t), .val vo, .val (.int ts), .val vs, .val (.ref pc), .val (.ref s1), .val (.ref s2), .val (.ref s3), .val vn, .val (.ref a), .unset, .unset] d0_193 rfl rfl ?_
  refine w.aload d0_195 rfl rfl ?_
  refine w.callV (argsL := []) (rest := []) 0 d0_197 (tw hw 71 rfl) (tw hw 72 rfl) (tw hw 74 rfl) (tw hw 73 rfl) (tw hw 49 rfl) (tw hw 75 rfl) (by decide) E9 (rmD l Z a0 hw hn a vo ro h2 w.old F9) (lenOf pd_9 rfl) rfl rfl (Nat.le_refl _) ⟨by decide, by decide, by decide, by decide⟩ all0 ?_
  intro T h3 r w _ hQ
  obtain ⟨rfl, rfl⟩ := hQ
  show Go cx _ Z _ _ _ T 200 #[.val (.int op), .val (.int sc), .val (.int c1), .val (.int c2), .val (.int t), .val vo, .val (.int ts), .val vs, .val (.ref pc), .val (.ref s1), .val (.ref s2), .val (.ref s3), .val vn, .val (.ref a), .unset, .unset] [(.ref (if vo = .ref (A_BACKFILL Z a0) then (A_BACKFILL_CursorId_Direction Z a0) else (A_FORWARD Z a0)))]
  refine w.astore #[.val (.int op), .val (.int sc), .val (.int c1), .val (.int c2), .val (.int t), .val vo, .val (.int ts), .val vs, .val (.ref pc), .val (.ref s1), .val (.ref s2), .val (.ref s3), .val vn, .val (.ref a), .val (.ref (if vo = .ref (A_BACKFILL Z a0) then (A_BACKFILL_CursorId_Direction Z a0) else (A_FORWARD Z a0))), .unset] d0_200 rfl rfl ?_
  refine w.iload d0_202 rfl ?_
  refine w.iconst (1 : Int32) d0_204 rfl ?_
  refine w.icmpNe d0_205 d0_205t (fun q1 => ?_) (fun q1 => ?_)
  · refine w.getS d0_216 (tw hw 81 rfl) (s_FORWARD hw hn).2.1 ?_
    intro T w
    refine w.astore #[.val (.int op), .val (.int sc), .val (.int c1), .val (.int c2), .val (.int t), .val vo, .val (.int ts), .val vs, .val (.ref pc), .val (.ref s1), .val (.ref s2), .val (.ref s3), .val vn, .val (.ref a), .val (.ref (if vo = .ref (A_BACKFILL Z a0) then (A_BACKFILL_CursorId_Direction Z a0) else (A_FORWARD Z a0))), .val (.ref (A_FORWARD Z a0))] d0_219 rfl rfl ?_
    refine w.aload d0_221 rfl rfl ?_
    refine w.aload d0_223 rfl rfl ?_
    refine w.racmpNe d0_225 d0_225t (fun q => absurd (if_neg (hd.resolve_left (fun e => q1 e.2)).1) q) (fun _ => ?_)
    refine w.iconst (1 : Int32) d0_228 rfl ?_
    refine w.goto d0_229 d0_229t ?_
    exact w.retN d0_233 rfl (by simp) rfl
  · refine w.getS d0_208 (tw hw 92 rfl) (s_BACKFILL_CursorId_Direction hw hn).2.1 ?_
    intro T w
    refine w.astore #[.val (.int op), .val (.int sc), .val (.int c1), .val (.int c2), .val (.int t), .val vo, .val (.int ts), .val vs, .val (.ref pc), .val (.ref s1), .val (.ref s2), .val (.ref s3), .val vn, .val (.ref a), .val (.ref (if vo = .ref (A_BACKFILL Z a0) then (A_BACKFILL_CursorId_Direction Z a0) else (A_FORWARD Z a0))), .val (.ref (A_BACKFILL_CursorId_Direction Z a0))] d0_211 rfl rfl ?_
    refine w.goto d0_213 d0_213t ?_
    refine w.aload d0_221 rfl rfl ?_
    refine w.aload d0_223 rfl rfl ?_
    refine w.racmpNe d0_225 d0_225t (fun q => absurd (if_pos (hd.resolve_right (fun e => e.2 q1)).1) q) (fun _ => ?_)
    refine w.iconst (1 : Int32) d0_228 rfl ?_
    refine w.goto d0_229 d0_229t ?_
    exact w.retN d0_233 rfl (by simp) rfl

set_option maxRecDepth 65536 in
set_option maxHeartbeats 40000000 in
theorem pc98 (l : Launch) (Z : State) (a0 : Array Value) (hw : ∀ d ∈ tables_1, d.before a0 Z = true) (hr : rest_1_c.value a0 Z none Z [] = some true) (hn : narrow_1.value a0 Z none Z [] = some true) (op sc c1 c2 t ts : Int32) (vo : Value) (ro : vo.isRef = true) (hd : (vo = .ref (A_BACKFILL Z a0) ∧ t = 1) ∨ (¬ vo = .ref (A_BACKFILL Z a0) ∧ ¬ t = 1)) (vs : Value) (rs : vs.isRef = true) (h0 : Heap) (cx : Cx) (T : State) (w : W cx false l Z [] room_1 (MethodName.cls x) code maxLocals ret (MethodName.name x) T h0 (0) (0) []) :
    Go cx false Z [] room_1 (fun v _ => v = some (.int 1)) T 98 #[.val (.int op), .val (.int sc), .val (.int c1), .val (.int c2), .val (.int t), .val vo, .val (.int ts), .val vs, .unset, .unset, .unset, .unset, .unset, .unset, .unset, .unset] [] := by
  refine w.iconst (1 : Int32) d0_98 rfl ?_
  have sz0 := w.size
  refine w.newP 1 "[C" d0_99 (tw hw 3 rfl) (by decide) (by decide) (by decide) (by decide) ⟨by decide, by decide⟩ ?_
  intro b T h1 kb g_b w E_b A_b X_b
  have ge_b : Z.heap.size ≤ b := by rw [g_b]; exact sz0
  refine w.dup d0_101 rfl ?_
  refine w.iconst (0 : Int32) d0_102 rfl ?_
  refine w.iloadN d0_103 rfl ?_
  refine w.sipush (255 : Int32) d0_104 rfl ?_
  refine w.iand d0_107 ?_
  refine w.i2c d0_108 ?_
  refine w.stC 0 [(.int 0)] d0_109 A_b ⟨by decide, by decide⟩ (by decide) (pad_rep [] (.int 0) 1) (by decide) (fnc _) (List.mem_of_getElem? (i := 0) rfl) ?_
  intro T h2 w W1 A1
  rw [ncc, nar_and] at A1
  refine w.astore #[.val (.int op), .val (.int sc), .val (.int c1), .val (.int c2), .val (.int t), .val vo, .val (.int ts), .val vs, .val (.ref b), .unset, .unset, .unset, .unset, .unset, .unset, .unset] d0_110 rfl rfl ?_
  have sz0 := w.size
  refine w.new d0_112 (tw hw 4 rfl) (tw hw 5 rfl) (tw hw 6 rfl) ⟨by decide, by decide⟩ ?_
  intro s1 T h3 g_s1 w E1 A2 D3
  have ne_b_s1 : b ≠ s1 := Nat.ne_of_lt (Nat.lt_of_lt_of_eq A1.lt g_s1.symm)
  have ge_s1 : Z.heap.size ≤ s1 := by rw [g_s1]; exact sz0
  have F4 := A1.ext E1
  have F5 : Fld Z h3 s1 "java/lang/String" "coder" "B" (.int (0 : Int32)) := D3 (Or.inr (tw hw 30 rfl)) (ty := .byte) (by decide)
  have F6 : Fld Z h3 s1 "java/lang/String" "value" "[B" .null := D3 (Or.inr (tw hw 32 rfl)) (ty := (.array .byte)) (by decide)
  refine w.dup d0_115 rfl ?_
  refine w.aload d0_116 rfl rfl ?_
  refine w.callI (argsL := [(.ref b)]) (rest := [(.ref s1)]) 1 d0_118 rfl (tw hw 7 rfl) (tw hw 8 rfl) (tw hw 6 rfl) (tw hw 9 rfl) (by decide) (rmS1_1 l Z a0 hw hr s1 b kb (c1 &&& (255 : Int32)) h3 w.old ge_s1 A2 F6 F5 F4 (le255 c1)) (lenOf pd_10 rfl) rfl rfl (Nat.le_refl _) ⟨by decide, by decide, by decide, by decide⟩ (allS (List.mem_of_getElem? (i := 0) rfl) all0) ?_
  intro T h4 r w _ hQ
  obtain ⟨rfl, K1, t1, g1, S1⟩ := hQ
  show Go cx _ Z _ _ _ T 121 #[.val (.int op), .val (.int sc), .val (.int c1), .val (.int c2), .val (.int t), .val vo, .val (.int ts), .val vs, .val (.ref b), .unset, .unset, .unset, .unset, .unset, .unset, .unset] [(.ref s1)]
  refine w.astore #[.val (.int op), .val (.int sc), .val (.int c1), .val (.int c2), .val (.int t), .val vo, .val (.int ts), .val vs, .val (.ref b), .val (.ref s1), .unset, .unset, .unset, .unset, .unset, .unset] d0_121 rfl rfl ?_
  refine w.iloadN d0_123 rfl ?_
  refine w.bipush (8 : Int32) d0_124 rfl ?_
  refine w.iushr d0_126 ?_
  refine w.sipush (255 : Int32) d0_127 rfl ?_
  refine w.iand d0_130 ?_
  refine w.i2c d0_131 ?_
  refine w.callS (argsL := [(.int (nar .char ((XT.ushr c1 (8 : Int32)) &&& (255 : Int32))))]) (rest := []) 0 d0_132 (tw hw 33 rfl) (tw hw 34 rfl) (tw hw 6 rfl) (tw hw 35 rfl) (by decide) (rmVC l Z a0 hw hr _ h4 w.old (le255n _)) (lenOf pd_11 rfl) rfl rfl (Nat.le_refl _) ⟨by decide, by decide, by decide, by decide⟩ all0 ?_
  intro T h5 r w _ hQ
  obtain ⟨s2, t2, rfl, E2, -, -, S2⟩ := hQ
  show Go cx _ Z _ _ _ T 135 #[.val (.int op), .val (.int sc), .val (.int c1), .val (.int c2), .val (.int t), .val vo, .val (.int ts), .val vs, .val (.ref b), .val (.ref s1), .unset, .unset, .unset, .unset, .unset, .unset] [(.ref s2)]
  refine w.astore #[.val (.int op), .val (.int sc), .val (.int c1), .val (.int c2), .val (.int t), .val vo, .val (.int ts), .val vs, .val (.ref b), .val (.ref s1), .val (.ref s2), .unset, .unset, .unset, .unset, .unset] d0_135 rfl rfl ?_
  refine w.iloadN d0_137 rfl ?_
  refine w.sipush (255 : Int32) d0_138 rfl ?_
  refine w.iand d0_141 ?_
  refine w.i2c d0_142 ?_
  refine w.callS (argsL := [(.int (nar .char (c2 &&& (255 : Int32))))]) (rest := []) 0 d0_143 (tw hw 33 rfl) (tw hw 34 rfl) (tw hw 6 rfl) (tw hw 35 rfl) (by decide) (rmVC l Z a0 hw hr _ h5 w.old (le255n _)) (lenOf pd_11 rfl) rfl rfl (Nat.le_refl _) ⟨by decide, by decide, by decide, by decide⟩ all0 ?_
  intro T h6 r w _ hQ
  obtain ⟨s3, t3, rfl, E3, -, -, S3⟩ := hQ
  show Go cx _ Z _ _ _ T 146 #[.val (.int op), .val (.int sc), .val (.int c1), .val (.int c2), .val (.int t), .val vo, .val (.int ts), .val vs, .val (.ref b), .val (.ref s1), .val (.ref s2), .unset, .unset, .unset, .unset, .unset] [(.ref s3)]
  refine w.astore #[.val (.int op), .val (.int sc), .val (.int c1), .val (.int c2), .val (.int t), .val vo, .val (.int ts), .val vs, .val (.ref b), .val (.ref s1), .val (.ref s2), .val (.ref s3), .unset, .unset, .unset, .unset] d0_146 rfl rfl ?_
  refine w.iloadN d0_148 rfl ?_
  refine w.sipush (256 : Int32) d0_149 rfl ?_
  refine w.iand d0_152 ?_
  refine w.ifEq d0_153 d0_153t (fun q1 => ?_) (fun q1 => ?_)
  · refine w.iloadN d0_160 rfl ?_
    refine w.bipush (16 : Int32) d0_161 rfl ?_
    refine w.iushr d0_163 ?_
    refine w.sipush (255 : Int32) d0_164 rfl ?_
    refine w.iand d0_167 ?_
    refine w.i2c d0_168 ?_
    refine w.callS (argsL := [(.int (nar .char ((XT.ushr c2 (16 : Int32)) &&& (255 : Int32))))]) (rest := []) 0 d0_169 (tw hw 33 rfl) (tw hw 34 rfl) (tw hw 6 rfl) (tw hw 35 rfl) (by decide) (rmVC l Z a0 hw hr _ h6 w.old (le255n _)) (lenOf pd_11 rfl) rfl rfl (Nat.le_refl _) ⟨by decide, by decide, by decide, by decide⟩ all0 ?_
    intro T h7 r w _ hQ
    obtain ⟨s4, t4, rfl, E4, -, -, S4⟩ := hQ
    show Go cx _ Z _ _ _ T 172 #[.val (.int op), .val (.int sc), .val (.int c1), .val (.int c2), .val (.int t), .val vo, .val (.int ts), .val vs, .val (.ref b), .val (.ref s1), .val (.ref s2), .val (.ref s3), .unset, .unset, .unset, .unset] [(.ref s4)]
    refine w.astore #[.val (.int op), .val (.int sc), .val (.int c1), .val (.int c2), .val (.int t), .val vo, .val (.int ts), .val vs, .val (.ref b), .val (.ref s1), .val (.ref s2), .val (.ref s3), .val (.ref s4), .unset, .unset, .unset] d0_172 rfl rfl ?_
    exact pc174 l Z a0 hw hn op sc c1 c2 t ts vo ro hd b s1 s2 s3 vs (.ref s4) rs rfl _ cx T ((w.more (by decide) (by decide) (by decide) (by decide)).less all0)
  · refine w.aconstNull d0_156 ?_
    refine w.goto d0_157 d0_157t ?_
    refine w.astore #[.val (.int op), .val (.int sc), .val (.int c1), .val (.int c2), .val (.int t), .val vo, .val (.int ts), .val vs, .val (.ref b), .val (.ref s1), .val (.ref s2), .val (.ref s3), .val .null, .unset, .unset, .unset] d0_172 rfl rfl ?_
    exact pc174 l Z a0 hw hn op sc c1 c2 t ts vo ro hd b s1 s2 s3 vs .null rs rfl _ cx T ((w.more (by decide) (by decide) (by decide) (by decide)).less all0)

set_option maxRecDepth 65536 in
set_option maxHeartbeats 40000000 in
theorem pc49 (l : Launch) (Z : State) (a0 : Array Value) (hw : ∀ d ∈ tables_1, d.before a0 Z = true) (hr : rest_1_c.value a0 Z none Z [] = some true) (hn : narrow_1.value a0 Z none Z [] = some true) (op sc c1 c2 t : Int32) (vo : Value) (ro : vo.isRef = true) (hd : (vo = .ref (A_BACKFILL Z a0) ∧ t = 1) ∨ (¬ vo = .ref (A_BACKFILL Z a0) ∧ ¬ t = 1)) (h0 : Heap) (cx : Cx) (T : State) (w : W cx false l Z [] room_1 (MethodName.cls x) code maxLocals ret (MethodName.name x) T h0 (0) (0) []) :
    Go cx false Z [] room_1 (fun v _ => v = some (.int 1)) T 49 #[.val (.int op), .val (.int sc), .val (.int c1), .val (.int c2), .val (.int t), .val vo, .unset, .unset, .unset, .unset, .unset, .unset, .unset, .unset, .unset, .unset] [] := by
  refine w.iloadN d0_49 rfl ?_
  refine w.iconst (3 : Int32) d0_50 rfl ?_
  refine w.iand d0_51 ?_
  refine w.istore #[.val (.int op), .val (.int sc), .val (.int c1), .val (.int c2), .val (.int t), .val vo, .val (.int (sc &&& (3 : Int32))), .unset, .unset, .unset, .unset, .unset, .unset, .unset, .unset, .unset] d0_52 rfl ?_
  refine w.iload d0_54 rfl ?_
  refine w.ifNe d0_56 d0_56t (fun q1 => ?_) (fun q1 => ?_)
  · refine w.iload d0_67 rfl ?_
    refine w.iconst (1 : Int32) d0_69 rfl ?_
    refine w.icmpNe d0_70 d0_70t (fun q2 => ?_) (fun q2 => ?_)
    · refine w.iload d0_81 rfl ?_
      refine w.iconst (2 : Int32) d0_83 rfl ?_
      refine w.icmpNe d0_84 d0_84t (fun q3 => ?_) (fun q3 => ?_)
      · refine w.aconstNull d0_95 ?_
        refine w.astore #[.val (.int op), .val (.int sc), .val (.int c1), .val (.int c2), .val (.int t), .val vo, .val (.int (sc &&& (3 : Int32))), .val .null, .unset, .unset, .unset, .unset, .unset, .unset, .unset, .unset] d0_96 rfl rfl ?_
        exact pc98 l Z a0 hw hr hn op sc c1 c2 t _ vo ro hd .null rfl h0 cx T w
      · refine w.getS d0_87 (tw hw 84 rfl) (s_CUSTOM hw hn).2.1 ?_
        intro T w
        refine w.astore #[.val (.int op), .val (.int sc), .val (.int c1), .val (.int c2), .val (.int t), .val vo, .val (.int (sc &&& (3 : Int32))), .val (.ref (A_CUSTOM Z a0)), .unset, .unset, .unset, .unset, .unset, .unset, .unset, .unset] d0_90 rfl rfl ?_
        refine w.goto d0_92 d0_92t ?_
        exact pc98 l Z a0 hw hr hn op sc c1 c2 t _ vo ro hd (.ref (A_CUSTOM Z a0)) rfl h0 cx T w
    · refine w.getS d0_73 (tw hw 93 rfl) (s_EXPR hw hn).2.1 ?_
      intro T w
      refine w.astore #[.val (.int op), .val (.int sc), .val (.int c1), .val (.int c2), .val (.int t), .val vo, .val (.int (sc &&& (3 : Int32))), .val (.ref (A_EXPR Z a0)), .unset, .unset, .unset, .unset, .unset, .unset, .unset, .unset] d0_76 rfl rfl ?_
      refine w.goto d0_78 d0_78t ?_
      exact pc98 l Z a0 hw hr hn op sc c1 c2 t _ vo ro hd (.ref (A_EXPR Z a0)) rfl h0 cx T w
  · refine w.getS d0_59 (tw hw 88 rfl) (s_GLOBAL hw hn).2.1 ?_
    intro T w
    refine w.astore #[.val (.int op), .val (.int sc), .val (.int c1), .val (.int c2), .val (.int t), .val vo, .val (.int (sc &&& (3 : Int32))), .val (.ref (A_GLOBAL Z a0)), .unset, .unset, .unset, .unset, .unset, .unset, .unset, .unset] d0_62 rfl rfl ?_
    refine w.goto d0_64 d0_64t ?_
    exact pc98 l Z a0 hw hr hn op sc c1 c2 t _ vo ro hd (.ref (A_GLOBAL Z a0)) rfl h0 cx T w

set_option maxRecDepth 65536 in
set_option maxHeartbeats 40000000 in
theorem rm0 (l : Launch) (Z : State) (a0 : Array Value) (hw : ∀ d ∈ tables_1, d.before a0 Z = true) (hr : rest_1_c.value a0 Z none Z [] = some true) (hn : narrow_1.value a0 Z none Z [] = some true) (op sc c1 c2 : Int32) (h0 : Heap) (hE : Ext Z.heap h0) :
    Ct false l Z [] x code maxLocals ret tables_1 room_1 [] #[(.int op), (.int sc), (.int c1), (.int c2)] h0 (fun v _ => v = some (.int 1)) := by
  refine Ct.intro pn_com_example_lynnfield_lynnfield_model_CursorIdDirectionPinLaw hE (fun m => ef0 m op sc c1 c2) nosf ⟨a0, own_EW hw⟩ ?_
  intro x T w
  refine w.iloadN d0_0 rfl ?_
  refine w.iconst (3 : Int32) d0_1 rfl ?_
  refine w.iand d0_2 ?_
  refine w.istore #[.val (.int op), .val (.int sc), .val (.int c1), .val (.int c2), .val (.int (op &&& (3 : Int32))), .unset, .unset, .unset, .unset, .unset, .unset, .unset, .unset, .unset, .unset, .unset] d0_3 rfl ?_
  refine w.iload d0_5 rfl ?_
  refine w.ifNe d0_7 d0_7t (fun q1 => ?_) (fun q1 => ?_)
  · refine w.iload d0_18 rfl ?_
    refine w.iconst (1 : Int32) d0_20 rfl ?_
    refine w.icmpNe d0_21 d0_21t (fun q2 => ?_) (fun q2 => ?_)
    · refine w.iload d0_32 rfl ?_
      refine w.iconst (2 : Int32) d0_34 rfl ?_
      refine w.icmpNe d0_35 d0_35t (fun q3 => ?_) (fun q3 => ?_)
      · refine w.aconstNull d0_46 ?_
        refine w.astore #[.val (.int op), .val (.int sc), .val (.int c1), .val (.int c2), .val (.int (op &&& (3 : Int32))), .val .null, .unset, .unset, .unset, .unset, .unset, .unset, .unset, .unset, .unset, .unset] d0_47 rfl rfl ?_
        exact pc49 l Z a0 hw hr hn op sc c1 c2 _ .null rfl (Or.inr ⟨(fun e => by cases e), q2⟩) h0 x T w
      · refine w.getS d0_38 (tw hw 82 rfl) (s_UPDATE hw hn).2.1 ?_
        intro T w
        refine w.astore #[.val (.int op), .val (.int sc), .val (.int c1), .val (.int c2), .val (.int (op &&& (3 : Int32))), .val (.ref (A_UPDATE Z a0)), .unset, .unset, .unset, .unset, .unset, .unset, .unset, .unset, .unset, .unset] d0_41 rfl rfl ?_
        refine w.goto d0_43 d0_43t ?_
        exact pc49 l Z a0 hw hr hn op sc c1 c2 _ (.ref (A_UPDATE Z a0)) rfl (Or.inr ⟨rne (own_ne2 hw hn), q2⟩) h0 x T w
    · refine w.getS d0_24 (tw hw 87 rfl) (s_BACKFILL hw hn).2.1 ?_
      intro T w
      refine w.astore #[.val (.int op), .val (.int sc), .val (.int c1), .val (.int c2), .val (.int (op &&& (3 : Int32))), .val (.ref (A_BACKFILL Z a0)), .unset, .unset, .unset, .unset, .unset, .unset, .unset, .unset, .unset, .unset] d0_27 rfl rfl ?_
      refine w.goto d0_29 d0_29t ?_
      exact pc49 l Z a0 hw hr hn op sc c1 c2 _ (.ref (A_BACKFILL Z a0)) rfl (Or.inl ⟨rfl, q2⟩) h0 x T w
  · refine w.getS d0_10 (tw hw 0 rfl) (s_HARVEST hw hn).2.1 ?_
    intro T w
    refine w.astore #[.val (.int op), .val (.int sc), .val (.int c1), .val (.int c2), .val (.int (op &&& (3 : Int32))), .val (.ref (A_HARVEST Z a0)), .unset, .unset, .unset, .unset, .unset, .unset, .unset, .unset, .unset, .unset] d0_13 rfl rfl ?_
    refine w.goto d0_15 d0_15t ?_
    exact pc49 l Z a0 hw hr hn op sc c1 c2 _ (.ref (A_HARVEST Z a0)) rfl (Or.inr ⟨rne (own_ne0 hw hn), by rw [q1]; decide⟩) h0 x T w

set_option maxRecDepth 65536 in
set_option maxHeartbeats 40000000 in
theorem comes_1 {Post : Tables → Env → Array Value → State → Outcome → State → Prop} (hpost : ∀ tb e args s v u, (limb_1_1.after args s (.returned v) u = true ∧ limb_1_2.after args s (.returned v) u = true) → FrameEnd s (.returned v) u (Jvm.fieldLocs frame_1_writes args s ++ Jvm.arrayLocs frame_1_arrays args s ++ Jvm.staticLocs frame_1_statics s) 32 128 → Post tb e args s (.returned v) u) :
    ArmFor flags0 classFile x code maxLocals ret World_1 tables_1 room_1 Calls_1 rest_1 Pre_1 Post := by
  intro l hfl _ _ p e ha hc hk s m args below hf hA hF happ hP
  obtain ⟨hcalls, hrest, hpre⟩ := hP
  obtain ⟨-, -, -, hnamed, -, -, -, hat⟩ := (Spec.applies_iff hf).mp happ
  obtain ⟨hg, hn⟩ := and_e (Cond.before_iff.mp (show (Jvm.Cond.and given_1 narrow_1).before args s = true from hpre))
  obtain ⟨hc0, hg⟩ := and_e hg
  obtain ⟨w0, w1, w2, w3, rfl⟩ : ∃ w0 w1 w2 w3 : Value, args = #[w0, w1, w2, w3] := by
    have hs : args.size = 4 := by simpa [Cond.value] using hc0
    obtain ⟨L⟩ := args
    match L, hs with
    | [w0, w1, w2, w3], _ => exact ⟨w0, w1, w2, w3, rfl⟩
  have hw := fun d (hd : d ∈ tables_1) => atoms_spec (ws := Jvm.Cond.code x code maxLocals ret :: tables_1) hat d (List.mem_cons_of_mem _ hd)
  have hfit : Fit s := fit_of hF
  obtain ⟨hg0, hg⟩ := and_e hg
  obtain ⟨i0, e0⟩ := is_v hg0
  obtain rfl : w0 = (.int i0) := Option.some.inj e0
  obtain ⟨hg1, hg⟩ := and_e hg
  obtain ⟨i1, e1⟩ := is_v hg1
  obtain rfl : w1 = (.int i1) := Option.some.inj e1
  obtain ⟨hg2, hg⟩ := and_e hg
  obtain ⟨i2, e2⟩ := is_v hg2
  obtain rfl : w2 = (.int i2) := Option.some.inj e2
  obtain ⟨i3, e3⟩ := is_v hg
  obtain rfl : w3 = (.int i3) := Option.some.inj e3
  obtain ⟨n, o, h1, h2, h3, _, L, rfl, ⟨rfl, N, -, -⟩, hq⟩ := rm0 l s _ hw (Cond.before_iff.mp hrest) hn i0 i1 i2 i3 s.heap (ext_refl _) p e ha hc hk s m _ below hf ((Spec.applies_iff_loose hf).mp happ).1 ⟨rfl, State.Warmed39.refl s, rfl, fun q => by cases q⟩ trivial
  refine ⟨n, _, h1, h2, h3, hpost _ _ _ _ _ _ ⟨Cond.after_iff.mpr rfl, Cond.after_iff.mpr (eq_i res_at (Term.int_eval (1)) rfl)⟩ ⟨hq.1, hq.2.1, (hq.2.2.sift fun y hy => Or.inr (N y hy)).mono (by decide) (by decide)⟩⟩
theorem main_1_1 : Claimed_1_1 := comes_1 fun _ _ _ _ _ _ h hF => ⟨h.1, hF⟩
theorem main_1_2 : Claimed_1_2 := comes_1 fun _ _ _ _ _ _ h hF => ⟨h.2, hF⟩
end Jvm.Pilot.@@N@@
namespace Jvm.Pilot.@@N@@
open Jvm Jvm.ClassFile Sem Op Lib Jvm.Free Jvm.Stand Jvm.Pilot.@@N@@.Jvm.D
/-! MADE BY PROGRAM (witnessworld.py) out of the Statement's table words and the real class files: 25 classes; the members and pool entries that the words name. The judged class is class 1, her method 1. -/
namespace start1
open Jvm.ClassFile
def u (s : String) : CpInfo := .utf8 (stringToUtf16 s)
/-- a pool by its gaps: so many unusable entries, then the entry; so many at the end -/
def gap : Nat → List CpInfo → List CpInfo
  | 0, r => r
  | n + 1, r => .unusable :: gap n r
def poolList (es : List (Nat × CpInfo)) (last : Nat) : List CpInfo := es.foldr (fun e r => gap e.1 (e.2 :: r)) (gap last [])
def pool (es : List (Nat × CpInfo)) (last : Nat) : Array CpInfo := ⟨poolList es last⟩
def fileOf (pool : Array CpInfo) (this : Nat) (attrs : Array Attribute := #[]) (ms : Array MethodInfo := #[]) (fl : Nat := 33) (sup : Nat := 0) (ifs : Array Nat := #[]) (fds : Array FieldInfo := #[]) : ClassFile where
  minorVersion := 0
  majorVersion := 65
  constantPool := pool
  accessFlags := fl
  thisClass := this
  superClass := sup
  interfaces := ifs
  fields := fds
  methods := ms
  attributes := attrs
def plain (name : String) (sup : Option ClassId) : Class where
  name := name
  kind := .ordinary
  loader := none
  accessFlags := 33
  super := sup
  interfaces := #[]
  cf := none
  fields := #[]
  methods := #[]
  instanceTypes := #[]
  staticTypes := #[]
  resolved := #[]
  callSites := []
  init := .initialized
  statics := none
  mirror := none

def pool0 : Array CpInfo := pool [(5, u "<init>"), (0, u "()V"), (1, .class_ 10), (1, u "java/lang/Object")] 113

def k0c0 : Code := { maxStack := 0, maxLocals := 1, code := object_method_1_code, exceptionTable := #[], attributes := #[] }
def k0m0 : Method := { name := "<init>", desc := "()V", sig := { parameters := [], returnType := none }, accessFlags := 1, code := some k0c0 }
/-- java/lang/Object -/
def k0 : Class := { plain "java/lang/Object" none with
  accessFlags := 33
  interfaces := #[]
  cf := some (fileOf pool0 8 #[] #[{ accessFlags := 1, nameIndex := 5, descriptorIndex := 6, attributes := #[] }] 33 0 #[] #[])
  fields := #[]
  methods := #[k0m0]
  instanceTypes := #[]
  staticTypes := #[]
  resolved := Array.replicate 124 none
  statics := none }

def pool1 : Array CpInfo := pool [(2, .class_ 4), (1, u "java/lang/Object"), (0, u "<init>"), (0, u "()V"), (0, .fieldref 8 9), (0, .class_ 10), (0, .nameAndType 11 12), (0, u "com/example/lynnfield/lynnfield/model/Operation"), (0, u "HARVEST"), (0, u "Lcom/example/lynnfield/lynnfield/model/Operation;"), (0, .fieldref 8 14), (0, .nameAndType 15 12), (0, u "BACKFILL"), (0, .fieldref 8 17), (0, .nameAndType 18 12), (0, u "UPDATE"), (0, .fieldref 20 21), (0, .class_ 22), (0, .nameAndType 23 24), (0, u "com/example/lynnfield/lynnfield/model/CursorId$Scope"), (0, u "GLOBAL"), (0, u "Lcom/example/lynnfield/lynnfield/model/CursorId$Scope;"), (0, .fieldref 20 26), (0, .nameAndType 27 24), (0, u "EXPR"), (0, .fieldref 20 29), (0, .nameAndType 30 24), (0, u "CUSTOM"), (0, .class_ 32), (0, u "java/lang/String"), (0, .methodref 31 34), (0, .nameAndType 5 35), (0, u "([C)V"), (0, .methodref 31 37), (0, .nameAndType 38 39), (0, u "valueOf"), (0, u "(C)Ljava/lang/String;"), (0, .class_ 41), (0, u "com/example/lynnfield/lynnfield/model/CursorId"), (0, .methodref 40 43), (0, .nameAndType 5 44), (0, u "(Ljava/lang/String;Lcom/example/lynnfield/lynnfield/model/Operation;Ljava/lang/String;Lcom/example/lynnfield/lynnfield/model/CursorId$Scope;Ljava/lang/String;Ljava/lang/String;)V"), (0, .methodref 40 46), (0, .nameAndType 47 48), (0, u "direction"), (0, u "()Lcom/example/lynnfield/lynnfield/model/CursorId$Direction;"), (0, .fieldref 50 51), (0, .class_ 52), (0, .nameAndType 15 53), (0, u "com/example/lynnfield/lynnfield/model/CursorId$Direction"), (0, u "Lcom/example/lynnfield/lynnfield/model/CursorId$Direction;"), (0, .fieldref 50 55), (0, .nameAndType 56 53), (0, u "FORWARD"), (0, .class_ 58), (0, u "com/example/lynnfield/lynnfield/model/CursorIdDirectionPinLaw"), (2, u "law"), (0, u "(IIII)Z")] 8

def k1m0 : Method := { name := "<init>", desc := "()V", sig := { parameters := [], returnType := none }, accessFlags := 1, code := none }
def k1c1 : Code := { maxStack := 8, maxLocals := 16, code := code, exceptionTable := #[], attributes := #[] }
def k1m1 : Method := { name := "law", desc := "(IIII)Z", sig := { parameters := [.int, .int, .int, .int], returnType := some .boolean }, accessFlags := 9, code := some k1c1 }
/-- com/example/lynnfield/lynnfield/model/CursorIdDirectionPinLaw -/
def k1 : Class := { plain "com/example/lynnfield/lynnfield/model/CursorIdDirectionPinLaw" (some 0) with
  accessFlags := 49
  interfaces := #[]
  cf := some (fileOf pool1 57 #[] #[{ accessFlags := 1, nameIndex := 5, descriptorIndex := 6, attributes := #[] }, { accessFlags := 9, nameIndex := 61, descriptorIndex := 62, attributes := #[] }] 49 2 #[] #[])
  fields := #[]
  methods := #[k1m0, k1m1]
  instanceTypes := #[]
  staticTypes := #[]
  resolved := Array.replicate 71 none
  statics := none }

def pool2 : Array CpInfo := pool [(1, .class_ 2), (0, u "java/lang/constant/Constable"), (0, .class_ 4), (0, u "java/lang/Object")] 6

/-- java/lang/constant/Constable -/
def k2 : Class := { plain "java/lang/constant/Constable" (some 0) with
  accessFlags := 1537
  interfaces := #[]
  cf := some (fileOf pool2 1 #[] #[] 1537 3 #[] #[])
  fields := #[]
  methods := #[]
  instanceTypes := #[]
  staticTypes := #[]
  resolved := Array.replicate 11 none
  statics := none }

def pool3 : Array CpInfo := pool [(1, .class_ 2), (0, u "java/lang/Comparable"), (0, .class_ 4), (0, u "java/lang/Object")] 7

/-- java/lang/Comparable -/
def k3 : Class := { plain "java/lang/Comparable" (some 0) with
  accessFlags := 1537
  interfaces := #[]
  cf := some (fileOf pool3 1 #[] #[] 1537 3 #[] #[])
  fields := #[]
  methods := #[]
  instanceTypes := #[]
  staticTypes := #[]
  resolved := Array.replicate 12 none
  statics := none }

def pool4 : Array CpInfo := pool [(1, .class_ 2), (0, u "java/io/Serializable"), (0, .class_ 4), (0, u "java/lang/Object")] 2

/-- java/io/Serializable -/
def k4 : Class := { plain "java/io/Serializable" (some 0) with
  accessFlags := 1537
  interfaces := #[]
  cf := some (fileOf pool4 1 #[] #[] 1537 3 #[] #[])
  fields := #[]
  methods := #[]
  instanceTypes := #[]
  staticTypes := #[]
  resolved := Array.replicate 7 none
  statics := none }

def pool5 : Array CpInfo := pool [(2, .class_ 4), (1, u "java/lang/Enum"), (0, u "name"), (0, u "Ljava/lang/String;"), (2, u "ordinal"), (0, u "I"), (1, .class_ 14), (1, u "java/lang/Object"), (4, u "hash"), (86, .class_ 108), (1, u "java/lang/Enum$EnumDesc"), (2, .class_ 112), (0, u "java/lang/constant/Constable"), (0, .class_ 114), (0, u "java/lang/Comparable"), (0, .class_ 116), (0, u "java/io/Serializable")] 87

/-- java/lang/Enum -/
def k5 : Class := { plain "java/lang/Enum" (some 0) with
  accessFlags := 1057
  interfaces := #[2, 3, 4]
  cf := some (fileOf pool5 2 #[.nestMembers #[106]] #[] 1057 12 #[111, 113, 115] #[{ accessFlags := 18, nameIndex := 5, descriptorIndex := 6, attributes := #[] }, { accessFlags := 18, nameIndex := 9, descriptorIndex := 10, attributes := #[] }, { accessFlags := 2, nameIndex := 19, descriptorIndex := 10, attributes := #[] }])
  fields := #[{ name := "name", type := (.object "java/lang/String"), accessFlags := 18, slot := 0, constantValue := 0 }, { name := "ordinal", type := .int, accessFlags := 18, slot := 1, constantValue := 0 }, { name := "hash", type := .int, accessFlags := 2, slot := 2, constantValue := 0 }]
  methods := #[]
  instanceTypes := #[(.object "java/lang/String"), .int, .int]
  staticTypes := #[]
  resolved := Array.replicate 204 none
  statics := none }

def pool6 : Array CpInfo := pool [(1, .class_ 2), (0, u "com/example/lynnfield/lynnfield/model/Operation"), (2, u "HARVEST"), (0, u "Lcom/example/lynnfield/lynnfield/model/Operation;"), (2, u "BACKFILL"), (2, u "UPDATE"), (2, u "$VALUES"), (0, u "[Lcom/example/lynnfield/lynnfield/model/Operation;"), (6, .class_ 25), (1, u "java/lang/Enum")] 105

/-- com/example/lynnfield/lynnfield/model/Operation -/
def k6 : Class := { plain "com/example/lynnfield/lynnfield/model/Operation" (some 5) with
  accessFlags := 16433
  interfaces := #[]
  cf := some (fileOf pool6 1 #[] #[] 16433 23 #[] #[{ accessFlags := 16409, nameIndex := 5, descriptorIndex := 6, attributes := #[] }, { accessFlags := 16409, nameIndex := 9, descriptorIndex := 6, attributes := #[] }, { accessFlags := 16409, nameIndex := 12, descriptorIndex := 6, attributes := #[] }, { accessFlags := 4122, nameIndex := 15, descriptorIndex := 16, attributes := #[] }])
  fields := #[{ name := "HARVEST", type := (.object "com/example/lynnfield/lynnfield/model/Operation"), accessFlags := 16409, slot := 0, constantValue := 0 }, { name := "BACKFILL", type := (.object "com/example/lynnfield/lynnfield/model/Operation"), accessFlags := 16409, slot := 1, constantValue := 0 }, { name := "UPDATE", type := (.object "com/example/lynnfield/lynnfield/model/Operation"), accessFlags := 16409, slot := 2, constantValue := 0 }, { name := "$VALUES", type := (.array (.object "com/example/lynnfield/lynnfield/model/Operation")), accessFlags := 4122, slot := 3, constantValue := 0 }]
  methods := #[]
  instanceTypes := #[(.object "java/lang/String"), .int, .int]
  staticTypes := #[(.object "com/example/lynnfield/lynnfield/model/Operation"), (.object "com/example/lynnfield/lynnfield/model/Operation"), (.object "com/example/lynnfield/lynnfield/model/Operation"), (.array (.object "com/example/lynnfield/lynnfield/model/Operation"))]
  resolved := Array.replicate 131 none
  statics := some 0 }

def pool7 : Array CpInfo := pool [(2, .class_ 4), (1, u "java/lang/CharSequence"), (42, .class_ 48), (0, u "java/lang/CharSequence$1CodePointIterator"), (10, .class_ 60), (0, u "java/lang/CharSequence$1CharIterator"), (5, .class_ 67), (0, u "java/lang/Object")] 63

/-- java/lang/CharSequence -/
def k7 : Class := { plain "java/lang/CharSequence" (some 0) with
  accessFlags := 1537
  interfaces := #[]
  cf := some (fileOf pool7 2 #[.nestMembers #[47, 59]] #[] 1537 66 #[] #[])
  fields := #[]
  methods := #[]
  instanceTypes := #[]
  staticTypes := #[]
  resolved := Array.replicate 131 none
  statics := none }

def pool8 : Array CpInfo := pool [(1, .class_ 2), (0, u "java/lang/constant/ConstantDesc"), (0, .class_ 4), (0, u "java/lang/Object")] 32

/-- java/lang/constant/ConstantDesc -/
def k8 : Class := { plain "java/lang/constant/ConstantDesc" (some 0) with
  accessFlags := 1537
  interfaces := #[]
  cf := some (fileOf pool8 1 #[] #[] 1537 3 #[] #[])
  fields := #[]
  methods := #[]
  instanceTypes := #[]
  staticTypes := #[]
  resolved := Array.replicate 37 none
  statics := none }

def pool9 : Array CpInfo := pool [(1, .methodref 2 3), (0, .class_ 4), (0, .nameAndType 5 6), (0, u "java/lang/Object"), (0, u "<init>"), (0, u "()V"), (2, .fieldref 10 11), (0, .class_ 12), (0, .nameAndType 13 14), (0, u "java/lang/String"), (0, u "value"), (0, u "[B"), (0, .fieldref 10 16), (0, .nameAndType 17 18), (0, u "coder"), (0, u "B"), (2, u "hash"), (0, u "I"), (2, u "hashIsZero"), (0, u "Z"), (0, .methodref 10 28), (0, .nameAndType 5 29), (0, u "([CIILjava/lang/Void;)V"), (8, .fieldref 10 39), (0, .nameAndType 40 26), (0, u "COMPACT_STRINGS"), (1, .class_ 44), (1, u "java/lang/StringUTF16"), (0, u "compress"), (1, .methodref 42 48), (0, .nameAndType 49 50), (0, u "coderFromArrayLen"), (0, u "([BI)B"), (2, u "toBytes"), (53, .class_ 109), (1, u "java/lang/StringLatin1"), (67, .methodref 42 178), (0, .nameAndType 45 179), (0, u "([CII)[B"), (29, .methodref 10 210), (0, .nameAndType 5 211), (0, u "([BB)V"), (157, u "(C)Z"), (205, .class_ 576), (0, u "java/lang/CharSequence"), (22, u "CASE_INSENSITIVE_ORDER"), (0, u "Ljava/util/Comparator;"), (181, u "valueOf"), (0, u "(C)Ljava/lang/String;"), (226, u "([C)V"), (4, .methodref 107 1016), (0, .nameAndType 1017 369), (0, u "canEncode"), (0, .methodref 107 1019), (0, .nameAndType 53 1020), (0, u "(C)[B"), (80, u "serialPersistentFields"), (0, u "[Ljava/io/ObjectStreamField;"), (0, .class_ 1104), (0, u "java/lang/String$CaseInsensitiveComparator"), (1, .class_ 1107), (0, u "java/io/Serializable"), (0, .class_ 1109), (0, u "java/lang/Comparable"), (0, .class_ 1111), (0, u "java/lang/constant/Constable"), (0, .class_ 1113), (0, u "java/lang/constant/ConstantDesc"), (2, u "serialVersionUID"), (0, u "J"), (3, u "REPL"), (0, u "C"), (2, u "LATIN1"), (1, u "UTF16")] 323

def k9m0 : Method := { name := "<init>", desc := "()V", sig := { parameters := [], returnType := none }, accessFlags := 1, code := none }
def k9c1 : Code := { maxStack := 5, maxLocals := 2, code := jdk_42_method_3_code, exceptionTable := #[], attributes := #[] }
def k9m1 : Method := { name := "<init>", desc := "([C)V", sig := { parameters := [(.array .char)], returnType := none }, accessFlags := 1, code := some k9c1 }
def k9c2 : Code := { maxStack := 4, maxLocals := 1, code := jdk_42_method_139_code, exceptionTable := #[], attributes := #[] }
def k9m2 : Method := { name := "valueOf", desc := "(C)Ljava/lang/String;", sig := { parameters := [.char], returnType := some (.object "java/lang/String") }, accessFlags := 9, code := some k9c2 }
def k9c3 : Code := { maxStack := 4, maxLocals := 6, code := jdk_42_method_149_code, exceptionTable := #[], attributes := #[] }
def k9m3 : Method := { name := "<init>", desc := "([CIILjava/lang/Void;)V", sig := { parameters := [(.array .char), .int, .int, (.object "java/lang/Void")], returnType := none }, accessFlags := 2, code := some k9c3 }
def k9c4 : Code := { maxStack := 2, maxLocals := 3, code := jdk_42_method_151_code, exceptionTable := #[], attributes := #[] }
def k9m4 : Method := { name := "<init>", desc := "([BB)V", sig := { parameters := [(.array .byte), .byte], returnType := none }, accessFlags := 0, code := some k9c4 }
/-- java/lang/String -/
def k9 : Class := { plain "java/lang/String" (some 0) with
  accessFlags := 49
  interfaces := #[4, 3, 7, 2, 8]
  cf := some (fileOf pool9 10 #[.nestMembers #[1103]] #[{ accessFlags := 1, nameIndex := 5, descriptorIndex := 6, attributes := #[] }, { accessFlags := 1, nameIndex := 5, descriptorIndex := 1010, attributes := #[] }, { accessFlags := 9, nameIndex := 782, descriptorIndex := 783, attributes := #[] }, { accessFlags := 2, nameIndex := 5, descriptorIndex := 29, attributes := #[] }, { accessFlags := 0, nameIndex := 5, descriptorIndex := 211, attributes := #[] }] 49 2 #[1106, 1108, 575, 1110, 1112] #[{ accessFlags := 18, nameIndex := 13, descriptorIndex := 14, attributes := #[] }, { accessFlags := 18, nameIndex := 17, descriptorIndex := 18, attributes := #[] }, { accessFlags := 2, nameIndex := 21, descriptorIndex := 22, attributes := #[] }, { accessFlags := 2, nameIndex := 25, descriptorIndex := 26, attributes := #[] }, { accessFlags := 26, nameIndex := 1116, descriptorIndex := 1117, attributes := #[] }, { accessFlags := 24, nameIndex := 40, descriptorIndex := 26, attributes := #[] }, { accessFlags := 26, nameIndex := 1101, descriptorIndex := 1102, attributes := #[] }, { accessFlags := 26, nameIndex := 1121, descriptorIndex := 1122, attributes := #[] }, { accessFlags := 25, nameIndex := 599, descriptorIndex := 600, attributes := #[] }, { accessFlags := 24, nameIndex := 1125, descriptorIndex := 18, attributes := #[] }, { accessFlags := 24, nameIndex := 1127, descriptorIndex := 18, attributes := #[] }])
  fields := #[{ name := "value", type := (.array .byte), accessFlags := 18, slot := 0, constantValue := 0 }, { name := "coder", type := .byte, accessFlags := 18, slot := 1, constantValue := 0 }, { name := "hash", type := .int, accessFlags := 2, slot := 2, constantValue := 0 }, { name := "hashIsZero", type := .boolean, accessFlags := 2, slot := 3, constantValue := 0 }, { name := "serialVersionUID", type := .long, accessFlags := 26, slot := 0, constantValue := 0 }, { name := "COMPACT_STRINGS", type := .boolean, accessFlags := 24, slot := 1, constantValue := 0 }, { name := "serialPersistentFields", type := (.array (.object "java/io/ObjectStreamField")), accessFlags := 26, slot := 2, constantValue := 0 }, { name := "REPL", type := .char, accessFlags := 26, slot := 3, constantValue := 0 }, { name := "CASE_INSENSITIVE_ORDER", type := (.object "java/util/Comparator"), accessFlags := 25, slot := 4, constantValue := 0 }, { name := "LATIN1", type := .byte, accessFlags := 24, slot := 5, constantValue := 0 }, { name := "UTF16", type := .byte, accessFlags := 24, slot := 6, constantValue := 0 }]
  methods := #[k9m0, k9m1, k9m2, k9m3, k9m4]
  instanceTypes := #[(.array .byte), .byte, .int, .boolean]
  staticTypes := #[.long, .boolean, (.array (.object "java/io/ObjectStreamField")), .char, (.object "java/util/Comparator"), .byte, .byte]
  resolved := Array.replicate 1451 none
  statics := some 1 }

def pool10 : Array CpInfo := pool [(6, .class_ 8), (1, u "java/lang/Object"), (0, u "<init>"), (0, u "()V"), (1, .class_ 14), (1, u "java/lang/StringUTF16"), (31, u "$assertionsDisabled"), (0, u "Z"), (13, u "HI_BYTE_SHIFT"), (0, u "I"), (2, u "LO_BYTE_SHIFT"), (49, .methodref 12 116), (0, .nameAndType 117 118), (0, u "compress"), (0, u "([CI[BII)I"), (3, u "([CII)[B"), (138, u "coderFromArrayLen"), (0, u "([BI)B"), (106, .class_ 371), (1, u "java/lang/StringUTF16$LinesSpliterator"), (58, u "MAX_LENGTH"), (196, .class_ 628), (0, u "java/lang/StringUTF16$CodePointsSpliterator"), (0, .class_ 630), (0, u "java/lang/StringUTF16$CharsSpliterator")] 4

def k10m0 : Method := { name := "<init>", desc := "()V", sig := { parameters := [], returnType := none }, accessFlags := 0, code := none }
def k10c1 : Code := { maxStack := 2, maxLocals := 2, code := jdk_52_method_15_code, exceptionTable := #[], attributes := #[] }
def k10m1 : Method := { name := "coderFromArrayLen", desc := "([BI)B", sig := { parameters := [(.array .byte), .int], returnType := some .byte }, accessFlags := 8, code := some k10c1 }
def k10c2 : Code := { maxStack := 5, maxLocals := 6, code := jdk_52_method_16_code, exceptionTable := #[], attributes := #[] }
def k10m2 : Method := { name := "compress", desc := "([CII)[B", sig := { parameters := [(.array .char), .int, .int], returnType := some (.array .byte) }, accessFlags := 9, code := some k10c2 }
def k10c3 : Code := { maxStack := 3, maxLocals := 7, code := jdk_52_method_21_code, exceptionTable := #[], attributes := #[] }
def k10m3 : Method := { name := "compress", desc := "([CI[BII)I", sig := { parameters := [(.array .char), .int, (.array .byte), .int, .int], returnType := some .int }, accessFlags := 9, code := some k10c3 }
/-- java/lang/StringUTF16 -/
def k10 : Class := { plain "java/lang/StringUTF16" (some 0) with
  accessFlags := 48
  interfaces := #[]
  cf := some (fileOf pool10 12 #[.nestMembers #[627, 629, 369]] #[{ accessFlags := 0, nameIndex := 9, descriptorIndex := 10, attributes := #[] }, { accessFlags := 8, nameIndex := 261, descriptorIndex := 262, attributes := #[] }, { accessFlags := 9, nameIndex := 117, descriptorIndex := 122, attributes := #[] }, { accessFlags := 9, nameIndex := 117, descriptorIndex := 118, attributes := #[] }] 48 6 #[] #[{ accessFlags := 26, nameIndex := 61, descriptorIndex := 62, attributes := #[] }, { accessFlags := 26, nameIndex := 65, descriptorIndex := 62, attributes := #[] }, { accessFlags := 24, nameIndex := 430, descriptorIndex := 62, attributes := #[] }, { accessFlags := 4120, nameIndex := 46, descriptorIndex := 47, attributes := #[] }])
  fields := #[{ name := "HI_BYTE_SHIFT", type := .int, accessFlags := 26, slot := 0, constantValue := 0 }, { name := "LO_BYTE_SHIFT", type := .int, accessFlags := 26, slot := 1, constantValue := 0 }, { name := "MAX_LENGTH", type := .int, accessFlags := 24, slot := 2, constantValue := 0 }, { name := "$assertionsDisabled", type := .boolean, accessFlags := 4120, slot := 3, constantValue := 0 }]
  methods := #[k10m0, k10m1, k10m2, k10m3]
  instanceTypes := #[]
  staticTypes := #[.int, .int, .int, .boolean]
  resolved := Array.replicate 635 none
  statics := none }

def pool11 : Array CpInfo := pool [(4, .class_ 6), (1, u "java/lang/Object"), (0, u "<init>"), (0, u "()V"), (5, .class_ 16), (1, u "java/lang/StringLatin1"), (73, u "canEncode"), (14, u "(C)Z"), (15, u "$assertionsDisabled"), (0, u "Z"), (98, .class_ 223), (1, u "java/lang/StringLatin1$LinesSpliterator"), (156, u "toBytes"), (1, u "(C)[B"), (7, .class_ 391), (0, u "java/lang/StringLatin1$CharsSpliterator")] 3

def k11m0 : Method := { name := "<init>", desc := "()V", sig := { parameters := [], returnType := none }, accessFlags := 0, code := none }
def k11c1 : Code := { maxStack := 2, maxLocals := 1, code := jdk_43_method_3_code, exceptionTable := #[], attributes := #[] }
def k11m1 : Method := { name := "canEncode", desc := "(C)Z", sig := { parameters := [.char], returnType := some .boolean }, accessFlags := 9, code := some k11c1 }
def k11c2 : Code := { maxStack := 4, maxLocals := 1, code := jdk_43_method_46_code, exceptionTable := #[], attributes := #[] }
def k11m2 : Method := { name := "toBytes", desc := "(C)[B", sig := { parameters := [.char], returnType := some (.array .byte) }, accessFlags := 9, code := some k11c2 }
/-- java/lang/StringLatin1 -/
def k11 : Class := { plain "java/lang/StringLatin1" (some 0) with
  accessFlags := 48
  interfaces := #[]
  cf := some (fileOf pool11 14 #[.nestMembers #[390, 221]] #[{ accessFlags := 0, nameIndex := 7, descriptorIndex := 8, attributes := #[] }, { accessFlags := 9, nameIndex := 90, descriptorIndex := 105, attributes := #[] }, { accessFlags := 9, nameIndex := 380, descriptorIndex := 382, attributes := #[] }] 48 4 #[] #[{ accessFlags := 4120, nameIndex := 121, descriptorIndex := 122, attributes := #[] }])
  fields := #[{ name := "$assertionsDisabled", type := .boolean, accessFlags := 4120, slot := 0, constantValue := 0 }]
  methods := #[k11m0, k11m1, k11m2]
  instanceTypes := #[]
  staticTypes := #[.boolean]
  resolved := Array.replicate 395 none
  statics := none }

def pool12 : Array CpInfo := pool [(1, .methodref 2 3), (0, .class_ 4), (0, .nameAndType 5 6), (0, u "java/lang/Object"), (0, u "<init>"), (0, u "()V"), (0, .class_ 8), (0, u "java/lang/Record")] 13

def k12c0 : Code := { maxStack := 1, maxLocals := 1, code := jdk_30_method_1_code, exceptionTable := #[], attributes := #[] }
def k12m0 : Method := { name := "<init>", desc := "()V", sig := { parameters := [], returnType := none }, accessFlags := 4, code := some k12c0 }
/-- java/lang/Record -/
def k12 : Class := { plain "java/lang/Record" (some 0) with
  accessFlags := 1057
  interfaces := #[]
  cf := some (fileOf pool12 7 #[] #[{ accessFlags := 4, nameIndex := 5, descriptorIndex := 6, attributes := #[] }] 1057 2 #[] #[])
  fields := #[]
  methods := #[k12m0]
  instanceTypes := #[]
  staticTypes := #[]
  resolved := Array.replicate 22 none
  statics := none }

def pool13 : Array CpInfo := pool [(1, .methodref 2 3), (0, .class_ 4), (0, .nameAndType 5 6), (0, u "java/lang/Record"), (0, u "<init>"), (0, u "()V"), (0, .fieldref 8 9), (0, .class_ 10), (0, .nameAndType 11 12), (0, u "com/example/lynnfield/lynnfield/model/CursorId"), (0, u "provenanceCode"), (0, u "Ljava/lang/String;"), (0, .fieldref 8 14), (0, .nameAndType 15 16), (0, u "operation"), (0, u "Lcom/example/lynnfield/lynnfield/model/Operation;"), (0, .fieldref 8 18), (0, .nameAndType 19 12), (0, u "cursorKey"), (0, .fieldref 8 21), (0, .nameAndType 22 23), (0, u "scope"), (0, u "Lcom/example/lynnfield/lynnfield/model/CursorId$Scope;"), (0, .fieldref 8 25), (0, .nameAndType 26 12), (0, u "namespaceKey"), (0, .fieldref 8 28), (0, .nameAndType 29 12), (0, u "namespaceName"), (1, .class_ 33), (1, u "com/example/lynnfield/lynnfield/model/CursorId$Scope"), (3, u "GLOBAL_NAMESPACE_KEY"), (2, u "(Ljava/lang/String;Lcom/example/lynnfield/lynnfield/model/Operation;Ljava/lang/String;Lcom/example/lynnfield/lynnfield/model/CursorId$Scope;Ljava/lang/String;Ljava/lang/String;)V"), (9, .fieldref 51 52), (0, .class_ 53), (0, .nameAndType 54 16), (0, u "com/example/lynnfield/lynnfield/model/Operation"), (0, u "BACKFILL"), (0, .fieldref 56 57), (0, .class_ 58), (0, .nameAndType 54 59), (0, u "com/example/lynnfield/lynnfield/model/CursorId$Direction"), (0, u "Lcom/example/lynnfield/lynnfield/model/CursorId$Direction;"), (0, .fieldref 56 61), (0, .nameAndType 62 59), (0, u "FORWARD"), (27, u "direction"), (0, u "()Lcom/example/lynnfield/lynnfield/model/CursorId$Direction;"), (10, .class_ 103), (0, u "com/example/lynnfield/lynnfield/model/CursorId$Type")] 26

def k13c0 : Code := { maxStack := 2, maxLocals := 7, code := prog_5_method_1_code, exceptionTable := #[], attributes := #[] }
def k13m0 : Method := { name := "<init>", desc := "(Ljava/lang/String;Lcom/example/lynnfield/lynnfield/model/Operation;Ljava/lang/String;Lcom/example/lynnfield/lynnfield/model/CursorId$Scope;Ljava/lang/String;Ljava/lang/String;)V", sig := { parameters := [(.object "java/lang/String"), (.object "com/example/lynnfield/lynnfield/model/Operation"), (.object "java/lang/String"), (.object "com/example/lynnfield/lynnfield/model/CursorId$Scope"), (.object "java/lang/String"), (.object "java/lang/String")], returnType := none }, accessFlags := 1, code := some k13c0 }
def k13c1 : Code := { maxStack := 2, maxLocals := 1, code := prog_5_method_4_code, exceptionTable := #[], attributes := #[] }
def k13m1 : Method := { name := "direction", desc := "()Lcom/example/lynnfield/lynnfield/model/CursorId$Direction;", sig := { parameters := [], returnType := some (.object "com/example/lynnfield/lynnfield/model/CursorId$Direction") }, accessFlags := 1, code := some k13c1 }
/-- com/example/lynnfield/lynnfield/model/CursorId -/
def k13 : Class := { plain "com/example/lynnfield/lynnfield/model/CursorId" (some 12) with
  accessFlags := 49
  interfaces := #[]
  cf := some (fileOf pool13 8 #[.nestMembers #[56, 102, 31]] #[{ accessFlags := 1, nameIndex := 5, descriptorIndex := 40, attributes := #[] }, { accessFlags := 1, nameIndex := 90, descriptorIndex := 91, attributes := #[] }] 49 2 #[] #[{ accessFlags := 18, nameIndex := 11, descriptorIndex := 12, attributes := #[] }, { accessFlags := 18, nameIndex := 15, descriptorIndex := 16, attributes := #[] }, { accessFlags := 18, nameIndex := 19, descriptorIndex := 12, attributes := #[] }, { accessFlags := 18, nameIndex := 22, descriptorIndex := 23, attributes := #[] }, { accessFlags := 18, nameIndex := 26, descriptorIndex := 12, attributes := #[] }, { accessFlags := 18, nameIndex := 29, descriptorIndex := 12, attributes := #[] }, { accessFlags := 25, nameIndex := 37, descriptorIndex := 12, attributes := #[] }])
  fields := #[{ name := "provenanceCode", type := (.object "java/lang/String"), accessFlags := 18, slot := 0, constantValue := 0 }, { name := "operation", type := (.object "com/example/lynnfield/lynnfield/model/Operation"), accessFlags := 18, slot := 1, constantValue := 0 }, { name := "cursorKey", type := (.object "java/lang/String"), accessFlags := 18, slot := 2, constantValue := 0 }, { name := "scope", type := (.object "com/example/lynnfield/lynnfield/model/CursorId$Scope"), accessFlags := 18, slot := 3, constantValue := 0 }, { name := "namespaceKey", type := (.object "java/lang/String"), accessFlags := 18, slot := 4, constantValue := 0 }, { name := "namespaceName", type := (.object "java/lang/String"), accessFlags := 18, slot := 5, constantValue := 0 }, { name := "GLOBAL_NAMESPACE_KEY", type := (.object "java/lang/String"), accessFlags := 25, slot := 0, constantValue := 0 }]
  methods := #[k13m0, k13m1]
  instanceTypes := #[(.object "java/lang/String"), (.object "com/example/lynnfield/lynnfield/model/Operation"), (.object "java/lang/String"), (.object "com/example/lynnfield/lynnfield/model/CursorId$Scope"), (.object "java/lang/String"), (.object "java/lang/String")]
  staticTypes := #[(.object "java/lang/String")]
  resolved := Array.replicate 130 none
  statics := none }

def pool14 : Array CpInfo := pool [(1, .class_ 2), (0, u "com/example/lynnfield/lynnfield/model/CursorId$Direction"), (2, u "FORWARD"), (0, u "Lcom/example/lynnfield/lynnfield/model/CursorId$Direction;"), (2, u "BACKFILL"), (2, u "$VALUES"), (0, u "[Lcom/example/lynnfield/lynnfield/model/CursorId$Direction;"), (6, .class_ 22), (1, u "java/lang/Enum"), (25, .class_ 49), (0, u "com/example/lynnfield/lynnfield/model/CursorId")] 2

/-- com/example/lynnfield/lynnfield/model/CursorId$Direction -/
def k14 : Class := { plain "com/example/lynnfield/lynnfield/model/CursorId$Direction" (some 5) with
  accessFlags := 16433
  interfaces := #[]
  cf := some (fileOf pool14 1 #[.nestHost 48] #[] 16433 20 #[] #[{ accessFlags := 16409, nameIndex := 5, descriptorIndex := 6, attributes := #[] }, { accessFlags := 16409, nameIndex := 9, descriptorIndex := 6, attributes := #[] }, { accessFlags := 4122, nameIndex := 12, descriptorIndex := 13, attributes := #[] }])
  fields := #[{ name := "FORWARD", type := (.object "com/example/lynnfield/lynnfield/model/CursorId$Direction"), accessFlags := 16409, slot := 0, constantValue := 0 }, { name := "BACKFILL", type := (.object "com/example/lynnfield/lynnfield/model/CursorId$Direction"), accessFlags := 16409, slot := 1, constantValue := 0 }, { name := "$VALUES", type := (.array (.object "com/example/lynnfield/lynnfield/model/CursorId$Direction")), accessFlags := 4122, slot := 2, constantValue := 0 }]
  methods := #[]
  instanceTypes := #[(.object "java/lang/String"), .int, .int]
  staticTypes := #[(.object "com/example/lynnfield/lynnfield/model/CursorId$Direction"), (.object "com/example/lynnfield/lynnfield/model/CursorId$Direction"), (.array (.object "com/example/lynnfield/lynnfield/model/CursorId$Direction"))]
  resolved := Array.replicate 52 none
  statics := some 2 }

def pool15 : Array CpInfo := pool [(1, .class_ 2), (0, u "com/example/lynnfield/lynnfield/model/CursorId$Scope"), (2, u "GLOBAL"), (0, u "Lcom/example/lynnfield/lynnfield/model/CursorId$Scope;"), (2, u "EXPR"), (2, u "CUSTOM"), (2, u "$VALUES"), (0, u "[Lcom/example/lynnfield/lynnfield/model/CursorId$Scope;"), (6, .class_ 25), (1, u "java/lang/Enum"), (26, .class_ 53), (0, u "com/example/lynnfield/lynnfield/model/CursorId")] 2

/-- com/example/lynnfield/lynnfield/model/CursorId$Scope -/
def k15 : Class := { plain "com/example/lynnfield/lynnfield/model/CursorId$Scope" (some 5) with
  accessFlags := 16433
  interfaces := #[]
  cf := some (fileOf pool15 1 #[.nestHost 52] #[] 16433 23 #[] #[{ accessFlags := 16409, nameIndex := 5, descriptorIndex := 6, attributes := #[] }, { accessFlags := 16409, nameIndex := 9, descriptorIndex := 6, attributes := #[] }, { accessFlags := 16409, nameIndex := 12, descriptorIndex := 6, attributes := #[] }, { accessFlags := 4122, nameIndex := 15, descriptorIndex := 16, attributes := #[] }])
  fields := #[{ name := "GLOBAL", type := (.object "com/example/lynnfield/lynnfield/model/CursorId$Scope"), accessFlags := 16409, slot := 0, constantValue := 0 }, { name := "EXPR", type := (.object "com/example/lynnfield/lynnfield/model/CursorId$Scope"), accessFlags := 16409, slot := 1, constantValue := 0 }, { name := "CUSTOM", type := (.object "com/example/lynnfield/lynnfield/model/CursorId$Scope"), accessFlags := 16409, slot := 2, constantValue := 0 }, { name := "$VALUES", type := (.array (.object "com/example/lynnfield/lynnfield/model/CursorId$Scope")), accessFlags := 4122, slot := 3, constantValue := 0 }]
  methods := #[]
  instanceTypes := #[(.object "java/lang/String"), .int, .int]
  staticTypes := #[(.object "com/example/lynnfield/lynnfield/model/CursorId$Scope"), (.object "com/example/lynnfield/lynnfield/model/CursorId$Scope"), (.object "com/example/lynnfield/lynnfield/model/CursorId$Scope"), (.array (.object "com/example/lynnfield/lynnfield/model/CursorId$Scope"))]
  resolved := Array.replicate 56 none
  statics := some 3 }

def pool16 : Array CpInfo := pool [(2, .class_ 4), (1, u "java/lang/Object"), (0, u "<init>"), (0, u "()V"), (17, .class_ 26), (1, u "jdk/internal/util/Preconditions"), (28, .class_ 56), (0, u "jdk/internal/util/Preconditions$4"), (57, .class_ 115), (0, u "jdk/internal/util/Preconditions$1"), (7, u "SIOOBE_FORMATTER"), (0, u "Ljava/util/function/BiFunction;"), (0, .class_ 126), (0, u "jdk/internal/util/Preconditions$2"), (3, u "AIOOBE_FORMATTER"), (0, .class_ 132), (0, u "jdk/internal/util/Preconditions$3"), (3, u "IOOBE_FORMATTER")] 57

def k16m0 : Method := { name := "<init>", desc := "()V", sig := { parameters := [], returnType := none }, accessFlags := 1, code := none }
/-- jdk/internal/util/Preconditions -/
def k16 : Class := { plain "jdk/internal/util/Preconditions" (some 0) with
  accessFlags := 33
  interfaces := #[]
  cf := some (fileOf pool16 24 #[.nestMembers #[55, 131, 125, 114]] #[{ accessFlags := 1, nameIndex := 5, descriptorIndex := 6, attributes := #[] }] 33 2 #[] #[{ accessFlags := 25, nameIndex := 123, descriptorIndex := 124, attributes := #[] }, { accessFlags := 25, nameIndex := 130, descriptorIndex := 124, attributes := #[] }, { accessFlags := 25, nameIndex := 136, descriptorIndex := 124, attributes := #[] }])
  fields := #[{ name := "SIOOBE_FORMATTER", type := (.object "java/util/function/BiFunction"), accessFlags := 25, slot := 0, constantValue := 0 }, { name := "AIOOBE_FORMATTER", type := (.object "java/util/function/BiFunction"), accessFlags := 25, slot := 1, constantValue := 0 }, { name := "IOOBE_FORMATTER", type := (.object "java/util/function/BiFunction"), accessFlags := 25, slot := 2, constantValue := 0 }]
  methods := #[k16m0]
  instanceTypes := #[]
  staticTypes := #[(.object "java/util/function/BiFunction"), (.object "java/util/function/BiFunction"), (.object "java/util/function/BiFunction")]
  resolved := Array.replicate 194 none
  statics := some 4 }

def pool17 : Array CpInfo := pool [(9, u "<init>"), (6, .class_ 18), (1, u "java/lang/Object"), (0, u "()V"), (1, .class_ 23), (1, u "jdk/internal/util/ArraysSupport"), (0, u "LOG2_ARRAY_LONG_INDEX_SCALE"), (0, u "I"), (2, u "U"), (0, u "Ljdk/internal/misc/Unsafe;"), (8, u "BIG_ENDIAN"), (0, u "Z"), (8, u "LOG2_BYTE_BIT_SIZE"), (4, u "LOG2_ARRAY_INT_INDEX_SCALE"), (54, u "JLA"), (0, u "Ljdk/internal/access/JavaLangAccess;"), (11, u "LOG2_ARRAY_BOOLEAN_INDEX_SCALE"), (9, u "LOG2_ARRAY_BYTE_INDEX_SCALE"), (5, u "LOG2_ARRAY_CHAR_INDEX_SCALE"), (5, u "LOG2_ARRAY_SHORT_INDEX_SCALE"), (18, u "LOG2_ARRAY_FLOAT_INDEX_SCALE"), (24, u "LOG2_ARRAY_DOUBLE_INDEX_SCALE"), (89, u "T_BOOLEAN"), (2, u "T_CHAR"), (1, u "T_FLOAT"), (1, u "T_DOUBLE"), (1, u "T_BYTE"), (1, u "T_SHORT"), (1, u "T_INT"), (1, u "T_LONG"), (1, u "SOFT_MAX_ARRAY_LENGTH")] 83

def k17m0 : Method := { name := "<init>", desc := "()V", sig := { parameters := [], returnType := none }, accessFlags := 2, code := none }
/-- jdk/internal/util/ArraysSupport -/
def k17 : Class := { plain "jdk/internal/util/ArraysSupport" (some 0) with
  accessFlags := 33
  interfaces := #[]
  cf := some (fileOf pool17 21 #[] #[{ accessFlags := 2, nameIndex := 9, descriptorIndex := 19, attributes := #[] }] 33 16 #[] #[{ accessFlags := 24, nameIndex := 28, descriptorIndex := 29, attributes := #[] }, { accessFlags := 26, nameIndex := 38, descriptorIndex := 39, attributes := #[] }, { accessFlags := 25, nameIndex := 121, descriptorIndex := 25, attributes := #[] }, { accessFlags := 25, nameIndex := 131, descriptorIndex := 25, attributes := #[] }, { accessFlags := 25, nameIndex := 137, descriptorIndex := 25, attributes := #[] }, { accessFlags := 25, nameIndex := 143, descriptorIndex := 25, attributes := #[] }, { accessFlags := 25, nameIndex := 53, descriptorIndex := 25, attributes := #[] }, { accessFlags := 25, nameIndex := 24, descriptorIndex := 25, attributes := #[] }, { accessFlags := 25, nameIndex := 162, descriptorIndex := 25, attributes := #[] }, { accessFlags := 25, nameIndex := 187, descriptorIndex := 25, attributes := #[] }, { accessFlags := 26, nameIndex := 48, descriptorIndex := 25, attributes := #[] }, { accessFlags := 25, nameIndex := 277, descriptorIndex := 25, attributes := #[] }, { accessFlags := 25, nameIndex := 280, descriptorIndex := 25, attributes := #[] }, { accessFlags := 25, nameIndex := 282, descriptorIndex := 25, attributes := #[] }, { accessFlags := 25, nameIndex := 284, descriptorIndex := 25, attributes := #[] }, { accessFlags := 25, nameIndex := 286, descriptorIndex := 25, attributes := #[] }, { accessFlags := 25, nameIndex := 288, descriptorIndex := 25, attributes := #[] }, { accessFlags := 25, nameIndex := 290, descriptorIndex := 25, attributes := #[] }, { accessFlags := 25, nameIndex := 292, descriptorIndex := 25, attributes := #[] }, { accessFlags := 26, nameIndex := 108, descriptorIndex := 109, attributes := #[] }, { accessFlags := 25, nameIndex := 294, descriptorIndex := 25, attributes := #[] }])
  fields := #[{ name := "U", type := (.object "jdk/internal/misc/Unsafe"), accessFlags := 24, slot := 0, constantValue := 0 }, { name := "BIG_ENDIAN", type := .boolean, accessFlags := 26, slot := 1, constantValue := 0 }, { name := "LOG2_ARRAY_BOOLEAN_INDEX_SCALE", type := .int, accessFlags := 25, slot := 2, constantValue := 0 }, { name := "LOG2_ARRAY_BYTE_INDEX_SCALE", type := .int, accessFlags := 25, slot := 3, constantValue := 0 }, { name := "LOG2_ARRAY_CHAR_INDEX_SCALE", type := .int, accessFlags := 25, slot := 4, constantValue := 0 }, { name := "LOG2_ARRAY_SHORT_INDEX_SCALE", type := .int, accessFlags := 25, slot := 5, constantValue := 0 }, { name := "LOG2_ARRAY_INT_INDEX_SCALE", type := .int, accessFlags := 25, slot := 6, constantValue := 0 }, { name := "LOG2_ARRAY_LONG_INDEX_SCALE", type := .int, accessFlags := 25, slot := 7, constantValue := 0 }, { name := "LOG2_ARRAY_FLOAT_INDEX_SCALE", type := .int, accessFlags := 25, slot := 8, constantValue := 0 }, { name := "LOG2_ARRAY_DOUBLE_INDEX_SCALE", type := .int, accessFlags := 25, slot := 9, constantValue := 0 }, { name := "LOG2_BYTE_BIT_SIZE", type := .int, accessFlags := 26, slot := 10, constantValue := 0 }, { name := "T_BOOLEAN", type := .int, accessFlags := 25, slot := 11, constantValue := 0 }, { name := "T_CHAR", type := .int, accessFlags := 25, slot := 12, constantValue := 0 }, { name := "T_FLOAT", type := .int, accessFlags := 25, slot := 13, constantValue := 0 }, { name := "T_DOUBLE", type := .int, accessFlags := 25, slot := 14, constantValue := 0 }, { name := "T_BYTE", type := .int, accessFlags := 25, slot := 15, constantValue := 0 }, { name := "T_SHORT", type := .int, accessFlags := 25, slot := 16, constantValue := 0 }, { name := "T_INT", type := .int, accessFlags := 25, slot := 17, constantValue := 0 }, { name := "T_LONG", type := .int, accessFlags := 25, slot := 18, constantValue := 0 }, { name := "JLA", type := (.object "jdk/internal/access/JavaLangAccess"), accessFlags := 26, slot := 19, constantValue := 0 }, { name := "SOFT_MAX_ARRAY_LENGTH", type := .int, accessFlags := 25, slot := 20, constantValue := 0 }]
  methods := #[k17m0]
  instanceTypes := #[]
  staticTypes := #[(.object "jdk/internal/misc/Unsafe"), .boolean, .int, .int, .int, .int, .int, .int, .int, .int, .int, .int, .int, .int, .int, .int, .int, .int, .int, (.object "jdk/internal/access/JavaLangAccess"), .int]
  resolved := Array.replicate 378 none
  statics := none }

def pool18 : Array CpInfo := pool [(1, u "java/lang/Cloneable"), (0, .class_ 1), (0, u "java/lang/Object"), (0, .class_ 3)] 3

/-- java/lang/Cloneable -/
def k18 : Class := { plain "java/lang/Cloneable" (some 0) with
  accessFlags := 1537
  interfaces := #[]
  cf := some (fileOf pool18 2 #[] #[] 1537 4 #[] #[])
  fields := #[]
  methods := #[]
  instanceTypes := #[]
  staticTypes := #[]
  resolved := Array.replicate 8 none
  statics := none }

/-- the primitive byte -/
def k19 : Class := { plain "byte" none with kind := .primitive 'B', accessFlags := 0x411 }
/-- [B -/
def k20 : Class := { plain "[B" (some 0) with kind := .array 19 .byte, interfaces := #[18, 4], accessFlags := 1041 }

/-- the primitive char -/
def k21 : Class := { plain "char" none with kind := .primitive 'C', accessFlags := 0x411 }
/-- [C -/
def k22 : Class := { plain "[C" (some 0) with kind := .array 21 .char, interfaces := #[18, 4], accessFlags := 1041 }

/-- the primitive int -/
def k23 : Class := { plain "int" none with kind := .primitive 'I', accessFlags := 0x411 }
/-- [I -/
def k24 : Class := { plain "[I" (some 0) with kind := .array 23 .int, interfaces := #[18, 4], accessFlags := 1041 }

def heap : Heap := #[{ cls := 6, slots := #[.ref 5, .ref 6, .ref 8, .null], vm := .statics 6 },
  { cls := 9, slots := #[.long 0, .int 1, .null, .int 0, .null, .int 0, .int 0], vm := .statics 9 },
  { cls := 14, slots := #[.ref 7, .ref 11, .null], vm := .statics 14 },
  { cls := 15, slots := #[.ref 10, .ref 12, .ref 9, .null], vm := .statics 15 },
  { cls := 16, slots := #[.null, .null, .null], vm := .statics 16 },
  { cls := 6, slots := #[.null, .int 0, .int 0], vm := .none },
  { cls := 6, slots := #[.null, .int 1, .int 0], vm := .none },
  { cls := 14, slots := #[.null, .int 0, .int 0], vm := .none },
  { cls := 6, slots := #[.null, .int 2, .int 0], vm := .none },
  { cls := 15, slots := #[.null, .int 0, .int 0], vm := .none },
  { cls := 15, slots := #[.null, .int 0, .int 0], vm := .none },
  { cls := 14, slots := #[.null, .int 0, .int 0], vm := .none },
  { cls := 15, slots := #[.null, .int 0, .int 0], vm := .none }]
def classes : Array Class := #[k0, k1, k2, k3, k4, k5, k6, k7, k8, k9, k10, k11, k12, k13, k14, k15, k16, k17, k18, k19, k20, k21, k22, k23, k24]
def interned : List (Array UInt16 × Addr) := []
def slotsUsed : Nat := 45
def theMethod : MethodId := ⟨1, 1⟩
def args0 : Array Value := #[.int 1, .int 5, .int 65, .int 66]
def aboutOver (below : List Frame) : State where
  vm := { classes := classes, interned := interned.toArray }
  heap := heap
  slotsUsed := slotsUsed
  threads := #[{ frames := .invoking theMethod args0 :: below }]
def below0 : List Frame := [.native { method := ⟨0, 0⟩, args := #[] }]
def about1 : State := aboutOver below0
def p0 : Program := .bare "" "" ""
def e0 : Env := launch0.env 0 0 0
theorem w_frames : about1.frames = Frame.invoking theMethod args0 :: below0 := rfl
set_option maxRecDepth 65536 in
theorem w_args : argsFit about1.vm theMethod args0 = true := by decide +kernel
set_option maxRecDepth 65536 in
theorem w_heap : heapFits about1 = true := by decide +kernel
set_option maxRecDepth 65536 in
theorem w_runnable : about1.curStatus? = some .runnable := by decide +kernel
set_option maxRecDepth 65536 in
theorem w_alone : about1.alone = true := by decide +kernel
set_option maxRecDepth 65536 in
theorem w_named : about1.methodNamed? x = some theMethod := by decide +kernel
set_option maxRecDepth 65536 in
theorem w_hears : about1.hears theMethod below0 = true := by decide +kernel
set_option maxRecDepth 65536 in
theorem w_ripe : about1.ripe theMethod args0 below0 = true := by decide +kernel
theorem w_running : about1.status = .running := rfl
set_option maxRecDepth 65536 in
theorem w_room : about1.hasRoom e0.platform room_1 = true :=
  launch0.hasRoom_least _ room_1 (by decide +kernel) (by decide +kernel) (by decide +kernel) (by decide +kernel) (by decide +kernel) (by decide +kernel)
theorem allAtoms_all (ts : List Jvm.Cond) (a : Array Jvm.Value) (st : Jvm.State) : (allAtoms ts).before a st = ts.all (fun c => c.before a st) := by
  induction ts with
  | nil => rfl
  | cons c t ih =>
    show (Jvm.Cond.and c (allAtoms t)).before a st = _
    rw [Jvm.Cond.before_and, ih, List.all_cons]
def words1 : List Jvm.Cond := Jvm.Cond.code x code maxLocals ret :: tables_1
/-- a 'code' word, met by the world's own term for the bytes: nothing is compared byte by byte -/
theorem code_word {y : MethodName} {bytes : ByteArray} {mx : Nat} {rt : Option FieldType} {a : Array Value} {s : State} {m : MethodId} {meth : Method} {c : Code} (h1 : s.methodNamed? y = some m) (h2 : s.vm.method? m = some meth) (h3 : meth.code = some c) (h4 : c.code = bytes)
    (h5 : (c.maxLocals == mx && c.exceptionTable.isEmpty && decide (c.maxStack ≤ mostOperands) && decide (meth.sig.returnType = rt) && !meth.locks && decide (parseMethodDescriptor y.desc = some meth.sig)) = true) : (Jvm.Cond.code y bytes mx rt).before a s = true := by
  simp only [Bool.and_eq_true, beq_iff_eq, Bool.not_eq_true', decide_eq_true_eq] at h5
  obtain ⟨⟨⟨⟨⟨g1, g2⟩, g3⟩, g4⟩, g5⟩, g6⟩ := h5
  simp [Cond.before, Cond.holds, Cond.value, h1, h2, h3, h4, g1, g2, g3, g4, g5, g6]
def isCode : Jvm.Cond → Bool
  | .code _ _ _ _ => true
  | _ => false
theorem all_split {L : List Jvm.Cond} {P : Jvm.Cond → Bool} (h1 : L.all (fun c => isCode c || P c) = true) (h2 : ∀ c ∈ L.filter isCode, P c = true) : L.all P = true := by
  refine List.all_eq_true.mpr fun c hc => ?_
  have h := List.all_eq_true.mp h1 c hc
  rcases Bool.eq_false_or_eq_true (isCode c) with hi | hi
  · exact h2 c (List.mem_filter.mpr ⟨hc, hi⟩)
  · simpa [hi] using h
set_option maxRecDepth 65536 in
theorem w_c0 : (Jvm.Cond.code x code maxLocals ret).before args0 about1 = true := code_word (m := ⟨1, 1⟩) (meth := k1m1) (c := k1c1) (by decide +kernel) rfl rfl rfl (by decide +kernel)
set_option maxRecDepth 65536 in
theorem w_c1 : (Jvm.Cond.code ({ cls := "java/lang/String", name := "<init>", desc := "([C)V" } : Jvm.MethodName) jdk_42_method_3_code (2 : Nat) (Option.none : Option Jvm.ClassFile.FieldType)).before args0 about1 = true := code_word (m := ⟨9, 1⟩) (meth := k9m1) (c := k9c1) (by decide +kernel) rfl rfl rfl (by decide +kernel)
set_option maxRecDepth 65536 in
theorem w_c2 : (Jvm.Cond.code ({ cls := "java/lang/String", name := "<init>", desc := "([CIILjava/lang/Void;)V" } : Jvm.MethodName) jdk_42_method_149_code (6 : Nat) (Option.none : Option Jvm.ClassFile.FieldType)).before args0 about1 = true := code_word (m := ⟨9, 3⟩) (meth := k9m3) (c := k9c3) (by decide +kernel) rfl rfl rfl (by decide +kernel)
set_option maxRecDepth 65536 in
theorem w_c3 : (Jvm.Cond.code ({ cls := "java/lang/Object", name := "<init>", desc := "()V" } : Jvm.MethodName) object_method_1_code (1 : Nat) (Option.none : Option Jvm.ClassFile.FieldType)).before args0 about1 = true := code_word (m := ⟨0, 0⟩) (meth := k0m0) (c := k0c0) (by decide +kernel) rfl rfl rfl (by decide +kernel)
set_option maxRecDepth 65536 in
theorem w_c4 : (Jvm.Cond.code ({ cls := "java/lang/StringUTF16", name := "compress", desc := "([CII)[B" } : Jvm.MethodName) jdk_52_method_16_code (6 : Nat) (Option.some (Jvm.ClassFile.FieldType.array Jvm.ClassFile.FieldType.byte))).before args0 about1 = true := code_word (m := ⟨10, 2⟩) (meth := k10m2) (c := k10c2) (by decide +kernel) rfl rfl rfl (by decide +kernel)
set_option maxRecDepth 65536 in
theorem w_c5 : (Jvm.Cond.code ({ cls := "java/lang/StringUTF16", name := "compress", desc := "([CI[BII)I" } : Jvm.MethodName) jdk_52_method_21_code (7 : Nat) (Option.some Jvm.ClassFile.FieldType.int)).before args0 about1 = true := code_word (m := ⟨10, 3⟩) (meth := k10m3) (c := k10c3) (by decide +kernel) rfl rfl rfl (by decide +kernel)
set_option maxRecDepth 65536 in
theorem w_c6 : (Jvm.Cond.code ({ cls := "java/lang/StringUTF16", name := "coderFromArrayLen", desc := "([BI)B" } : Jvm.MethodName) jdk_52_method_15_code (2 : Nat) (Option.some Jvm.ClassFile.FieldType.byte)).before args0 about1 = true := code_word (m := ⟨10, 1⟩) (meth := k10m1) (c := k10c1) (by decide +kernel) rfl rfl rfl (by decide +kernel)
set_option maxRecDepth 65536 in
theorem w_c7 : (Jvm.Cond.code ({ cls := "java/lang/String", name := "valueOf", desc := "(C)Ljava/lang/String;" } : Jvm.MethodName) jdk_42_method_139_code (1 : Nat) (Option.some (Jvm.ClassFile.FieldType.object "java/lang/String"))).before args0 about1 = true := code_word (m := ⟨9, 2⟩) (meth := k9m2) (c := k9c2) (by decide +kernel) rfl rfl rfl (by decide +kernel)
set_option maxRecDepth 65536 in
theorem w_c8 : (Jvm.Cond.code ({ cls := "java/lang/StringLatin1", name := "canEncode", desc := "(C)Z" } : Jvm.MethodName) jdk_43_method_3_code (1 : Nat) (Option.some Jvm.ClassFile.FieldType.boolean)).before args0 about1 = true := code_word (m := ⟨11, 1⟩) (meth := k11m1) (c := k11c1) (by decide +kernel) rfl rfl rfl (by decide +kernel)
set_option maxRecDepth 65536 in
theorem w_c9 : (Jvm.Cond.code ({ cls := "java/lang/StringLatin1", name := "toBytes", desc := "(C)[B" } : Jvm.MethodName) jdk_43_method_46_code (1 : Nat) (Option.some (Jvm.ClassFile.FieldType.array Jvm.ClassFile.FieldType.byte))).before args0 about1 = true := code_word (m := ⟨11, 2⟩) (meth := k11m2) (c := k11c2) (by decide +kernel) rfl rfl rfl (by decide +kernel)
set_option maxRecDepth 65536 in
theorem w_c10 : (Jvm.Cond.code ({ cls := "java/lang/String", name := "<init>", desc := "([BB)V" } : Jvm.MethodName) jdk_42_method_151_code (3 : Nat) (Option.none : Option Jvm.ClassFile.FieldType)).before args0 about1 = true := code_word (m := ⟨9, 4⟩) (meth := k9m4) (c := k9c4) (by decide +kernel) rfl rfl rfl (by decide +kernel)
set_option maxRecDepth 65536 in
theorem w_c11 : (Jvm.Cond.code ({ cls := "com/example/lynnfield/lynnfield/model/CursorId", name := "<init>", desc := "(Ljava/lang/String;Lcom/example/lynnfield/lynnfield/model/Operation;Ljava/lang/String;Lcom/example/lynnfield/lynnfield/model/CursorId$Scope;Ljava/lang/String;Ljava/lang/String;)V" } : Jvm.MethodName) prog_5_method_1_code (7 : Nat) (Option.none : Option Jvm.ClassFile.FieldType)).before args0 about1 = true := code_word (m := ⟨13, 0⟩) (meth := k13m0) (c := k13c0) (by decide +kernel) rfl rfl rfl (by decide +kernel)
set_option maxRecDepth 65536 in
theorem w_c12 : (Jvm.Cond.code ({ cls := "java/lang/Record", name := "<init>", desc := "()V" } : Jvm.MethodName) jdk_30_method_1_code (1 : Nat) (Option.none : Option Jvm.ClassFile.FieldType)).before args0 about1 = true := code_word (m := ⟨12, 0⟩) (meth := k12m0) (c := k12c0) (by decide +kernel) rfl rfl rfl (by decide +kernel)
set_option maxRecDepth 65536 in
theorem w_c13 : (Jvm.Cond.code ({ cls := "com/example/lynnfield/lynnfield/model/CursorId", name := "direction", desc := "()Lcom/example/lynnfield/lynnfield/model/CursorId$Direction;" } : Jvm.MethodName) prog_5_method_4_code (1 : Nat) (Option.some (Jvm.ClassFile.FieldType.object "com/example/lynnfield/lynnfield/model/CursorId$Direction"))).before args0 about1 = true := code_word (m := ⟨13, 1⟩) (meth := k13m1) (c := k13c1) (by decide +kernel) rfl rfl rfl (by decide +kernel)
def codes1 : List Jvm.Cond := [Jvm.Cond.code x code maxLocals ret, Jvm.Cond.code ({ cls := "java/lang/String", name := "<init>", desc := "([C)V" } : Jvm.MethodName) jdk_42_method_3_code (2 : Nat) (Option.none : Option Jvm.ClassFile.FieldType), Jvm.Cond.code ({ cls := "java/lang/String", name := "<init>", desc := "([CIILjava/lang/Void;)V" } : Jvm.MethodName) jdk_42_method_149_code (6 : Nat) (Option.none : Option Jvm.ClassFile.FieldType), Jvm.Cond.code ({ cls := "java/lang/Object", name := "<init>", desc := "()V" } : Jvm.MethodName) object_method_1_code (1 : Nat) (Option.none : Option Jvm.ClassFile.FieldType), Jvm.Cond.code ({ cls := "java/lang/StringUTF16", name := "compress", desc := "([CII)[B" } : Jvm.MethodName) jdk_52_method_16_code (6 : Nat) (Option.some (Jvm.ClassFile.FieldType.array Jvm.ClassFile.FieldType.byte)), Jvm.Cond.code ({ cls := "java/lang/StringUTF16", name := "compress", desc := "([CI[BII)I" } : Jvm.MethodName) jdk_52_method_21_code (7 : Nat) (Option.some Jvm.ClassFile.FieldType.int), Jvm.Cond.code ({ cls := "java/lang/StringUTF16", name := "coderFromArrayLen", desc := "([BI)B" } : Jvm.MethodName) jdk_52_method_15_code (2 : Nat) (Option.some Jvm.ClassFile.FieldType.byte), Jvm.Cond.code ({ cls := "java/lang/String", name := "valueOf", desc := "(C)Ljava/lang/String;" } : Jvm.MethodName) jdk_42_method_139_code (1 : Nat) (Option.some (Jvm.ClassFile.FieldType.object "java/lang/String")), Jvm.Cond.code ({ cls := "java/lang/StringLatin1", name := "canEncode", desc := "(C)Z" } : Jvm.MethodName) jdk_43_method_3_code (1 : Nat) (Option.some Jvm.ClassFile.FieldType.boolean), Jvm.Cond.code ({ cls := "java/lang/StringLatin1", name := "toBytes", desc := "(C)[B" } : Jvm.MethodName) jdk_43_method_46_code (1 : Nat) (Option.some (Jvm.ClassFile.FieldType.array Jvm.ClassFile.FieldType.byte)), Jvm.Cond.code ({ cls := "java/lang/String", name := "<init>", desc := "([BB)V" } : Jvm.MethodName) jdk_42_method_151_code (3 : Nat) (Option.none : Option Jvm.ClassFile.FieldType), Jvm.Cond.code ({ cls := "com/example/lynnfield/lynnfield/model/CursorId", name := "<init>", desc := "(Ljava/lang/String;Lcom/example/lynnfield/lynnfield/model/Operation;Ljava/lang/String;Lcom/example/lynnfield/lynnfield/model/CursorId$Scope;Ljava/lang/String;Ljava/lang/String;)V" } : Jvm.MethodName) prog_5_method_1_code (7 : Nat) (Option.none : Option Jvm.ClassFile.FieldType), Jvm.Cond.code ({ cls := "java/lang/Record", name := "<init>", desc := "()V" } : Jvm.MethodName) jdk_30_method_1_code (1 : Nat) (Option.none : Option Jvm.ClassFile.FieldType), Jvm.Cond.code ({ cls := "com/example/lynnfield/lynnfield/model/CursorId", name := "direction", desc := "()Lcom/example/lynnfield/lynnfield/model/CursorId$Direction;" } : Jvm.MethodName) prog_5_method_4_code (1 : Nat) (Option.some (Jvm.ClassFile.FieldType.object "com/example/lynnfield/lynnfield/model/CursorId$Direction"))]
set_option maxRecDepth 65536 in
theorem codes_eq : words1.filter isCode = codes1 := rfl
theorem w_codes : ∀ c ∈ words1.filter isCode, c.before args0 about1 = true := by
  rw [codes_eq]
  intro c hc
  simp only [codes1, List.mem_cons, List.not_mem_nil, or_false] at hc
  rcases hc with rfl | rfl | rfl | rfl | rfl | rfl | rfl | rfl | rfl | rfl | rfl | rfl | rfl | rfl
  · exact w_c0
  · exact w_c1
  · exact w_c2
  · exact w_c3
  · exact w_c4
  · exact w_c5
  · exact w_c6
  · exact w_c7
  · exact w_c8
  · exact w_c9
  · exact w_c10
  · exact w_c11
  · exact w_c12
  · exact w_c13
set_option maxRecDepth 65536 in
theorem w_t1 : (words1.take 24).all (fun c => isCode c || c.before args0 about1) = true := by decide +kernel
set_option maxRecDepth 65536 in
theorem w_t2 : ((words1.drop 24).take 24).all (fun c => isCode c || c.before args0 about1) = true := by decide +kernel
set_option maxRecDepth 65536 in
theorem w_t3 : (((words1.drop 24).drop 24).take 24).all (fun c => isCode c || c.before args0 about1) = true := by decide +kernel
set_option maxRecDepth 65536 in
theorem w_t4 : (((words1.drop 24).drop 24).drop 24).all (fun c => isCode c || c.before args0 about1) = true := by decide +kernel
theorem w_tables : (allAtoms (Jvm.Cond.code x code maxLocals ret :: tables_1)).before args0 about1 = true := by
  rw [allAtoms_all]
  show words1.all (fun c => c.before args0 about1) = true
  refine all_split ?_ w_codes
  rw [← List.take_append_drop 24 words1, List.all_append, w_t1, ← List.take_append_drop 24 (words1.drop 24), List.all_append, w_t2, ← List.take_append_drop 24 ((words1.drop 24).drop 24), List.all_append, w_t3, w_t4]
  rfl
set_option maxRecDepth 65536 in
theorem w_rest : rest_1_c.before args0 about1 = true := by decide +kernel
set_option maxRecDepth 65536 in
theorem w_case : (Jvm.Cond.and given_1 narrow_1).before args0 about1 = true := by decide +kernel
theorem w_applies : (headSpec (Jvm.Cond.code x code maxLocals ret :: tables_1) room_1).applies x e0.platform about1 = true :=
  (Spec.applies_iff w_frames).mpr ⟨w_running, w_runnable, w_alone, w_named, w_hears, w_ripe, w_room, w_tables⟩
theorem atStart : AtStart classFile x code maxLocals ret World_1 tables_1 room_1 Calls_1 rest_1 Pre_1 launch0 p0 e0 about1 theMethod args0 below0 :=
  ⟨lists_1, trivial, launch0.admits_env _ _ _, launch0.least_env, fairChoices_fair.cas, fairChoices_fair.clock, w_frames, w_args, w_heap, w_applies, trivial, w_rest, w_case⟩
end start1
theorem witness_1 : WitnessClaimed_1 := ⟨start1.p0, start1.e0, start1.about1, start1.theMethod, start1.args0, start1.below0, start1.atStart⟩
end Jvm.Pilot.@@N@@
