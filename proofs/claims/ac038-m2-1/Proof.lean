import JvmDerived
import JvmDerived.Pilot.@@N@@Statement
import JvmDerived.Pilot.@@N@@Code
set_option linter.unusedVariables false
set_option linter.unusedSimpArgs false
namespace Jvm.OwnW
open Jvm Jvm.ClassFile Sem Op Lib Jvm.Free Jvm.Stand Jvm.LawKit Jvm.RoadKit Bundle
/-! A small calculus of weakest preconditions over the library's Stand: own text. WP says: from this place every run of this body ends well. -/
def Cx (p : Program) (meth : Method) (c : Code) (nm : String) (bytes : ByteArray) (maxL : Nat) (ret : Option FieldType) : Prop :=
  p.tables.exec = Jvm.exec ∧ c.code = bytes ∧ c.maxLocals = maxL ∧ meth.sig.returnType = ret ∧ meth.locks = false ∧ meth.name = nm
def Pl (l : Launch) (Z : State) (EL : List (String × Nat)) (nar : Bool) (own : String) (R : Room) (p : Program) (e : Env) (s : State) (m : MethodId) (args : Array Value) (below : List Frame) (meth : Method) (c : Code) (vm : Vm) (h : Heap) (T : State) (L : List Loc) (ce sl : Nat) : Prop :=
  Stand p l e R (s.setVm vm) m args below meth c T L ce sl ∧ (∃ k0, s.Since vm k0 ∧ k0 ≤ h.size) ∧ Z.Warmed39 vm ∧ vm.findClass own = some m.cls ∧ T.heap = h ∧ Fr Z.heap.size L ∧ Ext Z.heap h ∧ CHr Z EL s.vm s.heap vm h ∧ (nar = true → s.WarmedH vm) ∧ ∃ a0, EW Z a0 EL
def Fine (Z : State) (EL : List (String × Nat)) (nar : Bool) (R : Room) (Q : Option Value → Heap → Prop) (p : Program) (e : Env) (s : State) (below : List Frame) (S0 : State) : Prop :=
  ∃ t o, Steps p.tables e below S0 t ∧ t.status = .running ∧ Ended t below o ∧ ∃ v L, o = .returned v ∧ Q v t.heap ∧ Ext Z.heap t.heap ∧ Fr Z.heap.size L ∧ CHr Z EL s.vm s.heap t.vm t.heap ∧ (nar = true → s.WarmedH t.vm) ∧ ReturnedEndW s o t L R.cells R.slots
def WP (l : Launch) (Z : State) (EL : List (String × Nat)) (nar : Bool) (own nm : String) (bytes : ByteArray) (maxL : Nat) (ret : Option FieldType) (R : Room) (Q : Option Value → Heap → Prop) (vm : Vm) (h : Heap) (ce sl pc : Nat) (Ls : Array Slot) (st : List Value) : Prop :=
  ∀ p e s m args below meth c T L, Cx p meth c nm bytes maxL ret → Pl l Z EL nar own R p e s m args below meth c vm h T L ce sl → Fine Z EL nar R Q p e s below (T.setTop (mkF m pc Ls st))
def Con (l : Launch) (Z : State) (EL : List (String × Nat)) (nar : Bool) (sf : List Addr) (y : MethodName) (bytes : ByteArray) (maxL : Nat) (ret : Option FieldType) (rm : Room) (as' : Array Value) (h0 : Heap) (Q : Option Value → Heap → Prop) : Prop :=
  ∀ ws, MetFree l y (head1 (Cond.code y bytes maxL ret :: ws) rm) (fun a U => a = as' ∧ Z.Warmed39 U.vm ∧ U.heap = h0 ∧ Ext Z.heap h0 ∧ CHv Z EL U.vm h0 ∧ ∀ x ∈ sf, Safe Z EL U.vm h0 x) (fun _ _ _ _ _ => True)
    (fun _ U o U' => ∃ v L, o = .returned v ∧ Q v U'.heap ∧ Ext Z.heap U'.heap ∧ Fr Z.heap.size L ∧ CHr Z EL U.vm U.heap U'.vm U'.heap ∧ (nar = true → U.WarmedH U'.vm) ∧ ReturnedEndW U o U' L rm.cells rm.slots)
section Basic
variable {l : Launch} {Z : State} {EL : List (String × Nat)} {nar : Bool} {own nm : String} {bytes : ByteArray} {maxL : Nat} {ret : Option FieldType} {R : Room} {Q : Option Value → Heap → Prop} {vm : Vm} {h : Heap} {ce sl pc n : Nat} {Ls Ls' : Array Slot} {st st' : List Value} {a0 : Array Value}
theorem ext_refl (h : Heap) : Ext h h := ⟨Nat.le_refl _, fun _ _ q => q⟩
theorem ext_trans {h1 h2 h3 : Heap} (E : Ext h1 h2) (F : Ext h2 h3) : Ext h1 h3 := ⟨Nat.le_trans E.1 F.1, fun a c q => F.2 a c (E.2 a c q)⟩
theorem ext_keep {h1 h2 h3 : Heap} {ws : List Addr} (E : Ext h1 h2) (K : Keep h2 h3 ws) (q : ∀ x ∈ ws, h1.size ≤ x) : Ext h1 h3 :=
  ⟨Nat.le_trans E.1 K.1, fun a c r => K.2.1 a c (E.2 a c r) fun z => absurd (Array.getElem?_eq_some_iff.mp r).1 (Nat.not_lt.mpr (q a z))⟩
theorem ext_wr {h1 h2 h3 : Heap} {a : Addr} {i : Nat} {v : Value} (E : Ext h1 h2) (W : Wr h2 h3 a i v) (q : h1.size ≤ a) : Ext h1 h3 :=
  ext_keep E (Keep.of_wr W) fun x hx => by cases List.mem_singleton.mp hx; exact q
theorem ext_keep1 {h1 h2 h3 : Heap} {a : Addr} (E : Ext h1 h2) (K : Keep h2 h3 [a]) (q : h1.size ≤ a) : Ext h1 h3 := ext_keep E K fun x hx => by cases List.mem_singleton.mp hx; exact q
theorem ext_keep0 {h1 h2 : Heap} (K : Keep h1 h2 []) : Ext h1 h2 := ext_keep (ext_refl _) K fun x hx => nomatch hx
/-- what always holds where the walk stands -/
theorem WP.inv (k : Z.Warmed39 vm → Ext Z.heap h → CHv Z EL vm h → WP l Z EL nar own nm bytes maxL ret R Q vm h ce sl pc Ls st) : WP l Z EL nar own nm bytes maxL ret R Q vm h ce sl pc Ls st := by
  intro p e s m args below meth c T L cx pl
  exact k pl.2.2.1 pl.2.2.2.2.2.2.1 pl.2.2.2.2.2.2.2.1.1 p e s m args below meth c T L cx pl
/-- fewer cells and slots made are at most more -/
theorem WP.more {ce' sl' : Nat} (hc : ce ≤ ce') (hs : sl ≤ sl') (k : WP l Z EL nar own nm bytes maxL ret R Q vm h ce' sl' pc Ls st) : WP l Z EL nar own nm bytes maxL ret R Q vm h ce sl pc Ls st := by
  intro p e s m args below meth c T L cx pl
  exact k p e s m args below meth c T L cx ⟨pl.1.mono hc hs, pl.2⟩
theorem WP.post {Q' : Option Value → Heap → Prop} (hq : ∀ v h', Q' v h' → Q v h') (k : WP l Z EL nar own nm bytes maxL ret R Q' vm h ce sl pc Ls st) : WP l Z EL nar own nm bytes maxL ret R Q vm h ce sl pc Ls st := by
  intro p e s m args below meth c T L cx pl
  obtain ⟨t, o, h1, h2, h3, v, L', h4, h5, r⟩ := k p e s m args below meth c T L cx pl
  exact ⟨t, o, h1, h2, h3, v, L', h4, hq _ _ h5, r⟩
/-- a step that leaves the state as it is -/
theorem WP.step (hs : ∀ (p : Program) (e : Env) (below : List Frame) (T target : State) (m : MethodId) (c : Code), p.tables.exec = Jvm.exec → c.code = bytes → At T m c below → Steps p.tables e below (T.setTop (mkF m n Ls' st')) target → Steps p.tables e below (T.setTop (mkF m pc Ls st)) target)
    (k : WP l Z EL nar own nm bytes maxL ret R Q vm h ce sl n Ls' st') : WP l Z EL nar own nm bytes maxL ret R Q vm h ce sl pc Ls st := by
  intro p e s m args below meth c T L cx pl
  obtain ⟨t, o, h1, r⟩ := k p e s m args below meth c T L cx pl
  exact ⟨t, o, hs p e below T t m c cx.1 cx.2.1 pl.1.here h1, r⟩
/-- a step that leaves the heap as it is (the tables may warm) -/
theorem WP.look (hs : ∀ (p : Program) (e : Env) (s : State) (args : Array Value) (below : List Frame) (T : State) (m : MethodId) (meth : Method) (c : Code) (L : List Loc), p.tables.exec = Jvm.exec → c.code = bytes → Stand p l e R (s.setVm vm) m args below meth c T L ce sl → Z.Warmed39 (s.setVm vm).vm → (s.setVm vm).vm.findClass own = some m.cls → T.heap = h →
      ∃ T', Stand p l e R (s.setVm vm) m args below meth c T' L ce sl ∧ T'.heap = h ∧ ∀ target, Steps p.tables e below (T'.setTop (mkF m n Ls' st')) target → Steps p.tables e below (T.setTop (mkF m pc Ls st)) target)
    (k : WP l Z EL nar own nm bytes maxL ret R Q vm h ce sl n Ls' st') : WP l Z EL nar own nm bytes maxL ret R Q vm h ce sl pc Ls st := by
  intro p e s m args below meth c T L cx ⟨X, hS, hZ, hown, eT, N, hE, hC, hW, hEL⟩
  obtain ⟨T', X', e', stp⟩ := hs p e s args below T m meth c L cx.1 cx.2.1 X hZ hown eT
  obtain ⟨t, o, h1, r⟩ := k p e s m args below meth c T' L cx ⟨X', hS, hZ, hown, e', N, hE, hC, hW, hEL⟩
  exact ⟨t, o, stp _ h1, r⟩
/-- a step that makes a cell -/
theorem WP.make {ce' sl' : Nat} {P : Heap → Prop} (hs : ∀ (p : Program) (e : Env) (s : State) (args : Array Value) (below : List Frame) (T : State) (m : MethodId) (meth : Method) (c : Code) (L : List Loc), p.tables.exec = Jvm.exec → c.code = bytes → Stand p l e R (s.setVm vm) m args below meth c T L ce sl → Z.Warmed39 (s.setVm vm).vm → (s.setVm vm).vm.findClass own = some m.cls → T.heap = h →
      ∃ T' h', Stand p l e R (s.setVm vm) m args below meth c T' L ce' sl' ∧ T'.heap = h' ∧ Ext h h' ∧ P h' ∧ ∀ target, Steps p.tables e below (T'.setTop (mkF m n Ls' st')) target → Steps p.tables e below (T.setTop (mkF m pc Ls st)) target)
    (k : ∀ h', Ext h h' → P h' → CHr Z EL vm h vm h' → WP l Z EL nar own nm bytes maxL ret R Q vm h' ce' sl' n Ls' st') : WP l Z EL nar own nm bytes maxL ret R Q vm h ce sl pc Ls st := by
  intro p e s m args below meth c T L cx ⟨X, ⟨k0, hS, hk⟩, hZ, hown, eT, N, hE, hC, hW, hEL⟩
  obtain ⟨T', h', X', e', E', hP, stp⟩ := hs p e s args below T m meth c L cx.1 cx.2.1 X hZ hown eT
  have hR : CHr Z EL vm h vm h' := CHr.ext E' hC.1
  obtain ⟨t, o, h1, r⟩ := k h' E' hP hR p e s m args below meth c T' L cx ⟨X', ⟨k0, hS, Nat.le_trans hk E'.1⟩, hZ, hown, e', N, ext_trans hE E', hC.trans hR, hW, hEL⟩
  exact ⟨t, o, stp _ h1, r⟩
/-- a step that writes one place of a new cell -/
theorem WP.write {a : Addr} {i : Nat} {v : Value} (ha : Z.heap.size ≤ a) (hsafe : Z.Warmed39 vm → Safe Z EL vm h a)
    (hs : ∀ (p : Program) (e : Env) (s : State) (args : Array Value) (below : List Frame) (T : State) (m : MethodId) (meth : Method) (c : Code) (L : List Loc), p.tables.exec = Jvm.exec → c.code = bytes → meth.name = nm → Stand p l e R (s.setVm vm) m args below meth c T L ce sl → Z.Warmed39 (s.setVm vm).vm → (s.setVm vm).vm.findClass own = some m.cls → T.heap = h →
      ∃ T' h', Stand p l e R (s.setVm vm) m args below meth c T' (L ++ [⟨a, i⟩]) ce sl ∧ T'.heap = h' ∧ Wr h h' a i v ∧ ∀ target, Steps p.tables e below (T'.setTop (mkF m n Ls' st')) target → Steps p.tables e below (T.setTop (mkF m pc Ls st)) target)
    (k : ∀ h', Wr h h' a i v → CHr Z EL vm h vm h' → WP l Z EL nar own nm bytes maxL ret R Q vm h' ce sl n Ls' st') : WP l Z EL nar own nm bytes maxL ret R Q vm h ce sl pc Ls st := by
  intro p e s m args below meth c T L cx ⟨X, ⟨k0, hS, hk⟩, hZ, hown, eT, N, hE, hC, hW, hEL⟩
  obtain ⟨T', h', X', e', W', stp⟩ := hs p e s args below T m meth c L cx.1 cx.2.1 cx.2.2.2.2.2 X hZ hown eT
  have hR : CHr Z EL vm h vm h' := CHr.wr W' (hsafe hZ) hC.1
  obtain ⟨t, o, h1, r⟩ := k h' W' hR p e s m args below meth c T' _ cx ⟨X', ⟨k0, hS, by rw [W'.size]; exact hk⟩, hZ, hown, e', Fr.snoc X' N ha, ext_wr hE W' ha, hC.trans hR, hW, hEL⟩
  exact ⟨t, o, stp _ h1, r⟩
/-- the end -/
theorem WP.done {v : Option Value} (hc : ce ≤ R.cells) (hsl : sl ≤ R.slots) (hv : ret = none → v = none)
    (hs : ∀ (p : Program) (e : Env) (s : State) (args : Array Value) (below : List Frame) (T : State) (m : MethodId) (meth : Method) (c : Code) (L : List Loc) (fs : List Frame), p.tables.exec = Jvm.exec → c.code = bytes → meth.sig.returnType = ret → Stand p l e R (s.setVm vm) m args below meth c T L ce sl →
      (∀ (f : JFrame) (acts : List Action), f.method = m → f.locked = none → f.entered = [] → (doReturn e (T.setTop f) acts v).1 = T.setFrames fs) → Steps p.tables e below (T.setTop (mkF m pc Ls st)) (T.setFrames fs))
    (hq : Q v h) : WP l Z EL nar own nm bytes maxL ret R Q vm h ce sl pc Ls st := by
  intro p e s m args below meth c T L cx ⟨X, ⟨k0, hS, hk⟩, hZ, hown, eT, N, hE, hC, hW, a0, hEL⟩
  have hlk : meth.locks = false := cx.2.2.2.2.1
  obtain ⟨fs, hr, hrun, hend, hret⟩ := X.leaveW hS (by rw [eT]; exact hk) (v := v) (fun q => hv (cx.2.2.2.1 ▸ q))
  refine ⟨_, _, hs p e s args below T m meth c L fs cx.1 cx.2.1 cx.2.2.2.1 X hr, hrun, hend, v, L, rfl, ?_, ?_, N, ?_, fun q => ?_, ?_⟩
  · show Q v T.heap
    rw [eT]; exact hq
  · show Ext Z.heap T.heap
    rw [eT]; exact hE
  · show CHr Z EL s.vm s.heap T.vm T.heap
    rw [eT]; exact hC.trans (CHv.at X hZ hEL hC.1)
  · exact State.WarmedH.trans (t := s.setVm vm) (hW q) X.warmed
  · obtain ⟨r1, r2, r3, r4⟩ := hret
    exact ⟨r1, r2, r3, r4.mono hc hsl⟩
/-- a body's contract out of its walk -/
theorem Con.of {sf : List Addr} {y : MethodName} {as' : Array Value} (hpn : plainName y.cls = true) (hEL : EW Z a0 EL) (hef : ∀ m, entryFrame m as' maxL = mkF m 0 Ls [])
    (k : ∀ vm, Z.Warmed39 vm → Ext Z.heap h → CHv Z EL vm h → (∀ x ∈ sf, Safe Z EL vm h x) → WP l Z EL nar y.cls y.name bytes maxL ret R Q vm h 0 0 0 Ls []) : Con l Z EL nar sf y bytes maxL ret R as' h Q := by
  intro ws
  refine MetFree.of_bodySF (plainFor_of_name hpn) hisR ?_
  intro p e s m args below meth c s₁ Bd hml hP hK
  obtain ⟨rfl, hZ, hh, hE, hC, hS⟩ := hP
  have X0 : Stand p l e R s m args below meth c s₁ [] 0 0 := Stand.of_body Bd
  have e0 : s₁.heap = h := by rw [← hh, Bd.state]; rfl
  obtain ⟨t, o, h1, h2, h3, r⟩ := k s.vm hZ hE hC hS p e s m args below meth c s₁ [] ⟨Bd.exec, Bd.bytes, hml, Bd.returns, Bd.notSynchronized, (name_of_methodNamed Bd.named Bd.method).1⟩
    ⟨X0, ⟨s.heap.size, (State.WarmedH.refl s).since _, by rw [hh]; exact Nat.le_refl _⟩, hZ, findClass_of_methodNamed Bd.named, e0, Fr.nil _, hE, by rw [hh]; exact CHr.refl hC, fun _ => State.WarmedH.refl s, a0, hEL⟩
  exact ⟨t, o, castTop (hef m) h1, h2, h3, r⟩
theorem Con.post {sf : List Addr} {y : MethodName} {as' : Array Value} {Q' : Option Value → Heap → Prop} (C : Con l Z EL nar sf y bytes maxL ret R as' h Q') (hq : ∀ v h', Q' v h' → Q v h') : Con l Z EL nar sf y bytes maxL ret R as' h Q := by
  intro ws p e ha hc hk s m args below hf happ hP hK
  obtain ⟨n, o, h1, h2, h3, v, L, h4, h5, r⟩ := C ws p e ha hc hk s m args below hf happ hP hK
  exact ⟨n, o, h1, h2, h3, v, L, h4, hq _ _ h5, r⟩
theorem Con.back {sf : List Addr} {y : MethodName} {as' : Array Value} {a1 : Array Value} {p : Program} {e : Env} {below : List Frame} {s : State} {args : Array Value} {len Wd : Nat} {rm : Room} (C : Con l Z EL nar sf y bytes maxL ret rm as' h Q) (hEL : EW Z a1 EL) (hZ : Z.Warmed39 vm) (wc : (Cond.code y bytes maxL ret).before a0 Z = true) (wz : (Cond.initialized y.cls).before a0 Z = true)
    (hf : rm.frames + 1 ≤ R.frames) (hl : Wd + (maxL + 11) + rm.locals ≤ R.locals) (hE : Ext Z.heap h) (H : CHv Z EL vm h) (hsf : ∀ x ∈ sf, Safe Z EL vm h x ∧ x < h.size) :
    BackS l R p e below (s.setVm vm) args y len Wd (fun A a => a = as' ∧ A.U.heap = h ∧ A.cells + rm.cells ≤ R.cells ∧ A.slots + rm.slots ≤ R.slots)
      (fun A _ v B => ∃ L, Q v B.U.heap ∧ Ext Z.heap B.U.heap ∧ Fr Z.heap.size L ∧ B.locs = A.locs ++ L ∧ B.cells = A.cells + rm.cells ∧ B.slots = A.slots + rm.slots ∧ CHr Z EL vm h B.U.vm B.U.heap ∧ (nar = true → (s.setVm vm).WarmedH B.U.vm)) :=
  BackS.of_freeW (bytes := bytes) (maxL := maxL) (ret := ret) (E := fun _ first o t L k n => k = rm.cells ∧ n = rm.slots ∧ (∃ v, o = .returned v ∧ Q v t.heap ∧ Ext Z.heap t.heap ∧ Fr Z.heap.size L) ∧ CHr Z EL first.vm first.heap t.vm t.heap ∧ (nar = true → first.WarmedH t.vm)) (C []) hf hl
    (fun m meth c A a Y hp => have hU : Z.Warmed39 A.U.vm := wtrans (s := s.setVm vm) hZ Y.warmed
      ⟨by show (Cond.and _ .tt).before a A.U = true; rw [Cond.before_and, mv hU wc]; rfl, mv hU wc, mv hU wz, hp.2.2.1, hp.2.2.2⟩)
    (fun m meth c A a g mk Y hp => ⟨hp.1, wtrans (s := s.setVm vm) hZ Y.warmed, hp.2.1, hE, (CHv.at Y hZ hEL H).1, fun x hx => (CHv.at Y hZ hEL H).safe (hsf x hx).2 (hsf x hx).1⟩) (fun _ _ _ _ _ _ _ _ _ => trivial)
    (fun _ _ _ _ ⟨v, L, h1, h2, h3, h4, h5, h6, h7⟩ => ⟨L, _, _, h7, rfl, rfl, ⟨v, h1, h2, h3, h4⟩, h5, h6⟩)
    (fun m meth c A a g mk v t L k n Y hp _ _ ⟨e1, e2, ⟨v', e3, e4, e5, e6⟩, e7, e8⟩ => by
      cases e3; subst e1 e2
      refine ⟨L, e4, e5, e6, rfl, rfl, rfl, (CHv.at Y hZ hEL H).trans ?_, fun q => ?_⟩
      · rw [← hp.2.1]; exact e7
      · exact State.WarmedH.trans (t := A.U.calling g mk a) Y.warmed (e8 q))
end Basic
end Jvm.OwnW
namespace Jvm.OwnW
open Jvm Jvm.ClassFile Sem Op Lib Jvm.Free Jvm.Stand Jvm.LawKit Jvm.RoadKit Bundle
section Steps
variable {l : Launch} {Z : State} {EL : List (String × Nat)} {nar : Bool} {own nm : String} {bytes : ByteArray} {maxL : Nat} {ret : Option FieldType} {R : Room} {Q : Option Value → Heap → Prop} {vm : Vm} {h : Heap} {ce sl pc n n' : Nat} {Ls Ls' : Array Slot} {st rest : List Value} {a0 : Array Value}
theorem WP.iloadN {k' : Fin 4} {v : Int32} (hd : decode bytes pc = .ok (.iload_n k', 1)) (hl : Ls[k'.val]? = some (.val (.int v))) (hp : pc + 1 = n) (k : WP l Z EL nar own nm bytes maxL ret R Q vm h ce sl n Ls (.int v :: st)) : WP l Z EL nar own nm bytes maxL ret R Q vm h ce sl pc Ls (st) := by subst hp; exact WP.step (fun p e below T t m c hx hb ha q => XS.iloadN ha hx rfl (hb ▸ hd) hl q) k
theorem WP.iload {k' : Nat} {v : Int32} (hd : decode bytes pc = .ok (.iload k', 2)) (hl : Ls[k']? = some (.val (.int v))) (hp : pc + 2 = n) (k : WP l Z EL nar own nm bytes maxL ret R Q vm h ce sl n Ls (.int v :: st)) : WP l Z EL nar own nm bytes maxL ret R Q vm h ce sl pc Ls (st) := by subst hp; exact WP.step (fun p e below T t m c hx hb ha q => XS.iload ha hx rfl (hb ▸ hd) hl q) k
theorem WP.istoreN {k' : Fin 4} {v : Int32} (hd : decode bytes pc = .ok (.istore_n k', 1)) (hl : storeLocals Ls k'.val (.int v) = some Ls') (hp : pc + 1 = n) (k : WP l Z EL nar own nm bytes maxL ret R Q vm h ce sl n Ls' (rest)) : WP l Z EL nar own nm bytes maxL ret R Q vm h ce sl pc Ls (.int v :: rest) := by subst hp; exact WP.step (fun p e below T t m c hx hb ha q => XS.istoreN ha hx rfl (hb ▸ hd) rfl hl q) k
theorem WP.istore {k' : Nat} {v : Int32} (hd : decode bytes pc = .ok (.istore k', 2)) (hl : storeLocals Ls k' (.int v) = some Ls') (hp : pc + 2 = n) (k : WP l Z EL nar own nm bytes maxL ret R Q vm h ce sl n Ls' (rest)) : WP l Z EL nar own nm bytes maxL ret R Q vm h ce sl pc Ls (.int v :: rest) := by subst hp; exact WP.step (fun p e below T t m c hx hb ha q => XS.istore ha hx rfl (hb ▸ hd) rfl hl q) k
theorem WP.lloadN {k' : Fin 4} {v : Int64} (hd : decode bytes pc = .ok (.lload_n k', 1)) (hl : Ls[k'.val]? = some (.val (.long v))) (hp : pc + 1 = n) (k : WP l Z EL nar own nm bytes maxL ret R Q vm h ce sl n Ls (.long v :: st)) : WP l Z EL nar own nm bytes maxL ret R Q vm h ce sl pc Ls (st) := by subst hp; exact WP.step (fun p e below T t m c hx hb ha q => XT.lloadN ha hx rfl (hb ▸ hd) hl q) k
theorem WP.lload {k' : Nat} {v : Int64} (hd : decode bytes pc = .ok (.lload k', 2)) (hl : Ls[k']? = some (.val (.long v))) (hp : pc + 2 = n) (k : WP l Z EL nar own nm bytes maxL ret R Q vm h ce sl n Ls (.long v :: st)) : WP l Z EL nar own nm bytes maxL ret R Q vm h ce sl pc Ls (st) := by subst hp; exact WP.step (fun p e below T t m c hx hb ha q => XT.lload ha hx rfl (hb ▸ hd) hl q) k
theorem WP.lstoreN {k' : Fin 4} {v : Int64} (hd : decode bytes pc = .ok (.lstore_n k', 1)) (hl : storeLocals Ls k'.val (.long v) = some Ls') (hp : pc + 1 = n) (k : WP l Z EL nar own nm bytes maxL ret R Q vm h ce sl n Ls' (rest)) : WP l Z EL nar own nm bytes maxL ret R Q vm h ce sl pc Ls (.long v :: rest) := by subst hp; exact WP.step (fun p e below T t m c hx hb ha q => XT.lstoreN ha hx rfl (hb ▸ hd) rfl hl q) k
theorem WP.lstore {k' : Nat} {v : Int64} (hd : decode bytes pc = .ok (.lstore k', 2)) (hl : storeLocals Ls k' (.long v) = some Ls') (hp : pc + 2 = n) (k : WP l Z EL nar own nm bytes maxL ret R Q vm h ce sl n Ls' (rest)) : WP l Z EL nar own nm bytes maxL ret R Q vm h ce sl pc Ls (.long v :: rest) := by subst hp; exact WP.step (fun p e below T t m c hx hb ha q => XT.lstore ha hx rfl (hb ▸ hd) rfl hl q) k
theorem WP.aloadN {k' : Fin 4} {v : Value} (hd : decode bytes pc = .ok (.aload_n k', 1)) (hl : Ls[k'.val]? = some (.val v)) (hv : v.isRef = true) (hp : pc + 1 = n) (k : WP l Z EL nar own nm bytes maxL ret R Q vm h ce sl n Ls (v :: st)) : WP l Z EL nar own nm bytes maxL ret R Q vm h ce sl pc Ls (st) := by subst hp; exact WP.step (fun p e below T t m c hx hb ha q => XS.aloadN ha hx rfl (hb ▸ hd) hl hv q) k
theorem WP.aload {k' : Nat} {v : Value} (hd : decode bytes pc = .ok (.aload k', 2)) (hl : Ls[k']? = some (.val v)) (hv : v.isRef = true) (hp : pc + 2 = n) (k : WP l Z EL nar own nm bytes maxL ret R Q vm h ce sl n Ls (v :: st)) : WP l Z EL nar own nm bytes maxL ret R Q vm h ce sl pc Ls (st) := by subst hp; exact WP.step (fun p e below T t m c hx hb ha q => XS.aload ha hx rfl (hb ▸ hd) hl hv q) k
theorem WP.astoreN {k' : Fin 4} {v : Value} (hd : decode bytes pc = .ok (.astore_n k', 1)) (hv : v.isRef = true) (hl : storeLocals Ls k'.val v = some Ls') (hp : pc + 1 = n) (k : WP l Z EL nar own nm bytes maxL ret R Q vm h ce sl n Ls' (rest)) : WP l Z EL nar own nm bytes maxL ret R Q vm h ce sl pc Ls (v :: rest) := by subst hp; exact WP.step (fun p e below T t m c hx hb ha q => XS.astoreN ha hx rfl (hb ▸ hd) rfl hv hl q) k
theorem WP.astore {k' : Nat} {v : Value} (hd : decode bytes pc = .ok (.astore k', 2)) (hv : v.isRef = true) (hl : storeLocals Ls k' v = some Ls') (hp : pc + 2 = n) (k : WP l Z EL nar own nm bytes maxL ret R Q vm h ce sl n Ls' (rest)) : WP l Z EL nar own nm bytes maxL ret R Q vm h ce sl pc Ls (v :: rest) := by subst hp; exact WP.step (fun p e below T t m c hx hb ha q => XS.astore ha hx rfl (hb ▸ hd) rfl hv hl q) k
theorem WP.iconst {i : Int} {z : Int32} (hd : decode bytes pc = .ok (.iconst i, 1)) (hz : Int32.ofInt i = z) (hp : pc + 1 = n) (k : WP l Z EL nar own nm bytes maxL ret R Q vm h ce sl n Ls (.int z :: st)) : WP l Z EL nar own nm bytes maxL ret R Q vm h ce sl pc Ls st := by subst hp hz; exact WP.step (fun p e below T t m c hx hb ha q => XS.iconst ha hx rfl (hb ▸ hd) q) k
theorem WP.bipush {i : Int} {z : Int32} (hd : decode bytes pc = .ok (.bipush i, 2)) (hz : (Int8.ofInt i).toInt32 = z) (hp : pc + 2 = n) (k : WP l Z EL nar own nm bytes maxL ret R Q vm h ce sl n Ls (.int z :: st)) : WP l Z EL nar own nm bytes maxL ret R Q vm h ce sl pc Ls st := by subst hp hz; exact WP.step (fun p e below T t m c hx hb ha q => XS.bipush ha hx rfl (hb ▸ hd) q) k
theorem WP.sipush {i : Int} {z : Int32} (hd : decode bytes pc = .ok (.sipush i, 3)) (hz : (Int16.ofInt i).toInt32 = z) (hp : pc + 3 = n) (k : WP l Z EL nar own nm bytes maxL ret R Q vm h ce sl n Ls (.int z :: st)) : WP l Z EL nar own nm bytes maxL ret R Q vm h ce sl pc Ls st := by subst hp hz; exact WP.step (fun p e below T t m c hx hb ha q => XS.sipush ha hx rfl (hb ▸ hd) q) k
theorem WP.lconst {i : Fin 2} (hd : decode bytes pc = .ok (.lconst i, 1)) {z : Int64} (hz : Int64.ofNat i = z) (hp : pc + 1 = n) (k : WP l Z EL nar own nm bytes maxL ret R Q vm h ce sl n Ls (.long z :: st)) : WP l Z EL nar own nm bytes maxL ret R Q vm h ce sl pc Ls st := by subst hp hz; exact WP.step (fun p e below T t m c hx hb ha q => XT.lconst ha hx rfl (hb ▸ hd) q) k
theorem WP.aconstNull  (hd : decode bytes pc = .ok (.aconst_null, 1))  (hp : pc + 1 = n) (k : WP l Z EL nar own nm bytes maxL ret R Q vm h ce sl n Ls (.null :: st)) : WP l Z EL nar own nm bytes maxL ret R Q vm h ce sl pc Ls (st) := by subst hp; exact WP.step (fun p e below T t m c hx hb ha q => XS.aconstNull ha hx rfl (hb ▸ hd)  q) k
theorem WP.iadd {x y : Int32} (hd : decode bytes pc = .ok (.iadd, 1))  (hp : pc + 1 = n) (k : WP l Z EL nar own nm bytes maxL ret R Q vm h ce sl n Ls (.int (x + y) :: rest)) : WP l Z EL nar own nm bytes maxL ret R Q vm h ce sl pc Ls (.int y :: .int x :: rest) := by subst hp; exact WP.step (fun p e below T t m c hx hb ha q => XS.iadd ha hx rfl (hb ▸ hd) rfl q) k
theorem WP.isub {x y : Int32} (hd : decode bytes pc = .ok (.isub, 1))  (hp : pc + 1 = n) (k : WP l Z EL nar own nm bytes maxL ret R Q vm h ce sl n Ls (.int (x - y) :: rest)) : WP l Z EL nar own nm bytes maxL ret R Q vm h ce sl pc Ls (.int y :: .int x :: rest) := by subst hp; exact WP.step (fun p e below T t m c hx hb ha q => XS.isub ha hx rfl (hb ▸ hd) rfl q) k
theorem WP.iand {x y : Int32} (hd : decode bytes pc = .ok (.iand, 1))  (hp : pc + 1 = n) (k : WP l Z EL nar own nm bytes maxL ret R Q vm h ce sl n Ls (.int (x &&& y) :: rest)) : WP l Z EL nar own nm bytes maxL ret R Q vm h ce sl pc Ls (.int y :: .int x :: rest) := by subst hp; exact WP.step (fun p e below T t m c hx hb ha q => XS.iand ha hx rfl (hb ▸ hd) rfl q) k
theorem WP.imul {x y : Int32} (hd : decode bytes pc = .ok (.imul, 1))  (hp : pc + 1 = n) (k : WP l Z EL nar own nm bytes maxL ret R Q vm h ce sl n Ls (.int (x * y) :: rest)) : WP l Z EL nar own nm bytes maxL ret R Q vm h ce sl pc Ls (.int y :: .int x :: rest) := by subst hp; exact WP.step (fun p e below T t m c hx hb ha q => XS.imul ha hx rfl (hb ▸ hd) rfl q) k
theorem WP.ixor {x y : Int32} (hd : decode bytes pc = .ok (.ixor, 1))  (hp : pc + 1 = n) (k : WP l Z EL nar own nm bytes maxL ret R Q vm h ce sl n Ls (.int (x ^^^ y) :: rest)) : WP l Z EL nar own nm bytes maxL ret R Q vm h ce sl pc Ls (.int y :: .int x :: rest) := by subst hp; exact WP.step (fun p e below T t m c hx hb ha q => XT.ixor ha hx rfl (hb ▸ hd) rfl q) k
theorem WP.ior {x y : Int32} (hd : decode bytes pc = .ok (.ior, 1))  (hp : pc + 1 = n) (k : WP l Z EL nar own nm bytes maxL ret R Q vm h ce sl n Ls (.int (x ||| y) :: rest)) : WP l Z EL nar own nm bytes maxL ret R Q vm h ce sl pc Ls (.int y :: .int x :: rest) := by subst hp; exact WP.step (fun p e below T t m c hx hb ha q => XT.ior ha hx rfl (hb ▸ hd) rfl q) k
theorem WP.ishl {x y : Int32} (hd : decode bytes pc = .ok (.ishl, 1))  (hp : pc + 1 = n) (k : WP l Z EL nar own nm bytes maxL ret R Q vm h ce sl n Ls (.int (x <<< (y &&& 31)) :: rest)) : WP l Z EL nar own nm bytes maxL ret R Q vm h ce sl pc Ls (.int y :: .int x :: rest) := by subst hp; exact WP.step (fun p e below T t m c hx hb ha q => XT.ishl ha hx rfl (hb ▸ hd) rfl q) k
theorem WP.ishr {x y : Int32} (hd : decode bytes pc = .ok (.ishr, 1))  (hp : pc + 1 = n) (k : WP l Z EL nar own nm bytes maxL ret R Q vm h ce sl n Ls (.int (x >>> (y &&& 31)) :: rest)) : WP l Z EL nar own nm bytes maxL ret R Q vm h ce sl pc Ls (.int y :: .int x :: rest) := by subst hp; exact WP.step (fun p e below T t m c hx hb ha q => XT.ishr ha hx rfl (hb ▸ hd) rfl q) k
theorem WP.iushr {x y : Int32} (hd : decode bytes pc = .ok (.iushr, 1))  (hp : pc + 1 = n) (k : WP l Z EL nar own nm bytes maxL ret R Q vm h ce sl n Ls (.int (XT.ushr x y) :: rest)) : WP l Z EL nar own nm bytes maxL ret R Q vm h ce sl pc Ls (.int y :: .int x :: rest) := by subst hp; exact WP.step (fun p e below T t m c hx hb ha q => XT.iushr ha hx rfl (hb ▸ hd) rfl q) k
theorem WP.idiv {x y : Int32} (hd : decode bytes pc = .ok (.idiv, 1)) (hy : y ≠ 0) (hp : pc + 1 = n) (k : WP l Z EL nar own nm bytes maxL ret R Q vm h ce sl n Ls (.int (x / y) :: rest)) : WP l Z EL nar own nm bytes maxL ret R Q vm h ce sl pc Ls (.int y :: .int x :: rest) := by subst hp; exact WP.step (fun p e below T t m c hx hb ha q => XS.idiv ha hx rfl (hb ▸ hd) rfl hy q) k
theorem WP.irem {x y : Int32} (hd : decode bytes pc = .ok (.irem, 1)) (hy : y ≠ 0) (hp : pc + 1 = n) (k : WP l Z EL nar own nm bytes maxL ret R Q vm h ce sl n Ls (.int (x % y) :: rest)) : WP l Z EL nar own nm bytes maxL ret R Q vm h ce sl pc Ls (.int y :: .int x :: rest) := by subst hp; rw [← irem_eq_mod] at k; exact WP.step (fun p e below T t m c hx hb ha q => XS.irem ha hx rfl (hb ▸ hd) rfl hy q) k
theorem WP.ineg {x : Int32} (hd : decode bytes pc = .ok (.ineg, 1))  (hp : pc + 1 = n) (k : WP l Z EL nar own nm bytes maxL ret R Q vm h ce sl n Ls (.int (-x) :: rest)) : WP l Z EL nar own nm bytes maxL ret R Q vm h ce sl pc Ls (.int x :: rest) := by subst hp; exact WP.step (fun p e below T t m c hx hb ha q => XS.ineg ha hx rfl (hb ▸ hd) rfl q) k
theorem WP.iinc {k' : Nat} {cst : Int} {x z : Int32} (hd : decode bytes pc = .ok (.iinc k' cst, 3)) (hl : Ls[k']? = some (.val (.int x))) (hz : x + Int32.ofInt cst = z) (hl' : storeLocals Ls k' (.int z) = some Ls') (hp : pc + 3 = n) (k : WP l Z EL nar own nm bytes maxL ret R Q vm h ce sl n Ls' st) : WP l Z EL nar own nm bytes maxL ret R Q vm h ce sl pc Ls st := by subst hp hz; exact WP.step (fun p e below T t m c hx hb ha q => XS.iinc ha hx rfl (hb ▸ hd) hl hl' q) k
theorem WP.ladd {x y : Int64} (hd : decode bytes pc = .ok (.ladd, 1))  (hp : pc + 1 = n) (k : WP l Z EL nar own nm bytes maxL ret R Q vm h ce sl n Ls (.long (x + y) :: rest)) : WP l Z EL nar own nm bytes maxL ret R Q vm h ce sl pc Ls (.long y :: .long x :: rest) := by subst hp; exact WP.step (fun p e below T t m c hx hb ha q => XT.ladd ha hx rfl (hb ▸ hd) rfl q) k
theorem WP.lsub {x y : Int64} (hd : decode bytes pc = .ok (.lsub, 1))  (hp : pc + 1 = n) (k : WP l Z EL nar own nm bytes maxL ret R Q vm h ce sl n Ls (.long (x - y) :: rest)) : WP l Z EL nar own nm bytes maxL ret R Q vm h ce sl pc Ls (.long y :: .long x :: rest) := by subst hp; exact WP.step (fun p e below T t m c hx hb ha q => XT.lsub ha hx rfl (hb ▸ hd) rfl q) k
theorem WP.lmul {x y : Int64} (hd : decode bytes pc = .ok (.lmul, 1))  (hp : pc + 1 = n) (k : WP l Z EL nar own nm bytes maxL ret R Q vm h ce sl n Ls (.long (x * y) :: rest)) : WP l Z EL nar own nm bytes maxL ret R Q vm h ce sl pc Ls (.long y :: .long x :: rest) := by subst hp; exact WP.step (fun p e below T t m c hx hb ha q => XT.lmul ha hx rfl (hb ▸ hd) rfl q) k
theorem WP.land {x y : Int64} (hd : decode bytes pc = .ok (.land, 1))  (hp : pc + 1 = n) (k : WP l Z EL nar own nm bytes maxL ret R Q vm h ce sl n Ls (.long (x &&& y) :: rest)) : WP l Z EL nar own nm bytes maxL ret R Q vm h ce sl pc Ls (.long y :: .long x :: rest) := by subst hp; exact WP.step (fun p e below T t m c hx hb ha q => XT.land ha hx rfl (hb ▸ hd) rfl q) k
theorem WP.lor {x y : Int64} (hd : decode bytes pc = .ok (.lor, 1))  (hp : pc + 1 = n) (k : WP l Z EL nar own nm bytes maxL ret R Q vm h ce sl n Ls (.long (x ||| y) :: rest)) : WP l Z EL nar own nm bytes maxL ret R Q vm h ce sl pc Ls (.long y :: .long x :: rest) := by subst hp; exact WP.step (fun p e below T t m c hx hb ha q => XT.lor ha hx rfl (hb ▸ hd) rfl q) k
theorem WP.lxor {x y : Int64} (hd : decode bytes pc = .ok (.lxor, 1))  (hp : pc + 1 = n) (k : WP l Z EL nar own nm bytes maxL ret R Q vm h ce sl n Ls (.long (x ^^^ y) :: rest)) : WP l Z EL nar own nm bytes maxL ret R Q vm h ce sl pc Ls (.long y :: .long x :: rest) := by subst hp; exact WP.step (fun p e below T t m c hx hb ha q => XT.lxor ha hx rfl (hb ▸ hd) rfl q) k
theorem WP.lshl {x : Int64} {y : Int32} (hd : decode bytes pc = .ok (.lshl, 1))  (hp : pc + 1 = n) (k : WP l Z EL nar own nm bytes maxL ret R Q vm h ce sl n Ls (.long (x <<< (y.toInt64 &&& 63)) :: rest)) : WP l Z EL nar own nm bytes maxL ret R Q vm h ce sl pc Ls (.int y :: .long x :: rest) := by subst hp; exact WP.step (fun p e below T t m c hx hb ha q => XT.lshl ha hx rfl (hb ▸ hd) rfl q) k
theorem WP.lshr {x : Int64} {y : Int32} (hd : decode bytes pc = .ok (.lshr, 1))  (hp : pc + 1 = n) (k : WP l Z EL nar own nm bytes maxL ret R Q vm h ce sl n Ls (.long (x >>> (y.toInt64 &&& 63)) :: rest)) : WP l Z EL nar own nm bytes maxL ret R Q vm h ce sl pc Ls (.int y :: .long x :: rest) := by subst hp; exact WP.step (fun p e below T t m c hx hb ha q => XT.lshr ha hx rfl (hb ▸ hd) rfl q) k
theorem WP.lushr {x : Int64} {y : Int32} (hd : decode bytes pc = .ok (.lushr, 1))  (hp : pc + 1 = n) (k : WP l Z EL nar own nm bytes maxL ret R Q vm h ce sl n Ls (.long (XT.ushrL x y) :: rest)) : WP l Z EL nar own nm bytes maxL ret R Q vm h ce sl pc Ls (.int y :: .long x :: rest) := by subst hp; exact WP.step (fun p e below T t m c hx hb ha q => XT.lushr ha hx rfl (hb ▸ hd) rfl q) k
theorem WP.ldiv {x y : Int64} (hd : decode bytes pc = .ok (.ldiv, 1)) (hy : y ≠ 0) (hp : pc + 1 = n) (k : WP l Z EL nar own nm bytes maxL ret R Q vm h ce sl n Ls (.long (x / y) :: rest)) : WP l Z EL nar own nm bytes maxL ret R Q vm h ce sl pc Ls (.long y :: .long x :: rest) := by subst hp; exact WP.step (fun p e below T t m c hx hb ha q => XT.ldiv ha hx rfl (hb ▸ hd) rfl hy q) k
theorem WP.lrem {x y : Int64} (hd : decode bytes pc = .ok (.lrem, 1)) (hy : y ≠ 0) (hp : pc + 1 = n) (k : WP l Z EL nar own nm bytes maxL ret R Q vm h ce sl n Ls (.long (x - (x / y) * y) :: rest)) : WP l Z EL nar own nm bytes maxL ret R Q vm h ce sl pc Ls (.long y :: .long x :: rest) := by subst hp; exact WP.step (fun p e below T t m c hx hb ha q => XT.lrem ha hx rfl (hb ▸ hd) rfl hy q) k
theorem WP.lneg {x : Int64} (hd : decode bytes pc = .ok (.lneg, 1))  (hp : pc + 1 = n) (k : WP l Z EL nar own nm bytes maxL ret R Q vm h ce sl n Ls (.long (-x) :: rest)) : WP l Z EL nar own nm bytes maxL ret R Q vm h ce sl pc Ls (.long x :: rest) := by subst hp; exact WP.step (fun p e below T t m c hx hb ha q => XT.lneg ha hx rfl (hb ▸ hd) rfl q) k
theorem WP.lcmp {x y : Int64} (hd : decode bytes pc = .ok (.lcmp, 1))  (hp : pc + 1 = n) (k : WP l Z EL nar own nm bytes maxL ret R Q vm h ce sl n Ls (.int (XT.cmpL x y) :: rest)) : WP l Z EL nar own nm bytes maxL ret R Q vm h ce sl pc Ls (.long y :: .long x :: rest) := by subst hp; exact WP.step (fun p e below T t m c hx hb ha q => XT.lcmp ha hx rfl (hb ▸ hd) rfl q) k
theorem WP.i2l {x : Int32} (hd : decode bytes pc = .ok (.i2l, 1))  (hp : pc + 1 = n) (k : WP l Z EL nar own nm bytes maxL ret R Q vm h ce sl n Ls (.long x.toInt64 :: rest)) : WP l Z EL nar own nm bytes maxL ret R Q vm h ce sl pc Ls (.int x :: rest) := by subst hp; exact WP.step (fun p e below T t m c hx hb ha q => XT.i2l ha hx rfl (hb ▸ hd) rfl q) k
theorem WP.l2i {x : Int64} (hd : decode bytes pc = .ok (.l2i, 1))  (hp : pc + 1 = n) (k : WP l Z EL nar own nm bytes maxL ret R Q vm h ce sl n Ls (.int x.toInt32 :: rest)) : WP l Z EL nar own nm bytes maxL ret R Q vm h ce sl pc Ls (.long x :: rest) := by subst hp; exact WP.step (fun p e below T t m c hx hb ha q => XT.l2i ha hx rfl (hb ▸ hd) rfl q) k
theorem WP.i2b {x : Int32} (hd : decode bytes pc = .ok (.i2b, 1))  (hp : pc + 1 = n) (k : WP l Z EL nar own nm bytes maxL ret R Q vm h ce sl n Ls (.int x.toInt8.toInt32 :: rest)) : WP l Z EL nar own nm bytes maxL ret R Q vm h ce sl pc Ls (.int x :: rest) := by subst hp; exact WP.step (fun p e below T t m c hx hb ha q => XT.i2b ha hx rfl (hb ▸ hd) rfl q) k
theorem WP.i2c {x z : Int32} (hd : decode bytes pc = .ok (.i2c, 1)) (hz : x.toUInt32.toUInt16.toUInt32.toInt32 = z) (hp : pc + 1 = n) (k : WP l Z EL nar own nm bytes maxL ret R Q vm h ce sl n Ls (.int z :: rest)) : WP l Z EL nar own nm bytes maxL ret R Q vm h ce sl pc Ls (.int x :: rest) := by subst hp hz; exact WP.step (fun p e below T t m c hx hb ha q => XT.i2c ha hx rfl (hb ▸ hd) rfl q) k
theorem WP.i2s {x : Int32} (hd : decode bytes pc = .ok (.i2s, 1))  (hp : pc + 1 = n) (k : WP l Z EL nar own nm bytes maxL ret R Q vm h ce sl n Ls (.int x.toInt16.toInt32 :: rest)) : WP l Z EL nar own nm bytes maxL ret R Q vm h ce sl pc Ls (.int x :: rest) := by subst hp; exact WP.step (fun p e below T t m c hx hb ha q => XT.i2s ha hx rfl (hb ▸ hd) rfl q) k
theorem WP.dup {v : Value} (hd : decode bytes pc = .ok (.dup, 1)) (hc : v.category = 1) (hp : pc + 1 = n) (k : WP l Z EL nar own nm bytes maxL ret R Q vm h ce sl n Ls (v :: v :: rest)) : WP l Z EL nar own nm bytes maxL ret R Q vm h ce sl pc Ls (v :: rest) := by subst hp; exact WP.step (fun p e below T t m c hx hb ha q => XS.dup ha hx rfl (hb ▸ hd) rfl hc q) k
theorem WP.pop {v : Value} (hd : decode bytes pc = .ok (.pop, 1)) (hc : v.category = 1) (hp : pc + 1 = n) (k : WP l Z EL nar own nm bytes maxL ret R Q vm h ce sl n Ls (rest)) : WP l Z EL nar own nm bytes maxL ret R Q vm h ce sl pc Ls (v :: rest) := by subst hp; exact WP.step (fun p e below T t m c hx hb ha q => XT.pop ha hx rfl (hb ▸ hd) rfl hc q) k
theorem WP.dupX1 {v w : Value} (hd : decode bytes pc = .ok (.dup_x1, 1)) (hc : v.category = 1) (hc' : w.category = 1) (hp : pc + 1 = n) (k : WP l Z EL nar own nm bytes maxL ret R Q vm h ce sl n Ls (v :: w :: v :: rest)) : WP l Z EL nar own nm bytes maxL ret R Q vm h ce sl pc Ls (v :: w :: rest) := by subst hp; exact WP.step (fun p e below T t m c hx hb ha q => XT.dupX1 ha hx rfl (hb ▸ hd) rfl hc hc' q) k
theorem WP.dup2 {v w : Value} (hd : decode bytes pc = .ok (.dup2, 1)) (hc : v.category = 1) (hc' : w.category = 1) (hp : pc + 1 = n) (k : WP l Z EL nar own nm bytes maxL ret R Q vm h ce sl n Ls (v :: w :: v :: w :: rest)) : WP l Z EL nar own nm bytes maxL ret R Q vm h ce sl pc Ls (v :: w :: rest) := by subst hp; exact WP.step (fun p e below T t m c hx hb ha q => XT.dup2 ha hx rfl (hb ▸ hd) rfl hc hc' q) k
theorem WP.goto {o' : Int} (hd : decode bytes pc = .ok (.goto o', 3)) (ho : 0 ≤ (pc : Int) + o') (hn : ((pc : Int) + o').toNat = n) (k : WP l Z EL nar own nm bytes maxL ret R Q vm h ce sl n Ls st) : WP l Z EL nar own nm bytes maxL ret R Q vm h ce sl pc Ls st := WP.step (fun p e below T t m c hx hb ha q => XS.goto ha hx rfl (pc0 := pc) rfl (hb ▸ hd) ho hn q) k
theorem WP.icmpY {cd : ClassFile.Cond} {o' : Int} {x y : Int32} (hd : decode bytes pc = .ok (.if_icmp cd o', 3)) (hc : if_icmp.holds cd x y = true) (ho : 0 ≤ (pc : Int) + o') (hn : ((pc : Int) + o').toNat = n) (k : WP l Z EL nar own nm bytes maxL ret R Q vm h ce sl n Ls rest) : WP l Z EL nar own nm bytes maxL ret R Q vm h ce sl pc Ls (.int y :: .int x :: rest) := WP.step (fun p e below T t m c hx hb ha q => XS.icmpYes ha hx rfl (pc0 := pc) rfl (hb ▸ hd) rfl hc ho hn q) k
theorem WP.icmpN {cd : ClassFile.Cond} {o' : Int} {x y : Int32} (hd : decode bytes pc = .ok (.if_icmp cd o', 3)) (hc : if_icmp.holds cd x y = false) (hp : pc + 3 = n') (k : WP l Z EL nar own nm bytes maxL ret R Q vm h ce sl n' Ls rest) : WP l Z EL nar own nm bytes maxL ret R Q vm h ce sl pc Ls (.int y :: .int x :: rest) := by subst hp; exact WP.step (fun p e below T t m c hx hb ha q => XS.icmpNo ha hx rfl (hb ▸ hd) rfl hc q) k
theorem WP.ifcY {cd : ClassFile.Cond} {o' : Int} {x : Int32} (hd : decode bytes pc = .ok (.ifCond cd o', 3)) (hc : ifCond.holds cd x = true) (ho : 0 ≤ (pc : Int) + o') (hn : ((pc : Int) + o').toNat = n) (k : WP l Z EL nar own nm bytes maxL ret R Q vm h ce sl n Ls rest) : WP l Z EL nar own nm bytes maxL ret R Q vm h ce sl pc Ls (.int x :: rest) := WP.step (fun p e below T t m c hx hb ha q => XS.ifYes ha hx rfl (pc0 := pc) rfl (hb ▸ hd) rfl hc ho hn q) k
theorem WP.ifcN {cd : ClassFile.Cond} {o' : Int} {x : Int32} (hd : decode bytes pc = .ok (.ifCond cd o', 3)) (hc : ifCond.holds cd x = false) (hp : pc + 3 = n') (k : WP l Z EL nar own nm bytes maxL ret R Q vm h ce sl n' Ls rest) : WP l Z EL nar own nm bytes maxL ret R Q vm h ce sl pc Ls (.int x :: rest) := by subst hp; exact WP.step (fun p e below T t m c hx hb ha q => XS.ifNo ha hx rfl (hb ▸ hd) rfl hc q) k
theorem WP.icmp_lt {o' : Int} {x y : Int32} (hd : decode bytes pc = .ok (.if_icmp .lt o', 3)) (ho : 0 ≤ (pc : Int) + o') (hn : ((pc : Int) + o').toNat = n) (hp : pc + 3 = n') (k1 : x < y → WP l Z EL nar own nm bytes maxL ret R Q vm h ce sl n Ls rest) (k2 : ¬ x < y → WP l Z EL nar own nm bytes maxL ret R Q vm h ce sl n' Ls rest) : WP l Z EL nar own nm bytes maxL ret R Q vm h ce sl pc Ls (.int y :: .int x :: rest) := by by_cases q : x < y; exact WP.icmpY hd ((tlt q).1) ho hn (k1 q); exact WP.icmpN hd ((flt q).1) hp (k2 q)
theorem WP.if_lt {o' : Int} {x : Int32} (hd : decode bytes pc = .ok (.ifCond .lt o', 3)) (ho : 0 ≤ (pc : Int) + o') (hn : ((pc : Int) + o').toNat = n) (hp : pc + 3 = n') (k1 : x < (0 : Int32) → WP l Z EL nar own nm bytes maxL ret R Q vm h ce sl n Ls rest) (k2 : ¬ x < (0 : Int32) → WP l Z EL nar own nm bytes maxL ret R Q vm h ce sl n' Ls rest) : WP l Z EL nar own nm bytes maxL ret R Q vm h ce sl pc Ls (.int x :: rest) := by by_cases q : x < (0 : Int32); exact WP.ifcY hd ((if0 _ _).trans (tlt q).1) ho hn (k1 q); exact WP.ifcN hd ((if0 _ _).trans (flt q).1) hp (k2 q)
theorem WP.icmp_ge {o' : Int} {x y : Int32} (hd : decode bytes pc = .ok (.if_icmp .ge o', 3)) (ho : 0 ≤ (pc : Int) + o') (hn : ((pc : Int) + o').toNat = n) (hp : pc + 3 = n') (k1 : ¬ x < y → WP l Z EL nar own nm bytes maxL ret R Q vm h ce sl n Ls rest) (k2 : x < y → WP l Z EL nar own nm bytes maxL ret R Q vm h ce sl n' Ls rest) : WP l Z EL nar own nm bytes maxL ret R Q vm h ce sl pc Ls (.int y :: .int x :: rest) := by by_cases q : x < y; exact WP.icmpN hd ((tlt q).2.1) hp (k2 q); exact WP.icmpY hd ((flt q).2.1) ho hn (k1 q)
theorem WP.if_ge {o' : Int} {x : Int32} (hd : decode bytes pc = .ok (.ifCond .ge o', 3)) (ho : 0 ≤ (pc : Int) + o') (hn : ((pc : Int) + o').toNat = n) (hp : pc + 3 = n') (k1 : ¬ x < (0 : Int32) → WP l Z EL nar own nm bytes maxL ret R Q vm h ce sl n Ls rest) (k2 : x < (0 : Int32) → WP l Z EL nar own nm bytes maxL ret R Q vm h ce sl n' Ls rest) : WP l Z EL nar own nm bytes maxL ret R Q vm h ce sl pc Ls (.int x :: rest) := by by_cases q : x < (0 : Int32); exact WP.ifcN hd ((if0 _ _).trans (tlt q).2.1) hp (k2 q); exact WP.ifcY hd ((if0 _ _).trans (flt q).2.1) ho hn (k1 q)
theorem WP.icmp_gt {o' : Int} {x y : Int32} (hd : decode bytes pc = .ok (.if_icmp .gt o', 3)) (ho : 0 ≤ (pc : Int) + o') (hn : ((pc : Int) + o').toNat = n) (hp : pc + 3 = n') (k1 : y < x → WP l Z EL nar own nm bytes maxL ret R Q vm h ce sl n Ls rest) (k2 : ¬ y < x → WP l Z EL nar own nm bytes maxL ret R Q vm h ce sl n' Ls rest) : WP l Z EL nar own nm bytes maxL ret R Q vm h ce sl pc Ls (.int y :: .int x :: rest) := by by_cases q : y < x; exact WP.icmpY hd ((tlt q).2.2.1) ho hn (k1 q); exact WP.icmpN hd ((flt q).2.2.1) hp (k2 q)
theorem WP.if_gt {o' : Int} {x : Int32} (hd : decode bytes pc = .ok (.ifCond .gt o', 3)) (ho : 0 ≤ (pc : Int) + o') (hn : ((pc : Int) + o').toNat = n) (hp : pc + 3 = n') (k1 : (0 : Int32) < x → WP l Z EL nar own nm bytes maxL ret R Q vm h ce sl n Ls rest) (k2 : ¬ (0 : Int32) < x → WP l Z EL nar own nm bytes maxL ret R Q vm h ce sl n' Ls rest) : WP l Z EL nar own nm bytes maxL ret R Q vm h ce sl pc Ls (.int x :: rest) := by by_cases q : (0 : Int32) < x; exact WP.ifcY hd ((if0 _ _).trans (tlt q).2.2.1) ho hn (k1 q); exact WP.ifcN hd ((if0 _ _).trans (flt q).2.2.1) hp (k2 q)
theorem WP.icmp_le {o' : Int} {x y : Int32} (hd : decode bytes pc = .ok (.if_icmp .le o', 3)) (ho : 0 ≤ (pc : Int) + o') (hn : ((pc : Int) + o').toNat = n) (hp : pc + 3 = n') (k1 : ¬ y < x → WP l Z EL nar own nm bytes maxL ret R Q vm h ce sl n Ls rest) (k2 : y < x → WP l Z EL nar own nm bytes maxL ret R Q vm h ce sl n' Ls rest) : WP l Z EL nar own nm bytes maxL ret R Q vm h ce sl pc Ls (.int y :: .int x :: rest) := by by_cases q : y < x; exact WP.icmpN hd ((tlt q).2.2.2) hp (k2 q); exact WP.icmpY hd ((flt q).2.2.2) ho hn (k1 q)
theorem WP.if_le {o' : Int} {x : Int32} (hd : decode bytes pc = .ok (.ifCond .le o', 3)) (ho : 0 ≤ (pc : Int) + o') (hn : ((pc : Int) + o').toNat = n) (hp : pc + 3 = n') (k1 : ¬ (0 : Int32) < x → WP l Z EL nar own nm bytes maxL ret R Q vm h ce sl n Ls rest) (k2 : (0 : Int32) < x → WP l Z EL nar own nm bytes maxL ret R Q vm h ce sl n' Ls rest) : WP l Z EL nar own nm bytes maxL ret R Q vm h ce sl pc Ls (.int x :: rest) := by by_cases q : (0 : Int32) < x; exact WP.ifcN hd ((if0 _ _).trans (tlt q).2.2.2) hp (k2 q); exact WP.ifcY hd ((if0 _ _).trans (flt q).2.2.2) ho hn (k1 q)
theorem WP.icmp_eq {o' : Int} {x y : Int32} (hd : decode bytes pc = .ok (.if_icmp .eq o', 3)) (ho : 0 ≤ (pc : Int) + o') (hn : ((pc : Int) + o').toNat = n) (hp : pc + 3 = n') (k1 : x = y → WP l Z EL nar own nm bytes maxL ret R Q vm h ce sl n Ls rest) (k2 : ¬ x = y → WP l Z EL nar own nm bytes maxL ret R Q vm h ce sl n' Ls rest) : WP l Z EL nar own nm bytes maxL ret R Q vm h ce sl pc Ls (.int y :: .int x :: rest) := by by_cases q : x = y; exact WP.icmpY hd ((teq q).1) ho hn (k1 q); exact WP.icmpN hd ((feq q).1) hp (k2 q)
theorem WP.if_eq {o' : Int} {x : Int32} (hd : decode bytes pc = .ok (.ifCond .eq o', 3)) (ho : 0 ≤ (pc : Int) + o') (hn : ((pc : Int) + o').toNat = n) (hp : pc + 3 = n') (k1 : x = (0 : Int32) → WP l Z EL nar own nm bytes maxL ret R Q vm h ce sl n Ls rest) (k2 : ¬ x = (0 : Int32) → WP l Z EL nar own nm bytes maxL ret R Q vm h ce sl n' Ls rest) : WP l Z EL nar own nm bytes maxL ret R Q vm h ce sl pc Ls (.int x :: rest) := by by_cases q : x = (0 : Int32); exact WP.ifcY hd ((if0 _ _).trans (teq q).1) ho hn (k1 q); exact WP.ifcN hd ((if0 _ _).trans (feq q).1) hp (k2 q)
theorem WP.icmp_ne {o' : Int} {x y : Int32} (hd : decode bytes pc = .ok (.if_icmp .ne o', 3)) (ho : 0 ≤ (pc : Int) + o') (hn : ((pc : Int) + o').toNat = n) (hp : pc + 3 = n') (k1 : ¬ x = y → WP l Z EL nar own nm bytes maxL ret R Q vm h ce sl n Ls rest) (k2 : x = y → WP l Z EL nar own nm bytes maxL ret R Q vm h ce sl n' Ls rest) : WP l Z EL nar own nm bytes maxL ret R Q vm h ce sl pc Ls (.int y :: .int x :: rest) := by by_cases q : x = y; exact WP.icmpN hd ((teq q).2) hp (k2 q); exact WP.icmpY hd ((feq q).2) ho hn (k1 q)
theorem WP.if_ne {o' : Int} {x : Int32} (hd : decode bytes pc = .ok (.ifCond .ne o', 3)) (ho : 0 ≤ (pc : Int) + o') (hn : ((pc : Int) + o').toNat = n) (hp : pc + 3 = n') (k1 : ¬ x = (0 : Int32) → WP l Z EL nar own nm bytes maxL ret R Q vm h ce sl n Ls rest) (k2 : x = (0 : Int32) → WP l Z EL nar own nm bytes maxL ret R Q vm h ce sl n' Ls rest) : WP l Z EL nar own nm bytes maxL ret R Q vm h ce sl pc Ls (.int x :: rest) := by by_cases q : x = (0 : Int32); exact WP.ifcN hd ((if0 _ _).trans (teq q).2) hp (k2 q); exact WP.ifcY hd ((if0 _ _).trans (feq q).2) ho hn (k1 q)
theorem WP.ifnullY {o' : Int} (hd : decode bytes pc = .ok (.ifnull o', 3)) (ho : 0 ≤ (pc : Int) + o') (hn : ((pc : Int) + o').toNat = n) (k : WP l Z EL nar own nm bytes maxL ret R Q vm h ce sl n Ls rest) : WP l Z EL nar own nm bytes maxL ret R Q vm h ce sl pc Ls (.null :: rest) := WP.step (fun p e below T t m c hx hb ha q => XS.ifnullYes ha hx rfl (pc0 := pc) rfl (hb ▸ hd) rfl ho hn q) k
theorem WP.ifnullN {o' : Int} {b : Addr} (hd : decode bytes pc = .ok (.ifnull o', 3)) (hp : pc + 3 = n') (k : WP l Z EL nar own nm bytes maxL ret R Q vm h ce sl n' Ls rest) : WP l Z EL nar own nm bytes maxL ret R Q vm h ce sl pc Ls (.ref b :: rest) := by subst hp; exact WP.step (fun p e below T t m c hx hb ha q => XS.ifnullNo ha hx rfl (hb ▸ hd) rfl q) k
theorem WP.ifnonnullY {o' : Int} {b : Addr} (hd : decode bytes pc = .ok (.ifnonnull o', 3)) (ho : 0 ≤ (pc : Int) + o') (hn : ((pc : Int) + o').toNat = n) (k : WP l Z EL nar own nm bytes maxL ret R Q vm h ce sl n Ls rest) : WP l Z EL nar own nm bytes maxL ret R Q vm h ce sl pc Ls (.ref b :: rest) := WP.step (fun p e below T t m c hx hb ha q => XT.ifnonnullYes ha hx rfl (pc0 := pc) rfl (hb ▸ hd) rfl ho hn q) k
theorem WP.ifnonnullN {o' : Int} (hd : decode bytes pc = .ok (.ifnonnull o', 3)) (hp : pc + 3 = n') (k : WP l Z EL nar own nm bytes maxL ret R Q vm h ce sl n' Ls rest) : WP l Z EL nar own nm bytes maxL ret R Q vm h ce sl pc Ls (.null :: rest) := by subst hp; exact WP.step (fun p e below T t m c hx hb ha q => XT.ifnonnullNo ha hx rfl (hb ▸ hd) rfl q) k
theorem WP.acmpY {cd : ACond} {o' : Int} {x y : Value} (hd : decode bytes pc = .ok (.if_acmp cd o', 3)) (hx' : x.isRef = true) (hy' : y.isRef = true) (hc : XT.acmp cd x y = true) (ho : 0 ≤ (pc : Int) + o') (hn : ((pc : Int) + o').toNat = n) (k : WP l Z EL nar own nm bytes maxL ret R Q vm h ce sl n Ls rest) : WP l Z EL nar own nm bytes maxL ret R Q vm h ce sl pc Ls (y :: x :: rest) := WP.step (fun p e below T t m c hx hb ha q => XT.acmpYes ha hx rfl (pc0 := pc) rfl (hb ▸ hd) rfl hx' hy' hc ho hn q) k
theorem WP.acmpN {cd : ACond} {o' : Int} {x y : Value} (hd : decode bytes pc = .ok (.if_acmp cd o', 3)) (hx' : x.isRef = true) (hy' : y.isRef = true) (hc : XT.acmp cd x y = false) (hp : pc + 3 = n') (k : WP l Z EL nar own nm bytes maxL ret R Q vm h ce sl n' Ls rest) : WP l Z EL nar own nm bytes maxL ret R Q vm h ce sl pc Ls (y :: x :: rest) := by subst hp; exact WP.step (fun p e below T t m c hx hb ha q => XT.acmpNo ha hx rfl (hb ▸ hd) rfl hx' hy' hc q) k
theorem WP.getF {R0 O nf d host : String} {index : Nat} {a : Addr} {v : Value} (hd : decode bytes pc = .ok (.getfield index, 3)) (w : (Cond.fieldLink own index R0 nf d).before a0 Z = true ∨ (Cond.fieldLinkNest own index R0 nf d host).before a0 Z = true) (via : Via Z R0 O nf d) (F : Fld Z h a O nf d v) (hp : pc + 3 = n) (k : WP l Z EL nar own nm bytes maxL ret R Q vm h ce sl n Ls (v :: rest)) : WP l Z EL nar own nm bytes maxL ret R Q vm h ce sl pc Ls (.ref a :: rest) := by
  subst hp
  refine WP.look (fun p e s args below T m meth c L hx hb X hZ hown eT => ?_) k
  exact getF X hx hZ hown w via eT F (g := mkF m pc Ls (.ref a :: rest)) rfl rfl (hb ▸ hd)
theorem WP.getS {R0 O nf d : String} {index : Nat} {v : Value} (hd : decode bytes pc = .ok (.getstatic index, 3)) (w : (Cond.fieldLink own index R0 nf d).before a0 Z = true) (via : Via Z R0 O nf d) (F : Sta Z h O nf d v) (hp : pc + 3 = n) (k : WP l Z EL nar own nm bytes maxL ret R Q vm h ce sl n Ls (v :: st)) : WP l Z EL nar own nm bytes maxL ret R Q vm h ce sl pc Ls st := by
  subst hp
  refine WP.look (fun p e s args below T m meth c L hx hb X hZ hown eT => ?_) k
  exact getS (host := "") X hx hZ hown w via eT F (g := mkF m pc Ls st) rfl (hb ▸ hd)
theorem WP.getSZ {R0 O nf d : String} {index : Nat} {v : Value} (hd : decode bytes pc = .ok (.getstatic index, 3)) (w : (Cond.fieldLink own index R0 nf d).before a0 Z = true) (via : Via Z R0 O nf d) (F : Sta Z Z.heap O nf d v) (hp : pc + 3 = n) (k : WP l Z EL nar own nm bytes maxL ret R Q vm h ce sl n Ls (v :: st)) : WP l Z EL nar own nm bytes maxL ret R Q vm h ce sl pc Ls st :=
  WP.inv fun _ E _ => WP.getS hd w via (F.ext E) hp k
theorem WP.new {C : String} {index nn : Nat} {ce' sl' : Nat} (hd : decode bytes pc = .ok (.new index, 3)) (w : (Cond.classLink own index C).before a0 Z = true) (wi : (Cond.instantiable C nn).before a0 Z = true) (wz : (Cond.initialized C).before a0 Z = true) (hce : ce + 1 = ce') (hsl : sl + nn = sl') (hc : ce' ≤ R.cells) (hl : sl' ≤ R.slots) (hp : pc + 3 = n)
    (k : ∀ a h', a = h.size → Ext h h' → Exa Z h' a C → (∀ {O f d : String} {ty : FieldType}, Laid Z a0 C O f d → parseFieldDescriptor d = some ty → Fld Z h' a O f d (defaultValue ty)) → Safe Z EL vm h' a → Z.heap.size ≤ a → CHr Z EL vm h vm h' → WP l Z EL nar own nm bytes maxL ret R Q vm h' ce' sl' n Ls (.ref a :: st)) : WP l Z EL nar own nm bytes maxL ret R Q vm h ce sl pc Ls st := by
  subst hp hce hsl
  refine WP.inv fun _ hE hH => WP.make (P := fun h' => Exa Z h' h.size C ∧ ∀ {O f d : String} {ty : FieldType}, Laid Z a0 C O f d → parseFieldDescriptor d = some ty → Fld Z h' h.size O f d (defaultValue ty)) (fun p e s args below T m meth c L hx hb X hZ hown eT => ?_) fun h' E p hr => k _ h' rfl E p.1 p.2 (Safe.ext E hH (Safe.new (Nat.le_refl _))) hE.1 hr
  obtain ⟨T', h', X', e', E', A', D', -, stp⟩ := newO X hx hZ hown w wi wz eT (g := mkF m pc Ls st) rfl (hb ▸ hd) hc hl
  exact ⟨T', h', X', e', E', ⟨A', D'⟩, stp⟩
theorem WP.putF {R0 O nf d host C : String} {index kk : Nat} {ty : FieldType} {a : Addr} {v old : Value} (hd : decode bytes pc = .ok (.putfield index, 3)) (w : (Cond.fieldLink own index R0 nf d).before a0 Z = true ∨ (Cond.fieldLinkNest own index R0 nf d host).before a0 Z = true) (via : Via Z R0 O nf d) (F : Fld Z h a O nf d old) (E : Exa Z h a C)
    (L' : (Cond.lays C O nf d).before a0 Z = true ∨ ((Cond.laysFinal C O nf d).before a0 Z = true ∧ own = O ∧ nm = "<init>")) (wi : (Cond.instantiable C kk).before a0 Z = true) (hty : parseFieldDescriptor d = some ty) (hn : narrow ty v = v) (hf : fits ty v = true) (ha : Z.heap.size ≤ a) (S : Safe Z EL vm h a) (hp : pc + 3 = n)
    (k : ∀ h', Wr h h' a (Jvm.RoadKit.slotOf Z O nf d) v → CHr Z EL vm h vm h' → WP l Z EL nar own nm bytes maxL ret R Q vm h' ce sl n Ls rest) : WP l Z EL nar own nm bytes maxL ret R Q vm h ce sl pc Ls (v :: .ref a :: rest) := by
  subst hp
  refine WP.write ha (fun _ => S) (fun p e s args below T m meth c L hx hb hnm X hZ hown eT => ?_) k
  exact putF X hx hZ hown w via eT F E (L'.imp id fun q => ⟨q.1, q.2.1, hnm.trans q.2.2⟩) wi hty hn hf (g := mkF m pc Ls (v :: .ref a :: rest)) rfl rfl (hb ▸ hd)
theorem WP.putFE {R0 O nf d host C : String} {index kk : Nat} {ty : FieldType} {a : Addr} {v old : Value} (hd : decode bytes pc = .ok (.putfield index, 3)) (w : (Cond.fieldLink own index R0 nf d).before a0 Z = true ∨ (Cond.fieldLinkNest own index R0 nf d host).before a0 Z = true) (via : Via Z R0 O nf d) (F : Fld Z h a O nf d old) (E : Exa Z h a C)
    (L' : (Cond.lays C O nf d).before a0 Z = true ∨ ((Cond.laysFinal C O nf d).before a0 Z = true ∧ own = O ∧ nm = "<init>")) (wi : (Cond.instantiable C kk).before a0 Z = true) (hty : parseFieldDescriptor d = some ty) (hn : narrow ty v = v) (hf : fits ty v = true) (ha : Z.heap.size ≤ a) (hC : C ≠ "java/lang/String" ∧ C ≠ "[B") (hp : pc + 3 = n)
    (k : ∀ h', Wr h h' a (Jvm.RoadKit.slotOf Z O nf d) v → CHr Z EL vm h vm h' → WP l Z EL nar own nm bytes maxL ret R Q vm h' ce sl n Ls rest) : WP l Z EL nar own nm bytes maxL ret R Q vm h ce sl pc Ls (v :: .ref a :: rest) :=
  WP.inv fun hZ _ _ => WP.putF hd w via F E L' wi hty hn hf ha (Safe.exa hZ.alike E hC.1 hC.2) hp k
theorem WP.newP {aty : ArrayType} {x : Int32} {cap ce' sl' : Nat} {ty : FieldType} (hd : decode bytes pc = .ok (.newarray aty, 2)) (w : (Cond.arrayClass ty).before a0 Z = true) (hty : newarray.typeOf aty = ty) (hx0 : ¬ x < 0) (hcap : x.toNatClampNeg ≤ cap) (hbig : cap * 8 ≤ 536870912) (hce : ce + 1 = ce') (hsl : sl + cap = sl') (hc : ce' ≤ R.cells) (hl : sl' ≤ R.slots) (hp : pc + 2 = n)
    (k : ∀ a h' cA, a = h.size → Ext h h' → Arv Z h' a cA ty x [] (defaultValue ty) → Safe Z EL vm h' a → Z.heap.size ≤ a → CHr Z EL vm h vm h' → WP l Z EL nar own nm bytes maxL ret R Q vm h' ce' sl' n Ls (.ref a :: rest)) : WP l Z EL nar own nm bytes maxL ret R Q vm h ce sl pc Ls (.int x :: rest) := by
  subst hp hce hsl hty
  refine WP.inv fun _ hE hH => WP.make (P := fun h' => ∃ cA, Arv Z h' h.size cA (newarray.typeOf aty) x [] (defaultValue (newarray.typeOf aty))) (fun p e s args below T m meth c L hx hb X hZ hown eT => ?_) fun h' E p hr => by
    obtain ⟨cA, A⟩ := p
    exact k _ h' cA rfl E A (Safe.ext E hH (Safe.new (Nat.le_refl _))) hE.1 hr
  obtain ⟨T', h', cA, X', e', E', A', stp⟩ := newP X hx hZ w eT (g := mkF m pc Ls (.int x :: rest)) rfl (hb ▸ hd) rfl hx0 hcap hbig hc hl
  exact ⟨T', h', X', e', E', ⟨cA, Arv.new A' hx0⟩, stp⟩
theorem WP.stC {a : Addr} {cA : ClassId} {z j x y : Int32} {vs : List Value} {d : Value} {i : Nat} (hd : decode bytes pc = .ok (.castore, 1)) (A : Arv Z h a cA .char z vs d) (hj : ¬ j < 0 ∧ j < z) (hi : j.toNatClampNeg = i) (hlen : i < vs.length) (hy : Jvm.RoadKit.nar .char x = y) (ha : Z.heap.size ≤ a) (S : Safe Z EL vm h a) (hp : pc + 1 = n)
    (k : ∀ h', Wr h h' a j.toNatClampNeg (.int y) → Arv Z h' a cA .char z (vs.set i (.int y)) d → CHr Z EL vm h vm h' → WP l Z EL nar own nm bytes maxL ret R Q vm h' ce sl n Ls rest) : WP l Z EL nar own nm bytes maxL ret R Q vm h ce sl pc Ls (.int x :: .int j :: .ref a :: rest) := by
  subst hp hy
  obtain ⟨cl, A1, q1, S1, M1, H1, G1⟩ := A
  refine WP.write ha (fun _ => S) (fun p e s args below T m meth c L hx hb hnm X hZ hown eT => ?_) fun h' W r => k h' W (Arv.set A1 q1 S1 M1 H1 G1 (fits_nar_char _) W i hi hlen) r
  exact stC X hx hZ eT A1 (inb_of S1 hj) (g := mkF m pc Ls (.int x :: .int j :: .ref a :: rest)) rfl rfl (hb ▸ hd)
theorem WP.stB {a : Addr} {cA : ClassId} {z j x y : Int32} {vs : List Value} {d : Value} {i : Nat} (hd : decode bytes pc = .ok (.bastore, 1)) (A : Arv Z h a cA .byte z vs d) (hj : ¬ j < 0 ∧ j < z) (hi : j.toNatClampNeg = i) (hlen : i < vs.length) (hy : Jvm.RoadKit.nar .byte x = y) (ha : Z.heap.size ≤ a) (S : Safe Z EL vm h a) (hp : pc + 1 = n)
    (k : ∀ h', Wr h h' a j.toNatClampNeg (.int y) → Arv Z h' a cA .byte z (vs.set i (.int y)) d → CHr Z EL vm h vm h' → WP l Z EL nar own nm bytes maxL ret R Q vm h' ce sl n Ls rest) : WP l Z EL nar own nm bytes maxL ret R Q vm h ce sl pc Ls (.int x :: .int j :: .ref a :: rest) := by
  subst hp hy
  obtain ⟨cl, A1, q1, S1, M1, H1, G1⟩ := A
  refine WP.write ha (fun _ => S) (fun p e s args below T m meth c L hx hb hnm X hZ hown eT => ?_) fun h' W r => k h' W (Arv.set A1 q1 S1 M1 H1 G1 (fits_nar_byte _) W i hi hlen) r
  exact stB X hx hZ eT A1 (inb_of S1 hj) (g := mkF m pc Ls (.int x :: .int j :: .ref a :: rest)) rfl rfl (hb ▸ hd)
theorem WP.alen {ty : FieldType} {a : Addr} {cA : ClassId} {z : Int32} {vs : List Value} {d : Value} (hd : decode bytes pc = .ok (.arraylength, 1)) (A : Arv Z h a cA ty z vs d) (hp : pc + 1 = n) (k : WP l Z EL nar own nm bytes maxL ret R Q vm h ce sl n Ls (.int z :: rest)) : WP l Z EL nar own nm bytes maxL ret R Q vm h ce sl pc Ls (.ref a :: rest) := by
  subst hp
  obtain ⟨cl, A1, -, hz, hz0, -⟩ := A
  refine WP.look (Ls' := Ls) (fun p e s args below T m meth c L hx hb X hZ hown eT => ⟨T, X, eT, fun target q => ?_⟩) k
  refine X.arraylength hx (cell := cl) (by rw [eT]; exact A1.1) (State.isArrayOf_alike hZ.alike A1.2.1) (g := mkF m pc Ls (.ref a :: rest)) rfl rfl (hb ▸ hd) _ ?_
  rw [len_of hz hz0]
  exact q
theorem WP.initO {idx : Nat} {a : Addr} {Wd : Nat} (hd : decode bytes pc = .ok (.invokespecial idx, 3)) (w1 : (Cond.methodLink own idx Lib.objectInit).before a0 Z = true) (w2 : (Cond.instanceMethod Lib.objectInit).before a0 Z = true) (w3 : (Cond.code Lib.objectInit ⟨#[0xb1]⟩ 1 none).before a0 Z = true) (hsize : Ls.size = maxL) (hf : 1 ≤ R.frames) (hW : (rest.map fun v => v.category).sum ≤ Wd) (hl : Wd + 12 ≤ R.locals) (hp : pc + 3 = n)
    (k : WP l Z EL nar own nm bytes maxL ret R Q vm h ce sl n Ls rest) : WP l Z EL nar own nm bytes maxL ret R Q vm h ce sl pc Ls (.ref a :: rest) := by
  subst hp
  intro p e s m args below meth c T L cx ⟨X, hS, hZ, hown, eT, N, hE, hC, hW', hEL⟩
  obtain ⟨T', X', e', stp⟩ := initO X cx.1 hZ hown w1 w2 w3 eT (g := mkF m pc Ls (.ref a :: rest)) rfl (by rw [cx.2.2.1]; exact hsize) rfl (cx.2.1 ▸ hd) hf (W := Wd) (by show 2 * 0 + _ ≤ _; omega) hl
  obtain ⟨t, o, h1, r⟩ := k p e s m args below meth c T' L cx ⟨X', hS, hZ, hown, e', N, hE, hC, hW', hEL⟩
  exact ⟨t, o, stp _ h1, r⟩
theorem WP.retV (hd : decode bytes pc = .ok (.return_, 1)) (hr : ret = none) (hc : ce ≤ R.cells) (hsl : sl ≤ R.slots) (hq : Q none h) : WP l Z EL nar own nm bytes maxL ret R Q vm h ce sl pc Ls [] :=
  WP.done (v := none) hc hsl (fun _ => rfl) (fun p e s args below T m meth c L fs hx hb hret X hl => X.returnOut hx (hret.trans hr) (hb ▸ hd) hl) hq
theorem WP.retI {x : Int32} (hd : decode bytes pc = .ok (.ireturn, 1)) (hr : ret = some .int) (hc : ce ≤ R.cells) (hsl : sl ≤ R.slots) (hq : Q (some (.int x)) h) : WP l Z EL nar own nm bytes maxL ret R Q vm h ce sl pc Ls (.int x :: rest) :=
  WP.done (v := some (.int x)) hc hsl (fun q => by rw [hr] at q; cases q) (fun p e s args below T m meth c L fs hx hb hret X hl => retOut X hx (t := .int) (hret.trans hr) rfl (Or.inl ⟨rfl, Or.inl rfl, x, rfl⟩) (hb ▸ hd) hl) hq
theorem WP.retN {t : FieldType} {x z : Int32} (hd : decode bytes pc = .ok (.ireturn, 1)) (hr : ret = some t) (ht : t = .boolean ∨ t = .byte ∨ t = .char ∨ t = .short) (hz : Jvm.RoadKit.nar t x = z) (hc : ce ≤ R.cells) (hsl : sl ≤ R.slots) (hq : Q (some (.int z)) h) : WP l Z EL nar own nm bytes maxL ret R Q vm h ce sl pc Ls (.int x :: rest) := by
  subst hz
  exact WP.done (v := some (.int (Jvm.RoadKit.nar t x))) hc hsl (fun q => by rw [hr] at q; cases q) (fun p e s args below T m meth c L fs hx hb hret X hl => Jvm.RoadKit.retN X hx (hret.trans hr) ht (hb ▸ hd) hl) hq
theorem WP.retA {t : FieldType} {v : Value} (hd : decode bytes pc = .ok (.areturn, 1)) (hr : ret = some t) (ht : t.isReference = true) (hv : v.isRef = true) (hn : narrow t v = v) (hc : ce ≤ R.cells) (hsl : sl ≤ R.slots) (hq : Q (some v) h) : WP l Z EL nar own nm bytes maxL ret R Q vm h ce sl pc Ls (v :: rest) :=
  WP.done (v := some v) hc hsl (fun q => by rw [hr] at q; cases q) (fun p e s args below T m meth c L fs hx hb hret X hl => retOut X hx (t := t) (hret.trans hr) hn (Or.inr (Or.inr (Or.inr (Or.inr ⟨rfl, ht, hv⟩)))) (hb ▸ hd) hl) hq
theorem WP.callS {sf : List Addr} {y : MethodName} {yb : ByteArray} {yl : Nat} {yr : Option FieldType} {rm : Room} {as' : Array Value} {Qy : Option Value → Heap → Prop} {index Wd ce' sl' : Nat} (C : Con l Z EL nar sf y yb yl yr rm as' h Qy) (hd : decode bytes pc = .ok (.invokestatic index, 3)) (w1 : (Cond.methodLink own index y).before a0 Z = true) (w2 : (Cond.static y).before a0 Z = true) (wz : (Cond.initialized y.cls).before a0 Z = true) (wc : (Cond.code y yb yl yr).before a0 Z = true) (hy : y.cls ≠ "java/lang/invoke/MethodHandle" ∧ y.cls ≠ "java/lang/invoke/VarHandle") (hsf : ∀ x ∈ sf, Safe Z EL vm h x ∧ x < h.size) (hf : rm.frames + 1 ≤ R.frames) (hl : Wd + (yl + 11) + rm.locals ≤ R.locals) (hce : ce + rm.cells = ce') (hsl : sl + rm.slots = sl') (hc : ce' ≤ R.cells) (hs : sl' ≤ R.slots) (hsize : Ls.size = maxL) {argsL : List Value} (hargs : argsL.toArray = as') (hlen : ∀ sig, parseMethodDescriptor y.desc = some sig → argsL.length = sig.parameters.length) (hst : st = argsL.reverse ++ rest) (hWd : (rest.map fun v => v.category).sum ≤ Wd) (hp : pc + 3 = n)
    (k : ∀ v vm' h', Qy v h' → CHr Z EL vm h vm' h' → WP l Z EL nar own nm bytes maxL ret R Q vm' h' ce' sl' n Ls (v.toList ++ rest)) : WP l Z EL nar own nm bytes maxL ret R Q vm h ce sl pc Ls st := by
  subst hp hce hsl
  intro p e s m args below meth c T L cx ⟨X, ⟨k0, hS, hk⟩, hZ, hown, eT, N, hE, hC, hW', a1, hEL⟩
  have hB := C.back (R := R) (p := p) (e := e) (below := below) (s := s) (args := args) (len := 3) (Wd := Wd) hEL hZ wc wz hf hl hE hC.1 hsf
  obtain ⟨v, vm₁, ⟨U, L', ke, ks⟩, hw1, X', hS', hg', ⟨Lq, q1, q2, q3, q4, q5, q6, q7, q8⟩, stp⟩ := callSS X cx.1 hown (mvT (s := s.setVm vm) hZ w1) (mvT (s := s.setVm vm) hZ w2) (mvT (s := s.setVm vm) hZ wz) (mvT (s := s.setVm vm) hZ wc) hy hB (g := mkF m pc Ls st) rfl (by rw [cx.2.2.1]; exact hsize) (argsL := argsL) (rest := rest) hlen hst (by show 2 * 0 + _ ≤ _; omega) (cx.2.1 ▸ hd) (fun _ _ => ⟨hargs, eT, hc, hs⟩)
  dsimp only [Pt.U, Pt.locs, Pt.cells, Pt.slots] at X' hS' hg' q1 q2 q4 q5 q6 q7 q8 stp
  subst q4 q5 q6
  obtain ⟨t, o, h1, r⟩ := k v U.vm U.heap q1 q7 p e s m args below meth c U _ cx ⟨X', ⟨_, hS.trans hS' (Nat.le_trans hk (by rw [← eT]; exact hg')), Nat.le_refl _⟩, State.Warmed39.trans (t := s.setVm vm) hZ hS'.1, (hS'.1.alike.findClass _ _).trans hown, rfl, Fr.app N q3, q2, hC.trans q7, fun q => State.WarmedH.trans (t := s.setVm vm) (hW' q) (q8 q), a1, hEL⟩
  exact ⟨t, o, stp.trans h1, r⟩
theorem WP.callP {sf : List Addr} {y : MethodName} {yb : ByteArray} {yl : Nat} {rm : Room} {as' : Array Value} {Qy : Option Value → Heap → Prop} {index Wd ce' sl' : Nat} (C : Con l Z EL nar sf y yb yl none rm as' h Qy) (hd : decode bytes pc = .ok (.invokespecial index, 3)) (hy1 : y.name = "<init>") (w1 : (Cond.methodLink own index y).before a0 Z = true) (w2 : (Cond.instanceMethod y).before a0 Z = true) (wz : (Cond.initialized y.cls).before a0 Z = true) (wc : (Cond.code y yb yl none).before a0 Z = true) (hy : y.cls ≠ "java/lang/invoke/MethodHandle" ∧ y.cls ≠ "java/lang/invoke/VarHandle") (hsf : ∀ x ∈ sf, Safe Z EL vm h x ∧ x < h.size) (hf : rm.frames + 1 ≤ R.frames) (hl : Wd + (yl + 11) + rm.locals ≤ R.locals) (hce : ce + rm.cells = ce') (hsl : sl + rm.slots = sl') (hc : ce' ≤ R.cells) (hs : sl' ≤ R.slots) (hsize : Ls.size = maxL) {a : Addr} {argsL : List Value} (hargs : (Value.ref a :: argsL).toArray = as') (hlen : ∀ sig, parseMethodDescriptor y.desc = some sig → argsL.length = sig.parameters.length) (hst : st = argsL.reverse ++ .ref a :: rest) (hWd : (rest.map fun v => v.category).sum ≤ Wd) (hp : pc + 3 = n)
    (k : ∀ v vm' h', Qy v h' → CHr Z EL vm h vm' h' → WP l Z EL nar own nm bytes maxL ret R Q vm' h' ce' sl' n Ls (v.toList ++ rest)) : WP l Z EL nar own nm bytes maxL ret R Q vm h ce sl pc Ls st := by
  subst hp hce hsl
  intro p e s m args below meth c T L cx ⟨X, ⟨k0, hS, hk⟩, hZ, hown, eT, N, hE, hC, hW', a1, hEL⟩
  have hB := C.back (R := R) (p := p) (e := e) (below := below) (s := s) (args := args) (len := 3) (Wd := Wd) hEL hZ wc wz hf hl hE hC.1 hsf
  obtain ⟨v, vm₁, ⟨U, L', ke, ks⟩, hw1, X', hS', hg', ⟨Lq, q1, q2, q3, q4, q5, q6, q7, q8⟩, stp⟩ := X.specialBackS cx.1 hy1 hown (mvT (s := s.setVm vm) hZ w1) (mvT (s := s.setVm vm) hZ w2) (mvT (s := s.setVm vm) hZ wc) hy hB (g := mkF m pc Ls st) rfl (by rw [cx.2.2.1]; exact hsize) (Steps.refl _) (a := a) (argsL := argsL) (rest := rest) hlen hst (by show 2 * 0 + _ ≤ _; omega) (cx.2.1 ▸ hd) (fun _ _ => ⟨hargs, eT, hc, hs⟩)
  dsimp only [Pt.U, Pt.locs, Pt.cells, Pt.slots] at X' hS' hg' q1 q2 q4 q5 q6 q7 q8 stp
  subst q4 q5 q6
  obtain ⟨t, o, h1, r⟩ := k v U.vm U.heap q1 q7 p e s m args below meth c U _ cx ⟨X', ⟨_, hS.trans hS' (Nat.le_trans hk (by rw [← eT]; exact hg')), Nat.le_refl _⟩, State.Warmed39.trans (t := s.setVm vm) hZ hS'.1, (hS'.1.alike.findClass _ _).trans hown, rfl, Fr.app N q3, q2, hC.trans q7, fun q => State.WarmedH.trans (t := s.setVm vm) (hW' q) (q8 q), a1, hEL⟩
  exact ⟨t, o, stp.trans h1, r⟩
theorem WP.callV {sf : List Addr} {y : MethodName} {yb : ByteArray} {yl : Nat} {yr : Option FieldType} {rm : Room} {as' : Array Value} {Qy : Option Value → Heap → Prop} {index Wd ce' sl' : Nat} {x : MethodName} {Cn : String} {a : Addr} (C : Con l Z EL nar sf y yb yl yr rm as' h Qy) (E : Exa Z h a Cn) (hd : decode bytes pc = .ok (.invokevirtual index, 3)) (w1 : (Cond.methodLink own index x).before a0 Z = true) (w2 : (Cond.declares x).before a0 Z = true) (w3 : (Cond.selects Cn x y).before a0 Z = true) (w4 : (Cond.instanceMethod y).before a0 Z = true) (wz : (Cond.initialized y.cls).before a0 Z = true) (wc : (Cond.code y yb yl yr).before a0 Z = true) (hy : x.cls ≠ "java/lang/invoke/MethodHandle" ∧ x.cls ≠ "java/lang/invoke/VarHandle") (hnf : ∀ s : State, Z.Warmed39 s.vm → NotFace s x) (hsf : ∀ x ∈ sf, Safe Z EL vm h x ∧ x < h.size) (hf : rm.frames + 1 ≤ R.frames) (hl : Wd + (yl + 11) + rm.locals ≤ R.locals) (hce : ce + rm.cells = ce') (hsl : sl + rm.slots = sl') (hc : ce' ≤ R.cells) (hs : sl' ≤ R.slots) (hsize : Ls.size = maxL) {argsL : List Value} (hargs : (Value.ref a :: argsL).toArray = as') (hlen : ∀ sig, parseMethodDescriptor x.desc = some sig → argsL.length = sig.parameters.length) (hst : st = argsL.reverse ++ .ref a :: rest) (hWd : (rest.map fun v => v.category).sum ≤ Wd) (hp : pc + 3 = n)
    (k : ∀ v vm' h', Qy v h' → CHr Z EL vm h vm' h' → WP l Z EL nar own nm bytes maxL ret R Q vm' h' ce' sl' n Ls (v.toList ++ rest)) : WP l Z EL nar own nm bytes maxL ret R Q vm h ce sl pc Ls st := by
  subst hp hce hsl
  intro p e s m args below meth c T L cx ⟨X, ⟨k0, hS, hk⟩, hZ, hown, eT, N, hE, hC, hW', a1, hEL⟩
  have hB := C.back (R := R) (p := p) (e := e) (below := below) (s := s) (args := args) (len := 3) (Wd := Wd) hEL hZ wc wz hf hl hE hC.1 hsf
  obtain ⟨cq, kq, qa, qb, qc⟩ := isOf (s := s.setVm vm) hZ eT E
  obtain ⟨v, vm₁, ⟨U, L', ke, ks⟩, hw1, X', hS', hg', ⟨Lq, q1, q2, q3, q4, q5, q6, q7, q8⟩, stp⟩ := X.virtualBackS cx.1 hown (mvT (s := s.setVm vm) hZ w1) (mvT (s := s.setVm vm) hZ w2) (hnf _ hZ) (mvT (s := s.setVm vm) hZ w3) (mvT (s := s.setVm vm) hZ w4) hy hB qa qc (g := mkF m pc Ls st) rfl (by rw [cx.2.2.1]; exact hsize) (Steps.refl _) (argsL := argsL) (rest := rest) hlen hst (by show 2 * 0 + _ ≤ _; omega) (cx.2.1 ▸ hd) (fun _ _ => ⟨hargs, eT, hc, hs⟩)
  dsimp only [Pt.U, Pt.locs, Pt.cells, Pt.slots] at X' hS' hg' q1 q2 q4 q5 q6 q7 q8 stp
  subst q4 q5 q6
  obtain ⟨t, o, h1, r⟩ := k v U.vm U.heap q1 q7 p e s m args below meth c U _ cx ⟨X', ⟨_, hS.trans hS' (Nat.le_trans hk (by rw [← eT]; exact hg')), Nat.le_refl _⟩, State.Warmed39.trans (t := s.setVm vm) hZ hS'.1, (hS'.1.alike.findClass _ _).trans hown, rfl, Fr.app N q3, q2, hC.trans q7, fun q => State.WarmedH.trans (t := s.setVm vm) (hW' q) (q8 q), a1, hEL⟩
  exact ⟨t, o, stp.trans h1, r⟩
theorem WP.backP {y : MethodName} {as' : Array Value} {Qy : Option Value → Heap → List Loc → Prop} {index Wd kc ks ce' sl' : Nat} {yb : ByteArray} {yl : Nat} (hK : ∀ (p : Program) (e : Env) (below : List Frame) (s : State) (args : Array Value), Z.Warmed39 (s.setVm vm).vm → Back l R p e below (s.setVm vm) args y 3 Wd (fun A a => a = as' ∧ A.U.heap = h ∧ A.cells + kc ≤ R.cells ∧ A.slots + ks ≤ R.slots) (fun A _ v B => ∃ L, Qy v B.U.heap L ∧ B.locs = A.locs ++ L ∧ B.cells = A.cells + kc ∧ B.slots = A.slots + ks)) (hq : ∀ v h' L, Qy v h' L → Fr Z.heap.size L ∧ Ext Z.heap h' ∧ CHr Z EL vm h vm h') (hd : decode bytes pc = .ok (.invokespecial index, 3)) (hy1 : y.name = "<init>") (w1 : (Cond.methodLink own index y).before a0 Z = true) (w2 : (Cond.instanceMethod y).before a0 Z = true) (wc : (Cond.code y yb yl none).before a0 Z = true) (hy : y.cls ≠ "java/lang/invoke/MethodHandle" ∧ y.cls ≠ "java/lang/invoke/VarHandle") (hce : ce + kc = ce') (hsl : sl + ks = sl') (hc : ce' ≤ R.cells) (hs : sl' ≤ R.slots) (hsize : Ls.size = maxL) {a : Addr} {argsL : List Value} (hargs : (Value.ref a :: argsL).toArray = as') (hlen : ∀ sig, parseMethodDescriptor y.desc = some sig → argsL.length = sig.parameters.length) (hst : st = argsL.reverse ++ .ref a :: rest) (hWd : (rest.map fun v => v.category).sum ≤ Wd) (hp : pc + 3 = n)
    (k : ∀ v h' L, Qy v h' L → CHr Z EL vm h vm h' → WP l Z EL nar own nm bytes maxL ret R Q vm h' ce' sl' n Ls (v.toList ++ rest)) : WP l Z EL nar own nm bytes maxL ret R Q vm h ce sl pc Ls st := by
  subst hp hce hsl
  intro p e s m args below meth c T L cx ⟨X, ⟨k0, hS, hk⟩, hZ, hown, eT, N, hE, hC, hW', a1, hEL⟩
  obtain ⟨v, vm₁, ⟨U, L', ke, ks'⟩, hw1, X', ⟨Lq, q1, q4, q5, q6⟩, stp⟩ := X.specialBack cx.1 hy1 hown (mvT (s := s.setVm vm) hZ w1) (mvT (s := s.setVm vm) hZ w2) (mvT (s := s.setVm vm) hZ wc) hy (hK p e below s args hZ) (g := mkF m pc Ls st) rfl (by rw [cx.2.2.1]; exact hsize) (Steps.refl _) (a := a) (argsL := argsL) (rest := rest) hlen hst (by show 2 * 0 + _ ≤ _; omega) (cx.2.1 ▸ hd) (fun _ _ => ⟨hargs, eT, hc, hs⟩)
  dsimp only [Pt.U, Pt.locs, Pt.cells, Pt.slots] at X' q1 q4 q5 q6 stp
  subst q4 q5 q6
  obtain ⟨r1, r2, r3⟩ := hq _ _ _ q1
  obtain ⟨t, o, h1, r⟩ := k v U.heap Lq q1 r3 p e s m args below meth c U _ cx ⟨X', ⟨k0, hS, Nat.le_trans hk r3.2.1⟩, hZ, hown, rfl, Fr.app N r1, r2, hC.trans r3, hW', a1, hEL⟩
  exact ⟨t, o, stp.trans h1, r⟩
theorem WP.backV {y : MethodName} {as' : Array Value} {Qy : Option Value → Heap → List Loc → Prop} {index Wd kc ks ce' sl' : Nat} {x : MethodName} {Cn : String} {a : Addr} (hK : ∀ (p : Program) (e : Env) (below : List Frame) (s : State) (args : Array Value), Z.Warmed39 (s.setVm vm).vm → Back l R p e below (s.setVm vm) args y 3 Wd (fun A a => a = as' ∧ A.U.heap = h ∧ A.cells + kc ≤ R.cells ∧ A.slots + ks ≤ R.slots) (fun A _ v B => ∃ L, Qy v B.U.heap L ∧ B.locs = A.locs ++ L ∧ B.cells = A.cells + kc ∧ B.slots = A.slots + ks)) (hq : ∀ v h' L, Qy v h' L → Fr Z.heap.size L ∧ Ext Z.heap h' ∧ CHr Z EL vm h vm h') (E : Exa Z h a Cn) (hd : decode bytes pc = .ok (.invokevirtual index, 3)) (w1 : (Cond.methodLink own index x).before a0 Z = true) (w2 : (Cond.declares x).before a0 Z = true) (w3 : (Cond.selects Cn x y).before a0 Z = true) (w4 : (Cond.instanceMethod y).before a0 Z = true) (hy : x.cls ≠ "java/lang/invoke/MethodHandle" ∧ x.cls ≠ "java/lang/invoke/VarHandle") (hnf : ∀ s : State, Z.Warmed39 s.vm → NotFace s x) (hce : ce + kc = ce') (hsl : sl + ks = sl') (hc : ce' ≤ R.cells) (hs : sl' ≤ R.slots) (hsize : Ls.size = maxL) {argsL : List Value} (hargs : (Value.ref a :: argsL).toArray = as') (hlen : ∀ sig, parseMethodDescriptor x.desc = some sig → argsL.length = sig.parameters.length) (hst : st = argsL.reverse ++ .ref a :: rest) (hWd : (rest.map fun v => v.category).sum ≤ Wd) (hp : pc + 3 = n)
    (k : ∀ v h' L, Qy v h' L → CHr Z EL vm h vm h' → WP l Z EL nar own nm bytes maxL ret R Q vm h' ce' sl' n Ls (v.toList ++ rest)) : WP l Z EL nar own nm bytes maxL ret R Q vm h ce sl pc Ls st := by
  subst hp hce hsl
  intro p e s m args below meth c T L cx ⟨X, ⟨k0, hS, hk⟩, hZ, hown, eT, N, hE, hC, hW', a1, hEL⟩
  obtain ⟨cq, kq, qa, qb, qc⟩ := isOf (s := s.setVm vm) hZ eT E
  obtain ⟨v, vm₁, ⟨U, L', ke, ks'⟩, hw1, X', ⟨Lq, q1, q4, q5, q6⟩, stp⟩ := X.virtualBack cx.1 hown (mvT (s := s.setVm vm) hZ w1) (mvT (s := s.setVm vm) hZ w2) (hnf _ hZ) (mvT (s := s.setVm vm) hZ w3) (mvT (s := s.setVm vm) hZ w4) hy (hK p e below s args hZ) qa qc (g := mkF m pc Ls st) rfl (by rw [cx.2.2.1]; exact hsize) (Steps.refl _) (argsL := argsL) (rest := rest) hlen hst (by show 2 * 0 + _ ≤ _; omega) (cx.2.1 ▸ hd) (fun _ _ => ⟨hargs, eT, hc, hs⟩)
  dsimp only [Pt.U, Pt.locs, Pt.cells, Pt.slots] at X' q1 q4 q5 q6 stp
  subst q4 q5 q6
  obtain ⟨r1, r2, r3⟩ := hq _ _ _ q1
  obtain ⟨t, o, h1, r⟩ := k v U.heap Lq q1 r3 p e s m args below meth c U _ cx ⟨X', ⟨k0, hS, Nat.le_trans hk r3.2.1⟩, hZ, hown, rfl, Fr.app N r1, r2, hC.trans r3, hW', a1, hEL⟩
  exact ⟨t, o, stp.trans h1, r⟩
theorem WP.ldcO {index : Nat} {text : String} {nn ce' sl' : Nat} (hd : decode bytes pc = .ok (.ldc index, 2)) (hnar : nar = false) (w : (Cond.stringLink own index text).before a0 Z = true) (wS : ∀ a ∈ Bundle.stringAtoms, a.before a0 Z = true) (hn : 4 * text.toList.length ≤ nn) (hbig : nn ≤ 536870912) (hce : ce + 2 = ce') (hsl : sl + (nn + 4) = sl') (hc : ce' ≤ R.cells) (hl : sl' ≤ R.slots) (hEL : EW Z a0 EL) (hp : pc + 2 = n)
    (k : ∀ a vm' h', Ext h h' → CHr Z EL vm h vm' h' → WP l Z EL nar own nm bytes maxL ret R Q vm' h' ce' sl' n Ls (.ref a :: st)) : WP l Z EL nar own nm bytes maxL ret R Q vm h ce sl pc Ls st := by
  subst hp hce hsl
  intro p e s m args below meth c T L cx ⟨X, ⟨k0, hS, hk⟩, hZ, hown, eT, N, hE, hC, hW', hEL'⟩
  obtain ⟨a, T', h', k1, X', e', E', hS', hk', hZ', hown', hr, -, stp⟩ := ldcOH X cx.1 hZ hown w wS eT hS hk hEL hC.1 (g := mkF m pc Ls st) rfl (cx.2.1 ▸ hd) hn hbig hc hl
  obtain ⟨t, o, h1, r⟩ := k a T'.vm h' E' hr p e s m args below meth c T' L cx ⟨X', ⟨k1, hS', hk'⟩, hZ', hown', e', N, ext_trans hE E', hC.trans hr, (fun q => by rw [hnar] at q; cases q), hEL'⟩
  exact ⟨t, o, stp _ h1, r⟩
theorem WP.ldcC {index : Nat} {text : String} {nn ce' sl' : Nat} {vs : List Value} {z : Int32} (hd : decode bytes pc = .ok (.ldc index, 2)) (hnar : nar = false) (w : (Cond.stringLink own index text).before a0 Z = true) (wS : ∀ a ∈ Bundle.stringAtoms, a.before a0 Z = true) (hmem : (own, index) ∈ EL) (ht : (∀ c ∈ text.toList, c.toNat < 256) ∧ text.toList.map (fun c => Value.int (Jvm.Lit.byteI c.toNat.toUInt16)) = vs) (hz : ¬ z < 0) (hzl : z.toNatClampNeg = vs.length) (hn : 4 * text.toList.length ≤ nn) (hbig : nn ≤ 536870912) (hce : ce + 2 = ce') (hsl : sl + (nn + 4) = sl') (hc : ce' ≤ R.cells) (hl : sl' ≤ R.slots) (hEL : EW Z a0 EL) (hp : pc + 2 = n)
    (k : ∀ a b kb vm' h', Ext h h' → CHr Z EL vm h vm' h' → Exa Z h' a "java/lang/String" → Fld Z h' a "java/lang/String" "coder" "B" (.int 0) → Fld Z h' a "java/lang/String" "value" "[B" (.ref b) → Arv Z h' b kb .byte z vs (.int 0) → Lit (Z.setVm vm') own index a → (∀ x, Safe Z EL vm' h' x → x ≠ a ∧ x ≠ b) → WP l Z EL nar own nm bytes maxL ret R Q vm' h' ce' sl' n Ls (.ref a :: st)) : WP l Z EL nar own nm bytes maxL ret R Q vm h ce sl pc Ls st := by
  subst hp hce hsl
  intro p e s m args below meth c T L cx ⟨X, ⟨k0, hS, hk⟩, hZ, hown, eT, N, hE, hC, hW', hEL'⟩
  obtain ⟨a, T', h', k1, b, kb, X', e', E', hS', hk', hZ', hown', f1, f2, f3, f4, -, -, hr, hLi, hNe, stp⟩ := ldcCH X cx.1 hZ hown w wS eT hS hk hEL hmem hC.1 ht hz hzl (g := mkF m pc Ls st) rfl (cx.2.1 ▸ hd) hn hbig hc hl
  obtain ⟨t, o, h1, r⟩ := k a b kb T'.vm h' E' hr f1 f2 f3 f4 hLi hNe p e s m args below meth c T' L cx ⟨X', ⟨k1, hS', hk'⟩, hZ', hown', e', N, ext_trans hE E', hC.trans hr, (fun q => by rw [hnar] at q; cases q), hEL'⟩
  exact ⟨t, o, stp _ h1, r⟩
theorem WP.baload {a : Addr} {cA : ClassId} {z j : Int32} {vs : List Value} {d v : Value} (hd : decode bytes pc = .ok (.baload, 1)) (A : Arv Z h a cA .byte z vs d) (hj : ¬ j < 0 ∧ j < z) (hv : vs.getD j.toNatClampNeg d = v) (hp : pc + 1 = n) (k : WP l Z EL nar own nm bytes maxL ret R Q vm h ce sl n Ls (v :: rest)) : WP l Z EL nar own nm bytes maxL ret R Q vm h ce sl pc Ls (.int j :: .ref a :: rest) := by
  subst hp
  obtain ⟨cl, A1, q1, S1, M1, H1, G1⟩ := A
  refine WP.look (Ls' := Ls) (fun p e s args below T m meth c L hx hb X hZ hown eT => ⟨T, X, eT, fun target q => ?_⟩) k
  exact X.baloadBytes hx (j := j) (v := v) (by rw [eT]; exact A1.1) (State.isArrayOf_alike hZ.alike A1.2.1) A1.2.2 (inb_of S1 hj) (H1.at (inb_of S1 hj) hv) (g := mkF m pc Ls (.int j :: .ref a :: rest)) rfl rfl (hb ▸ hd) _ q
theorem WP.caload {a : Addr} {cA : ClassId} {z j : Int32} {vs : List Value} {d v : Value} (hd : decode bytes pc = .ok (.caload, 1)) (A : Arv Z h a cA .char z vs d) (hj : ¬ j < 0 ∧ j < z) (hv : vs.getD j.toNatClampNeg d = v) (hp : pc + 1 = n) (k : WP l Z EL nar own nm bytes maxL ret R Q vm h ce sl n Ls (v :: rest)) : WP l Z EL nar own nm bytes maxL ret R Q vm h ce sl pc Ls (.int j :: .ref a :: rest) := by
  subst hp
  obtain ⟨cl, A1, q1, S1, M1, H1, G1⟩ := A
  refine WP.look (Ls' := Ls) (fun p e s args below T m meth c L hx hb X hZ hown eT => ⟨T, X, eT, fun target q => ?_⟩) k
  exact X.caload hx (j := j) (v := v) (by rw [eT]; exact A1.1) (State.isArrayOf_alike hZ.alike A1.2.1) A1.2.2 (inb_of S1 hj) (H1.at (inb_of S1 hj) hv) (g := mkF m pc Ls (.int j :: .ref a :: rest)) rfl rfl (hb ▸ hd) _ q
theorem WP.iaload {a : Addr} {cA : ClassId} {z j : Int32} {vs : List Value} {d v : Value} (hd : decode bytes pc = .ok (.iaload, 1)) (A : Arv Z h a cA .int z vs d) (hj : ¬ j < 0 ∧ j < z) (hv : vs.getD j.toNatClampNeg d = v) (hp : pc + 1 = n) (k : WP l Z EL nar own nm bytes maxL ret R Q vm h ce sl n Ls (v :: rest)) : WP l Z EL nar own nm bytes maxL ret R Q vm h ce sl pc Ls (.int j :: .ref a :: rest) := by
  subst hp
  obtain ⟨cl, A1, q1, S1, M1, H1, G1⟩ := A
  refine WP.look (Ls' := Ls) (fun p e s args below T m meth c L hx hb X hZ hown eT => ⟨T, X, eT, fun target q => ?_⟩) k
  exact X.iaload hx (j := j) (v := v) (by rw [eT]; exact A1.1) (State.isArrayOf_alike hZ.alike A1.2.1) A1.2.2 (inb_of S1 hj) (H1.at (inb_of S1 hj) hv) (g := mkF m pc Ls (.int j :: .ref a :: rest)) rfl rfl (hb ▸ hd) _ q
theorem WP.castY {K : String} {index : Nat} {a : Addr} (hd : decode bytes pc = .ok (.checkcast index, 3)) (w : (Cond.classLink own index K).before a0 Z = true) (F : Ins Z h a K true) (hp : pc + 3 = n) (k : WP l Z EL nar own nm bytes maxL ret R Q vm h ce sl n Ls (.ref a :: rest)) : WP l Z EL nar own nm bytes maxL ret R Q vm h ce sl pc Ls (.ref a :: rest) := by
  subst hp
  refine WP.look (fun p e s args below T m meth c L hx hb X hZ hown eT => ?_) k
  exact castY X hx hZ hown w eT F (g := mkF m pc Ls (.ref a :: rest)) rfl rfl (hb ▸ hd)
theorem WP.instY {K : String} {index : Nat} {a : Addr} (hd : decode bytes pc = .ok (.instanceof index, 3)) (w : (Cond.classLink own index K).before a0 Z = true) (F : Ins Z h a K true) (hp : pc + 3 = n) (k : WP l Z EL nar own nm bytes maxL ret R Q vm h ce sl n Ls (.int 1 :: rest)) : WP l Z EL nar own nm bytes maxL ret R Q vm h ce sl pc Ls (.ref a :: rest) := by
  subst hp
  refine WP.look (fun p e s args below T m meth c L hx hb X hZ hown eT => ?_) k
  exact instY X hx hZ hown w eT F (g := mkF m pc Ls (.ref a :: rest)) rfl rfl (hb ▸ hd)
theorem WP.instNo {K C : String} {index : Nat} {a : Addr} (hd : decode bytes pc = .ok (.instanceof index, 3)) (w : (Cond.classLink own index K).before a0 Z = true) (E : Exa Z h a C) (F : ∃ c t, Z.vm.findClass C = some c ∧ Z.vm.findClass K = some t ∧ Z.vm.assignable c t = false) (hp : pc + 3 = n) (k : WP l Z EL nar own nm bytes maxL ret R Q vm h ce sl n Ls (.int 0 :: rest)) : WP l Z EL nar own nm bytes maxL ret R Q vm h ce sl pc Ls (.ref a :: rest) := by
  subst hp
  refine WP.look (fun p e s args below T m meth c L hx hb X hZ hown eT => ?_) k
  exact instNo X hx hZ hown w eT E F (g := mkF m pc Ls (.ref a :: rest)) rfl rfl (hb ▸ hd)
theorem WP.instNull {index : Nat} (hd : decode bytes pc = .ok (.instanceof index, 3)) (hp : pc + 3 = n) (k : WP l Z EL nar own nm bytes maxL ret R Q vm h ce sl n Ls (.int 0 :: rest)) : WP l Z EL nar own nm bytes maxL ret R Q vm h ce sl pc Ls (.null :: rest) := by
  subst hp
  refine WP.look (Ls' := Ls) (fun p e s args below T m meth c L hx hb X hZ hown eT => ⟨T, X, eT, fun target q => ?_⟩) k
  exact X.instanceofNull hx (g := mkF m pc Ls (.null :: rest)) rfl rfl (hb ▸ hd) _ q
theorem WP.castNull {index : Nat} (hd : decode bytes pc = .ok (.checkcast index, 3)) (hp : pc + 3 = n) (k : WP l Z EL nar own nm bytes maxL ret R Q vm h ce sl n Ls (.null :: rest)) : WP l Z EL nar own nm bytes maxL ret R Q vm h ce sl pc Ls (.null :: rest) := by
  subst hp
  refine WP.look (Ls' := Ls) (fun p e s args below T m meth c L hx hb X hZ hown eT => ⟨T, X, eT, fun target q => ?_⟩) k
  exact X.checkcastNull hx (g := mkF m pc Ls (.null :: rest)) rfl rfl (hb ▸ hd) _ q
theorem WP.ldcA {index : Nat} {text : String} {a : Addr} (hd : decode bytes pc = .ok (.ldc index, 2)) (w : (Cond.stringLink own index text).before a0 Z = true) (Li : Lit (Z.setVm vm) own index a) (hp : pc + 2 = n) (k : WP l Z EL nar own nm bytes maxL ret R Q vm h ce sl n Ls (.ref a :: st)) : WP l Z EL nar own nm bytes maxL ret R Q vm h ce sl pc Ls st := by
  subst hp
  refine WP.look (Ls' := Ls) (fun p e s args below T m meth c L hx hb X hZ hown eT => ⟨T, X, eT, fun target q => ?_⟩) k
  exact ldcAgain X hx hZ hown w Li (g := mkF m pc Ls st) rfl (hb ▸ hd) _ q
theorem WP.backS {y : MethodName} {as' : Array Value} {Qy : Option Value → Heap → List Loc → Prop} {index Wd kc ks ce' sl' : Nat} {yb : ByteArray} {yl : Nat} {yr : Option FieldType} (hK : ∀ (p : Program) (e : Env) (below : List Frame) (s : State) (args : Array Value), Z.Warmed39 (s.setVm vm).vm → Back l R p e below (s.setVm vm) args y 3 Wd (fun A a => a = as' ∧ A.U.heap = h ∧ A.cells + kc ≤ R.cells ∧ A.slots + ks ≤ R.slots) (fun A _ v B => ∃ L, Qy v B.U.heap L ∧ B.locs = A.locs ++ L ∧ B.cells = A.cells + kc ∧ B.slots = A.slots + ks)) (hq : ∀ v h' L, Qy v h' L → Fr Z.heap.size L ∧ Ext Z.heap h' ∧ CHr Z EL vm h vm h') (hd : decode bytes pc = .ok (.invokestatic index, 3)) (w1 : (Cond.methodLink own index y).before a0 Z = true) (w2 : (Cond.static y).before a0 Z = true) (wz : (Cond.initialized y.cls).before a0 Z = true) (wc : (Cond.code y yb yl yr).before a0 Z = true) (hy : y.cls ≠ "java/lang/invoke/MethodHandle" ∧ y.cls ≠ "java/lang/invoke/VarHandle") (hce : ce + kc = ce') (hsl : sl + ks = sl') (hc : ce' ≤ R.cells) (hs : sl' ≤ R.slots) (hsize : Ls.size = maxL) {argsL : List Value} (hargs : argsL.toArray = as') (hlen : ∀ sig, parseMethodDescriptor y.desc = some sig → argsL.length = sig.parameters.length) (hst : st = argsL.reverse ++ rest) (hWd : (rest.map fun v => v.category).sum ≤ Wd) (hp : pc + 3 = n)
    (k : ∀ v h' L, Qy v h' L → CHr Z EL vm h vm h' → WP l Z EL nar own nm bytes maxL ret R Q vm h' ce' sl' n Ls (v.toList ++ rest)) : WP l Z EL nar own nm bytes maxL ret R Q vm h ce sl pc Ls st := by
  subst hp hce hsl
  intro p e s m args below meth c T L cx ⟨X, ⟨k0, hS, hk⟩, hZ, hown, eT, N, hE, hC, hW', a1, hEL⟩
  obtain ⟨v, vm₁, ⟨U, L', ke, ks'⟩, hw1, X', ⟨Lq, q1, q4, q5, q6⟩, stp⟩ := Jvm.LawKit.callS X cx.1 hown (mvT (s := s.setVm vm) hZ w1) (mvT (s := s.setVm vm) hZ w2) (mvT (s := s.setVm vm) hZ wz) (mvT (s := s.setVm vm) hZ wc) hy (hK p e below s args hZ) (g := mkF m pc Ls st) rfl (by rw [cx.2.2.1]; exact hsize) (argsL := argsL) (rest := rest) hlen hst (by show 2 * 0 + _ ≤ _; omega) (cx.2.1 ▸ hd) (fun _ _ => ⟨hargs, eT, hc, hs⟩)
  dsimp only [Pt.U, Pt.locs, Pt.cells, Pt.slots] at X' q1 q4 q5 q6 stp
  subst q4 q5 q6
  obtain ⟨r1, r2, r3⟩ := hq _ _ _ q1
  obtain ⟨t, o, h1, r⟩ := k v U.heap Lq q1 r3 p e s m args below meth c U _ cx ⟨X', ⟨k0, hS, Nat.le_trans hk r3.2.1⟩, hZ, hown, rfl, Fr.app N r1, r2, hC.trans r3, hW', a1, hEL⟩
  exact ⟨t, o, stp _ h1, r⟩
end Steps
end Jvm.OwnW
namespace Jvm.Pilot.@@N@@
open Jvm Jvm.ClassFile Sem Op Lib Jvm.Free Jvm.Stand Jvm.LawKit Jvm.RoadKit Bundle Jvm.OwnW Jvm.Pilot.@@N@@.Jvm.D
theorem own_pn0 : plainName "java/lang/StringLatin1" = true := by first | (simp [plainName, overriddenIn]; done) | decide +kernel
theorem own_pn1 : plainName "java/lang/String" = true := by first | (simp [plainName, overriddenIn]; done) | decide +kernel
theorem own_pn2 : plainName "java/util/Objects" = true := by first | (simp [plainName, overriddenIn]; done) | decide +kernel
theorem own_pn3 : plainName "com/example/allow_policy/allowpolicy/model/Condition" = true := by first | (simp [plainName, overriddenIn]; done) | decide +kernel
theorem own_pn4 : plainName "com/example/allow_policy/allowpolicy/model/ConditionEqualsPinLaw" = true := by first | (simp [plainName, overriddenIn]; done) | decide +kernel
theorem own_pd0 : parseMethodDescriptor "([B[B)Z" = some ⟨[(.array .byte), (.array .byte)], some .boolean⟩ := by decide +kernel
theorem own_pd1 : parseMethodDescriptor "([CIILjava/lang/Void;)V" = some ⟨[(.array .char), .int, .int, (.object "java/lang/Void")], none⟩ := by decide +kernel
theorem own_pd2 : parseMethodDescriptor "(C)Z" = some ⟨[.char], some .boolean⟩ := by decide +kernel
theorem own_pd3 : parseMethodDescriptor "(C)[B" = some ⟨[.char], some (.array .byte)⟩ := by decide +kernel
theorem own_pd4 : parseMethodDescriptor "([BB)V" = some ⟨[(.array .byte), .byte], none⟩ := by decide +kernel
theorem own_pd5 : parseMethodDescriptor "(Ljava/lang/Object;)Z" = some ⟨[(.object "java/lang/Object")], some .boolean⟩ := by decide +kernel
theorem own_pd6 : parseMethodDescriptor "(Ljava/lang/Object;Ljava/lang/String;)Ljava/lang/Object;" = some ⟨[(.object "java/lang/Object"), (.object "java/lang/String")], some (.object "java/lang/Object")⟩ := by decide +kernel
theorem own_pd7 : parseMethodDescriptor "(Ljava/lang/Object;Ljava/lang/Object;)Z" = some ⟨[(.object "java/lang/Object"), (.object "java/lang/Object")], some .boolean⟩ := by decide +kernel
theorem own_pd8 : parseMethodDescriptor "(C)Ljava/lang/String;" = some ⟨[.char], some (.object "java/lang/String")⟩ := by decide +kernel
theorem own_pd9 : parseMethodDescriptor "([C)V" = some ⟨[(.array .char)], none⟩ := by decide +kernel
theorem own_pd10 : parseMethodDescriptor "(IZ)I" = some ⟨[.int, .boolean], some .int⟩ := by decide +kernel
theorem own_pd11 : parseMethodDescriptor "(I)Ljava/lang/String;" = some ⟨[.int], some (.object "java/lang/String")⟩ := by decide +kernel
theorem own_pd12 : parseMethodDescriptor "(Ljava/lang/String;Ljava/lang/String;Ljava/lang/String;)V" = some ⟨[(.object "java/lang/String"), (.object "java/lang/String"), (.object "java/lang/String")], none⟩ := by decide +kernel
/-- a String that spells bs (its bytes) -/
def Str (Z : State) (h : Heap) (a : Addr) (bs : List Int32) : Prop := Exa Z h a "java/lang/String" ∧ Fld Z h a "java/lang/String" "coder" "B" (.int 0) ∧ ∃ (b : Addr) (kb : ClassId) (z : Int32), Fld Z h a "java/lang/String" "value" "[B" (.ref b) ∧ Arv Z h b kb .byte z (bs.map Value.int) (.int 0) ∧ z.toNatClampNeg = bs.length
theorem Str.ext {Z : State} {h h' : Heap} {a : Addr} {bs : List Int32} (F : Str Z h a bs) (E : Ext h h') : Str Z h' a bs := by
  obtain ⟨f1, f2, b, kb, z, f3, f4, f5⟩ := F
  exact ⟨f1.ext E, f2.ext E, b, kb, z, f3.ext E, f4.ext E, f5⟩
theorem Str.lt {Z : State} {h : Heap} {a : Addr} {bs : List Int32} (F : Str Z h a bs) : a < h.size := F.1.lt
theorem own_fld_inj {Z : State} {h : Heap} {a : Addr} {C n d : String} {v w : Value} (F : Fld Z h a C n d v) (G : Fld Z h a C n d w) : v = w := by
  obtain ⟨c1, cf1, k1, i1, f1, e1, e2, -, -, -, -, e7⟩ := F
  obtain ⟨c2, cf2, k2, i2, f2, g1, g2, -, -, -, -, g7⟩ := G
  cases e1.symm.trans g1
  cases e2.symm.trans g2
  exact Option.some.inj (e7.symm.trans g7)
theorem own_arv_inj {Z : State} {h : Heap} {a : Addr} {k k' : ClassId} {ty : FieldType} {z z' : Int32} {vs ws : List Value} {d : Value} (F : Arv Z h a k ty z vs d) (G : Arv Z h a k' ty z' ws d) (hv : z.toNatClampNeg = vs.length) (hw : z'.toNatClampNeg = ws.length) : vs = ws := by
  obtain ⟨c1, A1, -, s1, -, H1, -⟩ := F
  obtain ⟨c2, A2, -, s2, -, H2, -⟩ := G
  cases A1.1.symm.trans A2.1
  have e : vs.length = ws.length := by omega
  refine List.ext_getElem e fun i h1 h2 => ?_
  have q1 := H1 i (by omega)
  have q2 := H2 i (by omega)
  have q := q1.symm.trans q2
  simpa [List.getD_eq_getElem?_getD, h1, h2] using q
theorem own_map_inj {bs ds : List Int32} (h : bs.map Value.int = ds.map Value.int) : bs = ds :=
  (List.map_inj_right (fun x y e => by injection e)).mp h
theorem Str.inj {Z : State} {h : Heap} {a : Addr} {bs ds : List Int32} (F : Str Z h a bs) (G : Str Z h a ds) : bs = ds := by
  obtain ⟨-, -, b, kb, z, f3, f4, f5⟩ := F
  obtain ⟨-, -, b', kb', z', g3, g4, g5⟩ := G
  have e := own_fld_inj f3 g3
  injection e with e
  subst e
  exact own_map_inj (own_arv_inj f4 g4 (by simpa using f5) (by simpa using g5))
theorem own_n32 {k : Nat} (h : k < 2147483648) : (Int32.ofNat k).toInt = k := by
  rw [Int32.toInt_ofNat', show Int32.size = 4294967296 from rfl]; simp only [Int.bmod]; omega
theorem own_cat {d : Value} (h : d.isRef = true) : d.category = 1 := by rcases ref_cases h with rfl | ⟨a, rfl⟩ <;> rfl
theorem own_ne_t {x y : Value} (h : x ≠ y) : XT.acmp .ne x y = true := decide_eq_true h
theorem own_ne_f {x y : Value} (h : x = y) : XT.acmp .ne x y = false := decide_eq_false (fun q => q h)
theorem own_eq_t {x y : Value} (h : x = y) : XT.acmp .eq x y = true := decide_eq_true h
theorem own_eq_f {x y : Value} (h : x ≠ y) : XT.acmp .eq x y = false := decide_eq_false h
theorem own_clamp {k : Nat} (h : k < 2147483648) : (Int32.ofNat k).toNatClampNeg = k := by
  simp only [Int32.toNatClampNeg, own_n32 h]; rfl
theorem own_z {z : Int32} (h0 : ¬ z < 0) : z = Int32.ofNat z.toNatClampNeg ∧ z.toNatClampNeg < 2147483648 := by
  have q := back32 h0
  exact ⟨q.1.symm, q.2⟩
theorem own_ltN {k m : Nat} (hk : k < 2147483648) (hm : m < 2147483648) : (Int32.ofNat k < Int32.ofNat m) ↔ k < m := by
  rw [Int32.lt_iff_toInt_lt, own_n32 hk, own_n32 hm]; omega
theorem own_nn {k : Nat} (hk : k < 2147483648) : ¬ (Int32.ofNat k < 0) := by
  rw [Int32.lt_iff_toInt_lt, own_n32 hk]
  have e0 : (0 : Int32).toInt = 0 := rfl
  omega
theorem own_inc {k : Nat} (hk : k + 1 < 2147483648) : Int32.ofNat k + Int32.ofInt 1 = Int32.ofNat (k + 1) := by
  rw [← Int32.toInt_inj, Int32.toInt_add, own_n32 (by omega), own_n32 hk]
  have e0 : (Int32.ofInt 1).toInt = 1 := rfl
  rw [e0]; simp only [Int.bmod]; omega

theorem dLE_0 : decode jdk_43_method_13_code 0 = .ok (.aload_n 0, 1) := by decide +kernel
theorem dLE_1 : decode jdk_43_method_13_code 1 = .ok (.arraylength, 1) := by decide +kernel
theorem dLE_2 : decode jdk_43_method_13_code 2 = .ok (.aload_n 1, 1) := by decide +kernel
theorem dLE_3 : decode jdk_43_method_13_code 3 = .ok (.arraylength, 1) := by decide +kernel
theorem dLE_4 : decode jdk_43_method_13_code 4 = .ok (.if_icmp .ne 30, 3) := by decide +kernel
theorem dLE_7 : decode jdk_43_method_13_code 7 = .ok (.iconst 0, 1) := by decide +kernel
theorem dLE_8 : decode jdk_43_method_13_code 8 = .ok (.istore_n 2, 1) := by decide +kernel
theorem dLE_9 : decode jdk_43_method_13_code 9 = .ok (.iload_n 2, 1) := by decide +kernel
theorem dLE_10 : decode jdk_43_method_13_code 10 = .ok (.aload_n 0, 1) := by decide +kernel
theorem dLE_11 : decode jdk_43_method_13_code 11 = .ok (.arraylength, 1) := by decide +kernel
theorem dLE_12 : decode jdk_43_method_13_code 12 = .ok (.if_icmp .ge 20, 3) := by decide +kernel
theorem dLE_15 : decode jdk_43_method_13_code 15 = .ok (.aload_n 0, 1) := by decide +kernel
theorem dLE_16 : decode jdk_43_method_13_code 16 = .ok (.iload_n 2, 1) := by decide +kernel
theorem dLE_17 : decode jdk_43_method_13_code 17 = .ok (.baload, 1) := by decide +kernel
theorem dLE_18 : decode jdk_43_method_13_code 18 = .ok (.aload_n 1, 1) := by decide +kernel
theorem dLE_19 : decode jdk_43_method_13_code 19 = .ok (.iload_n 2, 1) := by decide +kernel
theorem dLE_20 : decode jdk_43_method_13_code 20 = .ok (.baload, 1) := by decide +kernel
theorem dLE_21 : decode jdk_43_method_13_code 21 = .ok (.if_icmp .eq 5, 3) := by decide +kernel
theorem dLE_24 : decode jdk_43_method_13_code 24 = .ok (.iconst 0, 1) := by decide +kernel
theorem dLE_25 : decode jdk_43_method_13_code 25 = .ok (.ireturn, 1) := by decide +kernel
theorem dLE_26 : decode jdk_43_method_13_code 26 = .ok (.iinc 2 1, 3) := by decide +kernel
theorem dLE_29 : decode jdk_43_method_13_code 29 = .ok (.goto (-20), 3) := by decide +kernel
theorem dLE_32 : decode jdk_43_method_13_code 32 = .ok (.iconst 1, 1) := by decide +kernel
theorem dLE_33 : decode jdk_43_method_13_code 33 = .ok (.ireturn, 1) := by decide +kernel
theorem dLE_34 : decode jdk_43_method_13_code 34 = .ok (.iconst 0, 1) := by decide +kernel
theorem dLE_35 : decode jdk_43_method_13_code 35 = .ok (.ireturn, 1) := by decide +kernel
set_option maxRecDepth 65536 in
set_option maxHeartbeats 40000000 in
theorem own_leq (l : Launch) (Z : State) (a0 : Array Value) (hw : ∀ d ∈ tables_1, d.before a0 Z = true) (EL : List (String × Nat)) (hEL : EW Z a0 EL) (h0 : Heap) (b c : Addr) (kb kc : ClassId) (z z' : Int32) (bs ds : List Int32) (A : Arv Z h0 b kb .byte z (bs.map Value.int) (.int 0)) (B : Arv Z h0 c kc .byte z' (ds.map Value.int) (.int 0)) (hz0 : ¬ z < 0) (hz : z.toNatClampNeg = bs.length) (hz0' : ¬ z' < 0) (hz' : z'.toNatClampNeg = ds.length) :
    Con l Z EL false [] (⟨"java/lang/StringLatin1", "equals", "([B[B)Z"⟩ : MethodName) jdk_43_method_13_code 3 (some .boolean) ({ frames := 0, cells := 0, slots := 0, locals := 0 } : Room) #[(.ref b), (.ref c)] h0 (fun v h' => v = some (.int (if bs = ds then 1 else 0)) ∧ h0 = h') := by
  refine Con.of (Ls := #[.val (.ref b), .val (.ref c), .unset]) own_pn0 hEL (fun m => by first | (simp [entryFrame, mkF, argsToLocals, Value.category]; done) | rfl) ?_
  intro vm0 hZ0 hE0 hC0 hS0
  obtain ⟨z1, z2⟩ := own_z hz0
  obtain ⟨z1', z2'⟩ := own_z hz0'
  rw [hz] at z1 z2
  rw [hz'] at z1' z2'
  have loop : bs.length = ds.length → ∀ r k, k + r = bs.length → bs.take k = ds.take k → WP l Z EL false "java/lang/StringLatin1" "equals" jdk_43_method_13_code 3 (some .boolean) ({ frames := 0, cells := 0, slots := 0, locals := 0 } : Room) (fun v h' => v = some (.int (if bs = ds then 1 else 0)) ∧ h0 = h') vm0 h0 0 0 9 #[.val (.ref b), .val (.ref c), .val (.int (Int32.ofNat k))] [] := by
    intro hlen r
    induction r with
    | zero =>
      intro k hk ht
      refine WP.iloadN (n := 10) dLE_9 rfl rfl ?_
      refine WP.aloadN (n := 11) dLE_10 rfl rfl rfl ?_
      refine WP.alen (n := 12) dLE_11 A rfl ?_
      refine WP.icmpY (n := 32) dLE_12 (flt (by rw [z1]; rw [own_ltN (by omega) (by omega)]; omega)).2.1 (by decide) (by decide) ?_
      refine WP.iconst (n := 33) (z := (1 : Int32)) dLE_32 rfl rfl ?_
      refine WP.retN dLE_33 rfl (Or.inl rfl) (by decide : nar .boolean 1 = 1) (by decide) (by decide) ⟨?_, rfl⟩
      rw [if_pos]
      have e : k = bs.length := by omega
      rw [e, List.take_length, hlen, List.take_length] at ht
      exact ht
    | succ r ih =>
      intro k hk ht
      have kb : k < bs.length := by omega
      have kd : k < ds.length := by omega
      refine WP.iloadN (n := 10) dLE_9 rfl rfl ?_
      refine WP.aloadN (n := 11) dLE_10 rfl rfl rfl ?_
      refine WP.alen (n := 12) dLE_11 A rfl ?_
      refine WP.icmpN (n' := 15) dLE_12 (tlt (by rw [z1]; rw [own_ltN (by omega) (by omega)]; omega)).2.1 rfl ?_
      refine WP.aloadN (n := 16) dLE_15 rfl rfl rfl ?_
      refine WP.iloadN (n := 17) dLE_16 rfl rfl ?_
      refine WP.baload (n := 18) (v := .int bs[k]) dLE_17 A ⟨own_nn (by omega), by rw [z1, own_ltN (by omega) (by omega)]; omega⟩ (by rw [own_clamp (by omega)]; simp [List.getD_eq_getElem?_getD, kb]) rfl ?_
      refine WP.aloadN (n := 19) dLE_18 rfl rfl rfl ?_
      refine WP.iloadN (n := 20) dLE_19 rfl rfl ?_
      refine WP.baload (n := 21) (v := .int ds[k]) dLE_20 B ⟨own_nn (by omega), by rw [z1', own_ltN (by omega) (by omega)]; omega⟩ (by rw [own_clamp (by omega)]; simp [List.getD_eq_getElem?_getD, kd]) rfl ?_
      refine WP.icmp_eq (n := 26) (n' := 24) dLE_21 (by decide) (by decide) rfl (fun b1 => ?_) (fun b1 => ?_)
      · refine WP.iinc (n := 29) (z := Int32.ofNat (k + 1)) (Ls' := #[.val (.ref b), .val (.ref c), .val (.int (Int32.ofNat (k + 1)))]) dLE_26 rfl (own_inc (by omega)) rfl rfl ?_
        refine WP.goto (n := 9) dLE_29 (by decide) (by decide) ?_
        refine ih (k + 1) (by omega) ?_
        rw [List.take_succ_eq_append_getElem kb, List.take_succ_eq_append_getElem kd, ht, b1]
      · refine WP.iconst (n := 25) (z := (0 : Int32)) dLE_24 rfl rfl ?_
        refine WP.retN dLE_25 rfl (Or.inl rfl) (by decide : nar .boolean 0 = 0) (by decide) (by decide) ⟨?_, rfl⟩
        rw [if_neg]
        intro e
        subst e
        exact b1 rfl
  refine WP.aloadN (n := 1) dLE_0 rfl rfl rfl ?_
  refine WP.alen (n := 2) dLE_1 A rfl ?_
  refine WP.aloadN (n := 3) dLE_2 rfl rfl rfl ?_
  refine WP.alen (n := 4) dLE_3 B rfl ?_
  refine WP.icmp_ne (n := 34) (n' := 7) dLE_4 (by decide) (by decide) rfl (fun b2 => ?_) (fun b2 => ?_)
  · refine WP.iconst (n := 35) (z := (0 : Int32)) dLE_34 rfl rfl ?_
    refine WP.retN dLE_35 rfl (Or.inl rfl) (by decide : nar .boolean 0 = 0) (by decide) (by decide) ⟨?_, rfl⟩
    rw [if_neg]
    intro e
    subst e
    exact b2 (z1.trans z1'.symm)
  · refine WP.iconst (n := 8) (z := (0 : Int32)) dLE_7 rfl rfl ?_
    refine WP.istoreN (n := 9) (Ls' := #[.val (.ref b), .val (.ref c), .val (.int (0 : Int32))]) dLE_8 rfl rfl ?_
    exact loop (by rw [← hz, ← hz', b2]) bs.length 0 (by omega) rfl
theorem dSE_0 : decode jdk_42_method_66_code 0 = .ok (.aload_n 0, 1) := by decide +kernel
theorem dSE_1 : decode jdk_42_method_66_code 1 = .ok (.aload_n 1, 1) := by decide +kernel
theorem dSE_2 : decode jdk_42_method_66_code 2 = .ok (.if_acmp .ne 5, 3) := by decide +kernel
theorem dSE_5 : decode jdk_42_method_66_code 5 = .ok (.iconst 1, 1) := by decide +kernel
theorem dSE_6 : decode jdk_42_method_66_code 6 = .ok (.ireturn, 1) := by decide +kernel
theorem dSE_7 : decode jdk_42_method_66_code 7 = .ok (.aload_n 1, 1) := by decide +kernel
theorem dSE_8 : decode jdk_42_method_66_code 8 = .ok (.instanceof 10, 3) := by decide +kernel
theorem dSE_11 : decode jdk_42_method_66_code 11 = .ok (.ifCond .eq 43, 3) := by decide +kernel
theorem dSE_14 : decode jdk_42_method_66_code 14 = .ok (.aload_n 1, 1) := by decide +kernel
theorem dSE_15 : decode jdk_42_method_66_code 15 = .ok (.checkcast 10, 3) := by decide +kernel
theorem dSE_18 : decode jdk_42_method_66_code 18 = .ok (.astore_n 2, 1) := by decide +kernel
theorem dSE_19 : decode jdk_42_method_66_code 19 = .ok (.getstatic 38, 3) := by decide +kernel
theorem dSE_22 : decode jdk_42_method_66_code 22 = .ok (.ifCond .eq 14, 3) := by decide +kernel
theorem dSE_25 : decode jdk_42_method_66_code 25 = .ok (.aload_n 0, 1) := by decide +kernel
theorem dSE_26 : decode jdk_42_method_66_code 26 = .ok (.getfield 15, 3) := by decide +kernel
theorem dSE_29 : decode jdk_42_method_66_code 29 = .ok (.aload_n 2, 1) := by decide +kernel
theorem dSE_30 : decode jdk_42_method_66_code 30 = .ok (.getfield 15, 3) := by decide +kernel
theorem dSE_33 : decode jdk_42_method_66_code 33 = .ok (.if_icmp .ne 21, 3) := by decide +kernel
theorem dSE_36 : decode jdk_42_method_66_code 36 = .ok (.aload_n 0, 1) := by decide +kernel
theorem dSE_37 : decode jdk_42_method_66_code 37 = .ok (.getfield 9, 3) := by decide +kernel
theorem dSE_40 : decode jdk_42_method_66_code 40 = .ok (.aload_n 2, 1) := by decide +kernel
theorem dSE_41 : decode jdk_42_method_66_code 41 = .ok (.getfield 9, 3) := by decide +kernel
theorem dSE_44 : decode jdk_42_method_66_code 44 = .ok (.invokestatic 541, 3) := by decide +kernel
theorem dSE_47 : decode jdk_42_method_66_code 47 = .ok (.ifCond .eq 7, 3) := by decide +kernel
theorem dSE_50 : decode jdk_42_method_66_code 50 = .ok (.iconst 1, 1) := by decide +kernel
theorem dSE_51 : decode jdk_42_method_66_code 51 = .ok (.goto 4, 3) := by decide +kernel
theorem dSE_54 : decode jdk_42_method_66_code 54 = .ok (.iconst 0, 1) := by decide +kernel
theorem dSE_55 : decode jdk_42_method_66_code 55 = .ok (.ireturn, 1) := by decide +kernel
set_option maxRecDepth 65536 in
set_option maxHeartbeats 40000000 in
theorem own_seq (l : Launch) (Z : State) (a0 : Array Value) (hw : ∀ d ∈ tables_1, d.before a0 Z = true) (EL : List (String × Nat)) (hEL : EW Z a0 EL) (h0 : Heap) (a b : Addr) (bs ds : List Int32) (A : Str Z h0 a bs) (B : Str Z h0 b ds) (cz : Int32) (O : Sta Z Z.heap "java/lang/String" "COMPACT_STRINGS" "Z" (.int cz)) (hO : ¬ cz = 0) :
    Con l Z EL false [] (⟨"java/lang/String", "equals", "(Ljava/lang/Object;)Z"⟩ : MethodName) jdk_42_method_66_code 3 (some .boolean) ({ frames := 1, cells := 0, slots := 0, locals := 14 } : Room) #[(.ref a), (.ref b)] h0 (fun v h' => v = some (.int (if bs = ds then 1 else 0)) ∧ h0 = h') := by
  refine Con.of (Ls := #[.val (.ref a), .val (.ref b), .unset]) own_pn1 hEL (fun m => by first | (simp [entryFrame, mkF, argsToLocals, Value.category]; done) | rfl) ?_
  intro vm0 hZ0 hE0 hC0 hS0
  obtain ⟨f1, f2, ba, ka, za, f3, f4, f5⟩ := id A
  obtain ⟨g1, g2, bb, kb, zb, g3, g4, g5⟩ := id B
  have hza : ¬ za < 0 := by obtain ⟨_, _, _, _, q, _⟩ := f4; exact q
  have hzb : ¬ zb < 0 := by obtain ⟨_, _, _, _, q, _⟩ := g4; exact q
  refine WP.aloadN (n := 1) dSE_0 rfl rfl rfl ?_
  refine WP.aloadN (n := 2) dSE_1 rfl rfl rfl ?_
  by_cases hab : a = b
  · refine WP.acmpN (n' := 5) dSE_2 rfl rfl (own_ne_f (by rw [hab])) rfl ?_
    refine WP.iconst (n := 6) (z := (1 : Int32)) dSE_5 rfl rfl ?_
    exact WP.retN dSE_6 rfl (Or.inl rfl) (by decide : nar .boolean 1 = 1) (by decide) (by decide) ⟨by subst hab; rw [if_pos (A.inj B)], rfl⟩
  · refine WP.acmpY (n := 7) dSE_2 rfl rfl (own_ne_t (fun h => hab (by injection h))) (by decide) (by decide) ?_
    refine WP.aloadN (n := 8) dSE_7 rfl rfl rfl ?_
    refine WP.instY (n := 11) dSE_8 (hw _ (List.mem_of_getElem? (i := 65) rfl)) (Ins.self g1) rfl ?_
    refine WP.ifcN (n' := 14) dSE_11 (by decide) rfl ?_
    refine WP.aloadN (n := 15) dSE_14 rfl rfl rfl ?_
    refine WP.castY (n := 18) dSE_15 (hw _ (List.mem_of_getElem? (i := 65) rfl)) (Ins.self g1) rfl ?_
    refine WP.astoreN (n := 19) (Ls' := #[.val (.ref a), .val (.ref b), .val (.ref b)]) dSE_18 rfl rfl rfl ?_
    refine WP.getSZ (n := 22) dSE_19 (hw _ (List.mem_of_getElem? (i := 60) rfl)) Via.refl O rfl ?_
    refine WP.ifcN (n' := 25) dSE_22 ((if0 _ _).trans (feq hO).1) rfl ?_
    refine WP.aloadN (n := 26) dSE_25 rfl rfl rfl ?_
    refine WP.getF (n := 29) (host := "") dSE_26 (Or.inl (hw _ (List.mem_of_getElem? (i := 31) rfl))) Via.refl f2 rfl ?_
    refine WP.aloadN (n := 30) dSE_29 rfl rfl rfl ?_
    refine WP.getF (n := 33) (host := "") dSE_30 (Or.inl (hw _ (List.mem_of_getElem? (i := 31) rfl))) Via.refl g2 rfl ?_
    refine WP.icmpN (n' := 36) dSE_33 (by decide) rfl ?_
    refine WP.aloadN (n := 37) dSE_36 rfl rfl rfl ?_
    refine WP.getF (n := 40) (host := "") dSE_37 (Or.inl (hw _ (List.mem_of_getElem? (i := 30) rfl))) Via.refl f3 rfl ?_
    refine WP.aloadN (n := 41) dSE_40 rfl rfl rfl ?_
    refine WP.getF (n := 44) (host := "") dSE_41 (Or.inl (hw _ (List.mem_of_getElem? (i := 30) rfl))) Via.refl g3 rfl ?_
    refine WP.callS (n := 47) (ce' := 0) (sl' := 0) (Wd := 0) (argsL := [(.ref ba), (.ref bb)]) (rest := []) (own_leq l Z a0 hw EL hEL h0 ba bb ka kb za zb bs ds f4 g4 hza f5 hzb g5) dSE_44 (hw _ (List.mem_of_getElem? (i := 78) rfl)) (hw _ (List.mem_of_getElem? (i := 79) rfl)) (hw _ (List.mem_of_getElem? (i := 63) rfl)) (hw _ (List.mem_of_getElem? (i := 80) rfl)) (by decide) (fun _ q => nomatch q) (by decide) (by decide) rfl rfl (by decide) (by decide) rfl rfl (lenOf own_pd0 rfl) rfl (Nat.le_of_eq rfl) rfl (fun v3 vm3 h3 q3 r3 => ?_)
    obtain ⟨rfl, rfl⟩ := q3
    by_cases hbd : bs = ds
    · rw [if_pos hbd]
      refine WP.ifcN (n' := 50) dSE_47 (by decide) rfl ?_
      refine WP.iconst (n := 51) (z := (1 : Int32)) dSE_50 rfl rfl ?_
      refine WP.goto (n := 55) dSE_51 (by decide) (by decide) ?_
      exact WP.retN dSE_55 rfl (Or.inl rfl) (by decide : nar .boolean 1 = 1) (by decide) (by decide) ⟨by first | rfl | rw [if_pos hbd], rfl⟩
    · rw [if_neg hbd]
      refine WP.ifcY (n := 54) dSE_47 (by decide) (by decide) (by decide) ?_
      refine WP.iconst (n := 55) (z := (0 : Int32)) dSE_54 rfl rfl ?_
      exact WP.retN dSE_55 rfl (Or.inl rfl) (by decide : nar .boolean 0 = 0) (by decide) (by decide) ⟨by first | rfl | rw [if_neg hbd], rfl⟩
theorem dS4_0 : decode jdk_42_method_149_code 0 = .ok (.aload_n 0, 1) := by decide +kernel
theorem dS4_1 : decode jdk_42_method_149_code 1 = .ok (.invokespecial 1, 3) := by decide +kernel
theorem dS4_4 : decode jdk_42_method_149_code 4 = .ok (.iload_n 3, 1) := by decide +kernel
theorem dS4_5 : decode jdk_42_method_149_code 5 = .ok (.ifCond .ne 22, 3) := by decide +kernel
theorem dS4_8 : decode jdk_42_method_149_code 8 = .ok (.aload_n 0, 1) := by decide +kernel
theorem dS4_9 : decode jdk_42_method_149_code 9 = .ok (.ldc 7, 2) := by decide +kernel
theorem dS4_11 : decode jdk_42_method_149_code 11 = .ok (.getfield 9, 3) := by decide +kernel
theorem dS4_14 : decode jdk_42_method_149_code 14 = .ok (.putfield 9, 3) := by decide +kernel
theorem dS4_17 : decode jdk_42_method_149_code 17 = .ok (.aload_n 0, 1) := by decide +kernel
theorem dS4_18 : decode jdk_42_method_149_code 18 = .ok (.ldc 7, 2) := by decide +kernel
theorem dS4_20 : decode jdk_42_method_149_code 20 = .ok (.getfield 15, 3) := by decide +kernel
theorem dS4_23 : decode jdk_42_method_149_code 23 = .ok (.putfield 15, 3) := by decide +kernel
theorem dS4_26 : decode jdk_42_method_149_code 26 = .ok (.return_, 1) := by decide +kernel
theorem dS4_27 : decode jdk_42_method_149_code 27 = .ok (.getstatic 38, 3) := by decide +kernel
theorem dS4_30 : decode jdk_42_method_149_code 30 = .ok (.ifCond .eq 28, 3) := by decide +kernel
theorem dS4_33 : decode jdk_42_method_149_code 33 = .ok (.aload_n 1, 1) := by decide +kernel
theorem dS4_34 : decode jdk_42_method_149_code 34 = .ok (.iload_n 2, 1) := by decide +kernel
theorem dS4_35 : decode jdk_42_method_149_code 35 = .ok (.iload_n 3, 1) := by decide +kernel
theorem dS4_36 : decode jdk_42_method_149_code 36 = .ok (.invokestatic 177, 3) := by decide +kernel
theorem dS4_39 : decode jdk_42_method_149_code 39 = .ok (.astore 5, 2) := by decide +kernel
theorem dS4_41 : decode jdk_42_method_149_code 41 = .ok (.aload_n 0, 1) := by decide +kernel
theorem dS4_42 : decode jdk_42_method_149_code 42 = .ok (.aload 5, 2) := by decide +kernel
theorem dS4_44 : decode jdk_42_method_149_code 44 = .ok (.iload_n 3, 1) := by decide +kernel
theorem dS4_45 : decode jdk_42_method_149_code 45 = .ok (.invokestatic 47, 3) := by decide +kernel
theorem dS4_48 : decode jdk_42_method_149_code 48 = .ok (.putfield 15, 3) := by decide +kernel
theorem dS4_51 : decode jdk_42_method_149_code 51 = .ok (.aload_n 0, 1) := by decide +kernel
theorem dS4_52 : decode jdk_42_method_149_code 52 = .ok (.aload 5, 2) := by decide +kernel
theorem dS4_54 : decode jdk_42_method_149_code 54 = .ok (.putfield 9, 3) := by decide +kernel
theorem dS4_57 : decode jdk_42_method_149_code 57 = .ok (.return_, 1) := by decide +kernel
theorem dS4_58 : decode jdk_42_method_149_code 58 = .ok (.aload_n 0, 1) := by decide +kernel
theorem dS4_59 : decode jdk_42_method_149_code 59 = .ok (.iconst 1, 1) := by decide +kernel
theorem dS4_60 : decode jdk_42_method_149_code 60 = .ok (.putfield 15, 3) := by decide +kernel
theorem dS4_63 : decode jdk_42_method_149_code 63 = .ok (.aload_n 0, 1) := by decide +kernel
theorem dS4_64 : decode jdk_42_method_149_code 64 = .ok (.aload_n 1, 1) := by decide +kernel
theorem dS4_65 : decode jdk_42_method_149_code 65 = .ok (.iload_n 2, 1) := by decide +kernel
theorem dS4_66 : decode jdk_42_method_149_code 66 = .ok (.iload_n 3, 1) := by decide +kernel
theorem dS4_67 : decode jdk_42_method_149_code 67 = .ok (.invokestatic 180, 3) := by decide +kernel
theorem dS4_70 : decode jdk_42_method_149_code 70 = .ok (.putfield 9, 3) := by decide +kernel
theorem dS4_73 : decode jdk_42_method_149_code 73 = .ok (.return_, 1) := by decide +kernel
set_option maxRecDepth 65536 in
set_option maxHeartbeats 40000000 in
theorem own_si4 (l : Launch) (Z : State) (a0 : Array Value) (hw : ∀ d ∈ tables_1, d.before a0 Z = true) (EL : List (String × Nat)) (hEL : EW Z a0 EL) (h0 : Heap) (a b : Addr) (v0 c0 : Value) (hN : Z.heap.size ≤ a) (hA : Exa Z h0 a "java/lang/String") (hV : Fld Z h0 a "java/lang/String" "value" "[B" v0) (hK : Fld Z h0 a "java/lang/String" "coder" "B" c0) (hm : ("java/lang/String", 7) ∈ EL) :
    Con l Z EL false [a] (⟨"java/lang/String", "<init>", "([CIILjava/lang/Void;)V"⟩ : MethodName) jdk_42_method_149_code 6 none ({ frames := 1, cells := 2, slots := 4, locals := 12 } : Room) #[(.ref a), (.ref b), (.int (0 : Int32)), (.int (0 : Int32)), .null] h0 (fun v h' => v = none ∧ Keep h0 h' [a] ∧ Str Z h' a []) := by
  have wS : ∀ a ∈ Bundle.stringAtoms, a.before a0 Z = true := fun d hd => hw d ((by decide +kernel : ∀ d ∈ Bundle.stringAtoms, d ∈ tables_1) d hd)
  refine Con.of (Ls := #[.val (.ref a), .val (.ref b), .val (.int (0 : Int32)), .val (.int (0 : Int32)), .val .null, .unset]) own_pn1 hEL (fun m => by first | (simp [entryFrame, mkF, argsToLocals, Value.category]; done) | rfl) ?_
  intro vm0 hZ0 hE0 hC0 hS0
  refine WP.aloadN (n := 1) dS4_0 rfl rfl rfl ?_
  refine WP.initO (n := 4) (Wd := 0) dS4_1 (hw _ (List.mem_of_getElem? (i := 21) rfl)) (hw _ (List.mem_of_getElem? (i := 22) rfl)) (hw _ (List.mem_of_getElem? (i := 23) rfl)) rfl (by decide) (Nat.le_of_eq rfl) (by decide) rfl ?_
  refine WP.iloadN (n := 5) dS4_4 rfl rfl ?_
  refine WP.ifcN (n' := 8) dS4_5 (by decide) rfl ?_
  refine WP.aloadN (n := 9) dS4_8 rfl rfl rfl ?_
  refine WP.ldcC (n := 11) (nn := 0) (ce' := 2) (sl' := 4) (vs := []) (z := 0) dS4_9 rfl (hw _ (List.mem_of_getElem? (i := 24) rfl)) wS hm ⟨by decide, rfl⟩ (by decide) rfl (by decide) (by decide) rfl rfl (by decide) (by decide) hEL rfl (fun a4 b4 k4 vm4 h4 E4 r4 X4 C4 V4 B4 L4 N4 => ?_)
  have S4 := r4.safe hA.lt (hS0 a (List.mem_cons_self ..))
  refine WP.getF (n := 14) (host := "") dS4_11 (Or.inl (hw _ (List.mem_of_getElem? (i := 30) rfl))) Via.refl V4 rfl ?_
  refine WP.putF (n := 17) (host := "") (ty := (.array .byte)) dS4_14 (Or.inl (hw _ (List.mem_of_getElem? (i := 30) rfl))) Via.refl (hV.ext E4) (hA.ext E4) (Or.inr ⟨(hw _ (List.mem_of_getElem? (i := 26) rfl)), rfl, rfl⟩) (hw _ (List.mem_of_getElem? (i := 11) rfl)) (by decide) rfl rfl hN S4 rfl (fun h5 W5 r5 => ?_)
  have A5 := (hA.ext E4).wr W5
  have K5 := ((Keep.refl h0 [a]).ext E4).wr W5 (Or.inl (List.mem_cons_self ..))
  have F5_value := (hV.ext E4).same W5
  have F5_coder := (hK.ext E4).other W5 (Or.inr (slot_ne (t := .byte) (t' := (.array .byte)) (Or.inr (hw _ (List.mem_of_getElem? (i := 27) rfl))) (Or.inr (hw _ (List.mem_of_getElem? (i := 26) rfl))) (by decide) (by decide) (by decide)))
  have C5 := C4.other W5 (Or.inl (Ne.symm (N4 a S4).1))
  have B5 := B4.other W5 (Ne.symm (N4 a S4).2)
  refine WP.inv fun hZ5 hE5 hC5 => ?_
  have S5 := r5.safe (Nat.lt_of_lt_of_le hA.lt r4.2.1) S4
  refine WP.aloadN (n := 18) dS4_17 rfl rfl rfl ?_
  refine WP.ldcA (n := 20) dS4_18 (hw _ (List.mem_of_getElem? (i := 24) rfl)) L4 rfl ?_
  refine WP.getF (n := 23) (host := "") dS4_20 (Or.inl (hw _ (List.mem_of_getElem? (i := 31) rfl))) Via.refl C5 rfl ?_
  refine WP.putF (n := 26) (host := "") (ty := .byte) dS4_23 (Or.inl (hw _ (List.mem_of_getElem? (i := 31) rfl))) Via.refl F5_coder A5 (Or.inr ⟨(hw _ (List.mem_of_getElem? (i := 27) rfl)), rfl, rfl⟩) (hw _ (List.mem_of_getElem? (i := 11) rfl)) (by decide) rfl (by decide) hN S5 rfl (fun h6 W6 r6 => ?_)
  have A6 := A5.wr W6
  have K6 := K5.wr W6 (Or.inl (List.mem_cons_self ..))
  have F6_coder := F5_coder.same W6
  have F6_value := F5_value.other W6 (Or.inr (slot_ne (t := (.array .byte)) (t' := .byte) (Or.inr (hw _ (List.mem_of_getElem? (i := 26) rfl))) (Or.inr (hw _ (List.mem_of_getElem? (i := 27) rfl))) (by decide) (by decide) (by decide)))
  have B6 := B5.other W6 (Ne.symm (N4 a S4).2)
  refine WP.retV dS4_26 rfl (by decide) (by decide) ?_
  exact ⟨rfl, K6, A6, F6_coder, b4, k4, 0, F6_value, B6, rfl⟩
theorem dS1_0 : decode jdk_42_method_3_code 0 = .ok (.aload_n 0, 1) := by decide +kernel
theorem dS1_1 : decode jdk_42_method_3_code 1 = .ok (.aload_n 1, 1) := by decide +kernel
theorem dS1_2 : decode jdk_42_method_3_code 2 = .ok (.iconst 0, 1) := by decide +kernel
theorem dS1_3 : decode jdk_42_method_3_code 3 = .ok (.aload_n 1, 1) := by decide +kernel
theorem dS1_4 : decode jdk_42_method_3_code 4 = .ok (.arraylength, 1) := by decide +kernel
theorem dS1_5 : decode jdk_42_method_3_code 5 = .ok (.aconst_null, 1) := by decide +kernel
theorem dS1_6 : decode jdk_42_method_3_code 6 = .ok (.invokespecial 27, 3) := by decide +kernel
theorem dS1_9 : decode jdk_42_method_3_code 9 = .ok (.return_, 1) := by decide +kernel
set_option maxRecDepth 65536 in
set_option maxHeartbeats 40000000 in
theorem own_si1 (l : Launch) (Z : State) (a0 : Array Value) (hw : ∀ d ∈ tables_1, d.before a0 Z = true) (EL : List (String × Nat)) (hEL : EW Z a0 EL) (h0 : Heap) (a b : Addr) (v0 c0 : Value) (hN : Z.heap.size ≤ a) (hA : Exa Z h0 a "java/lang/String") (hV : Fld Z h0 a "java/lang/String" "value" "[B" v0) (hK : Fld Z h0 a "java/lang/String" "coder" "B" c0) (kb : ClassId) (dv : Value) (hB : Arv Z h0 b kb .char 0 [] dv) (hm : ("java/lang/String", 7) ∈ EL) :
    Con l Z EL false [a] (⟨"java/lang/String", "<init>", "([C)V"⟩ : MethodName) jdk_42_method_3_code 2 none ({ frames := 2, cells := 2, slots := 4, locals := 29 } : Room) #[(.ref a), (.ref b)] h0 (fun v h' => v = none ∧ Keep h0 h' [a] ∧ Str Z h' a []) := by
  refine Con.of (Ls := #[.val (.ref a), .val (.ref b)]) own_pn1 hEL (fun m => by first | (simp [entryFrame, mkF, argsToLocals, Value.category]; done) | rfl) ?_
  intro vm0 hZ0 hE0 hC0 hS0
  refine WP.aloadN (n := 1) dS1_0 rfl rfl rfl ?_
  refine WP.aloadN (n := 2) dS1_1 rfl rfl rfl ?_
  refine WP.iconst (n := 3) (z := (0 : Int32)) dS1_2 rfl rfl ?_
  refine WP.aloadN (n := 4) dS1_3 rfl rfl rfl ?_
  refine WP.alen (n := 5) dS1_4 hB rfl ?_
  refine WP.aconstNull (n := 6) dS1_5  rfl ?_
  refine WP.callP (n := 9) (ce' := 2) (sl' := 4) (Wd := 0) (a := a) (argsL := [(.ref b), (.int (0 : Int32)), (.int (0 : Int32)), .null]) (rest := []) (own_si4 l Z a0 hw EL hEL h0 a b v0 c0 hN hA hV hK hm) dS1_6 rfl (hw _ (List.mem_of_getElem? (i := 17) rfl)) (hw _ (List.mem_of_getElem? (i := 18) rfl)) (hw _ (List.mem_of_getElem? (i := 12) rfl)) (hw _ (List.mem_of_getElem? (i := 20) rfl)) (by decide) (fun y q => by cases List.mem_singleton.mp q; exact ⟨hS0 a (List.mem_cons_self ..), hA.lt⟩) (by decide) (by decide) rfl rfl (by decide) (by decide) rfl rfl (lenOf own_pd1 rfl) rfl (Nat.le_of_eq rfl) rfl (fun v7 vm7 h7 q7 r7 => ?_)
  obtain ⟨rfl, K7, F7⟩ := q7
  refine WP.retV dS1_9 rfl (by decide) (by decide) ?_
  exact ⟨rfl, K7, F7⟩
theorem dCE_0 : decode jdk_43_method_3_code 0 = .ok (.iload_n 0, 1) := by decide +kernel
theorem dCE_1 : decode jdk_43_method_3_code 1 = .ok (.sipush 255, 3) := by decide +kernel
theorem dCE_4 : decode jdk_43_method_3_code 4 = .ok (.if_icmp .gt 7, 3) := by decide +kernel
theorem dCE_7 : decode jdk_43_method_3_code 7 = .ok (.iconst 1, 1) := by decide +kernel
theorem dCE_8 : decode jdk_43_method_3_code 8 = .ok (.goto 4, 3) := by decide +kernel
theorem dCE_11 : decode jdk_43_method_3_code 11 = .ok (.iconst 0, 1) := by decide +kernel
theorem dCE_12 : decode jdk_43_method_3_code 12 = .ok (.ireturn, 1) := by decide +kernel
set_option maxRecDepth 65536 in
set_option maxHeartbeats 40000000 in
theorem own_ce (l : Launch) (Z : State) (a0 : Array Value) (hw : ∀ d ∈ tables_1, d.before a0 Z = true) (EL : List (String × Nat)) (hEL : EW Z a0 EL) (h0 : Heap) (c : Int32) (hc : ¬ (255 : Int32) < c) :
    Con l Z EL false [] (⟨"java/lang/StringLatin1", "canEncode", "(C)Z"⟩ : MethodName) jdk_43_method_3_code 1 (some .boolean) ({ frames := 0, cells := 0, slots := 0, locals := 0 } : Room) #[(.int c)] h0 (fun v h' => v = some (.int 1) ∧ h0 = h') := by
  refine Con.of (Ls := #[.val (.int c)]) own_pn0 hEL (fun m => by first | (simp [entryFrame, mkF, argsToLocals, Value.category]; done) | rfl) ?_
  intro vm0 hZ0 hE0 hC0 hS0
  refine WP.iloadN (n := 1) dCE_0 rfl rfl ?_
  refine WP.sipush (n := 4) (z := (255 : Int32)) dCE_1 (by decide) rfl ?_
  refine WP.icmp_gt (n := 11) (n' := 7) dCE_4 (by decide) (by decide) rfl (fun b8 => ?_) (fun b8 => ?_)
  · exact absurd b8 hc
  · refine WP.iconst (n := 8) (z := (1 : Int32)) dCE_7 rfl rfl ?_
    refine WP.goto (n := 12) dCE_8 (by decide) (by decide) ?_
    exact WP.retN dCE_12 rfl (Or.inl rfl) (by decide : nar .boolean 1 = 1) (by decide) (by decide) ⟨rfl, rfl⟩
theorem own_b8 (c : Int32) : nar .byte c.toInt8.toInt32 = c.toInt8.toInt32 := by
  show c.toInt8.toInt32.toInt8.toInt32 = c.toInt8.toInt32
  have h1 := c_i2b c
  have h2 := c_i2b c.toInt8.toInt32
  rw [← Int32.toInt_inj]; omega
theorem dTB_0 : decode jdk_43_method_46_code 0 = .ok (.iconst 1, 1) := by decide +kernel
theorem dTB_1 : decode jdk_43_method_46_code 1 = .ok (.newarray .byte, 2) := by decide +kernel
theorem dTB_3 : decode jdk_43_method_46_code 3 = .ok (.dup, 1) := by decide +kernel
theorem dTB_4 : decode jdk_43_method_46_code 4 = .ok (.iconst 0, 1) := by decide +kernel
theorem dTB_5 : decode jdk_43_method_46_code 5 = .ok (.iload_n 0, 1) := by decide +kernel
theorem dTB_6 : decode jdk_43_method_46_code 6 = .ok (.i2b, 1) := by decide +kernel
theorem dTB_7 : decode jdk_43_method_46_code 7 = .ok (.bastore, 1) := by decide +kernel
theorem dTB_8 : decode jdk_43_method_46_code 8 = .ok (.areturn, 1) := by decide +kernel
set_option maxRecDepth 65536 in
set_option maxHeartbeats 40000000 in
theorem own_tb (l : Launch) (Z : State) (a0 : Array Value) (hw : ∀ d ∈ tables_1, d.before a0 Z = true) (EL : List (String × Nat)) (hEL : EW Z a0 EL) (h0 : Heap) (c : Int32) :
    Con l Z EL false [] (⟨"java/lang/StringLatin1", "toBytes", "(C)[B"⟩ : MethodName) jdk_43_method_46_code 1 (some (.array .byte)) ({ frames := 0, cells := 1, slots := 1, locals := 0 } : Room) #[(.int c)] h0 (fun v h' => ∃ b kb, v = some (.ref b) ∧ Arv Z h' b kb .byte 1 [.int c.toInt8.toInt32] (.int 0) ∧ Ext h0 h') := by
  refine Con.of (Ls := #[.val (.int c)]) own_pn0 hEL (fun m => by first | (simp [entryFrame, mkF, argsToLocals, Value.category]; done) | rfl) ?_
  intro vm0 hZ0 hE0 hC0 hS0
  refine WP.iconst (n := 1) (z := (1 : Int32)) dTB_0 rfl rfl ?_
  refine WP.newP (n := 3) (ce' := 1) (sl' := 1) (cap := 1) (ty := .byte) dTB_1 (hw _ (List.mem_of_getElem? (i := 25) rfl)) rfl (by decide) (by decide) (by decide) rfl rfl (by decide) (by decide) rfl (fun a9 h9 k9 g9 E9 V9 S9 N9 r9 => ?_)
  have V9' : Arv Z h9 a9 k9 .byte (1 : Int32) [.int 0] (.int 0) := V9.pad (pad_rep [] (.int 0) 1)
  refine WP.dup (n := 4) dTB_3 rfl rfl ?_
  refine WP.iconst (n := 5) (z := (0 : Int32)) dTB_4 rfl rfl ?_
  refine WP.iloadN (n := 6) dTB_5 rfl rfl ?_
  refine WP.i2b (n := 7) dTB_6  rfl ?_
  refine WP.stB (n := 8) (i := 0) (y := c.toInt8.toInt32) dTB_7 V9' (by decide) rfl (by decide) (own_b8 c) N9 S9 rfl (fun h10 W10 V10 r10 => ?_)
  exact WP.retA dTB_8 rfl rfl rfl rfl (by decide) (by decide) ⟨_, _, rfl, V10, (ext_wr E9 W10 (Nat.le_of_eq g9.symm))⟩
theorem dSB_0 : decode jdk_42_method_151_code 0 = .ok (.aload_n 0, 1) := by decide +kernel
theorem dSB_1 : decode jdk_42_method_151_code 1 = .ok (.invokespecial 1, 3) := by decide +kernel
theorem dSB_4 : decode jdk_42_method_151_code 4 = .ok (.aload_n 0, 1) := by decide +kernel
theorem dSB_5 : decode jdk_42_method_151_code 5 = .ok (.aload_n 1, 1) := by decide +kernel
theorem dSB_6 : decode jdk_42_method_151_code 6 = .ok (.putfield 9, 3) := by decide +kernel
theorem dSB_9 : decode jdk_42_method_151_code 9 = .ok (.aload_n 0, 1) := by decide +kernel
theorem dSB_10 : decode jdk_42_method_151_code 10 = .ok (.iload_n 2, 1) := by decide +kernel
theorem dSB_11 : decode jdk_42_method_151_code 11 = .ok (.putfield 15, 3) := by decide +kernel
theorem dSB_14 : decode jdk_42_method_151_code 14 = .ok (.return_, 1) := by decide +kernel
set_option maxRecDepth 65536 in
set_option maxHeartbeats 40000000 in
theorem own_sb (l : Launch) (Z : State) (a0 : Array Value) (hw : ∀ d ∈ tables_1, d.before a0 Z = true) (EL : List (String × Nat)) (hEL : EW Z a0 EL) (h0 : Heap) (a b : Addr) (v0 c0 : Value) (hN : Z.heap.size ≤ a) (hA : Exa Z h0 a "java/lang/String") (hV : Fld Z h0 a "java/lang/String" "value" "[B" v0) (hK : Fld Z h0 a "java/lang/String" "coder" "B" c0) :
    Con l Z EL false [a] (⟨"java/lang/String", "<init>", "([BB)V"⟩ : MethodName) jdk_42_method_151_code 3 none ({ frames := 1, cells := 0, slots := 0, locals := 12 } : Room) #[(.ref a), (.ref b), (.int (0 : Int32))] h0 (fun v h' => v = none ∧ Keep h0 h' [a] ∧ Exa Z h' a "java/lang/String" ∧ Fld Z h' a "java/lang/String" "value" "[B" (.ref b) ∧ Fld Z h' a "java/lang/String" "coder" "B" (.int 0)) := by
  refine Con.of (Ls := #[.val (.ref a), .val (.ref b), .val (.int (0 : Int32))]) own_pn1 hEL (fun m => by first | (simp [entryFrame, mkF, argsToLocals, Value.category]; done) | rfl) ?_
  intro vm0 hZ0 hE0 hC0 hS0
  refine WP.aloadN (n := 1) dSB_0 rfl rfl rfl ?_
  refine WP.initO (n := 4) (Wd := 0) dSB_1 (hw _ (List.mem_of_getElem? (i := 21) rfl)) (hw _ (List.mem_of_getElem? (i := 22) rfl)) (hw _ (List.mem_of_getElem? (i := 23) rfl)) rfl (by decide) (Nat.le_of_eq rfl) (by decide) rfl ?_
  refine WP.aloadN (n := 5) dSB_4 rfl rfl rfl ?_
  refine WP.aloadN (n := 6) dSB_5 rfl rfl rfl ?_
  refine WP.putF (n := 9) (host := "") (ty := (.array .byte)) dSB_6 (Or.inl (hw _ (List.mem_of_getElem? (i := 30) rfl))) Via.refl hV hA (Or.inr ⟨(hw _ (List.mem_of_getElem? (i := 26) rfl)), rfl, rfl⟩) (hw _ (List.mem_of_getElem? (i := 11) rfl)) (by decide) rfl rfl hN (hS0 a (List.mem_cons_self ..)) rfl (fun h11 W11 r11 => ?_)
  have A11 := hA.wr W11
  have K11 := (Keep.refl h0 [a]).wr W11 (Or.inl (List.mem_cons_self ..))
  have F11_value := hV.same W11
  have F11_coder := hK.other W11 (Or.inr (slot_ne (t := .byte) (t' := (.array .byte)) (Or.inr (hw _ (List.mem_of_getElem? (i := 27) rfl))) (Or.inr (hw _ (List.mem_of_getElem? (i := 26) rfl))) (by decide) (by decide) (by decide)))
  have S11 := r11.safe hA.lt (hS0 a (List.mem_cons_self ..))
  refine WP.aloadN (n := 10) dSB_9 rfl rfl rfl ?_
  refine WP.iloadN (n := 11) dSB_10 rfl rfl ?_
  refine WP.putF (n := 14) (host := "") (ty := .byte) dSB_11 (Or.inl (hw _ (List.mem_of_getElem? (i := 31) rfl))) Via.refl F11_coder A11 (Or.inr ⟨(hw _ (List.mem_of_getElem? (i := 27) rfl)), rfl, rfl⟩) (hw _ (List.mem_of_getElem? (i := 11) rfl)) (by decide) rfl (by decide) hN S11 rfl (fun h12 W12 r12 => ?_)
  have A12 := A11.wr W12
  have K12 := K11.wr W12 (Or.inl (List.mem_cons_self ..))
  have F12_coder := F11_coder.same W12
  have F12_value := F11_value.other W12 (Or.inr (slot_ne (t := (.array .byte)) (t' := .byte) (Or.inr (hw _ (List.mem_of_getElem? (i := 26) rfl))) (Or.inr (hw _ (List.mem_of_getElem? (i := 27) rfl))) (by decide) (by decide) (by decide)))
  refine WP.retV dSB_14 rfl (by decide) (by decide) ?_
  exact ⟨rfl, K12, A12, F12_value, F12_coder⟩
theorem dVO_0 : decode jdk_42_method_139_code 0 = .ok (.getstatic 38, 3) := by decide +kernel
theorem dVO_3 : decode jdk_42_method_139_code 3 = .ok (.ifCond .eq 23, 3) := by decide +kernel
theorem dVO_6 : decode jdk_42_method_139_code 6 = .ok (.iload_n 0, 1) := by decide +kernel
theorem dVO_7 : decode jdk_42_method_139_code 7 = .ok (.invokestatic 1015, 3) := by decide +kernel
theorem dVO_10 : decode jdk_42_method_139_code 10 = .ok (.ifCond .eq 16, 3) := by decide +kernel
theorem dVO_13 : decode jdk_42_method_139_code 13 = .ok (.new 10, 3) := by decide +kernel
theorem dVO_16 : decode jdk_42_method_139_code 16 = .ok (.dup, 1) := by decide +kernel
theorem dVO_17 : decode jdk_42_method_139_code 17 = .ok (.iload_n 0, 1) := by decide +kernel
theorem dVO_18 : decode jdk_42_method_139_code 18 = .ok (.invokestatic 1018, 3) := by decide +kernel
theorem dVO_21 : decode jdk_42_method_139_code 21 = .ok (.iconst 0, 1) := by decide +kernel
theorem dVO_22 : decode jdk_42_method_139_code 22 = .ok (.invokespecial 209, 3) := by decide +kernel
theorem dVO_25 : decode jdk_42_method_139_code 25 = .ok (.areturn, 1) := by decide +kernel
theorem dVO_26 : decode jdk_42_method_139_code 26 = .ok (.new 10, 3) := by decide +kernel
theorem dVO_29 : decode jdk_42_method_139_code 29 = .ok (.dup, 1) := by decide +kernel
theorem dVO_30 : decode jdk_42_method_139_code 30 = .ok (.iload_n 0, 1) := by decide +kernel
theorem dVO_31 : decode jdk_42_method_139_code 31 = .ok (.invokestatic 1021, 3) := by decide +kernel
theorem dVO_34 : decode jdk_42_method_139_code 34 = .ok (.iconst 1, 1) := by decide +kernel
theorem dVO_35 : decode jdk_42_method_139_code 35 = .ok (.invokespecial 209, 3) := by decide +kernel
theorem dVO_38 : decode jdk_42_method_139_code 38 = .ok (.areturn, 1) := by decide +kernel
set_option maxRecDepth 65536 in
set_option maxHeartbeats 40000000 in
theorem own_vo (l : Launch) (Z : State) (a0 : Array Value) (hw : ∀ d ∈ tables_1, d.before a0 Z = true) (EL : List (String × Nat)) (hEL : EW Z a0 EL) (h0 : Heap) (c : Int32) (hc : ¬ (255 : Int32) < c) (cz : Int32) (O : Sta Z Z.heap "java/lang/String" "COMPACT_STRINGS" "Z" (.int cz)) (hO : ¬ cz = 0) :
    Con l Z EL false [] (⟨"java/lang/String", "valueOf", "(C)Ljava/lang/String;"⟩ : MethodName) jdk_42_method_139_code 1 (some (.object "java/lang/String")) ({ frames := 2, cells := 2, slots := 5, locals := 27 } : Room) #[(.int c)] h0 (fun v h' => ∃ a, v = some (.ref a) ∧ Str Z h' a [c.toInt8.toInt32] ∧ Ext h0 h') := by
  refine Con.of (Ls := #[.val (.int c)]) own_pn1 hEL (fun m => by first | (simp [entryFrame, mkF, argsToLocals, Value.category]; done) | rfl) ?_
  intro vm0 hZ0 hE0 hC0 hS0
  refine WP.getSZ (n := 3) dVO_0 (hw _ (List.mem_of_getElem? (i := 60) rfl)) Via.refl O rfl ?_
  refine WP.ifcN (n' := 6) dVO_3 ((if0 _ _).trans (feq hO).1) rfl ?_
  refine WP.iloadN (n := 7) dVO_6 rfl rfl ?_
  refine WP.callS (n := 10) (ce' := 0) (sl' := 0) (Wd := 0) (argsL := [(.int c)]) (rest := []) (own_ce l Z a0 hw EL hEL h0 c hc) dVO_7 (hw _ (List.mem_of_getElem? (i := 61) rfl)) (hw _ (List.mem_of_getElem? (i := 62) rfl)) (hw _ (List.mem_of_getElem? (i := 63) rfl)) (hw _ (List.mem_of_getElem? (i := 64) rfl)) (by decide) (fun _ q => nomatch q) (by decide) (by decide) rfl rfl (by decide) (by decide) rfl rfl (lenOf own_pd2 rfl) rfl (Nat.le_of_eq rfl) rfl (fun v13 vm13 h13 q13 r13 => ?_)
  obtain ⟨rfl, rfl⟩ := q13
  refine WP.ifcN (n' := 13) dVO_10 (by decide) rfl ?_
  refine WP.new (n := 16) (ce' := 1) (sl' := 4) dVO_13 (hw _ (List.mem_of_getElem? (i := 65) rfl)) (hw _ (List.mem_of_getElem? (i := 11) rfl)) (hw _ (List.mem_of_getElem? (i := 12) rfl)) rfl rfl (by decide) (by decide) rfl (fun a14 h14 g14 E14 A14 D14 S14 N14 r14 => ?_)
  refine WP.dup (n := 17) dVO_16 rfl rfl ?_
  refine WP.iloadN (n := 18) dVO_17 rfl rfl ?_
  refine WP.callS (n := 21) (ce' := 2) (sl' := 5) (Wd := 2) (argsL := [(.int c)]) (rest := [(.ref a14), (.ref a14)]) (own_tb l Z a0 hw EL hEL h14 c) dVO_18 (hw _ (List.mem_of_getElem? (i := 66) rfl)) (hw _ (List.mem_of_getElem? (i := 67) rfl)) (hw _ (List.mem_of_getElem? (i := 63) rfl)) (hw _ (List.mem_of_getElem? (i := 68) rfl)) (by decide) (fun _ q => nomatch q) (by decide) (by decide) rfl rfl (by decide) (by decide) rfl rfl (lenOf own_pd3 rfl) rfl (Nat.le_of_eq rfl) rfl (fun v15 vm15 h15 q15 r15 => ?_)
  obtain ⟨b15, k15, rfl, V15, E15⟩ := q15
  refine WP.iconst (n := 22) (z := (0 : Int32)) dVO_21 rfl rfl ?_
  have S15 := r15.safe A14.lt S14
  refine WP.callP (n := 25) (ce' := 2) (sl' := 5) (Wd := 1) (a := a14) (argsL := [(.ref b15), (.int (0 : Int32))]) (rest := [(.ref a14)]) (own_sb l Z a0 hw EL hEL h15 a14 b15 _ _ N14 (A14.ext E15) ((D14 (Or.inr (hw _ (List.mem_of_getElem? (i := 26) rfl))) (ty := .array .byte) (by decide)).ext E15) ((D14 (Or.inr (hw _ (List.mem_of_getElem? (i := 27) rfl))) (ty := .byte) (by decide)).ext E15)) dVO_22 rfl (hw _ (List.mem_of_getElem? (i := 69) rfl)) (hw _ (List.mem_of_getElem? (i := 70) rfl)) (hw _ (List.mem_of_getElem? (i := 12) rfl)) (hw _ (List.mem_of_getElem? (i := 71) rfl)) (by decide) (fun y q => by cases List.mem_singleton.mp q; exact ⟨S15, Nat.lt_of_lt_of_le A14.lt E15.1⟩) (by decide) (by decide) rfl rfl (by decide) (by decide) rfl rfl (lenOf own_pd4 rfl) rfl (Nat.le_of_eq rfl) rfl (fun v16 vm16 h16 q16 r16 => ?_)
  obtain ⟨rfl, K16, A16, F16, G16⟩ := q16
  have V16 := V15.keep K16 (fun q => Exa.neArv (A14.ext E15) V15 (hw _ (List.mem_of_getElem? (i := 11) rfl)) (List.mem_singleton.mp q).symm)
  exact WP.retA dVO_25 rfl rfl rfl rfl (by decide) (by decide) ⟨_, rfl, ⟨A16, G16, b15, k15, 1, F16, V16, rfl⟩, ext_keep1 (ext_trans E14 E15) K16 (Nat.le_of_eq g14.symm)⟩
theorem dR_0 : decode jdk_31_method_11_code 0 = .ok (.aload_n 0, 1) := by decide +kernel
theorem dR_1 : decode jdk_31_method_11_code 1 = .ok (.ifnonnull 12, 3) := by decide +kernel
theorem dR_4 : decode jdk_31_method_11_code 4 = .ok (.new 84, 3) := by decide +kernel
theorem dR_7 : decode jdk_31_method_11_code 7 = .ok (.dup, 1) := by decide +kernel
theorem dR_8 : decode jdk_31_method_11_code 8 = .ok (.aload_n 1, 1) := by decide +kernel
theorem dR_9 : decode jdk_31_method_11_code 9 = .ok (.invokespecial 87, 3) := by decide +kernel
theorem dR_12 : decode jdk_31_method_11_code 12 = .ok (.athrow, 1) := by decide +kernel
theorem dR_13 : decode jdk_31_method_11_code 13 = .ok (.aload_n 0, 1) := by decide +kernel
theorem dR_14 : decode jdk_31_method_11_code 14 = .ok (.areturn, 1) := by decide +kernel
set_option maxRecDepth 65536 in
set_option maxHeartbeats 40000000 in
theorem own_rnn (l : Launch) (Z : State) (a0 : Array Value) (hw : ∀ d ∈ tables_1, d.before a0 Z = true) (EL : List (String × Nat)) (hEL : EW Z a0 EL) (h0 : Heap) (a m : Addr) :
    Con l Z EL false [] (⟨"java/util/Objects", "requireNonNull", "(Ljava/lang/Object;Ljava/lang/String;)Ljava/lang/Object;"⟩ : MethodName) jdk_31_method_11_code 2 (some (.object "java/lang/Object")) ({ frames := 0, cells := 0, slots := 0, locals := 0 } : Room) #[(.ref a), (.ref m)] h0 (fun v h' => v = some (.ref a) ∧ h0 = h') := by
  refine Con.of (Ls := #[.val (.ref a), .val (.ref m)]) own_pn2 hEL (fun m => by first | (simp [entryFrame, mkF, argsToLocals, Value.category]; done) | rfl) ?_
  intro vm0 hZ0 hE0 hC0 hS0
  refine WP.aloadN (n := 1) dR_0 rfl rfl rfl ?_
  refine WP.ifnonnullY (n := 13) dR_1 (by decide) (by decide) ?_
  refine WP.aloadN (n := 14) dR_13 rfl rfl rfl ?_
  exact WP.retA dR_14 rfl rfl rfl rfl (by decide) (by decide) ⟨rfl, rfl⟩
theorem dSN_0 : decode jdk_42_method_66_code 0 = .ok (.aload_n 0, 1) := by decide +kernel
theorem dSN_1 : decode jdk_42_method_66_code 1 = .ok (.aload_n 1, 1) := by decide +kernel
theorem dSN_2 : decode jdk_42_method_66_code 2 = .ok (.if_acmp .ne 5, 3) := by decide +kernel
theorem dSN_5 : decode jdk_42_method_66_code 5 = .ok (.iconst 1, 1) := by decide +kernel
theorem dSN_6 : decode jdk_42_method_66_code 6 = .ok (.ireturn, 1) := by decide +kernel
theorem dSN_7 : decode jdk_42_method_66_code 7 = .ok (.aload_n 1, 1) := by decide +kernel
theorem dSN_8 : decode jdk_42_method_66_code 8 = .ok (.instanceof 10, 3) := by decide +kernel
theorem dSN_11 : decode jdk_42_method_66_code 11 = .ok (.ifCond .eq 43, 3) := by decide +kernel
theorem dSN_14 : decode jdk_42_method_66_code 14 = .ok (.aload_n 1, 1) := by decide +kernel
theorem dSN_15 : decode jdk_42_method_66_code 15 = .ok (.checkcast 10, 3) := by decide +kernel
theorem dSN_18 : decode jdk_42_method_66_code 18 = .ok (.astore_n 2, 1) := by decide +kernel
theorem dSN_19 : decode jdk_42_method_66_code 19 = .ok (.getstatic 38, 3) := by decide +kernel
theorem dSN_22 : decode jdk_42_method_66_code 22 = .ok (.ifCond .eq 14, 3) := by decide +kernel
theorem dSN_25 : decode jdk_42_method_66_code 25 = .ok (.aload_n 0, 1) := by decide +kernel
theorem dSN_26 : decode jdk_42_method_66_code 26 = .ok (.getfield 15, 3) := by decide +kernel
theorem dSN_29 : decode jdk_42_method_66_code 29 = .ok (.aload_n 2, 1) := by decide +kernel
theorem dSN_30 : decode jdk_42_method_66_code 30 = .ok (.getfield 15, 3) := by decide +kernel
theorem dSN_33 : decode jdk_42_method_66_code 33 = .ok (.if_icmp .ne 21, 3) := by decide +kernel
theorem dSN_36 : decode jdk_42_method_66_code 36 = .ok (.aload_n 0, 1) := by decide +kernel
theorem dSN_37 : decode jdk_42_method_66_code 37 = .ok (.getfield 9, 3) := by decide +kernel
theorem dSN_40 : decode jdk_42_method_66_code 40 = .ok (.aload_n 2, 1) := by decide +kernel
theorem dSN_41 : decode jdk_42_method_66_code 41 = .ok (.getfield 9, 3) := by decide +kernel
theorem dSN_44 : decode jdk_42_method_66_code 44 = .ok (.invokestatic 541, 3) := by decide +kernel
theorem dSN_47 : decode jdk_42_method_66_code 47 = .ok (.ifCond .eq 7, 3) := by decide +kernel
theorem dSN_50 : decode jdk_42_method_66_code 50 = .ok (.iconst 1, 1) := by decide +kernel
theorem dSN_51 : decode jdk_42_method_66_code 51 = .ok (.goto 4, 3) := by decide +kernel
theorem dSN_54 : decode jdk_42_method_66_code 54 = .ok (.iconst 0, 1) := by decide +kernel
theorem dSN_55 : decode jdk_42_method_66_code 55 = .ok (.ireturn, 1) := by decide +kernel
set_option maxRecDepth 65536 in
set_option maxHeartbeats 40000000 in
theorem own_seqN (l : Launch) (Z : State) (a0 : Array Value) (hw : ∀ d ∈ tables_1, d.before a0 Z = true) (EL : List (String × Nat)) (hEL : EW Z a0 EL) (h0 : Heap) (a : Addr) :
    Con l Z EL false [] (⟨"java/lang/String", "equals", "(Ljava/lang/Object;)Z"⟩ : MethodName) jdk_42_method_66_code 3 (some .boolean) ({ frames := 0, cells := 0, slots := 0, locals := 0 } : Room) #[(.ref a), .null] h0 (fun v h' => v = some (.int 0) ∧ h0 = h') := by
  refine Con.of (Ls := #[.val (.ref a), .val .null, .unset]) own_pn1 hEL (fun m => by first | (simp [entryFrame, mkF, argsToLocals, Value.category]; done) | rfl) ?_
  intro vm0 hZ0 hE0 hC0 hS0
  refine WP.aloadN (n := 1) dSN_0 rfl rfl rfl ?_
  refine WP.aloadN (n := 2) dSN_1 rfl rfl rfl ?_
  refine WP.acmpY (n := 7) dSN_2 rfl rfl (own_ne_t (fun h => by cases h)) (by decide) (by decide) ?_
  refine WP.aloadN (n := 8) dSN_7 rfl rfl rfl ?_
  refine WP.instNull (n := 11) dSN_8 rfl ?_
  refine WP.ifcY (n := 54) dSN_11 (by decide) (by decide) (by decide) ?_
  refine WP.iconst (n := 55) (z := (0 : Int32)) dSN_54 rfl rfl ?_
  exact WP.retN dSN_55 rfl (Or.inl rfl) (by decide : nar .boolean 0 = 0) (by decide) (by decide) ⟨rfl, rfl⟩
/-- a description: null, or a String that spells -/
def Dsc (Z : State) (h : Heap) (w : Value) (k : Option (List Int32)) : Prop := (k = none ∧ w = .null) ∨ ∃ a bs, k = some bs ∧ w = .ref a ∧ Str Z h a bs
theorem Dsc.ext {Z : State} {h h' : Heap} {w : Value} {k : Option (List Int32)} (F : Dsc Z h w k) (E : Ext h h') : Dsc Z h' w k := by
  rcases F with F | ⟨a, bs, e1, e2, F⟩
  · exact Or.inl F
  · exact Or.inr ⟨a, bs, e1, e2, F.ext E⟩
theorem Dsc.ref {Z : State} {h : Heap} {w : Value} {k : Option (List Int32)} (F : Dsc Z h w k) : w.isRef = true := by
  rcases F with ⟨-, rfl⟩ | ⟨a, bs, -, rfl, -⟩ <;> rfl
theorem Dsc.nrw {Z : State} {h : Heap} {w : Value} {k : Option (List Int32)} (F : Dsc Z h w k) : narrow (.object "java/lang/String") w = w := by
  rcases F with ⟨-, rfl⟩ | ⟨a, bs, -, rfl, -⟩ <;> rfl
theorem Dsc.fit {Z : State} {h : Heap} {w : Value} {k : Option (List Int32)} (F : Dsc Z h w k) : fits (.object "java/lang/String") w = true := by
  rcases F with ⟨-, rfl⟩ | ⟨a, bs, -, rfl, -⟩ <;> rfl
theorem dOE_0 : decode jdk_31_method_2_code 0 = .ok (.aload_n 0, 1) := by decide +kernel
theorem dOE_1 : decode jdk_31_method_2_code 1 = .ok (.aload_n 1, 1) := by decide +kernel
theorem dOE_2 : decode jdk_31_method_2_code 2 = .ok (.if_acmp .eq 15, 3) := by decide +kernel
theorem dOE_5 : decode jdk_31_method_2_code 5 = .ok (.aload_n 0, 1) := by decide +kernel
theorem dOE_6 : decode jdk_31_method_2_code 6 = .ok (.ifnull 15, 3) := by decide +kernel
theorem dOE_9 : decode jdk_31_method_2_code 9 = .ok (.aload_n 0, 1) := by decide +kernel
theorem dOE_10 : decode jdk_31_method_2_code 10 = .ok (.aload_n 1, 1) := by decide +kernel
theorem dOE_11 : decode jdk_31_method_2_code 11 = .ok (.invokevirtual 14, 3) := by decide +kernel
theorem dOE_14 : decode jdk_31_method_2_code 14 = .ok (.ifCond .eq 7, 3) := by decide +kernel
theorem dOE_17 : decode jdk_31_method_2_code 17 = .ok (.iconst 1, 1) := by decide +kernel
theorem dOE_18 : decode jdk_31_method_2_code 18 = .ok (.goto 4, 3) := by decide +kernel
theorem dOE_21 : decode jdk_31_method_2_code 21 = .ok (.iconst 0, 1) := by decide +kernel
theorem dOE_22 : decode jdk_31_method_2_code 22 = .ok (.ireturn, 1) := by decide +kernel
set_option maxRecDepth 65536 in
set_option maxHeartbeats 40000000 in
theorem own_oeNN (l : Launch) (Z : State) (a0 : Array Value) (hw : ∀ d ∈ tables_1, d.before a0 Z = true) (EL : List (String × Nat)) (hEL : EW Z a0 EL) (h0 : Heap)  :
    Con l Z EL false [] (⟨"java/util/Objects", "equals", "(Ljava/lang/Object;Ljava/lang/Object;)Z"⟩ : MethodName) jdk_31_method_2_code 2 (some .boolean) ({ frames := 2, cells := 0, slots := 0, locals := 28 } : Room) #[.null, .null] h0 (fun v h' => v = some (.int 1) ∧ h0 = h') := by
  refine Con.of (Ls := #[.val .null, .val .null]) own_pn2 hEL (fun m => by first | (simp [entryFrame, mkF, argsToLocals, Value.category]; done) | rfl) ?_
  intro vm0 hZ0 hE0 hC0 hS0
  refine WP.aloadN (n := 1) dOE_0 rfl rfl rfl ?_
  refine WP.aloadN (n := 2) dOE_1 rfl rfl rfl ?_
  refine WP.acmpY (n := 17) dOE_2 rfl rfl (own_eq_t rfl) (by decide) (by decide) ?_
  refine WP.iconst (n := 18) (z := (1 : Int32)) dOE_17 rfl rfl ?_
  refine WP.goto (n := 22) dOE_18 (by decide) (by decide) ?_
  exact WP.retN dOE_22 rfl (Or.inl rfl) (by decide : nar .boolean 1 = 1) (by decide) (by decide) ⟨rfl, rfl⟩
set_option maxRecDepth 65536 in
set_option maxHeartbeats 40000000 in
theorem own_oeNR (l : Launch) (Z : State) (a0 : Array Value) (hw : ∀ d ∈ tables_1, d.before a0 Z = true) (EL : List (String × Nat)) (hEL : EW Z a0 EL) (h0 : Heap) (b : Addr) :
    Con l Z EL false [] (⟨"java/util/Objects", "equals", "(Ljava/lang/Object;Ljava/lang/Object;)Z"⟩ : MethodName) jdk_31_method_2_code 2 (some .boolean) ({ frames := 2, cells := 0, slots := 0, locals := 28 } : Room) #[.null, (.ref b)] h0 (fun v h' => v = some (.int 0) ∧ h0 = h') := by
  refine Con.of (Ls := #[.val .null, .val (.ref b)]) own_pn2 hEL (fun m => by first | (simp [entryFrame, mkF, argsToLocals, Value.category]; done) | rfl) ?_
  intro vm0 hZ0 hE0 hC0 hS0
  refine WP.aloadN (n := 1) dOE_0 rfl rfl rfl ?_
  refine WP.aloadN (n := 2) dOE_1 rfl rfl rfl ?_
  refine WP.acmpN (n' := 5) dOE_2 rfl rfl (own_eq_f (fun h => by cases h)) rfl ?_
  refine WP.aloadN (n := 6) dOE_5 rfl rfl rfl ?_
  refine WP.ifnullY (n := 21) dOE_6 (by decide) (by decide) ?_
  refine WP.iconst (n := 22) (z := (0 : Int32)) dOE_21 rfl rfl ?_
  exact WP.retN dOE_22 rfl (Or.inl rfl) (by decide : nar .boolean 0 = 0) (by decide) (by decide) ⟨rfl, rfl⟩
set_option maxRecDepth 65536 in
set_option maxHeartbeats 40000000 in
theorem own_oeRN (l : Launch) (Z : State) (a0 : Array Value) (hw : ∀ d ∈ tables_1, d.before a0 Z = true) (EL : List (String × Nat)) (hEL : EW Z a0 EL) (h0 : Heap) (a : Addr) (bs : List Int32) (A : Str Z h0 a bs) :
    Con l Z EL false [] (⟨"java/util/Objects", "equals", "(Ljava/lang/Object;Ljava/lang/Object;)Z"⟩ : MethodName) jdk_31_method_2_code 2 (some .boolean) ({ frames := 2, cells := 0, slots := 0, locals := 28 } : Room) #[(.ref a), .null] h0 (fun v h' => v = some (.int 0) ∧ h0 = h') := by
  refine Con.of (Ls := #[.val (.ref a), .val .null]) own_pn2 hEL (fun m => by first | (simp [entryFrame, mkF, argsToLocals, Value.category]; done) | rfl) ?_
  intro vm0 hZ0 hE0 hC0 hS0
  refine WP.aloadN (n := 1) dOE_0 rfl rfl rfl ?_
  refine WP.aloadN (n := 2) dOE_1 rfl rfl rfl ?_
  refine WP.acmpN (n' := 5) dOE_2 rfl rfl (own_eq_f (fun h => by cases h)) rfl ?_
  refine WP.aloadN (n := 6) dOE_5 rfl rfl rfl ?_
  refine WP.ifnullN (n' := 9) dOE_6 rfl ?_
  refine WP.aloadN (n := 10) dOE_9 rfl rfl rfl ?_
  refine WP.aloadN (n := 11) dOE_10 rfl rfl rfl ?_
  refine WP.callV (n := 14) (ce' := 0) (sl' := 0) (Wd := 0) (a := a) (argsL := [.null]) (rest := []) (own_seqN l Z a0 hw EL hEL h0 a) A.1 dOE_11 (hw _ (List.mem_of_getElem? (i := 84) rfl)) (hw _ (List.mem_of_getElem? (i := 85) rfl)) (hw _ (List.mem_of_getElem? (i := 87) rfl)) (hw _ (List.mem_of_getElem? (i := 75) rfl)) (hw _ (List.mem_of_getElem? (i := 12) rfl)) (hw _ (List.mem_of_getElem? (i := 77) rfl)) (by decide) (fun _ hz => nf_top (args := #[]) (mvT hz (hw _ (List.mem_of_getElem? (i := 56) rfl)))) (fun _ q => nomatch q) (by decide) (by decide) rfl rfl (by decide) (by decide) rfl rfl (lenOf own_pd5 rfl) rfl (Nat.le_of_eq rfl) rfl (fun v17 vm17 h17 q17 r17 => ?_)
  obtain ⟨rfl, rfl⟩ := q17
  refine WP.ifcY (n := 21) dOE_14 (by decide) (by decide) (by decide) ?_
  refine WP.iconst (n := 22) (z := (0 : Int32)) dOE_21 rfl rfl ?_
  exact WP.retN dOE_22 rfl (Or.inl rfl) (by decide : nar .boolean 0 = 0) (by decide) (by decide) ⟨rfl, rfl⟩
set_option maxRecDepth 65536 in
set_option maxHeartbeats 40000000 in
theorem own_oeS (l : Launch) (Z : State) (a0 : Array Value) (hw : ∀ d ∈ tables_1, d.before a0 Z = true) (EL : List (String × Nat)) (hEL : EW Z a0 EL) (h0 : Heap) (a : Addr) :
    Con l Z EL false [] (⟨"java/util/Objects", "equals", "(Ljava/lang/Object;Ljava/lang/Object;)Z"⟩ : MethodName) jdk_31_method_2_code 2 (some .boolean) ({ frames := 2, cells := 0, slots := 0, locals := 28 } : Room) #[(.ref a), (.ref a)] h0 (fun v h' => v = some (.int 1) ∧ h0 = h') := by
  refine Con.of (Ls := #[.val (.ref a), .val (.ref a)]) own_pn2 hEL (fun m => by first | (simp [entryFrame, mkF, argsToLocals, Value.category]; done) | rfl) ?_
  intro vm0 hZ0 hE0 hC0 hS0
  refine WP.aloadN (n := 1) dOE_0 rfl rfl rfl ?_
  refine WP.aloadN (n := 2) dOE_1 rfl rfl rfl ?_
  refine WP.acmpY (n := 17) dOE_2 rfl rfl (own_eq_t rfl) (by decide) (by decide) ?_
  refine WP.iconst (n := 18) (z := (1 : Int32)) dOE_17 rfl rfl ?_
  refine WP.goto (n := 22) dOE_18 (by decide) (by decide) ?_
  exact WP.retN dOE_22 rfl (Or.inl rfl) (by decide : nar .boolean 1 = 1) (by decide) (by decide) ⟨rfl, rfl⟩
set_option maxRecDepth 65536 in
set_option maxHeartbeats 40000000 in
theorem own_oeD (l : Launch) (Z : State) (a0 : Array Value) (hw : ∀ d ∈ tables_1, d.before a0 Z = true) (EL : List (String × Nat)) (hEL : EW Z a0 EL) (h0 : Heap) (a b : Addr) (bs ds : List Int32) (hab : ¬ a = b) (A : Str Z h0 a bs) (B : Str Z h0 b ds) (cz : Int32) (O : Sta Z Z.heap "java/lang/String" "COMPACT_STRINGS" "Z" (.int cz)) (hO : ¬ cz = 0) :
    Con l Z EL false [] (⟨"java/util/Objects", "equals", "(Ljava/lang/Object;Ljava/lang/Object;)Z"⟩ : MethodName) jdk_31_method_2_code 2 (some .boolean) ({ frames := 2, cells := 0, slots := 0, locals := 28 } : Room) #[(.ref a), (.ref b)] h0 (fun v h' => v = some (.int (if bs = ds then 1 else 0)) ∧ h0 = h') := by
  refine Con.of (Ls := #[.val (.ref a), .val (.ref b)]) own_pn2 hEL (fun m => by first | (simp [entryFrame, mkF, argsToLocals, Value.category]; done) | rfl) ?_
  intro vm0 hZ0 hE0 hC0 hS0
  refine WP.aloadN (n := 1) dOE_0 rfl rfl rfl ?_
  refine WP.aloadN (n := 2) dOE_1 rfl rfl rfl ?_
  refine WP.acmpN (n' := 5) dOE_2 rfl rfl (own_eq_f (fun h => hab (by injection h))) rfl ?_
  refine WP.aloadN (n := 6) dOE_5 rfl rfl rfl ?_
  refine WP.ifnullN (n' := 9) dOE_6 rfl ?_
  refine WP.aloadN (n := 10) dOE_9 rfl rfl rfl ?_
  refine WP.aloadN (n := 11) dOE_10 rfl rfl rfl ?_
  refine WP.callV (n := 14) (ce' := 0) (sl' := 0) (Wd := 0) (a := a) (argsL := [(.ref b)]) (rest := []) (own_seq l Z a0 hw EL hEL h0 a b bs ds A B cz O hO) A.1 dOE_11 (hw _ (List.mem_of_getElem? (i := 84) rfl)) (hw _ (List.mem_of_getElem? (i := 85) rfl)) (hw _ (List.mem_of_getElem? (i := 87) rfl)) (hw _ (List.mem_of_getElem? (i := 75) rfl)) (hw _ (List.mem_of_getElem? (i := 12) rfl)) (hw _ (List.mem_of_getElem? (i := 77) rfl)) (by decide) (fun _ hz => nf_top (args := #[]) (mvT hz (hw _ (List.mem_of_getElem? (i := 56) rfl)))) (fun _ q => nomatch q) (by decide) (by decide) rfl rfl (by decide) (by decide) rfl rfl (lenOf own_pd5 rfl) rfl (Nat.le_of_eq rfl) rfl (fun v18 vm18 h18 q18 r18 => ?_)
  obtain ⟨rfl, rfl⟩ := q18
  by_cases hbd : bs = ds
  · rw [if_pos hbd]
    refine WP.ifcN (n' := 17) dOE_14 (by decide) rfl ?_
    refine WP.iconst (n := 18) (z := (1 : Int32)) dOE_17 rfl rfl ?_
    refine WP.goto (n := 22) dOE_18 (by decide) (by decide) ?_
    exact WP.retN dOE_22 rfl (Or.inl rfl) (by decide : nar .boolean 1 = 1) (by decide) (by decide) ⟨by first | rfl | rw [if_pos hbd], rfl⟩
  · rw [if_neg hbd]
    refine WP.ifcY (n := 21) dOE_14 (by decide) (by decide) (by decide) ?_
    refine WP.iconst (n := 22) (z := (0 : Int32)) dOE_21 rfl rfl ?_
    exact WP.retN dOE_22 rfl (Or.inl rfl) (by decide : nar .boolean 0 = 0) (by decide) (by decide) ⟨by first | rfl | rw [if_neg hbd], rfl⟩
set_option maxRecDepth 65536 in
set_option maxHeartbeats 40000000 in
theorem own_oe (l : Launch) (Z : State) (a0 : Array Value) (hw : ∀ d ∈ tables_1, d.before a0 Z = true) (EL : List (String × Nat)) (hEL : EW Z a0 EL) (h0 : Heap) (w1 w2 : Value) (k1 k2 : Option (List Int32)) (F1 : Dsc Z h0 w1 k1) (F2 : Dsc Z h0 w2 k2) (cz : Int32) (O : Sta Z Z.heap "java/lang/String" "COMPACT_STRINGS" "Z" (.int cz)) (hO : ¬ cz = 0) :
    Con l Z EL false [] (⟨"java/util/Objects", "equals", "(Ljava/lang/Object;Ljava/lang/Object;)Z"⟩ : MethodName) jdk_31_method_2_code 2 (some .boolean) ({ frames := 2, cells := 0, slots := 0, locals := 28 } : Room) #[w1, w2] h0 (fun v h' => v = some (.int (if k1 = k2 then 1 else 0)) ∧ h0 = h') := by
  rcases F1 with ⟨rfl, rfl⟩ | ⟨a, bs, rfl, rfl, A⟩ <;> rcases F2 with ⟨rfl, rfl⟩ | ⟨b, ds, rfl, rfl, B⟩
  · exact own_oeNN l Z a0 hw EL hEL h0
  · exact own_oeNR l Z a0 hw EL hEL h0 b
  · exact own_oeRN l Z a0 hw EL hEL h0 a bs A
  · by_cases hab : a = b
    · subst hab
      cases A.inj B
      refine (own_oeS l Z a0 hw EL hEL h0 a).post fun v h' q => ?_
      rw [if_pos rfl]; exact q
    · refine (own_oeD l Z a0 hw EL hEL h0 a b bs ds hab A B cz O hO).post fun v h' q => ?_
      simpa using q
theorem dKI_0 : decode prog_12_method_1_code 0 = .ok (.aload_n 0, 1) := by decide +kernel
theorem dKI_1 : decode prog_12_method_1_code 1 = .ok (.invokespecial 1, 3) := by decide +kernel
theorem dKI_4 : decode prog_12_method_1_code 4 = .ok (.aload_n 0, 1) := by decide +kernel
theorem dKI_5 : decode prog_12_method_1_code 5 = .ok (.aload_n 1, 1) := by decide +kernel
theorem dKI_6 : decode prog_12_method_1_code 6 = .ok (.ldc 7, 2) := by decide +kernel
theorem dKI_8 : decode prog_12_method_1_code 8 = .ok (.invokestatic 9, 3) := by decide +kernel
theorem dKI_11 : decode prog_12_method_1_code 11 = .ok (.checkcast 15, 3) := by decide +kernel
theorem dKI_14 : decode prog_12_method_1_code 14 = .ok (.putfield 17, 3) := by decide +kernel
theorem dKI_17 : decode prog_12_method_1_code 17 = .ok (.aload_n 0, 1) := by decide +kernel
theorem dKI_18 : decode prog_12_method_1_code 18 = .ok (.aload_n 2, 1) := by decide +kernel
theorem dKI_19 : decode prog_12_method_1_code 19 = .ok (.putfield 22, 3) := by decide +kernel
theorem dKI_22 : decode prog_12_method_1_code 22 = .ok (.aload_n 0, 1) := by decide +kernel
theorem dKI_23 : decode prog_12_method_1_code 23 = .ok (.aload_n 3, 1) := by decide +kernel
theorem dKI_24 : decode prog_12_method_1_code 24 = .ok (.ldc 25, 2) := by decide +kernel
theorem dKI_26 : decode prog_12_method_1_code 26 = .ok (.invokestatic 9, 3) := by decide +kernel
theorem dKI_29 : decode prog_12_method_1_code 29 = .ok (.checkcast 15, 3) := by decide +kernel
theorem dKI_32 : decode prog_12_method_1_code 32 = .ok (.putfield 27, 3) := by decide +kernel
theorem dKI_35 : decode prog_12_method_1_code 35 = .ok (.return_, 1) := by decide +kernel
set_option maxRecDepth 65536 in
set_option maxHeartbeats 40000000 in
theorem own_ki (l : Launch) (Z : State) (a0 : Array Value) (hw : ∀ d ∈ tables_1, d.before a0 Z = true) (EL : List (String × Nat)) (hEL : EW Z a0 EL) (h0 : Heap) (a t e : Addr) (d : Value) (hN : Z.heap.size ≤ a) (hA : Exa Z h0 a "com/example/allow_policy/allowpolicy/model/Condition") (hT : Exa Z h0 t "java/lang/String") (hX : Exa Z h0 e "java/lang/String") (hD1 : d.isRef = true) (hD2 : narrow (.object "java/lang/String") d = d) (hD3 : fits (.object "java/lang/String") d = true) (hF_title : Fld Z h0 a "com/example/allow_policy/allowpolicy/model/Condition" "title" "Ljava/lang/String;" .null) (hF_description : Fld Z h0 a "com/example/allow_policy/allowpolicy/model/Condition" "description" "Ljava/lang/String;" .null) (hF_expression : Fld Z h0 a "com/example/allow_policy/allowpolicy/model/Condition" "expression" "Ljava/lang/String;" .null) :
    Con l Z EL false [] (⟨"com/example/allow_policy/allowpolicy/model/Condition", "<init>", "(Ljava/lang/String;Ljava/lang/String;Ljava/lang/String;)V"⟩ : MethodName) prog_12_method_1_code 4 none ({ frames := 1, cells := 4, slots := 68, locals := 25 } : Room) #[(.ref a), (.ref t), d, (.ref e)] h0 (fun v h' => v = none ∧ Keep h0 h' [a] ∧ Exa Z h' a "com/example/allow_policy/allowpolicy/model/Condition" ∧ Fld Z h' a "com/example/allow_policy/allowpolicy/model/Condition" "title" "Ljava/lang/String;" (.ref t) ∧ Fld Z h' a "com/example/allow_policy/allowpolicy/model/Condition" "description" "Ljava/lang/String;" d ∧ Fld Z h' a "com/example/allow_policy/allowpolicy/model/Condition" "expression" "Ljava/lang/String;" (.ref e)) := by
  have wS : ∀ a ∈ Bundle.stringAtoms, a.before a0 Z = true := fun d hd => hw d ((by decide +kernel : ∀ d ∈ Bundle.stringAtoms, d ∈ tables_1) d hd)
  refine Con.of (Ls := #[.val (.ref a), .val (.ref t), .val d, .val (.ref e)]) own_pn3 hEL (fun m => by rcases ref_cases hD1 with rfl | ⟨_, rfl⟩ <;> first | (simp [entryFrame, mkF, argsToLocals, Value.category]; done) | rfl) ?_
  intro vm0 hZ0 hE0 hC0 hS0
  refine WP.aloadN (n := 1) dKI_0 rfl rfl rfl ?_
  refine WP.initO (n := 4) (Wd := 0) dKI_1 (hw _ (List.mem_of_getElem? (i := 35) rfl)) (hw _ (List.mem_of_getElem? (i := 22) rfl)) (hw _ (List.mem_of_getElem? (i := 23) rfl)) rfl (by decide) (Nat.le_of_eq rfl) (by decide) rfl ?_
  refine WP.aloadN (n := 5) dKI_4 rfl rfl rfl ?_
  refine WP.aloadN (n := 6) dKI_5 rfl rfl rfl ?_
  refine WP.ldcO (n := 8) (nn := 20) (ce' := 2) (sl' := 24) dKI_6 rfl (hw _ (List.mem_of_getElem? (i := 36) rfl)) wS (by decide) (by decide) rfl rfl (by decide) (by decide) hEL rfl (fun a19 vm19 h19 E19 r19 => ?_)
  refine WP.callS (n := 11) (ce' := 2) (sl' := 24) (Wd := 1) (argsL := [(.ref t), (.ref a19)]) (rest := [(.ref a)]) (own_rnn l Z a0 hw EL hEL h19 t a19) dKI_8 (hw _ (List.mem_of_getElem? (i := 37) rfl)) (hw _ (List.mem_of_getElem? (i := 38) rfl)) (hw _ (List.mem_of_getElem? (i := 39) rfl)) (hw _ (List.mem_of_getElem? (i := 40) rfl)) (by decide) (fun _ q => nomatch q) (by decide) (by decide) rfl rfl (by decide) (by decide) rfl rfl (lenOf own_pd6 rfl) rfl (Nat.le_of_eq rfl) rfl (fun v20 vm20 h20 q20 r20 => ?_)
  obtain ⟨rfl, rfl⟩ := q20
  refine WP.castY (n := 14) dKI_11 (hw _ (List.mem_of_getElem? (i := 41) rfl)) (Ins.self (hT.ext E19)) rfl ?_
  refine WP.putFE (n := 17) (host := "") (ty := (.object "java/lang/String")) dKI_14 (Or.inl (hw _ (List.mem_of_getElem? (i := 42) rfl))) Via.refl (hF_title.ext E19) (hA.ext E19) (Or.inr ⟨(hw _ (List.mem_of_getElem? (i := 43) rfl)), rfl, rfl⟩) (hw _ (List.mem_of_getElem? (i := 5) rfl)) (by decide) rfl rfl hN (by decide) rfl (fun h21 W21 r21 => ?_)
  have A21 := (hA.ext E19).wr W21
  have K21 := ((Keep.refl h0 [a]).ext E19).wr W21 (Or.inl (List.mem_cons_self ..))
  have F21_title := (hF_title.ext E19).same W21
  have F21_description := (hF_description.ext E19).other W21 (Or.inr (slot_ne (t := (.object "java/lang/String")) (t' := (.object "java/lang/String")) (Or.inr (hw _ (List.mem_of_getElem? (i := 45) rfl))) (Or.inr (hw _ (List.mem_of_getElem? (i := 43) rfl))) (by decide) (by decide) (by decide)))
  have F21_expression := (hF_expression.ext E19).other W21 (Or.inr (slot_ne (t := (.object "java/lang/String")) (t' := (.object "java/lang/String")) (Or.inr (hw _ (List.mem_of_getElem? (i := 48) rfl))) (Or.inr (hw _ (List.mem_of_getElem? (i := 43) rfl))) (by decide) (by decide) (by decide)))
  have A21_t := (hT.ext E19).wr W21
  have A21_e := (hX.ext E19).wr W21
  refine WP.aloadN (n := 18) dKI_17 rfl rfl rfl ?_
  refine WP.aloadN (n := 19) dKI_18 rfl hD1 rfl ?_
  refine WP.putFE (n := 22) (host := "") (ty := (.object "java/lang/String")) dKI_19 (Or.inl (hw _ (List.mem_of_getElem? (i := 44) rfl))) Via.refl F21_description A21 (Or.inr ⟨(hw _ (List.mem_of_getElem? (i := 45) rfl)), rfl, rfl⟩) (hw _ (List.mem_of_getElem? (i := 5) rfl)) (by decide) hD2 hD3 hN (by decide) rfl (fun h22 W22 r22 => ?_)
  have A22 := A21.wr W22
  have K22 := K21.wr W22 (Or.inl (List.mem_cons_self ..))
  have F22_description := F21_description.same W22
  have F22_title := F21_title.other W22 (Or.inr (slot_ne (t := (.object "java/lang/String")) (t' := (.object "java/lang/String")) (Or.inr (hw _ (List.mem_of_getElem? (i := 43) rfl))) (Or.inr (hw _ (List.mem_of_getElem? (i := 45) rfl))) (by decide) (by decide) (by decide)))
  have F22_expression := F21_expression.other W22 (Or.inr (slot_ne (t := (.object "java/lang/String")) (t' := (.object "java/lang/String")) (Or.inr (hw _ (List.mem_of_getElem? (i := 48) rfl))) (Or.inr (hw _ (List.mem_of_getElem? (i := 45) rfl))) (by decide) (by decide) (by decide)))
  have A22_t := A21_t.wr W22
  have A22_e := A21_e.wr W22
  refine WP.aloadN (n := 23) dKI_22 rfl rfl rfl ?_
  refine WP.aloadN (n := 24) dKI_23 rfl rfl rfl ?_
  refine WP.ldcO (n := 26) (nn := 40) (ce' := 4) (sl' := 68) dKI_24 rfl (hw _ (List.mem_of_getElem? (i := 46) rfl)) wS (by decide) (by decide) rfl rfl (by decide) (by decide) hEL rfl (fun a23 vm23 h23 E23 r23 => ?_)
  refine WP.callS (n := 29) (ce' := 4) (sl' := 68) (Wd := 1) (argsL := [(.ref e), (.ref a23)]) (rest := [(.ref a)]) (own_rnn l Z a0 hw EL hEL h23 e a23) dKI_26 (hw _ (List.mem_of_getElem? (i := 37) rfl)) (hw _ (List.mem_of_getElem? (i := 38) rfl)) (hw _ (List.mem_of_getElem? (i := 39) rfl)) (hw _ (List.mem_of_getElem? (i := 40) rfl)) (by decide) (fun _ q => nomatch q) (by decide) (by decide) rfl rfl (by decide) (by decide) rfl rfl (lenOf own_pd6 rfl) rfl (Nat.le_of_eq rfl) rfl (fun v24 vm24 h24 q24 r24 => ?_)
  obtain ⟨rfl, rfl⟩ := q24
  refine WP.castY (n := 32) dKI_29 (hw _ (List.mem_of_getElem? (i := 41) rfl)) (Ins.self (A22_e.ext E23)) rfl ?_
  refine WP.putFE (n := 35) (host := "") (ty := (.object "java/lang/String")) dKI_32 (Or.inl (hw _ (List.mem_of_getElem? (i := 47) rfl))) Via.refl (F22_expression.ext E23) (A22.ext E23) (Or.inr ⟨(hw _ (List.mem_of_getElem? (i := 48) rfl)), rfl, rfl⟩) (hw _ (List.mem_of_getElem? (i := 5) rfl)) (by decide) rfl rfl hN (by decide) rfl (fun h25 W25 r25 => ?_)
  have A25 := (A22.ext E23).wr W25
  have K25 := (K22.ext E23).wr W25 (Or.inl (List.mem_cons_self ..))
  have F25_expression := (F22_expression.ext E23).same W25
  have F25_title := (F22_title.ext E23).other W25 (Or.inr (slot_ne (t := (.object "java/lang/String")) (t' := (.object "java/lang/String")) (Or.inr (hw _ (List.mem_of_getElem? (i := 43) rfl))) (Or.inr (hw _ (List.mem_of_getElem? (i := 48) rfl))) (by decide) (by decide) (by decide)))
  have F25_description := (F22_description.ext E23).other W25 (Or.inr (slot_ne (t := (.object "java/lang/String")) (t' := (.object "java/lang/String")) (Or.inr (hw _ (List.mem_of_getElem? (i := 45) rfl))) (Or.inr (hw _ (List.mem_of_getElem? (i := 48) rfl))) (by decide) (by decide) (by decide)))
  have A25_t := (A22_t.ext E23).wr W25
  have A25_e := (A22_e.ext E23).wr W25
  refine WP.retV dKI_35 rfl (by decide) (by decide) ?_
  exact ⟨rfl, K25, A25, F25_title, F25_description, F25_expression⟩
theorem own_noinst {Z : State} {a0 : Array Value} {C S K : String} {n : Nat} (w : (Cond.superclass C S).before a0 Z = true) (wr : (Cond.noSuperclass S).before a0 Z = true) (wi : (Cond.instantiable K n).before a0 Z = true) (h1 : C ≠ K) (h2 : S ≠ K) : ∃ c t, Z.vm.findClass C = some c ∧ Z.vm.findClass K = some t ∧ Z.vm.assignable c t = false := by
  obtain ⟨c, k, hc, hk, hs, hkd, hif⟩ := Cond.noSuperclass_spec wr
  obtain ⟨t, kt, ht, hkt, hkk, hni, -⟩ := Cond.instantiable_spec wi
  obtain ⟨c0, hc0⟩ := found_sup w
  obtain ⟨p, k0, kp, q1, q2, q3, q4, q5, q6, q7⟩ := Cond.superclass_spec hc0 w
  cases hc.symm.trans q1
  cases hk.symm.trans q3
  have n1 := ids_ne hc0 ht h1
  have n2 := ids_ne hc ht h2
  have hni' : kt.isInterface = false := by
    cases hq : kt.isInterface with
    | false => rfl
    | true => rw [hq] at hni; simp at hni
  refine ⟨c0, t, hc0, ht, ?_⟩
  have key : ∀ fuel, Z.vm.isSubclassAux fuel c t = false := fun fuel => by
    cases fuel with
    | zero => rfl
    | succ f => simp [Vm.isSubclassAux, n2, hk, hs]
  have key2 : ∀ fuel, Z.vm.isSubclassAux fuel c0 t = false := fun fuel => by
    cases fuel with
    | zero => rfl
    | succ f => simp [Vm.isSubclassAux, n1, q2, q4, key]
  show Z.vm.assignableAux (255 + 1) c0 t = false
  simp [Vm.assignableAux, n1, q2, hkt, q5, hkk, hni', Vm.isSubclass, key2]
theorem dKE_0 : decode prog_12_method_5_code 0 = .ok (.aload_n 1, 1) := by decide +kernel
theorem dKE_1 : decode prog_12_method_5_code 1 = .ok (.instanceof 18, 3) := by decide +kernel
theorem dKE_4 : decode prog_12_method_5_code 4 = .ok (.ifCond .eq 11, 3) := by decide +kernel
theorem dKE_7 : decode prog_12_method_5_code 7 = .ok (.aload_n 1, 1) := by decide +kernel
theorem dKE_8 : decode prog_12_method_5_code 8 = .ok (.checkcast 18, 3) := by decide +kernel
theorem dKE_11 : decode prog_12_method_5_code 11 = .ok (.astore_n 2, 1) := by decide +kernel
theorem dKE_12 : decode prog_12_method_5_code 12 = .ok (.goto 5, 3) := by decide +kernel
theorem dKE_15 : decode prog_12_method_5_code 15 = .ok (.iconst 0, 1) := by decide +kernel
theorem dKE_16 : decode prog_12_method_5_code 16 = .ok (.ireturn, 1) := by decide +kernel
theorem dKE_17 : decode prog_12_method_5_code 17 = .ok (.aload_n 0, 1) := by decide +kernel
theorem dKE_18 : decode prog_12_method_5_code 18 = .ok (.getfield 17, 3) := by decide +kernel
theorem dKE_21 : decode prog_12_method_5_code 21 = .ok (.aload_n 2, 1) := by decide +kernel
theorem dKE_22 : decode prog_12_method_5_code 22 = .ok (.getfield 17, 3) := by decide +kernel
theorem dKE_25 : decode prog_12_method_5_code 25 = .ok (.invokevirtual 35, 3) := by decide +kernel
theorem dKE_28 : decode prog_12_method_5_code 28 = .ok (.ifCond .eq 35, 3) := by decide +kernel
theorem dKE_31 : decode prog_12_method_5_code 31 = .ok (.aload_n 0, 1) := by decide +kernel
theorem dKE_32 : decode prog_12_method_5_code 32 = .ok (.getfield 22, 3) := by decide +kernel
theorem dKE_35 : decode prog_12_method_5_code 35 = .ok (.aload_n 2, 1) := by decide +kernel
theorem dKE_36 : decode prog_12_method_5_code 36 = .ok (.getfield 22, 3) := by decide +kernel
theorem dKE_39 : decode prog_12_method_5_code 39 = .ok (.invokestatic 39, 3) := by decide +kernel
theorem dKE_42 : decode prog_12_method_5_code 42 = .ok (.ifCond .eq 21, 3) := by decide +kernel
theorem dKE_45 : decode prog_12_method_5_code 45 = .ok (.aload_n 0, 1) := by decide +kernel
theorem dKE_46 : decode prog_12_method_5_code 46 = .ok (.getfield 27, 3) := by decide +kernel
theorem dKE_49 : decode prog_12_method_5_code 49 = .ok (.aload_n 2, 1) := by decide +kernel
theorem dKE_50 : decode prog_12_method_5_code 50 = .ok (.getfield 27, 3) := by decide +kernel
theorem dKE_53 : decode prog_12_method_5_code 53 = .ok (.invokevirtual 35, 3) := by decide +kernel
theorem dKE_56 : decode prog_12_method_5_code 56 = .ok (.ifCond .eq 7, 3) := by decide +kernel
theorem dKE_59 : decode prog_12_method_5_code 59 = .ok (.iconst 1, 1) := by decide +kernel
theorem dKE_60 : decode prog_12_method_5_code 60 = .ok (.goto 4, 3) := by decide +kernel
theorem dKE_63 : decode prog_12_method_5_code 63 = .ok (.iconst 0, 1) := by decide +kernel
theorem dKE_64 : decode prog_12_method_5_code 64 = .ok (.ireturn, 1) := by decide +kernel
set_option maxRecDepth 65536 in
set_option maxHeartbeats 40000000 in
theorem own_keN (l : Launch) (Z : State) (a0 : Array Value) (hw : ∀ d ∈ tables_1, d.before a0 Z = true) (EL : List (String × Nat)) (hEL : EW Z a0 EL) (h0 : Heap) (a : Addr) :
    Con l Z EL false [] (⟨"com/example/allow_policy/allowpolicy/model/Condition", "equals", "(Ljava/lang/Object;)Z"⟩ : MethodName) prog_12_method_5_code 3 (some .boolean) ({ frames := 3, cells := 0, slots := 0, locals := 41 } : Room) #[(.ref a), .null] h0 (fun v h' => v = some (.int 0) ∧ h0 = h') := by
  refine Con.of (Ls := #[.val (.ref a), .val .null, .unset]) own_pn3 hEL (fun m => by first | (simp [entryFrame, mkF, argsToLocals, Value.category]; done) | rfl) ?_
  intro vm0 hZ0 hE0 hC0 hS0
  refine WP.aloadN (n := 1) dKE_0 rfl rfl rfl ?_
  refine WP.instNull (n := 4) dKE_1 rfl ?_
  refine WP.ifcY (n := 15) dKE_4 (by decide) (by decide) (by decide) ?_
  refine WP.iconst (n := 16) (z := (0 : Int32)) dKE_15 rfl rfl ?_
  exact WP.retN dKE_16 rfl (Or.inl rfl) (by decide : nar .boolean 0 = 0) (by decide) (by decide) ⟨rfl, rfl⟩
set_option maxRecDepth 65536 in
set_option maxHeartbeats 40000000 in
theorem own_keS (l : Launch) (Z : State) (a0 : Array Value) (hw : ∀ d ∈ tables_1, d.before a0 Z = true) (EL : List (String × Nat)) (hEL : EW Z a0 EL) (h0 : Heap) (a b : Addr) (A : Exa Z h0 b "java/lang/String") :
    Con l Z EL false [] (⟨"com/example/allow_policy/allowpolicy/model/Condition", "equals", "(Ljava/lang/Object;)Z"⟩ : MethodName) prog_12_method_5_code 3 (some .boolean) ({ frames := 3, cells := 0, slots := 0, locals := 41 } : Room) #[(.ref a), (.ref b)] h0 (fun v h' => v = some (.int 0) ∧ h0 = h') := by
  refine Con.of (Ls := #[.val (.ref a), .val (.ref b), .unset]) own_pn3 hEL (fun m => by first | (simp [entryFrame, mkF, argsToLocals, Value.category]; done) | rfl) ?_
  intro vm0 hZ0 hE0 hC0 hS0
  refine WP.aloadN (n := 1) dKE_0 rfl rfl rfl ?_
  refine WP.instNo (n := 4) dKE_1 (hw _ (List.mem_of_getElem? (i := 54) rfl)) A (own_noinst (hw _ (List.mem_of_getElem? (i := 55) rfl)) (hw _ (List.mem_of_getElem? (i := 56) rfl)) (hw _ (List.mem_of_getElem? (i := 5) rfl)) (by decide) (by decide)) rfl ?_
  refine WP.ifcY (n := 15) dKE_4 (by decide) (by decide) (by decide) ?_
  refine WP.iconst (n := 16) (z := (0 : Int32)) dKE_15 rfl rfl ?_
  exact WP.retN dKE_16 rfl (Or.inl rfl) (by decide : nar .boolean 0 = 0) (by decide) (by decide) ⟨rfl, rfl⟩
set_option maxRecDepth 65536 in
set_option maxHeartbeats 40000000 in
theorem own_keK (l : Launch) (Z : State) (a0 : Array Value) (hw : ∀ d ∈ tables_1, d.before a0 Z = true) (EL : List (String × Nat)) (hEL : EW Z a0 EL) (h0 : Heap) (a b t t' e e' : Addr) (d d' : Value) (bt bt' be be' : List Int32) (k k' : Option (List Int32)) (A : Exa Z h0 a "com/example/allow_policy/allowpolicy/model/Condition") (B : Exa Z h0 b "com/example/allow_policy/allowpolicy/model/Condition") (F_title : Fld Z h0 a "com/example/allow_policy/allowpolicy/model/Condition" "title" "Ljava/lang/String;" (.ref t)) (F_description : Fld Z h0 a "com/example/allow_policy/allowpolicy/model/Condition" "description" "Ljava/lang/String;" d) (F_expression : Fld Z h0 a "com/example/allow_policy/allowpolicy/model/Condition" "expression" "Ljava/lang/String;" (.ref e)) (G_title : Fld Z h0 b "com/example/allow_policy/allowpolicy/model/Condition" "title" "Ljava/lang/String;" (.ref t')) (G_description : Fld Z h0 b "com/example/allow_policy/allowpolicy/model/Condition" "description" "Ljava/lang/String;" d') (G_expression : Fld Z h0 b "com/example/allow_policy/allowpolicy/model/Condition" "expression" "Ljava/lang/String;" (.ref e')) (S1 : Str Z h0 t bt) (S1' : Str Z h0 t' bt') (D : Dsc Z h0 d k) (D' : Dsc Z h0 d' k') (S2 : Str Z h0 e be) (S2' : Str Z h0 e' be') (cz : Int32) (O : Sta Z Z.heap "java/lang/String" "COMPACT_STRINGS" "Z" (.int cz)) (hO : ¬ cz = 0) :
    Con l Z EL false [] (⟨"com/example/allow_policy/allowpolicy/model/Condition", "equals", "(Ljava/lang/Object;)Z"⟩ : MethodName) prog_12_method_5_code 3 (some .boolean) ({ frames := 3, cells := 0, slots := 0, locals := 41 } : Room) #[(.ref a), (.ref b)] h0 (fun v h' => v = some (.int (if bt = bt' ∧ k = k' ∧ be = be' then 1 else 0)) ∧ h0 = h') := by
  refine Con.of (Ls := #[.val (.ref a), .val (.ref b), .unset]) own_pn3 hEL (fun m => by first | (simp [entryFrame, mkF, argsToLocals, Value.category]; done) | rfl) ?_
  intro vm0 hZ0 hE0 hC0 hS0
  refine WP.aloadN (n := 1) dKE_0 rfl rfl rfl ?_
  refine WP.instY (n := 4) dKE_1 (hw _ (List.mem_of_getElem? (i := 54) rfl)) (Ins.self B) rfl ?_
  refine WP.ifcN (n' := 7) dKE_4 (by decide) rfl ?_
  refine WP.aloadN (n := 8) dKE_7 rfl rfl rfl ?_
  refine WP.castY (n := 11) dKE_8 (hw _ (List.mem_of_getElem? (i := 54) rfl)) (Ins.self B) rfl ?_
  refine WP.astoreN (n := 12) (Ls' := #[.val (.ref a), .val (.ref b), .val (.ref b)]) dKE_11 rfl rfl rfl ?_
  refine WP.goto (n := 17) dKE_12 (by decide) (by decide) ?_
  refine WP.aloadN (n := 18) dKE_17 rfl rfl rfl ?_
  refine WP.getF (n := 21) (host := "") dKE_18 (Or.inl (hw _ (List.mem_of_getElem? (i := 42) rfl))) Via.refl F_title rfl ?_
  refine WP.aloadN (n := 22) dKE_21 rfl rfl rfl ?_
  refine WP.getF (n := 25) (host := "") dKE_22 (Or.inl (hw _ (List.mem_of_getElem? (i := 42) rfl))) Via.refl G_title rfl ?_
  refine WP.callV (n := 28) (ce' := 0) (sl' := 0) (Wd := 0) (a := t) (argsL := [(.ref t')]) (rest := []) (own_seq l Z a0 hw EL hEL h0 t t' bt bt' S1 S1' cz O hO) S1.1 dKE_25 (hw _ (List.mem_of_getElem? (i := 73) rfl)) (hw _ (List.mem_of_getElem? (i := 74) rfl)) (hw _ (List.mem_of_getElem? (i := 76) rfl)) (hw _ (List.mem_of_getElem? (i := 75) rfl)) (hw _ (List.mem_of_getElem? (i := 12) rfl)) (hw _ (List.mem_of_getElem? (i := 77) rfl)) (by decide) (fun _ hz => notFace_of_selects (args := #[]) (mvT hz (hw _ (List.mem_of_getElem? (i := 76) rfl)))) (fun _ q => nomatch q) (by decide) (by decide) rfl rfl (by decide) (by decide) rfl rfl (lenOf own_pd5 rfl) rfl (Nat.le_of_eq rfl) rfl (fun v26 vm26 h26 q26 r26 => ?_)
  obtain ⟨rfl, rfl⟩ := q26
  by_cases ht : bt = bt'
  · rw [if_pos ht]
    refine WP.ifcN (n' := 31) dKE_28 (by decide) rfl ?_
    refine WP.aloadN (n := 32) dKE_31 rfl rfl rfl ?_
    refine WP.getF (n := 35) (host := "") dKE_32 (Or.inl (hw _ (List.mem_of_getElem? (i := 44) rfl))) Via.refl F_description rfl ?_
    refine WP.aloadN (n := 36) dKE_35 rfl rfl rfl ?_
    refine WP.getF (n := 39) (host := "") dKE_36 (Or.inl (hw _ (List.mem_of_getElem? (i := 44) rfl))) Via.refl G_description rfl ?_
    refine WP.callS (n := 42) (ce' := 0) (sl' := 0) (Wd := 0) (argsL := [d, d']) (rest := []) (own_oe l Z a0 hw EL hEL h0 d d' k k' D D' cz O hO) dKE_39 (hw _ (List.mem_of_getElem? (i := 81) rfl)) (hw _ (List.mem_of_getElem? (i := 82) rfl)) (hw _ (List.mem_of_getElem? (i := 39) rfl)) (hw _ (List.mem_of_getElem? (i := 83) rfl)) (by decide) (fun _ q => nomatch q) (by decide) (by decide) rfl rfl (by decide) (by decide) rfl rfl (lenOf own_pd7 rfl) rfl (Nat.le_of_eq rfl) rfl (fun v27 vm27 h27 q27 r27 => ?_)
    obtain ⟨rfl, rfl⟩ := q27
    by_cases hd : k = k'
    · rw [if_pos hd]
      refine WP.ifcN (n' := 45) dKE_42 (by decide) rfl ?_
      refine WP.aloadN (n := 46) dKE_45 rfl rfl rfl ?_
      refine WP.getF (n := 49) (host := "") dKE_46 (Or.inl (hw _ (List.mem_of_getElem? (i := 47) rfl))) Via.refl F_expression rfl ?_
      refine WP.aloadN (n := 50) dKE_49 rfl rfl rfl ?_
      refine WP.getF (n := 53) (host := "") dKE_50 (Or.inl (hw _ (List.mem_of_getElem? (i := 47) rfl))) Via.refl G_expression rfl ?_
      refine WP.callV (n := 56) (ce' := 0) (sl' := 0) (Wd := 0) (a := e) (argsL := [(.ref e')]) (rest := []) (own_seq l Z a0 hw EL hEL h0 e e' be be' S2 S2' cz O hO) S2.1 dKE_53 (hw _ (List.mem_of_getElem? (i := 73) rfl)) (hw _ (List.mem_of_getElem? (i := 74) rfl)) (hw _ (List.mem_of_getElem? (i := 76) rfl)) (hw _ (List.mem_of_getElem? (i := 75) rfl)) (hw _ (List.mem_of_getElem? (i := 12) rfl)) (hw _ (List.mem_of_getElem? (i := 77) rfl)) (by decide) (fun _ hz => notFace_of_selects (args := #[]) (mvT hz (hw _ (List.mem_of_getElem? (i := 76) rfl)))) (fun _ q => nomatch q) (by decide) (by decide) rfl rfl (by decide) (by decide) rfl rfl (lenOf own_pd5 rfl) rfl (Nat.le_of_eq rfl) rfl (fun v28 vm28 h28 q28 r28 => ?_)
      obtain ⟨rfl, rfl⟩ := q28
      by_cases he : be = be'
      · rw [if_pos he]
        refine WP.ifcN (n' := 59) dKE_56 (by decide) rfl ?_
        refine WP.iconst (n := 60) (z := (1 : Int32)) dKE_59 rfl rfl ?_
        refine WP.goto (n := 64) dKE_60 (by decide) (by decide) ?_
        exact WP.retN dKE_64 rfl (Or.inl rfl) (by decide : nar .boolean 1 = 1) (by decide) (by decide) ⟨by first | rfl | rw [if_pos ⟨ht, hd, he⟩], rfl⟩
      · rw [if_neg he]
        refine WP.ifcY (n := 63) dKE_56 (by decide) (by decide) (by decide) ?_
        refine WP.iconst (n := 64) (z := (0 : Int32)) dKE_63 rfl rfl ?_
        exact WP.retN dKE_64 rfl (Or.inl rfl) (by decide : nar .boolean 0 = 0) (by decide) (by decide) ⟨by first | rfl | rw [if_neg (fun q => he q.2.2)], rfl⟩
    · rw [if_neg hd]
      refine WP.ifcY (n := 63) dKE_42 (by decide) (by decide) (by decide) ?_
      refine WP.iconst (n := 64) (z := (0 : Int32)) dKE_63 rfl rfl ?_
      exact WP.retN dKE_64 rfl (Or.inl rfl) (by decide : nar .boolean 0 = 0) (by decide) (by decide) ⟨by first | rfl | rw [if_neg (fun q => hd q.2.1)], rfl⟩
  · rw [if_neg ht]
    refine WP.ifcY (n := 63) dKE_28 (by decide) (by decide) (by decide) ?_
    refine WP.iconst (n := 64) (z := (0 : Int32)) dKE_63 rfl rfl ?_
    exact WP.retN dKE_64 rfl (Or.inl rfl) (by decide : nar .boolean 0 = 0) (by decide) (by decide) ⟨by first | rfl | rw [if_neg (fun q => ht q.1)], rfl⟩
def own_key (x b : Int32) : Int32 := if ¬ b = 0 ∧ ¬ (XT.ushr x 9 &&& 1) = 0 then -2 else if (XT.ushr x 8 &&& 1) = 0 then -1 else x &&& 255
def KN (k : Int32) : Prop := k = -1 ∨ (¬ k < 0 ∧ ¬ (255 : Int32) < k)
theorem own_c8r (x : Int32) : ¬ (x &&& 255) < 0 ∧ ¬ (255 : Int32) < (x &&& 255) := by
  have h1 := c_mask x 255 8 (by decide) (by decide)
  rw [Int32.lt_iff_toInt_lt, Int32.lt_iff_toInt_lt]
  have e0 : (0 : Int32).toInt = 0 := rfl
  have e1 : (255 : Int32).toInt = 255 := rfl
  omega
theorem own_key0 (x : Int32) : KN (own_key x 0) := by
  unfold own_key
  rw [if_neg (fun q => q.1 rfl)]
  split
  · exact Or.inl rfl
  · exact Or.inr (own_c8r x)
theorem own_key1 (x : Int32) : own_key x 1 = -2 ∨ KN (own_key x 1) := by
  unfold own_key
  split
  · exact Or.inl rfl
  · right
    split
    · exact Or.inl rfl
    · exact Or.inr (own_c8r x)
theorem KN.ne {k : Int32} (h : KN k) : ¬ k = -2 := by
  rcases h with rfl | ⟨h, -⟩
  · decide
  · intro e; subst e; exact h (by decide)
def own_sb' (k : Int32) : List Int32 := if k = -1 then [] else [k.toInt8.toInt32]
theorem own_rng {k : Int32} (h : ¬ k < 0 ∧ ¬ (255 : Int32) < k) : 0 ≤ k.toInt ∧ k.toInt ≤ 255 := by
  rw [Int32.lt_iff_toInt_lt, Int32.lt_iff_toInt_lt] at h
  have e0 : (0 : Int32).toInt = 0 := rfl
  have e1 : (255 : Int32).toInt = 255 := rfl
  omega
theorem own_inj8 {k m : Int32} (h : ¬ k < 0 ∧ ¬ (255 : Int32) < k) (h' : ¬ m < 0 ∧ ¬ (255 : Int32) < m) (e : k.toInt8.toInt32 = m.toInt8.toInt32) : k = m := by
  have a := own_rng h
  have b := own_rng h'
  have c1 := c_i2b k
  have c2 := c_i2b m
  rw [e] at c1
  rw [← Int32.toInt_inj]; omega
theorem own_sb_inj {k m : Int32} (h : KN k) (h' : KN m) : own_sb' k = own_sb' m ↔ k = m := by
  constructor
  · intro e
    unfold own_sb' at e
    by_cases q : k = -1 <;> by_cases q' : m = -1
    · rw [q, q']
    · rw [if_pos q, if_neg q'] at e; cases e
    · rw [if_neg q, if_pos q'] at e; cases e
    · rw [if_neg q, if_neg q'] at e
      injection e with e
      exact own_inj8 (h.resolve_left q) (h'.resolve_left q') e
  · intro e; rw [e]
def own_ds (k : Int32) : Option (List Int32) := if k = -2 then none else some (own_sb' k)
theorem own_ds_inj {k m : Int32} (h : k = -2 ∨ KN k) (h' : m = -2 ∨ KN m) : own_ds k = own_ds m ↔ k = m := by
  constructor
  · intro e
    unfold own_ds at e
    by_cases q : k = -2 <;> by_cases q' : m = -2
    · rw [q, q']
    · rw [if_pos q, if_neg q'] at e; cases e
    · rw [if_neg q, if_pos q'] at e; cases e
    · rw [if_neg q, if_neg q'] at e
      injection e with e
      exact (own_sb_inj (h.resolve_left q) (h'.resolve_left q')).mp e
  · intro e; rw [e]
theorem own_c16 {k : Int32} (h : ¬ k < 0 ∧ ¬ (255 : Int32) < k) : k.toUInt32.toUInt16.toUInt32.toInt32 = k := by
  have a := own_rng h
  have b := c_i2c k
  rw [← Int32.toInt_inj]; omega
theorem dKY_0 : decode method_2_code 0 = .ok (.iload_n 1, 1) := by decide +kernel
theorem dKY_1 : decode method_2_code 1 = .ok (.ifCond .eq 15, 3) := by decide +kernel
theorem dKY_4 : decode method_2_code 4 = .ok (.iload_n 0, 1) := by decide +kernel
theorem dKY_5 : decode method_2_code 5 = .ok (.bipush 9, 2) := by decide +kernel
theorem dKY_7 : decode method_2_code 7 = .ok (.iushr, 1) := by decide +kernel
theorem dKY_8 : decode method_2_code 8 = .ok (.iconst 1, 1) := by decide +kernel
theorem dKY_9 : decode method_2_code 9 = .ok (.iand, 1) := by decide +kernel
theorem dKY_10 : decode method_2_code 10 = .ok (.ifCond .eq 6, 3) := by decide +kernel
theorem dKY_13 : decode method_2_code 13 = .ok (.bipush (-2), 2) := by decide +kernel
theorem dKY_15 : decode method_2_code 15 = .ok (.ireturn, 1) := by decide +kernel
theorem dKY_16 : decode method_2_code 16 = .ok (.iload_n 0, 1) := by decide +kernel
theorem dKY_17 : decode method_2_code 17 = .ok (.bipush 8, 2) := by decide +kernel
theorem dKY_19 : decode method_2_code 19 = .ok (.iushr, 1) := by decide +kernel
theorem dKY_20 : decode method_2_code 20 = .ok (.iconst 1, 1) := by decide +kernel
theorem dKY_21 : decode method_2_code 21 = .ok (.iand, 1) := by decide +kernel
theorem dKY_22 : decode method_2_code 22 = .ok (.ifCond .ne 5, 3) := by decide +kernel
theorem dKY_25 : decode method_2_code 25 = .ok (.iconst (-1), 1) := by decide +kernel
theorem dKY_26 : decode method_2_code 26 = .ok (.ireturn, 1) := by decide +kernel
theorem dKY_27 : decode method_2_code 27 = .ok (.iload_n 0, 1) := by decide +kernel
theorem dKY_28 : decode method_2_code 28 = .ok (.sipush 255, 3) := by decide +kernel
theorem dKY_31 : decode method_2_code 31 = .ok (.iand, 1) := by decide +kernel
theorem dKY_32 : decode method_2_code 32 = .ok (.ireturn, 1) := by decide +kernel
set_option maxRecDepth 65536 in
set_option maxHeartbeats 40000000 in
theorem own_ky0 (l : Launch) (Z : State) (a0 : Array Value) (hw : ∀ d ∈ tables_1, d.before a0 Z = true) (EL : List (String × Nat)) (hEL : EW Z a0 EL) (h0 : Heap) (y : Int32) :
    Con l Z EL false [] (⟨"com/example/allow_policy/allowpolicy/model/ConditionEqualsPinLaw", "key", "(IZ)I"⟩ : MethodName) method_2_code 2 (some .int) ({ frames := 0, cells := 0, slots := 0, locals := 0 } : Room) #[(.int y), (.int (0 : Int32))] h0 (fun v h' => v = some (.int (own_key y 0)) ∧ h0 = h') := by
  refine Con.of (Ls := #[.val (.int y), .val (.int (0 : Int32))]) own_pn4 hEL (fun m => by first | (simp [entryFrame, mkF, argsToLocals, Value.category]; done) | rfl) ?_
  intro vm0 hZ0 hE0 hC0 hS0
  refine WP.iloadN (n := 1) dKY_0 rfl rfl ?_
  refine WP.ifcY (n := 16) dKY_1 (by decide) (by decide) (by decide) ?_
  refine WP.iloadN (n := 17) dKY_16 rfl rfl ?_
  refine WP.bipush (n := 19) (z := (8 : Int32)) dKY_17 (by decide) rfl ?_
  refine WP.iushr (n := 20) dKY_19  rfl ?_
  refine WP.iconst (n := 21) (z := (1 : Int32)) dKY_20 rfl rfl ?_
  refine WP.iand (n := 22) dKY_21  rfl ?_
  refine WP.if_ne (n := 27) (n' := 25) dKY_22 (by decide) (by decide) rfl (fun b29 => ?_) (fun b29 => ?_)
  · refine WP.iloadN (n := 28) dKY_27 rfl rfl ?_
    refine WP.sipush (n := 31) (z := (255 : Int32)) dKY_28 (by decide) rfl ?_
    refine WP.iand (n := 32) dKY_31  rfl ?_
    exact WP.retI dKY_32 rfl (by decide) (by decide) ⟨by unfold own_key; rw [if_neg (fun q => q.1 rfl), if_neg b29], rfl⟩
  · refine WP.iconst (n := 26) (z := (-1 : Int32)) dKY_25 rfl rfl ?_
    exact WP.retI dKY_26 rfl (by decide) (by decide) ⟨by unfold own_key; rw [if_neg (fun q => q.1 rfl), if_pos b29], rfl⟩
set_option maxRecDepth 65536 in
set_option maxHeartbeats 40000000 in
theorem own_ky1 (l : Launch) (Z : State) (a0 : Array Value) (hw : ∀ d ∈ tables_1, d.before a0 Z = true) (EL : List (String × Nat)) (hEL : EW Z a0 EL) (h0 : Heap) (y : Int32) :
    Con l Z EL false [] (⟨"com/example/allow_policy/allowpolicy/model/ConditionEqualsPinLaw", "key", "(IZ)I"⟩ : MethodName) method_2_code 2 (some .int) ({ frames := 0, cells := 0, slots := 0, locals := 0 } : Room) #[(.int y), (.int (1 : Int32))] h0 (fun v h' => v = some (.int (own_key y 1)) ∧ h0 = h') := by
  refine Con.of (Ls := #[.val (.int y), .val (.int (1 : Int32))]) own_pn4 hEL (fun m => by first | (simp [entryFrame, mkF, argsToLocals, Value.category]; done) | rfl) ?_
  intro vm0 hZ0 hE0 hC0 hS0
  refine WP.iloadN (n := 1) dKY_0 rfl rfl ?_
  refine WP.ifcN (n' := 4) dKY_1 (by decide) rfl ?_
  refine WP.iloadN (n := 5) dKY_4 rfl rfl ?_
  refine WP.bipush (n := 7) (z := (9 : Int32)) dKY_5 (by decide) rfl ?_
  refine WP.iushr (n := 8) dKY_7  rfl ?_
  refine WP.iconst (n := 9) (z := (1 : Int32)) dKY_8 rfl rfl ?_
  refine WP.iand (n := 10) dKY_9  rfl ?_
  refine WP.if_eq (n := 16) (n' := 13) dKY_10 (by decide) (by decide) rfl (fun b30 => ?_) (fun b30 => ?_)
  · refine WP.iloadN (n := 17) dKY_16 rfl rfl ?_
    refine WP.bipush (n := 19) (z := (8 : Int32)) dKY_17 (by decide) rfl ?_
    refine WP.iushr (n := 20) dKY_19  rfl ?_
    refine WP.iconst (n := 21) (z := (1 : Int32)) dKY_20 rfl rfl ?_
    refine WP.iand (n := 22) dKY_21  rfl ?_
    refine WP.if_ne (n := 27) (n' := 25) dKY_22 (by decide) (by decide) rfl (fun b31 => ?_) (fun b31 => ?_)
    · refine WP.iloadN (n := 28) dKY_27 rfl rfl ?_
      refine WP.sipush (n := 31) (z := (255 : Int32)) dKY_28 (by decide) rfl ?_
      refine WP.iand (n := 32) dKY_31  rfl ?_
      exact WP.retI dKY_32 rfl (by decide) (by decide) ⟨by unfold own_key; rw [if_neg (fun q => q.2 b30), if_neg b31], rfl⟩
    · refine WP.iconst (n := 26) (z := (-1 : Int32)) dKY_25 rfl rfl ?_
      exact WP.retI dKY_26 rfl (by decide) (by decide) ⟨by unfold own_key; rw [if_neg (fun q => q.2 b30), if_pos b31], rfl⟩
  · refine WP.bipush (n := 15) (z := (-2 : Int32)) dKY_13 (by decide) rfl ?_
    exact WP.retI dKY_15 rfl (by decide) (by decide) ⟨by unfold own_key; rw [if_pos ⟨by decide, b30⟩], rfl⟩
theorem dST_0 : decode method_3_code 0 = .ok (.iload_n 0, 1) := by decide +kernel
theorem dST_1 : decode method_3_code 1 = .ok (.bipush (-2), 2) := by decide +kernel
theorem dST_3 : decode method_3_code 3 = .ok (.if_icmp .ne 5, 3) := by decide +kernel
theorem dST_6 : decode method_3_code 6 = .ok (.aconst_null, 1) := by decide +kernel
theorem dST_7 : decode method_3_code 7 = .ok (.areturn, 1) := by decide +kernel
theorem dST_8 : decode method_3_code 8 = .ok (.iload_n 0, 1) := by decide +kernel
theorem dST_9 : decode method_3_code 9 = .ok (.iconst (-1), 1) := by decide +kernel
theorem dST_10 : decode method_3_code 10 = .ok (.if_icmp .ne 14, 3) := by decide +kernel
theorem dST_13 : decode method_3_code 13 = .ok (.new 7, 3) := by decide +kernel
theorem dST_16 : decode method_3_code 16 = .ok (.dup, 1) := by decide +kernel
theorem dST_17 : decode method_3_code 17 = .ok (.iconst 0, 1) := by decide +kernel
theorem dST_18 : decode method_3_code 18 = .ok (.newarray .char, 2) := by decide +kernel
theorem dST_20 : decode method_3_code 20 = .ok (.invokespecial 9, 3) := by decide +kernel
theorem dST_23 : decode method_3_code 23 = .ok (.areturn, 1) := by decide +kernel
theorem dST_24 : decode method_3_code 24 = .ok (.iload_n 0, 1) := by decide +kernel
theorem dST_25 : decode method_3_code 25 = .ok (.i2c, 1) := by decide +kernel
theorem dST_26 : decode method_3_code 26 = .ok (.invokestatic 12, 3) := by decide +kernel
theorem dST_29 : decode method_3_code 29 = .ok (.areturn, 1) := by decide +kernel
set_option maxRecDepth 65536 in
set_option maxHeartbeats 40000000 in
theorem own_stN (l : Launch) (Z : State) (a0 : Array Value) (hw : ∀ d ∈ tables_1, d.before a0 Z = true) (EL : List (String × Nat)) (hEL : EW Z a0 EL) (h0 : Heap)  :
    Con l Z EL false [] (⟨"com/example/allow_policy/allowpolicy/model/ConditionEqualsPinLaw", "str", "(I)Ljava/lang/String;"⟩ : MethodName) method_3_code 1 (some (.object "java/lang/String")) ({ frames := 3, cells := 4, slots := 8, locals := 43 } : Room) #[(.int (-2 : Int32))] h0 (fun v h' => v = some .null ∧ h0 = h') := by
  refine Con.of (Ls := #[.val (.int (-2 : Int32))]) own_pn4 hEL (fun m => by first | (simp [entryFrame, mkF, argsToLocals, Value.category]; done) | rfl) ?_
  intro vm0 hZ0 hE0 hC0 hS0
  refine WP.iloadN (n := 1) dST_0 rfl rfl ?_
  refine WP.bipush (n := 3) (z := (-2 : Int32)) dST_1 (by decide) rfl ?_
  refine WP.icmpN (n' := 6) dST_3 (teq rfl).2 rfl ?_
  refine WP.aconstNull (n := 7) dST_6  rfl ?_
  exact WP.retA dST_7 rfl rfl rfl rfl (by decide) (by decide) ⟨rfl, rfl⟩
set_option maxRecDepth 65536 in
set_option maxHeartbeats 40000000 in
theorem own_st (l : Launch) (Z : State) (a0 : Array Value) (hw : ∀ d ∈ tables_1, d.before a0 Z = true) (EL : List (String × Nat)) (hEL : EW Z a0 EL) (h0 : Heap) (k : Int32) (hk : KN k) (hm : ("java/lang/String", 7) ∈ EL) (cz : Int32) (O : Sta Z Z.heap "java/lang/String" "COMPACT_STRINGS" "Z" (.int cz)) (hO : ¬ cz = 0) :
    Con l Z EL false [] (⟨"com/example/allow_policy/allowpolicy/model/ConditionEqualsPinLaw", "str", "(I)Ljava/lang/String;"⟩ : MethodName) method_3_code 1 (some (.object "java/lang/String")) ({ frames := 3, cells := 4, slots := 8, locals := 43 } : Room) #[(.int k)] h0 (fun v h' => ∃ a, v = some (.ref a) ∧ Str Z h' a (own_sb' k) ∧ Ext h0 h') := by
  refine Con.of (Ls := #[.val (.int k)]) own_pn4 hEL (fun m => by first | (simp [entryFrame, mkF, argsToLocals, Value.category]; done) | rfl) ?_
  intro vm0 hZ0 hE0 hC0 hS0
  refine WP.iloadN (n := 1) dST_0 rfl rfl ?_
  refine WP.bipush (n := 3) (z := (-2 : Int32)) dST_1 (by decide) rfl ?_
  refine WP.icmpY (n := 8) dST_3 (feq hk.ne).2 (by decide) (by decide) ?_
  refine WP.iloadN (n := 9) dST_8 rfl rfl ?_
  refine WP.iconst (n := 10) (z := (-1 : Int32)) dST_9 rfl rfl ?_
  refine WP.icmp_ne (n := 24) (n' := 13) dST_10 (by decide) (by decide) rfl (fun b32 => ?_) (fun b32 => ?_)
  · have hr := hk.resolve_left b32
    refine WP.iloadN (n := 25) dST_24 rfl rfl ?_
    refine WP.i2c (n := 26) (z := k) dST_25 (own_c16 hr) rfl ?_
    refine WP.callS (n := 29) (ce' := 2) (sl' := 5) (Wd := 0) (argsL := [(.int k)]) (rest := []) (own_vo l Z a0 hw EL hEL h0 k hr.2 cz O hO) dST_26 (hw _ (List.mem_of_getElem? (i := 57) rfl)) (hw _ (List.mem_of_getElem? (i := 58) rfl)) (hw _ (List.mem_of_getElem? (i := 12) rfl)) (hw _ (List.mem_of_getElem? (i := 59) rfl)) (by decide) (fun _ q => nomatch q) (by decide) (by decide) rfl rfl (by decide) (by decide) rfl rfl (lenOf own_pd8 rfl) rfl (Nat.le_of_eq rfl) rfl (fun v33 vm33 h33 q33 r33 => ?_)
    obtain ⟨a33, rfl, F33, E33⟩ := q33
    exact WP.retA dST_29 rfl rfl rfl rfl (by decide) (by decide) ⟨_, rfl, by unfold own_sb'; rw [if_neg b32]; exact F33, E33⟩
  · refine WP.new (n := 16) (ce' := 1) (sl' := 4) dST_13 (hw _ (List.mem_of_getElem? (i := 10) rfl)) (hw _ (List.mem_of_getElem? (i := 11) rfl)) (hw _ (List.mem_of_getElem? (i := 12) rfl)) rfl rfl (by decide) (by decide) rfl (fun a34 h34 g34 E34 A34 D34 S34 N34 r34 => ?_)
    refine WP.dup (n := 17) dST_16 rfl rfl ?_
    refine WP.iconst (n := 18) (z := (0 : Int32)) dST_17 rfl rfl ?_
    refine WP.newP (n := 20) (ce' := 2) (sl' := 4) (cap := 0) (ty := .char) dST_18 (hw _ (List.mem_of_getElem? (i := 13) rfl)) rfl (by decide) (by decide) (by decide) rfl rfl (by decide) (by decide) rfl (fun a35 h35 k35 g35 E35 V35 S35 N35 r35 => ?_)
    refine WP.inv fun hZ35 hE35 hC35 => ?_
    have S35' := r35.safe A34.lt S34
    refine WP.callP (n := 23) (ce' := 4) (sl' := 8) (Wd := 1) (a := a34) (argsL := [(.ref a35)]) (rest := [(.ref a34)]) (own_si1 l Z a0 hw EL hEL h35 a34 a35 _ _ N34 (A34.ext E35) ((D34 (Or.inr (hw _ (List.mem_of_getElem? (i := 26) rfl))) (ty := .array .byte) (by decide)).ext E35) ((D34 (Or.inr (hw _ (List.mem_of_getElem? (i := 27) rfl))) (ty := .byte) (by decide)).ext E35) _ _ V35 hm) dST_20 rfl (hw _ (List.mem_of_getElem? (i := 14) rfl)) (hw _ (List.mem_of_getElem? (i := 15) rfl)) (hw _ (List.mem_of_getElem? (i := 12) rfl)) (hw _ (List.mem_of_getElem? (i := 16) rfl)) (by decide) (fun y q => by cases List.mem_singleton.mp q; exact ⟨S35', Nat.lt_of_lt_of_le A34.lt E35.1⟩) (by decide) (by decide) rfl rfl (by decide) (by decide) rfl rfl (lenOf own_pd9 rfl) rfl (Nat.le_of_eq rfl) rfl (fun v36 vm36 h36 q36 r36 => ?_)
    obtain ⟨rfl, K36, F36⟩ := q36
    exact WP.retA dST_23 rfl rfl rfl rfl (by decide) (by decide) ⟨_, rfl, by unfold own_sb'; rw [if_pos b32]; exact F36, ext_keep1 (ext_trans E34 E35) K36 (Nat.le_of_eq g34.symm)⟩
set_option maxRecDepth 65536 in
set_option maxHeartbeats 40000000 in
theorem own_std (l : Launch) (Z : State) (a0 : Array Value) (hw : ∀ d ∈ tables_1, d.before a0 Z = true) (EL : List (String × Nat)) (hEL : EW Z a0 EL) (h0 : Heap) (k : Int32) (hk : k = -2 ∨ KN k) (hm : ("java/lang/String", 7) ∈ EL) (cz : Int32) (O : Sta Z Z.heap "java/lang/String" "COMPACT_STRINGS" "Z" (.int cz)) (hO : ¬ cz = 0) :
    Con l Z EL false [] (⟨"com/example/allow_policy/allowpolicy/model/ConditionEqualsPinLaw", "str", "(I)Ljava/lang/String;"⟩ : MethodName) method_3_code 1 (some (.object "java/lang/String")) ({ frames := 3, cells := 4, slots := 8, locals := 43 } : Room) #[.int k] h0 (fun v h' => ∃ w, v = some w ∧ Dsc Z h' w (own_ds k) ∧ Ext h0 h') := by
  rcases hk with rfl | hk
  · exact (own_stN l Z a0 hw EL hEL h0).post fun v h' q => ⟨.null, q.1, Or.inl ⟨rfl, rfl⟩, by rw [← q.2]; exact ext_refl _⟩
  · refine (own_st l Z a0 hw EL hEL h0 k hk hm cz O hO).post fun v h' q => ?_
    obtain ⟨a, e, F, E⟩ := q
    exact ⟨.ref a, e, Or.inr ⟨a, own_sb' k, by unfold own_ds; rw [if_neg hk.ne], rfl, F⟩, E⟩
theorem own_skeep {Z : State} {h h' : Heap} {a b : Addr} {bs : List Int32} {C : String} {n : Nat} {a0 : Array Value} (F : Str Z h a bs) (A : Exa Z h b C) (K : Keep h h' [b]) (hC : C ≠ "java/lang/String") (wi : (Cond.instantiable C n).before a0 Z = true) : Str Z h' a bs := by
  obtain ⟨f1, f2, c, kc, z, f3, f4, f5⟩ := F
  have n1 : a ≠ b := fun e => ne_exa A f1 hC e.symm
  have n2 : b ≠ c := Exa.neArv A f4 wi
  have m1 : a ∉ [b] := fun q => n1 (List.mem_singleton.mp q)
  have m2 : c ∉ [b] := fun q => n2 (List.mem_singleton.mp q).symm
  exact ⟨f1.keep K, f2.keep K m1, c, kc, z, f3.keep K m1, f4.keep K m2, f5⟩
theorem own_dkeep {Z : State} {h h' : Heap} {w : Value} {b : Addr} {k : Option (List Int32)} {C : String} {n : Nat} {a0 : Array Value} (F : Dsc Z h w k) (A : Exa Z h b C) (K : Keep h h' [b]) (hC : C ≠ "java/lang/String") (wi : (Cond.instantiable C n).before a0 Z = true) : Dsc Z h' w k := by
  rcases F with F | ⟨a, bs, e1, e2, F⟩
  · exact Or.inl F
  · exact Or.inr ⟨a, bs, e1, e2, own_skeep F A K hC wi⟩
set_option maxRecDepth 65536 in
set_option maxHeartbeats 40000000 in
theorem own_law (l : Launch) (Z : State) (a0 : Array Value) (hw : ∀ d ∈ tables_1, d.before a0 Z = true) (EL : List (String × Nat)) (hEL : EW Z a0 EL) (h0 : Heap) (t d e m : Int32) (hm : ("java/lang/String", 7) ∈ EL) (cz : Int32) (O : Sta Z Z.heap "java/lang/String" "COMPACT_STRINGS" "Z" (.int cz)) (hO : ¬ cz = 0) :
    Con l Z EL false [] x code maxLocals ret room_1 #[(.int t), (.int d), (.int e), (.int m)] h0 (fun v _ => v = some (.int 1)) := by
  refine Con.of (Ls := #[.val (.int t), .val (.int d), .val (.int e), .val (.int m), .unset, .unset, .unset, .unset, .unset, .unset, .unset, .unset, .unset, .unset]) own_pn4 hEL (fun m => by first | (simp [entryFrame, mkF, argsToLocals, Value.category, maxLocals]; done) | rfl) ?_
  intro vm0 hZ0 hE0 hC0 hS0
  show WP l Z EL false "com/example/allow_policy/allowpolicy/model/ConditionEqualsPinLaw" "law" code maxLocals ret room_1 _ vm0 h0 0 0 0 _ _
  refine WP.iloadN (n := 1) at_0 rfl rfl ?_
  refine WP.sipush (n := 4) (z := (1023 : Int32)) at_1 (by decide) rfl ?_
  refine WP.iand (n := 5) at_4  rfl ?_
  refine WP.iconst (n := 6) (z := (0 : Int32)) at_5 rfl rfl ?_
  refine WP.callS (n := 9) (ce' := 0) (sl' := 0) (Wd := 0) (argsL := [(.int (t &&& (1023 : Int32))), (.int (0 : Int32))]) (rest := []) (own_ky0 l Z a0 hw EL hEL h0 (t &&& (1023 : Int32))) at_6 (hw _ (List.mem_of_getElem? (i := 0) rfl)) (hw _ (List.mem_of_getElem? (i := 1) rfl)) (hw _ (List.mem_of_getElem? (i := 2) rfl)) (hw _ (List.mem_of_getElem? (i := 3) rfl)) (by decide) (fun _ q => nomatch q) (by decide) (by decide) rfl rfl (by decide) (by decide) rfl rfl (lenOf own_pd10 rfl) rfl (Nat.le_of_eq rfl) rfl (fun v37 vm37 h37 q37 r37 => ?_)
  obtain ⟨rfl, rfl⟩ := q37
  have ht10 := own_key0 (t &&& (1023 : Int32))
  generalize (own_key (t &&& (1023 : Int32)) 0) = t1 at ht10 ⊢
  have ht1 := ht10
  refine WP.istore (n := 11) (Ls' := #[.val (.int t), .val (.int d), .val (.int e), .val (.int m), .val (.int t1), .unset, .unset, .unset, .unset, .unset, .unset, .unset, .unset, .unset]) at_9 rfl rfl ?_
  refine WP.iloadN (n := 12) at_11 rfl rfl ?_
  refine WP.bipush (n := 14) (z := (20 : Int32)) at_12 (by decide) rfl ?_
  refine WP.iushr (n := 15) at_14  rfl ?_
  refine WP.iconst (n := 16) (z := (1 : Int32)) at_15 rfl rfl ?_
  refine WP.iand (n := 17) at_16  rfl ?_
  have J1 : ∀ (vm_J1 : Vm) (t2 : Int32), KN t2 → WP l Z EL false "com/example/allow_policy/allowpolicy/model/ConditionEqualsPinLaw" "law" code maxLocals ret room_1 (fun v _ => v = some (.int 1)) vm_J1 h0 0 0 37 #[.val (.int t), .val (.int d), .val (.int e), .val (.int m), .val (.int t1), .unset, .unset, .unset, .unset, .unset, .unset, .unset, .unset, .unset] [(.int t2)] := by
    intro vm_J1 t2 ht2
    refine WP.istore (n := 39) (Ls' := #[.val (.int t), .val (.int d), .val (.int e), .val (.int m), .val (.int t1), .val (.int t2), .unset, .unset, .unset, .unset, .unset, .unset, .unset, .unset]) at_37 rfl rfl ?_
    refine WP.iloadN (n := 40) at_39 rfl rfl ?_
    refine WP.sipush (n := 43) (z := (1023 : Int32)) at_40 (by decide) rfl ?_
    refine WP.iand (n := 44) at_43  rfl ?_
    refine WP.iconst (n := 45) (z := (1 : Int32)) at_44 rfl rfl ?_
    refine WP.callS (n := 48) (ce' := 0) (sl' := 0) (Wd := 0) (argsL := [(.int (d &&& (1023 : Int32))), (.int (1 : Int32))]) (rest := []) (own_ky1 l Z a0 hw EL hEL h0 (d &&& (1023 : Int32))) at_45 (hw _ (List.mem_of_getElem? (i := 0) rfl)) (hw _ (List.mem_of_getElem? (i := 1) rfl)) (hw _ (List.mem_of_getElem? (i := 2) rfl)) (hw _ (List.mem_of_getElem? (i := 3) rfl)) (by decide) (fun _ q => nomatch q) (by decide) (by decide) rfl rfl (by decide) (by decide) rfl rfl (lenOf own_pd10 rfl) rfl (Nat.le_of_eq rfl) rfl (fun v38 vm38 h38 q38 r38 => ?_)
    obtain ⟨rfl, rfl⟩ := q38
    have hd10 := own_key1 (d &&& (1023 : Int32))
    generalize (own_key (d &&& (1023 : Int32)) 1) = d1 at hd10 ⊢
    have hd1 := hd10
    refine WP.istore (n := 50) (Ls' := #[.val (.int t), .val (.int d), .val (.int e), .val (.int m), .val (.int t1), .val (.int t2), .val (.int d1), .unset, .unset, .unset, .unset, .unset, .unset, .unset]) at_48 rfl rfl ?_
    refine WP.iloadN (n := 51) at_50 rfl rfl ?_
    refine WP.bipush (n := 53) (z := (20 : Int32)) at_51 (by decide) rfl ?_
    refine WP.iushr (n := 54) at_53  rfl ?_
    refine WP.iconst (n := 55) (z := (1 : Int32)) at_54 rfl rfl ?_
    refine WP.iand (n := 56) at_55  rfl ?_
    have J2 : ∀ (vm_J2 : Vm) (d2 : Int32), (d2 = -2 ∨ KN d2) → WP l Z EL false "com/example/allow_policy/allowpolicy/model/ConditionEqualsPinLaw" "law" code maxLocals ret room_1 (fun v _ => v = some (.int 1)) vm_J2 h0 0 0 76 #[.val (.int t), .val (.int d), .val (.int e), .val (.int m), .val (.int t1), .val (.int t2), .val (.int d1), .unset, .unset, .unset, .unset, .unset, .unset, .unset] [(.int d2)] := by
      intro vm_J2 d2 hd2
      refine WP.istore (n := 78) (Ls' := #[.val (.int t), .val (.int d), .val (.int e), .val (.int m), .val (.int t1), .val (.int t2), .val (.int d1), .val (.int d2), .unset, .unset, .unset, .unset, .unset, .unset]) at_76 rfl rfl ?_
      refine WP.iloadN (n := 79) at_78 rfl rfl ?_
      refine WP.sipush (n := 82) (z := (1023 : Int32)) at_79 (by decide) rfl ?_
      refine WP.iand (n := 83) at_82  rfl ?_
      refine WP.iconst (n := 84) (z := (0 : Int32)) at_83 rfl rfl ?_
      refine WP.callS (n := 87) (ce' := 0) (sl' := 0) (Wd := 0) (argsL := [(.int (e &&& (1023 : Int32))), (.int (0 : Int32))]) (rest := []) (own_ky0 l Z a0 hw EL hEL h0 (e &&& (1023 : Int32))) at_84 (hw _ (List.mem_of_getElem? (i := 0) rfl)) (hw _ (List.mem_of_getElem? (i := 1) rfl)) (hw _ (List.mem_of_getElem? (i := 2) rfl)) (hw _ (List.mem_of_getElem? (i := 3) rfl)) (by decide) (fun _ q => nomatch q) (by decide) (by decide) rfl rfl (by decide) (by decide) rfl rfl (lenOf own_pd10 rfl) rfl (Nat.le_of_eq rfl) rfl (fun v39 vm39 h39 q39 r39 => ?_)
      obtain ⟨rfl, rfl⟩ := q39
      have he10 := own_key0 (e &&& (1023 : Int32))
      generalize (own_key (e &&& (1023 : Int32)) 0) = e1 at he10 ⊢
      have he1 := he10
      refine WP.istore (n := 89) (Ls' := #[.val (.int t), .val (.int d), .val (.int e), .val (.int m), .val (.int t1), .val (.int t2), .val (.int d1), .val (.int d2), .val (.int e1), .unset, .unset, .unset, .unset, .unset]) at_87 rfl rfl ?_
      refine WP.iloadN (n := 90) at_89 rfl rfl ?_
      refine WP.bipush (n := 92) (z := (20 : Int32)) at_90 (by decide) rfl ?_
      refine WP.iushr (n := 93) at_92  rfl ?_
      refine WP.iconst (n := 94) (z := (1 : Int32)) at_93 rfl rfl ?_
      refine WP.iand (n := 95) at_94  rfl ?_
      have J3 : ∀ (vm_J3 : Vm) (e2 : Int32), KN e2 → WP l Z EL false "com/example/allow_policy/allowpolicy/model/ConditionEqualsPinLaw" "law" code maxLocals ret room_1 (fun v _ => v = some (.int 1)) vm_J3 h0 0 0 115 #[.val (.int t), .val (.int d), .val (.int e), .val (.int m), .val (.int t1), .val (.int t2), .val (.int d1), .val (.int d2), .val (.int e1), .unset, .unset, .unset, .unset, .unset] [(.int e2)] := by
        intro vm_J3 e2 he2
        refine WP.istore (n := 117) (Ls' := #[.val (.int t), .val (.int d), .val (.int e), .val (.int m), .val (.int t1), .val (.int t2), .val (.int d1), .val (.int d2), .val (.int e1), .val (.int e2), .unset, .unset, .unset, .unset]) at_115 rfl rfl ?_
        refine WP.new (n := 120) (ce' := 1) (sl' := 3) at_117 (hw _ (List.mem_of_getElem? (i := 4) rfl)) (hw _ (List.mem_of_getElem? (i := 5) rfl)) (hw _ (List.mem_of_getElem? (i := 6) rfl)) rfl rfl (by decide) (by decide) rfl (fun a40 h40 g40 E40 A40 D40 S40 N40 r40 => ?_)
        refine WP.dup (n := 121) at_120 rfl rfl ?_
        refine WP.iload (n := 123) at_121 rfl rfl ?_
        refine WP.callS (n := 126) (ce' := 5) (sl' := 11) (Wd := 2) (argsL := [(.int t1)]) (rest := [(.ref a40), (.ref a40)]) (own_st l Z a0 hw EL hEL h40 t1 ht1 hm cz O hO) at_123 (hw _ (List.mem_of_getElem? (i := 7) rfl)) (hw _ (List.mem_of_getElem? (i := 8) rfl)) (hw _ (List.mem_of_getElem? (i := 2) rfl)) (hw _ (List.mem_of_getElem? (i := 9) rfl)) (by decide) (fun _ q => nomatch q) (by decide) (by decide) rfl rfl (by decide) (by decide) rfl rfl (lenOf own_pd11 rfl) rfl (Nat.le_of_eq rfl) rfl (fun v41 vm41 h41 q41 r41 => ?_)
        obtain ⟨a41, rfl, F41, E41⟩ := q41
        refine WP.iload (n := 128) at_126 rfl rfl ?_
        refine WP.callS (n := 131) (ce' := 9) (sl' := 19) (Wd := 3) (argsL := [(.int d1)]) (rest := [(.ref a41), (.ref a40), (.ref a40)]) (own_std l Z a0 hw EL hEL h41 d1 hd1 hm cz O hO) at_128 (hw _ (List.mem_of_getElem? (i := 7) rfl)) (hw _ (List.mem_of_getElem? (i := 8) rfl)) (hw _ (List.mem_of_getElem? (i := 2) rfl)) (hw _ (List.mem_of_getElem? (i := 9) rfl)) (by decide) (fun _ q => nomatch q) (by decide) (by decide) rfl rfl (by decide) (by decide) rfl rfl (lenOf own_pd11 rfl) rfl (Nat.le_of_eq rfl) rfl (fun v42 vm42 h42 q42 r42 => ?_)
        obtain ⟨w42, rfl, F42, E42⟩ := q42
        refine WP.iload (n := 133) at_131 rfl rfl ?_
        refine WP.callS (n := 136) (ce' := 13) (sl' := 27) (Wd := 4) (argsL := [(.int e1)]) (rest := [w42, (.ref a41), (.ref a40), (.ref a40)]) (own_st l Z a0 hw EL hEL h42 e1 he1 hm cz O hO) at_133 (hw _ (List.mem_of_getElem? (i := 7) rfl)) (hw _ (List.mem_of_getElem? (i := 8) rfl)) (hw _ (List.mem_of_getElem? (i := 2) rfl)) (hw _ (List.mem_of_getElem? (i := 9) rfl)) (by decide) (fun _ q => nomatch q) (by decide) (by decide) rfl rfl (by decide) (by decide) rfl rfl (lenOf own_pd11 rfl) rfl (Nat.le_of_eq (by (rcases ref_cases F42.ref with e | ⟨_, e⟩ <;> rw [e]) <;> rfl)) rfl (fun v43 vm43 h43 q43 r43 => ?_)
        obtain ⟨a43, rfl, F43, E43⟩ := q43
        refine WP.callP (n := 139) (ce' := 17) (sl' := 95) (Wd := 1) (a := a40) (argsL := [(.ref a41), w42, (.ref a43)]) (rest := [(.ref a40)]) (own_ki l Z a0 hw EL hEL h43 a40 a41 a43 w42 N40 (A40.ext (ext_trans E41 (ext_trans E42 E43))) (F41.ext (ext_trans E42 E43)).1 F43.1 F42.ref F42.nrw F42.fit ((D40 (Or.inr (hw _ (List.mem_of_getElem? (i := 43) rfl))) (ty := .object "java/lang/String") (by decide)).ext (ext_trans E41 (ext_trans E42 E43))) ((D40 (Or.inr (hw _ (List.mem_of_getElem? (i := 45) rfl))) (ty := .object "java/lang/String") (by decide)).ext (ext_trans E41 (ext_trans E42 E43))) ((D40 (Or.inr (hw _ (List.mem_of_getElem? (i := 48) rfl))) (ty := .object "java/lang/String") (by decide)).ext (ext_trans E41 (ext_trans E42 E43)))) at_136 rfl (hw _ (List.mem_of_getElem? (i := 32) rfl)) (hw _ (List.mem_of_getElem? (i := 33) rfl)) (hw _ (List.mem_of_getElem? (i := 6) rfl)) (hw _ (List.mem_of_getElem? (i := 34) rfl)) (by decide) (fun _ q => nomatch q) (by decide) (by decide) rfl rfl (by decide) (by decide) rfl rfl (lenOf own_pd12 rfl) rfl (Nat.le_of_eq rfl) rfl (fun v44 vm44 h44 q44 r44 => ?_)
        obtain ⟨rfl, K44, A44, F44_t, F44_d, F44_e⟩ := q44
        have F44_t1 := own_skeep (F41.ext (ext_trans E42 E43)) (A40.ext (ext_trans E41 (ext_trans E42 E43))) K44 (by decide) (hw _ (List.mem_of_getElem? (i := 5) rfl))
        have F44_d1 := own_dkeep (F42.ext E43) (A40.ext (ext_trans E41 (ext_trans E42 E43))) K44 (by decide) (hw _ (List.mem_of_getElem? (i := 5) rfl))
        have F44_e1 := own_skeep F43 (A40.ext (ext_trans E41 (ext_trans E42 E43))) K44 (by decide) (hw _ (List.mem_of_getElem? (i := 5) rfl))
        refine WP.astore (n := 141) (Ls' := #[.val (.int t), .val (.int d), .val (.int e), .val (.int m), .val (.int t1), .val (.int t2), .val (.int d1), .val (.int d2), .val (.int e1), .val (.int e2), .val (.ref a40), .unset, .unset, .unset]) at_139 rfl rfl rfl ?_
        refine WP.new (n := 144) (ce' := 18) (sl' := 98) at_141 (hw _ (List.mem_of_getElem? (i := 4) rfl)) (hw _ (List.mem_of_getElem? (i := 5) rfl)) (hw _ (List.mem_of_getElem? (i := 6) rfl)) rfl rfl (by decide) (by decide) rfl (fun a45 h45 g45 E45 A45 D45 S45 N45 r45 => ?_)
        refine WP.dup (n := 145) at_144 rfl rfl ?_
        refine WP.iload (n := 147) at_145 rfl rfl ?_
        refine WP.callS (n := 150) (ce' := 22) (sl' := 106) (Wd := 2) (argsL := [(.int t2)]) (rest := [(.ref a45), (.ref a45)]) (own_st l Z a0 hw EL hEL h45 t2 ht2 hm cz O hO) at_147 (hw _ (List.mem_of_getElem? (i := 7) rfl)) (hw _ (List.mem_of_getElem? (i := 8) rfl)) (hw _ (List.mem_of_getElem? (i := 2) rfl)) (hw _ (List.mem_of_getElem? (i := 9) rfl)) (by decide) (fun _ q => nomatch q) (by decide) (by decide) rfl rfl (by decide) (by decide) rfl rfl (lenOf own_pd11 rfl) rfl (Nat.le_of_eq rfl) rfl (fun v46 vm46 h46 q46 r46 => ?_)
        obtain ⟨a46, rfl, F46, E46⟩ := q46
        refine WP.iload (n := 152) at_150 rfl rfl ?_
        refine WP.callS (n := 155) (ce' := 26) (sl' := 114) (Wd := 3) (argsL := [(.int d2)]) (rest := [(.ref a46), (.ref a45), (.ref a45)]) (own_std l Z a0 hw EL hEL h46 d2 hd2 hm cz O hO) at_152 (hw _ (List.mem_of_getElem? (i := 7) rfl)) (hw _ (List.mem_of_getElem? (i := 8) rfl)) (hw _ (List.mem_of_getElem? (i := 2) rfl)) (hw _ (List.mem_of_getElem? (i := 9) rfl)) (by decide) (fun _ q => nomatch q) (by decide) (by decide) rfl rfl (by decide) (by decide) rfl rfl (lenOf own_pd11 rfl) rfl (Nat.le_of_eq rfl) rfl (fun v47 vm47 h47 q47 r47 => ?_)
        obtain ⟨w47, rfl, F47, E47⟩ := q47
        refine WP.iload (n := 157) at_155 rfl rfl ?_
        refine WP.callS (n := 160) (ce' := 30) (sl' := 122) (Wd := 4) (argsL := [(.int e2)]) (rest := [w47, (.ref a46), (.ref a45), (.ref a45)]) (own_st l Z a0 hw EL hEL h47 e2 he2 hm cz O hO) at_157 (hw _ (List.mem_of_getElem? (i := 7) rfl)) (hw _ (List.mem_of_getElem? (i := 8) rfl)) (hw _ (List.mem_of_getElem? (i := 2) rfl)) (hw _ (List.mem_of_getElem? (i := 9) rfl)) (by decide) (fun _ q => nomatch q) (by decide) (by decide) rfl rfl (by decide) (by decide) rfl rfl (lenOf own_pd11 rfl) rfl (Nat.le_of_eq (by (rcases ref_cases F47.ref with e | ⟨_, e⟩ <;> rw [e]) <;> rfl)) rfl (fun v48 vm48 h48 q48 r48 => ?_)
        obtain ⟨a48, rfl, F48, E48⟩ := q48
        refine WP.callP (n := 163) (ce' := 34) (sl' := 190) (Wd := 1) (a := a45) (argsL := [(.ref a46), w47, (.ref a48)]) (rest := [(.ref a45)]) (own_ki l Z a0 hw EL hEL h48 a45 a46 a48 w47 N45 (A45.ext (ext_trans E46 (ext_trans E47 E48))) (F46.ext (ext_trans E47 E48)).1 F48.1 F47.ref F47.nrw F47.fit ((D45 (Or.inr (hw _ (List.mem_of_getElem? (i := 43) rfl))) (ty := .object "java/lang/String") (by decide)).ext (ext_trans E46 (ext_trans E47 E48))) ((D45 (Or.inr (hw _ (List.mem_of_getElem? (i := 45) rfl))) (ty := .object "java/lang/String") (by decide)).ext (ext_trans E46 (ext_trans E47 E48))) ((D45 (Or.inr (hw _ (List.mem_of_getElem? (i := 48) rfl))) (ty := .object "java/lang/String") (by decide)).ext (ext_trans E46 (ext_trans E47 E48)))) at_160 rfl (hw _ (List.mem_of_getElem? (i := 32) rfl)) (hw _ (List.mem_of_getElem? (i := 33) rfl)) (hw _ (List.mem_of_getElem? (i := 6) rfl)) (hw _ (List.mem_of_getElem? (i := 34) rfl)) (by decide) (fun _ q => nomatch q) (by decide) (by decide) rfl rfl (by decide) (by decide) rfl rfl (lenOf own_pd12 rfl) rfl (Nat.le_of_eq rfl) rfl (fun v49 vm49 h49 q49 r49 => ?_)
        obtain ⟨rfl, K49, A49, F49_t, F49_d, F49_e⟩ := q49
        have F49_t2 := own_skeep (F46.ext (ext_trans E47 E48)) (A45.ext (ext_trans E46 (ext_trans E47 E48))) K49 (by decide) (hw _ (List.mem_of_getElem? (i := 5) rfl))
        have F49_d2 := own_dkeep (F47.ext E48) (A45.ext (ext_trans E46 (ext_trans E47 E48))) K49 (by decide) (hw _ (List.mem_of_getElem? (i := 5) rfl))
        have F49_e2 := own_skeep F48 (A45.ext (ext_trans E46 (ext_trans E47 E48))) K49 (by decide) (hw _ (List.mem_of_getElem? (i := 5) rfl))
        refine WP.astore (n := 165) (Ls' := #[.val (.int t), .val (.int d), .val (.int e), .val (.int m), .val (.int t1), .val (.int t2), .val (.int d1), .val (.int d2), .val (.int e1), .val (.int e2), .val (.ref a40), .val (.ref a45), .unset, .unset]) at_163 rfl rfl rfl ?_
        refine WP.iloadN (n := 166) at_165 rfl rfl ?_
        refine WP.iconst (n := 167) (z := (3 : Int32)) at_166 rfl rfl ?_
        refine WP.iand (n := 168) at_167  rfl ?_
        refine WP.istore (n := 170) (Ls' := #[.val (.int t), .val (.int d), .val (.int e), .val (.int m), .val (.int t1), .val (.int t2), .val (.int d1), .val (.int d2), .val (.int e1), .val (.int e2), .val (.ref a40), .val (.ref a45), .val (.int (m &&& (3 : Int32))), .unset]) at_168 rfl rfl ?_
        refine WP.iload (n := 172) at_170 rfl rfl ?_
        refine WP.iconst (n := 173) (z := (1 : Int32)) at_172 rfl rfl ?_
        refine WP.icmp_ne (n := 191) (n' := 176) at_173 (by decide) (by decide) rfl (fun b50 => ?_) (fun b50 => ?_)
        · refine WP.iload (n := 193) at_191 rfl rfl ?_
          refine WP.iconst (n := 194) (z := (2 : Int32)) at_193 rfl rfl ?_
          refine WP.icmp_ne (n := 220) (n' := 197) at_194 (by decide) (by decide) rfl (fun b51 => ?_) (fun b51 => ?_)
          · refine WP.iload (n := 222) at_220 rfl rfl ?_
            refine WP.iconst (n := 223) (z := (3 : Int32)) at_222 rfl rfl ?_
            refine WP.icmp_ne (n := 234) (n' := 226) at_223 (by decide) (by decide) rfl (fun b52 => ?_) (fun b52 => ?_)
            · refine WP.iload (n := 236) at_234 rfl rfl ?_
              refine WP.iload (n := 238) at_236 rfl rfl ?_
              refine WP.icmp_ne (n := 259) (n' := 241) at_238 (by decide) (by decide) rfl (fun b53 => ?_) (fun b53 => ?_)
              · refine WP.iconst (n := 260) (z := (0 : Int32)) at_259 rfl rfl ?_
                refine WP.istore (n := 262) (Ls' := #[.val (.int t), .val (.int d), .val (.int e), .val (.int m), .val (.int t1), .val (.int t2), .val (.int d1), .val (.int d2), .val (.int e1), .val (.int e2), .val (.ref a40), .val (.ref a45), .val (.int (m &&& (3 : Int32))), .val (.int (0 : Int32))]) at_260 rfl rfl ?_
                refine WP.aload (n := 264) at_262 rfl rfl rfl ?_
                refine WP.aload (n := 266) at_264 rfl rfl rfl ?_
                refine WP.callV (n := 269) (ce' := 34) (sl' := 190) (Wd := 0) (a := a40) (argsL := [(.ref a45)]) (rest := []) (own_keK l Z a0 hw EL hEL h49 a40 a45 a41 a46 a43 a48 w42 w47 _ _ _ _ _ _ (A44.ext (ext_keep1 (ext_trans E45 (ext_trans E46 (ext_trans E47 E48))) K49 (Nat.le_of_eq g45.symm))) A49 (F44_t.ext (ext_keep1 (ext_trans E45 (ext_trans E46 (ext_trans E47 E48))) K49 (Nat.le_of_eq g45.symm))) (F44_d.ext (ext_keep1 (ext_trans E45 (ext_trans E46 (ext_trans E47 E48))) K49 (Nat.le_of_eq g45.symm))) (F44_e.ext (ext_keep1 (ext_trans E45 (ext_trans E46 (ext_trans E47 E48))) K49 (Nat.le_of_eq g45.symm))) F49_t F49_d F49_e (F44_t1.ext (ext_keep1 (ext_trans E45 (ext_trans E46 (ext_trans E47 E48))) K49 (Nat.le_of_eq g45.symm))) F49_t2 (F44_d1.ext (ext_keep1 (ext_trans E45 (ext_trans E46 (ext_trans E47 E48))) K49 (Nat.le_of_eq g45.symm))) F49_d2 (F44_e1.ext (ext_keep1 (ext_trans E45 (ext_trans E46 (ext_trans E47 E48))) K49 (Nat.le_of_eq g45.symm))) F49_e2 cz O hO) (A44.ext (ext_keep1 (ext_trans E45 (ext_trans E46 (ext_trans E47 E48))) K49 (Nat.le_of_eq g45.symm))) at_266 (hw _ (List.mem_of_getElem? (i := 49) rfl)) (hw _ (List.mem_of_getElem? (i := 50) rfl)) (hw _ (List.mem_of_getElem? (i := 52) rfl)) (hw _ (List.mem_of_getElem? (i := 51) rfl)) (hw _ (List.mem_of_getElem? (i := 6) rfl)) (hw _ (List.mem_of_getElem? (i := 53) rfl)) (by decide) (fun _ hz => notFace_of_selects (args := #[]) (mvT hz (hw _ (List.mem_of_getElem? (i := 52) rfl)))) (fun _ q => nomatch q) (by decide) (by decide) rfl rfl (by decide) (by decide) rfl rfl (lenOf own_pd5 rfl) rfl (Nat.le_of_eq rfl) rfl (fun v54 vm54 h54 q54 r54 => ?_)
                obtain ⟨rfl, rfl⟩ := q54
                rw [if_neg (fun q => b53 ((own_sb_inj ht1 ht2).mp q.1))]
                refine WP.iload (n := 271) at_269 rfl rfl ?_
                refine WP.icmpN (n' := 274) at_271 (by decide) rfl ?_
                refine WP.aload (n := 276) at_274 rfl rfl rfl ?_
                refine WP.aload (n := 278) at_276 rfl rfl rfl ?_
                refine WP.callV (n := 281) (ce' := 34) (sl' := 190) (Wd := 0) (a := a45) (argsL := [(.ref a40)]) (rest := []) (own_keK l Z a0 hw EL hEL h49 a45 a40 a46 a41 a48 a43 w47 w42 _ _ _ _ _ _ A49 (A44.ext (ext_keep1 (ext_trans E45 (ext_trans E46 (ext_trans E47 E48))) K49 (Nat.le_of_eq g45.symm))) F49_t F49_d F49_e (F44_t.ext (ext_keep1 (ext_trans E45 (ext_trans E46 (ext_trans E47 E48))) K49 (Nat.le_of_eq g45.symm))) (F44_d.ext (ext_keep1 (ext_trans E45 (ext_trans E46 (ext_trans E47 E48))) K49 (Nat.le_of_eq g45.symm))) (F44_e.ext (ext_keep1 (ext_trans E45 (ext_trans E46 (ext_trans E47 E48))) K49 (Nat.le_of_eq g45.symm))) F49_t2 (F44_t1.ext (ext_keep1 (ext_trans E45 (ext_trans E46 (ext_trans E47 E48))) K49 (Nat.le_of_eq g45.symm))) F49_d2 (F44_d1.ext (ext_keep1 (ext_trans E45 (ext_trans E46 (ext_trans E47 E48))) K49 (Nat.le_of_eq g45.symm))) F49_e2 (F44_e1.ext (ext_keep1 (ext_trans E45 (ext_trans E46 (ext_trans E47 E48))) K49 (Nat.le_of_eq g45.symm))) cz O hO) A49 at_278 (hw _ (List.mem_of_getElem? (i := 49) rfl)) (hw _ (List.mem_of_getElem? (i := 50) rfl)) (hw _ (List.mem_of_getElem? (i := 52) rfl)) (hw _ (List.mem_of_getElem? (i := 51) rfl)) (hw _ (List.mem_of_getElem? (i := 6) rfl)) (hw _ (List.mem_of_getElem? (i := 53) rfl)) (by decide) (fun _ hz => notFace_of_selects (args := #[]) (mvT hz (hw _ (List.mem_of_getElem? (i := 52) rfl)))) (fun _ q => nomatch q) (by decide) (by decide) rfl rfl (by decide) (by decide) rfl rfl (lenOf own_pd5 rfl) rfl (Nat.le_of_eq rfl) rfl (fun v55 vm55 h55 q55 r55 => ?_)
                obtain ⟨rfl, rfl⟩ := q55
                rw [if_neg (fun q => (Ne.symm b53) ((own_sb_inj ht2 ht1).mp q.1))]
                refine WP.iload (n := 283) at_281 rfl rfl ?_
                refine WP.icmpN (n' := 286) at_283 (by decide) rfl ?_
                refine WP.iconst (n := 287) (z := (1 : Int32)) at_286 rfl rfl ?_
                refine WP.goto (n := 291) at_287 (by decide) (by decide) ?_
                exact WP.retN at_291 rfl (Or.inl rfl) (by decide : nar .boolean 1 = 1) (by decide) (by decide) rfl
              · refine WP.iload (n := 243) at_241 rfl rfl ?_
                refine WP.iload (n := 245) at_243 rfl rfl ?_
                refine WP.icmp_ne (n := 259) (n' := 248) at_245 (by decide) (by decide) rfl (fun b56 => ?_) (fun b56 => ?_)
                · refine WP.iconst (n := 260) (z := (0 : Int32)) at_259 rfl rfl ?_
                  refine WP.istore (n := 262) (Ls' := #[.val (.int t), .val (.int d), .val (.int e), .val (.int m), .val (.int t1), .val (.int t2), .val (.int d1), .val (.int d2), .val (.int e1), .val (.int e2), .val (.ref a40), .val (.ref a45), .val (.int (m &&& (3 : Int32))), .val (.int (0 : Int32))]) at_260 rfl rfl ?_
                  refine WP.aload (n := 264) at_262 rfl rfl rfl ?_
                  refine WP.aload (n := 266) at_264 rfl rfl rfl ?_
                  refine WP.callV (n := 269) (ce' := 34) (sl' := 190) (Wd := 0) (a := a40) (argsL := [(.ref a45)]) (rest := []) (own_keK l Z a0 hw EL hEL h49 a40 a45 a41 a46 a43 a48 w42 w47 _ _ _ _ _ _ (A44.ext (ext_keep1 (ext_trans E45 (ext_trans E46 (ext_trans E47 E48))) K49 (Nat.le_of_eq g45.symm))) A49 (F44_t.ext (ext_keep1 (ext_trans E45 (ext_trans E46 (ext_trans E47 E48))) K49 (Nat.le_of_eq g45.symm))) (F44_d.ext (ext_keep1 (ext_trans E45 (ext_trans E46 (ext_trans E47 E48))) K49 (Nat.le_of_eq g45.symm))) (F44_e.ext (ext_keep1 (ext_trans E45 (ext_trans E46 (ext_trans E47 E48))) K49 (Nat.le_of_eq g45.symm))) F49_t F49_d F49_e (F44_t1.ext (ext_keep1 (ext_trans E45 (ext_trans E46 (ext_trans E47 E48))) K49 (Nat.le_of_eq g45.symm))) F49_t2 (F44_d1.ext (ext_keep1 (ext_trans E45 (ext_trans E46 (ext_trans E47 E48))) K49 (Nat.le_of_eq g45.symm))) F49_d2 (F44_e1.ext (ext_keep1 (ext_trans E45 (ext_trans E46 (ext_trans E47 E48))) K49 (Nat.le_of_eq g45.symm))) F49_e2 cz O hO) (A44.ext (ext_keep1 (ext_trans E45 (ext_trans E46 (ext_trans E47 E48))) K49 (Nat.le_of_eq g45.symm))) at_266 (hw _ (List.mem_of_getElem? (i := 49) rfl)) (hw _ (List.mem_of_getElem? (i := 50) rfl)) (hw _ (List.mem_of_getElem? (i := 52) rfl)) (hw _ (List.mem_of_getElem? (i := 51) rfl)) (hw _ (List.mem_of_getElem? (i := 6) rfl)) (hw _ (List.mem_of_getElem? (i := 53) rfl)) (by decide) (fun _ hz => notFace_of_selects (args := #[]) (mvT hz (hw _ (List.mem_of_getElem? (i := 52) rfl)))) (fun _ q => nomatch q) (by decide) (by decide) rfl rfl (by decide) (by decide) rfl rfl (lenOf own_pd5 rfl) rfl (Nat.le_of_eq rfl) rfl (fun v57 vm57 h57 q57 r57 => ?_)
                  obtain ⟨rfl, rfl⟩ := q57
                  rw [if_neg (fun q => b56 ((own_ds_inj hd1 hd2).mp q.2.1))]
                  refine WP.iload (n := 271) at_269 rfl rfl ?_
                  refine WP.icmpN (n' := 274) at_271 (by decide) rfl ?_
                  refine WP.aload (n := 276) at_274 rfl rfl rfl ?_
                  refine WP.aload (n := 278) at_276 rfl rfl rfl ?_
                  refine WP.callV (n := 281) (ce' := 34) (sl' := 190) (Wd := 0) (a := a45) (argsL := [(.ref a40)]) (rest := []) (own_keK l Z a0 hw EL hEL h49 a45 a40 a46 a41 a48 a43 w47 w42 _ _ _ _ _ _ A49 (A44.ext (ext_keep1 (ext_trans E45 (ext_trans E46 (ext_trans E47 E48))) K49 (Nat.le_of_eq g45.symm))) F49_t F49_d F49_e (F44_t.ext (ext_keep1 (ext_trans E45 (ext_trans E46 (ext_trans E47 E48))) K49 (Nat.le_of_eq g45.symm))) (F44_d.ext (ext_keep1 (ext_trans E45 (ext_trans E46 (ext_trans E47 E48))) K49 (Nat.le_of_eq g45.symm))) (F44_e.ext (ext_keep1 (ext_trans E45 (ext_trans E46 (ext_trans E47 E48))) K49 (Nat.le_of_eq g45.symm))) F49_t2 (F44_t1.ext (ext_keep1 (ext_trans E45 (ext_trans E46 (ext_trans E47 E48))) K49 (Nat.le_of_eq g45.symm))) F49_d2 (F44_d1.ext (ext_keep1 (ext_trans E45 (ext_trans E46 (ext_trans E47 E48))) K49 (Nat.le_of_eq g45.symm))) F49_e2 (F44_e1.ext (ext_keep1 (ext_trans E45 (ext_trans E46 (ext_trans E47 E48))) K49 (Nat.le_of_eq g45.symm))) cz O hO) A49 at_278 (hw _ (List.mem_of_getElem? (i := 49) rfl)) (hw _ (List.mem_of_getElem? (i := 50) rfl)) (hw _ (List.mem_of_getElem? (i := 52) rfl)) (hw _ (List.mem_of_getElem? (i := 51) rfl)) (hw _ (List.mem_of_getElem? (i := 6) rfl)) (hw _ (List.mem_of_getElem? (i := 53) rfl)) (by decide) (fun _ hz => notFace_of_selects (args := #[]) (mvT hz (hw _ (List.mem_of_getElem? (i := 52) rfl)))) (fun _ q => nomatch q) (by decide) (by decide) rfl rfl (by decide) (by decide) rfl rfl (lenOf own_pd5 rfl) rfl (Nat.le_of_eq rfl) rfl (fun v58 vm58 h58 q58 r58 => ?_)
                  obtain ⟨rfl, rfl⟩ := q58
                  rw [if_neg (fun q => (Ne.symm b56) ((own_ds_inj hd2 hd1).mp q.2.1))]
                  refine WP.iload (n := 283) at_281 rfl rfl ?_
                  refine WP.icmpN (n' := 286) at_283 (by decide) rfl ?_
                  refine WP.iconst (n := 287) (z := (1 : Int32)) at_286 rfl rfl ?_
                  refine WP.goto (n := 291) at_287 (by decide) (by decide) ?_
                  exact WP.retN at_291 rfl (Or.inl rfl) (by decide : nar .boolean 1 = 1) (by decide) (by decide) rfl
                · refine WP.iload (n := 250) at_248 rfl rfl ?_
                  refine WP.iload (n := 252) at_250 rfl rfl ?_
                  refine WP.icmp_ne (n := 259) (n' := 255) at_252 (by decide) (by decide) rfl (fun b59 => ?_) (fun b59 => ?_)
                  · refine WP.iconst (n := 260) (z := (0 : Int32)) at_259 rfl rfl ?_
                    refine WP.istore (n := 262) (Ls' := #[.val (.int t), .val (.int d), .val (.int e), .val (.int m), .val (.int t1), .val (.int t2), .val (.int d1), .val (.int d2), .val (.int e1), .val (.int e2), .val (.ref a40), .val (.ref a45), .val (.int (m &&& (3 : Int32))), .val (.int (0 : Int32))]) at_260 rfl rfl ?_
                    refine WP.aload (n := 264) at_262 rfl rfl rfl ?_
                    refine WP.aload (n := 266) at_264 rfl rfl rfl ?_
                    refine WP.callV (n := 269) (ce' := 34) (sl' := 190) (Wd := 0) (a := a40) (argsL := [(.ref a45)]) (rest := []) (own_keK l Z a0 hw EL hEL h49 a40 a45 a41 a46 a43 a48 w42 w47 _ _ _ _ _ _ (A44.ext (ext_keep1 (ext_trans E45 (ext_trans E46 (ext_trans E47 E48))) K49 (Nat.le_of_eq g45.symm))) A49 (F44_t.ext (ext_keep1 (ext_trans E45 (ext_trans E46 (ext_trans E47 E48))) K49 (Nat.le_of_eq g45.symm))) (F44_d.ext (ext_keep1 (ext_trans E45 (ext_trans E46 (ext_trans E47 E48))) K49 (Nat.le_of_eq g45.symm))) (F44_e.ext (ext_keep1 (ext_trans E45 (ext_trans E46 (ext_trans E47 E48))) K49 (Nat.le_of_eq g45.symm))) F49_t F49_d F49_e (F44_t1.ext (ext_keep1 (ext_trans E45 (ext_trans E46 (ext_trans E47 E48))) K49 (Nat.le_of_eq g45.symm))) F49_t2 (F44_d1.ext (ext_keep1 (ext_trans E45 (ext_trans E46 (ext_trans E47 E48))) K49 (Nat.le_of_eq g45.symm))) F49_d2 (F44_e1.ext (ext_keep1 (ext_trans E45 (ext_trans E46 (ext_trans E47 E48))) K49 (Nat.le_of_eq g45.symm))) F49_e2 cz O hO) (A44.ext (ext_keep1 (ext_trans E45 (ext_trans E46 (ext_trans E47 E48))) K49 (Nat.le_of_eq g45.symm))) at_266 (hw _ (List.mem_of_getElem? (i := 49) rfl)) (hw _ (List.mem_of_getElem? (i := 50) rfl)) (hw _ (List.mem_of_getElem? (i := 52) rfl)) (hw _ (List.mem_of_getElem? (i := 51) rfl)) (hw _ (List.mem_of_getElem? (i := 6) rfl)) (hw _ (List.mem_of_getElem? (i := 53) rfl)) (by decide) (fun _ hz => notFace_of_selects (args := #[]) (mvT hz (hw _ (List.mem_of_getElem? (i := 52) rfl)))) (fun _ q => nomatch q) (by decide) (by decide) rfl rfl (by decide) (by decide) rfl rfl (lenOf own_pd5 rfl) rfl (Nat.le_of_eq rfl) rfl (fun v60 vm60 h60 q60 r60 => ?_)
                    obtain ⟨rfl, rfl⟩ := q60
                    rw [if_neg (fun q => b59 ((own_sb_inj he1 he2).mp q.2.2))]
                    refine WP.iload (n := 271) at_269 rfl rfl ?_
                    refine WP.icmpN (n' := 274) at_271 (by decide) rfl ?_
                    refine WP.aload (n := 276) at_274 rfl rfl rfl ?_
                    refine WP.aload (n := 278) at_276 rfl rfl rfl ?_
                    refine WP.callV (n := 281) (ce' := 34) (sl' := 190) (Wd := 0) (a := a45) (argsL := [(.ref a40)]) (rest := []) (own_keK l Z a0 hw EL hEL h49 a45 a40 a46 a41 a48 a43 w47 w42 _ _ _ _ _ _ A49 (A44.ext (ext_keep1 (ext_trans E45 (ext_trans E46 (ext_trans E47 E48))) K49 (Nat.le_of_eq g45.symm))) F49_t F49_d F49_e (F44_t.ext (ext_keep1 (ext_trans E45 (ext_trans E46 (ext_trans E47 E48))) K49 (Nat.le_of_eq g45.symm))) (F44_d.ext (ext_keep1 (ext_trans E45 (ext_trans E46 (ext_trans E47 E48))) K49 (Nat.le_of_eq g45.symm))) (F44_e.ext (ext_keep1 (ext_trans E45 (ext_trans E46 (ext_trans E47 E48))) K49 (Nat.le_of_eq g45.symm))) F49_t2 (F44_t1.ext (ext_keep1 (ext_trans E45 (ext_trans E46 (ext_trans E47 E48))) K49 (Nat.le_of_eq g45.symm))) F49_d2 (F44_d1.ext (ext_keep1 (ext_trans E45 (ext_trans E46 (ext_trans E47 E48))) K49 (Nat.le_of_eq g45.symm))) F49_e2 (F44_e1.ext (ext_keep1 (ext_trans E45 (ext_trans E46 (ext_trans E47 E48))) K49 (Nat.le_of_eq g45.symm))) cz O hO) A49 at_278 (hw _ (List.mem_of_getElem? (i := 49) rfl)) (hw _ (List.mem_of_getElem? (i := 50) rfl)) (hw _ (List.mem_of_getElem? (i := 52) rfl)) (hw _ (List.mem_of_getElem? (i := 51) rfl)) (hw _ (List.mem_of_getElem? (i := 6) rfl)) (hw _ (List.mem_of_getElem? (i := 53) rfl)) (by decide) (fun _ hz => notFace_of_selects (args := #[]) (mvT hz (hw _ (List.mem_of_getElem? (i := 52) rfl)))) (fun _ q => nomatch q) (by decide) (by decide) rfl rfl (by decide) (by decide) rfl rfl (lenOf own_pd5 rfl) rfl (Nat.le_of_eq rfl) rfl (fun v61 vm61 h61 q61 r61 => ?_)
                    obtain ⟨rfl, rfl⟩ := q61
                    rw [if_neg (fun q => (Ne.symm b59) ((own_sb_inj he2 he1).mp q.2.2))]
                    refine WP.iload (n := 283) at_281 rfl rfl ?_
                    refine WP.icmpN (n' := 286) at_283 (by decide) rfl ?_
                    refine WP.iconst (n := 287) (z := (1 : Int32)) at_286 rfl rfl ?_
                    refine WP.goto (n := 291) at_287 (by decide) (by decide) ?_
                    exact WP.retN at_291 rfl (Or.inl rfl) (by decide : nar .boolean 1 = 1) (by decide) (by decide) rfl
                  · refine WP.iconst (n := 256) (z := (1 : Int32)) at_255 rfl rfl ?_
                    refine WP.goto (n := 260) at_256 (by decide) (by decide) ?_
                    refine WP.istore (n := 262) (Ls' := #[.val (.int t), .val (.int d), .val (.int e), .val (.int m), .val (.int t1), .val (.int t2), .val (.int d1), .val (.int d2), .val (.int e1), .val (.int e2), .val (.ref a40), .val (.ref a45), .val (.int (m &&& (3 : Int32))), .val (.int (1 : Int32))]) at_260 rfl rfl ?_
                    refine WP.aload (n := 264) at_262 rfl rfl rfl ?_
                    refine WP.aload (n := 266) at_264 rfl rfl rfl ?_
                    refine WP.callV (n := 269) (ce' := 34) (sl' := 190) (Wd := 0) (a := a40) (argsL := [(.ref a45)]) (rest := []) (own_keK l Z a0 hw EL hEL h49 a40 a45 a41 a46 a43 a48 w42 w47 _ _ _ _ _ _ (A44.ext (ext_keep1 (ext_trans E45 (ext_trans E46 (ext_trans E47 E48))) K49 (Nat.le_of_eq g45.symm))) A49 (F44_t.ext (ext_keep1 (ext_trans E45 (ext_trans E46 (ext_trans E47 E48))) K49 (Nat.le_of_eq g45.symm))) (F44_d.ext (ext_keep1 (ext_trans E45 (ext_trans E46 (ext_trans E47 E48))) K49 (Nat.le_of_eq g45.symm))) (F44_e.ext (ext_keep1 (ext_trans E45 (ext_trans E46 (ext_trans E47 E48))) K49 (Nat.le_of_eq g45.symm))) F49_t F49_d F49_e (F44_t1.ext (ext_keep1 (ext_trans E45 (ext_trans E46 (ext_trans E47 E48))) K49 (Nat.le_of_eq g45.symm))) F49_t2 (F44_d1.ext (ext_keep1 (ext_trans E45 (ext_trans E46 (ext_trans E47 E48))) K49 (Nat.le_of_eq g45.symm))) F49_d2 (F44_e1.ext (ext_keep1 (ext_trans E45 (ext_trans E46 (ext_trans E47 E48))) K49 (Nat.le_of_eq g45.symm))) F49_e2 cz O hO) (A44.ext (ext_keep1 (ext_trans E45 (ext_trans E46 (ext_trans E47 E48))) K49 (Nat.le_of_eq g45.symm))) at_266 (hw _ (List.mem_of_getElem? (i := 49) rfl)) (hw _ (List.mem_of_getElem? (i := 50) rfl)) (hw _ (List.mem_of_getElem? (i := 52) rfl)) (hw _ (List.mem_of_getElem? (i := 51) rfl)) (hw _ (List.mem_of_getElem? (i := 6) rfl)) (hw _ (List.mem_of_getElem? (i := 53) rfl)) (by decide) (fun _ hz => notFace_of_selects (args := #[]) (mvT hz (hw _ (List.mem_of_getElem? (i := 52) rfl)))) (fun _ q => nomatch q) (by decide) (by decide) rfl rfl (by decide) (by decide) rfl rfl (lenOf own_pd5 rfl) rfl (Nat.le_of_eq rfl) rfl (fun v62 vm62 h62 q62 r62 => ?_)
                    obtain ⟨rfl, rfl⟩ := q62
                    rw [if_pos ⟨by rw [b53], by rw [b56], by rw [b59]⟩]
                    refine WP.iload (n := 271) at_269 rfl rfl ?_
                    refine WP.icmpN (n' := 274) at_271 (by decide) rfl ?_
                    refine WP.aload (n := 276) at_274 rfl rfl rfl ?_
                    refine WP.aload (n := 278) at_276 rfl rfl rfl ?_
                    refine WP.callV (n := 281) (ce' := 34) (sl' := 190) (Wd := 0) (a := a45) (argsL := [(.ref a40)]) (rest := []) (own_keK l Z a0 hw EL hEL h49 a45 a40 a46 a41 a48 a43 w47 w42 _ _ _ _ _ _ A49 (A44.ext (ext_keep1 (ext_trans E45 (ext_trans E46 (ext_trans E47 E48))) K49 (Nat.le_of_eq g45.symm))) F49_t F49_d F49_e (F44_t.ext (ext_keep1 (ext_trans E45 (ext_trans E46 (ext_trans E47 E48))) K49 (Nat.le_of_eq g45.symm))) (F44_d.ext (ext_keep1 (ext_trans E45 (ext_trans E46 (ext_trans E47 E48))) K49 (Nat.le_of_eq g45.symm))) (F44_e.ext (ext_keep1 (ext_trans E45 (ext_trans E46 (ext_trans E47 E48))) K49 (Nat.le_of_eq g45.symm))) F49_t2 (F44_t1.ext (ext_keep1 (ext_trans E45 (ext_trans E46 (ext_trans E47 E48))) K49 (Nat.le_of_eq g45.symm))) F49_d2 (F44_d1.ext (ext_keep1 (ext_trans E45 (ext_trans E46 (ext_trans E47 E48))) K49 (Nat.le_of_eq g45.symm))) F49_e2 (F44_e1.ext (ext_keep1 (ext_trans E45 (ext_trans E46 (ext_trans E47 E48))) K49 (Nat.le_of_eq g45.symm))) cz O hO) A49 at_278 (hw _ (List.mem_of_getElem? (i := 49) rfl)) (hw _ (List.mem_of_getElem? (i := 50) rfl)) (hw _ (List.mem_of_getElem? (i := 52) rfl)) (hw _ (List.mem_of_getElem? (i := 51) rfl)) (hw _ (List.mem_of_getElem? (i := 6) rfl)) (hw _ (List.mem_of_getElem? (i := 53) rfl)) (by decide) (fun _ hz => notFace_of_selects (args := #[]) (mvT hz (hw _ (List.mem_of_getElem? (i := 52) rfl)))) (fun _ q => nomatch q) (by decide) (by decide) rfl rfl (by decide) (by decide) rfl rfl (lenOf own_pd5 rfl) rfl (Nat.le_of_eq rfl) rfl (fun v63 vm63 h63 q63 r63 => ?_)
                    obtain ⟨rfl, rfl⟩ := q63
                    rw [if_pos ⟨by rw [b53.symm], by rw [b56.symm], by rw [b59.symm]⟩]
                    refine WP.iload (n := 283) at_281 rfl rfl ?_
                    refine WP.icmpN (n' := 286) at_283 (by decide) rfl ?_
                    refine WP.iconst (n := 287) (z := (1 : Int32)) at_286 rfl rfl ?_
                    refine WP.goto (n := 291) at_287 (by decide) (by decide) ?_
                    exact WP.retN at_291 rfl (Or.inl rfl) (by decide : nar .boolean 1 = 1) (by decide) (by decide) rfl
            · refine WP.aload (n := 228) at_226 rfl rfl rfl ?_
              refine WP.aload (n := 230) at_228 rfl rfl rfl ?_
              refine WP.callV (n := 233) (ce' := 34) (sl' := 190) (Wd := 0) (a := a40) (argsL := [(.ref a40)]) (rest := []) (own_keK l Z a0 hw EL hEL h49 a40 a40 a41 a41 a43 a43 w42 w42 _ _ _ _ _ _ (A44.ext (ext_keep1 (ext_trans E45 (ext_trans E46 (ext_trans E47 E48))) K49 (Nat.le_of_eq g45.symm))) (A44.ext (ext_keep1 (ext_trans E45 (ext_trans E46 (ext_trans E47 E48))) K49 (Nat.le_of_eq g45.symm))) (F44_t.ext (ext_keep1 (ext_trans E45 (ext_trans E46 (ext_trans E47 E48))) K49 (Nat.le_of_eq g45.symm))) (F44_d.ext (ext_keep1 (ext_trans E45 (ext_trans E46 (ext_trans E47 E48))) K49 (Nat.le_of_eq g45.symm))) (F44_e.ext (ext_keep1 (ext_trans E45 (ext_trans E46 (ext_trans E47 E48))) K49 (Nat.le_of_eq g45.symm))) (F44_t.ext (ext_keep1 (ext_trans E45 (ext_trans E46 (ext_trans E47 E48))) K49 (Nat.le_of_eq g45.symm))) (F44_d.ext (ext_keep1 (ext_trans E45 (ext_trans E46 (ext_trans E47 E48))) K49 (Nat.le_of_eq g45.symm))) (F44_e.ext (ext_keep1 (ext_trans E45 (ext_trans E46 (ext_trans E47 E48))) K49 (Nat.le_of_eq g45.symm))) (F44_t1.ext (ext_keep1 (ext_trans E45 (ext_trans E46 (ext_trans E47 E48))) K49 (Nat.le_of_eq g45.symm))) (F44_t1.ext (ext_keep1 (ext_trans E45 (ext_trans E46 (ext_trans E47 E48))) K49 (Nat.le_of_eq g45.symm))) (F44_d1.ext (ext_keep1 (ext_trans E45 (ext_trans E46 (ext_trans E47 E48))) K49 (Nat.le_of_eq g45.symm))) (F44_d1.ext (ext_keep1 (ext_trans E45 (ext_trans E46 (ext_trans E47 E48))) K49 (Nat.le_of_eq g45.symm))) (F44_e1.ext (ext_keep1 (ext_trans E45 (ext_trans E46 (ext_trans E47 E48))) K49 (Nat.le_of_eq g45.symm))) (F44_e1.ext (ext_keep1 (ext_trans E45 (ext_trans E46 (ext_trans E47 E48))) K49 (Nat.le_of_eq g45.symm))) cz O hO) (A44.ext (ext_keep1 (ext_trans E45 (ext_trans E46 (ext_trans E47 E48))) K49 (Nat.le_of_eq g45.symm))) at_230 (hw _ (List.mem_of_getElem? (i := 49) rfl)) (hw _ (List.mem_of_getElem? (i := 50) rfl)) (hw _ (List.mem_of_getElem? (i := 52) rfl)) (hw _ (List.mem_of_getElem? (i := 51) rfl)) (hw _ (List.mem_of_getElem? (i := 6) rfl)) (hw _ (List.mem_of_getElem? (i := 53) rfl)) (by decide) (fun _ hz => notFace_of_selects (args := #[]) (mvT hz (hw _ (List.mem_of_getElem? (i := 52) rfl)))) (fun _ q => nomatch q) (by decide) (by decide) rfl rfl (by decide) (by decide) rfl rfl (lenOf own_pd5 rfl) rfl (Nat.le_of_eq rfl) rfl (fun v64 vm64 h64 q64 r64 => ?_)
              obtain ⟨rfl, rfl⟩ := q64
              rw [if_pos ⟨rfl, rfl, rfl⟩]
              exact WP.retN at_233 rfl (Or.inl rfl) (by decide : nar .boolean 1 = 1) (by decide) (by decide) rfl
          · refine WP.iload (n := 199) at_197 rfl rfl ?_
            refine WP.callS (n := 202) (ce' := 38) (sl' := 198) (Wd := 0) (argsL := [(.int t1)]) (rest := []) (own_st l Z a0 hw EL hEL h49 t1 ht1 hm cz O hO) at_199 (hw _ (List.mem_of_getElem? (i := 7) rfl)) (hw _ (List.mem_of_getElem? (i := 8) rfl)) (hw _ (List.mem_of_getElem? (i := 2) rfl)) (hw _ (List.mem_of_getElem? (i := 9) rfl)) (by decide) (fun _ q => nomatch q) (by decide) (by decide) rfl rfl (by decide) (by decide) rfl rfl (lenOf own_pd11 rfl) rfl (Nat.le_of_eq rfl) rfl (fun v65 vm65 h65 q65 r65 => ?_)
            obtain ⟨a65, rfl, F65, E65⟩ := q65
            refine WP.astore (n := 204) (Ls' := #[.val (.int t), .val (.int d), .val (.int e), .val (.int m), .val (.int t1), .val (.int t2), .val (.int d1), .val (.int d2), .val (.int e1), .val (.int e2), .val (.ref a40), .val (.ref a45), .val (.int (m &&& (3 : Int32))), .val (.ref a65)]) at_202 rfl rfl rfl ?_
            refine WP.aload (n := 206) at_204 rfl rfl rfl ?_
            refine WP.aload (n := 208) at_206 rfl rfl rfl ?_
            refine WP.callV (n := 211) (ce' := 38) (sl' := 198) (Wd := 0) (a := a40) (argsL := [(.ref a65)]) (rest := []) (own_keS l Z a0 hw EL hEL h65 a40 a65 F65.1) (A44.ext (ext_trans (ext_keep1 (ext_trans E45 (ext_trans E46 (ext_trans E47 E48))) K49 (Nat.le_of_eq g45.symm)) E65)) at_208 (hw _ (List.mem_of_getElem? (i := 49) rfl)) (hw _ (List.mem_of_getElem? (i := 50) rfl)) (hw _ (List.mem_of_getElem? (i := 52) rfl)) (hw _ (List.mem_of_getElem? (i := 51) rfl)) (hw _ (List.mem_of_getElem? (i := 6) rfl)) (hw _ (List.mem_of_getElem? (i := 53) rfl)) (by decide) (fun _ hz => notFace_of_selects (args := #[]) (mvT hz (hw _ (List.mem_of_getElem? (i := 52) rfl)))) (fun _ q => nomatch q) (by decide) (by decide) rfl rfl (by decide) (by decide) rfl rfl (lenOf own_pd5 rfl) rfl (Nat.le_of_eq rfl) rfl (fun v66 vm66 h66 q66 r66 => ?_)
            obtain ⟨rfl, rfl⟩ := q66
            refine WP.ifcN (n' := 214) at_211 (by decide) rfl ?_
            refine WP.iconst (n := 215) (z := (1 : Int32)) at_214 rfl rfl ?_
            refine WP.goto (n := 219) at_215 (by decide) (by decide) ?_
            exact WP.retN at_219 rfl (Or.inl rfl) (by decide : nar .boolean 1 = 1) (by decide) (by decide) rfl
        · refine WP.aload (n := 178) at_176 rfl rfl rfl ?_
          refine WP.aconstNull (n := 179) at_178  rfl ?_
          refine WP.callV (n := 182) (ce' := 34) (sl' := 190) (Wd := 0) (a := a40) (argsL := [.null]) (rest := []) (own_keN l Z a0 hw EL hEL h49 a40) (A44.ext (ext_keep1 (ext_trans E45 (ext_trans E46 (ext_trans E47 E48))) K49 (Nat.le_of_eq g45.symm))) at_179 (hw _ (List.mem_of_getElem? (i := 49) rfl)) (hw _ (List.mem_of_getElem? (i := 50) rfl)) (hw _ (List.mem_of_getElem? (i := 52) rfl)) (hw _ (List.mem_of_getElem? (i := 51) rfl)) (hw _ (List.mem_of_getElem? (i := 6) rfl)) (hw _ (List.mem_of_getElem? (i := 53) rfl)) (by decide) (fun _ hz => notFace_of_selects (args := #[]) (mvT hz (hw _ (List.mem_of_getElem? (i := 52) rfl)))) (fun _ q => nomatch q) (by decide) (by decide) rfl rfl (by decide) (by decide) rfl rfl (lenOf own_pd5 rfl) rfl (Nat.le_of_eq rfl) rfl (fun v67 vm67 h67 q67 r67 => ?_)
          obtain ⟨rfl, rfl⟩ := q67
          refine WP.ifcN (n' := 185) at_182 (by decide) rfl ?_
          refine WP.iconst (n := 186) (z := (1 : Int32)) at_185 rfl rfl ?_
          refine WP.goto (n := 190) at_186 (by decide) (by decide) ?_
          exact WP.retN at_190 rfl (Or.inl rfl) (by decide : nar .boolean 1 = 1) (by decide) (by decide) rfl
      refine WP.if_eq (n := 103) (n' := 98) at_95 (by decide) (by decide) rfl (fun b68 => ?_) (fun b68 => ?_)
      · refine WP.iloadN (n := 104) at_103 rfl rfl ?_
        refine WP.bipush (n := 106) (z := (10 : Int32)) at_104 (by decide) rfl ?_
        refine WP.iushr (n := 107) at_106  rfl ?_
        refine WP.sipush (n := 110) (z := (1023 : Int32)) at_107 (by decide) rfl ?_
        refine WP.iand (n := 111) at_110  rfl ?_
        refine WP.iconst (n := 112) (z := (0 : Int32)) at_111 rfl rfl ?_
        refine WP.callS (n := 115) (ce' := 0) (sl' := 0) (Wd := 0) (argsL := [(.int ((XT.ushr e (10 : Int32)) &&& (1023 : Int32))), (.int (0 : Int32))]) (rest := []) (own_ky0 l Z a0 hw EL hEL h0 ((XT.ushr e (10 : Int32)) &&& (1023 : Int32))) at_112 (hw _ (List.mem_of_getElem? (i := 0) rfl)) (hw _ (List.mem_of_getElem? (i := 1) rfl)) (hw _ (List.mem_of_getElem? (i := 2) rfl)) (hw _ (List.mem_of_getElem? (i := 3) rfl)) (by decide) (fun _ q => nomatch q) (by decide) (by decide) rfl rfl (by decide) (by decide) rfl rfl (lenOf own_pd10 rfl) rfl (Nat.le_of_eq rfl) rfl (fun v69 vm69 h69 q69 r69 => ?_)
        obtain ⟨rfl, rfl⟩ := q69
        exact J3 _ _ (own_key0 _)
      · refine WP.iload (n := 100) at_98 rfl rfl ?_
        refine WP.goto (n := 115) at_100 (by decide) (by decide) ?_
        exact J3 _ _ he1
    refine WP.if_eq (n := 64) (n' := 59) at_56 (by decide) (by decide) rfl (fun b70 => ?_) (fun b70 => ?_)
    · refine WP.iloadN (n := 65) at_64 rfl rfl ?_
      refine WP.bipush (n := 67) (z := (10 : Int32)) at_65 (by decide) rfl ?_
      refine WP.iushr (n := 68) at_67  rfl ?_
      refine WP.sipush (n := 71) (z := (1023 : Int32)) at_68 (by decide) rfl ?_
      refine WP.iand (n := 72) at_71  rfl ?_
      refine WP.iconst (n := 73) (z := (1 : Int32)) at_72 rfl rfl ?_
      refine WP.callS (n := 76) (ce' := 0) (sl' := 0) (Wd := 0) (argsL := [(.int ((XT.ushr d (10 : Int32)) &&& (1023 : Int32))), (.int (1 : Int32))]) (rest := []) (own_ky1 l Z a0 hw EL hEL h0 ((XT.ushr d (10 : Int32)) &&& (1023 : Int32))) at_73 (hw _ (List.mem_of_getElem? (i := 0) rfl)) (hw _ (List.mem_of_getElem? (i := 1) rfl)) (hw _ (List.mem_of_getElem? (i := 2) rfl)) (hw _ (List.mem_of_getElem? (i := 3) rfl)) (by decide) (fun _ q => nomatch q) (by decide) (by decide) rfl rfl (by decide) (by decide) rfl rfl (lenOf own_pd10 rfl) rfl (Nat.le_of_eq rfl) rfl (fun v71 vm71 h71 q71 r71 => ?_)
      obtain ⟨rfl, rfl⟩ := q71
      exact J2 _ _ (own_key1 _)
    · refine WP.iload (n := 61) at_59 rfl rfl ?_
      refine WP.goto (n := 76) at_61 (by decide) (by decide) ?_
      exact J2 _ _ hd1
  refine WP.if_eq (n := 25) (n' := 20) at_17 (by decide) (by decide) rfl (fun b72 => ?_) (fun b72 => ?_)
  · refine WP.iloadN (n := 26) at_25 rfl rfl ?_
    refine WP.bipush (n := 28) (z := (10 : Int32)) at_26 (by decide) rfl ?_
    refine WP.iushr (n := 29) at_28  rfl ?_
    refine WP.sipush (n := 32) (z := (1023 : Int32)) at_29 (by decide) rfl ?_
    refine WP.iand (n := 33) at_32  rfl ?_
    refine WP.iconst (n := 34) (z := (0 : Int32)) at_33 rfl rfl ?_
    refine WP.callS (n := 37) (ce' := 0) (sl' := 0) (Wd := 0) (argsL := [(.int ((XT.ushr t (10 : Int32)) &&& (1023 : Int32))), (.int (0 : Int32))]) (rest := []) (own_ky0 l Z a0 hw EL hEL h0 ((XT.ushr t (10 : Int32)) &&& (1023 : Int32))) at_34 (hw _ (List.mem_of_getElem? (i := 0) rfl)) (hw _ (List.mem_of_getElem? (i := 1) rfl)) (hw _ (List.mem_of_getElem? (i := 2) rfl)) (hw _ (List.mem_of_getElem? (i := 3) rfl)) (by decide) (fun _ q => nomatch q) (by decide) (by decide) rfl rfl (by decide) (by decide) rfl rfl (lenOf own_pd10 rfl) rfl (Nat.le_of_eq rfl) rfl (fun v73 vm73 h73 q73 r73 => ?_)
    obtain ⟨rfl, rfl⟩ := q73
    exact J1 _ _ (own_key0 _)
  · refine WP.iload (n := 22) at_20 rfl rfl ?_
    refine WP.goto (n := 37) at_22 (by decide) (by decide) ?_
    exact J1 _ _ ht1
set_option maxRecDepth 65536 in
set_option maxHeartbeats 40000000 in
theorem comes_1 {Post : Tables → Env → Array Value → State → Outcome → State → Prop} (hpost : ∀ tb e args s v u, (limb_1_1.after args s (.returned v) u = true ∧ limb_1_2.after args s (.returned v) u = true ∧ True) → FramedW s (.returned v) u (Jvm.fieldLocs frame_1_writes args s ++ Jvm.arrayLocs frame_1_arrays args s ++ Jvm.staticLocs frame_1_statics s) 48 3264 → Post tb e args s (.returned v) u) :
    ArmFor flags0 classFile x code maxLocals ret World_1 tables_1 room_1 Calls_1 rest_1 Pre_1 Post := by
  intro l hfl _ _ p e ha hc hk s m args below hf hA hF happ hP
  obtain ⟨hcalls, hrest, hpre⟩ := hP
  obtain ⟨-, -, -, hnamed, -, -, -, hat⟩ := (Spec.applies_iff hf).mp happ
  obtain ⟨hg, hn⟩ := and_e (Cond.before_iff.mp (show (Jvm.Cond.and given_1 narrow_1).before args s = true from hpre))
  obtain ⟨h1, g0'⟩ := and_e hg
  obtain ⟨w0, w1, w2, w3, rfl⟩ : ∃ w0 w1 w2 w3 : Value, args = #[w0, w1, w2, w3] := by
    have hs : args.size = 4 := by simpa [Cond.value, given_1] using h1
    obtain ⟨L⟩ := args
    match L, hs with
    | [w0, w1, w2, w3], _ => exact ⟨w0, w1, w2, w3, rfl⟩
  have hw := fun d (hd : d ∈ tables_1) => atoms_spec (ws := Jvm.Cond.code x code maxLocals ret :: tables_1) hat d (List.mem_cons_of_mem _ hd)
  obtain ⟨g0, g1'⟩ := and_e g0'
  obtain ⟨i0, e0⟩ := is_v g0
  obtain rfl : w0 = (.int i0) := Option.some.inj e0
  obtain ⟨g1, g2'⟩ := and_e g1'
  obtain ⟨i1, e1⟩ := is_v g1
  obtain rfl : w1 = (.int i1) := Option.some.inj e1
  obtain ⟨g2, g3'⟩ := and_e g2'
  obtain ⟨i2, e2⟩ := is_v g2
  obtain rfl : w2 = (.int i2) := Option.some.inj e2
  have g3 := g3'
  obtain ⟨i3, e3⟩ := is_v g3
  obtain rfl : w3 = (.int i3) := Option.some.inj e3
  obtain ⟨hsets, hown0⟩ := atoms_of _ (rest_1_c_eq ▸ (show rest_1_c.before _ s = true from hrest))
  have n3 := not_v (Cond.before_iff.mp (hsets _ (List.mem_of_getElem? (i := 2) rfl)))
  obtain ⟨i7, e7⟩ := is_v (Cond.before_iff.mp (hsets _ (List.mem_of_getElem? (i := 1) rfl)))
  have S8 : Sta s s.heap "java/lang/String" "COMPACT_STRINGS" "Z" (.int i7) := Sta.start e7 (Or.inl (hsets _ (List.mem_of_getElem? (i := 0) rfl)))
  have c13 : ¬ (i7 = (0 : Int32)) := gotF (Cond.eq_ints e7 (Term.int_eval (0))) n3
  have hEL : EW s _ consts_1 := (EW.cons (text := "title") (hw _ (List.mem_of_getElem? (i := 36) rfl)) (by decide) (EW.cons (text := "expression") (hw _ (List.mem_of_getElem? (i := 46) rfl)) (by decide) (EW.cons (text := "") (hw _ (List.mem_of_getElem? (i := 24) rfl)) (by decide) EW.nil)))
  have hCH : CHv s consts_1 s.vm s.heap := CHv.start hEL (fun p hp => hcalls.1 p hp) (hsets _ (List.mem_of_getElem? (i := 2) rfl)) (hw _ (List.mem_of_getElem? (i := 25) rfl)) (hw _ (List.mem_of_getElem? (i := 11) rfl))
  obtain ⟨n, o, h1, h2, h3, _, L, rfl, rfl, hE, N, hCh, hNar, hq⟩ := own_law l s _ hw consts_1 hEL s.heap i0 i1 i2 i3 (by decide) i7 S8 c13 tables_1 p e ha hc hk s m _ below hf ((Spec.applies_iff_loose hf).mp happ).1 ⟨rfl, State.Warmed39.refl s, rfl, ext_refl _, hCH, (fun _ q => nomatch q)⟩ trivial
  obtain ⟨q1, q2, q3, q4⟩ := hq
  refine ⟨n, _, h1, h2, h3, hpost _ _ _ _ _ _ ⟨Cond.after_iff.mpr rfl, Cond.after_iff.mpr (eq_i res_at (Term.int_eval (1)) rfl), trivial⟩ ⟨q1, q2, q3, (q4.sift fun y hy => Or.inr (N y hy)).mono (by decide) (by decide)⟩⟩
theorem main_1_1 : Claimed_1_1 := comes_1 fun _ _ _ _ _ _ h hF => ⟨h.1, hF⟩
theorem main_1_2 : Claimed_1_2 := comes_1 fun _ _ _ _ _ _ h hF => ⟨h.2.1, hF⟩
end Jvm.Pilot.@@N@@
namespace Jvm.Pilot.@@N@@
open Jvm Jvm.ClassFile Sem Op Lib Jvm.Free Jvm.Stand Jvm.Pilot.@@N@@.Jvm.D
/-! MADE BY PROGRAM (witnessworld.py) out of the Statement's table words and the real class files: 20 classes; the members and pool entries that the words name. The judged class is class 1, her method 3. -/
namespace start1
open Jvm.ClassFile
def u (s : String) : CpInfo := .utf8 (stringToUtf16 s)
/-- a pool by its gaps: so many unusable entries, then the entry; so many at the end -/
def gap : Nat → List CpInfo → List CpInfo
  | 0, r => r
  | n + 1, r => .unusable :: gap n r
def poolList (es : List (Nat × CpInfo)) (last : Nat) : List CpInfo := es.foldr (fun e r => gap e.1 (e.2 :: r)) (gap last [])
def pool (es : List (Nat × CpInfo)) (last : Nat) : Array CpInfo := ⟨poolList es last⟩
def fileOf (pool : Array CpInfo) (this : Nat) (attrs : Array Attribute := #[]) (ms : Array MethodInfo := #[]) (fl : Nat := 33) (sup : Nat := 0) (ifs : Array Nat := #[]) (fds : Array FieldInfo := #[]) : ClassFile where
  minorVersion := 0
  majorVersion := 65
  constantPool := pool
  accessFlags := fl
  thisClass := this
  superClass := sup
  interfaces := ifs
  fields := fds
  methods := ms
  attributes := attrs
def plain (name : String) (sup : Option ClassId) : Class where
  name := name
  kind := .ordinary
  loader := none
  accessFlags := 33
  super := sup
  interfaces := #[]
  cf := none
  fields := #[]
  methods := #[]
  instanceTypes := #[]
  staticTypes := #[]
  resolved := #[]
  callSites := []
  init := .initialized
  statics := none
  mirror := none

def pool0 : Array CpInfo := pool [(5, u "<init>"), (0, u "()V"), (1, .class_ 10), (1, u "java/lang/Object"), (81, u "equals"), (0, u "(Ljava/lang/Object;)Z")] 30

def k0c0 : Code := { maxStack := 0, maxLocals := 1, code := object_method_1_code, exceptionTable := #[], attributes := #[] }
def k0m0 : Method := { name := "<init>", desc := "()V", sig := { parameters := [], returnType := none }, accessFlags := 1, code := some k0c0 }
def k0m1 : Method := { name := "equals", desc := "(Ljava/lang/Object;)Z", sig := { parameters := [(.object "java/lang/Object")], returnType := some .boolean }, accessFlags := 1, code := none }
/-- java/lang/Object -/
def k0 : Class := { plain "java/lang/Object" none with
  accessFlags := 33
  interfaces := #[]
  cf := some (fileOf pool0 8 #[] #[{ accessFlags := 1, nameIndex := 5, descriptorIndex := 6, attributes := #[] }, { accessFlags := 1, nameIndex := 92, descriptorIndex := 93, attributes := #[] }] 33 0 #[] #[])
  fields := #[]
  methods := #[k0m0, k0m1]
  instanceTypes := #[]
  staticTypes := #[]
  resolved := Array.replicate 124 none
  statics := none }

def pool1 : Array CpInfo := pool [(2, .class_ 4), (1, u "java/lang/Object"), (0, u "<init>"), (0, u "()V"), (0, .class_ 8), (0, u "java/lang/String"), (0, .methodref 7 10), (0, .nameAndType 5 11), (0, u "([C)V"), (0, .methodref 7 13), (0, .nameAndType 14 15), (0, u "valueOf"), (0, u "(C)Ljava/lang/String;"), (0, .methodref 17 18), (0, .class_ 19), (0, .nameAndType 20 21), (0, u "com/example/allow_policy/allowpolicy/model/ConditionEqualsPinLaw"), (0, u "key"), (0, u "(IZ)I"), (0, .class_ 23), (0, u "com/example/allow_policy/allowpolicy/model/Condition"), (0, .methodref 17 25), (0, .nameAndType 26 27), (0, u "str"), (0, u "(I)Ljava/lang/String;"), (0, .methodref 22 29), (0, .nameAndType 5 30), (0, u "(Ljava/lang/String;Ljava/lang/String;Ljava/lang/String;)V"), (0, .methodref 22 32), (0, .nameAndType 33 34), (0, u "equals"), (0, u "(Ljava/lang/Object;)Z"), (3, u "law"), (0, u "(IIII)Z")] 2

def k1m0 : Method := { name := "<init>", desc := "()V", sig := { parameters := [], returnType := none }, accessFlags := 1, code := none }
def k1c1 : Code := { maxStack := 2, maxLocals := 2, code := method_2_code, exceptionTable := #[], attributes := #[] }
def k1m1 : Method := { name := "key", desc := "(IZ)I", sig := { parameters := [.int, .boolean], returnType := some .int }, accessFlags := 10, code := some k1c1 }
def k1c2 : Code := { maxStack := 3, maxLocals := 1, code := method_3_code, exceptionTable := #[], attributes := #[] }
def k1m2 : Method := { name := "str", desc := "(I)Ljava/lang/String;", sig := { parameters := [.int], returnType := some (.object "java/lang/String") }, accessFlags := 10, code := some k1c2 }
def k1c3 : Code := { maxStack := 5, maxLocals := 14, code := code, exceptionTable := #[], attributes := #[] }
def k1m3 : Method := { name := "law", desc := "(IIII)Z", sig := { parameters := [.int, .int, .int, .int], returnType := some .boolean }, accessFlags := 9, code := some k1c3 }
/-- com/example/allow_policy/allowpolicy/model/ConditionEqualsPinLaw -/
def k1 : Class := { plain "com/example/allow_policy/allowpolicy/model/ConditionEqualsPinLaw" (some 0) with
  accessFlags := 49
  interfaces := #[]
  cf := some (fileOf pool1 17 #[] #[{ accessFlags := 1, nameIndex := 5, descriptorIndex := 6, attributes := #[] }, { accessFlags := 10, nameIndex := 20, descriptorIndex := 21, attributes := #[] }, { accessFlags := 10, nameIndex := 26, descriptorIndex := 27, attributes := #[] }, { accessFlags := 9, nameIndex := 38, descriptorIndex := 39, attributes := #[] }] 49 2 #[] #[])
  fields := #[]
  methods := #[k1m0, k1m1, k1m2, k1m3]
  instanceTypes := #[]
  staticTypes := #[]
  resolved := Array.replicate 42 none
  statics := none }

def pool2 : Array CpInfo := pool [(1, .methodref 2 3), (0, .class_ 4), (0, .nameAndType 5 6), (0, u "java/lang/Object"), (0, u "<init>"), (0, u "()V"), (0, .string 8), (0, u "title"), (0, .methodref 10 11), (0, .class_ 12), (0, .nameAndType 13 14), (0, u "java/util/Objects"), (0, u "requireNonNull"), (0, u "(Ljava/lang/Object;Ljava/lang/String;)Ljava/lang/Object;"), (0, .class_ 16), (0, u "java/lang/String"), (0, .fieldref 18 19), (0, .class_ 20), (0, .nameAndType 8 21), (0, u "com/example/allow_policy/allowpolicy/model/Condition"), (0, u "Ljava/lang/String;"), (0, .fieldref 18 23), (0, .nameAndType 24 21), (0, u "description"), (0, .string 26), (0, u "expression"), (0, .fieldref 18 28), (0, .nameAndType 26 21), (6, .methodref 15 36), (0, .nameAndType 37 38), (0, u "equals"), (0, u "(Ljava/lang/Object;)Z"), (0, .methodref 10 40), (0, .nameAndType 37 41), (0, u "(Ljava/lang/Object;Ljava/lang/Object;)Z"), (4, u "(Ljava/lang/String;Ljava/lang/String;Ljava/lang/String;)V")] 11

def k2c0 : Code := { maxStack := 3, maxLocals := 4, code := prog_12_method_1_code, exceptionTable := #[], attributes := #[] }
def k2m0 : Method := { name := "<init>", desc := "(Ljava/lang/String;Ljava/lang/String;Ljava/lang/String;)V", sig := { parameters := [(.object "java/lang/String"), (.object "java/lang/String"), (.object "java/lang/String")], returnType := none }, accessFlags := 1, code := some k2c0 }
def k2c1 : Code := { maxStack := 2, maxLocals := 3, code := prog_12_method_5_code, exceptionTable := #[], attributes := #[] }
def k2m1 : Method := { name := "equals", desc := "(Ljava/lang/Object;)Z", sig := { parameters := [(.object "java/lang/Object")], returnType := some .boolean }, accessFlags := 1, code := some k2c1 }
/-- com/example/allow_policy/allowpolicy/model/Condition -/
def k2 : Class := { plain "com/example/allow_policy/allowpolicy/model/Condition" (some 0) with
  accessFlags := 33
  interfaces := #[]
  cf := some (fileOf pool2 18 #[] #[{ accessFlags := 1, nameIndex := 5, descriptorIndex := 46, attributes := #[] }, { accessFlags := 1, nameIndex := 37, descriptorIndex := 38, attributes := #[] }] 33 2 #[] #[{ accessFlags := 18, nameIndex := 8, descriptorIndex := 21, attributes := #[] }, { accessFlags := 18, nameIndex := 24, descriptorIndex := 21, attributes := #[] }, { accessFlags := 18, nameIndex := 26, descriptorIndex := 21, attributes := #[] }])
  fields := #[{ name := "title", type := (.object "java/lang/String"), accessFlags := 18, slot := 0, constantValue := 0 }, { name := "description", type := (.object "java/lang/String"), accessFlags := 18, slot := 1, constantValue := 0 }, { name := "expression", type := (.object "java/lang/String"), accessFlags := 18, slot := 2, constantValue := 0 }]
  methods := #[k2m0, k2m1]
  instanceTypes := #[(.object "java/lang/String"), (.object "java/lang/String"), (.object "java/lang/String")]
  staticTypes := #[]
  resolved := Array.replicate 58 none
  statics := none }

def pool3 : Array CpInfo := pool [(1, .class_ 2), (0, u "java/io/Serializable"), (0, .class_ 4), (0, u "java/lang/Object")] 2

/-- java/io/Serializable -/
def k3 : Class := { plain "java/io/Serializable" (some 0) with
  accessFlags := 1537
  interfaces := #[]
  cf := some (fileOf pool3 1 #[] #[] 1537 3 #[] #[])
  fields := #[]
  methods := #[]
  instanceTypes := #[]
  staticTypes := #[]
  resolved := Array.replicate 7 none
  statics := none }

def pool4 : Array CpInfo := pool [(1, .class_ 2), (0, u "java/lang/Comparable"), (0, .class_ 4), (0, u "java/lang/Object")] 7

/-- java/lang/Comparable -/
def k4 : Class := { plain "java/lang/Comparable" (some 0) with
  accessFlags := 1537
  interfaces := #[]
  cf := some (fileOf pool4 1 #[] #[] 1537 3 #[] #[])
  fields := #[]
  methods := #[]
  instanceTypes := #[]
  staticTypes := #[]
  resolved := Array.replicate 12 none
  statics := none }

def pool5 : Array CpInfo := pool [(2, .class_ 4), (1, u "java/lang/CharSequence"), (42, .class_ 48), (0, u "java/lang/CharSequence$1CodePointIterator"), (10, .class_ 60), (0, u "java/lang/CharSequence$1CharIterator"), (5, .class_ 67), (0, u "java/lang/Object")] 63

/-- java/lang/CharSequence -/
def k5 : Class := { plain "java/lang/CharSequence" (some 0) with
  accessFlags := 1537
  interfaces := #[]
  cf := some (fileOf pool5 2 #[.nestMembers #[47, 59]] #[] 1537 66 #[] #[])
  fields := #[]
  methods := #[]
  instanceTypes := #[]
  staticTypes := #[]
  resolved := Array.replicate 131 none
  statics := none }

def pool6 : Array CpInfo := pool [(1, .class_ 2), (0, u "java/lang/constant/Constable"), (0, .class_ 4), (0, u "java/lang/Object")] 6

/-- java/lang/constant/Constable -/
def k6 : Class := { plain "java/lang/constant/Constable" (some 0) with
  accessFlags := 1537
  interfaces := #[]
  cf := some (fileOf pool6 1 #[] #[] 1537 3 #[] #[])
  fields := #[]
  methods := #[]
  instanceTypes := #[]
  staticTypes := #[]
  resolved := Array.replicate 11 none
  statics := none }

def pool7 : Array CpInfo := pool [(1, .class_ 2), (0, u "java/lang/constant/ConstantDesc"), (0, .class_ 4), (0, u "java/lang/Object")] 32

/-- java/lang/constant/ConstantDesc -/
def k7 : Class := { plain "java/lang/constant/ConstantDesc" (some 0) with
  accessFlags := 1537
  interfaces := #[]
  cf := some (fileOf pool7 1 #[] #[] 1537 3 #[] #[])
  fields := #[]
  methods := #[]
  instanceTypes := #[]
  staticTypes := #[]
  resolved := Array.replicate 37 none
  statics := none }

def pool8 : Array CpInfo := pool [(1, .methodref 2 3), (0, .class_ 4), (0, .nameAndType 5 6), (0, u "java/lang/Object"), (0, u "<init>"), (0, u "()V"), (0, .string 8), (0, u ""), (0, .fieldref 10 11), (0, .class_ 12), (0, .nameAndType 13 14), (0, u "java/lang/String"), (0, u "value"), (0, u "[B"), (0, .fieldref 10 16), (0, .nameAndType 17 18), (0, u "coder"), (0, u "B"), (2, u "hash"), (0, u "I"), (2, u "hashIsZero"), (0, u "Z"), (0, .methodref 10 28), (0, .nameAndType 5 29), (0, u "([CIILjava/lang/Void;)V"), (8, .fieldref 10 39), (0, .nameAndType 40 26), (0, u "COMPACT_STRINGS"), (12, u "toBytes"), (53, .class_ 109), (1, u "java/lang/StringLatin1"), (99, .methodref 10 210), (0, .nameAndType 5 211), (0, u "([BB)V"), (157, u "(C)Z"), (171, .methodref 107 542), (0, .nameAndType 543 544), (0, u "equals"), (0, u "([B[B)Z"), (28, u "(Ljava/lang/Object;)Z"), (1, .class_ 576), (0, u "java/lang/CharSequence"), (22, u "CASE_INSENSITIVE_ORDER"), (0, u "Ljava/util/Comparator;"), (181, u "valueOf"), (0, u "(C)Ljava/lang/String;"), (226, u "([C)V"), (4, .methodref 107 1016), (0, .nameAndType 1017 369), (0, u "canEncode"), (0, .methodref 107 1019), (0, .nameAndType 53 1020), (0, u "(C)[B"), (80, u "serialPersistentFields"), (0, u "[Ljava/io/ObjectStreamField;"), (0, .class_ 1104), (0, u "java/lang/String$CaseInsensitiveComparator"), (1, .class_ 1107), (0, u "java/io/Serializable"), (0, .class_ 1109), (0, u "java/lang/Comparable"), (0, .class_ 1111), (0, u "java/lang/constant/Constable"), (0, .class_ 1113), (0, u "java/lang/constant/ConstantDesc"), (2, u "serialVersionUID"), (0, u "J"), (3, u "REPL"), (0, u "C"), (2, u "LATIN1"), (1, u "UTF16")] 323

def k8m0 : Method := { name := "<init>", desc := "()V", sig := { parameters := [], returnType := none }, accessFlags := 1, code := none }
def k8c1 : Code := { maxStack := 5, maxLocals := 2, code := jdk_42_method_3_code, exceptionTable := #[], attributes := #[] }
def k8m1 : Method := { name := "<init>", desc := "([C)V", sig := { parameters := [(.array .char)], returnType := none }, accessFlags := 1, code := some k8c1 }
def k8c2 : Code := { maxStack := 2, maxLocals := 3, code := jdk_42_method_66_code, exceptionTable := #[], attributes := #[] }
def k8m2 : Method := { name := "equals", desc := "(Ljava/lang/Object;)Z", sig := { parameters := [(.object "java/lang/Object")], returnType := some .boolean }, accessFlags := 1, code := some k8c2 }
def k8c3 : Code := { maxStack := 4, maxLocals := 1, code := jdk_42_method_139_code, exceptionTable := #[], attributes := #[] }
def k8m3 : Method := { name := "valueOf", desc := "(C)Ljava/lang/String;", sig := { parameters := [.char], returnType := some (.object "java/lang/String") }, accessFlags := 9, code := some k8c3 }
def k8c4 : Code := { maxStack := 4, maxLocals := 6, code := jdk_42_method_149_code, exceptionTable := #[], attributes := #[] }
def k8m4 : Method := { name := "<init>", desc := "([CIILjava/lang/Void;)V", sig := { parameters := [(.array .char), .int, .int, (.object "java/lang/Void")], returnType := none }, accessFlags := 2, code := some k8c4 }
def k8c5 : Code := { maxStack := 2, maxLocals := 3, code := jdk_42_method_151_code, exceptionTable := #[], attributes := #[] }
def k8m5 : Method := { name := "<init>", desc := "([BB)V", sig := { parameters := [(.array .byte), .byte], returnType := none }, accessFlags := 0, code := some k8c5 }
/-- java/lang/String -/
def k8 : Class := { plain "java/lang/String" (some 0) with
  accessFlags := 49
  interfaces := #[3, 4, 5, 6, 7]
  cf := some (fileOf pool8 10 #[.nestMembers #[1103]] #[{ accessFlags := 1, nameIndex := 5, descriptorIndex := 6, attributes := #[] }, { accessFlags := 1, nameIndex := 5, descriptorIndex := 1010, attributes := #[] }, { accessFlags := 1, nameIndex := 543, descriptorIndex := 573, attributes := #[] }, { accessFlags := 9, nameIndex := 782, descriptorIndex := 783, attributes := #[] }, { accessFlags := 2, nameIndex := 5, descriptorIndex := 29, attributes := #[] }, { accessFlags := 0, nameIndex := 5, descriptorIndex := 211, attributes := #[] }] 49 2 #[1106, 1108, 575, 1110, 1112] #[{ accessFlags := 18, nameIndex := 13, descriptorIndex := 14, attributes := #[] }, { accessFlags := 18, nameIndex := 17, descriptorIndex := 18, attributes := #[] }, { accessFlags := 2, nameIndex := 21, descriptorIndex := 22, attributes := #[] }, { accessFlags := 2, nameIndex := 25, descriptorIndex := 26, attributes := #[] }, { accessFlags := 26, nameIndex := 1116, descriptorIndex := 1117, attributes := #[] }, { accessFlags := 24, nameIndex := 40, descriptorIndex := 26, attributes := #[] }, { accessFlags := 26, nameIndex := 1101, descriptorIndex := 1102, attributes := #[] }, { accessFlags := 26, nameIndex := 1121, descriptorIndex := 1122, attributes := #[] }, { accessFlags := 25, nameIndex := 599, descriptorIndex := 600, attributes := #[] }, { accessFlags := 24, nameIndex := 1125, descriptorIndex := 18, attributes := #[] }, { accessFlags := 24, nameIndex := 1127, descriptorIndex := 18, attributes := #[] }])
  fields := #[{ name := "value", type := (.array .byte), accessFlags := 18, slot := 0, constantValue := 0 }, { name := "coder", type := .byte, accessFlags := 18, slot := 1, constantValue := 0 }, { name := "hash", type := .int, accessFlags := 2, slot := 2, constantValue := 0 }, { name := "hashIsZero", type := .boolean, accessFlags := 2, slot := 3, constantValue := 0 }, { name := "serialVersionUID", type := .long, accessFlags := 26, slot := 0, constantValue := 0 }, { name := "COMPACT_STRINGS", type := .boolean, accessFlags := 24, slot := 1, constantValue := 0 }, { name := "serialPersistentFields", type := (.array (.object "java/io/ObjectStreamField")), accessFlags := 26, slot := 2, constantValue := 0 }, { name := "REPL", type := .char, accessFlags := 26, slot := 3, constantValue := 0 }, { name := "CASE_INSENSITIVE_ORDER", type := (.object "java/util/Comparator"), accessFlags := 25, slot := 4, constantValue := 0 }, { name := "LATIN1", type := .byte, accessFlags := 24, slot := 5, constantValue := 0 }, { name := "UTF16", type := .byte, accessFlags := 24, slot := 6, constantValue := 0 }]
  methods := #[k8m0, k8m1, k8m2, k8m3, k8m4, k8m5]
  instanceTypes := #[(.array .byte), .byte, .int, .boolean]
  staticTypes := #[.long, .boolean, (.array (.object "java/io/ObjectStreamField")), .char, (.object "java/util/Comparator"), .byte, .byte]
  resolved := Array.replicate 1451 none
  statics := some 0 }

def pool9 : Array CpInfo := pool [(2, .class_ 4), (1, u "java/lang/Object"), (0, u "<init>"), (0, u "()V"), (7, .methodref 2 15), (0, .nameAndType 16 17), (0, u "equals"), (0, u "(Ljava/lang/Object;)Z"), (5, u "(Ljava/lang/Object;Ljava/lang/Object;)Z"), (18, .class_ 44), (1, u "java/util/Objects"), (0, u "requireNonNull"), (48, u "(Ljava/lang/Object;Ljava/lang/String;)Ljava/lang/Object;")] 89

def k9m0 : Method := { name := "<init>", desc := "()V", sig := { parameters := [], returnType := none }, accessFlags := 2, code := none }
def k9c1 : Code := { maxStack := 2, maxLocals := 2, code := jdk_31_method_2_code, exceptionTable := #[], attributes := #[] }
def k9m1 : Method := { name := "equals", desc := "(Ljava/lang/Object;Ljava/lang/Object;)Z", sig := { parameters := [(.object "java/lang/Object"), (.object "java/lang/Object")], returnType := some .boolean }, accessFlags := 9, code := some k9c1 }
def k9c2 : Code := { maxStack := 3, maxLocals := 2, code := jdk_31_method_11_code, exceptionTable := #[], attributes := #[] }
def k9m2 : Method := { name := "requireNonNull", desc := "(Ljava/lang/Object;Ljava/lang/String;)Ljava/lang/Object;", sig := { parameters := [(.object "java/lang/Object"), (.object "java/lang/String")], returnType := some (.object "java/lang/Object") }, accessFlags := 9, code := some k9c2 }
/-- java/util/Objects -/
def k9 : Class := { plain "java/util/Objects" (some 0) with
  accessFlags := 49
  interfaces := #[]
  cf := some (fileOf pool9 42 #[] #[{ accessFlags := 2, nameIndex := 5, descriptorIndex := 6, attributes := #[] }, { accessFlags := 9, nameIndex := 16, descriptorIndex := 23, attributes := #[] }, { accessFlags := 9, nameIndex := 45, descriptorIndex := 94, attributes := #[] }] 49 2 #[] #[])
  fields := #[]
  methods := #[k9m0, k9m1, k9m2]
  instanceTypes := #[]
  staticTypes := #[]
  resolved := Array.replicate 184 none
  statics := none }

def pool10 : Array CpInfo := pool [(4, .class_ 6), (1, u "java/lang/Object"), (0, u "<init>"), (0, u "()V"), (5, .class_ 16), (1, u "java/lang/StringLatin1"), (73, u "canEncode"), (14, u "(C)Z"), (15, u "$assertionsDisabled"), (0, u "Z"), (98, .class_ 223), (1, u "java/lang/StringLatin1$LinesSpliterator"), (57, u "equals"), (0, u "([B[B)Z"), (97, u "toBytes"), (1, u "(C)[B"), (7, .class_ 391), (0, u "java/lang/StringLatin1$CharsSpliterator")] 3

def k10m0 : Method := { name := "<init>", desc := "()V", sig := { parameters := [], returnType := none }, accessFlags := 0, code := none }
def k10c1 : Code := { maxStack := 2, maxLocals := 1, code := jdk_43_method_3_code, exceptionTable := #[], attributes := #[] }
def k10m1 : Method := { name := "canEncode", desc := "(C)Z", sig := { parameters := [.char], returnType := some .boolean }, accessFlags := 9, code := some k10c1 }
def k10c2 : Code := { maxStack := 3, maxLocals := 3, code := jdk_43_method_13_code, exceptionTable := #[], attributes := #[] }
def k10m2 : Method := { name := "equals", desc := "([B[B)Z", sig := { parameters := [(.array .byte), (.array .byte)], returnType := some .boolean }, accessFlags := 9, code := some k10c2 }
def k10c3 : Code := { maxStack := 4, maxLocals := 1, code := jdk_43_method_46_code, exceptionTable := #[], attributes := #[] }
def k10m3 : Method := { name := "toBytes", desc := "(C)[B", sig := { parameters := [.char], returnType := some (.array .byte) }, accessFlags := 9, code := some k10c3 }
/-- java/lang/StringLatin1 -/
def k10 : Class := { plain "java/lang/StringLatin1" (some 0) with
  accessFlags := 48
  interfaces := #[]
  cf := some (fileOf pool10 14 #[.nestMembers #[390, 221]] #[{ accessFlags := 0, nameIndex := 7, descriptorIndex := 8, attributes := #[] }, { accessFlags := 9, nameIndex := 90, descriptorIndex := 105, attributes := #[] }, { accessFlags := 9, nameIndex := 281, descriptorIndex := 282, attributes := #[] }, { accessFlags := 9, nameIndex := 380, descriptorIndex := 382, attributes := #[] }] 48 4 #[] #[{ accessFlags := 4120, nameIndex := 121, descriptorIndex := 122, attributes := #[] }])
  fields := #[{ name := "$assertionsDisabled", type := .boolean, accessFlags := 4120, slot := 0, constantValue := 0 }]
  methods := #[k10m0, k10m1, k10m2, k10m3]
  instanceTypes := #[]
  staticTypes := #[.boolean]
  resolved := Array.replicate 395 none
  statics := none }

def pool11 : Array CpInfo := pool [(2, .class_ 4), (1, u "java/lang/Object"), (0, u "<init>"), (0, u "()V"), (17, .class_ 26), (1, u "jdk/internal/util/Preconditions"), (28, .class_ 56), (0, u "jdk/internal/util/Preconditions$4"), (57, .class_ 115), (0, u "jdk/internal/util/Preconditions$1"), (7, u "SIOOBE_FORMATTER"), (0, u "Ljava/util/function/BiFunction;"), (0, .class_ 126), (0, u "jdk/internal/util/Preconditions$2"), (3, u "AIOOBE_FORMATTER"), (0, .class_ 132), (0, u "jdk/internal/util/Preconditions$3"), (3, u "IOOBE_FORMATTER")] 57

def k11m0 : Method := { name := "<init>", desc := "()V", sig := { parameters := [], returnType := none }, accessFlags := 1, code := none }
/-- jdk/internal/util/Preconditions -/
def k11 : Class := { plain "jdk/internal/util/Preconditions" (some 0) with
  accessFlags := 33
  interfaces := #[]
  cf := some (fileOf pool11 24 #[.nestMembers #[55, 131, 125, 114]] #[{ accessFlags := 1, nameIndex := 5, descriptorIndex := 6, attributes := #[] }] 33 2 #[] #[{ accessFlags := 25, nameIndex := 123, descriptorIndex := 124, attributes := #[] }, { accessFlags := 25, nameIndex := 130, descriptorIndex := 124, attributes := #[] }, { accessFlags := 25, nameIndex := 136, descriptorIndex := 124, attributes := #[] }])
  fields := #[{ name := "SIOOBE_FORMATTER", type := (.object "java/util/function/BiFunction"), accessFlags := 25, slot := 0, constantValue := 0 }, { name := "AIOOBE_FORMATTER", type := (.object "java/util/function/BiFunction"), accessFlags := 25, slot := 1, constantValue := 0 }, { name := "IOOBE_FORMATTER", type := (.object "java/util/function/BiFunction"), accessFlags := 25, slot := 2, constantValue := 0 }]
  methods := #[k11m0]
  instanceTypes := #[]
  staticTypes := #[(.object "java/util/function/BiFunction"), (.object "java/util/function/BiFunction"), (.object "java/util/function/BiFunction")]
  resolved := Array.replicate 194 none
  statics := some 1 }

def pool12 : Array CpInfo := pool [(9, u "<init>"), (6, .class_ 18), (1, u "java/lang/Object"), (0, u "()V"), (1, .class_ 23), (1, u "jdk/internal/util/ArraysSupport"), (0, u "LOG2_ARRAY_LONG_INDEX_SCALE"), (0, u "I"), (2, u "U"), (0, u "Ljdk/internal/misc/Unsafe;"), (8, u "BIG_ENDIAN"), (0, u "Z"), (8, u "LOG2_BYTE_BIT_SIZE"), (4, u "LOG2_ARRAY_INT_INDEX_SCALE"), (54, u "JLA"), (0, u "Ljdk/internal/access/JavaLangAccess;"), (11, u "LOG2_ARRAY_BOOLEAN_INDEX_SCALE"), (9, u "LOG2_ARRAY_BYTE_INDEX_SCALE"), (5, u "LOG2_ARRAY_CHAR_INDEX_SCALE"), (5, u "LOG2_ARRAY_SHORT_INDEX_SCALE"), (18, u "LOG2_ARRAY_FLOAT_INDEX_SCALE"), (24, u "LOG2_ARRAY_DOUBLE_INDEX_SCALE"), (89, u "T_BOOLEAN"), (2, u "T_CHAR"), (1, u "T_FLOAT"), (1, u "T_DOUBLE"), (1, u "T_BYTE"), (1, u "T_SHORT"), (1, u "T_INT"), (1, u "T_LONG"), (1, u "SOFT_MAX_ARRAY_LENGTH")] 83

def k12m0 : Method := { name := "<init>", desc := "()V", sig := { parameters := [], returnType := none }, accessFlags := 2, code := none }
/-- jdk/internal/util/ArraysSupport -/
def k12 : Class := { plain "jdk/internal/util/ArraysSupport" (some 0) with
  accessFlags := 33
  interfaces := #[]
  cf := some (fileOf pool12 21 #[] #[{ accessFlags := 2, nameIndex := 9, descriptorIndex := 19, attributes := #[] }] 33 16 #[] #[{ accessFlags := 24, nameIndex := 28, descriptorIndex := 29, attributes := #[] }, { accessFlags := 26, nameIndex := 38, descriptorIndex := 39, attributes := #[] }, { accessFlags := 25, nameIndex := 121, descriptorIndex := 25, attributes := #[] }, { accessFlags := 25, nameIndex := 131, descriptorIndex := 25, attributes := #[] }, { accessFlags := 25, nameIndex := 137, descriptorIndex := 25, attributes := #[] }, { accessFlags := 25, nameIndex := 143, descriptorIndex := 25, attributes := #[] }, { accessFlags := 25, nameIndex := 53, descriptorIndex := 25, attributes := #[] }, { accessFlags := 25, nameIndex := 24, descriptorIndex := 25, attributes := #[] }, { accessFlags := 25, nameIndex := 162, descriptorIndex := 25, attributes := #[] }, { accessFlags := 25, nameIndex := 187, descriptorIndex := 25, attributes := #[] }, { accessFlags := 26, nameIndex := 48, descriptorIndex := 25, attributes := #[] }, { accessFlags := 25, nameIndex := 277, descriptorIndex := 25, attributes := #[] }, { accessFlags := 25, nameIndex := 280, descriptorIndex := 25, attributes := #[] }, { accessFlags := 25, nameIndex := 282, descriptorIndex := 25, attributes := #[] }, { accessFlags := 25, nameIndex := 284, descriptorIndex := 25, attributes := #[] }, { accessFlags := 25, nameIndex := 286, descriptorIndex := 25, attributes := #[] }, { accessFlags := 25, nameIndex := 288, descriptorIndex := 25, attributes := #[] }, { accessFlags := 25, nameIndex := 290, descriptorIndex := 25, attributes := #[] }, { accessFlags := 25, nameIndex := 292, descriptorIndex := 25, attributes := #[] }, { accessFlags := 26, nameIndex := 108, descriptorIndex := 109, attributes := #[] }, { accessFlags := 25, nameIndex := 294, descriptorIndex := 25, attributes := #[] }])
  fields := #[{ name := "U", type := (.object "jdk/internal/misc/Unsafe"), accessFlags := 24, slot := 0, constantValue := 0 }, { name := "BIG_ENDIAN", type := .boolean, accessFlags := 26, slot := 1, constantValue := 0 }, { name := "LOG2_ARRAY_BOOLEAN_INDEX_SCALE", type := .int, accessFlags := 25, slot := 2, constantValue := 0 }, { name := "LOG2_ARRAY_BYTE_INDEX_SCALE", type := .int, accessFlags := 25, slot := 3, constantValue := 0 }, { name := "LOG2_ARRAY_CHAR_INDEX_SCALE", type := .int, accessFlags := 25, slot := 4, constantValue := 0 }, { name := "LOG2_ARRAY_SHORT_INDEX_SCALE", type := .int, accessFlags := 25, slot := 5, constantValue := 0 }, { name := "LOG2_ARRAY_INT_INDEX_SCALE", type := .int, accessFlags := 25, slot := 6, constantValue := 0 }, { name := "LOG2_ARRAY_LONG_INDEX_SCALE", type := .int, accessFlags := 25, slot := 7, constantValue := 0 }, { name := "LOG2_ARRAY_FLOAT_INDEX_SCALE", type := .int, accessFlags := 25, slot := 8, constantValue := 0 }, { name := "LOG2_ARRAY_DOUBLE_INDEX_SCALE", type := .int, accessFlags := 25, slot := 9, constantValue := 0 }, { name := "LOG2_BYTE_BIT_SIZE", type := .int, accessFlags := 26, slot := 10, constantValue := 0 }, { name := "T_BOOLEAN", type := .int, accessFlags := 25, slot := 11, constantValue := 0 }, { name := "T_CHAR", type := .int, accessFlags := 25, slot := 12, constantValue := 0 }, { name := "T_FLOAT", type := .int, accessFlags := 25, slot := 13, constantValue := 0 }, { name := "T_DOUBLE", type := .int, accessFlags := 25, slot := 14, constantValue := 0 }, { name := "T_BYTE", type := .int, accessFlags := 25, slot := 15, constantValue := 0 }, { name := "T_SHORT", type := .int, accessFlags := 25, slot := 16, constantValue := 0 }, { name := "T_INT", type := .int, accessFlags := 25, slot := 17, constantValue := 0 }, { name := "T_LONG", type := .int, accessFlags := 25, slot := 18, constantValue := 0 }, { name := "JLA", type := (.object "jdk/internal/access/JavaLangAccess"), accessFlags := 26, slot := 19, constantValue := 0 }, { name := "SOFT_MAX_ARRAY_LENGTH", type := .int, accessFlags := 25, slot := 20, constantValue := 0 }]
  methods := #[k12m0]
  instanceTypes := #[]
  staticTypes := #[(.object "jdk/internal/misc/Unsafe"), .boolean, .int, .int, .int, .int, .int, .int, .int, .int, .int, .int, .int, .int, .int, .int, .int, .int, .int, (.object "jdk/internal/access/JavaLangAccess"), .int]
  resolved := Array.replicate 378 none
  statics := none }

def pool13 : Array CpInfo := pool [(1, u "java/lang/Cloneable"), (0, .class_ 1), (0, u "java/lang/Object"), (0, .class_ 3)] 3

/-- java/lang/Cloneable -/
def k13 : Class := { plain "java/lang/Cloneable" (some 0) with
  accessFlags := 1537
  interfaces := #[]
  cf := some (fileOf pool13 2 #[] #[] 1537 4 #[] #[])
  fields := #[]
  methods := #[]
  instanceTypes := #[]
  staticTypes := #[]
  resolved := Array.replicate 8 none
  statics := none }

/-- the primitive byte -/
def k14 : Class := { plain "byte" none with kind := .primitive 'B', accessFlags := 0x411 }
/-- [B -/
def k15 : Class := { plain "[B" (some 0) with kind := .array 14 .byte, interfaces := #[13, 3], accessFlags := 1041 }

/-- the primitive char -/
def k16 : Class := { plain "char" none with kind := .primitive 'C', accessFlags := 0x411 }
/-- [C -/
def k17 : Class := { plain "[C" (some 0) with kind := .array 16 .char, interfaces := #[13, 3], accessFlags := 1041 }

/-- the primitive int -/
def k18 : Class := { plain "int" none with kind := .primitive 'I', accessFlags := 0x411 }
/-- [I -/
def k19 : Class := { plain "[I" (some 0) with kind := .array 18 .int, interfaces := #[13, 3], accessFlags := 1041 }

def heap : Heap := #[{ cls := 8, slots := #[.long 0, .int 1, .null, .int 0, .null, .int 0, .int 0], vm := .statics 8 },
  { cls := 11, slots := #[.null, .null, .null], vm := .statics 11 }]
def classes : Array Class := #[k0, k1, k2, k3, k4, k5, k6, k7, k8, k9, k10, k11, k12, k13, k14, k15, k16, k17, k18, k19]
def interned : List (Array UInt16 × Addr) := []
def slotsUsed : Nat := 10
def theMethod : MethodId := ⟨1, 3⟩
def args0 : Array Value := #[.int 5, .int 7, .int 65, .int 66]
def aboutOver (below : List Frame) : State where
  vm := { classes := classes, interned := interned.toArray }
  heap := heap
  slotsUsed := slotsUsed
  threads := #[{ frames := .invoking theMethod args0 :: below }]
def below0 : List Frame := [.native { method := ⟨0, 0⟩, args := #[] }]
def about1 : State := aboutOver below0
def p0 : Program := .bare "" "" ""
def e0 : Env := launch0.env 0 0 0
theorem w_frames : about1.frames = Frame.invoking theMethod args0 :: below0 := rfl
set_option maxRecDepth 65536 in
theorem w_args : argsFit about1.vm theMethod args0 = true := by decide +kernel
set_option maxRecDepth 65536 in
theorem w_heap : heapFits about1 = true := by decide +kernel
set_option maxRecDepth 65536 in
theorem w_runnable : about1.curStatus? = some .runnable := by decide +kernel
set_option maxRecDepth 65536 in
theorem w_alone : about1.alone = true := by decide +kernel
set_option maxRecDepth 65536 in
theorem w_named : about1.methodNamed? x = some theMethod := by decide +kernel
set_option maxRecDepth 65536 in
theorem w_hears : about1.hears theMethod below0 = true := by decide +kernel
set_option maxRecDepth 65536 in
theorem w_ripe : about1.ripe theMethod args0 below0 = true := by decide +kernel
theorem w_running : about1.status = .running := rfl
set_option maxRecDepth 65536 in
theorem w_room : about1.hasRoom e0.platform room_1 = true :=
  launch0.hasRoom_least _ room_1 (by decide +kernel) (by decide +kernel) (by decide +kernel) (by decide +kernel) (by decide +kernel) (by decide +kernel)
theorem allAtoms_all (ts : List Jvm.Cond) (a : Array Jvm.Value) (st : Jvm.State) : (allAtoms ts).before a st = ts.all (fun c => c.before a st) := by
  induction ts with
  | nil => rfl
  | cons c t ih =>
    show (Jvm.Cond.and c (allAtoms t)).before a st = _
    rw [Jvm.Cond.before_and, ih, List.all_cons]
def words1 : List Jvm.Cond := Jvm.Cond.code x code maxLocals ret :: tables_1
/-- a 'code' word, met by the world's own term for the bytes: nothing is compared byte by byte -/
theorem code_word {y : MethodName} {bytes : ByteArray} {mx : Nat} {rt : Option FieldType} {a : Array Value} {s : State} {m : MethodId} {meth : Method} {c : Code} (h1 : s.methodNamed? y = some m) (h2 : s.vm.method? m = some meth) (h3 : meth.code = some c) (h4 : c.code = bytes)
    (h5 : (c.maxLocals == mx && c.exceptionTable.isEmpty && decide (c.maxStack ≤ mostOperands) && decide (meth.sig.returnType = rt) && !meth.locks && decide (parseMethodDescriptor y.desc = some meth.sig)) = true) : (Jvm.Cond.code y bytes mx rt).before a s = true := by
  simp only [Bool.and_eq_true, beq_iff_eq, Bool.not_eq_true', decide_eq_true_eq] at h5
  obtain ⟨⟨⟨⟨⟨g1, g2⟩, g3⟩, g4⟩, g5⟩, g6⟩ := h5
  simp [Cond.before, Cond.holds, Cond.value, h1, h2, h3, h4, g1, g2, g3, g4, g5, g6]
def isCode : Jvm.Cond → Bool
  | .code _ _ _ _ => true
  | _ => false
theorem all_split {L : List Jvm.Cond} {P : Jvm.Cond → Bool} (h1 : L.all (fun c => isCode c || P c) = true) (h2 : ∀ c ∈ L.filter isCode, P c = true) : L.all P = true := by
  refine List.all_eq_true.mpr fun c hc => ?_
  have h := List.all_eq_true.mp h1 c hc
  rcases Bool.eq_false_or_eq_true (isCode c) with hi | hi
  · exact h2 c (List.mem_filter.mpr ⟨hc, hi⟩)
  · simpa [hi] using h
set_option maxRecDepth 65536 in
theorem w_c0 : (Jvm.Cond.code x code maxLocals ret).before args0 about1 = true := code_word (m := ⟨1, 3⟩) (meth := k1m3) (c := k1c3) (by decide +kernel) rfl rfl rfl (by decide +kernel)
set_option maxRecDepth 65536 in
theorem w_c1 : (Jvm.Cond.code ({ cls := "com/example/allow_policy/allowpolicy/model/ConditionEqualsPinLaw", name := "key", desc := "(IZ)I" } : Jvm.MethodName) method_2_code (2 : Nat) (Option.some Jvm.ClassFile.FieldType.int)).before args0 about1 = true := code_word (m := ⟨1, 1⟩) (meth := k1m1) (c := k1c1) (by decide +kernel) rfl rfl rfl (by decide +kernel)
set_option maxRecDepth 65536 in
theorem w_c2 : (Jvm.Cond.code ({ cls := "com/example/allow_policy/allowpolicy/model/ConditionEqualsPinLaw", name := "str", desc := "(I)Ljava/lang/String;" } : Jvm.MethodName) method_3_code (1 : Nat) (Option.some (Jvm.ClassFile.FieldType.object "java/lang/String"))).before args0 about1 = true := code_word (m := ⟨1, 2⟩) (meth := k1m2) (c := k1c2) (by decide +kernel) rfl rfl rfl (by decide +kernel)
set_option maxRecDepth 65536 in
theorem w_c3 : (Jvm.Cond.code ({ cls := "java/lang/String", name := "<init>", desc := "([C)V" } : Jvm.MethodName) jdk_42_method_3_code (2 : Nat) (Option.none : Option Jvm.ClassFile.FieldType)).before args0 about1 = true := code_word (m := ⟨8, 1⟩) (meth := k8m1) (c := k8c1) (by decide +kernel) rfl rfl rfl (by decide +kernel)
set_option maxRecDepth 65536 in
theorem w_c4 : (Jvm.Cond.code ({ cls := "java/lang/String", name := "<init>", desc := "([CIILjava/lang/Void;)V" } : Jvm.MethodName) jdk_42_method_149_code (6 : Nat) (Option.none : Option Jvm.ClassFile.FieldType)).before args0 about1 = true := code_word (m := ⟨8, 4⟩) (meth := k8m4) (c := k8c4) (by decide +kernel) rfl rfl rfl (by decide +kernel)
set_option maxRecDepth 65536 in
theorem w_c5 : (Jvm.Cond.code ({ cls := "java/lang/Object", name := "<init>", desc := "()V" } : Jvm.MethodName) object_method_1_code (1 : Nat) (Option.none : Option Jvm.ClassFile.FieldType)).before args0 about1 = true := code_word (m := ⟨0, 0⟩) (meth := k0m0) (c := k0c0) (by decide +kernel) rfl rfl rfl (by decide +kernel)
set_option maxRecDepth 65536 in
theorem w_c6 : (Jvm.Cond.code ({ cls := "com/example/allow_policy/allowpolicy/model/Condition", name := "<init>", desc := "(Ljava/lang/String;Ljava/lang/String;Ljava/lang/String;)V" } : Jvm.MethodName) prog_12_method_1_code (4 : Nat) (Option.none : Option Jvm.ClassFile.FieldType)).before args0 about1 = true := code_word (m := ⟨2, 0⟩) (meth := k2m0) (c := k2c0) (by decide +kernel) rfl rfl rfl (by decide +kernel)
set_option maxRecDepth 65536 in
theorem w_c7 : (Jvm.Cond.code ({ cls := "java/util/Objects", name := "requireNonNull", desc := "(Ljava/lang/Object;Ljava/lang/String;)Ljava/lang/Object;" } : Jvm.MethodName) jdk_31_method_11_code (2 : Nat) (Option.some (Jvm.ClassFile.FieldType.object "java/lang/Object"))).before args0 about1 = true := code_word (m := ⟨9, 2⟩) (meth := k9m2) (c := k9c2) (by decide +kernel) rfl rfl rfl (by decide +kernel)
set_option maxRecDepth 65536 in
theorem w_c8 : (Jvm.Cond.code ({ cls := "com/example/allow_policy/allowpolicy/model/Condition", name := "equals", desc := "(Ljava/lang/Object;)Z" } : Jvm.MethodName) prog_12_method_5_code (3 : Nat) (Option.some Jvm.ClassFile.FieldType.boolean)).before args0 about1 = true := code_word (m := ⟨2, 1⟩) (meth := k2m1) (c := k2c1) (by decide +kernel) rfl rfl rfl (by decide +kernel)
set_option maxRecDepth 65536 in
theorem w_c9 : (Jvm.Cond.code ({ cls := "java/lang/String", name := "valueOf", desc := "(C)Ljava/lang/String;" } : Jvm.MethodName) jdk_42_method_139_code (1 : Nat) (Option.some (Jvm.ClassFile.FieldType.object "java/lang/String"))).before args0 about1 = true := code_word (m := ⟨8, 3⟩) (meth := k8m3) (c := k8c3) (by decide +kernel) rfl rfl rfl (by decide +kernel)
set_option maxRecDepth 65536 in
theorem w_c10 : (Jvm.Cond.code ({ cls := "java/lang/StringLatin1", name := "canEncode", desc := "(C)Z" } : Jvm.MethodName) jdk_43_method_3_code (1 : Nat) (Option.some Jvm.ClassFile.FieldType.boolean)).before args0 about1 = true := code_word (m := ⟨10, 1⟩) (meth := k10m1) (c := k10c1) (by decide +kernel) rfl rfl rfl (by decide +kernel)
set_option maxRecDepth 65536 in
theorem w_c11 : (Jvm.Cond.code ({ cls := "java/lang/StringLatin1", name := "toBytes", desc := "(C)[B" } : Jvm.MethodName) jdk_43_method_46_code (1 : Nat) (Option.some (Jvm.ClassFile.FieldType.array Jvm.ClassFile.FieldType.byte))).before args0 about1 = true := code_word (m := ⟨10, 3⟩) (meth := k10m3) (c := k10c3) (by decide +kernel) rfl rfl rfl (by decide +kernel)
set_option maxRecDepth 65536 in
theorem w_c12 : (Jvm.Cond.code ({ cls := "java/lang/String", name := "<init>", desc := "([BB)V" } : Jvm.MethodName) jdk_42_method_151_code (3 : Nat) (Option.none : Option Jvm.ClassFile.FieldType)).before args0 about1 = true := code_word (m := ⟨8, 5⟩) (meth := k8m5) (c := k8c5) (by decide +kernel) rfl rfl rfl (by decide +kernel)
set_option maxRecDepth 65536 in
theorem w_c13 : (Jvm.Cond.code ({ cls := "java/lang/String", name := "equals", desc := "(Ljava/lang/Object;)Z" } : Jvm.MethodName) jdk_42_method_66_code (3 : Nat) (Option.some Jvm.ClassFile.FieldType.boolean)).before args0 about1 = true := code_word (m := ⟨8, 2⟩) (meth := k8m2) (c := k8c2) (by decide +kernel) rfl rfl rfl (by decide +kernel)
set_option maxRecDepth 65536 in
theorem w_c14 : (Jvm.Cond.code ({ cls := "java/lang/StringLatin1", name := "equals", desc := "([B[B)Z" } : Jvm.MethodName) jdk_43_method_13_code (3 : Nat) (Option.some Jvm.ClassFile.FieldType.boolean)).before args0 about1 = true := code_word (m := ⟨10, 2⟩) (meth := k10m2) (c := k10c2) (by decide +kernel) rfl rfl rfl (by decide +kernel)
set_option maxRecDepth 65536 in
theorem w_c15 : (Jvm.Cond.code ({ cls := "java/util/Objects", name := "equals", desc := "(Ljava/lang/Object;Ljava/lang/Object;)Z" } : Jvm.MethodName) jdk_31_method_2_code (2 : Nat) (Option.some Jvm.ClassFile.FieldType.boolean)).before args0 about1 = true := code_word (m := ⟨9, 1⟩) (meth := k9m1) (c := k9c1) (by decide +kernel) rfl rfl rfl (by decide +kernel)
def codes1 : List Jvm.Cond := [Jvm.Cond.code x code maxLocals ret, Jvm.Cond.code ({ cls := "com/example/allow_policy/allowpolicy/model/ConditionEqualsPinLaw", name := "key", desc := "(IZ)I" } : Jvm.MethodName) method_2_code (2 : Nat) (Option.some Jvm.ClassFile.FieldType.int), Jvm.Cond.code ({ cls := "com/example/allow_policy/allowpolicy/model/ConditionEqualsPinLaw", name := "str", desc := "(I)Ljava/lang/String;" } : Jvm.MethodName) method_3_code (1 : Nat) (Option.some (Jvm.ClassFile.FieldType.object "java/lang/String")), Jvm.Cond.code ({ cls := "java/lang/String", name := "<init>", desc := "([C)V" } : Jvm.MethodName) jdk_42_method_3_code (2 : Nat) (Option.none : Option Jvm.ClassFile.FieldType), Jvm.Cond.code ({ cls := "java/lang/String", name := "<init>", desc := "([CIILjava/lang/Void;)V" } : Jvm.MethodName) jdk_42_method_149_code (6 : Nat) (Option.none : Option Jvm.ClassFile.FieldType), Jvm.Cond.code ({ cls := "java/lang/Object", name := "<init>", desc := "()V" } : Jvm.MethodName) object_method_1_code (1 : Nat) (Option.none : Option Jvm.ClassFile.FieldType), Jvm.Cond.code ({ cls := "com/example/allow_policy/allowpolicy/model/Condition", name := "<init>", desc := "(Ljava/lang/String;Ljava/lang/String;Ljava/lang/String;)V" } : Jvm.MethodName) prog_12_method_1_code (4 : Nat) (Option.none : Option Jvm.ClassFile.FieldType), Jvm.Cond.code ({ cls := "java/util/Objects", name := "requireNonNull", desc := "(Ljava/lang/Object;Ljava/lang/String;)Ljava/lang/Object;" } : Jvm.MethodName) jdk_31_method_11_code (2 : Nat) (Option.some (Jvm.ClassFile.FieldType.object "java/lang/Object")), Jvm.Cond.code ({ cls := "com/example/allow_policy/allowpolicy/model/Condition", name := "equals", desc := "(Ljava/lang/Object;)Z" } : Jvm.MethodName) prog_12_method_5_code (3 : Nat) (Option.some Jvm.ClassFile.FieldType.boolean), Jvm.Cond.code ({ cls := "java/lang/String", name := "valueOf", desc := "(C)Ljava/lang/String;" } : Jvm.MethodName) jdk_42_method_139_code (1 : Nat) (Option.some (Jvm.ClassFile.FieldType.object "java/lang/String")), Jvm.Cond.code ({ cls := "java/lang/StringLatin1", name := "canEncode", desc := "(C)Z" } : Jvm.MethodName) jdk_43_method_3_code (1 : Nat) (Option.some Jvm.ClassFile.FieldType.boolean), Jvm.Cond.code ({ cls := "java/lang/StringLatin1", name := "toBytes", desc := "(C)[B" } : Jvm.MethodName) jdk_43_method_46_code (1 : Nat) (Option.some (Jvm.ClassFile.FieldType.array Jvm.ClassFile.FieldType.byte)), Jvm.Cond.code ({ cls := "java/lang/String", name := "<init>", desc := "([BB)V" } : Jvm.MethodName) jdk_42_method_151_code (3 : Nat) (Option.none : Option Jvm.ClassFile.FieldType), Jvm.Cond.code ({ cls := "java/lang/String", name := "equals", desc := "(Ljava/lang/Object;)Z" } : Jvm.MethodName) jdk_42_method_66_code (3 : Nat) (Option.some Jvm.ClassFile.FieldType.boolean), Jvm.Cond.code ({ cls := "java/lang/StringLatin1", name := "equals", desc := "([B[B)Z" } : Jvm.MethodName) jdk_43_method_13_code (3 : Nat) (Option.some Jvm.ClassFile.FieldType.boolean), Jvm.Cond.code ({ cls := "java/util/Objects", name := "equals", desc := "(Ljava/lang/Object;Ljava/lang/Object;)Z" } : Jvm.MethodName) jdk_31_method_2_code (2 : Nat) (Option.some Jvm.ClassFile.FieldType.boolean)]
set_option maxRecDepth 65536 in
theorem codes_eq : words1.filter isCode = codes1 := rfl
theorem w_codes : ∀ c ∈ words1.filter isCode, c.before args0 about1 = true := by
  rw [codes_eq]
  intro c hc
  simp only [codes1, List.mem_cons, List.not_mem_nil, or_false] at hc
  rcases hc with rfl | rfl | rfl | rfl | rfl | rfl | rfl | rfl | rfl | rfl | rfl | rfl | rfl | rfl | rfl | rfl
  · exact w_c0
  · exact w_c1
  · exact w_c2
  · exact w_c3
  · exact w_c4
  · exact w_c5
  · exact w_c6
  · exact w_c7
  · exact w_c8
  · exact w_c9
  · exact w_c10
  · exact w_c11
  · exact w_c12
  · exact w_c13
  · exact w_c14
  · exact w_c15
set_option maxRecDepth 65536 in
theorem w_t1 : (words1.take 24).all (fun c => isCode c || c.before args0 about1) = true := by decide +kernel
set_option maxRecDepth 65536 in
theorem w_t2 : ((words1.drop 24).take 24).all (fun c => isCode c || c.before args0 about1) = true := by decide +kernel
set_option maxRecDepth 65536 in
theorem w_t3 : (((words1.drop 24).drop 24).take 24).all (fun c => isCode c || c.before args0 about1) = true := by decide +kernel
set_option maxRecDepth 65536 in
theorem w_t4 : (((words1.drop 24).drop 24).drop 24).all (fun c => isCode c || c.before args0 about1) = true := by decide +kernel
theorem w_tables : (allAtoms (Jvm.Cond.code x code maxLocals ret :: tables_1)).before args0 about1 = true := by
  rw [allAtoms_all]
  show words1.all (fun c => c.before args0 about1) = true
  refine all_split ?_ w_codes
  rw [← List.take_append_drop 24 words1, List.all_append, w_t1, ← List.take_append_drop 24 (words1.drop 24), List.all_append, w_t2, ← List.take_append_drop 24 ((words1.drop 24).drop 24), List.all_append, w_t3, w_t4]
  rfl
set_option maxRecDepth 65536 in
theorem w_rest : rest_1_c.before args0 about1 = true := by decide +kernel
set_option maxRecDepth 65536 in
theorem w_case : (Jvm.Cond.and given_1 narrow_1).before args0 about1 = true := by decide +kernel
set_option maxRecDepth 65536 in
theorem w_consts : constsHeld consts_1 about1 := Jvm.Lit.constsHeldB_iff.mp (by decide +kernel)
theorem w_applies : (headSpec (Jvm.Cond.code x code maxLocals ret :: tables_1) room_1).applies x e0.platform about1 = true :=
  (Spec.applies_iff w_frames).mpr ⟨w_running, w_runnable, w_alone, w_named, w_hears, w_ripe, w_room, w_tables⟩
theorem atStart : AtStart classFile x code maxLocals ret World_1 tables_1 room_1 Calls_1 rest_1 Pre_1 launch0 p0 e0 about1 theMethod args0 below0 :=
  ⟨lists_1, trivial, launch0.admits_env _ _ _, launch0.least_env, fairChoices_fair.cas, fairChoices_fair.clock, w_frames, w_args, w_heap, w_applies, ⟨w_consts, trivial⟩, w_rest, w_case⟩
end start1
theorem witness_1 : WitnessClaimed_1 := ⟨start1.p0, start1.e0, start1.about1, start1.theMethod, start1.args0, start1.below0, start1.atStart⟩
end Jvm.Pilot.@@N@@
