import JvmDerived
import JvmDerived.Pilot.@@N@@Statement
import JvmDerived.Pilot.@@N@@Code
set_option linter.unusedVariables false
set_option linter.unusedSimpArgs false
namespace Jvm.OwnW
open Jvm Jvm.ClassFile Sem Op Lib Jvm.Free Jvm.Stand Jvm.LawKit Jvm.RoadKit Bundle
/-! A small calculus of weakest preconditions over the library's Stand: own text. WP says: from this place every run of this body ends well. -/
def Cx (Z : State) (own ds : String) (m : MethodId) (p : Program) (meth : Method) (c : Code) (nm : String) (bytes : ByteArray) (maxL : Nat) (ret : Option FieldType) : Prop :=
  p.tables.exec = Jvm.exec ∧ c.code = bytes ∧ c.maxLocals = maxL ∧ meth.sig.returnType = ret ∧ (meth.locks = false ∧ Z.methodNamed? ⟨own, nm, ds⟩ = some m) ∧ meth.name = nm
def Pl (l : Launch) (Z : State) (EL : List (String × Nat)) (nar : Bool) (own : String) (R : Room) (p : Program) (e : Env) (s : State) (m : MethodId) (args : Array Value) (below : List Frame) (meth : Method) (c : Code) (vm : Vm) (h : Heap) (T : State) (L : List Loc) (ce sl : Nat) : Prop :=
  Stand p l e R (s.setVm vm) m args below meth c T L ce sl ∧ (∃ k0, s.Since vm k0 ∧ k0 ≤ h.size) ∧ Z.Warmed39 vm ∧ vm.findClass own = some m.cls ∧ T.heap = h ∧ Fr Z.heap.size L ∧ Ext Z.heap h ∧ CHr Z EL s.vm s.heap vm h ∧ (nar = true → s.WarmedH vm) ∧ ∃ a0, EW Z a0 EL
def Fine (Z : State) (EL : List (String × Nat)) (nar : Bool) (R : Room) (Q : Option Value → Heap → Prop) (p : Program) (e : Env) (s : State) (below : List Frame) (S0 : State) : Prop :=
  ∃ t o, Steps p.tables e below S0 t ∧ t.status = .running ∧ Ended t below o ∧ ∃ v L, o = .returned v ∧ Q v t.heap ∧ Ext Z.heap t.heap ∧ Fr Z.heap.size L ∧ CHr Z EL s.vm s.heap t.vm t.heap ∧ (nar = true → s.WarmedH t.vm) ∧ ReturnedEndW s o t L R.cells R.slots
def WP (l : Launch) (Z : State) (EL : List (String × Nat)) (nar : Bool) (own nm ds : String) (bytes : ByteArray) (maxL : Nat) (ret : Option FieldType) (R : Room) (Q : Option Value → Heap → Prop) (vm : Vm) (h : Heap) (ce sl pc : Nat) (Ls : Array Slot) (st : List Value) : Prop :=
  ∀ p e s m args below meth c T L, Cx Z own ds m p meth c nm bytes maxL ret → Pl l Z EL nar own R p e s m args below meth c vm h T L ce sl → Fine Z EL nar R Q p e s below (T.setTop (mkF m pc Ls st))
def Con (l : Launch) (Z : State) (EL : List (String × Nat)) (nar : Bool) (sf : List Addr) (y : MethodName) (bytes : ByteArray) (maxL : Nat) (ret : Option FieldType) (rm : Room) (as' : Array Value) (h0 : Heap) (Q : Option Value → Heap → Prop) : Prop :=
  ∀ ws, MetFree l y (head1 (Cond.code y bytes maxL ret :: ws) rm) (fun a U => a = as' ∧ Z.Warmed39 U.vm ∧ U.heap = h0 ∧ Ext Z.heap h0 ∧ CHv Z EL U.vm h0 ∧ ∀ x ∈ sf, Safe Z EL U.vm h0 x) (fun _ _ _ _ _ => True)
    (fun _ U o U' => ∃ v L, o = .returned v ∧ Q v U'.heap ∧ Ext Z.heap U'.heap ∧ Fr Z.heap.size L ∧ CHr Z EL U.vm U.heap U'.vm U'.heap ∧ (nar = true → U.WarmedH U'.vm) ∧ ReturnedEndW U o U' L rm.cells rm.slots)
section Basic
variable {l : Launch} {Z : State} {EL : List (String × Nat)} {nar : Bool} {own nm ds : String} {bytes : ByteArray} {maxL : Nat} {ret : Option FieldType} {R : Room} {Q : Option Value → Heap → Prop} {vm : Vm} {h : Heap} {ce sl pc n : Nat} {Ls Ls' : Array Slot} {st st' : List Value} {a0 : Array Value}
theorem ext_refl (h : Heap) : Ext h h := ⟨Nat.le_refl _, fun _ _ q => q⟩
theorem ext_trans {h1 h2 h3 : Heap} (E : Ext h1 h2) (F : Ext h2 h3) : Ext h1 h3 := ⟨Nat.le_trans E.1 F.1, fun a c q => F.2 a c (E.2 a c q)⟩
theorem ext_keep {h1 h2 h3 : Heap} {ws : List Addr} (E : Ext h1 h2) (K : Keep h2 h3 ws) (q : ∀ x ∈ ws, h1.size ≤ x) : Ext h1 h3 :=
  ⟨Nat.le_trans E.1 K.1, fun a c r => K.2.1 a c (E.2 a c r) fun z => absurd (Array.getElem?_eq_some_iff.mp r).1 (Nat.not_lt.mpr (q a z))⟩
theorem ext_wr {h1 h2 h3 : Heap} {a : Addr} {i : Nat} {v : Value} (E : Ext h1 h2) (W : Wr h2 h3 a i v) (q : h1.size ≤ a) : Ext h1 h3 :=
  ext_keep E (Keep.of_wr W) fun x hx => by cases List.mem_singleton.mp hx; exact q
theorem ext_keep1 {h1 h2 h3 : Heap} {a : Addr} (E : Ext h1 h2) (K : Keep h2 h3 [a]) (q : h1.size ≤ a) : Ext h1 h3 := ext_keep E K fun x hx => by cases List.mem_singleton.mp hx; exact q
theorem ext_keep0 {h1 h2 : Heap} (K : Keep h1 h2 []) : Ext h1 h2 := ext_keep (ext_refl _) K fun x hx => nomatch hx
/-- what always holds where the walk stands -/
theorem WP.inv (k : Z.Warmed39 vm → Ext Z.heap h → CHv Z EL vm h → WP l Z EL nar own nm ds bytes maxL ret R Q vm h ce sl pc Ls st) : WP l Z EL nar own nm ds bytes maxL ret R Q vm h ce sl pc Ls st := by
  intro p e s m args below meth c T L cx pl
  exact k pl.2.2.1 pl.2.2.2.2.2.2.1 pl.2.2.2.2.2.2.2.1.1 p e s m args below meth c T L cx pl
/-- fewer cells and slots made are at most more -/
theorem WP.more {ce' sl' : Nat} (hc : ce ≤ ce') (hs : sl ≤ sl') (k : WP l Z EL nar own nm ds bytes maxL ret R Q vm h ce' sl' pc Ls st) : WP l Z EL nar own nm ds bytes maxL ret R Q vm h ce sl pc Ls st := by
  intro p e s m args below meth c T L cx pl
  exact k p e s m args below meth c T L cx ⟨pl.1.mono hc hs, pl.2⟩
theorem WP.post {Q' : Option Value → Heap → Prop} (hq : ∀ v h', Q' v h' → Q v h') (k : WP l Z EL nar own nm ds bytes maxL ret R Q' vm h ce sl pc Ls st) : WP l Z EL nar own nm ds bytes maxL ret R Q vm h ce sl pc Ls st := by
  intro p e s m args below meth c T L cx pl
  obtain ⟨t, o, h1, h2, h3, v, L', h4, h5, r⟩ := k p e s m args below meth c T L cx pl
  exact ⟨t, o, h1, h2, h3, v, L', h4, hq _ _ h5, r⟩
/-- a step that leaves the state as it is -/
theorem WP.step (hs : ∀ (p : Program) (e : Env) (below : List Frame) (T target : State) (m : MethodId) (c : Code), p.tables.exec = Jvm.exec → c.code = bytes → At T m c below → Steps p.tables e below (T.setTop (mkF m n Ls' st')) target → Steps p.tables e below (T.setTop (mkF m pc Ls st)) target)
    (k : WP l Z EL nar own nm ds bytes maxL ret R Q vm h ce sl n Ls' st') : WP l Z EL nar own nm ds bytes maxL ret R Q vm h ce sl pc Ls st := by
  intro p e s m args below meth c T L cx pl
  obtain ⟨t, o, h1, r⟩ := k p e s m args below meth c T L cx pl
  exact ⟨t, o, hs p e below T t m c cx.1 cx.2.1 pl.1.here h1, r⟩
/-- a step that leaves the heap as it is (the tables may warm) -/
theorem WP.look (hs : ∀ (p : Program) (e : Env) (s : State) (args : Array Value) (below : List Frame) (T : State) (m : MethodId) (meth : Method) (c : Code) (L : List Loc), p.tables.exec = Jvm.exec → c.code = bytes → Stand p l e R (s.setVm vm) m args below meth c T L ce sl → Z.Warmed39 (s.setVm vm).vm → (s.setVm vm).vm.findClass own = some m.cls → T.heap = h →
      ∃ T', Stand p l e R (s.setVm vm) m args below meth c T' L ce sl ∧ T'.heap = h ∧ ∀ target, Steps p.tables e below (T'.setTop (mkF m n Ls' st')) target → Steps p.tables e below (T.setTop (mkF m pc Ls st)) target)
    (k : WP l Z EL nar own nm ds bytes maxL ret R Q vm h ce sl n Ls' st') : WP l Z EL nar own nm ds bytes maxL ret R Q vm h ce sl pc Ls st := by
  intro p e s m args below meth c T L cx ⟨X, hS, hZ, hown, eT, N, hE, hC, hW, hEL⟩
  obtain ⟨T', X', e', stp⟩ := hs p e s args below T m meth c L cx.1 cx.2.1 X hZ hown eT
  obtain ⟨t, o, h1, r⟩ := k p e s m args below meth c T' L cx ⟨X', hS, hZ, hown, e', N, hE, hC, hW, hEL⟩
  exact ⟨t, o, stp _ h1, r⟩
/-- a step that makes a cell -/
theorem WP.make {ce' sl' : Nat} {P : Heap → Prop} (hs : ∀ (p : Program) (e : Env) (s : State) (args : Array Value) (below : List Frame) (T : State) (m : MethodId) (meth : Method) (c : Code) (L : List Loc), p.tables.exec = Jvm.exec → c.code = bytes → Stand p l e R (s.setVm vm) m args below meth c T L ce sl → Z.Warmed39 (s.setVm vm).vm → (s.setVm vm).vm.findClass own = some m.cls → T.heap = h →
      ∃ T' h', Stand p l e R (s.setVm vm) m args below meth c T' L ce' sl' ∧ T'.heap = h' ∧ Ext h h' ∧ P h' ∧ ∀ target, Steps p.tables e below (T'.setTop (mkF m n Ls' st')) target → Steps p.tables e below (T.setTop (mkF m pc Ls st)) target)
    (k : ∀ h', Ext h h' → P h' → CHr Z EL vm h vm h' → WP l Z EL nar own nm ds bytes maxL ret R Q vm h' ce' sl' n Ls' st') : WP l Z EL nar own nm ds bytes maxL ret R Q vm h ce sl pc Ls st := by
  intro p e s m args below meth c T L cx ⟨X, ⟨k0, hS, hk⟩, hZ, hown, eT, N, hE, hC, hW, hEL⟩
  obtain ⟨T', h', X', e', E', hP, stp⟩ := hs p e s args below T m meth c L cx.1 cx.2.1 X hZ hown eT
  have hR : CHr Z EL vm h vm h' := CHr.ext E' hC.1
  obtain ⟨t, o, h1, r⟩ := k h' E' hP hR p e s m args below meth c T' L cx ⟨X', ⟨k0, hS, Nat.le_trans hk E'.1⟩, hZ, hown, e', N, ext_trans hE E', hC.trans hR, hW, hEL⟩
  exact ⟨t, o, stp _ h1, r⟩
/-- a step that writes one place of a new cell -/
theorem WP.write {a : Addr} {i : Nat} {v : Value} (ha : Z.heap.size ≤ a) (hsafe : Z.Warmed39 vm → Safe Z EL vm h a)
    (hs : ∀ (p : Program) (e : Env) (s : State) (args : Array Value) (below : List Frame) (T : State) (m : MethodId) (meth : Method) (c : Code) (L : List Loc), p.tables.exec = Jvm.exec → c.code = bytes → meth.name = nm → Stand p l e R (s.setVm vm) m args below meth c T L ce sl → Z.Warmed39 (s.setVm vm).vm → (s.setVm vm).vm.findClass own = some m.cls → T.heap = h →
      ∃ T' h', Stand p l e R (s.setVm vm) m args below meth c T' (L ++ [⟨a, i⟩]) ce sl ∧ T'.heap = h' ∧ Wr h h' a i v ∧ ∀ target, Steps p.tables e below (T'.setTop (mkF m n Ls' st')) target → Steps p.tables e below (T.setTop (mkF m pc Ls st)) target)
    (k : ∀ h', Wr h h' a i v → CHr Z EL vm h vm h' → WP l Z EL nar own nm ds bytes maxL ret R Q vm h' ce sl n Ls' st') : WP l Z EL nar own nm ds bytes maxL ret R Q vm h ce sl pc Ls st := by
  intro p e s m args below meth c T L cx ⟨X, ⟨k0, hS, hk⟩, hZ, hown, eT, N, hE, hC, hW, hEL⟩
  obtain ⟨T', h', X', e', W', stp⟩ := hs p e s args below T m meth c L cx.1 cx.2.1 cx.2.2.2.2.2 X hZ hown eT
  have hR : CHr Z EL vm h vm h' := CHr.wr W' (hsafe hZ) hC.1
  obtain ⟨t, o, h1, r⟩ := k h' W' hR p e s m args below meth c T' _ cx ⟨X', ⟨k0, hS, by rw [W'.size]; exact hk⟩, hZ, hown, e', Fr.snoc X' N ha, ext_wr hE W' ha, hC.trans hR, hW, hEL⟩
  exact ⟨t, o, stp _ h1, r⟩
/-- the end -/
theorem WP.done {v : Option Value} (hc : ce ≤ R.cells) (hsl : sl ≤ R.slots) (hv : ret = none → v = none)
    (hs : ∀ (p : Program) (e : Env) (s : State) (args : Array Value) (below : List Frame) (T : State) (m : MethodId) (meth : Method) (c : Code) (L : List Loc) (fs : List Frame), p.tables.exec = Jvm.exec → c.code = bytes → meth.sig.returnType = ret → Stand p l e R (s.setVm vm) m args below meth c T L ce sl →
      (∀ (f : JFrame) (acts : List Action), f.method = m → f.locked = none → f.entered = [] → (doReturn e (T.setTop f) acts v).1 = T.setFrames fs) → Steps p.tables e below (T.setTop (mkF m pc Ls st)) (T.setFrames fs))
    (hq : Q v h) : WP l Z EL nar own nm ds bytes maxL ret R Q vm h ce sl pc Ls st := by
  intro p e s m args below meth c T L cx ⟨X, ⟨k0, hS, hk⟩, hZ, hown, eT, N, hE, hC, hW, a0, hEL⟩
  have hlk : meth.locks = false := cx.2.2.2.2.1.1
  obtain ⟨fs, hr, hrun, hend, hret⟩ := X.leaveW hS (by rw [eT]; exact hk) (v := v) (fun q => hv (cx.2.2.2.1 ▸ q))
  refine ⟨_, _, hs p e s args below T m meth c L fs cx.1 cx.2.1 cx.2.2.2.1 X hr, hrun, hend, v, L, rfl, ?_, ?_, N, ?_, fun q => ?_, ?_⟩
  · show Q v T.heap
    rw [eT]; exact hq
  · show Ext Z.heap T.heap
    rw [eT]; exact hE
  · show CHr Z EL s.vm s.heap T.vm T.heap
    rw [eT]; exact hC.trans (CHv.at X hZ hEL hC.1)
  · exact State.WarmedH.trans (t := s.setVm vm) (hW q) X.warmed
  · obtain ⟨r1, r2, r3, r4⟩ := hret
    exact ⟨r1, r2, r3, r4.mono hc hsl⟩
/-- a body's contract out of its walk -/
theorem Con.of {sf : List Addr} {y : MethodName} {as' : Array Value} (hpn : plainFor y = true) (hEL : EW Z a0 EL) (hef : ∀ m, entryFrame m as' maxL = mkF m 0 Ls [])
    (k : ∀ vm, Z.Warmed39 vm → Ext Z.heap h → CHv Z EL vm h → (∀ x ∈ sf, Safe Z EL vm h x) → WP l Z EL nar y.cls y.name y.desc bytes maxL ret R Q vm h 0 0 0 Ls []) : Con l Z EL nar sf y bytes maxL ret R as' h Q := by
  intro ws
  refine MetFree.of_bodySF hpn hisR ?_
  intro p e s m args below meth c s₁ Bd hml hP hK
  obtain ⟨rfl, hZ, hh, hE, hC, hS⟩ := hP
  have X0 : Stand p l e R s m args below meth c s₁ [] 0 0 := Stand.of_body Bd
  have e0 : s₁.heap = h := by rw [← hh, Bd.state]; rfl
  obtain ⟨t, o, h1, h2, h3, r⟩ := k s.vm hZ hE hC hS p e s m args below meth c s₁ [] ⟨Bd.exec, Bd.bytes, hml, Bd.returns, ⟨Bd.notSynchronized, (State.methodNamed?_setVm (s := Z) hZ.alike y).symm.trans Bd.named⟩, (name_of_methodNamed Bd.named Bd.method).1⟩
    ⟨X0, ⟨s.heap.size, (State.WarmedH.refl s).since _, by rw [hh]; exact Nat.le_refl _⟩, hZ, findClass_of_methodNamed Bd.named, e0, Fr.nil _, hE, by rw [hh]; exact CHr.refl hC, fun _ => State.WarmedH.refl s, a0, hEL⟩
  exact ⟨t, o, castTop (hef m) h1, h2, h3, r⟩
theorem Con.post {sf : List Addr} {y : MethodName} {as' : Array Value} {Q' : Option Value → Heap → Prop} (C : Con l Z EL nar sf y bytes maxL ret R as' h Q') (hq : ∀ v h', Q' v h' → Q v h') : Con l Z EL nar sf y bytes maxL ret R as' h Q := by
  intro ws p e ha hc hk s m args below hf happ hP hK
  obtain ⟨n, o, h1, h2, h3, v, L, h4, h5, r⟩ := C ws p e ha hc hk s m args below hf happ hP hK
  exact ⟨n, o, h1, h2, h3, v, L, h4, hq _ _ h5, r⟩
theorem Con.back {sf : List Addr} {y : MethodName} {as' : Array Value} {a1 : Array Value} {p : Program} {e : Env} {below : List Frame} {s : State} {args : Array Value} {len Wd : Nat} {rm : Room} (C : Con l Z EL nar sf y bytes maxL ret rm as' h Q) (hEL : EW Z a1 EL) (hZ : Z.Warmed39 vm) (wc : (Cond.code y bytes maxL ret).before a0 Z = true) (wz : (Cond.initialized y.cls).before a0 Z = true)
    (hf : rm.frames + 1 ≤ R.frames) (hl : Wd + (maxL + 11) + rm.locals ≤ R.locals) (hE : Ext Z.heap h) (H : CHv Z EL vm h) (hsf : ∀ x ∈ sf, Safe Z EL vm h x ∧ x < h.size) :
    BackS l R p e below (s.setVm vm) args y len Wd (fun A a => a = as' ∧ A.U.heap = h ∧ A.cells + rm.cells ≤ R.cells ∧ A.slots + rm.slots ≤ R.slots)
      (fun A _ v B => ∃ L, Q v B.U.heap ∧ Ext Z.heap B.U.heap ∧ Fr Z.heap.size L ∧ B.locs = A.locs ++ L ∧ B.cells = A.cells + rm.cells ∧ B.slots = A.slots + rm.slots ∧ CHr Z EL vm h B.U.vm B.U.heap ∧ (nar = true → (s.setVm vm).WarmedH B.U.vm)) :=
  BackS.of_freeW (bytes := bytes) (maxL := maxL) (ret := ret) (E := fun _ first o t L k n => k = rm.cells ∧ n = rm.slots ∧ (∃ v, o = .returned v ∧ Q v t.heap ∧ Ext Z.heap t.heap ∧ Fr Z.heap.size L) ∧ CHr Z EL first.vm first.heap t.vm t.heap ∧ (nar = true → first.WarmedH t.vm)) (C []) hf hl
    (fun m meth c A a Y hp => have hU : Z.Warmed39 A.U.vm := wtrans (s := s.setVm vm) hZ Y.warmed
      ⟨by show (Cond.and _ .tt).before a A.U = true; rw [Cond.before_and, mv hU wc]; rfl, mv hU wc, mv hU wz, hp.2.2.1, hp.2.2.2⟩)
    (fun m meth c A a g mk Y hp => ⟨hp.1, wtrans (s := s.setVm vm) hZ Y.warmed, hp.2.1, hE, (CHv.at Y hZ hEL H).1, fun x hx => (CHv.at Y hZ hEL H).safe (hsf x hx).2 (hsf x hx).1⟩) (fun _ _ _ _ _ _ _ _ _ => trivial)
    (fun _ _ _ _ ⟨v, L, h1, h2, h3, h4, h5, h6, h7⟩ => ⟨L, _, _, h7, rfl, rfl, ⟨v, h1, h2, h3, h4⟩, h5, h6⟩)
    (fun m meth c A a g mk v t L k n Y hp _ _ ⟨e1, e2, ⟨v', e3, e4, e5, e6⟩, e7, e8⟩ => by
      cases e3; subst e1 e2
      refine ⟨L, e4, e5, e6, rfl, rfl, rfl, (CHv.at Y hZ hEL H).trans ?_, fun q => ?_⟩
      · rw [← hp.2.1]; exact e7
      · exact State.WarmedH.trans (t := A.U.calling g mk a) Y.warmed (e8 q))
end Basic
end Jvm.OwnW
namespace Jvm.OwnW
open Jvm Jvm.ClassFile Sem Op Lib Jvm.Free Jvm.Stand Jvm.LawKit Jvm.RoadKit Bundle
section Steps
variable {l : Launch} {Z : State} {EL : List (String × Nat)} {nar : Bool} {own nm ds : String} {bytes : ByteArray} {maxL : Nat} {ret : Option FieldType} {R : Room} {Q : Option Value → Heap → Prop} {vm : Vm} {h : Heap} {ce sl pc n n' : Nat} {Ls Ls' : Array Slot} {st rest : List Value} {a0 : Array Value}
theorem WP.iloadN {k' : Fin 4} {v : Int32} (hd : decode bytes pc = .ok (.iload_n k', 1)) (hl : Ls[k'.val]? = some (.val (.int v))) (hp : pc + 1 = n) (k : WP l Z EL nar own nm ds bytes maxL ret R Q vm h ce sl n Ls (.int v :: st)) : WP l Z EL nar own nm ds bytes maxL ret R Q vm h ce sl pc Ls (st) := by subst hp; exact WP.step (fun p e below T t m c hx hb ha q => XS.iloadN ha hx rfl (hb ▸ hd) hl q) k
theorem WP.iload {k' : Nat} {v : Int32} (hd : decode bytes pc = .ok (.iload k', 2)) (hl : Ls[k']? = some (.val (.int v))) (hp : pc + 2 = n) (k : WP l Z EL nar own nm ds bytes maxL ret R Q vm h ce sl n Ls (.int v :: st)) : WP l Z EL nar own nm ds bytes maxL ret R Q vm h ce sl pc Ls (st) := by subst hp; exact WP.step (fun p e below T t m c hx hb ha q => XS.iload ha hx rfl (hb ▸ hd) hl q) k
theorem WP.istoreN {k' : Fin 4} {v : Int32} (hd : decode bytes pc = .ok (.istore_n k', 1)) (hl : storeLocals Ls k'.val (.int v) = some Ls') (hp : pc + 1 = n) (k : WP l Z EL nar own nm ds bytes maxL ret R Q vm h ce sl n Ls' (rest)) : WP l Z EL nar own nm ds bytes maxL ret R Q vm h ce sl pc Ls (.int v :: rest) := by subst hp; exact WP.step (fun p e below T t m c hx hb ha q => XS.istoreN ha hx rfl (hb ▸ hd) rfl hl q) k
theorem WP.istore {k' : Nat} {v : Int32} (hd : decode bytes pc = .ok (.istore k', 2)) (hl : storeLocals Ls k' (.int v) = some Ls') (hp : pc + 2 = n) (k : WP l Z EL nar own nm ds bytes maxL ret R Q vm h ce sl n Ls' (rest)) : WP l Z EL nar own nm ds bytes maxL ret R Q vm h ce sl pc Ls (.int v :: rest) := by subst hp; exact WP.step (fun p e below T t m c hx hb ha q => XS.istore ha hx rfl (hb ▸ hd) rfl hl q) k
theorem WP.lloadN {k' : Fin 4} {v : Int64} (hd : decode bytes pc = .ok (.lload_n k', 1)) (hl : Ls[k'.val]? = some (.val (.long v))) (hp : pc + 1 = n) (k : WP l Z EL nar own nm ds bytes maxL ret R Q vm h ce sl n Ls (.long v :: st)) : WP l Z EL nar own nm ds bytes maxL ret R Q vm h ce sl pc Ls (st) := by subst hp; exact WP.step (fun p e below T t m c hx hb ha q => XT.lloadN ha hx rfl (hb ▸ hd) hl q) k
theorem WP.lload {k' : Nat} {v : Int64} (hd : decode bytes pc = .ok (.lload k', 2)) (hl : Ls[k']? = some (.val (.long v))) (hp : pc + 2 = n) (k : WP l Z EL nar own nm ds bytes maxL ret R Q vm h ce sl n Ls (.long v :: st)) : WP l Z EL nar own nm ds bytes maxL ret R Q vm h ce sl pc Ls (st) := by subst hp; exact WP.step (fun p e below T t m c hx hb ha q => XT.lload ha hx rfl (hb ▸ hd) hl q) k
theorem WP.lstoreN {k' : Fin 4} {v : Int64} (hd : decode bytes pc = .ok (.lstore_n k', 1)) (hl : storeLocals Ls k'.val (.long v) = some Ls') (hp : pc + 1 = n) (k : WP l Z EL nar own nm ds bytes maxL ret R Q vm h ce sl n Ls' (rest)) : WP l Z EL nar own nm ds bytes maxL ret R Q vm h ce sl pc Ls (.long v :: rest) := by subst hp; exact WP.step (fun p e below T t m c hx hb ha q => XT.lstoreN ha hx rfl (hb ▸ hd) rfl hl q) k
theorem WP.lstore {k' : Nat} {v : Int64} (hd : decode bytes pc = .ok (.lstore k', 2)) (hl : storeLocals Ls k' (.long v) = some Ls') (hp : pc + 2 = n) (k : WP l Z EL nar own nm ds bytes maxL ret R Q vm h ce sl n Ls' (rest)) : WP l Z EL nar own nm ds bytes maxL ret R Q vm h ce sl pc Ls (.long v :: rest) := by subst hp; exact WP.step (fun p e below T t m c hx hb ha q => XT.lstore ha hx rfl (hb ▸ hd) rfl hl q) k
theorem WP.aloadN {k' : Fin 4} {v : Value} (hd : decode bytes pc = .ok (.aload_n k', 1)) (hl : Ls[k'.val]? = some (.val v)) (hv : v.isRef = true) (hp : pc + 1 = n) (k : WP l Z EL nar own nm ds bytes maxL ret R Q vm h ce sl n Ls (v :: st)) : WP l Z EL nar own nm ds bytes maxL ret R Q vm h ce sl pc Ls (st) := by subst hp; exact WP.step (fun p e below T t m c hx hb ha q => XS.aloadN ha hx rfl (hb ▸ hd) hl hv q) k
theorem WP.aload {k' : Nat} {v : Value} (hd : decode bytes pc = .ok (.aload k', 2)) (hl : Ls[k']? = some (.val v)) (hv : v.isRef = true) (hp : pc + 2 = n) (k : WP l Z EL nar own nm ds bytes maxL ret R Q vm h ce sl n Ls (v :: st)) : WP l Z EL nar own nm ds bytes maxL ret R Q vm h ce sl pc Ls (st) := by subst hp; exact WP.step (fun p e below T t m c hx hb ha q => XS.aload ha hx rfl (hb ▸ hd) hl hv q) k
theorem WP.astoreN {k' : Fin 4} {v : Value} (hd : decode bytes pc = .ok (.astore_n k', 1)) (hv : v.isRef = true) (hl : storeLocals Ls k'.val v = some Ls') (hp : pc + 1 = n) (k : WP l Z EL nar own nm ds bytes maxL ret R Q vm h ce sl n Ls' (rest)) : WP l Z EL nar own nm ds bytes maxL ret R Q vm h ce sl pc Ls (v :: rest) := by subst hp; exact WP.step (fun p e below T t m c hx hb ha q => XS.astoreN ha hx rfl (hb ▸ hd) rfl hv hl q) k
theorem WP.astore {k' : Nat} {v : Value} (hd : decode bytes pc = .ok (.astore k', 2)) (hv : v.isRef = true) (hl : storeLocals Ls k' v = some Ls') (hp : pc + 2 = n) (k : WP l Z EL nar own nm ds bytes maxL ret R Q vm h ce sl n Ls' (rest)) : WP l Z EL nar own nm ds bytes maxL ret R Q vm h ce sl pc Ls (v :: rest) := by subst hp; exact WP.step (fun p e below T t m c hx hb ha q => XS.astore ha hx rfl (hb ▸ hd) rfl hv hl q) k
theorem WP.iconst {i : Int} {z : Int32} (hd : decode bytes pc = .ok (.iconst i, 1)) (hz : Int32.ofInt i = z) (hp : pc + 1 = n) (k : WP l Z EL nar own nm ds bytes maxL ret R Q vm h ce sl n Ls (.int z :: st)) : WP l Z EL nar own nm ds bytes maxL ret R Q vm h ce sl pc Ls st := by subst hp hz; exact WP.step (fun p e below T t m c hx hb ha q => XS.iconst ha hx rfl (hb ▸ hd) q) k
theorem WP.bipush {i : Int} {z : Int32} (hd : decode bytes pc = .ok (.bipush i, 2)) (hz : (Int8.ofInt i).toInt32 = z) (hp : pc + 2 = n) (k : WP l Z EL nar own nm ds bytes maxL ret R Q vm h ce sl n Ls (.int z :: st)) : WP l Z EL nar own nm ds bytes maxL ret R Q vm h ce sl pc Ls st := by subst hp hz; exact WP.step (fun p e below T t m c hx hb ha q => XS.bipush ha hx rfl (hb ▸ hd) q) k
theorem WP.sipush {i : Int} {z : Int32} (hd : decode bytes pc = .ok (.sipush i, 3)) (hz : (Int16.ofInt i).toInt32 = z) (hp : pc + 3 = n) (k : WP l Z EL nar own nm ds bytes maxL ret R Q vm h ce sl n Ls (.int z :: st)) : WP l Z EL nar own nm ds bytes maxL ret R Q vm h ce sl pc Ls st := by subst hp hz; exact WP.step (fun p e below T t m c hx hb ha q => XS.sipush ha hx rfl (hb ▸ hd) q) k
theorem WP.lconst {i : Fin 2} (hd : decode bytes pc = .ok (.lconst i, 1)) {z : Int64} (hz : Int64.ofNat i = z) (hp : pc + 1 = n) (k : WP l Z EL nar own nm ds bytes maxL ret R Q vm h ce sl n Ls (.long z :: st)) : WP l Z EL nar own nm ds bytes maxL ret R Q vm h ce sl pc Ls st := by subst hp hz; exact WP.step (fun p e below T t m c hx hb ha q => XT.lconst ha hx rfl (hb ▸ hd) q) k
theorem WP.aconstNull  (hd : decode bytes pc = .ok (.aconst_null, 1))  (hp : pc + 1 = n) (k : WP l Z EL nar own nm ds bytes maxL ret R Q vm h ce sl n Ls (.null :: st)) : WP l Z EL nar own nm ds bytes maxL ret R Q vm h ce sl pc Ls (st) := by subst hp; exact WP.step (fun p e below T t m c hx hb ha q => XS.aconstNull ha hx rfl (hb ▸ hd)  q) k
theorem WP.iadd {x y : Int32} (hd : decode bytes pc = .ok (.iadd, 1))  (hp : pc + 1 = n) (k : WP l Z EL nar own nm ds bytes maxL ret R Q vm h ce sl n Ls (.int (x + y) :: rest)) : WP l Z EL nar own nm ds bytes maxL ret R Q vm h ce sl pc Ls (.int y :: .int x :: rest) := by subst hp; exact WP.step (fun p e below T t m c hx hb ha q => XS.iadd ha hx rfl (hb ▸ hd) rfl q) k
theorem WP.isub {x y : Int32} (hd : decode bytes pc = .ok (.isub, 1))  (hp : pc + 1 = n) (k : WP l Z EL nar own nm ds bytes maxL ret R Q vm h ce sl n Ls (.int (x - y) :: rest)) : WP l Z EL nar own nm ds bytes maxL ret R Q vm h ce sl pc Ls (.int y :: .int x :: rest) := by subst hp; exact WP.step (fun p e below T t m c hx hb ha q => XS.isub ha hx rfl (hb ▸ hd) rfl q) k
theorem WP.iand {x y : Int32} (hd : decode bytes pc = .ok (.iand, 1))  (hp : pc + 1 = n) (k : WP l Z EL nar own nm ds bytes maxL ret R Q vm h ce sl n Ls (.int (x &&& y) :: rest)) : WP l Z EL nar own nm ds bytes maxL ret R Q vm h ce sl pc Ls (.int y :: .int x :: rest) := by subst hp; exact WP.step (fun p e below T t m c hx hb ha q => XS.iand ha hx rfl (hb ▸ hd) rfl q) k
theorem WP.imul {x y : Int32} (hd : decode bytes pc = .ok (.imul, 1))  (hp : pc + 1 = n) (k : WP l Z EL nar own nm ds bytes maxL ret R Q vm h ce sl n Ls (.int (x * y) :: rest)) : WP l Z EL nar own nm ds bytes maxL ret R Q vm h ce sl pc Ls (.int y :: .int x :: rest) := by subst hp; exact WP.step (fun p e below T t m c hx hb ha q => XS.imul ha hx rfl (hb ▸ hd) rfl q) k
theorem WP.ixor {x y : Int32} (hd : decode bytes pc = .ok (.ixor, 1))  (hp : pc + 1 = n) (k : WP l Z EL nar own nm ds bytes maxL ret R Q vm h ce sl n Ls (.int (x ^^^ y) :: rest)) : WP l Z EL nar own nm ds bytes maxL ret R Q vm h ce sl pc Ls (.int y :: .int x :: rest) := by subst hp; exact WP.step (fun p e below T t m c hx hb ha q => XT.ixor ha hx rfl (hb ▸ hd) rfl q) k
theorem WP.ior {x y : Int32} (hd : decode bytes pc = .ok (.ior, 1))  (hp : pc + 1 = n) (k : WP l Z EL nar own nm ds bytes maxL ret R Q vm h ce sl n Ls (.int (x ||| y) :: rest)) : WP l Z EL nar own nm ds bytes maxL ret R Q vm h ce sl pc Ls (.int y :: .int x :: rest) := by subst hp; exact WP.step (fun p e below T t m c hx hb ha q => XT.ior ha hx rfl (hb ▸ hd) rfl q) k
theorem WP.ishl {x y : Int32} (hd : decode bytes pc = .ok (.ishl, 1))  (hp : pc + 1 = n) (k : WP l Z EL nar own nm ds bytes maxL ret R Q vm h ce sl n Ls (.int (x <<< (y &&& 31)) :: rest)) : WP l Z EL nar own nm ds bytes maxL ret R Q vm h ce sl pc Ls (.int y :: .int x :: rest) := by subst hp; exact WP.step (fun p e below T t m c hx hb ha q => XT.ishl ha hx rfl (hb ▸ hd) rfl q) k
theorem WP.ishr {x y : Int32} (hd : decode bytes pc = .ok (.ishr, 1))  (hp : pc + 1 = n) (k : WP l Z EL nar own nm ds bytes maxL ret R Q vm h ce sl n Ls (.int (x >>> (y &&& 31)) :: rest)) : WP l Z EL nar own nm ds bytes maxL ret R Q vm h ce sl pc Ls (.int y :: .int x :: rest) := by subst hp; exact WP.step (fun p e below T t m c hx hb ha q => XT.ishr ha hx rfl (hb ▸ hd) rfl q) k
theorem WP.iushr {x y : Int32} (hd : decode bytes pc = .ok (.iushr, 1))  (hp : pc + 1 = n) (k : WP l Z EL nar own nm ds bytes maxL ret R Q vm h ce sl n Ls (.int (XT.ushr x y) :: rest)) : WP l Z EL nar own nm ds bytes maxL ret R Q vm h ce sl pc Ls (.int y :: .int x :: rest) := by subst hp; exact WP.step (fun p e below T t m c hx hb ha q => XT.iushr ha hx rfl (hb ▸ hd) rfl q) k
theorem WP.idiv {x y : Int32} (hd : decode bytes pc = .ok (.idiv, 1)) (hy : y ≠ 0) (hp : pc + 1 = n) (k : WP l Z EL nar own nm ds bytes maxL ret R Q vm h ce sl n Ls (.int (x / y) :: rest)) : WP l Z EL nar own nm ds bytes maxL ret R Q vm h ce sl pc Ls (.int y :: .int x :: rest) := by subst hp; exact WP.step (fun p e below T t m c hx hb ha q => XS.idiv ha hx rfl (hb ▸ hd) rfl hy q) k
theorem WP.irem {x y : Int32} (hd : decode bytes pc = .ok (.irem, 1)) (hy : y ≠ 0) (hp : pc + 1 = n) (k : WP l Z EL nar own nm ds bytes maxL ret R Q vm h ce sl n Ls (.int (x % y) :: rest)) : WP l Z EL nar own nm ds bytes maxL ret R Q vm h ce sl pc Ls (.int y :: .int x :: rest) := by subst hp; rw [← irem_eq_mod] at k; exact WP.step (fun p e below T t m c hx hb ha q => XS.irem ha hx rfl (hb ▸ hd) rfl hy q) k
theorem WP.ineg {x : Int32} (hd : decode bytes pc = .ok (.ineg, 1))  (hp : pc + 1 = n) (k : WP l Z EL nar own nm ds bytes maxL ret R Q vm h ce sl n Ls (.int (-x) :: rest)) : WP l Z EL nar own nm ds bytes maxL ret R Q vm h ce sl pc Ls (.int x :: rest) := by subst hp; exact WP.step (fun p e below T t m c hx hb ha q => XS.ineg ha hx rfl (hb ▸ hd) rfl q) k
theorem WP.iinc {k' : Nat} {cst : Int} {x z : Int32} (hd : decode bytes pc = .ok (.iinc k' cst, 3)) (hl : Ls[k']? = some (.val (.int x))) (hz : x + Int32.ofInt cst = z) (hl' : storeLocals Ls k' (.int z) = some Ls') (hp : pc + 3 = n) (k : WP l Z EL nar own nm ds bytes maxL ret R Q vm h ce sl n Ls' st) : WP l Z EL nar own nm ds bytes maxL ret R Q vm h ce sl pc Ls st := by subst hp hz; exact WP.step (fun p e below T t m c hx hb ha q => XS.iinc ha hx rfl (hb ▸ hd) hl hl' q) k
theorem WP.ladd {x y : Int64} (hd : decode bytes pc = .ok (.ladd, 1))  (hp : pc + 1 = n) (k : WP l Z EL nar own nm ds bytes maxL ret R Q vm h ce sl n Ls (.long (x + y) :: rest)) : WP l Z EL nar own nm ds bytes maxL ret R Q vm h ce sl pc Ls (.long y :: .long x :: rest) := by subst hp; exact WP.step (fun p e below T t m c hx hb ha q => XT.ladd ha hx rfl (hb ▸ hd) rfl q) k
theorem WP.lsub {x y : Int64} (hd : decode bytes pc = .ok (.lsub, 1))  (hp : pc + 1 = n) (k : WP l Z EL nar own nm ds bytes maxL ret R Q vm h ce sl n Ls (.long (x - y) :: rest)) : WP l Z EL nar own nm ds bytes maxL ret R Q vm h ce sl pc Ls (.long y :: .long x :: rest) := by subst hp; exact WP.step (fun p e below T t m c hx hb ha q => XT.lsub ha hx rfl (hb ▸ hd) rfl q) k
theorem WP.lmul {x y : Int64} (hd : decode bytes pc = .ok (.lmul, 1))  (hp : pc + 1 = n) (k : WP l Z EL nar own nm ds bytes maxL ret R Q vm h ce sl n Ls (.long (x * y) :: rest)) : WP l Z EL nar own nm ds bytes maxL ret R Q vm h ce sl pc Ls (.long y :: .long x :: rest) := by subst hp; exact WP.step (fun p e below T t m c hx hb ha q => XT.lmul ha hx rfl (hb ▸ hd) rfl q) k
theorem WP.land {x y : Int64} (hd : decode bytes pc = .ok (.land, 1))  (hp : pc + 1 = n) (k : WP l Z EL nar own nm ds bytes maxL ret R Q vm h ce sl n Ls (.long (x &&& y) :: rest)) : WP l Z EL nar own nm ds bytes maxL ret R Q vm h ce sl pc Ls (.long y :: .long x :: rest) := by subst hp; exact WP.step (fun p e below T t m c hx hb ha q => XT.land ha hx rfl (hb ▸ hd) rfl q) k
theorem WP.lor {x y : Int64} (hd : decode bytes pc = .ok (.lor, 1))  (hp : pc + 1 = n) (k : WP l Z EL nar own nm ds bytes maxL ret R Q vm h ce sl n Ls (.long (x ||| y) :: rest)) : WP l Z EL nar own nm ds bytes maxL ret R Q vm h ce sl pc Ls (.long y :: .long x :: rest) := by subst hp; exact WP.step (fun p e below T t m c hx hb ha q => XT.lor ha hx rfl (hb ▸ hd) rfl q) k
theorem WP.lxor {x y : Int64} (hd : decode bytes pc = .ok (.lxor, 1))  (hp : pc + 1 = n) (k : WP l Z EL nar own nm ds bytes maxL ret R Q vm h ce sl n Ls (.long (x ^^^ y) :: rest)) : WP l Z EL nar own nm ds bytes maxL ret R Q vm h ce sl pc Ls (.long y :: .long x :: rest) := by subst hp; exact WP.step (fun p e below T t m c hx hb ha q => XT.lxor ha hx rfl (hb ▸ hd) rfl q) k
theorem WP.lshl {x : Int64} {y : Int32} (hd : decode bytes pc = .ok (.lshl, 1))  (hp : pc + 1 = n) (k : WP l Z EL nar own nm ds bytes maxL ret R Q vm h ce sl n Ls (.long (x <<< (y.toInt64 &&& 63)) :: rest)) : WP l Z EL nar own nm ds bytes maxL ret R Q vm h ce sl pc Ls (.int y :: .long x :: rest) := by subst hp; exact WP.step (fun p e below T t m c hx hb ha q => XT.lshl ha hx rfl (hb ▸ hd) rfl q) k
theorem WP.lshr {x : Int64} {y : Int32} (hd : decode bytes pc = .ok (.lshr, 1))  (hp : pc + 1 = n) (k : WP l Z EL nar own nm ds bytes maxL ret R Q vm h ce sl n Ls (.long (x >>> (y.toInt64 &&& 63)) :: rest)) : WP l Z EL nar own nm ds bytes maxL ret R Q vm h ce sl pc Ls (.int y :: .long x :: rest) := by subst hp; exact WP.step (fun p e below T t m c hx hb ha q => XT.lshr ha hx rfl (hb ▸ hd) rfl q) k
theorem WP.lushr {x : Int64} {y : Int32} (hd : decode bytes pc = .ok (.lushr, 1))  (hp : pc + 1 = n) (k : WP l Z EL nar own nm ds bytes maxL ret R Q vm h ce sl n Ls (.long (XT.ushrL x y) :: rest)) : WP l Z EL nar own nm ds bytes maxL ret R Q vm h ce sl pc Ls (.int y :: .long x :: rest) := by subst hp; exact WP.step (fun p e below T t m c hx hb ha q => XT.lushr ha hx rfl (hb ▸ hd) rfl q) k
theorem WP.ldiv {x y : Int64} (hd : decode bytes pc = .ok (.ldiv, 1)) (hy : y ≠ 0) (hp : pc + 1 = n) (k : WP l Z EL nar own nm ds bytes maxL ret R Q vm h ce sl n Ls (.long (x / y) :: rest)) : WP l Z EL nar own nm ds bytes maxL ret R Q vm h ce sl pc Ls (.long y :: .long x :: rest) := by subst hp; exact WP.step (fun p e below T t m c hx hb ha q => XT.ldiv ha hx rfl (hb ▸ hd) rfl hy q) k
theorem WP.lrem {x y : Int64} (hd : decode bytes pc = .ok (.lrem, 1)) (hy : y ≠ 0) (hp : pc + 1 = n) (k : WP l Z EL nar own nm ds bytes maxL ret R Q vm h ce sl n Ls (.long (x - (x / y) * y) :: rest)) : WP l Z EL nar own nm ds bytes maxL ret R Q vm h ce sl pc Ls (.long y :: .long x :: rest) := by subst hp; exact WP.step (fun p e below T t m c hx hb ha q => XT.lrem ha hx rfl (hb ▸ hd) rfl hy q) k
theorem WP.lneg {x : Int64} (hd : decode bytes pc = .ok (.lneg, 1))  (hp : pc + 1 = n) (k : WP l Z EL nar own nm ds bytes maxL ret R Q vm h ce sl n Ls (.long (-x) :: rest)) : WP l Z EL nar own nm ds bytes maxL ret R Q vm h ce sl pc Ls (.long x :: rest) := by subst hp; exact WP.step (fun p e below T t m c hx hb ha q => XT.lneg ha hx rfl (hb ▸ hd) rfl q) k
theorem WP.lcmp {x y : Int64} (hd : decode bytes pc = .ok (.lcmp, 1))  (hp : pc + 1 = n) (k : WP l Z EL nar own nm ds bytes maxL ret R Q vm h ce sl n Ls (.int (XT.cmpL x y) :: rest)) : WP l Z EL nar own nm ds bytes maxL ret R Q vm h ce sl pc Ls (.long y :: .long x :: rest) := by subst hp; exact WP.step (fun p e below T t m c hx hb ha q => XT.lcmp ha hx rfl (hb ▸ hd) rfl q) k
theorem WP.i2l {x : Int32} (hd : decode bytes pc = .ok (.i2l, 1))  (hp : pc + 1 = n) (k : WP l Z EL nar own nm ds bytes maxL ret R Q vm h ce sl n Ls (.long x.toInt64 :: rest)) : WP l Z EL nar own nm ds bytes maxL ret R Q vm h ce sl pc Ls (.int x :: rest) := by subst hp; exact WP.step (fun p e below T t m c hx hb ha q => XT.i2l ha hx rfl (hb ▸ hd) rfl q) k
theorem WP.l2i {x : Int64} (hd : decode bytes pc = .ok (.l2i, 1))  (hp : pc + 1 = n) (k : WP l Z EL nar own nm ds bytes maxL ret R Q vm h ce sl n Ls (.int x.toInt32 :: rest)) : WP l Z EL nar own nm ds bytes maxL ret R Q vm h ce sl pc Ls (.long x :: rest) := by subst hp; exact WP.step (fun p e below T t m c hx hb ha q => XT.l2i ha hx rfl (hb ▸ hd) rfl q) k
theorem WP.i2b {x : Int32} (hd : decode bytes pc = .ok (.i2b, 1))  (hp : pc + 1 = n) (k : WP l Z EL nar own nm ds bytes maxL ret R Q vm h ce sl n Ls (.int x.toInt8.toInt32 :: rest)) : WP l Z EL nar own nm ds bytes maxL ret R Q vm h ce sl pc Ls (.int x :: rest) := by subst hp; exact WP.step (fun p e below T t m c hx hb ha q => XT.i2b ha hx rfl (hb ▸ hd) rfl q) k
theorem WP.i2c {x z : Int32} (hd : decode bytes pc = .ok (.i2c, 1)) (hz : x.toUInt32.toUInt16.toUInt32.toInt32 = z) (hp : pc + 1 = n) (k : WP l Z EL nar own nm ds bytes maxL ret R Q vm h ce sl n Ls (.int z :: rest)) : WP l Z EL nar own nm ds bytes maxL ret R Q vm h ce sl pc Ls (.int x :: rest) := by subst hp hz; exact WP.step (fun p e below T t m c hx hb ha q => XT.i2c ha hx rfl (hb ▸ hd) rfl q) k
theorem WP.i2s {x : Int32} (hd : decode bytes pc = .ok (.i2s, 1))  (hp : pc + 1 = n) (k : WP l Z EL nar own nm ds bytes maxL ret R Q vm h ce sl n Ls (.int x.toInt16.toInt32 :: rest)) : WP l Z EL nar own nm ds bytes maxL ret R Q vm h ce sl pc Ls (.int x :: rest) := by subst hp; exact WP.step (fun p e below T t m c hx hb ha q => XT.i2s ha hx rfl (hb ▸ hd) rfl q) k
theorem WP.dup {v : Value} (hd : decode bytes pc = .ok (.dup, 1)) (hc : v.category = 1) (hp : pc + 1 = n) (k : WP l Z EL nar own nm ds bytes maxL ret R Q vm h ce sl n Ls (v :: v :: rest)) : WP l Z EL nar own nm ds bytes maxL ret R Q vm h ce sl pc Ls (v :: rest) := by subst hp; exact WP.step (fun p e below T t m c hx hb ha q => XS.dup ha hx rfl (hb ▸ hd) rfl hc q) k
theorem WP.pop {v : Value} (hd : decode bytes pc = .ok (.pop, 1)) (hc : v.category = 1) (hp : pc + 1 = n) (k : WP l Z EL nar own nm ds bytes maxL ret R Q vm h ce sl n Ls (rest)) : WP l Z EL nar own nm ds bytes maxL ret R Q vm h ce sl pc Ls (v :: rest) := by subst hp; exact WP.step (fun p e below T t m c hx hb ha q => XT.pop ha hx rfl (hb ▸ hd) rfl hc q) k
theorem WP.dupX1 {v w : Value} (hd : decode bytes pc = .ok (.dup_x1, 1)) (hc : v.category = 1) (hc' : w.category = 1) (hp : pc + 1 = n) (k : WP l Z EL nar own nm ds bytes maxL ret R Q vm h ce sl n Ls (v :: w :: v :: rest)) : WP l Z EL nar own nm ds bytes maxL ret R Q vm h ce sl pc Ls (v :: w :: rest) := by subst hp; exact WP.step (fun p e below T t m c hx hb ha q => XT.dupX1 ha hx rfl (hb ▸ hd) rfl hc hc' q) k
theorem WP.dup2 {v w : Value} (hd : decode bytes pc = .ok (.dup2, 1)) (hc : v.category = 1) (hc' : w.category = 1) (hp : pc + 1 = n) (k : WP l Z EL nar own nm ds bytes maxL ret R Q vm h ce sl n Ls (v :: w :: v :: w :: rest)) : WP l Z EL nar own nm ds bytes maxL ret R Q vm h ce sl pc Ls (v :: w :: rest) := by subst hp; exact WP.step (fun p e below T t m c hx hb ha q => XT.dup2 ha hx rfl (hb ▸ hd) rfl hc hc' q) k
theorem WP.goto {o' : Int} (hd : decode bytes pc = .ok (.goto o', 3)) (ho : 0 ≤ (pc : Int) + o') (hn : ((pc : Int) + o').toNat = n) (k : WP l Z EL nar own nm ds bytes maxL ret R Q vm h ce sl n Ls st) : WP l Z EL nar own nm ds bytes maxL ret R Q vm h ce sl pc Ls st := WP.step (fun p e below T t m c hx hb ha q => XS.goto ha hx rfl (pc0 := pc) rfl (hb ▸ hd) ho hn q) k
theorem WP.icmpY {cd : ClassFile.Cond} {o' : Int} {x y : Int32} (hd : decode bytes pc = .ok (.if_icmp cd o', 3)) (hc : if_icmp.holds cd x y = true) (ho : 0 ≤ (pc : Int) + o') (hn : ((pc : Int) + o').toNat = n) (k : WP l Z EL nar own nm ds bytes maxL ret R Q vm h ce sl n Ls rest) : WP l Z EL nar own nm ds bytes maxL ret R Q vm h ce sl pc Ls (.int y :: .int x :: rest) := WP.step (fun p e below T t m c hx hb ha q => XS.icmpYes ha hx rfl (pc0 := pc) rfl (hb ▸ hd) rfl hc ho hn q) k
theorem WP.icmpN {cd : ClassFile.Cond} {o' : Int} {x y : Int32} (hd : decode bytes pc = .ok (.if_icmp cd o', 3)) (hc : if_icmp.holds cd x y = false) (hp : pc + 3 = n') (k : WP l Z EL nar own nm ds bytes maxL ret R Q vm h ce sl n' Ls rest) : WP l Z EL nar own nm ds bytes maxL ret R Q vm h ce sl pc Ls (.int y :: .int x :: rest) := by subst hp; exact WP.step (fun p e below T t m c hx hb ha q => XS.icmpNo ha hx rfl (hb ▸ hd) rfl hc q) k
theorem WP.ifcY {cd : ClassFile.Cond} {o' : Int} {x : Int32} (hd : decode bytes pc = .ok (.ifCond cd o', 3)) (hc : ifCond.holds cd x = true) (ho : 0 ≤ (pc : Int) + o') (hn : ((pc : Int) + o').toNat = n) (k : WP l Z EL nar own nm ds bytes maxL ret R Q vm h ce sl n Ls rest) : WP l Z EL nar own nm ds bytes maxL ret R Q vm h ce sl pc Ls (.int x :: rest) := WP.step (fun p e below T t m c hx hb ha q => XS.ifYes ha hx rfl (pc0 := pc) rfl (hb ▸ hd) rfl hc ho hn q) k
theorem WP.ifcN {cd : ClassFile.Cond} {o' : Int} {x : Int32} (hd : decode bytes pc = .ok (.ifCond cd o', 3)) (hc : ifCond.holds cd x = false) (hp : pc + 3 = n') (k : WP l Z EL nar own nm ds bytes maxL ret R Q vm h ce sl n' Ls rest) : WP l Z EL nar own nm ds bytes maxL ret R Q vm h ce sl pc Ls (.int x :: rest) := by subst hp; exact WP.step (fun p e below T t m c hx hb ha q => XS.ifNo ha hx rfl (hb ▸ hd) rfl hc q) k
theorem WP.icmp_lt {o' : Int} {x y : Int32} (hd : decode bytes pc = .ok (.if_icmp .lt o', 3)) (ho : 0 ≤ (pc : Int) + o') (hn : ((pc : Int) + o').toNat = n) (hp : pc + 3 = n') (k1 : x < y → WP l Z EL nar own nm ds bytes maxL ret R Q vm h ce sl n Ls rest) (k2 : ¬ x < y → WP l Z EL nar own nm ds bytes maxL ret R Q vm h ce sl n' Ls rest) : WP l Z EL nar own nm ds bytes maxL ret R Q vm h ce sl pc Ls (.int y :: .int x :: rest) := by by_cases q : x < y; exact WP.icmpY hd ((tlt q).1) ho hn (k1 q); exact WP.icmpN hd ((flt q).1) hp (k2 q)
theorem WP.if_lt {o' : Int} {x : Int32} (hd : decode bytes pc = .ok (.ifCond .lt o', 3)) (ho : 0 ≤ (pc : Int) + o') (hn : ((pc : Int) + o').toNat = n) (hp : pc + 3 = n') (k1 : x < (0 : Int32) → WP l Z EL nar own nm ds bytes maxL ret R Q vm h ce sl n Ls rest) (k2 : ¬ x < (0 : Int32) → WP l Z EL nar own nm ds bytes maxL ret R Q vm h ce sl n' Ls rest) : WP l Z EL nar own nm ds bytes maxL ret R Q vm h ce sl pc Ls (.int x :: rest) := by by_cases q : x < (0 : Int32); exact WP.ifcY hd ((if0 _ _).trans (tlt q).1) ho hn (k1 q); exact WP.ifcN hd ((if0 _ _).trans (flt q).1) hp (k2 q)
theorem WP.icmp_ge {o' : Int} {x y : Int32} (hd : decode bytes pc = .ok (.if_icmp .ge o', 3)) (ho : 0 ≤ (pc : Int) + o') (hn : ((pc : Int) + o').toNat = n) (hp : pc + 3 = n') (k1 : ¬ x < y → WP l Z EL nar own nm ds bytes maxL ret R Q vm h ce sl n Ls rest) (k2 : x < y → WP l Z EL nar own nm ds bytes maxL ret R Q vm h ce sl n' Ls rest) : WP l Z EL nar own nm ds bytes maxL ret R Q vm h ce sl pc Ls (.int y :: .int x :: rest) := by by_cases q : x < y; exact WP.icmpN hd ((tlt q).2.1) hp (k2 q); exact WP.icmpY hd ((flt q).2.1) ho hn (k1 q)
theorem WP.if_ge {o' : Int} {x : Int32} (hd : decode bytes pc = .ok (.ifCond .ge o', 3)) (ho : 0 ≤ (pc : Int) + o') (hn : ((pc : Int) + o').toNat = n) (hp : pc + 3 = n') (k1 : ¬ x < (0 : Int32) → WP l Z EL nar own nm ds bytes maxL ret R Q vm h ce sl n Ls rest) (k2 : x < (0 : Int32) → WP l Z EL nar own nm ds bytes maxL ret R Q vm h ce sl n' Ls rest) : WP l Z EL nar own nm ds bytes maxL ret R Q vm h ce sl pc Ls (.int x :: rest) := by by_cases q : x < (0 : Int32); exact WP.ifcN hd ((if0 _ _).trans (tlt q).2.1) hp (k2 q); exact WP.ifcY hd ((if0 _ _).trans (flt q).2.1) ho hn (k1 q)
theorem WP.icmp_gt {o' : Int} {x y : Int32} (hd : decode bytes pc = .ok (.if_icmp .gt o', 3)) (ho : 0 ≤ (pc : Int) + o') (hn : ((pc : Int) + o').toNat = n) (hp : pc + 3 = n') (k1 : y < x → WP l Z EL nar own nm ds bytes maxL ret R Q vm h ce sl n Ls rest) (k2 : ¬ y < x → WP l Z EL nar own nm ds bytes maxL ret R Q vm h ce sl n' Ls rest) : WP l Z EL nar own nm ds bytes maxL ret R Q vm h ce sl pc Ls (.int y :: .int x :: rest) := by by_cases q : y < x; exact WP.icmpY hd ((tlt q).2.2.1) ho hn (k1 q); exact WP.icmpN hd ((flt q).2.2.1) hp (k2 q)
theorem WP.if_gt {o' : Int} {x : Int32} (hd : decode bytes pc = .ok (.ifCond .gt o', 3)) (ho : 0 ≤ (pc : Int) + o') (hn : ((pc : Int) + o').toNat = n) (hp : pc + 3 = n') (k1 : (0 : Int32) < x → WP l Z EL nar own nm ds bytes maxL ret R Q vm h ce sl n Ls rest) (k2 : ¬ (0 : Int32) < x → WP l Z EL nar own nm ds bytes maxL ret R Q vm h ce sl n' Ls rest) : WP l Z EL nar own nm ds bytes maxL ret R Q vm h ce sl pc Ls (.int x :: rest) := by by_cases q : (0 : Int32) < x; exact WP.ifcY hd ((if0 _ _).trans (tlt q).2.2.1) ho hn (k1 q); exact WP.ifcN hd ((if0 _ _).trans (flt q).2.2.1) hp (k2 q)
theorem WP.icmp_le {o' : Int} {x y : Int32} (hd : decode bytes pc = .ok (.if_icmp .le o', 3)) (ho : 0 ≤ (pc : Int) + o') (hn : ((pc : Int) + o').toNat = n) (hp : pc + 3 = n') (k1 : ¬ y < x → WP l Z EL nar own nm ds bytes maxL ret R Q vm h ce sl n Ls rest) (k2 : y < x → WP l Z EL nar own nm ds bytes maxL ret R Q vm h ce sl n' Ls rest) : WP l Z EL nar own nm ds bytes maxL ret R Q vm h ce sl pc Ls (.int y :: .int x :: rest) := by by_cases q : y < x; exact WP.icmpN hd ((tlt q).2.2.2) hp (k2 q); exact WP.icmpY hd ((flt q).2.2.2) ho hn (k1 q)
theorem WP.if_le {o' : Int} {x : Int32} (hd : decode bytes pc = .ok (.ifCond .le o', 3)) (ho : 0 ≤ (pc : Int) + o') (hn : ((pc : Int) + o').toNat = n) (hp : pc + 3 = n') (k1 : ¬ (0 : Int32) < x → WP l Z EL nar own nm ds bytes maxL ret R Q vm h ce sl n Ls rest) (k2 : (0 : Int32) < x → WP l Z EL nar own nm ds bytes maxL ret R Q vm h ce sl n' Ls rest) : WP l Z EL nar own nm ds bytes maxL ret R Q vm h ce sl pc Ls (.int x :: rest) := by by_cases q : (0 : Int32) < x; exact WP.ifcN hd ((if0 _ _).trans (tlt q).2.2.2) hp (k2 q); exact WP.ifcY hd ((if0 _ _).trans (flt q).2.2.2) ho hn (k1 q)
theorem WP.icmp_eq {o' : Int} {x y : Int32} (hd : decode bytes pc = .ok (.if_icmp .eq o', 3)) (ho : 0 ≤ (pc : Int) + o') (hn : ((pc : Int) + o').toNat = n) (hp : pc + 3 = n') (k1 : x = y → WP l Z EL nar own nm ds bytes maxL ret R Q vm h ce sl n Ls rest) (k2 : ¬ x = y → WP l Z EL nar own nm ds bytes maxL ret R Q vm h ce sl n' Ls rest) : WP l Z EL nar own nm ds bytes maxL ret R Q vm h ce sl pc Ls (.int y :: .int x :: rest) := by by_cases q : x = y; exact WP.icmpY hd ((teq q).1) ho hn (k1 q); exact WP.icmpN hd ((feq q).1) hp (k2 q)
theorem WP.if_eq {o' : Int} {x : Int32} (hd : decode bytes pc = .ok (.ifCond .eq o', 3)) (ho : 0 ≤ (pc : Int) + o') (hn : ((pc : Int) + o').toNat = n) (hp : pc + 3 = n') (k1 : x = (0 : Int32) → WP l Z EL nar own nm ds bytes maxL ret R Q vm h ce sl n Ls rest) (k2 : ¬ x = (0 : Int32) → WP l Z EL nar own nm ds bytes maxL ret R Q vm h ce sl n' Ls rest) : WP l Z EL nar own nm ds bytes maxL ret R Q vm h ce sl pc Ls (.int x :: rest) := by by_cases q : x = (0 : Int32); exact WP.ifcY hd ((if0 _ _).trans (teq q).1) ho hn (k1 q); exact WP.ifcN hd ((if0 _ _).trans (feq q).1) hp (k2 q)
theorem WP.icmp_ne {o' : Int} {x y : Int32} (hd : decode bytes pc = .ok (.if_icmp .ne o', 3)) (ho : 0 ≤ (pc : Int) + o') (hn : ((pc : Int) + o').toNat = n) (hp : pc + 3 = n') (k1 : ¬ x = y → WP l Z EL nar own nm ds bytes maxL ret R Q vm h ce sl n Ls rest) (k2 : x = y → WP l Z EL nar own nm ds bytes maxL ret R Q vm h ce sl n' Ls rest) : WP l Z EL nar own nm ds bytes maxL ret R Q vm h ce sl pc Ls (.int y :: .int x :: rest) := by by_cases q : x = y; exact WP.icmpN hd ((teq q).2) hp (k2 q); exact WP.icmpY hd ((feq q).2) ho hn (k1 q)
theorem WP.if_ne {o' : Int} {x : Int32} (hd : decode bytes pc = .ok (.ifCond .ne o', 3)) (ho : 0 ≤ (pc : Int) + o') (hn : ((pc : Int) + o').toNat = n) (hp : pc + 3 = n') (k1 : ¬ x = (0 : Int32) → WP l Z EL nar own nm ds bytes maxL ret R Q vm h ce sl n Ls rest) (k2 : x = (0 : Int32) → WP l Z EL nar own nm ds bytes maxL ret R Q vm h ce sl n' Ls rest) : WP l Z EL nar own nm ds bytes maxL ret R Q vm h ce sl pc Ls (.int x :: rest) := by by_cases q : x = (0 : Int32); exact WP.ifcN hd ((if0 _ _).trans (teq q).2) hp (k2 q); exact WP.ifcY hd ((if0 _ _).trans (feq q).2) ho hn (k1 q)
theorem WP.ifnullY {o' : Int} (hd : decode bytes pc = .ok (.ifnull o', 3)) (ho : 0 ≤ (pc : Int) + o') (hn : ((pc : Int) + o').toNat = n) (k : WP l Z EL nar own nm ds bytes maxL ret R Q vm h ce sl n Ls rest) : WP l Z EL nar own nm ds bytes maxL ret R Q vm h ce sl pc Ls (.null :: rest) := WP.step (fun p e below T t m c hx hb ha q => XS.ifnullYes ha hx rfl (pc0 := pc) rfl (hb ▸ hd) rfl ho hn q) k
theorem WP.ifnullN {o' : Int} {b : Addr} (hd : decode bytes pc = .ok (.ifnull o', 3)) (hp : pc + 3 = n') (k : WP l Z EL nar own nm ds bytes maxL ret R Q vm h ce sl n' Ls rest) : WP l Z EL nar own nm ds bytes maxL ret R Q vm h ce sl pc Ls (.ref b :: rest) := by subst hp; exact WP.step (fun p e below T t m c hx hb ha q => XS.ifnullNo ha hx rfl (hb ▸ hd) rfl q) k
theorem WP.ifnonnullY {o' : Int} {b : Addr} (hd : decode bytes pc = .ok (.ifnonnull o', 3)) (ho : 0 ≤ (pc : Int) + o') (hn : ((pc : Int) + o').toNat = n) (k : WP l Z EL nar own nm ds bytes maxL ret R Q vm h ce sl n Ls rest) : WP l Z EL nar own nm ds bytes maxL ret R Q vm h ce sl pc Ls (.ref b :: rest) := WP.step (fun p e below T t m c hx hb ha q => XT.ifnonnullYes ha hx rfl (pc0 := pc) rfl (hb ▸ hd) rfl ho hn q) k
theorem WP.ifnonnullN {o' : Int} (hd : decode bytes pc = .ok (.ifnonnull o', 3)) (hp : pc + 3 = n') (k : WP l Z EL nar own nm ds bytes maxL ret R Q vm h ce sl n' Ls rest) : WP l Z EL nar own nm ds bytes maxL ret R Q vm h ce sl pc Ls (.null :: rest) := by subst hp; exact WP.step (fun p e below T t m c hx hb ha q => XT.ifnonnullNo ha hx rfl (hb ▸ hd) rfl q) k
theorem WP.acmpY {cd : ACond} {o' : Int} {x y : Value} (hd : decode bytes pc = .ok (.if_acmp cd o', 3)) (hx' : x.isRef = true) (hy' : y.isRef = true) (hc : XT.acmp cd x y = true) (ho : 0 ≤ (pc : Int) + o') (hn : ((pc : Int) + o').toNat = n) (k : WP l Z EL nar own nm ds bytes maxL ret R Q vm h ce sl n Ls rest) : WP l Z EL nar own nm ds bytes maxL ret R Q vm h ce sl pc Ls (y :: x :: rest) := WP.step (fun p e below T t m c hx hb ha q => XT.acmpYes ha hx rfl (pc0 := pc) rfl (hb ▸ hd) rfl hx' hy' hc ho hn q) k
theorem WP.acmpN {cd : ACond} {o' : Int} {x y : Value} (hd : decode bytes pc = .ok (.if_acmp cd o', 3)) (hx' : x.isRef = true) (hy' : y.isRef = true) (hc : XT.acmp cd x y = false) (hp : pc + 3 = n') (k : WP l Z EL nar own nm ds bytes maxL ret R Q vm h ce sl n' Ls rest) : WP l Z EL nar own nm ds bytes maxL ret R Q vm h ce sl pc Ls (y :: x :: rest) := by subst hp; exact WP.step (fun p e below T t m c hx hb ha q => XT.acmpNo ha hx rfl (hb ▸ hd) rfl hx' hy' hc q) k
theorem WP.getF {R0 O nf d host : String} {index : Nat} {a : Addr} {v : Value} (hd : decode bytes pc = .ok (.getfield index, 3)) (w : (Cond.fieldLink own index R0 nf d).before a0 Z = true ∨ (Cond.fieldLinkNest own index R0 nf d host).before a0 Z = true) (via : Via Z R0 O nf d) (F : Fld Z h a O nf d v) (hp : pc + 3 = n) (k : WP l Z EL nar own nm ds bytes maxL ret R Q vm h ce sl n Ls (v :: rest)) : WP l Z EL nar own nm ds bytes maxL ret R Q vm h ce sl pc Ls (.ref a :: rest) := by
  subst hp
  refine WP.look (fun p e s args below T m meth c L hx hb X hZ hown eT => ?_) k
  exact getF X hx hZ hown w via eT F (g := mkF m pc Ls (.ref a :: rest)) rfl rfl (hb ▸ hd)
theorem WP.getS {R0 O nf d : String} {index : Nat} {v : Value} (hd : decode bytes pc = .ok (.getstatic index, 3)) (w : (Cond.fieldLink own index R0 nf d).before a0 Z = true) (via : Via Z R0 O nf d) (F : Sta Z h O nf d v) (hp : pc + 3 = n) (k : WP l Z EL nar own nm ds bytes maxL ret R Q vm h ce sl n Ls (v :: st)) : WP l Z EL nar own nm ds bytes maxL ret R Q vm h ce sl pc Ls st := by
  subst hp
  refine WP.look (fun p e s args below T m meth c L hx hb X hZ hown eT => ?_) k
  exact getS (host := "") X hx hZ hown w via eT F (g := mkF m pc Ls st) rfl (hb ▸ hd)
theorem WP.getSZ {R0 O nf d : String} {index : Nat} {v : Value} (hd : decode bytes pc = .ok (.getstatic index, 3)) (w : (Cond.fieldLink own index R0 nf d).before a0 Z = true) (via : Via Z R0 O nf d) (F : Sta Z Z.heap O nf d v) (hp : pc + 3 = n) (k : WP l Z EL nar own nm ds bytes maxL ret R Q vm h ce sl n Ls (v :: st)) : WP l Z EL nar own nm ds bytes maxL ret R Q vm h ce sl pc Ls st :=
  WP.inv fun _ E _ => WP.getS hd w via (F.ext E) hp k
theorem WP.new {C : String} {index nn : Nat} {ce' sl' : Nat} (hd : decode bytes pc = .ok (.new index, 3)) (w : (Cond.classLink own index C).before a0 Z = true) (wi : (Cond.instantiable C nn).before a0 Z = true) (wz : (Cond.initialized C).before a0 Z = true) (hce : ce + 1 = ce') (hsl : sl + nn = sl') (hc : ce' ≤ R.cells) (hl : sl' ≤ R.slots) (hp : pc + 3 = n)
    (k : ∀ a h', a = h.size → Ext h h' → Exa Z h' a C → (∀ {O f d : String} {ty : FieldType}, Laid Z a0 C O f d → parseFieldDescriptor d = some ty → Fld Z h' a O f d (defaultValue ty)) → Safe Z EL vm h' a → Z.heap.size ≤ a → CHr Z EL vm h vm h' → WP l Z EL nar own nm ds bytes maxL ret R Q vm h' ce' sl' n Ls (.ref a :: st)) : WP l Z EL nar own nm ds bytes maxL ret R Q vm h ce sl pc Ls st := by
  subst hp hce hsl
  refine WP.inv fun _ hE hH => WP.make (P := fun h' => Exa Z h' h.size C ∧ ∀ {O f d : String} {ty : FieldType}, Laid Z a0 C O f d → parseFieldDescriptor d = some ty → Fld Z h' h.size O f d (defaultValue ty)) (fun p e s args below T m meth c L hx hb X hZ hown eT => ?_) fun h' E p hr => k _ h' rfl E p.1 p.2 (Safe.ext E hH (Safe.new (Nat.le_refl _))) hE.1 hr
  obtain ⟨T', h', X', e', E', A', D', -, stp⟩ := newO X hx hZ hown w wi wz eT (g := mkF m pc Ls st) rfl (hb ▸ hd) hc hl
  exact ⟨T', h', X', e', E', ⟨A', D'⟩, stp⟩
theorem WP.putF {R0 O nf d host C : String} {index kk : Nat} {ty : FieldType} {a : Addr} {v old : Value} (hd : decode bytes pc = .ok (.putfield index, 3)) (w : (Cond.fieldLink own index R0 nf d).before a0 Z = true ∨ (Cond.fieldLinkNest own index R0 nf d host).before a0 Z = true) (via : Via Z R0 O nf d) (F : Fld Z h a O nf d old) (E : Exa Z h a C)
    (L' : (Cond.lays C O nf d).before a0 Z = true ∨ ((Cond.laysFinal C O nf d).before a0 Z = true ∧ own = O ∧ nm = "<init>")) (wi : (Cond.instantiable C kk).before a0 Z = true) (hty : parseFieldDescriptor d = some ty) (hn : narrow ty v = v) (hf : fits ty v = true) (ha : Z.heap.size ≤ a) (S : Safe Z EL vm h a) (hp : pc + 3 = n)
    (k : ∀ h', Wr h h' a (Jvm.RoadKit.slotOf Z O nf d) v → CHr Z EL vm h vm h' → WP l Z EL nar own nm ds bytes maxL ret R Q vm h' ce sl n Ls rest) : WP l Z EL nar own nm ds bytes maxL ret R Q vm h ce sl pc Ls (v :: .ref a :: rest) := by
  subst hp
  refine WP.write ha (fun _ => S) (fun p e s args below T m meth c L hx hb hnm X hZ hown eT => ?_) k
  exact putF X hx hZ hown w via eT F E (L'.imp id fun q => ⟨q.1, q.2.1, hnm.trans q.2.2⟩) wi hty hn hf (g := mkF m pc Ls (v :: .ref a :: rest)) rfl rfl (hb ▸ hd)
theorem WP.putFE {R0 O nf d host C : String} {index kk : Nat} {ty : FieldType} {a : Addr} {v old : Value} (hd : decode bytes pc = .ok (.putfield index, 3)) (w : (Cond.fieldLink own index R0 nf d).before a0 Z = true ∨ (Cond.fieldLinkNest own index R0 nf d host).before a0 Z = true) (via : Via Z R0 O nf d) (F : Fld Z h a O nf d old) (E : Exa Z h a C)
    (L' : (Cond.lays C O nf d).before a0 Z = true ∨ ((Cond.laysFinal C O nf d).before a0 Z = true ∧ own = O ∧ nm = "<init>")) (wi : (Cond.instantiable C kk).before a0 Z = true) (hty : parseFieldDescriptor d = some ty) (hn : narrow ty v = v) (hf : fits ty v = true) (ha : Z.heap.size ≤ a) (hC : C ≠ "java/lang/String" ∧ C ≠ "[B") (hp : pc + 3 = n)
    (k : ∀ h', Wr h h' a (Jvm.RoadKit.slotOf Z O nf d) v → CHr Z EL vm h vm h' → WP l Z EL nar own nm ds bytes maxL ret R Q vm h' ce sl n Ls rest) : WP l Z EL nar own nm ds bytes maxL ret R Q vm h ce sl pc Ls (v :: .ref a :: rest) :=
  WP.inv fun hZ _ _ => WP.putF hd w via F E L' wi hty hn hf ha (Safe.exa hZ.alike E hC.1 hC.2) hp k
theorem WP.newP {aty : ArrayType} {x : Int32} {cap ce' sl' : Nat} {ty : FieldType} (hd : decode bytes pc = .ok (.newarray aty, 2)) (w : (Cond.arrayClass ty).before a0 Z = true) (hty : newarray.typeOf aty = ty) (hx0 : ¬ x < 0) (hcap : x.toNatClampNeg ≤ cap) (hbig : cap * 8 ≤ 536870912) (hce : ce + 1 = ce') (hsl : sl + cap = sl') (hc : ce' ≤ R.cells) (hl : sl' ≤ R.slots) (hp : pc + 2 = n)
    (k : ∀ a h' cA, a = h.size → Ext h h' → Arv Z h' a cA ty x [] (defaultValue ty) → Safe Z EL vm h' a → Z.heap.size ≤ a → CHr Z EL vm h vm h' → WP l Z EL nar own nm ds bytes maxL ret R Q vm h' ce' sl' n Ls (.ref a :: rest)) : WP l Z EL nar own nm ds bytes maxL ret R Q vm h ce sl pc Ls (.int x :: rest) := by
  subst hp hce hsl hty
  refine WP.inv fun _ hE hH => WP.make (P := fun h' => ∃ cA, Arv Z h' h.size cA (newarray.typeOf aty) x [] (defaultValue (newarray.typeOf aty))) (fun p e s args below T m meth c L hx hb X hZ hown eT => ?_) fun h' E p hr => by
    obtain ⟨cA, A⟩ := p
    exact k _ h' cA rfl E A (Safe.ext E hH (Safe.new (Nat.le_refl _))) hE.1 hr
  obtain ⟨T', h', cA, X', e', E', A', stp⟩ := newP X hx hZ w eT (g := mkF m pc Ls (.int x :: rest)) rfl (hb ▸ hd) rfl hx0 hcap hbig hc hl
  exact ⟨T', h', X', e', E', ⟨cA, Arv.new A' hx0⟩, stp⟩
theorem WP.stC {a : Addr} {cA : ClassId} {z j x y : Int32} {vs : List Value} {d : Value} {i : Nat} (hd : decode bytes pc = .ok (.castore, 1)) (A : Arv Z h a cA .char z vs d) (hj : ¬ j < 0 ∧ j < z) (hi : j.toNatClampNeg = i) (hlen : i < vs.length) (hy : Jvm.RoadKit.nar .char x = y) (ha : Z.heap.size ≤ a) (S : Safe Z EL vm h a) (hp : pc + 1 = n)
    (k : ∀ h', Wr h h' a j.toNatClampNeg (.int y) → Arv Z h' a cA .char z (vs.set i (.int y)) d → CHr Z EL vm h vm h' → WP l Z EL nar own nm ds bytes maxL ret R Q vm h' ce sl n Ls rest) : WP l Z EL nar own nm ds bytes maxL ret R Q vm h ce sl pc Ls (.int x :: .int j :: .ref a :: rest) := by
  subst hp hy
  obtain ⟨cl, A1, q1, S1, M1, H1, G1⟩ := A
  refine WP.write ha (fun _ => S) (fun p e s args below T m meth c L hx hb hnm X hZ hown eT => ?_) fun h' W r => k h' W (Arv.set A1 q1 S1 M1 H1 G1 (fits_nar_char _) W i hi hlen) r
  exact stC X hx hZ eT A1 (inb_of S1 hj) (g := mkF m pc Ls (.int x :: .int j :: .ref a :: rest)) rfl rfl (hb ▸ hd)
theorem WP.stB {a : Addr} {cA : ClassId} {z j x y : Int32} {vs : List Value} {d : Value} {i : Nat} (hd : decode bytes pc = .ok (.bastore, 1)) (A : Arv Z h a cA .byte z vs d) (hj : ¬ j < 0 ∧ j < z) (hi : j.toNatClampNeg = i) (hlen : i < vs.length) (hy : Jvm.RoadKit.nar .byte x = y) (ha : Z.heap.size ≤ a) (S : Safe Z EL vm h a) (hp : pc + 1 = n)
    (k : ∀ h', Wr h h' a j.toNatClampNeg (.int y) → Arv Z h' a cA .byte z (vs.set i (.int y)) d → CHr Z EL vm h vm h' → WP l Z EL nar own nm ds bytes maxL ret R Q vm h' ce sl n Ls rest) : WP l Z EL nar own nm ds bytes maxL ret R Q vm h ce sl pc Ls (.int x :: .int j :: .ref a :: rest) := by
  subst hp hy
  obtain ⟨cl, A1, q1, S1, M1, H1, G1⟩ := A
  refine WP.write ha (fun _ => S) (fun p e s args below T m meth c L hx hb hnm X hZ hown eT => ?_) fun h' W r => k h' W (Arv.set A1 q1 S1 M1 H1 G1 (fits_nar_byte _) W i hi hlen) r
  exact stB X hx hZ eT A1 (inb_of S1 hj) (g := mkF m pc Ls (.int x :: .int j :: .ref a :: rest)) rfl rfl (hb ▸ hd)
theorem WP.alen {ty : FieldType} {a : Addr} {cA : ClassId} {z : Int32} {vs : List Value} {d : Value} (hd : decode bytes pc = .ok (.arraylength, 1)) (A : Arv Z h a cA ty z vs d) (hp : pc + 1 = n) (k : WP l Z EL nar own nm ds bytes maxL ret R Q vm h ce sl n Ls (.int z :: rest)) : WP l Z EL nar own nm ds bytes maxL ret R Q vm h ce sl pc Ls (.ref a :: rest) := by
  subst hp
  obtain ⟨cl, A1, -, hz, hz0, -⟩ := A
  refine WP.look (Ls' := Ls) (fun p e s args below T m meth c L hx hb X hZ hown eT => ⟨T, X, eT, fun target q => ?_⟩) k
  refine X.arraylength hx (cell := cl) (by rw [eT]; exact A1.1) (State.isArrayOf_alike hZ.alike A1.2.1) (g := mkF m pc Ls (.ref a :: rest)) rfl rfl (hb ▸ hd) _ ?_
  rw [len_of hz hz0]
  exact q
theorem WP.initO {idx : Nat} {a : Addr} {Wd : Nat} (hd : decode bytes pc = .ok (.invokespecial idx, 3)) (w1 : (Cond.methodLink own idx Lib.objectInit).before a0 Z = true) (w2 : (Cond.instanceMethod Lib.objectInit).before a0 Z = true) (w3 : (Cond.code Lib.objectInit ⟨#[0xb1]⟩ 1 none).before a0 Z = true) (hsize : Ls.size = maxL) (hf : 1 ≤ R.frames) (hW : (rest.map fun v => v.category).sum ≤ Wd) (hl : Wd + 12 ≤ R.locals) (hp : pc + 3 = n)
    (k : WP l Z EL nar own nm ds bytes maxL ret R Q vm h ce sl n Ls rest) : WP l Z EL nar own nm ds bytes maxL ret R Q vm h ce sl pc Ls (.ref a :: rest) := by
  subst hp
  intro p e s m args below meth c T L cx ⟨X, hS, hZ, hown, eT, N, hE, hC, hW', hEL⟩
  obtain ⟨T', X', e', stp⟩ := initO X cx.1 hZ hown w1 w2 w3 eT (g := mkF m pc Ls (.ref a :: rest)) rfl (by rw [cx.2.2.1]; exact hsize) rfl (cx.2.1 ▸ hd) hf (W := Wd) (by show 2 * 0 + _ ≤ _; omega) hl
  obtain ⟨t, o, h1, r⟩ := k p e s m args below meth c T' L cx ⟨X', hS, hZ, hown, e', N, hE, hC, hW', hEL⟩
  exact ⟨t, o, stp _ h1, r⟩
theorem WP.retV (hd : decode bytes pc = .ok (.return_, 1)) (hr : ret = none) (hc : ce ≤ R.cells) (hsl : sl ≤ R.slots) (hq : Q none h) : WP l Z EL nar own nm ds bytes maxL ret R Q vm h ce sl pc Ls [] :=
  WP.done (v := none) hc hsl (fun _ => rfl) (fun p e s args below T m meth c L fs hx hb hret X hl => X.returnOut hx (hret.trans hr) (hb ▸ hd) hl) hq
theorem WP.retI {x : Int32} (hd : decode bytes pc = .ok (.ireturn, 1)) (hr : ret = some .int) (hc : ce ≤ R.cells) (hsl : sl ≤ R.slots) (hq : Q (some (.int x)) h) : WP l Z EL nar own nm ds bytes maxL ret R Q vm h ce sl pc Ls (.int x :: rest) :=
  WP.done (v := some (.int x)) hc hsl (fun q => by rw [hr] at q; cases q) (fun p e s args below T m meth c L fs hx hb hret X hl => retOut X hx (t := .int) (hret.trans hr) rfl (Or.inl ⟨rfl, Or.inl rfl, x, rfl⟩) (hb ▸ hd) hl) hq
theorem WP.retN {t : FieldType} {x z : Int32} (hd : decode bytes pc = .ok (.ireturn, 1)) (hr : ret = some t) (ht : t = .boolean ∨ t = .byte ∨ t = .char ∨ t = .short) (hz : Jvm.RoadKit.nar t x = z) (hc : ce ≤ R.cells) (hsl : sl ≤ R.slots) (hq : Q (some (.int z)) h) : WP l Z EL nar own nm ds bytes maxL ret R Q vm h ce sl pc Ls (.int x :: rest) := by
  subst hz
  exact WP.done (v := some (.int (Jvm.RoadKit.nar t x))) hc hsl (fun q => by rw [hr] at q; cases q) (fun p e s args below T m meth c L fs hx hb hret X hl => Jvm.RoadKit.retN X hx (hret.trans hr) ht (hb ▸ hd) hl) hq
theorem WP.retA {t : FieldType} {v : Value} (hd : decode bytes pc = .ok (.areturn, 1)) (hr : ret = some t) (ht : t.isReference = true) (hv : v.isRef = true) (hn : narrow t v = v) (hc : ce ≤ R.cells) (hsl : sl ≤ R.slots) (hq : Q (some v) h) : WP l Z EL nar own nm ds bytes maxL ret R Q vm h ce sl pc Ls (v :: rest) :=
  WP.done (v := some v) hc hsl (fun q => by rw [hr] at q; cases q) (fun p e s args below T m meth c L fs hx hb hret X hl => retOut X hx (t := t) (hret.trans hr) hn (Or.inr (Or.inr (Or.inr (Or.inr ⟨rfl, ht, hv⟩)))) (hb ▸ hd) hl) hq
theorem WP.callS {sf : List Addr} {y : MethodName} {yb : ByteArray} {yl : Nat} {yr : Option FieldType} {rm : Room} {as' : Array Value} {Qy : Option Value → Heap → Prop} {index Wd ce' sl' : Nat} (C : Con l Z EL nar sf y yb yl yr rm as' h Qy) (hd : decode bytes pc = .ok (.invokestatic index, 3)) (w1 : (Cond.methodLink own index y).before a0 Z = true) (w2 : (Cond.static y).before a0 Z = true) (wz : (Cond.initialized y.cls).before a0 Z = true) (wc : (Cond.code y yb yl yr).before a0 Z = true) (hy : y.cls ≠ "java/lang/invoke/MethodHandle" ∧ y.cls ≠ "java/lang/invoke/VarHandle") (hsf : ∀ x ∈ sf, Safe Z EL vm h x ∧ x < h.size) (hf : rm.frames + 1 ≤ R.frames) (hl : Wd + (yl + 11) + rm.locals ≤ R.locals) (hce : ce + rm.cells = ce') (hsl : sl + rm.slots = sl') (hc : ce' ≤ R.cells) (hs : sl' ≤ R.slots) (hsize : Ls.size = maxL) {argsL : List Value} (hargs : argsL.toArray = as') (hlen : ∀ sig, parseMethodDescriptor y.desc = some sig → argsL.length = sig.parameters.length) (hst : st = argsL.reverse ++ rest) (hWd : (rest.map fun v => v.category).sum ≤ Wd) (hp : pc + 3 = n)
    (k : ∀ v vm' h', Qy v h' → CHr Z EL vm h vm' h' → WP l Z EL nar own nm ds bytes maxL ret R Q vm' h' ce' sl' n Ls (v.toList ++ rest)) : WP l Z EL nar own nm ds bytes maxL ret R Q vm h ce sl pc Ls st := by
  subst hp hce hsl
  intro p e s m args below meth c T L cx ⟨X, ⟨k0, hS, hk⟩, hZ, hown, eT, N, hE, hC, hW', a1, hEL⟩
  have hB := C.back (R := R) (p := p) (e := e) (below := below) (s := s) (args := args) (len := 3) (Wd := Wd) hEL hZ wc wz hf hl hE hC.1 hsf
  obtain ⟨v, vm₁, ⟨U, L', ke, ks⟩, hw1, X', hS', hg', ⟨Lq, q1, q2, q3, q4, q5, q6, q7, q8⟩, stp⟩ := callSS X cx.1 hown (mvT (s := s.setVm vm) hZ w1) (mvT (s := s.setVm vm) hZ w2) (mvT (s := s.setVm vm) hZ wz) (mvT (s := s.setVm vm) hZ wc) hy hB (g := mkF m pc Ls st) rfl (by rw [cx.2.2.1]; exact hsize) (argsL := argsL) (rest := rest) hlen hst (by show 2 * 0 + _ ≤ _; omega) (cx.2.1 ▸ hd) (fun _ _ => ⟨hargs, eT, hc, hs⟩)
  dsimp only [Pt.U, Pt.locs, Pt.cells, Pt.slots] at X' hS' hg' q1 q2 q4 q5 q6 q7 q8 stp
  subst q4 q5 q6
  obtain ⟨t, o, h1, r⟩ := k v U.vm U.heap q1 q7 p e s m args below meth c U _ cx ⟨X', ⟨_, hS.trans hS' (Nat.le_trans hk (by rw [← eT]; exact hg')), Nat.le_refl _⟩, State.Warmed39.trans (t := s.setVm vm) hZ hS'.1, (hS'.1.alike.findClass _ _).trans hown, rfl, Fr.app N q3, q2, hC.trans q7, fun q => State.WarmedH.trans (t := s.setVm vm) (hW' q) (q8 q), a1, hEL⟩
  exact ⟨t, o, stp.trans h1, r⟩
theorem WP.callP {sf : List Addr} {y : MethodName} {yb : ByteArray} {yl : Nat} {rm : Room} {as' : Array Value} {Qy : Option Value → Heap → Prop} {index Wd ce' sl' : Nat} (C : Con l Z EL nar sf y yb yl none rm as' h Qy) (hd : decode bytes pc = .ok (.invokespecial index, 3)) (hy1 : y.name = "<init>") (w1 : (Cond.methodLink own index y).before a0 Z = true) (w2 : (Cond.instanceMethod y).before a0 Z = true) (wz : (Cond.initialized y.cls).before a0 Z = true) (wc : (Cond.code y yb yl none).before a0 Z = true) (hy : y.cls ≠ "java/lang/invoke/MethodHandle" ∧ y.cls ≠ "java/lang/invoke/VarHandle") (hsf : ∀ x ∈ sf, Safe Z EL vm h x ∧ x < h.size) (hf : rm.frames + 1 ≤ R.frames) (hl : Wd + (yl + 11) + rm.locals ≤ R.locals) (hce : ce + rm.cells = ce') (hsl : sl + rm.slots = sl') (hc : ce' ≤ R.cells) (hs : sl' ≤ R.slots) (hsize : Ls.size = maxL) {a : Addr} {argsL : List Value} (hargs : (Value.ref a :: argsL).toArray = as') (hlen : ∀ sig, parseMethodDescriptor y.desc = some sig → argsL.length = sig.parameters.length) (hst : st = argsL.reverse ++ .ref a :: rest) (hWd : (rest.map fun v => v.category).sum ≤ Wd) (hp : pc + 3 = n)
    (k : ∀ v vm' h', Qy v h' → CHr Z EL vm h vm' h' → WP l Z EL nar own nm ds bytes maxL ret R Q vm' h' ce' sl' n Ls (v.toList ++ rest)) : WP l Z EL nar own nm ds bytes maxL ret R Q vm h ce sl pc Ls st := by
  subst hp hce hsl
  intro p e s m args below meth c T L cx ⟨X, ⟨k0, hS, hk⟩, hZ, hown, eT, N, hE, hC, hW', a1, hEL⟩
  have hB := C.back (R := R) (p := p) (e := e) (below := below) (s := s) (args := args) (len := 3) (Wd := Wd) hEL hZ wc wz hf hl hE hC.1 hsf
  obtain ⟨v, vm₁, ⟨U, L', ke, ks⟩, hw1, X', hS', hg', ⟨Lq, q1, q2, q3, q4, q5, q6, q7, q8⟩, stp⟩ := X.specialBackS cx.1 hy1 hown (mvT (s := s.setVm vm) hZ w1) (mvT (s := s.setVm vm) hZ w2) (mvT (s := s.setVm vm) hZ wc) hy hB (g := mkF m pc Ls st) rfl (by rw [cx.2.2.1]; exact hsize) (Steps.refl _) (a := a) (argsL := argsL) (rest := rest) hlen hst (by show 2 * 0 + _ ≤ _; omega) (cx.2.1 ▸ hd) (fun _ _ => ⟨hargs, eT, hc, hs⟩)
  dsimp only [Pt.U, Pt.locs, Pt.cells, Pt.slots] at X' hS' hg' q1 q2 q4 q5 q6 q7 q8 stp
  subst q4 q5 q6
  obtain ⟨t, o, h1, r⟩ := k v U.vm U.heap q1 q7 p e s m args below meth c U _ cx ⟨X', ⟨_, hS.trans hS' (Nat.le_trans hk (by rw [← eT]; exact hg')), Nat.le_refl _⟩, State.Warmed39.trans (t := s.setVm vm) hZ hS'.1, (hS'.1.alike.findClass _ _).trans hown, rfl, Fr.app N q3, q2, hC.trans q7, fun q => State.WarmedH.trans (t := s.setVm vm) (hW' q) (q8 q), a1, hEL⟩
  exact ⟨t, o, stp.trans h1, r⟩
theorem WP.callV {sf : List Addr} {y : MethodName} {yb : ByteArray} {yl : Nat} {yr : Option FieldType} {rm : Room} {as' : Array Value} {Qy : Option Value → Heap → Prop} {index Wd ce' sl' : Nat} {x : MethodName} {Cn : String} {a : Addr} (C : Con l Z EL nar sf y yb yl yr rm as' h Qy) (E : Exa Z h a Cn) (hd : decode bytes pc = .ok (.invokevirtual index, 3)) (w1 : (Cond.methodLink own index x).before a0 Z = true) (w2 : (Cond.declares x).before a0 Z = true) (w3 : (Cond.selects Cn x y).before a0 Z = true) (w4 : (Cond.instanceMethod y).before a0 Z = true) (wz : (Cond.initialized y.cls).before a0 Z = true) (wc : (Cond.code y yb yl yr).before a0 Z = true) (hy : x.cls ≠ "java/lang/invoke/MethodHandle" ∧ x.cls ≠ "java/lang/invoke/VarHandle") (hnf : ∀ s : State, Z.Warmed39 s.vm → NotFace s x) (hsf : ∀ x ∈ sf, Safe Z EL vm h x ∧ x < h.size) (hf : rm.frames + 1 ≤ R.frames) (hl : Wd + (yl + 11) + rm.locals ≤ R.locals) (hce : ce + rm.cells = ce') (hsl : sl + rm.slots = sl') (hc : ce' ≤ R.cells) (hs : sl' ≤ R.slots) (hsize : Ls.size = maxL) {argsL : List Value} (hargs : (Value.ref a :: argsL).toArray = as') (hlen : ∀ sig, parseMethodDescriptor x.desc = some sig → argsL.length = sig.parameters.length) (hst : st = argsL.reverse ++ .ref a :: rest) (hWd : (rest.map fun v => v.category).sum ≤ Wd) (hp : pc + 3 = n)
    (k : ∀ v vm' h', Qy v h' → CHr Z EL vm h vm' h' → WP l Z EL nar own nm ds bytes maxL ret R Q vm' h' ce' sl' n Ls (v.toList ++ rest)) : WP l Z EL nar own nm ds bytes maxL ret R Q vm h ce sl pc Ls st := by
  subst hp hce hsl
  intro p e s m args below meth c T L cx ⟨X, ⟨k0, hS, hk⟩, hZ, hown, eT, N, hE, hC, hW', a1, hEL⟩
  have hB := C.back (R := R) (p := p) (e := e) (below := below) (s := s) (args := args) (len := 3) (Wd := Wd) hEL hZ wc wz hf hl hE hC.1 hsf
  obtain ⟨cq, kq, qa, qb, qc⟩ := isOf (s := s.setVm vm) hZ eT E
  obtain ⟨v, vm₁, ⟨U, L', ke, ks⟩, hw1, X', hS', hg', ⟨Lq, q1, q2, q3, q4, q5, q6, q7, q8⟩, stp⟩ := X.virtualBackS cx.1 hown (mvT (s := s.setVm vm) hZ w1) (mvT (s := s.setVm vm) hZ w2) (hnf _ hZ) (mvT (s := s.setVm vm) hZ w3) (mvT (s := s.setVm vm) hZ w4) hy hB qa qc (g := mkF m pc Ls st) rfl (by rw [cx.2.2.1]; exact hsize) (Steps.refl _) (argsL := argsL) (rest := rest) hlen hst (by show 2 * 0 + _ ≤ _; omega) (cx.2.1 ▸ hd) (fun _ _ => ⟨hargs, eT, hc, hs⟩)
  dsimp only [Pt.U, Pt.locs, Pt.cells, Pt.slots] at X' hS' hg' q1 q2 q4 q5 q6 q7 q8 stp
  subst q4 q5 q6
  obtain ⟨t, o, h1, r⟩ := k v U.vm U.heap q1 q7 p e s m args below meth c U _ cx ⟨X', ⟨_, hS.trans hS' (Nat.le_trans hk (by rw [← eT]; exact hg')), Nat.le_refl _⟩, State.Warmed39.trans (t := s.setVm vm) hZ hS'.1, (hS'.1.alike.findClass _ _).trans hown, rfl, Fr.app N q3, q2, hC.trans q7, fun q => State.WarmedH.trans (t := s.setVm vm) (hW' q) (q8 q), a1, hEL⟩
  exact ⟨t, o, stp.trans h1, r⟩
theorem WP.backP {y : MethodName} {as' : Array Value} {Qy : Option Value → Heap → List Loc → Prop} {index Wd kc ks ce' sl' : Nat} {yb : ByteArray} {yl : Nat} (hK : ∀ (p : Program) (e : Env) (below : List Frame) (s : State) (args : Array Value), Z.Warmed39 (s.setVm vm).vm → Back l R p e below (s.setVm vm) args y 3 Wd (fun A a => a = as' ∧ A.U.heap = h ∧ A.cells + kc ≤ R.cells ∧ A.slots + ks ≤ R.slots) (fun A _ v B => ∃ L, Qy v B.U.heap L ∧ B.locs = A.locs ++ L ∧ B.cells = A.cells + kc ∧ B.slots = A.slots + ks)) (hq : ∀ v h' L, Qy v h' L → Fr Z.heap.size L ∧ Ext Z.heap h' ∧ CHr Z EL vm h vm h') (hd : decode bytes pc = .ok (.invokespecial index, 3)) (hy1 : y.name = "<init>") (w1 : (Cond.methodLink own index y).before a0 Z = true) (w2 : (Cond.instanceMethod y).before a0 Z = true) (wc : (Cond.code y yb yl none).before a0 Z = true) (hy : y.cls ≠ "java/lang/invoke/MethodHandle" ∧ y.cls ≠ "java/lang/invoke/VarHandle") (hce : ce + kc = ce') (hsl : sl + ks = sl') (hc : ce' ≤ R.cells) (hs : sl' ≤ R.slots) (hsize : Ls.size = maxL) {a : Addr} {argsL : List Value} (hargs : (Value.ref a :: argsL).toArray = as') (hlen : ∀ sig, parseMethodDescriptor y.desc = some sig → argsL.length = sig.parameters.length) (hst : st = argsL.reverse ++ .ref a :: rest) (hWd : (rest.map fun v => v.category).sum ≤ Wd) (hp : pc + 3 = n)
    (k : ∀ v h' L, Qy v h' L → CHr Z EL vm h vm h' → WP l Z EL nar own nm ds bytes maxL ret R Q vm h' ce' sl' n Ls (v.toList ++ rest)) : WP l Z EL nar own nm ds bytes maxL ret R Q vm h ce sl pc Ls st := by
  subst hp hce hsl
  intro p e s m args below meth c T L cx ⟨X, ⟨k0, hS, hk⟩, hZ, hown, eT, N, hE, hC, hW', a1, hEL⟩
  obtain ⟨v, vm₁, ⟨U, L', ke, ks'⟩, hw1, X', ⟨Lq, q1, q4, q5, q6⟩, stp⟩ := X.specialBack cx.1 hy1 hown (mvT (s := s.setVm vm) hZ w1) (mvT (s := s.setVm vm) hZ w2) (mvT (s := s.setVm vm) hZ wc) hy (hK p e below s args hZ) (g := mkF m pc Ls st) rfl (by rw [cx.2.2.1]; exact hsize) (Steps.refl _) (a := a) (argsL := argsL) (rest := rest) hlen hst (by show 2 * 0 + _ ≤ _; omega) (cx.2.1 ▸ hd) (fun _ _ => ⟨hargs, eT, hc, hs⟩)
  dsimp only [Pt.U, Pt.locs, Pt.cells, Pt.slots] at X' q1 q4 q5 q6 stp
  subst q4 q5 q6
  obtain ⟨r1, r2, r3⟩ := hq _ _ _ q1
  obtain ⟨t, o, h1, r⟩ := k v U.heap Lq q1 r3 p e s m args below meth c U _ cx ⟨X', ⟨k0, hS, Nat.le_trans hk r3.2.1⟩, hZ, hown, rfl, Fr.app N r1, r2, hC.trans r3, hW', a1, hEL⟩
  exact ⟨t, o, stp.trans h1, r⟩
theorem WP.backV {y : MethodName} {as' : Array Value} {Qy : Option Value → Heap → List Loc → Prop} {index Wd kc ks ce' sl' : Nat} {x : MethodName} {Cn : String} {a : Addr} (hK : ∀ (p : Program) (e : Env) (below : List Frame) (s : State) (args : Array Value), Z.Warmed39 (s.setVm vm).vm → Back l R p e below (s.setVm vm) args y 3 Wd (fun A a => a = as' ∧ A.U.heap = h ∧ A.cells + kc ≤ R.cells ∧ A.slots + ks ≤ R.slots) (fun A _ v B => ∃ L, Qy v B.U.heap L ∧ B.locs = A.locs ++ L ∧ B.cells = A.cells + kc ∧ B.slots = A.slots + ks)) (hq : ∀ v h' L, Qy v h' L → Fr Z.heap.size L ∧ Ext Z.heap h' ∧ CHr Z EL vm h vm h') (E : Exa Z h a Cn) (hd : decode bytes pc = .ok (.invokevirtual index, 3)) (w1 : (Cond.methodLink own index x).before a0 Z = true) (w2 : (Cond.declares x).before a0 Z = true) (w3 : (Cond.selects Cn x y).before a0 Z = true) (w4 : (Cond.instanceMethod y).before a0 Z = true) (hy : x.cls ≠ "java/lang/invoke/MethodHandle" ∧ x.cls ≠ "java/lang/invoke/VarHandle") (hnf : ∀ s : State, Z.Warmed39 s.vm → NotFace s x) (hce : ce + kc = ce') (hsl : sl + ks = sl') (hc : ce' ≤ R.cells) (hs : sl' ≤ R.slots) (hsize : Ls.size = maxL) {argsL : List Value} (hargs : (Value.ref a :: argsL).toArray = as') (hlen : ∀ sig, parseMethodDescriptor x.desc = some sig → argsL.length = sig.parameters.length) (hst : st = argsL.reverse ++ .ref a :: rest) (hWd : (rest.map fun v => v.category).sum ≤ Wd) (hp : pc + 3 = n)
    (k : ∀ v h' L, Qy v h' L → CHr Z EL vm h vm h' → WP l Z EL nar own nm ds bytes maxL ret R Q vm h' ce' sl' n Ls (v.toList ++ rest)) : WP l Z EL nar own nm ds bytes maxL ret R Q vm h ce sl pc Ls st := by
  subst hp hce hsl
  intro p e s m args below meth c T L cx ⟨X, ⟨k0, hS, hk⟩, hZ, hown, eT, N, hE, hC, hW', a1, hEL⟩
  obtain ⟨cq, kq, qa, qb, qc⟩ := isOf (s := s.setVm vm) hZ eT E
  obtain ⟨v, vm₁, ⟨U, L', ke, ks'⟩, hw1, X', ⟨Lq, q1, q4, q5, q6⟩, stp⟩ := X.virtualBack cx.1 hown (mvT (s := s.setVm vm) hZ w1) (mvT (s := s.setVm vm) hZ w2) (hnf _ hZ) (mvT (s := s.setVm vm) hZ w3) (mvT (s := s.setVm vm) hZ w4) hy (hK p e below s args hZ) qa qc (g := mkF m pc Ls st) rfl (by rw [cx.2.2.1]; exact hsize) (Steps.refl _) (argsL := argsL) (rest := rest) hlen hst (by show 2 * 0 + _ ≤ _; omega) (cx.2.1 ▸ hd) (fun _ _ => ⟨hargs, eT, hc, hs⟩)
  dsimp only [Pt.U, Pt.locs, Pt.cells, Pt.slots] at X' q1 q4 q5 q6 stp
  subst q4 q5 q6
  obtain ⟨r1, r2, r3⟩ := hq _ _ _ q1
  obtain ⟨t, o, h1, r⟩ := k v U.heap Lq q1 r3 p e s m args below meth c U _ cx ⟨X', ⟨k0, hS, Nat.le_trans hk r3.2.1⟩, hZ, hown, rfl, Fr.app N r1, r2, hC.trans r3, hW', a1, hEL⟩
  exact ⟨t, o, stp.trans h1, r⟩
theorem WP.ldcO {index : Nat} {text : String} {nn ce' sl' : Nat} (hd : decode bytes pc = .ok (.ldc index, 2)) (hnar : nar = false) (w : (Cond.stringLink own index text).before a0 Z = true) (wS : ∀ a ∈ Bundle.stringAtoms, a.before a0 Z = true) (hn : 4 * text.toList.length ≤ nn) (hbig : nn ≤ 536870912) (hce : ce + 2 = ce') (hsl : sl + (nn + 4) = sl') (hc : ce' ≤ R.cells) (hl : sl' ≤ R.slots) (hEL : EW Z a0 EL) (hp : pc + 2 = n)
    (k : ∀ a vm' h', Ext h h' → CHr Z EL vm h vm' h' → WP l Z EL nar own nm ds bytes maxL ret R Q vm' h' ce' sl' n Ls (.ref a :: st)) : WP l Z EL nar own nm ds bytes maxL ret R Q vm h ce sl pc Ls st := by
  subst hp hce hsl
  intro p e s m args below meth c T L cx ⟨X, ⟨k0, hS, hk⟩, hZ, hown, eT, N, hE, hC, hW', hEL'⟩
  obtain ⟨a, T', h', k1, X', e', E', hS', hk', hZ', hown', hr, -, stp⟩ := ldcOH X cx.1 hZ hown w wS eT hS hk hEL hC.1 (g := mkF m pc Ls st) rfl (cx.2.1 ▸ hd) hn hbig hc hl
  obtain ⟨t, o, h1, r⟩ := k a T'.vm h' E' hr p e s m args below meth c T' L cx ⟨X', ⟨k1, hS', hk'⟩, hZ', hown', e', N, ext_trans hE E', hC.trans hr, (fun q => by rw [hnar] at q; cases q), hEL'⟩
  exact ⟨t, o, stp _ h1, r⟩
theorem WP.ldcC {index : Nat} {text : String} {nn ce' sl' : Nat} {vs : List Value} {z : Int32} (hd : decode bytes pc = .ok (.ldc index, 2)) (hnar : nar = false) (w : (Cond.stringLink own index text).before a0 Z = true) (wS : ∀ a ∈ Bundle.stringAtoms, a.before a0 Z = true) (hmem : (own, index) ∈ EL) (ht : (∀ c ∈ text.toList, c.toNat < 256) ∧ text.toList.map (fun c => Value.int (Jvm.Lit.byteI c.toNat.toUInt16)) = vs) (hz : ¬ z < 0) (hzl : z.toNatClampNeg = vs.length) (hn : 4 * text.toList.length ≤ nn) (hbig : nn ≤ 536870912) (hce : ce + 2 = ce') (hsl : sl + (nn + 4) = sl') (hc : ce' ≤ R.cells) (hl : sl' ≤ R.slots) (hEL : EW Z a0 EL) (hp : pc + 2 = n)
    (k : ∀ a b kb vm' h', Ext h h' → CHr Z EL vm h vm' h' → Exa Z h' a "java/lang/String" → Fld Z h' a "java/lang/String" "coder" "B" (.int 0) → Fld Z h' a "java/lang/String" "value" "[B" (.ref b) → Arv Z h' b kb .byte z vs (.int 0) → Lit (Z.setVm vm') own index a → (∀ x, Safe Z EL vm' h' x → x ≠ a ∧ x ≠ b) → WP l Z EL nar own nm ds bytes maxL ret R Q vm' h' ce' sl' n Ls (.ref a :: st)) : WP l Z EL nar own nm ds bytes maxL ret R Q vm h ce sl pc Ls st := by
  subst hp hce hsl
  intro p e s m args below meth c T L cx ⟨X, ⟨k0, hS, hk⟩, hZ, hown, eT, N, hE, hC, hW', hEL'⟩
  obtain ⟨a, T', h', k1, b, kb, X', e', E', hS', hk', hZ', hown', f1, f2, f3, f4, -, -, hr, hLi, hNe, stp⟩ := ldcCH X cx.1 hZ hown w wS eT hS hk hEL hmem hC.1 ht hz hzl (g := mkF m pc Ls st) rfl (cx.2.1 ▸ hd) hn hbig hc hl
  obtain ⟨t, o, h1, r⟩ := k a b kb T'.vm h' E' hr f1 f2 f3 f4 hLi hNe p e s m args below meth c T' L cx ⟨X', ⟨k1, hS', hk'⟩, hZ', hown', e', N, ext_trans hE E', hC.trans hr, (fun q => by rw [hnar] at q; cases q), hEL'⟩
  exact ⟨t, o, stp _ h1, r⟩
theorem WP.baload {a : Addr} {cA : ClassId} {z j : Int32} {vs : List Value} {d v : Value} (hd : decode bytes pc = .ok (.baload, 1)) (A : Arv Z h a cA .byte z vs d) (hj : ¬ j < 0 ∧ j < z) (hv : vs.getD j.toNatClampNeg d = v) (hp : pc + 1 = n) (k : WP l Z EL nar own nm ds bytes maxL ret R Q vm h ce sl n Ls (v :: rest)) : WP l Z EL nar own nm ds bytes maxL ret R Q vm h ce sl pc Ls (.int j :: .ref a :: rest) := by
  subst hp
  obtain ⟨cl, A1, q1, S1, M1, H1, G1⟩ := A
  refine WP.look (Ls' := Ls) (fun p e s args below T m meth c L hx hb X hZ hown eT => ⟨T, X, eT, fun target q => ?_⟩) k
  exact X.baloadBytes hx (j := j) (v := v) (by rw [eT]; exact A1.1) (State.isArrayOf_alike hZ.alike A1.2.1) A1.2.2 (inb_of S1 hj) (H1.at (inb_of S1 hj) hv) (g := mkF m pc Ls (.int j :: .ref a :: rest)) rfl rfl (hb ▸ hd) _ q
theorem WP.caload {a : Addr} {cA : ClassId} {z j : Int32} {vs : List Value} {d v : Value} (hd : decode bytes pc = .ok (.caload, 1)) (A : Arv Z h a cA .char z vs d) (hj : ¬ j < 0 ∧ j < z) (hv : vs.getD j.toNatClampNeg d = v) (hp : pc + 1 = n) (k : WP l Z EL nar own nm ds bytes maxL ret R Q vm h ce sl n Ls (v :: rest)) : WP l Z EL nar own nm ds bytes maxL ret R Q vm h ce sl pc Ls (.int j :: .ref a :: rest) := by
  subst hp
  obtain ⟨cl, A1, q1, S1, M1, H1, G1⟩ := A
  refine WP.look (Ls' := Ls) (fun p e s args below T m meth c L hx hb X hZ hown eT => ⟨T, X, eT, fun target q => ?_⟩) k
  exact X.caload hx (j := j) (v := v) (by rw [eT]; exact A1.1) (State.isArrayOf_alike hZ.alike A1.2.1) A1.2.2 (inb_of S1 hj) (H1.at (inb_of S1 hj) hv) (g := mkF m pc Ls (.int j :: .ref a :: rest)) rfl rfl (hb ▸ hd) _ q
theorem WP.iaload {a : Addr} {cA : ClassId} {z j : Int32} {vs : List Value} {d v : Value} (hd : decode bytes pc = .ok (.iaload, 1)) (A : Arv Z h a cA .int z vs d) (hj : ¬ j < 0 ∧ j < z) (hv : vs.getD j.toNatClampNeg d = v) (hp : pc + 1 = n) (k : WP l Z EL nar own nm ds bytes maxL ret R Q vm h ce sl n Ls (v :: rest)) : WP l Z EL nar own nm ds bytes maxL ret R Q vm h ce sl pc Ls (.int j :: .ref a :: rest) := by
  subst hp
  obtain ⟨cl, A1, q1, S1, M1, H1, G1⟩ := A
  refine WP.look (Ls' := Ls) (fun p e s args below T m meth c L hx hb X hZ hown eT => ⟨T, X, eT, fun target q => ?_⟩) k
  exact X.iaload hx (j := j) (v := v) (by rw [eT]; exact A1.1) (State.isArrayOf_alike hZ.alike A1.2.1) A1.2.2 (inb_of S1 hj) (H1.at (inb_of S1 hj) hv) (g := mkF m pc Ls (.int j :: .ref a :: rest)) rfl rfl (hb ▸ hd) _ q
theorem WP.castY {K : String} {index : Nat} {a : Addr} (hd : decode bytes pc = .ok (.checkcast index, 3)) (w : (Cond.classLink own index K).before a0 Z = true) (F : Ins Z h a K true) (hp : pc + 3 = n) (k : WP l Z EL nar own nm ds bytes maxL ret R Q vm h ce sl n Ls (.ref a :: rest)) : WP l Z EL nar own nm ds bytes maxL ret R Q vm h ce sl pc Ls (.ref a :: rest) := by
  subst hp
  refine WP.look (fun p e s args below T m meth c L hx hb X hZ hown eT => ?_) k
  exact castY X hx hZ hown w eT F (g := mkF m pc Ls (.ref a :: rest)) rfl rfl (hb ▸ hd)
theorem WP.instY {K : String} {index : Nat} {a : Addr} (hd : decode bytes pc = .ok (.instanceof index, 3)) (w : (Cond.classLink own index K).before a0 Z = true) (F : Ins Z h a K true) (hp : pc + 3 = n) (k : WP l Z EL nar own nm ds bytes maxL ret R Q vm h ce sl n Ls (.int 1 :: rest)) : WP l Z EL nar own nm ds bytes maxL ret R Q vm h ce sl pc Ls (.ref a :: rest) := by
  subst hp
  refine WP.look (fun p e s args below T m meth c L hx hb X hZ hown eT => ?_) k
  exact instY X hx hZ hown w eT F (g := mkF m pc Ls (.ref a :: rest)) rfl rfl (hb ▸ hd)
theorem WP.instNo {K C : String} {index : Nat} {a : Addr} (hd : decode bytes pc = .ok (.instanceof index, 3)) (w : (Cond.classLink own index K).before a0 Z = true) (E : Exa Z h a C) (F : ∃ c t, Z.vm.findClass C = some c ∧ Z.vm.findClass K = some t ∧ Z.vm.assignable c t = false) (hp : pc + 3 = n) (k : WP l Z EL nar own nm ds bytes maxL ret R Q vm h ce sl n Ls (.int 0 :: rest)) : WP l Z EL nar own nm ds bytes maxL ret R Q vm h ce sl pc Ls (.ref a :: rest) := by
  subst hp
  refine WP.look (fun p e s args below T m meth c L hx hb X hZ hown eT => ?_) k
  exact instNo X hx hZ hown w eT E F (g := mkF m pc Ls (.ref a :: rest)) rfl rfl (hb ▸ hd)
theorem WP.instNull {index : Nat} (hd : decode bytes pc = .ok (.instanceof index, 3)) (hp : pc + 3 = n) (k : WP l Z EL nar own nm ds bytes maxL ret R Q vm h ce sl n Ls (.int 0 :: rest)) : WP l Z EL nar own nm ds bytes maxL ret R Q vm h ce sl pc Ls (.null :: rest) := by
  subst hp
  refine WP.look (Ls' := Ls) (fun p e s args below T m meth c L hx hb X hZ hown eT => ⟨T, X, eT, fun target q => ?_⟩) k
  exact X.instanceofNull hx (g := mkF m pc Ls (.null :: rest)) rfl rfl (hb ▸ hd) _ q
theorem WP.castNull {index : Nat} (hd : decode bytes pc = .ok (.checkcast index, 3)) (hp : pc + 3 = n) (k : WP l Z EL nar own nm ds bytes maxL ret R Q vm h ce sl n Ls (.null :: rest)) : WP l Z EL nar own nm ds bytes maxL ret R Q vm h ce sl pc Ls (.null :: rest) := by
  subst hp
  refine WP.look (Ls' := Ls) (fun p e s args below T m meth c L hx hb X hZ hown eT => ⟨T, X, eT, fun target q => ?_⟩) k
  exact X.checkcastNull hx (g := mkF m pc Ls (.null :: rest)) rfl rfl (hb ▸ hd) _ q
theorem WP.ldcA {index : Nat} {text : String} {a : Addr} (hd : decode bytes pc = .ok (.ldc index, 2)) (w : (Cond.stringLink own index text).before a0 Z = true) (Li : Lit (Z.setVm vm) own index a) (hp : pc + 2 = n) (k : WP l Z EL nar own nm ds bytes maxL ret R Q vm h ce sl n Ls (.ref a :: st)) : WP l Z EL nar own nm ds bytes maxL ret R Q vm h ce sl pc Ls st := by
  subst hp
  refine WP.look (Ls' := Ls) (fun p e s args below T m meth c L hx hb X hZ hown eT => ⟨T, X, eT, fun target q => ?_⟩) k
  exact ldcAgain X hx hZ hown w Li (g := mkF m pc Ls st) rfl (hb ▸ hd) _ q
theorem WP.backS {y : MethodName} {as' : Array Value} {Qy : Option Value → Heap → List Loc → Prop} {index Wd kc ks ce' sl' : Nat} {yb : ByteArray} {yl : Nat} {yr : Option FieldType} (hK : ∀ (p : Program) (e : Env) (below : List Frame) (s : State) (args : Array Value), Z.Warmed39 (s.setVm vm).vm → Back l R p e below (s.setVm vm) args y 3 Wd (fun A a => a = as' ∧ A.U.heap = h ∧ A.cells + kc ≤ R.cells ∧ A.slots + ks ≤ R.slots) (fun A _ v B => ∃ L, Qy v B.U.heap L ∧ B.locs = A.locs ++ L ∧ B.cells = A.cells + kc ∧ B.slots = A.slots + ks)) (hq : ∀ v h' L, Qy v h' L → Fr Z.heap.size L ∧ Ext Z.heap h' ∧ CHr Z EL vm h vm h') (hd : decode bytes pc = .ok (.invokestatic index, 3)) (w1 : (Cond.methodLink own index y).before a0 Z = true) (w2 : (Cond.static y).before a0 Z = true) (wz : (Cond.initialized y.cls).before a0 Z = true) (wc : (Cond.code y yb yl yr).before a0 Z = true) (hy : y.cls ≠ "java/lang/invoke/MethodHandle" ∧ y.cls ≠ "java/lang/invoke/VarHandle") (hce : ce + kc = ce') (hsl : sl + ks = sl') (hc : ce' ≤ R.cells) (hs : sl' ≤ R.slots) (hsize : Ls.size = maxL) {argsL : List Value} (hargs : argsL.toArray = as') (hlen : ∀ sig, parseMethodDescriptor y.desc = some sig → argsL.length = sig.parameters.length) (hst : st = argsL.reverse ++ rest) (hWd : (rest.map fun v => v.category).sum ≤ Wd) (hp : pc + 3 = n)
    (k : ∀ v h' L, Qy v h' L → CHr Z EL vm h vm h' → WP l Z EL nar own nm ds bytes maxL ret R Q vm h' ce' sl' n Ls (v.toList ++ rest)) : WP l Z EL nar own nm ds bytes maxL ret R Q vm h ce sl pc Ls st := by
  subst hp hce hsl
  intro p e s m args below meth c T L cx ⟨X, ⟨k0, hS, hk⟩, hZ, hown, eT, N, hE, hC, hW', a1, hEL⟩
  obtain ⟨v, vm₁, ⟨U, L', ke, ks'⟩, hw1, X', ⟨Lq, q1, q4, q5, q6⟩, stp⟩ := Jvm.LawKit.callS X cx.1 hown (mvT (s := s.setVm vm) hZ w1) (mvT (s := s.setVm vm) hZ w2) (mvT (s := s.setVm vm) hZ wz) (mvT (s := s.setVm vm) hZ wc) hy (hK p e below s args hZ) (g := mkF m pc Ls st) rfl (by rw [cx.2.2.1]; exact hsize) (argsL := argsL) (rest := rest) hlen hst (by show 2 * 0 + _ ≤ _; omega) (cx.2.1 ▸ hd) (fun _ _ => ⟨hargs, eT, hc, hs⟩)
  dsimp only [Pt.U, Pt.locs, Pt.cells, Pt.slots] at X' q1 q4 q5 q6 stp
  subst q4 q5 q6
  obtain ⟨r1, r2, r3⟩ := hq _ _ _ q1
  obtain ⟨t, o, h1, r⟩ := k v U.heap Lq q1 r3 p e s m args below meth c U _ cx ⟨X', ⟨k0, hS, Nat.le_trans hk r3.2.1⟩, hZ, hown, rfl, Fr.app N r1, r2, hC.trans r3, hW', a1, hEL⟩
  exact ⟨t, o, stp _ h1, r⟩
theorem WP.ldcI {index : Nat} {v : Int32} (hd : decode bytes pc = .ok (.ldc index, 2)) (w : (Cond.constant own index v).before a0 Z = true) (hp : pc + 2 = n) (k : WP l Z EL nar own nm ds bytes maxL ret R Q vm h ce sl n Ls (.int v :: st)) : WP l Z EL nar own nm ds bytes maxL ret R Q vm h ce sl pc Ls st := by
  subst hp
  refine WP.look (Ls' := Ls) (fun p e s args below T m meth c L hx hb X hZ hown eT => ⟨T, X, eT, fun target q => ?_⟩) k
  exact X.ldcInt hx hown (mvT (s := s.setVm vm) hZ w) (g := mkF m pc Ls st) rfl (hb ▸ hd) _ q
end Steps
end Jvm.OwnW
namespace Jvm.OwnW
open Jvm Jvm.ClassFile Sem Op Lib Jvm.Free Jvm.Stand Jvm.LawKit Jvm.RoadKit Bundle
section Steps5
variable {l : Launch} {Z : State} {EL : List (String × Nat)} {nar : Bool} {own nm ds : String} {bytes : ByteArray} {maxL : Nat} {ret : Option FieldType} {R : Room} {Q : Option Value → Heap → Prop} {vm : Vm} {h : Heap} {ce sl pc n : Nat} {Ls Ls' : Array Slot} {st rest : List Value} {a0 : Array Value}
theorem WP.dload {k' : Nat} {v : UInt64} (hd : decode bytes pc = .ok (.dload k', 2)) (hl : Ls[k']? = some (.val (.double v))) (hp : pc + 2 = n) (k : WP l Z EL nar own nm ds bytes maxL ret R Q vm h ce sl n Ls (.double v :: st)) : WP l Z EL nar own nm ds bytes maxL ret R Q vm h ce sl pc Ls st := by subst hp; exact WP.step (fun p e below T t m c hx hb ha q => XS.dload ha hx rfl (hb ▸ hd) hl q) k
theorem WP.dstore {k' : Nat} {v : UInt64} (hd : decode bytes pc = .ok (.dstore k', 2)) (hl : storeLocals Ls k' (.double v) = some Ls') (hp : pc + 2 = n) (k : WP l Z EL nar own nm ds bytes maxL ret R Q vm h ce sl n Ls' rest) : WP l Z EL nar own nm ds bytes maxL ret R Q vm h ce sl pc Ls (.double v :: rest) := by subst hp; exact WP.step (fun p e below T t m c hx hb ha q => XS.dstore ha hx rfl (hb ▸ hd) rfl hl q) k
theorem WP.dconst0 {v : UInt64} (hd : decode bytes pc = .ok (.dconst 0, 1)) (hv : FP.dconst0 = v) (hp : pc + 1 = n) (k : WP l Z EL nar own nm ds bytes maxL ret R Q vm h ce sl n Ls (.double v :: st)) : WP l Z EL nar own nm ds bytes maxL ret R Q vm h ce sl pc Ls st := by subst hp; exact WP.step (fun p e below T t m c hx hb ha q => XS.dconst0 ha hx rfl (hb ▸ hd) hv q) k
theorem WP.dconst1 {v : UInt64} (hd : decode bytes pc = .ok (.dconst 1, 1)) (hv : FP.dconst1 = v) (hp : pc + 1 = n) (k : WP l Z EL nar own nm ds bytes maxL ret R Q vm h ce sl n Ls (.double v :: st)) : WP l Z EL nar own nm ds bytes maxL ret R Q vm h ce sl pc Ls st := by subst hp; exact WP.step (fun p e below T t m c hx hb ha q => XS.dconst1 ha hx rfl (hb ▸ hd) hv q) k
theorem WP.i2d {x : Int32} (hd : decode bytes pc = .ok (.i2d, 1)) (hp : pc + 1 = n) (k : WP l Z EL nar own nm ds bytes maxL ret R Q vm h ce sl n Ls (.double (FP.i2d x) :: rest)) : WP l Z EL nar own nm ds bytes maxL ret R Q vm h ce sl pc Ls (.int x :: rest) := by subst hp; exact WP.step (fun p e below T t m c hx hb ha q => XS.i2dS ha hx rfl (hb ▸ hd) rfl rfl q) k
theorem WP.l2d {x : Int64} (hd : decode bytes pc = .ok (.l2d, 1)) (hp : pc + 1 = n) (k : WP l Z EL nar own nm ds bytes maxL ret R Q vm h ce sl n Ls (.double (FP.l2d x) :: rest)) : WP l Z EL nar own nm ds bytes maxL ret R Q vm h ce sl pc Ls (.long x :: rest) := by subst hp; exact WP.step (fun p e below T t m c hx hb ha q => XS.l2dS ha hx rfl (hb ▸ hd) rfl rfl q) k
theorem WP.dcmp {o : CmpOp} {x y : UInt64} {v : Int32} (hd : decode bytes pc = .ok (.dcmp o, 1)) (hv : cmpValue (FP.dcmp x y) o = v) (hp : pc + 1 = n) (k : WP l Z EL nar own nm ds bytes maxL ret R Q vm h ce sl n Ls (.int v :: rest)) : WP l Z EL nar own nm ds bytes maxL ret R Q vm h ce sl pc Ls (.double y :: .double x :: rest) := by subst hp; exact WP.step (fun p e below T t m c hx hb ha q => XS.dcmpS ha hx rfl (hb ▸ hd) rfl hv q) k
theorem WP.dadd {x y : UInt64} (hd : decode bytes pc = .ok (.dadd, 1)) (hn : Jvm.Free.Fl.NoNaN64 (FP.dadd x y)) (hp : pc + 1 = n) (k : WP l Z EL nar own nm ds bytes maxL ret R Q vm h ce sl n Ls (.double (FP.dadd x y) :: rest)) : WP l Z EL nar own nm ds bytes maxL ret R Q vm h ce sl pc Ls (.double y :: .double x :: rest) := by subst hp; exact WP.step (fun p e below T t m c hx hb ha q => XS.daddS ha hx rfl (hb ▸ hd) rfl hn rfl q) k
theorem WP.dsub {x y : UInt64} (hd : decode bytes pc = .ok (.dsub, 1)) (hn : Jvm.Free.Fl.NoNaN64 (FP.dsub x y)) (hp : pc + 1 = n) (k : WP l Z EL nar own nm ds bytes maxL ret R Q vm h ce sl n Ls (.double (FP.dsub x y) :: rest)) : WP l Z EL nar own nm ds bytes maxL ret R Q vm h ce sl pc Ls (.double y :: .double x :: rest) := by subst hp; exact WP.step (fun p e below T t m c hx hb ha q => XS.dsubS ha hx rfl (hb ▸ hd) rfl hn rfl q) k
theorem WP.ddiv {x y : UInt64} (hd : decode bytes pc = .ok (.ddiv, 1)) (hn : Jvm.Free.Fl.NoNaN64 (FP.ddiv x y)) (hp : pc + 1 = n) (k : WP l Z EL nar own nm ds bytes maxL ret R Q vm h ce sl n Ls (.double (FP.ddiv x y) :: rest)) : WP l Z EL nar own nm ds bytes maxL ret R Q vm h ce sl pc Ls (.double y :: .double x :: rest) := by subst hp; exact WP.step (fun p e below T t m c hx hb ha q => XS.ddivS ha hx rfl (hb ▸ hd) rfl hn rfl q) k
theorem WP.retL {x : Int64} (hd : decode bytes pc = .ok (.lreturn, 1)) (hr : ret = some .long) (hc : ce ≤ R.cells) (hsl : sl ≤ R.slots) (hq : Q (some (.long x)) h) : WP l Z EL nar own nm ds bytes maxL ret R Q vm h ce sl pc Ls (.long x :: rest) :=
  WP.done (v := some (.long x)) hc hsl (fun q => by rw [hr] at q; cases q) (fun p e s args below T m meth c L fs hx hb hret X hl => retOut X hx (t := .long) (hret.trans hr) rfl (Or.inr (Or.inl ⟨rfl, rfl, x, rfl⟩)) (hb ▸ hd) hl) hq
theorem WP.retD {x : UInt64} (hd : decode bytes pc = .ok (.dreturn, 1)) (hr : ret = some .double) (hc : ce ≤ R.cells) (hsl : sl ≤ R.slots) (hq : Q (some (.double x)) h) : WP l Z EL nar own nm ds bytes maxL ret R Q vm h ce sl pc Ls (.double x :: rest) :=
  WP.done (v := some (.double x)) hc hsl (fun q => by rw [hr] at q; cases q) (fun p e s args below T m meth c L fs hx hb hret X hl => retOut X hx (t := .double) (hret.trans hr) rfl (Or.inr (Or.inr (Or.inl ⟨rfl, rfl, x, rfl⟩))) (hb ▸ hd) hl) hq
end Steps5
end Jvm.OwnW
namespace Jvm.OwnF
open Jvm.FP Jvm.FP.Core
/-! What a quotient of whole numbers is worth against a representable bound: own text over the library's FloatLaws, FloatLaws2. -/
theorem own_zr_le {f : Fmt} (hf : Good f) {s : Bool} {A B : Nat} {e e0 : Int} {V : Datum} (hB : 0 < B) (hV : Core.fits f V) (hn : V ≠ .nan) (h0 : e0 ≤ f.qmin) (h0e : e0 ≤ e)
    (h : signed s (inUnits A e e0) ≤ zval f V * ((2 ^ (f.qmin - e0).toNat * B : Nat) : Int)) : zval f (roundRatio f s A B e) ≤ zval f V := by
  have hle := zmag_roundRatio_le hf (s := s) (A := A) (B := B) hB hV hn h0 h0e
  have hge := zmag_roundRatio_ge hf (s := s) (A := A) (B := B) hB hV h0 h0e
  have hP := Nat.two_pow_pos (f.qmin - e0).toNat
  unfold zval at h ⊢
  rw [sgn_roundRatio]
  rw [← signed_mul, ← Nat.mul_assoc] at h
  have hz : zmag f V * 2 ^ (f.qmin - e0).toNat * B = 0 → zmag f V = 0 := by
    intro q
    rcases Nat.mul_eq_zero.mp q with q | q
    · rcases Nat.mul_eq_zero.mp q with q | q <;> omega
    · omega
  generalize zmag f V * 2 ^ (f.qmin - e0).toNat * B = vP at *
  generalize sgn V = t at *
  cases s <;> cases t <;> simp only [signed, if_true, Bool.false_eq_true, if_false] at h ⊢
  · have := hle (by omega); omega
  · have := hle (by omega); have := hz (by omega); omega
  · omega
  · have := hge (by omega); omega
theorem own_zr_ge {f : Fmt} (hf : Good f) {s : Bool} {A B : Nat} {e e0 : Int} {V : Datum} (hB : 0 < B) (hV : Core.fits f V) (hn : V ≠ .nan) (h0 : e0 ≤ f.qmin) (h0e : e0 ≤ e)
    (h : zval f V * ((2 ^ (f.qmin - e0).toNat * B : Nat) : Int) ≤ signed s (inUnits A e e0)) : zval f V ≤ zval f (roundRatio f s A B e) := by
  have hle := zmag_roundRatio_le hf (s := s) (A := A) (B := B) hB hV hn h0 h0e
  have hge := zmag_roundRatio_ge hf (s := s) (A := A) (B := B) hB hV h0 h0e
  have hP := Nat.two_pow_pos (f.qmin - e0).toNat
  unfold zval at h ⊢
  rw [sgn_roundRatio]
  rw [← signed_mul, ← Nat.mul_assoc] at h
  have hz : zmag f V * 2 ^ (f.qmin - e0).toNat * B = 0 → zmag f V = 0 := by
    intro q
    rcases Nat.mul_eq_zero.mp q with q | q
    · rcases Nat.mul_eq_zero.mp q with q | q <;> omega
    · omega
  generalize zmag f V * 2 ^ (f.qmin - e0).toNat * B = vP at *
  generalize sgn V = t at *
  cases s <;> cases t <;> simp only [signed, if_true, Bool.false_eq_true, if_false] at h ⊢
  · have := hge (by omega); omega
  · omega
  · have := hle (by omega); have := hz (by omega); omega
  · have := hle (by omega); omega
/-- the quotient of two whole numbers, as one rounded ratio -/
theorem own_ratio {i j : Int} {a b : UInt64} (ha : DInt i a) (hb : DInt j b) (hi : i ≠ 0) (hj : j ≠ 0) : val64 (Core.ddiv a b) = roundRatio b64 (decide (i < 0) != decide (j < 0)) i.natAbs j.natAbs 0 := by
  rw [val64_ddiv]
  unfold DInt at ha hb
  cases h1 : val64 a with
  | nan => rw [h1] at ha; exact ha.elim
  | inf u => rw [h1] at ha; exact ha.elim
  | fin s c q =>
  cases h2 : val64 b with
  | nan => rw [h2] at hb; exact hb.elim
  | inf u => rw [h2] at hb; exact hb.elim
  | fin t d r =>
  rw [h1] at ha
  rw [h2] at hb
  have hd : d ≠ 0 := fun e => hj ((whole_zero hb).mp e)
  show (if d = 0 then _ else roundRatio b64 (s != t) c d (q - r)) = _
  rw [if_neg hd, whole_sign ha hi, whole_sign hb hj]
  refine roundRatio_congr (by omega) (by omega) ?_
  have e1 := whole_natAbs ha
  have e2 := whole_natAbs hb
  obtain ⟨m, m1, m2⟩ : ∃ m : Nat, q.toNat + (-r).toNat = (q - r - 0).toNat + m ∧ (-q).toNat + r.toNat = (0 - (q - r)).toNat + m := ⟨q.toNat + (-r).toNat - (q - r - 0).toNat, by omega, by omega⟩
  refine Nat.eq_of_mul_eq_mul_right (Nat.two_pow_pos m) ?_
  rw [Nat.mul_assoc, ← Nat.pow_add, ← m1, Nat.mul_assoc (i.natAbs * d), ← Nat.pow_add, ← m2, Nat.pow_add, Nat.pow_add]
  calc c * j.natAbs * (2 ^ q.toNat * 2 ^ (-r).toNat) = (c * 2 ^ q.toNat) * (j.natAbs * 2 ^ (-r).toNat) := by ac_rfl
    _ = (i.natAbs * 2 ^ (-q).toNat) * (d * 2 ^ r.toNat) := by rw [e1, e2]
    _ = i.natAbs * d * (2 ^ (-q).toNat * 2 ^ r.toNat) := by ac_rfl
/-- a whole number's place in units of the least exponent -/
theorem own_wz {i : Int} {x : Datum} (h : Whole i x) (hf : Core.fits b64 x) : zval b64 x = i * ((2 ^ 1074 : Nat) : Int) := by
  cases x with
  | nan => exact h.elim
  | inf u => exact h.elim
  | fin s c q =>
    have e := whole_units h (e := b64.qmin) hf.2.1
    have e1 : (2 ^ (b64.qmin).toNat : Nat) = 1 := by decide
    have e2 : (-b64.qmin).toNat = 1074 := by decide
    rw [e1, e2] at e
    show signed s (inUnits c q b64.qmin) = _
    omega
/-- N/2^32, a double -/
theorem own_V (N : Int) (hN : N.natAbs < 2 ^ 53) : ∃ V : Datum, Core.fits b64 V ∧ V ≠ .nan ∧ zval b64 V = N * ((2 ^ 1042 : Nat) : Int) := by
  obtain ⟨c, q, e1, e2⟩ := round_exact good_b64 (decide (N < 0)) (c := N.natAbs) (q := -32) hN (by decide) (by decide)
  refine ⟨round b64 (.fin (decide (N < 0)) N.natAbs (-32)), round_fits good_b64 _, by rw [e1]; exact Datum.noConfusion, ?_⟩
  rw [e1]
  show signed (decide (N < 0)) (inUnits c q b64.qmin) = _
  rw [e2]
  unfold inUnits
  rw [show (-32 - b64.qmin).toNat = 1042 by decide, signed_mul]
  congr 1
  unfold signed
  by_cases h : N < 0 <;> simp [h] <;> omega
theorem own_sgn (i j : Int) (hj : j ≠ 0) (hi : i ≠ 0) : signed (decide (i < 0) != decide (j < 0)) i.natAbs = i * j.sign := by
  unfold signed
  rcases Int.lt_or_gt_of_ne hi with h | h <;> rcases Int.lt_or_gt_of_ne hj with h' | h'
  · rw [Int.sign_eq_neg_one_of_neg h']; simp [h, h']; omega
  · rw [Int.sign_eq_one_of_pos h']; simp [h, show ¬ j < 0 by omega]; omega
  · rw [Int.sign_eq_neg_one_of_neg h']; simp [h', show ¬ i < 0 by omega]; omega
  · rw [Int.sign_eq_one_of_pos h']; simp [show ¬ i < 0 by omega, show ¬ j < 0 by omega]; omega
theorem own_unit (i j : Int) (hj : j ≠ 0) (hi : i ≠ 0) : signed (decide (i < 0) != decide (j < 0)) (inUnits i.natAbs 0 b64.qmin) = i * j.sign * ((2 ^ 1074 : Nat) : Int) := by
  unfold inUnits
  rw [show (0 - b64.qmin).toNat = 1074 by decide, signed_mul, own_sgn i j hj hi]
/-- at most a double that is at least the exact quotient -/
theorem own_q_le {i j : Int} {a b : UInt64} (ha : DInt i a) (hb : DInt j b) (hi : i ≠ 0) (hj : j ≠ 0) {V : Datum} (hV : Core.fits b64 V) (hn : V ≠ .nan) (h : i * j.sign * ((2 ^ 1074 : Nat) : Int) ≤ zval b64 V * j.natAbs) : zval b64 (val64 (Core.ddiv a b)) ≤ zval b64 V := by
  rw [own_ratio ha hb hi hj]
  refine own_zr_le good_b64 (by omega) hV hn (Int.le_refl _) (by decide) ?_
  rw [own_unit i j hj hi, show (b64.qmin - b64.qmin).toNat = 0 by decide]
  simpa using h
theorem own_q_ge {i j : Int} {a b : UInt64} (ha : DInt i a) (hb : DInt j b) (hi : i ≠ 0) (hj : j ≠ 0) {V : Datum} (hV : Core.fits b64 V) (hn : V ≠ .nan) (h : zval b64 V * j.natAbs ≤ i * j.sign * ((2 ^ 1074 : Nat) : Int)) : zval b64 V ≤ zval b64 (val64 (Core.ddiv a b)) := by
  rw [own_ratio ha hb hi hj]
  refine own_zr_ge good_b64 (by omega) hV hn (Int.le_refl _) (by decide) ?_
  rw [own_unit i j hj hi, show (b64.qmin - b64.qmin).toNat = 0 by decide]
  simpa using h
theorem own_nn {x : UInt64} {i : Int} (h : DInt i x) : val64 x ≠ .nan := fun e => by unfold DInt at h; rw [e] at h; exact h
theorem own_qnn {i j : Int} {a b : UInt64} (ha : DInt i a) (hb : DInt j b) (hi : i ≠ 0) (hj : j ≠ 0) : val64 (Core.ddiv a b) ≠ .nan := by rw [own_ratio ha hb hi hj]; exact roundRatio_ne_nan _ _ _ _ _
theorem own_cmp {a b : UInt64} (ha : val64 a ≠ .nan) (hb : val64 b ≠ .nan) : Core.dcmp a b = some (compare (zval b64 (val64 a)) (zval b64 (val64 b))) := order_zval good_b64 (val64_fits a) (val64_fits b) ha hb
theorem own_lt {a b : UInt64} (ha : val64 a ≠ .nan) (hb : val64 b ≠ .nan) (h : zval b64 (val64 a) < zval b64 (val64 b)) : Core.dcmp a b = some .lt := by
  rw [own_cmp ha hb]; congr 1; exact Int.compare_eq_lt.mpr h
theorem own_eq {a b : UInt64} (ha : val64 a ≠ .nan) (hb : val64 b ≠ .nan) (h : zval b64 (val64 a) = zval b64 (val64 b)) : Core.dcmp a b = some .eq := by
  rw [own_cmp ha hb]; congr 1; exact Int.compare_eq_eq.mpr h
theorem own_ratio0 {j : Int} {a b : UInt64} (ha : DInt 0 a) (hb : DInt j b) (hj : j ≠ 0) : val64 (Core.ddiv a b) ≠ .nan ∧ zval b64 (val64 (Core.ddiv a b)) = 0 := by
  rw [val64_ddiv]
  unfold DInt at ha hb
  cases h1 : val64 a with
  | nan => rw [h1] at ha; exact ha.elim
  | inf u => rw [h1] at ha; exact ha.elim
  | fin s c q =>
  cases h2 : val64 b with
  | nan => rw [h2] at hb; exact hb.elim
  | inf u => rw [h2] at hb; exact hb.elim
  | fin t d r =>
  rw [h1] at ha
  rw [h2] at hb
  have hd : d ≠ 0 := fun e => hj ((whole_zero hb).mp e)
  have hc : c = 0 := (whole_zero ha).mpr rfl
  have e : quotient b64 (.fin s c q) (.fin t d r) = .fin (s != t) 0 b64.qmin := by
    show (if d = 0 then _ else roundRatio b64 (s != t) c d (q - r)) = _
    rw [if_neg hd, hc]; rfl
  rw [e]
  refine ⟨Datum.noConfusion, ?_⟩
  show signed (s != t) (0 * _) = 0
  rw [Nat.zero_mul]; cases (s != t) <;> rfl
/-- terms = kk * d: the quotient is kk -/
theorem own_exact {kk d : Int} {a b e : UInt64} (ha : DInt (kk * d) a) (hb : DInt d b) (he : DInt kk e) (hd : d ≠ 0) : val64 (Core.ddiv a b) ≠ .nan ∧ Core.dcmp (Core.ddiv a b) e = some .eq := by
  have hz := own_wz he (val64_fits e)
  by_cases hk : kk = 0
  · subst hk
    rw [Int.zero_mul] at ha
    obtain ⟨h1, h2⟩ := own_ratio0 ha hb hd
    exact ⟨h1, own_eq h1 (own_nn he) (by rw [h2, hz]; simp)⟩
  · have hi : kk * d ≠ 0 := Int.mul_ne_zero hk hd
    have hs : kk * d * d.sign = kk * d.natAbs := by rw [Int.mul_assoc, Int.mul_sign_self]
    refine ⟨own_qnn ha hb hi hd, own_eq (own_qnn ha hb hi hd) (own_nn he) (Int.le_antisymm ?_ ?_)⟩
    · refine own_q_le ha hb hi hd (val64_fits e) (own_nn he) ?_
      rw [hs, hz]; generalize ((2 ^ 1074 : Nat) : Int) = U; exact Int.le_of_eq (by ac_rfl)
    · refine own_q_ge ha hb hi hd (val64_fits e) (own_nn he) ?_
      rw [hs, hz]; generalize ((2 ^ 1074 : Nat) : Int) = U; exact Int.le_of_eq (by ac_rfl)
/-- a quotient strictly between two whole numbers k and k + 1, further than |j|/2^32 from both -/
theorem own_between {i j k : Int} {a b e g : UInt64} (ha : DInt i a) (hb : DInt j b) (he : DInt k e) (hg : DInt (k + 1) g) (hi : i ≠ 0) (hj : j ≠ 0) (hk : k.natAbs ≤ 1048576) (h1 : (k * 4294967296 + 1) * j.natAbs ≤ i * j.sign * 4294967296) (h2 : i * j.sign * 4294967296 ≤ ((k + 1) * 4294967296 - 1) * j.natAbs) :
    val64 (Core.ddiv a b) ≠ .nan ∧ Core.dcmp e (Core.ddiv a b) = some .lt ∧ Core.dcmp (Core.ddiv a b) g = some .lt := by
  have hn := own_qnn ha hb hi hj
  have p : ((2 ^ 1074 : Nat) : Int) = 4294967296 * ((2 ^ 1042 : Nat) : Int) := by rw [show (1074 : Nat) = 32 + 1042 from rfl, Nat.pow_add, Int.natCast_mul]; rfl
  have pp : (0 : Int) < ((2 ^ 1042 : Nat) : Int) := by have := Nat.two_pow_pos 1042; omega
  have ze := own_wz he (val64_fits e)
  have zg := own_wz hg (val64_fits g)
  obtain ⟨V, v1, v2, v3⟩ := own_V (k * 4294967296 + 1) (by omega)
  obtain ⟨W, w1, w2, w3⟩ := own_V ((k + 1) * 4294967296 - 1) (by omega)
  have q1 := own_q_ge ha hb hi hj v1 v2 (by
    rw [v3, p]
    clear v3 w3 ze zg p
    generalize ((2 ^ 1042 : Nat) : Int) = P at pp ⊢
    have q := Int.mul_le_mul_of_nonneg_right h1 (Int.le_of_lt pp)
    have e1 : (k * 4294967296 + 1) * P * j.natAbs = (k * 4294967296 + 1) * j.natAbs * P := by ac_rfl
    have e2 : i * j.sign * (4294967296 * P) = i * j.sign * 4294967296 * P := by ac_rfl
    rw [e1, e2]; exact q)
  have q2 := own_q_le ha hb hi hj w1 w2 (by
    rw [w3, p]
    clear v3 w3 ze zg p
    generalize ((2 ^ 1042 : Nat) : Int) = P at pp ⊢
    have q := Int.mul_le_mul_of_nonneg_right h2 (Int.le_of_lt pp)
    have e1 : ((k + 1) * 4294967296 - 1) * P * j.natAbs = ((k + 1) * 4294967296 - 1) * j.natAbs * P := by ac_rfl
    have e2 : i * j.sign * (4294967296 * P) = i * j.sign * 4294967296 * P := by ac_rfl
    rw [e1, e2]; exact q)
  rw [p] at ze zg
  clear p
  generalize ((2 ^ 1042 : Nat) : Int) = P at *
  refine ⟨hn, own_lt (own_nn he) hn ?_, own_lt hn (own_nn hg) ?_⟩
  · rw [ze]; rw [v3] at q1
    have e1 : k * (4294967296 * P) < (k * 4294967296 + 1) * P := by rw [← Int.mul_assoc, Int.add_mul, Int.one_mul]; omega
    omega
  · rw [zg]; rw [w3] at q2
    have e1 : ((k + 1) * 4294967296 - 1) * P < (k + 1) * (4294967296 * P) := by rw [← Int.mul_assoc, Int.sub_mul, Int.one_mul]; omega
    omega
theorem own_zmag (V : Datum) : zmag b64 V = (zval b64 V).natAbs := by
  unfold zval signed; cases sgn V <;> simp
theorem own_zmagN {V : Datum} {N P : Nat} (h : zval b64 V = (N : Int) * (P : Int)) : zmag b64 V = N * P := by rw [own_zmag, h, ← Int.natCast_mul, Int.natAbs_natCast]
theorem own_ar {P x : Nat} (h : x ≤ 2147483648) : 1 * P * 2 ^ 0 * x ≤ 4294967296 * P := by
  rw [Nat.one_mul, Nat.pow_zero, Nat.mul_one, Nat.mul_comm 4294967296 P]; exact Nat.mul_le_mul_left P (by omega)
theorem own_ar2 {P x : Nat} (h : 1 ≤ x) : 4294967296 * P * 2 ^ 0 * 1 ≤ x * (4294967296 * P) := by
  have := Nat.mul_le_mul_right (4294967296 * P) h
  simpa using this
theorem own_sign {t d : Int} {a b : UInt64} (ht : t ≠ 0) (ha : val64 a = roundRatio b64 (decide (t < 0)) t.natAbs 1 0) (hb : DInt d b) (hd : d ≠ 0) (hdb : d.natAbs ≤ 2147483648) :
    val64 (Core.ddiv a b) ≠ .nan ∧ sgn (val64 (Core.ddiv a b)) = (decide (t < 0) != decide (d < 0)) ∧ 0 < zmag b64 (val64 (Core.ddiv a b)) := by
  have hp : 0 < 2 ^ 1042 := Nat.two_pow_pos 1042
  have p : 2 ^ 1074 = 4294967296 * 2 ^ 1042 := by rw [show (1074 : Nat) = 32 + 1042 from rfl, Nat.pow_add]
  have hm : 4294967296 * 2 ^ 1042 ≤ zmag b64 (val64 a) := by
    obtain ⟨V, v1, v2, v3⟩ := own_V 4294967296 (by decide)
    have z := own_zmagN (N := 4294967296) (P := 2 ^ 1042) v3
    have q := zmag_roundRatio_ge good_b64 (s := decide (t < 0)) (A := t.natAbs) (B := 1) (e := 0) (e0 := b64.qmin) (by decide) v1 (Int.le_refl _) (by decide) (by
      unfold inUnits
      rw [z, show (b64.qmin - b64.qmin).toNat = 0 by decide, show (0 - b64.qmin).toNat = 1074 by decide, p]
      exact own_ar2 (by omega))
    rw [← ha, z] at q
    exact q
  have hsg : sgn (val64 a) = decide (t < 0) := by rw [ha, sgn_roundRatio]
  rw [val64_ddiv]
  unfold DInt at hb
  cases h2 : val64 b with
  | nan => rw [h2] at hb; exact hb.elim
  | inf u => rw [h2] at hb; exact hb.elim
  | fin w dd r =>
  rw [h2] at hb
  have hdd : dd ≠ 0 := fun e => hd ((whole_zero hb).mp e)
  have hw := whole_sign hb hd
  cases h1 : val64 a with
  | nan => rw [h1] at ha; exact absurd ha.symm (roundRatio_ne_nan _ _ _ _ _)
  | inf u =>
    rw [h1] at hsg
    have hsg' : u = decide (t < 0) := hsg
    refine ⟨Datum.noConfusion, ?_, ?_⟩
    · show (u != w) = _
      rw [hsg', hw]
    · show 0 < b64.tails * 2 ^ (b64.exps - 2)
      exact Nat.mul_pos (tails_pos _) (Nat.two_pow_pos _)
  | fin u c q =>
    have hfit := val64_fits a
    rw [h1] at hsg hm hfit
    have hsg' : u = decide (t < 0) := hsg
    have e : quotient b64 (.fin u c q) (.fin w dd r) = roundRatio b64 (u != w) c d.natAbs q := by
      show (if dd = 0 then _ else roundRatio b64 (u != w) c dd (q - r)) = _
      rw [if_neg hdd]
      refine roundRatio_congr (by omega) (by omega) ?_
      have e2 := whole_natAbs hb
      rw [show (q - r - q).toNat = (-r).toNat by omega, show (q - (q - r)).toNat = r.toNat by omega, Nat.mul_assoc, ← e2, Nat.mul_assoc]
    rw [e]
    refine ⟨roundRatio_ne_nan _ _ _ _ _, by rw [sgn_roundRatio, hsg', hw], ?_⟩
    obtain ⟨V, v1, v2, v3⟩ := own_V 1 (by decide)
    have z := own_zmagN (N := 1) (P := 2 ^ 1042) v3
    have hq := zmag_roundRatio_ge good_b64 (s := (u != w)) (A := c) (B := d.natAbs) (e := q) (e0 := b64.qmin) (by omega) v1 (Int.le_refl _) hfit.2.1 (by
      have hm' : 4294967296 * 2 ^ 1042 ≤ inUnits c q b64.qmin := hm
      rw [z, show (b64.qmin - b64.qmin).toNat = 0 by decide]
      exact Nat.le_trans (own_ar hdb) hm')
    rw [z, Nat.one_mul] at hq
    exact Nat.lt_of_lt_of_le hp hq
theorem own_sg_pos {x z : UInt64} (hx : val64 x ≠ .nan) (hs : sgn (val64 x) = false) (hm : 0 < zmag b64 (val64 x)) (hz : DInt 0 z) : Core.dcmp x z = some .gt := by
  have zz := own_wz hz (val64_fits z)
  rw [own_cmp hx (own_nn hz), zz, Int.zero_mul]
  congr 1
  refine Int.compare_eq_gt.mpr ?_
  unfold zval; rw [hs]; show (0 : Int) < (zmag b64 (val64 x) : Int); omega
theorem own_sg_neg {x z : UInt64} (hx : val64 x ≠ .nan) (hs : sgn (val64 x) = true) (hm : 0 < zmag b64 (val64 x)) (hz : DInt 0 z) : Core.dcmp x z = some .lt := by
  have zz := own_wz hz (val64_fits z)
  refine own_lt hx (own_nn hz) ?_
  rw [zz, Int.zero_mul]
  unfold zval; rw [hs]; show -(zmag b64 (val64 x) : Int) < 0; omega
end Jvm.OwnF
namespace Jvm.Pilot.@@N@@
open Jvm Jvm.ClassFile Sem Op Lib Jvm.Free Jvm.Stand Jvm.LawKit Jvm.RoadKit Bundle Jvm.OwnW Jvm.Pilot.@@N@@.Jvm.D
theorem own_pn0 : plainName "java/lang/Record" = true := by first | (simp [plainName, overriddenIn]; done) | decide +kernel
theorem own_pn1 : plainName "com/example/lilybank/lilybank/index/CollectionStatistics" = true := by first | (simp [plainName, overriddenIn]; done) | decide +kernel
theorem own_pn2 : plainName "com/example/lilybank/lilybank/index/CollectionStatisticsAverageLengthPinLaw" = true := by first | (simp [plainName, overriddenIn]; done) | decide +kernel
theorem own_pd0 : parseMethodDescriptor "()V" = some ⟨[], none⟩ := by decide +kernel
theorem own_pd1 : parseMethodDescriptor "(IJ)V" = some ⟨[.int, .long], none⟩ := by decide +kernel
theorem own_pd2 : parseMethodDescriptor "()D" = some ⟨[], some .double⟩ := by decide +kernel
theorem own_pd3 : parseMethodDescriptor "(J)J" = some ⟨[.long], some .long⟩ := by decide +kernel
/-- a String that spells bs (its bytes) -/
def Str (Z : State) (h : Heap) (a : Addr) (bs : List Int32) : Prop := Exa Z h a "java/lang/String" ∧ Fld Z h a "java/lang/String" "coder" "B" (.int 0) ∧ ∃ (b : Addr) (kb : ClassId) (z : Int32), Fld Z h a "java/lang/String" "value" "[B" (.ref b) ∧ Arv Z h b kb .byte z (bs.map Value.int) (.int 0) ∧ z.toNatClampNeg = bs.length
theorem Str.ext {Z : State} {h h' : Heap} {a : Addr} {bs : List Int32} (F : Str Z h a bs) (E : Ext h h') : Str Z h' a bs := by
  obtain ⟨f1, f2, b, kb, z, f3, f4, f5⟩ := F
  exact ⟨f1.ext E, f2.ext E, b, kb, z, f3.ext E, f4.ext E, f5⟩
theorem Str.lt {Z : State} {h : Heap} {a : Addr} {bs : List Int32} (F : Str Z h a bs) : a < h.size := F.1.lt
theorem own_fld_inj {Z : State} {h : Heap} {a : Addr} {C n d : String} {v w : Value} (F : Fld Z h a C n d v) (G : Fld Z h a C n d w) : v = w := by
  obtain ⟨c1, cf1, k1, i1, f1, e1, e2, -, -, -, -, e7⟩ := F
  obtain ⟨c2, cf2, k2, i2, f2, g1, g2, -, -, -, -, g7⟩ := G
  cases e1.symm.trans g1
  cases e2.symm.trans g2
  exact Option.some.inj (e7.symm.trans g7)
theorem own_arv_inj {Z : State} {h : Heap} {a : Addr} {k k' : ClassId} {ty : FieldType} {z z' : Int32} {vs ws : List Value} {d : Value} (F : Arv Z h a k ty z vs d) (G : Arv Z h a k' ty z' ws d) (hv : z.toNatClampNeg = vs.length) (hw : z'.toNatClampNeg = ws.length) : vs = ws := by
  obtain ⟨c1, A1, -, s1, -, H1, -⟩ := F
  obtain ⟨c2, A2, -, s2, -, H2, -⟩ := G
  cases A1.1.symm.trans A2.1
  have e : vs.length = ws.length := by omega
  refine List.ext_getElem e fun i h1 h2 => ?_
  have q1 := H1 i (by omega)
  have q2 := H2 i (by omega)
  have q := q1.symm.trans q2
  simpa [List.getD_eq_getElem?_getD, h1, h2] using q
theorem own_map_inj {bs ds : List Int32} (h : bs.map Value.int = ds.map Value.int) : bs = ds :=
  (List.map_inj_right (fun x y e => by injection e)).mp h
theorem Str.inj {Z : State} {h : Heap} {a : Addr} {bs ds : List Int32} (F : Str Z h a bs) (G : Str Z h a ds) : bs = ds := by
  obtain ⟨-, -, b, kb, z, f3, f4, f5⟩ := F
  obtain ⟨-, -, b', kb', z', g3, g4, g5⟩ := G
  have e := own_fld_inj f3 g3
  injection e with e
  subst e
  exact own_map_inj (own_arv_inj f4 g4 (by simpa using f5) (by simpa using g5))
theorem own_n32 {k : Nat} (h : k < 2147483648) : (Int32.ofNat k).toInt = k := by
  rw [Int32.toInt_ofNat', show Int32.size = 4294967296 from rfl]; simp only [Int.bmod]; omega
theorem own_cat {d : Value} (h : d.isRef = true) : d.category = 1 := by rcases ref_cases h with rfl | ⟨a, rfl⟩ <;> rfl
theorem own_ne_t {x y : Value} (h : x ≠ y) : XT.acmp .ne x y = true := decide_eq_true h
theorem own_ne_f {x y : Value} (h : x = y) : XT.acmp .ne x y = false := decide_eq_false (fun q => q h)
theorem own_eq_t {x y : Value} (h : x = y) : XT.acmp .eq x y = true := decide_eq_true h
theorem own_eq_f {x y : Value} (h : x ≠ y) : XT.acmp .eq x y = false := decide_eq_false h
theorem own_clamp {k : Nat} (h : k < 2147483648) : (Int32.ofNat k).toNatClampNeg = k := by
  simp only [Int32.toNatClampNeg, own_n32 h]; rfl
theorem own_z {z : Int32} (h0 : ¬ z < 0) : z = Int32.ofNat z.toNatClampNeg ∧ z.toNatClampNeg < 2147483648 := by
  have q := back32 h0
  exact ⟨q.1.symm, q.2⟩
theorem own_ltN {k m : Nat} (hk : k < 2147483648) (hm : m < 2147483648) : (Int32.ofNat k < Int32.ofNat m) ↔ k < m := by
  rw [Int32.lt_iff_toInt_lt, own_n32 hk, own_n32 hm]; omega
theorem own_nn {k : Nat} (hk : k < 2147483648) : ¬ (Int32.ofNat k < 0) := by
  rw [Int32.lt_iff_toInt_lt, own_n32 hk]
  have e0 : (0 : Int32).toInt = 0 := rfl
  omega
theorem own_inc {k : Nat} (hk : k + 1 < 2147483648) : Int32.ofNat k + Int32.ofInt 1 = Int32.ofNat (k + 1) := by
  rw [← Int32.toInt_inj, Int32.toInt_add, own_n32 (by omega), own_n32 hk]
  have e0 : (Int32.ofInt 1).toInt = 1 := rfl
  rw [e0]; simp only [Int.bmod]; omega

open Jvm.OwnF
def own_abs (x : Int64) : Int64 := if XT.cmpL x 0 < 0 then -x else x
theorem own_cl_eq {x : Int64} (h : x = 0) : XT.cmpL x 0 = 0 := by subst h; decide
theorem own_cl_gt {x : Int64} (h : 0 < x) : XT.cmpL x 0 = 1 := by unfold XT.cmpL; rw [if_pos h]
theorem own_cl_lt {x : Int64} (h : ¬ 0 < x) (h' : ¬ x = 0) : XT.cmpL x 0 = -1 := by unfold XT.cmpL; rw [if_neg h, if_neg h']
theorem own_cl_ne {x : Int64} (h : ¬ x = 0) : ¬ XT.cmpL x 0 = 0 := by
  by_cases q : 0 < x
  · rw [own_cl_gt q]; decide
  · rw [own_cl_lt q h]; decide
theorem own_absI (d : Int32) : (own_abs d.toInt64).toInt = (d.toInt.natAbs : Int) := by
  have b1 := d.le_toInt
  have b2 := d.toInt_lt
  have e : d.toInt64.toInt = d.toInt := Int32.toInt_toInt64 d
  have z : (0 : Int64).toInt = 0 := rfl
  unfold own_abs
  by_cases q : XT.cmpL d.toInt64 0 < 0
  · rw [if_pos q]
    have hl : ¬ 0 < d.toInt64 := fun h => by rw [own_cl_gt h] at q; exact absurd q (by decide)
    have h0 : ¬ d.toInt64 = 0 := fun h => by rw [own_cl_eq h] at q; exact absurd q (by decide)
    rw [Int64.lt_iff_toInt_lt, z, e] at hl
    rw [← Int64.toInt_inj, z, e] at h0
    rw [Int64.toInt_neg, e]; simp only [Int.bmod]; omega
  · rw [if_neg q, e]
    have hl : 0 ≤ d.toInt := by
      refine Int.not_lt.mp fun h => q ?_
      rw [own_cl_lt (by rw [Int64.lt_iff_toInt_lt, z, e]; omega) (by rw [← Int64.toInt_inj, z, e]; omega)]; decide
    omega
theorem own_nn64 {x : UInt64} (h : Jvm.FP.Core.val64 x ≠ .nan) : Jvm.Free.Fl.NoNaN64 x := Jvm.Free.Fl.val64_no.mpr h
def own_kk (k : Int32) : Int64 := (k % 1048576).toInt64
def own_xx (r : Int32) : Int64 := (r &&& 2147483647).toInt64
def own_rr (d r : Int32) : Int64 := own_xx r - (own_xx r / own_abs d.toInt64) * own_abs d.toInt64
def own_te (d k r : Int32) : Int64 := own_kk k * d.toInt64 + own_rr d r
theorem own_one : Jvm.FP.Core.DInt 1 FP.dconst1 := by
  have h := Jvm.FP.Core.l2d_int (a := 1) (by decide)
  rwa [show Jvm.FP.Core.l2d 1 = FP.dconst1 by decide +kernel] at h
theorem own_zero : Jvm.FP.Core.DInt 0 FP.dconst0 := by
  have h := Jvm.FP.Core.l2d_int (a := 0) (by decide)
  rwa [show Jvm.FP.Core.l2d 0 = FP.dconst0 by decide +kernel] at h
theorem own_ints (d k r : Int32) (hd : ¬ d = 0) : d.toInt ≠ 0 ∧ (own_kk k).toInt.natAbs < 1048576 ∧ 0 ≤ (own_rr d r).toInt ∧ (own_rr d r).toInt < d.toInt.natAbs ∧ (own_te d k r).toInt = (own_kk k).toInt * d.toInt + (own_rr d r).toInt ∧ d.toInt.natAbs ≤ 2147483648 ∧ own_abs d.toInt64 ≠ 0 := by
  have b1 := d.le_toInt
  have b2 := d.toInt_lt
  have e0 : (0 : Int32).toInt = 0 := rfl
  have hd' : d.toInt ≠ 0 := fun h => hd (by rw [← Int32.toInt_inj, e0]; exact h)
  have ha := own_absI d
  have ek : (own_kk k).toInt = k.toInt.tmod 1048576 := by unfold own_kk; rw [Int32.toInt_toInt64, Int32.toInt_mod]; rfl
  have ek2 : (own_kk k).toInt.natAbs < 1048576 := by
    rw [ek, Int.natAbs_tmod]; exact Nat.mod_lt _ (by decide)
  have ex : 0 ≤ (own_xx r).toInt := by unfold own_xx; rw [Int32.toInt_toInt64, c_mask r 2147483647 31 (by decide) (by decide)]; omega
  have er : (own_rr d r).toInt = (own_xx r).toInt % (d.toInt.natAbs : Int) := (c_lrem (own_xx r) (own_abs d.toInt64) _ ha).1 ex
  have er1 : 0 ≤ (own_rr d r).toInt := by rw [er]; exact Int.emod_nonneg _ (by omega)
  have er2 : (own_rr d r).toInt < d.toInt.natAbs := by rw [er]; exact Int.emod_lt_of_pos _ (by omega)
  refine ⟨hd', ek2, er1, er2, ?_, by omega, fun h => ?_⟩
  · have hm : ((own_kk k).toInt * d.toInt).natAbs ≤ 1048576 * 2147483648 := by rw [Int.natAbs_mul]; exact Nat.mul_le_mul (by omega) (by omega)
    unfold own_te
    rw [Int64.toInt_add, Int64.toInt_mul, Int32.toInt_toInt64]
    generalize (own_kk k).toInt * d.toInt = P at *
    simp only [Int.bmod]; omega
  · rw [h] at ha; have z : (0 : Int64).toInt = 0 := rfl
    omega
theorem own_a1 {K D R : Int} (h : D ≤ R * 4294967296) : (K * 4294967296 + 1) * D ≤ (K * D + R) * 1 * 4294967296 := by
  have e : (K * 4294967296 + 1) * D = K * D * 4294967296 + D := by rw [Int.add_mul, Int.one_mul, Int.mul_right_comm K 4294967296 D]
  rw [e, Int.mul_one, Int.add_mul]; generalize K * D = P; omega
theorem own_a2 {K D R : Int} (h : R * 4294967296 ≤ D * 4294967296 - D) : (K * D + R) * 1 * 4294967296 ≤ ((K + 1) * 4294967296 - 1) * D := by
  have e : ((K + 1) * 4294967296 - 1) * D = K * D * 4294967296 + D * 4294967296 - D := by rw [Int.sub_mul, Int.one_mul, Int.mul_right_comm, Int.add_mul, Int.one_mul, Int.add_mul]
  rw [e, Int.mul_one, Int.add_mul]; generalize K * D = P; omega
theorem own_a3 {K D R : Int} (h : R * 4294967296 ≤ -(D * 4294967296) + D) : ((K - 1) * 4294967296 + 1) * -D ≤ (K * D + R) * -1 * 4294967296 := by
  have e : ((K - 1) * 4294967296 + 1) * -D = -(K * D * 4294967296) + D * 4294967296 - D := by rw [Int.mul_neg, Int.add_mul, Int.one_mul, Int.mul_right_comm, Int.sub_mul, Int.one_mul, Int.sub_mul]; generalize K * D = P; omega
  rw [e, Int.add_mul, Int.add_mul]; generalize K * D = P; omega
theorem own_a4 {K D R : Int} (h : -D ≤ R * 4294967296) : (K * D + R) * -1 * 4294967296 ≤ ((K - 1 + 1) * 4294967296 - 1) * -D := by
  have e : ((K - 1 + 1) * 4294967296 - 1) * -D = -(K * D * 4294967296) + D := by rw [Int.sub_add_cancel, Int.mul_neg, Int.sub_mul, Int.one_mul, Int.mul_right_comm]; generalize K * D = P; omega
  rw [e, Int.add_mul, Int.add_mul]; generalize K * D = P; omega
theorem own_nums (d k r : Int32) (hd : ¬ d = 0) : Jvm.Free.Fl.NoNaN64 (FP.ddiv (FP.l2d (own_te d k r)) (FP.i2d d)) ∧ (own_rr d r = 0 → FP.dcmp (FP.ddiv (FP.l2d (own_te d k r)) (FP.i2d d)) (FP.l2d (own_kk k)) = some .eq) ∧
    (¬ own_rr d r = 0 → 0 < d → FP.dcmp (FP.l2d (own_kk k)) (FP.ddiv (FP.l2d (own_te d k r)) (FP.i2d d)) = some .lt ∧ Jvm.Free.Fl.NoNaN64 (FP.dadd (FP.l2d (own_kk k)) FP.dconst1) ∧ FP.dcmp (FP.ddiv (FP.l2d (own_te d k r)) (FP.i2d d)) (FP.dadd (FP.l2d (own_kk k)) FP.dconst1) = some .lt) ∧
    (¬ own_rr d r = 0 → ¬ 0 < d → Jvm.Free.Fl.NoNaN64 (FP.dsub (FP.l2d (own_kk k)) FP.dconst1) ∧ FP.dcmp (FP.dsub (FP.l2d (own_kk k)) FP.dconst1) (FP.ddiv (FP.l2d (own_te d k r)) (FP.i2d d)) = some .lt ∧ FP.dcmp (FP.ddiv (FP.l2d (own_te d k r)) (FP.i2d d)) (FP.l2d (own_kk k)) = some .lt) := by
  obtain ⟨hd', h1, h2, h3, h4, h5, -⟩ := own_ints d k r hd
  have z : (0 : Int64).toInt = 0 := rfl
  have z2 : (0 : Int32).toInt = 0 := rfl
  have hm : ((own_kk k).toInt * d.toInt).natAbs ≤ 1048576 * 2147483648 := by rw [Int.natAbs_mul]; exact Nat.mul_le_mul (by omega) (by omega)
  have dt : Jvm.FP.Core.DInt ((own_kk k).toInt * d.toInt + (own_rr d r).toInt) (FP.l2d (own_te d k r)) := by
    have q := Jvm.FP.Core.l2d_int (a := own_te d k r) (by rw [h4]; generalize (own_kk k).toInt * d.toInt = P at *; omega)
    rw [h4] at q; exact q
  have db : Jvm.FP.Core.DInt d.toInt (FP.i2d d) := Jvm.FP.Core.i2d_int d
  have dk : Jvm.FP.Core.DInt (own_kk k).toInt (FP.l2d (own_kk k)) := Jvm.FP.Core.l2d_int (by omega)
  by_cases hr : own_rr d r = 0
  · have hr' : (own_rr d r).toInt = 0 := by rw [hr]; exact z
    rw [hr', Int.add_zero] at dt
    obtain ⟨q1, q2⟩ := own_exact dt db dk hd'
    exact ⟨own_nn64 q1, fun _ => q2, fun h => absurd hr h, fun h => absurd hr h⟩
  · have hr' : (own_rr d r).toInt ≠ 0 := fun h => hr (by rw [← Int64.toInt_inj, z]; exact h)
    by_cases hp : 0 < d
    · have hp' : 0 < d.toInt := by rw [Int32.lt_iff_toInt_lt, z2] at hp; exact hp
      have dg : Jvm.FP.Core.DInt ((own_kk k).toInt + 1) (FP.dadd (FP.l2d (own_kk k)) FP.dconst1) := Jvm.FP.Core.dadd_int dk own_one (by omega)
      have es : d.toInt.sign = 1 := Int.sign_eq_one_of_pos hp'
      have en : (d.toInt.natAbs : Int) = d.toInt := by omega
      generalize (own_kk k).toInt = K at *
      generalize (own_rr d r).toInt = Rr at *
      generalize d.toInt = D at *
      have hi : K * D + Rr ≠ 0 := fun h => by
        have : D ∣ Rr := (Int.dvd_add_right (Int.dvd_mul_left K D)).mp (h ▸ Int.dvd_zero D)
        obtain ⟨w, hw⟩ := this
        rcases Int.lt_trichotomy w 0 with q | q | q
        · have := Int.mul_neg_of_pos_of_neg hp' q; omega
        · rw [q, Int.mul_zero] at hw; exact hr' hw
        · have := Int.mul_le_mul_of_nonneg_left (show (1 : Int) ≤ w by omega) (Int.le_of_lt hp'); omega
      obtain ⟨q1, q2, q3⟩ := own_between dt db dk dg hi hd' (by omega) (by rw [es, en]; exact own_a1 (by omega)) (by rw [es, en]; exact own_a2 (by omega))
      exact ⟨own_nn64 q1, fun h => absurd h hr, fun _ _ => ⟨q2, own_nn64 (Jvm.OwnF.own_nn dg), q3⟩, fun _ h => absurd hp h⟩
    · have hp' : d.toInt < 0 := by rw [Int32.lt_iff_toInt_lt, z2] at hp; omega
      have dg : Jvm.FP.Core.DInt ((own_kk k).toInt - 1) (FP.dsub (FP.l2d (own_kk k)) FP.dconst1) := Jvm.FP.Core.dsub_int dk own_one (by omega)
      have es : d.toInt.sign = -1 := Int.sign_eq_neg_one_of_neg hp'
      have en : (d.toInt.natAbs : Int) = -d.toInt := by omega
      generalize (own_kk k).toInt = K at *
      generalize (own_rr d r).toInt = Rr at *
      generalize d.toInt = D at *
      have hi : K * D + Rr ≠ 0 := fun h => by
        have : D ∣ Rr := (Int.dvd_add_right (Int.dvd_mul_left K D)).mp (h ▸ Int.dvd_zero D)
        obtain ⟨w, hw⟩ := this
        rcases Int.lt_trichotomy w 0 with q | q | q
        · have q2 := Int.mul_le_mul_of_nonneg_left (show (1 : Int) ≤ -w by omega) (show (0 : Int) ≤ -D by omega)
          rw [Int.neg_mul_neg] at q2; omega
        · rw [q, Int.mul_zero] at hw; exact hr' hw
        · have := Int.mul_neg_of_neg_of_pos hp' q; omega
      have dk' : Jvm.FP.Core.DInt (K - 1 + 1) (FP.l2d (own_kk k)) := by rw [Int.sub_add_cancel]; exact dk
      obtain ⟨q1, q2, q3⟩ := own_between dt db dg dk' hi hd' (by omega) (by rw [es, en]; exact own_a3 (by omega)) (by rw [es, en]; exact own_a4 (by omega))
      exact ⟨own_nn64 q1, fun h => absurd h hr, fun _ h => absurd h hp, fun _ _ => ⟨own_nn64 (Jvm.OwnF.own_nn dg), q2, q3⟩⟩
theorem own_sgs (d : Int32) (t : Int64) (hd : ¬ d = 0) : Jvm.Free.Fl.NoNaN64 (FP.ddiv (FP.l2d t) (FP.i2d d)) ∧ (t = 0 → FP.dcmp (FP.ddiv (FP.l2d t) (FP.i2d d)) FP.dconst0 = some .eq) ∧ (¬ t = 0 → (0 < t ↔ 0 < d) → FP.dcmp (FP.ddiv (FP.l2d t) (FP.i2d d)) FP.dconst0 = some .gt) ∧ (¬ t = 0 → ¬ (0 < t ↔ 0 < d) → FP.dcmp (FP.ddiv (FP.l2d t) (FP.i2d d)) FP.dconst0 = some .lt) := by
  obtain ⟨hd', -, -, -, -, h5, -⟩ := own_ints d 0 0 hd
  have z : (0 : Int64).toInt = 0 := rfl
  have z2 : (0 : Int32).toInt = 0 := rfl
  have db : Jvm.FP.Core.DInt d.toInt (FP.i2d d) := Jvm.FP.Core.i2d_int d
  by_cases ht : t = 0
  · have dt : Jvm.FP.Core.DInt 0 (FP.l2d t) := by subst ht; exact Jvm.FP.Core.l2d_int (a := 0) (by decide)
    obtain ⟨q1, q2⟩ := own_ratio0 dt db hd'
    refine ⟨own_nn64 q1, fun _ => Jvm.OwnF.own_eq q1 (Jvm.OwnF.own_nn own_zero) ?_, fun h => absurd ht h, fun h => absurd ht h⟩
    rw [own_wz own_zero (Jvm.FP.Core.val64_fits _), Int.zero_mul]; exact q2
  · have ht' : t.toInt ≠ 0 := fun h => ht (by rw [← Int64.toInt_inj, z]; exact h)
    obtain ⟨q1, q2, q3⟩ := own_sign (t := t.toInt) (a := FP.l2d t) ht' (Jvm.FP.Core.val64_l2d t) db hd' h5
    refine ⟨own_nn64 q1, fun h => absurd h ht, fun _ h => own_sg_pos q1 ?_ q3 own_zero, fun _ h => own_sg_neg q1 ?_ q3 own_zero⟩
    · rw [q2]; rw [Int64.lt_iff_toInt_lt, Int32.lt_iff_toInt_lt, z, z2] at h
      by_cases w : t.toInt < 0 <;> by_cases w' : d.toInt < 0 <;> simp [w, w'] <;> omega
    · rw [q2]; rw [Int64.lt_iff_toInt_lt, Int32.lt_iff_toInt_lt, z, z2] at h
      by_cases w : t.toInt < 0 <;> by_cases w' : d.toInt < 0 <;> simp [w, w'] <;> omega

theorem dRI_0 : decode jdk_30_method_1_code 0 = .ok (.aload_n 0, 1) := by decide +kernel
theorem dRI_1 : decode jdk_30_method_1_code 1 = .ok (.invokespecial 1, 3) := by decide +kernel
theorem dRI_4 : decode jdk_30_method_1_code 4 = .ok (.return_, 1) := by decide +kernel
set_option maxRecDepth 65536 in
set_option maxHeartbeats 40000000 in
theorem own_ri (l : Launch) (Z : State) (a0 : Array Value) (hw : ∀ d ∈ tables_1, d.before a0 Z = true) (EL : List (String × Nat)) (hEL : EW Z a0 EL) (h0 : Heap) (a : Addr) :
    Con l Z EL true [] (⟨"java/lang/Record", "<init>", "()V"⟩ : MethodName) jdk_30_method_1_code 1 none ({ frames := 1, cells := 0, slots := 0, locals := 12 } : Room) #[(.ref a)] h0 (fun v h' => v = none ∧ h0 = h') := by
  refine Con.of (Ls := #[.val (.ref a)]) (plainFor_of_name own_pn0) hEL (fun m => by first | (simp [entryFrame, mkF, argsToLocals, Value.category]; done) | rfl) ?_
  intro vm0 hZ0 hE0 hC0 hS0
  refine WP.aloadN (n := 1) dRI_0 rfl rfl rfl ?_
  refine WP.initO (n := 4) (Wd := 0) dRI_1 (hw _ (List.mem_of_getElem? (i := 11) rfl)) (hw _ (List.mem_of_getElem? (i := 12) rfl)) (hw _ (List.mem_of_getElem? (i := 13) rfl)) rfl (by decide) (Nat.le_of_eq rfl) (by decide) rfl ?_
  refine WP.retV dRI_4 rfl (by decide) (by decide) ?_
  exact ⟨rfl, rfl⟩
theorem dCI_0 : decode prog_3_method_1_code 0 = .ok (.aload_n 0, 1) := by decide +kernel
theorem dCI_1 : decode prog_3_method_1_code 1 = .ok (.invokespecial 1, 3) := by decide +kernel
theorem dCI_4 : decode prog_3_method_1_code 4 = .ok (.aload_n 0, 1) := by decide +kernel
theorem dCI_5 : decode prog_3_method_1_code 5 = .ok (.iload_n 1, 1) := by decide +kernel
theorem dCI_6 : decode prog_3_method_1_code 6 = .ok (.putfield 7, 3) := by decide +kernel
theorem dCI_9 : decode prog_3_method_1_code 9 = .ok (.aload_n 0, 1) := by decide +kernel
theorem dCI_10 : decode prog_3_method_1_code 10 = .ok (.lload_n 2, 1) := by decide +kernel
theorem dCI_11 : decode prog_3_method_1_code 11 = .ok (.putfield 13, 3) := by decide +kernel
theorem dCI_14 : decode prog_3_method_1_code 14 = .ok (.return_, 1) := by decide +kernel
set_option maxRecDepth 65536 in
set_option maxHeartbeats 40000000 in
theorem own_ci (l : Launch) (Z : State) (a0 : Array Value) (hw : ∀ d ∈ tables_1, d.before a0 Z = true) (EL : List (String × Nat)) (hEL : EW Z a0 EL) (h0 : Heap) (a : Addr) (d : Int32) (t : Int64) (hN : Z.heap.size ≤ a) (hA : Exa Z h0 a "com/example/lilybank/lilybank/index/CollectionStatistics") (hD : Fld Z h0 a "com/example/lilybank/lilybank/index/CollectionStatistics" "documents" "I" (.int 0)) (hT : Fld Z h0 a "com/example/lilybank/lilybank/index/CollectionStatistics" "terms" "J" (.long 0)) :
    Con l Z EL true [] (⟨"com/example/lilybank/lilybank/index/CollectionStatistics", "<init>", "(IJ)V"⟩ : MethodName) prog_3_method_1_code 4 none ({ frames := 2, cells := 0, slots := 0, locals := 30 } : Room) #[(.ref a), (.int d), (.long t)] h0 (fun v h' => v = none ∧ Keep h0 h' [a] ∧ Exa Z h' a "com/example/lilybank/lilybank/index/CollectionStatistics" ∧ Fld Z h' a "com/example/lilybank/lilybank/index/CollectionStatistics" "documents" "I" (.int d) ∧ Fld Z h' a "com/example/lilybank/lilybank/index/CollectionStatistics" "terms" "J" (.long t)) := by
  refine Con.of (Ls := #[.val (.ref a), .val (.int d), .val (.long t), .second]) (plainFor_of_name own_pn1) hEL (fun m => by first | (simp [entryFrame, mkF, argsToLocals, Value.category]; done) | rfl) ?_
  intro vm0 hZ0 hE0 hC0 hS0
  refine WP.aloadN (n := 1) dCI_0 rfl rfl rfl ?_
  refine WP.callP (n := 4) (ce' := 0) (sl' := 0) (Wd := 0) (a := a) (argsL := []) (rest := []) (own_ri l Z a0 hw EL hEL h0 a) dCI_1 rfl (hw _ (List.mem_of_getElem? (i := 6) rfl)) (hw _ (List.mem_of_getElem? (i := 7) rfl)) (hw _ (List.mem_of_getElem? (i := 9) rfl)) (hw _ (List.mem_of_getElem? (i := 10) rfl)) (by decide) (fun _ q => nomatch q) (by decide) (by decide) rfl rfl (by decide) (by decide) rfl rfl (lenOf own_pd0 rfl) rfl (Nat.le_of_eq rfl) rfl (fun v1 vm1 h1 q1 r1 => ?_)
  obtain ⟨rfl, rfl⟩ := q1
  refine WP.aloadN (n := 5) dCI_4 rfl rfl rfl ?_
  refine WP.iloadN (n := 6) dCI_5 rfl rfl ?_
  refine WP.putFE (n := 9) (host := "") (ty := .int) dCI_6 (Or.inl (hw _ (List.mem_of_getElem? (i := 14) rfl))) Via.refl hD hA (Or.inr ⟨(hw _ (List.mem_of_getElem? (i := 15) rfl)), rfl, rfl⟩) (hw _ (List.mem_of_getElem? (i := 1) rfl)) (by decide) rfl rfl hN (by decide) rfl (fun h2 W2 r2 => ?_)
  have A2 := hA.wr W2
  have K2 := (Keep.refl h0 [a]).wr W2 (Or.inl (List.mem_cons_self ..))
  have F2_documents := hD.same W2
  have F2_terms := hT.other W2 (Or.inr (slot_ne (t := .long) (t' := .int) (Or.inr (hw _ (List.mem_of_getElem? (i := 17) rfl))) (Or.inr (hw _ (List.mem_of_getElem? (i := 15) rfl))) (by decide) (by decide) (by decide)))
  refine WP.aloadN (n := 10) dCI_9 rfl rfl rfl ?_
  refine WP.lloadN (n := 11) dCI_10 rfl rfl ?_
  refine WP.putFE (n := 14) (host := "") (ty := .long) dCI_11 (Or.inl (hw _ (List.mem_of_getElem? (i := 16) rfl))) Via.refl F2_terms A2 (Or.inr ⟨(hw _ (List.mem_of_getElem? (i := 17) rfl)), rfl, rfl⟩) (hw _ (List.mem_of_getElem? (i := 1) rfl)) (by decide) rfl rfl hN (by decide) rfl (fun h3 W3 r3 => ?_)
  have A3 := A2.wr W3
  have K3 := K2.wr W3 (Or.inl (List.mem_cons_self ..))
  have F3_terms := F2_terms.same W3
  have F3_documents := F2_documents.other W3 (Or.inr (slot_ne (t := .int) (t' := .long) (Or.inr (hw _ (List.mem_of_getElem? (i := 15) rfl))) (Or.inr (hw _ (List.mem_of_getElem? (i := 17) rfl))) (by decide) (by decide) (by decide)))
  refine WP.retV dCI_14 rfl (by decide) (by decide) ?_
  exact ⟨rfl, K3, A3, F3_documents, F3_terms⟩
theorem dA0_0 : decode prog_3_method_2_code 0 = .ok (.aload_n 0, 1) := by decide +kernel
theorem dA0_1 : decode prog_3_method_2_code 1 = .ok (.getfield 7, 3) := by decide +kernel
theorem dA0_4 : decode prog_3_method_2_code 4 = .ok (.ifCond .ne 7, 3) := by decide +kernel
theorem dA0_7 : decode prog_3_method_2_code 7 = .ok (.dconst 0, 1) := by decide +kernel
theorem dA0_8 : decode prog_3_method_2_code 8 = .ok (.goto 14, 3) := by decide +kernel
theorem dA0_11 : decode prog_3_method_2_code 11 = .ok (.aload_n 0, 1) := by decide +kernel
theorem dA0_12 : decode prog_3_method_2_code 12 = .ok (.getfield 13, 3) := by decide +kernel
theorem dA0_15 : decode prog_3_method_2_code 15 = .ok (.l2d, 1) := by decide +kernel
theorem dA0_16 : decode prog_3_method_2_code 16 = .ok (.aload_n 0, 1) := by decide +kernel
theorem dA0_17 : decode prog_3_method_2_code 17 = .ok (.getfield 7, 3) := by decide +kernel
theorem dA0_20 : decode prog_3_method_2_code 20 = .ok (.i2d, 1) := by decide +kernel
theorem dA0_21 : decode prog_3_method_2_code 21 = .ok (.ddiv, 1) := by decide +kernel
theorem dA0_22 : decode prog_3_method_2_code 22 = .ok (.dreturn, 1) := by decide +kernel
set_option maxRecDepth 65536 in
set_option maxHeartbeats 40000000 in
theorem own_al0 (l : Launch) (Z : State) (a0 : Array Value) (hw : ∀ d ∈ tables_1, d.before a0 Z = true) (EL : List (String × Nat)) (hEL : EW Z a0 EL) (h0 : Heap) (a : Addr) (d : Int32) (t : Int64) (D : Fld Z h0 a "com/example/lilybank/lilybank/index/CollectionStatistics" "documents" "I" (.int d)) (F : Fld Z h0 a "com/example/lilybank/lilybank/index/CollectionStatistics" "terms" "J" (.long t)) (hd : d = 0) :
    Con l Z EL true [] (⟨"com/example/lilybank/lilybank/index/CollectionStatistics", "averageLength", "()D"⟩ : MethodName) prog_3_method_2_code 1 (some .double) ({ frames := 0, cells := 0, slots := 0, locals := 0 } : Room) #[(.ref a)] h0 (fun v h' => v = some (.double FP.dconst0) ∧ h0 = h') := by
  refine Con.of (Ls := #[.val (.ref a)]) (plainFor_of_name own_pn1) hEL (fun m => by first | (simp [entryFrame, mkF, argsToLocals, Value.category]; done) | rfl) ?_
  intro vm0 hZ0 hE0 hC0 hS0
  refine WP.aloadN (n := 1) dA0_0 rfl rfl rfl ?_
  refine WP.getF (n := 4) (host := "") dA0_1 (Or.inl (hw _ (List.mem_of_getElem? (i := 14) rfl))) Via.refl D rfl ?_
  refine WP.ifcN (n' := 7) dA0_4 ((if0 _ _).trans (teq hd).2) rfl ?_
  refine WP.dconst0 (n := 8) (v := FP.dconst0) dA0_7 rfl rfl ?_
  refine WP.goto (n := 22) dA0_8 (by decide) (by decide) ?_
  exact WP.retD dA0_22 rfl (by decide) (by decide) ⟨rfl, rfl⟩
theorem dA1_0 : decode prog_3_method_2_code 0 = .ok (.aload_n 0, 1) := by decide +kernel
theorem dA1_1 : decode prog_3_method_2_code 1 = .ok (.getfield 7, 3) := by decide +kernel
theorem dA1_4 : decode prog_3_method_2_code 4 = .ok (.ifCond .ne 7, 3) := by decide +kernel
theorem dA1_7 : decode prog_3_method_2_code 7 = .ok (.dconst 0, 1) := by decide +kernel
theorem dA1_8 : decode prog_3_method_2_code 8 = .ok (.goto 14, 3) := by decide +kernel
theorem dA1_11 : decode prog_3_method_2_code 11 = .ok (.aload_n 0, 1) := by decide +kernel
theorem dA1_12 : decode prog_3_method_2_code 12 = .ok (.getfield 13, 3) := by decide +kernel
theorem dA1_15 : decode prog_3_method_2_code 15 = .ok (.l2d, 1) := by decide +kernel
theorem dA1_16 : decode prog_3_method_2_code 16 = .ok (.aload_n 0, 1) := by decide +kernel
theorem dA1_17 : decode prog_3_method_2_code 17 = .ok (.getfield 7, 3) := by decide +kernel
theorem dA1_20 : decode prog_3_method_2_code 20 = .ok (.i2d, 1) := by decide +kernel
theorem dA1_21 : decode prog_3_method_2_code 21 = .ok (.ddiv, 1) := by decide +kernel
theorem dA1_22 : decode prog_3_method_2_code 22 = .ok (.dreturn, 1) := by decide +kernel
set_option maxRecDepth 65536 in
set_option maxHeartbeats 40000000 in
theorem own_al1 (l : Launch) (Z : State) (a0 : Array Value) (hw : ∀ d ∈ tables_1, d.before a0 Z = true) (EL : List (String × Nat)) (hEL : EW Z a0 EL) (h0 : Heap) (a : Addr) (d : Int32) (t : Int64) (D : Fld Z h0 a "com/example/lilybank/lilybank/index/CollectionStatistics" "documents" "I" (.int d)) (F : Fld Z h0 a "com/example/lilybank/lilybank/index/CollectionStatistics" "terms" "J" (.long t)) (hd : ¬ d = 0) (hn : Jvm.Free.Fl.NoNaN64 (FP.ddiv (FP.l2d t) (FP.i2d d))) :
    Con l Z EL true [] (⟨"com/example/lilybank/lilybank/index/CollectionStatistics", "averageLength", "()D"⟩ : MethodName) prog_3_method_2_code 1 (some .double) ({ frames := 0, cells := 0, slots := 0, locals := 0 } : Room) #[(.ref a)] h0 (fun v h' => v = some (.double (FP.ddiv (FP.l2d t) (FP.i2d d))) ∧ h0 = h') := by
  refine Con.of (Ls := #[.val (.ref a)]) (plainFor_of_name own_pn1) hEL (fun m => by first | (simp [entryFrame, mkF, argsToLocals, Value.category]; done) | rfl) ?_
  intro vm0 hZ0 hE0 hC0 hS0
  refine WP.aloadN (n := 1) dA1_0 rfl rfl rfl ?_
  refine WP.getF (n := 4) (host := "") dA1_1 (Or.inl (hw _ (List.mem_of_getElem? (i := 14) rfl))) Via.refl D rfl ?_
  refine WP.ifcY (n := 11) dA1_4 ((if0 _ _).trans (feq hd).2) (by decide) (by decide) ?_
  refine WP.aloadN (n := 12) dA1_11 rfl rfl rfl ?_
  refine WP.getF (n := 15) (host := "") dA1_12 (Or.inl (hw _ (List.mem_of_getElem? (i := 16) rfl))) Via.refl F rfl ?_
  refine WP.l2d (n := 16) dA1_15  rfl ?_
  refine WP.aloadN (n := 17) dA1_16 rfl rfl rfl ?_
  refine WP.getF (n := 20) (host := "") dA1_17 (Or.inl (hw _ (List.mem_of_getElem? (i := 14) rfl))) Via.refl D rfl ?_
  refine WP.i2d (n := 21) dA1_20  rfl ?_
  refine WP.ddiv (n := 22) dA1_21 hn rfl ?_
  exact WP.retD dA1_22 rfl (by decide) (by decide) ⟨rfl, rfl⟩
theorem dMA_0 : decode jdk_29_method_61_code 0 = .ok (.lload_n 0, 1) := by decide +kernel
theorem dMA_1 : decode jdk_29_method_61_code 1 = .ok (.lconst 0, 1) := by decide +kernel
theorem dMA_2 : decode jdk_29_method_61_code 2 = .ok (.lcmp, 1) := by decide +kernel
theorem dMA_3 : decode jdk_29_method_61_code 3 = .ok (.ifCond .ge 8, 3) := by decide +kernel
theorem dMA_6 : decode jdk_29_method_61_code 6 = .ok (.lload_n 0, 1) := by decide +kernel
theorem dMA_7 : decode jdk_29_method_61_code 7 = .ok (.lneg, 1) := by decide +kernel
theorem dMA_8 : decode jdk_29_method_61_code 8 = .ok (.goto 4, 3) := by decide +kernel
theorem dMA_11 : decode jdk_29_method_61_code 11 = .ok (.lload_n 0, 1) := by decide +kernel
theorem dMA_12 : decode jdk_29_method_61_code 12 = .ok (.lreturn, 1) := by decide +kernel
set_option maxRecDepth 65536 in
set_option maxHeartbeats 40000000 in
theorem own_mab (l : Launch) (Z : State) (a0 : Array Value) (hw : ∀ d ∈ tables_1, d.before a0 Z = true) (EL : List (String × Nat)) (hEL : EW Z a0 EL) (h0 : Heap) (x : Int64) :
    Con l Z EL true [] (⟨"java/lang/Math", "abs", "(J)J"⟩ : MethodName) jdk_29_method_61_code 2 (some .long) ({ frames := 0, cells := 0, slots := 0, locals := 0 } : Room) #[(.long x)] h0 (fun v h' => v = some (.long (own_abs x)) ∧ h0 = h') := by
  refine Con.of (Ls := #[.val (.long x), .second]) (by decide +kernel) hEL (fun m => by first | (simp [entryFrame, mkF, argsToLocals, Value.category]; done) | rfl) ?_
  intro vm0 hZ0 hE0 hC0 hS0
  refine WP.lloadN (n := 1) dMA_0 rfl rfl ?_
  refine WP.lconst (n := 2) (z := (0 : Int64)) dMA_1 rfl rfl ?_
  refine WP.lcmp (n := 3) dMA_2  rfl ?_
  refine WP.if_ge (n := 11) (n' := 6) dMA_3 (by decide) (by decide) rfl (fun b4 => ?_) (fun b4 => ?_)
  · refine WP.lloadN (n := 12) dMA_11 rfl rfl ?_
    exact WP.retL dMA_12 rfl (by decide) (by decide) ⟨by unfold own_abs; rw [if_neg b4], rfl⟩
  · refine WP.lloadN (n := 7) dMA_6 rfl rfl ?_
    refine WP.lneg (n := 8) dMA_7  rfl ?_
    refine WP.goto (n := 12) dMA_8 (by decide) (by decide) ?_
    exact WP.retL dMA_12 rfl (by decide) (by decide) ⟨by unfold own_abs; rw [if_pos b4], rfl⟩
set_option maxRecDepth 65536 in
set_option maxHeartbeats 40000000 in
theorem own_law (l : Launch) (Z : State) (a0 : Array Value) (hw : ∀ d ∈ tables_1, d.before a0 Z = true) (EL : List (String × Nat)) (hEL : EW Z a0 EL) (h0 : Heap) (i0 i1 i2 : Int32) (j3 : Int64) :
    Con l Z EL true [] x code maxLocals ret room_1 #[(.int i0), (.int i1), (.int i2), (.long j3)] h0 (fun v h' => v = some (.int 1)) := by
  refine Con.of (Ls := #[.val (.int i0), .val (.int i1), .val (.int i2), .val (.long j3), .second, .unset, .unset, .unset, .unset, .unset, .unset, .unset, .unset, .unset, .unset, .unset, .unset, .unset, .unset, .unset, .unset, .unset]) (plainFor_of_name own_pn2) hEL (fun m => by first | (simp [entryFrame, mkF, argsToLocals, Value.category, maxLocals]; done) | rfl) ?_
  intro vm0 hZ0 hE0 hC0 hS0
  show WP l Z EL true "com/example/lilybank/lilybank/index/CollectionStatisticsAverageLengthPinLaw" "law" "(IIIJ)Z" code maxLocals ret room_1 _ vm0 h0 0 0 0 _ _
  refine WP.new (n := 3) (ce' := 1) (sl' := 2) at_0 (hw _ (List.mem_of_getElem? (i := 0) rfl)) (hw _ (List.mem_of_getElem? (i := 1) rfl)) (hw _ (List.mem_of_getElem? (i := 2) rfl)) rfl rfl (by decide) (by decide) rfl (fun a5 h5 g5 E5 A5 D5 S5 N5 r5 => ?_)
  refine WP.dup (n := 4) at_3 rfl rfl ?_
  refine WP.iconst (n := 5) (z := (0 : Int32)) at_4 rfl rfl ?_
  refine WP.lloadN (n := 6) at_5 rfl rfl ?_
  refine WP.callP (n := 9) (ce' := 1) (sl' := 2) (Wd := 1) (a := a5) (argsL := [(.int (0 : Int32)), (.long j3)]) (rest := [(.ref a5)]) (own_ci l Z a0 hw EL hEL h5 a5 (0 : Int32) j3 N5 A5 (D5 (Or.inr (hw _ (List.mem_of_getElem? (i := 15) rfl))) (ty := .int) (by decide)) (D5 (Or.inr (hw _ (List.mem_of_getElem? (i := 17) rfl))) (ty := .long) (by decide))) at_6 rfl (hw _ (List.mem_of_getElem? (i := 3) rfl)) (hw _ (List.mem_of_getElem? (i := 4) rfl)) (hw _ (List.mem_of_getElem? (i := 2) rfl)) (hw _ (List.mem_of_getElem? (i := 5) rfl)) (by decide) (fun _ q => nomatch q) (by decide) (by decide) rfl rfl (by decide) (by decide) rfl rfl (lenOf own_pd1 rfl) rfl (Nat.le_of_eq rfl) rfl (fun v6 vm6 h6 q6 r6 => ?_)
  obtain ⟨rfl, K6, A6, D6, F6⟩ := q6
  refine WP.callV (n := 12) (ce' := 1) (sl' := 2) (Wd := 0) (a := a5) (argsL := []) (rest := []) (own_al0 l Z a0 hw EL hEL h6 a5 (0 : Int32) j3 D6 F6 rfl) A6 at_9 (hw _ (List.mem_of_getElem? (i := 18) rfl)) (hw _ (List.mem_of_getElem? (i := 19) rfl)) (hw _ (List.mem_of_getElem? (i := 21) rfl)) (hw _ (List.mem_of_getElem? (i := 20) rfl)) (hw _ (List.mem_of_getElem? (i := 2) rfl)) (hw _ (List.mem_of_getElem? (i := 22) rfl)) (by decide) (fun _ hz => notFace_of_selects (args := #[]) (mvT hz (hw _ (List.mem_of_getElem? (i := 21) rfl)))) (fun _ q => nomatch q) (by decide) (by decide) rfl rfl (by decide) (by decide) rfl rfl (lenOf own_pd2 rfl) rfl (Nat.le_of_eq rfl) rfl (fun v7 vm7 h7 q7 r7 => ?_)
  obtain ⟨rfl, rfl⟩ := q7
  refine WP.dstore (n := 14) (Ls' := #[.val (.int i0), .val (.int i1), .val (.int i2), .val (.long j3), .second, .val (.double FP.dconst0), .second, .unset, .unset, .unset, .unset, .unset, .unset, .unset, .unset, .unset, .unset, .unset, .unset, .unset, .unset, .unset]) at_12 rfl rfl ?_
  refine WP.dload (n := 16) at_14 rfl rfl ?_
  refine WP.dconst0 (n := 17) (v := FP.dconst0) at_16 rfl rfl ?_
  refine WP.dcmp (n := 18) (v := (0 : Int32)) at_17 (by rw [show FP.dcmp _ _ = _ from (by decide +kernel : FP.dcmp FP.dconst0 FP.dconst0 = some .eq)]; rfl) rfl ?_
  refine WP.ifcN (n' := 21) at_18 (by decide) rfl ?_
  refine WP.iconst (n := 22) (z := (1 : Int32)) at_21 rfl rfl ?_
  refine WP.goto (n := 26) at_22 (by decide) (by decide) ?_
  refine WP.istore (n := 28) (Ls' := #[.val (.int i0), .val (.int i1), .val (.int i2), .val (.long j3), .second, .val (.double FP.dconst0), .second, .val (.int (1 : Int32)), .unset, .unset, .unset, .unset, .unset, .unset, .unset, .unset, .unset, .unset, .unset, .unset, .unset, .unset]) at_26 rfl rfl ?_
  refine WP.iloadN (n := 29) at_28 rfl rfl ?_
  by_cases hd : i0 = 0
  · refine WP.ifcN (n' := 32) at_29 ((if0 _ _).trans (teq hd).2) rfl ?_
    refine WP.iload (n := 34) at_32 rfl rfl ?_
    exact WP.retN at_34 rfl (Or.inl rfl) (by decide : nar .boolean 1 = 1) (by decide) (by decide) rfl
  · have nu := own_nums i0 i1 i2 hd
    have sg := own_sgs i0 j3 hd
    have it := own_ints i0 i1 i2 hd
    refine WP.ifcY (n := 35) at_29 ((if0 _ _).trans (feq hd).2) (by decide) (by decide) ?_
    refine WP.iloadN (n := 36) at_35 rfl rfl ?_
    refine WP.i2l (n := 37) at_36  rfl ?_
    refine WP.callS (n := 40) (ce' := 1) (sl' := 2) (Wd := 0) (argsL := [(.long (i0.toInt64))]) (rest := []) (own_mab l Z a0 hw EL hEL h6 (i0.toInt64)) at_37 (hw _ (List.mem_of_getElem? (i := 23) rfl)) (hw _ (List.mem_of_getElem? (i := 24) rfl)) (hw _ (List.mem_of_getElem? (i := 25) rfl)) (hw _ (List.mem_of_getElem? (i := 26) rfl)) (by decide) (fun _ q => nomatch q) (by decide) (by decide) rfl rfl (by decide) (by decide) rfl rfl (lenOf own_pd3 rfl) rfl (Nat.le_of_eq rfl) rfl (fun v8 vm8 h8 q8 r8 => ?_)
    obtain ⟨rfl, rfl⟩ := q8
    refine WP.lstore (n := 42) (Ls' := #[.val (.int i0), .val (.int i1), .val (.int i2), .val (.long j3), .second, .val (.double FP.dconst0), .second, .val (.int (1 : Int32)), .val (.long (own_abs (i0.toInt64))), .second, .unset, .unset, .unset, .unset, .unset, .unset, .unset, .unset, .unset, .unset, .unset, .unset]) at_40 rfl rfl ?_
    refine WP.iloadN (n := 43) at_42 rfl rfl ?_
    refine WP.ldcI (n := 45) (v := (1048576 : Int32)) at_43 (hw _ (List.mem_of_getElem? (i := 27) rfl)) rfl ?_
    refine WP.irem (n := 46) at_45 (by decide) rfl ?_
    refine WP.i2l (n := 47) at_46  rfl ?_
    refine WP.lstore (n := 49) (Ls' := #[.val (.int i0), .val (.int i1), .val (.int i2), .val (.long j3), .second, .val (.double FP.dconst0), .second, .val (.int (1 : Int32)), .val (.long (own_abs (i0.toInt64))), .second, .val (.long (own_kk i1)), .second, .unset, .unset, .unset, .unset, .unset, .unset, .unset, .unset, .unset, .unset]) at_47 rfl rfl ?_
    refine WP.iloadN (n := 50) at_49 rfl rfl ?_
    refine WP.ldcI (n := 52) (v := (2147483647 : Int32)) at_50 (hw _ (List.mem_of_getElem? (i := 28) rfl)) rfl ?_
    refine WP.iand (n := 53) at_52  rfl ?_
    refine WP.i2l (n := 54) at_53  rfl ?_
    refine WP.lload (n := 56) at_54 rfl rfl ?_
    refine WP.lrem (n := 57) at_56 it.2.2.2.2.2.2 rfl ?_
    refine WP.lstore (n := 59) (Ls' := #[.val (.int i0), .val (.int i1), .val (.int i2), .val (.long j3), .second, .val (.double FP.dconst0), .second, .val (.int (1 : Int32)), .val (.long (own_abs (i0.toInt64))), .second, .val (.long (own_kk i1)), .second, .val (.long (own_rr i0 i2)), .second, .unset, .unset, .unset, .unset, .unset, .unset, .unset, .unset]) at_57 rfl rfl ?_
    refine WP.lload (n := 61) at_59 rfl rfl ?_
    refine WP.iloadN (n := 62) at_61 rfl rfl ?_
    refine WP.i2l (n := 63) at_62  rfl ?_
    refine WP.lmul (n := 64) at_63  rfl ?_
    refine WP.lload (n := 66) at_64 rfl rfl ?_
    refine WP.ladd (n := 67) at_66  rfl ?_
    refine WP.lstore (n := 69) (Ls' := #[.val (.int i0), .val (.int i1), .val (.int i2), .val (.long j3), .second, .val (.double FP.dconst0), .second, .val (.int (1 : Int32)), .val (.long (own_abs (i0.toInt64))), .second, .val (.long (own_kk i1)), .second, .val (.long (own_rr i0 i2)), .second, .val (.long (own_te i0 i1 i2)), .second, .unset, .unset, .unset, .unset, .unset, .unset]) at_67 rfl rfl ?_
    refine WP.new (n := 72) (ce' := 2) (sl' := 4) at_69 (hw _ (List.mem_of_getElem? (i := 0) rfl)) (hw _ (List.mem_of_getElem? (i := 1) rfl)) (hw _ (List.mem_of_getElem? (i := 2) rfl)) rfl rfl (by decide) (by decide) rfl (fun a9 h9 g9 E9 A9 D9 S9 N9 r9 => ?_)
    refine WP.dup (n := 73) at_72 rfl rfl ?_
    refine WP.iloadN (n := 74) at_73 rfl rfl ?_
    refine WP.lload (n := 76) at_74 rfl rfl ?_
    refine WP.callP (n := 79) (ce' := 2) (sl' := 4) (Wd := 1) (a := a9) (argsL := [(.int i0), (.long (own_te i0 i1 i2))]) (rest := [(.ref a9)]) (own_ci l Z a0 hw EL hEL h9 a9 i0 (own_te i0 i1 i2) N9 A9 (D9 (Or.inr (hw _ (List.mem_of_getElem? (i := 15) rfl))) (ty := .int) (by decide)) (D9 (Or.inr (hw _ (List.mem_of_getElem? (i := 17) rfl))) (ty := .long) (by decide))) at_76 rfl (hw _ (List.mem_of_getElem? (i := 3) rfl)) (hw _ (List.mem_of_getElem? (i := 4) rfl)) (hw _ (List.mem_of_getElem? (i := 2) rfl)) (hw _ (List.mem_of_getElem? (i := 5) rfl)) (by decide) (fun _ q => nomatch q) (by decide) (by decide) rfl rfl (by decide) (by decide) rfl rfl (lenOf own_pd1 rfl) rfl (Nat.le_of_eq rfl) rfl (fun v10 vm10 h10 q10 r10 => ?_)
    obtain ⟨rfl, K10, A10, D10, F10⟩ := q10
    refine WP.callV (n := 82) (ce' := 2) (sl' := 4) (Wd := 0) (a := a9) (argsL := []) (rest := []) (own_al1 l Z a0 hw EL hEL h10 a9 i0 (own_te i0 i1 i2) D10 F10 hd nu.1) A10 at_79 (hw _ (List.mem_of_getElem? (i := 18) rfl)) (hw _ (List.mem_of_getElem? (i := 19) rfl)) (hw _ (List.mem_of_getElem? (i := 21) rfl)) (hw _ (List.mem_of_getElem? (i := 20) rfl)) (hw _ (List.mem_of_getElem? (i := 2) rfl)) (hw _ (List.mem_of_getElem? (i := 22) rfl)) (by decide) (fun _ hz => notFace_of_selects (args := #[]) (mvT hz (hw _ (List.mem_of_getElem? (i := 21) rfl)))) (fun _ q => nomatch q) (by decide) (by decide) rfl rfl (by decide) (by decide) rfl rfl (lenOf own_pd2 rfl) rfl (Nat.le_of_eq rfl) rfl (fun v11 vm11 h11 q11 r11 => ?_)
    obtain ⟨rfl, rfl⟩ := q11
    refine WP.dstore (n := 84) (Ls' := #[.val (.int i0), .val (.int i1), .val (.int i2), .val (.long j3), .second, .val (.double FP.dconst0), .second, .val (.int (1 : Int32)), .val (.long (own_abs (i0.toInt64))), .second, .val (.long (own_kk i1)), .second, .val (.long (own_rr i0 i2)), .second, .val (.long (own_te i0 i1 i2)), .second, .val (.double (FP.ddiv (FP.l2d (own_te i0 i1 i2)) (FP.i2d i0))), .second, .unset, .unset, .unset, .unset]) at_82 rfl rfl ?_
    refine WP.lload (n := 86) at_84 rfl rfl ?_
    refine WP.lconst (n := 87) (z := (0 : Int64)) at_86 rfl rfl ?_
    refine WP.lcmp (n := 88) at_87  rfl ?_
    by_cases hr : own_rr i0 i2 = 0
    · refine WP.ifcN (n' := 91) at_88 ((if0 _ _).trans (teq (own_cl_eq hr)).2) rfl ?_
      refine WP.dload (n := 93) at_91 rfl rfl ?_
      refine WP.lload (n := 95) at_93 rfl rfl ?_
      refine WP.l2d (n := 96) at_95  rfl ?_
      refine WP.dcmp (n := 97) (v := (0 : Int32)) at_96 (by rw [show FP.dcmp _ _ = _ from nu.2.1 hr]; rfl) rfl ?_
      refine WP.ifcN (n' := 100) at_97 (by decide) rfl ?_
      refine WP.iconst (n := 101) (z := (1 : Int32)) at_100 rfl rfl ?_
      refine WP.goto (n := 105) at_101 (by decide) (by decide) ?_
      refine WP.istore (n := 107) (Ls' := #[.val (.int i0), .val (.int i1), .val (.int i2), .val (.long j3), .second, .val (.double FP.dconst0), .second, .val (.int (1 : Int32)), .val (.long (own_abs (i0.toInt64))), .second, .val (.long (own_kk i1)), .second, .val (.long (own_rr i0 i2)), .second, .val (.long (own_te i0 i1 i2)), .second, .val (.double (FP.ddiv (FP.l2d (own_te i0 i1 i2)) (FP.i2d i0))), .second, .val (.int (1 : Int32)), .unset, .unset, .unset]) at_105 rfl rfl ?_
      refine WP.goto (n := 171) at_107 (by decide) (by decide) ?_
      refine WP.new (n := 174) (ce' := 3) (sl' := 6) at_171 (hw _ (List.mem_of_getElem? (i := 0) rfl)) (hw _ (List.mem_of_getElem? (i := 1) rfl)) (hw _ (List.mem_of_getElem? (i := 2) rfl)) rfl rfl (by decide) (by decide) rfl (fun a12 h12 g12 E12 A12 D12 S12 N12 r12 => ?_)
      refine WP.dup (n := 175) at_174 rfl rfl ?_
      refine WP.iloadN (n := 176) at_175 rfl rfl ?_
      refine WP.lloadN (n := 177) at_176 rfl rfl ?_
      refine WP.callP (n := 180) (ce' := 3) (sl' := 6) (Wd := 1) (a := a12) (argsL := [(.int i0), (.long j3)]) (rest := [(.ref a12)]) (own_ci l Z a0 hw EL hEL h12 a12 i0 j3 N12 A12 (D12 (Or.inr (hw _ (List.mem_of_getElem? (i := 15) rfl))) (ty := .int) (by decide)) (D12 (Or.inr (hw _ (List.mem_of_getElem? (i := 17) rfl))) (ty := .long) (by decide))) at_177 rfl (hw _ (List.mem_of_getElem? (i := 3) rfl)) (hw _ (List.mem_of_getElem? (i := 4) rfl)) (hw _ (List.mem_of_getElem? (i := 2) rfl)) (hw _ (List.mem_of_getElem? (i := 5) rfl)) (by decide) (fun _ q => nomatch q) (by decide) (by decide) rfl rfl (by decide) (by decide) rfl rfl (lenOf own_pd1 rfl) rfl (Nat.le_of_eq rfl) rfl (fun v13 vm13 h13 q13 r13 => ?_)
      obtain ⟨rfl, K13, A13, D13, F13⟩ := q13
      refine WP.callV (n := 183) (ce' := 3) (sl' := 6) (Wd := 0) (a := a12) (argsL := []) (rest := []) (own_al1 l Z a0 hw EL hEL h13 a12 i0 j3 D13 F13 hd sg.1) A13 at_180 (hw _ (List.mem_of_getElem? (i := 18) rfl)) (hw _ (List.mem_of_getElem? (i := 19) rfl)) (hw _ (List.mem_of_getElem? (i := 21) rfl)) (hw _ (List.mem_of_getElem? (i := 20) rfl)) (hw _ (List.mem_of_getElem? (i := 2) rfl)) (hw _ (List.mem_of_getElem? (i := 22) rfl)) (by decide) (fun _ hz => notFace_of_selects (args := #[]) (mvT hz (hw _ (List.mem_of_getElem? (i := 21) rfl)))) (fun _ q => nomatch q) (by decide) (by decide) rfl rfl (by decide) (by decide) rfl rfl (lenOf own_pd2 rfl) rfl (Nat.le_of_eq rfl) rfl (fun v14 vm14 h14 q14 r14 => ?_)
      obtain ⟨rfl, rfl⟩ := q14
      refine WP.dstore (n := 185) (Ls' := #[.val (.int i0), .val (.int i1), .val (.int i2), .val (.long j3), .second, .val (.double FP.dconst0), .second, .val (.int (1 : Int32)), .val (.long (own_abs (i0.toInt64))), .second, .val (.long (own_kk i1)), .second, .val (.long (own_rr i0 i2)), .second, .val (.long (own_te i0 i1 i2)), .second, .val (.double (FP.ddiv (FP.l2d (own_te i0 i1 i2)) (FP.i2d i0))), .second, .val (.int (1 : Int32)), .val (.double (FP.ddiv (FP.l2d j3) (FP.i2d i0))), .second, .unset]) at_183 rfl rfl ?_
      refine WP.lloadN (n := 186) at_185 rfl rfl ?_
      refine WP.lconst (n := 187) (z := (0 : Int64)) at_186 rfl rfl ?_
      refine WP.lcmp (n := 188) at_187  rfl ?_
      by_cases ht : j3 = 0
      · refine WP.ifcN (n' := 191) at_188 ((if0 _ _).trans (teq (own_cl_eq ht)).2) rfl ?_
        refine WP.dload (n := 193) at_191 rfl rfl ?_
        refine WP.dconst0 (n := 194) (v := FP.dconst0) at_193 rfl rfl ?_
        refine WP.dcmp (n := 195) (v := (0 : Int32)) at_194 (by rw [show FP.dcmp _ _ = _ from sg.2.1 ht]; rfl) rfl ?_
        refine WP.ifcN (n' := 198) at_195 (by decide) rfl ?_
        refine WP.iconst (n := 199) (z := (1 : Int32)) at_198 rfl rfl ?_
        refine WP.goto (n := 203) at_199 (by decide) (by decide) ?_
        refine WP.istore (n := 205) (Ls' := #[.val (.int i0), .val (.int i1), .val (.int i2), .val (.long j3), .second, .val (.double FP.dconst0), .second, .val (.int (1 : Int32)), .val (.long (own_abs (i0.toInt64))), .second, .val (.long (own_kk i1)), .second, .val (.long (own_rr i0 i2)), .second, .val (.long (own_te i0 i1 i2)), .second, .val (.double (FP.ddiv (FP.l2d (own_te i0 i1 i2)) (FP.i2d i0))), .second, .val (.int (1 : Int32)), .val (.double (FP.ddiv (FP.l2d j3) (FP.i2d i0))), .second, .val (.int (1 : Int32))]) at_203 rfl rfl ?_
        refine WP.goto (n := 262) at_205 (by decide) (by decide) ?_
        refine WP.iload (n := 264) at_262 rfl rfl ?_
        refine WP.ifcN (n' := 267) at_264 (by decide) rfl ?_
        refine WP.iload (n := 269) at_267 rfl rfl ?_
        refine WP.ifcN (n' := 272) at_269 (by decide) rfl ?_
        refine WP.iload (n := 274) at_272 rfl rfl ?_
        refine WP.ifcN (n' := 277) at_274 (by decide) rfl ?_
        refine WP.iconst (n := 278) (z := (1 : Int32)) at_277 rfl rfl ?_
        refine WP.goto (n := 282) at_278 (by decide) (by decide) ?_
        exact WP.retN at_282 rfl (Or.inl rfl) (by decide : nar .boolean 1 = 1) (by decide) (by decide) rfl
      · refine WP.ifcY (n := 208) at_188 ((if0 _ _).trans (feq (own_cl_ne ht)).2) (by decide) (by decide) ?_
        refine WP.lloadN (n := 209) at_208 rfl rfl ?_
        refine WP.lconst (n := 210) (z := (0 : Int64)) at_209 rfl rfl ?_
        refine WP.lcmp (n := 211) at_210  rfl ?_
        by_cases hu : 0 < j3
        · rw [own_cl_gt hu]
          refine WP.ifcN (n' := 214) at_211 (by decide) rfl ?_
          refine WP.iconst (n := 215) (z := (1 : Int32)) at_214 rfl rfl ?_
          refine WP.goto (n := 219) at_215 (by decide) (by decide) ?_
          refine WP.iloadN (n := 220) at_219 rfl rfl ?_
          by_cases hp2 : 0 < i0
          · refine WP.ifcN (n' := 223) at_220 ((if0 _ _).trans (tlt hp2).2.2.2) rfl ?_
            refine WP.iconst (n := 224) (z := (1 : Int32)) at_223 rfl rfl ?_
            refine WP.goto (n := 228) at_224 (by decide) (by decide) ?_
            refine WP.icmpN (n' := 231) at_228 (by decide) rfl ?_
            refine WP.dload (n := 233) at_231 rfl rfl ?_
            refine WP.dconst0 (n := 234) (v := FP.dconst0) at_233 rfl rfl ?_
            refine WP.dcmp (n := 235) (v := (1 : Int32)) at_234 (by rw [show FP.dcmp _ _ = _ from sg.2.2.1 ht ⟨fun _ => hp2, fun _ => hu⟩]; rfl) rfl ?_
            refine WP.ifcN (n' := 238) at_235 (by decide) rfl ?_
            refine WP.iconst (n := 239) (z := (1 : Int32)) at_238 rfl rfl ?_
            refine WP.goto (n := 243) at_239 (by decide) (by decide) ?_
            refine WP.istore (n := 245) (Ls' := #[.val (.int i0), .val (.int i1), .val (.int i2), .val (.long j3), .second, .val (.double FP.dconst0), .second, .val (.int (1 : Int32)), .val (.long (own_abs (i0.toInt64))), .second, .val (.long (own_kk i1)), .second, .val (.long (own_rr i0 i2)), .second, .val (.long (own_te i0 i1 i2)), .second, .val (.double (FP.ddiv (FP.l2d (own_te i0 i1 i2)) (FP.i2d i0))), .second, .val (.int (1 : Int32)), .val (.double (FP.ddiv (FP.l2d j3) (FP.i2d i0))), .second, .val (.int (1 : Int32))]) at_243 rfl rfl ?_
            refine WP.goto (n := 262) at_245 (by decide) (by decide) ?_
            refine WP.iload (n := 264) at_262 rfl rfl ?_
            refine WP.ifcN (n' := 267) at_264 (by decide) rfl ?_
            refine WP.iload (n := 269) at_267 rfl rfl ?_
            refine WP.ifcN (n' := 272) at_269 (by decide) rfl ?_
            refine WP.iload (n := 274) at_272 rfl rfl ?_
            refine WP.ifcN (n' := 277) at_274 (by decide) rfl ?_
            refine WP.iconst (n := 278) (z := (1 : Int32)) at_277 rfl rfl ?_
            refine WP.goto (n := 282) at_278 (by decide) (by decide) ?_
            exact WP.retN at_282 rfl (Or.inl rfl) (by decide : nar .boolean 1 = 1) (by decide) (by decide) rfl
          · refine WP.ifcY (n := 227) at_220 ((if0 _ _).trans (flt hp2).2.2.2) (by decide) (by decide) ?_
            refine WP.iconst (n := 228) (z := (0 : Int32)) at_227 rfl rfl ?_
            refine WP.icmpY (n := 248) at_228 (by decide) (by decide) (by decide) ?_
            refine WP.dload (n := 250) at_248 rfl rfl ?_
            refine WP.dconst0 (n := 251) (v := FP.dconst0) at_250 rfl rfl ?_
            refine WP.dcmp (n := 252) (v := (-1 : Int32)) at_251 (by rw [show FP.dcmp _ _ = _ from sg.2.2.2 ht (fun e => hp2 (e.mp hu))]; rfl) rfl ?_
            refine WP.ifcN (n' := 255) at_252 (by decide) rfl ?_
            refine WP.iconst (n := 256) (z := (1 : Int32)) at_255 rfl rfl ?_
            refine WP.goto (n := 260) at_256 (by decide) (by decide) ?_
            refine WP.istore (n := 262) (Ls' := #[.val (.int i0), .val (.int i1), .val (.int i2), .val (.long j3), .second, .val (.double FP.dconst0), .second, .val (.int (1 : Int32)), .val (.long (own_abs (i0.toInt64))), .second, .val (.long (own_kk i1)), .second, .val (.long (own_rr i0 i2)), .second, .val (.long (own_te i0 i1 i2)), .second, .val (.double (FP.ddiv (FP.l2d (own_te i0 i1 i2)) (FP.i2d i0))), .second, .val (.int (1 : Int32)), .val (.double (FP.ddiv (FP.l2d j3) (FP.i2d i0))), .second, .val (.int (1 : Int32))]) at_260 rfl rfl ?_
            refine WP.iload (n := 264) at_262 rfl rfl ?_
            refine WP.ifcN (n' := 267) at_264 (by decide) rfl ?_
            refine WP.iload (n := 269) at_267 rfl rfl ?_
            refine WP.ifcN (n' := 272) at_269 (by decide) rfl ?_
            refine WP.iload (n := 274) at_272 rfl rfl ?_
            refine WP.ifcN (n' := 277) at_274 (by decide) rfl ?_
            refine WP.iconst (n := 278) (z := (1 : Int32)) at_277 rfl rfl ?_
            refine WP.goto (n := 282) at_278 (by decide) (by decide) ?_
            exact WP.retN at_282 rfl (Or.inl rfl) (by decide : nar .boolean 1 = 1) (by decide) (by decide) rfl
        · rw [own_cl_lt hu ht]
          refine WP.ifcY (n := 218) at_211 (by decide) (by decide) (by decide) ?_
          refine WP.iconst (n := 219) (z := (0 : Int32)) at_218 rfl rfl ?_
          refine WP.iloadN (n := 220) at_219 rfl rfl ?_
          by_cases hp2 : 0 < i0
          · refine WP.ifcN (n' := 223) at_220 ((if0 _ _).trans (tlt hp2).2.2.2) rfl ?_
            refine WP.iconst (n := 224) (z := (1 : Int32)) at_223 rfl rfl ?_
            refine WP.goto (n := 228) at_224 (by decide) (by decide) ?_
            refine WP.icmpY (n := 248) at_228 (by decide) (by decide) (by decide) ?_
            refine WP.dload (n := 250) at_248 rfl rfl ?_
            refine WP.dconst0 (n := 251) (v := FP.dconst0) at_250 rfl rfl ?_
            refine WP.dcmp (n := 252) (v := (-1 : Int32)) at_251 (by rw [show FP.dcmp _ _ = _ from sg.2.2.2 ht (fun e => hu (e.mpr hp2))]; rfl) rfl ?_
            refine WP.ifcN (n' := 255) at_252 (by decide) rfl ?_
            refine WP.iconst (n := 256) (z := (1 : Int32)) at_255 rfl rfl ?_
            refine WP.goto (n := 260) at_256 (by decide) (by decide) ?_
            refine WP.istore (n := 262) (Ls' := #[.val (.int i0), .val (.int i1), .val (.int i2), .val (.long j3), .second, .val (.double FP.dconst0), .second, .val (.int (1 : Int32)), .val (.long (own_abs (i0.toInt64))), .second, .val (.long (own_kk i1)), .second, .val (.long (own_rr i0 i2)), .second, .val (.long (own_te i0 i1 i2)), .second, .val (.double (FP.ddiv (FP.l2d (own_te i0 i1 i2)) (FP.i2d i0))), .second, .val (.int (1 : Int32)), .val (.double (FP.ddiv (FP.l2d j3) (FP.i2d i0))), .second, .val (.int (1 : Int32))]) at_260 rfl rfl ?_
            refine WP.iload (n := 264) at_262 rfl rfl ?_
            refine WP.ifcN (n' := 267) at_264 (by decide) rfl ?_
            refine WP.iload (n := 269) at_267 rfl rfl ?_
            refine WP.ifcN (n' := 272) at_269 (by decide) rfl ?_
            refine WP.iload (n := 274) at_272 rfl rfl ?_
            refine WP.ifcN (n' := 277) at_274 (by decide) rfl ?_
            refine WP.iconst (n := 278) (z := (1 : Int32)) at_277 rfl rfl ?_
            refine WP.goto (n := 282) at_278 (by decide) (by decide) ?_
            exact WP.retN at_282 rfl (Or.inl rfl) (by decide : nar .boolean 1 = 1) (by decide) (by decide) rfl
          · refine WP.ifcY (n := 227) at_220 ((if0 _ _).trans (flt hp2).2.2.2) (by decide) (by decide) ?_
            refine WP.iconst (n := 228) (z := (0 : Int32)) at_227 rfl rfl ?_
            refine WP.icmpN (n' := 231) at_228 (by decide) rfl ?_
            refine WP.dload (n := 233) at_231 rfl rfl ?_
            refine WP.dconst0 (n := 234) (v := FP.dconst0) at_233 rfl rfl ?_
            refine WP.dcmp (n := 235) (v := (1 : Int32)) at_234 (by rw [show FP.dcmp _ _ = _ from sg.2.2.1 ht ⟨fun h => absurd h hu, fun h => absurd h hp2⟩]; rfl) rfl ?_
            refine WP.ifcN (n' := 238) at_235 (by decide) rfl ?_
            refine WP.iconst (n := 239) (z := (1 : Int32)) at_238 rfl rfl ?_
            refine WP.goto (n := 243) at_239 (by decide) (by decide) ?_
            refine WP.istore (n := 245) (Ls' := #[.val (.int i0), .val (.int i1), .val (.int i2), .val (.long j3), .second, .val (.double FP.dconst0), .second, .val (.int (1 : Int32)), .val (.long (own_abs (i0.toInt64))), .second, .val (.long (own_kk i1)), .second, .val (.long (own_rr i0 i2)), .second, .val (.long (own_te i0 i1 i2)), .second, .val (.double (FP.ddiv (FP.l2d (own_te i0 i1 i2)) (FP.i2d i0))), .second, .val (.int (1 : Int32)), .val (.double (FP.ddiv (FP.l2d j3) (FP.i2d i0))), .second, .val (.int (1 : Int32))]) at_243 rfl rfl ?_
            refine WP.goto (n := 262) at_245 (by decide) (by decide) ?_
            refine WP.iload (n := 264) at_262 rfl rfl ?_
            refine WP.ifcN (n' := 267) at_264 (by decide) rfl ?_
            refine WP.iload (n := 269) at_267 rfl rfl ?_
            refine WP.ifcN (n' := 272) at_269 (by decide) rfl ?_
            refine WP.iload (n := 274) at_272 rfl rfl ?_
            refine WP.ifcN (n' := 277) at_274 (by decide) rfl ?_
            refine WP.iconst (n := 278) (z := (1 : Int32)) at_277 rfl rfl ?_
            refine WP.goto (n := 282) at_278 (by decide) (by decide) ?_
            exact WP.retN at_282 rfl (Or.inl rfl) (by decide : nar .boolean 1 = 1) (by decide) (by decide) rfl
    · refine WP.ifcY (n := 110) at_88 ((if0 _ _).trans (feq (own_cl_ne hr)).2) (by decide) (by decide) ?_
      refine WP.iloadN (n := 111) at_110 rfl rfl ?_
      by_cases hp : 0 < i0
      · have nv := nu.2.2.1 hr hp
        refine WP.ifcN (n' := 114) at_111 ((if0 _ _).trans (tlt hp).2.2.2) rfl ?_
        refine WP.lload (n := 116) at_114 rfl rfl ?_
        refine WP.l2d (n := 117) at_116  rfl ?_
        refine WP.dload (n := 119) at_117 rfl rfl ?_
        refine WP.dcmp (n := 120) (v := (-1 : Int32)) at_119 (by rw [show FP.dcmp _ _ = _ from nv.1]; rfl) rfl ?_
        refine WP.ifcN (n' := 123) at_120 (by decide) rfl ?_
        refine WP.dload (n := 125) at_123 rfl rfl ?_
        refine WP.lload (n := 127) at_125 rfl rfl ?_
        refine WP.l2d (n := 128) at_127  rfl ?_
        refine WP.dconst1 (n := 129) (v := FP.dconst1) at_128 rfl rfl ?_
        refine WP.dadd (n := 130) at_129 nv.2.1 rfl ?_
        refine WP.dcmp (n := 131) (v := (-1 : Int32)) at_130 (by rw [show FP.dcmp _ _ = _ from nv.2.2]; rfl) rfl ?_
        refine WP.ifcN (n' := 134) at_131 (by decide) rfl ?_
        refine WP.iconst (n := 135) (z := (1 : Int32)) at_134 rfl rfl ?_
        refine WP.goto (n := 139) at_135 (by decide) (by decide) ?_
        refine WP.istore (n := 141) (Ls' := #[.val (.int i0), .val (.int i1), .val (.int i2), .val (.long j3), .second, .val (.double FP.dconst0), .second, .val (.int (1 : Int32)), .val (.long (own_abs (i0.toInt64))), .second, .val (.long (own_kk i1)), .second, .val (.long (own_rr i0 i2)), .second, .val (.long (own_te i0 i1 i2)), .second, .val (.double (FP.ddiv (FP.l2d (own_te i0 i1 i2)) (FP.i2d i0))), .second, .val (.int (1 : Int32)), .unset, .unset, .unset]) at_139 rfl rfl ?_
        refine WP.goto (n := 171) at_141 (by decide) (by decide) ?_
        refine WP.new (n := 174) (ce' := 3) (sl' := 6) at_171 (hw _ (List.mem_of_getElem? (i := 0) rfl)) (hw _ (List.mem_of_getElem? (i := 1) rfl)) (hw _ (List.mem_of_getElem? (i := 2) rfl)) rfl rfl (by decide) (by decide) rfl (fun a15 h15 g15 E15 A15 D15 S15 N15 r15 => ?_)
        refine WP.dup (n := 175) at_174 rfl rfl ?_
        refine WP.iloadN (n := 176) at_175 rfl rfl ?_
        refine WP.lloadN (n := 177) at_176 rfl rfl ?_
        refine WP.callP (n := 180) (ce' := 3) (sl' := 6) (Wd := 1) (a := a15) (argsL := [(.int i0), (.long j3)]) (rest := [(.ref a15)]) (own_ci l Z a0 hw EL hEL h15 a15 i0 j3 N15 A15 (D15 (Or.inr (hw _ (List.mem_of_getElem? (i := 15) rfl))) (ty := .int) (by decide)) (D15 (Or.inr (hw _ (List.mem_of_getElem? (i := 17) rfl))) (ty := .long) (by decide))) at_177 rfl (hw _ (List.mem_of_getElem? (i := 3) rfl)) (hw _ (List.mem_of_getElem? (i := 4) rfl)) (hw _ (List.mem_of_getElem? (i := 2) rfl)) (hw _ (List.mem_of_getElem? (i := 5) rfl)) (by decide) (fun _ q => nomatch q) (by decide) (by decide) rfl rfl (by decide) (by decide) rfl rfl (lenOf own_pd1 rfl) rfl (Nat.le_of_eq rfl) rfl (fun v16 vm16 h16 q16 r16 => ?_)
        obtain ⟨rfl, K16, A16, D16, F16⟩ := q16
        refine WP.callV (n := 183) (ce' := 3) (sl' := 6) (Wd := 0) (a := a15) (argsL := []) (rest := []) (own_al1 l Z a0 hw EL hEL h16 a15 i0 j3 D16 F16 hd sg.1) A16 at_180 (hw _ (List.mem_of_getElem? (i := 18) rfl)) (hw _ (List.mem_of_getElem? (i := 19) rfl)) (hw _ (List.mem_of_getElem? (i := 21) rfl)) (hw _ (List.mem_of_getElem? (i := 20) rfl)) (hw _ (List.mem_of_getElem? (i := 2) rfl)) (hw _ (List.mem_of_getElem? (i := 22) rfl)) (by decide) (fun _ hz => notFace_of_selects (args := #[]) (mvT hz (hw _ (List.mem_of_getElem? (i := 21) rfl)))) (fun _ q => nomatch q) (by decide) (by decide) rfl rfl (by decide) (by decide) rfl rfl (lenOf own_pd2 rfl) rfl (Nat.le_of_eq rfl) rfl (fun v17 vm17 h17 q17 r17 => ?_)
        obtain ⟨rfl, rfl⟩ := q17
        refine WP.dstore (n := 185) (Ls' := #[.val (.int i0), .val (.int i1), .val (.int i2), .val (.long j3), .second, .val (.double FP.dconst0), .second, .val (.int (1 : Int32)), .val (.long (own_abs (i0.toInt64))), .second, .val (.long (own_kk i1)), .second, .val (.long (own_rr i0 i2)), .second, .val (.long (own_te i0 i1 i2)), .second, .val (.double (FP.ddiv (FP.l2d (own_te i0 i1 i2)) (FP.i2d i0))), .second, .val (.int (1 : Int32)), .val (.double (FP.ddiv (FP.l2d j3) (FP.i2d i0))), .second, .unset]) at_183 rfl rfl ?_
        refine WP.lloadN (n := 186) at_185 rfl rfl ?_
        refine WP.lconst (n := 187) (z := (0 : Int64)) at_186 rfl rfl ?_
        refine WP.lcmp (n := 188) at_187  rfl ?_
        by_cases ht : j3 = 0
        · refine WP.ifcN (n' := 191) at_188 ((if0 _ _).trans (teq (own_cl_eq ht)).2) rfl ?_
          refine WP.dload (n := 193) at_191 rfl rfl ?_
          refine WP.dconst0 (n := 194) (v := FP.dconst0) at_193 rfl rfl ?_
          refine WP.dcmp (n := 195) (v := (0 : Int32)) at_194 (by rw [show FP.dcmp _ _ = _ from sg.2.1 ht]; rfl) rfl ?_
          refine WP.ifcN (n' := 198) at_195 (by decide) rfl ?_
          refine WP.iconst (n := 199) (z := (1 : Int32)) at_198 rfl rfl ?_
          refine WP.goto (n := 203) at_199 (by decide) (by decide) ?_
          refine WP.istore (n := 205) (Ls' := #[.val (.int i0), .val (.int i1), .val (.int i2), .val (.long j3), .second, .val (.double FP.dconst0), .second, .val (.int (1 : Int32)), .val (.long (own_abs (i0.toInt64))), .second, .val (.long (own_kk i1)), .second, .val (.long (own_rr i0 i2)), .second, .val (.long (own_te i0 i1 i2)), .second, .val (.double (FP.ddiv (FP.l2d (own_te i0 i1 i2)) (FP.i2d i0))), .second, .val (.int (1 : Int32)), .val (.double (FP.ddiv (FP.l2d j3) (FP.i2d i0))), .second, .val (.int (1 : Int32))]) at_203 rfl rfl ?_
          refine WP.goto (n := 262) at_205 (by decide) (by decide) ?_
          refine WP.iload (n := 264) at_262 rfl rfl ?_
          refine WP.ifcN (n' := 267) at_264 (by decide) rfl ?_
          refine WP.iload (n := 269) at_267 rfl rfl ?_
          refine WP.ifcN (n' := 272) at_269 (by decide) rfl ?_
          refine WP.iload (n := 274) at_272 rfl rfl ?_
          refine WP.ifcN (n' := 277) at_274 (by decide) rfl ?_
          refine WP.iconst (n := 278) (z := (1 : Int32)) at_277 rfl rfl ?_
          refine WP.goto (n := 282) at_278 (by decide) (by decide) ?_
          exact WP.retN at_282 rfl (Or.inl rfl) (by decide : nar .boolean 1 = 1) (by decide) (by decide) rfl
        · refine WP.ifcY (n := 208) at_188 ((if0 _ _).trans (feq (own_cl_ne ht)).2) (by decide) (by decide) ?_
          refine WP.lloadN (n := 209) at_208 rfl rfl ?_
          refine WP.lconst (n := 210) (z := (0 : Int64)) at_209 rfl rfl ?_
          refine WP.lcmp (n := 211) at_210  rfl ?_
          by_cases hu : 0 < j3
          · rw [own_cl_gt hu]
            refine WP.ifcN (n' := 214) at_211 (by decide) rfl ?_
            refine WP.iconst (n := 215) (z := (1 : Int32)) at_214 rfl rfl ?_
            refine WP.goto (n := 219) at_215 (by decide) (by decide) ?_
            refine WP.iloadN (n := 220) at_219 rfl rfl ?_
            by_cases hp2 : 0 < i0
            · refine WP.ifcN (n' := 223) at_220 ((if0 _ _).trans (tlt hp2).2.2.2) rfl ?_
              refine WP.iconst (n := 224) (z := (1 : Int32)) at_223 rfl rfl ?_
              refine WP.goto (n := 228) at_224 (by decide) (by decide) ?_
              refine WP.icmpN (n' := 231) at_228 (by decide) rfl ?_
              refine WP.dload (n := 233) at_231 rfl rfl ?_
              refine WP.dconst0 (n := 234) (v := FP.dconst0) at_233 rfl rfl ?_
              refine WP.dcmp (n := 235) (v := (1 : Int32)) at_234 (by rw [show FP.dcmp _ _ = _ from sg.2.2.1 ht ⟨fun _ => hp2, fun _ => hu⟩]; rfl) rfl ?_
              refine WP.ifcN (n' := 238) at_235 (by decide) rfl ?_
              refine WP.iconst (n := 239) (z := (1 : Int32)) at_238 rfl rfl ?_
              refine WP.goto (n := 243) at_239 (by decide) (by decide) ?_
              refine WP.istore (n := 245) (Ls' := #[.val (.int i0), .val (.int i1), .val (.int i2), .val (.long j3), .second, .val (.double FP.dconst0), .second, .val (.int (1 : Int32)), .val (.long (own_abs (i0.toInt64))), .second, .val (.long (own_kk i1)), .second, .val (.long (own_rr i0 i2)), .second, .val (.long (own_te i0 i1 i2)), .second, .val (.double (FP.ddiv (FP.l2d (own_te i0 i1 i2)) (FP.i2d i0))), .second, .val (.int (1 : Int32)), .val (.double (FP.ddiv (FP.l2d j3) (FP.i2d i0))), .second, .val (.int (1 : Int32))]) at_243 rfl rfl ?_
              refine WP.goto (n := 262) at_245 (by decide) (by decide) ?_
              refine WP.iload (n := 264) at_262 rfl rfl ?_
              refine WP.ifcN (n' := 267) at_264 (by decide) rfl ?_
              refine WP.iload (n := 269) at_267 rfl rfl ?_
              refine WP.ifcN (n' := 272) at_269 (by decide) rfl ?_
              refine WP.iload (n := 274) at_272 rfl rfl ?_
              refine WP.ifcN (n' := 277) at_274 (by decide) rfl ?_
              refine WP.iconst (n := 278) (z := (1 : Int32)) at_277 rfl rfl ?_
              refine WP.goto (n := 282) at_278 (by decide) (by decide) ?_
              exact WP.retN at_282 rfl (Or.inl rfl) (by decide : nar .boolean 1 = 1) (by decide) (by decide) rfl
            · refine WP.ifcY (n := 227) at_220 ((if0 _ _).trans (flt hp2).2.2.2) (by decide) (by decide) ?_
              refine WP.iconst (n := 228) (z := (0 : Int32)) at_227 rfl rfl ?_
              refine WP.icmpY (n := 248) at_228 (by decide) (by decide) (by decide) ?_
              refine WP.dload (n := 250) at_248 rfl rfl ?_
              refine WP.dconst0 (n := 251) (v := FP.dconst0) at_250 rfl rfl ?_
              refine WP.dcmp (n := 252) (v := (-1 : Int32)) at_251 (by rw [show FP.dcmp _ _ = _ from sg.2.2.2 ht (fun e => hp2 (e.mp hu))]; rfl) rfl ?_
              refine WP.ifcN (n' := 255) at_252 (by decide) rfl ?_
              refine WP.iconst (n := 256) (z := (1 : Int32)) at_255 rfl rfl ?_
              refine WP.goto (n := 260) at_256 (by decide) (by decide) ?_
              refine WP.istore (n := 262) (Ls' := #[.val (.int i0), .val (.int i1), .val (.int i2), .val (.long j3), .second, .val (.double FP.dconst0), .second, .val (.int (1 : Int32)), .val (.long (own_abs (i0.toInt64))), .second, .val (.long (own_kk i1)), .second, .val (.long (own_rr i0 i2)), .second, .val (.long (own_te i0 i1 i2)), .second, .val (.double (FP.ddiv (FP.l2d (own_te i0 i1 i2)) (FP.i2d i0))), .second, .val (.int (1 : Int32)), .val (.double (FP.ddiv (FP.l2d j3) (FP.i2d i0))), .second, .val (.int (1 : Int32))]) at_260 rfl rfl ?_
              refine WP.iload (n := 264) at_262 rfl rfl ?_
              refine WP.ifcN (n' := 267) at_264 (by decide) rfl ?_
              refine WP.iload (n := 269) at_267 rfl rfl ?_
              refine WP.ifcN (n' := 272) at_269 (by decide) rfl ?_
              refine WP.iload (n := 274) at_272 rfl rfl ?_
              refine WP.ifcN (n' := 277) at_274 (by decide) rfl ?_
              refine WP.iconst (n := 278) (z := (1 : Int32)) at_277 rfl rfl ?_
              refine WP.goto (n := 282) at_278 (by decide) (by decide) ?_
              exact WP.retN at_282 rfl (Or.inl rfl) (by decide : nar .boolean 1 = 1) (by decide) (by decide) rfl
          · rw [own_cl_lt hu ht]
            refine WP.ifcY (n := 218) at_211 (by decide) (by decide) (by decide) ?_
            refine WP.iconst (n := 219) (z := (0 : Int32)) at_218 rfl rfl ?_
            refine WP.iloadN (n := 220) at_219 rfl rfl ?_
            by_cases hp2 : 0 < i0
            · refine WP.ifcN (n' := 223) at_220 ((if0 _ _).trans (tlt hp2).2.2.2) rfl ?_
              refine WP.iconst (n := 224) (z := (1 : Int32)) at_223 rfl rfl ?_
              refine WP.goto (n := 228) at_224 (by decide) (by decide) ?_
              refine WP.icmpY (n := 248) at_228 (by decide) (by decide) (by decide) ?_
              refine WP.dload (n := 250) at_248 rfl rfl ?_
              refine WP.dconst0 (n := 251) (v := FP.dconst0) at_250 rfl rfl ?_
              refine WP.dcmp (n := 252) (v := (-1 : Int32)) at_251 (by rw [show FP.dcmp _ _ = _ from sg.2.2.2 ht (fun e => hu (e.mpr hp2))]; rfl) rfl ?_
              refine WP.ifcN (n' := 255) at_252 (by decide) rfl ?_
              refine WP.iconst (n := 256) (z := (1 : Int32)) at_255 rfl rfl ?_
              refine WP.goto (n := 260) at_256 (by decide) (by decide) ?_
              refine WP.istore (n := 262) (Ls' := #[.val (.int i0), .val (.int i1), .val (.int i2), .val (.long j3), .second, .val (.double FP.dconst0), .second, .val (.int (1 : Int32)), .val (.long (own_abs (i0.toInt64))), .second, .val (.long (own_kk i1)), .second, .val (.long (own_rr i0 i2)), .second, .val (.long (own_te i0 i1 i2)), .second, .val (.double (FP.ddiv (FP.l2d (own_te i0 i1 i2)) (FP.i2d i0))), .second, .val (.int (1 : Int32)), .val (.double (FP.ddiv (FP.l2d j3) (FP.i2d i0))), .second, .val (.int (1 : Int32))]) at_260 rfl rfl ?_
              refine WP.iload (n := 264) at_262 rfl rfl ?_
              refine WP.ifcN (n' := 267) at_264 (by decide) rfl ?_
              refine WP.iload (n := 269) at_267 rfl rfl ?_
              refine WP.ifcN (n' := 272) at_269 (by decide) rfl ?_
              refine WP.iload (n := 274) at_272 rfl rfl ?_
              refine WP.ifcN (n' := 277) at_274 (by decide) rfl ?_
              refine WP.iconst (n := 278) (z := (1 : Int32)) at_277 rfl rfl ?_
              refine WP.goto (n := 282) at_278 (by decide) (by decide) ?_
              exact WP.retN at_282 rfl (Or.inl rfl) (by decide : nar .boolean 1 = 1) (by decide) (by decide) rfl
            · refine WP.ifcY (n := 227) at_220 ((if0 _ _).trans (flt hp2).2.2.2) (by decide) (by decide) ?_
              refine WP.iconst (n := 228) (z := (0 : Int32)) at_227 rfl rfl ?_
              refine WP.icmpN (n' := 231) at_228 (by decide) rfl ?_
              refine WP.dload (n := 233) at_231 rfl rfl ?_
              refine WP.dconst0 (n := 234) (v := FP.dconst0) at_233 rfl rfl ?_
              refine WP.dcmp (n := 235) (v := (1 : Int32)) at_234 (by rw [show FP.dcmp _ _ = _ from sg.2.2.1 ht ⟨fun h => absurd h hu, fun h => absurd h hp2⟩]; rfl) rfl ?_
              refine WP.ifcN (n' := 238) at_235 (by decide) rfl ?_
              refine WP.iconst (n := 239) (z := (1 : Int32)) at_238 rfl rfl ?_
              refine WP.goto (n := 243) at_239 (by decide) (by decide) ?_
              refine WP.istore (n := 245) (Ls' := #[.val (.int i0), .val (.int i1), .val (.int i2), .val (.long j3), .second, .val (.double FP.dconst0), .second, .val (.int (1 : Int32)), .val (.long (own_abs (i0.toInt64))), .second, .val (.long (own_kk i1)), .second, .val (.long (own_rr i0 i2)), .second, .val (.long (own_te i0 i1 i2)), .second, .val (.double (FP.ddiv (FP.l2d (own_te i0 i1 i2)) (FP.i2d i0))), .second, .val (.int (1 : Int32)), .val (.double (FP.ddiv (FP.l2d j3) (FP.i2d i0))), .second, .val (.int (1 : Int32))]) at_243 rfl rfl ?_
              refine WP.goto (n := 262) at_245 (by decide) (by decide) ?_
              refine WP.iload (n := 264) at_262 rfl rfl ?_
              refine WP.ifcN (n' := 267) at_264 (by decide) rfl ?_
              refine WP.iload (n := 269) at_267 rfl rfl ?_
              refine WP.ifcN (n' := 272) at_269 (by decide) rfl ?_
              refine WP.iload (n := 274) at_272 rfl rfl ?_
              refine WP.ifcN (n' := 277) at_274 (by decide) rfl ?_
              refine WP.iconst (n := 278) (z := (1 : Int32)) at_277 rfl rfl ?_
              refine WP.goto (n := 282) at_278 (by decide) (by decide) ?_
              exact WP.retN at_282 rfl (Or.inl rfl) (by decide : nar .boolean 1 = 1) (by decide) (by decide) rfl
      · have nw := nu.2.2.2 hr hp
        refine WP.ifcY (n := 144) at_111 ((if0 _ _).trans (flt hp).2.2.2) (by decide) (by decide) ?_
        refine WP.lload (n := 146) at_144 rfl rfl ?_
        refine WP.l2d (n := 147) at_146  rfl ?_
        refine WP.dconst1 (n := 148) (v := FP.dconst1) at_147 rfl rfl ?_
        refine WP.dsub (n := 149) at_148 nw.1 rfl ?_
        refine WP.dload (n := 151) at_149 rfl rfl ?_
        refine WP.dcmp (n := 152) (v := (-1 : Int32)) at_151 (by rw [show FP.dcmp _ _ = _ from nw.2.1]; rfl) rfl ?_
        refine WP.ifcN (n' := 155) at_152 (by decide) rfl ?_
        refine WP.dload (n := 157) at_155 rfl rfl ?_
        refine WP.lload (n := 159) at_157 rfl rfl ?_
        refine WP.l2d (n := 160) at_159  rfl ?_
        refine WP.dcmp (n := 161) (v := (-1 : Int32)) at_160 (by rw [show FP.dcmp _ _ = _ from nw.2.2]; rfl) rfl ?_
        refine WP.ifcN (n' := 164) at_161 (by decide) rfl ?_
        refine WP.iconst (n := 165) (z := (1 : Int32)) at_164 rfl rfl ?_
        refine WP.goto (n := 169) at_165 (by decide) (by decide) ?_
        refine WP.istore (n := 171) (Ls' := #[.val (.int i0), .val (.int i1), .val (.int i2), .val (.long j3), .second, .val (.double FP.dconst0), .second, .val (.int (1 : Int32)), .val (.long (own_abs (i0.toInt64))), .second, .val (.long (own_kk i1)), .second, .val (.long (own_rr i0 i2)), .second, .val (.long (own_te i0 i1 i2)), .second, .val (.double (FP.ddiv (FP.l2d (own_te i0 i1 i2)) (FP.i2d i0))), .second, .val (.int (1 : Int32)), .unset, .unset, .unset]) at_169 rfl rfl ?_
        refine WP.new (n := 174) (ce' := 3) (sl' := 6) at_171 (hw _ (List.mem_of_getElem? (i := 0) rfl)) (hw _ (List.mem_of_getElem? (i := 1) rfl)) (hw _ (List.mem_of_getElem? (i := 2) rfl)) rfl rfl (by decide) (by decide) rfl (fun a18 h18 g18 E18 A18 D18 S18 N18 r18 => ?_)
        refine WP.dup (n := 175) at_174 rfl rfl ?_
        refine WP.iloadN (n := 176) at_175 rfl rfl ?_
        refine WP.lloadN (n := 177) at_176 rfl rfl ?_
        refine WP.callP (n := 180) (ce' := 3) (sl' := 6) (Wd := 1) (a := a18) (argsL := [(.int i0), (.long j3)]) (rest := [(.ref a18)]) (own_ci l Z a0 hw EL hEL h18 a18 i0 j3 N18 A18 (D18 (Or.inr (hw _ (List.mem_of_getElem? (i := 15) rfl))) (ty := .int) (by decide)) (D18 (Or.inr (hw _ (List.mem_of_getElem? (i := 17) rfl))) (ty := .long) (by decide))) at_177 rfl (hw _ (List.mem_of_getElem? (i := 3) rfl)) (hw _ (List.mem_of_getElem? (i := 4) rfl)) (hw _ (List.mem_of_getElem? (i := 2) rfl)) (hw _ (List.mem_of_getElem? (i := 5) rfl)) (by decide) (fun _ q => nomatch q) (by decide) (by decide) rfl rfl (by decide) (by decide) rfl rfl (lenOf own_pd1 rfl) rfl (Nat.le_of_eq rfl) rfl (fun v19 vm19 h19 q19 r19 => ?_)
        obtain ⟨rfl, K19, A19, D19, F19⟩ := q19
        refine WP.callV (n := 183) (ce' := 3) (sl' := 6) (Wd := 0) (a := a18) (argsL := []) (rest := []) (own_al1 l Z a0 hw EL hEL h19 a18 i0 j3 D19 F19 hd sg.1) A19 at_180 (hw _ (List.mem_of_getElem? (i := 18) rfl)) (hw _ (List.mem_of_getElem? (i := 19) rfl)) (hw _ (List.mem_of_getElem? (i := 21) rfl)) (hw _ (List.mem_of_getElem? (i := 20) rfl)) (hw _ (List.mem_of_getElem? (i := 2) rfl)) (hw _ (List.mem_of_getElem? (i := 22) rfl)) (by decide) (fun _ hz => notFace_of_selects (args := #[]) (mvT hz (hw _ (List.mem_of_getElem? (i := 21) rfl)))) (fun _ q => nomatch q) (by decide) (by decide) rfl rfl (by decide) (by decide) rfl rfl (lenOf own_pd2 rfl) rfl (Nat.le_of_eq rfl) rfl (fun v20 vm20 h20 q20 r20 => ?_)
        obtain ⟨rfl, rfl⟩ := q20
        refine WP.dstore (n := 185) (Ls' := #[.val (.int i0), .val (.int i1), .val (.int i2), .val (.long j3), .second, .val (.double FP.dconst0), .second, .val (.int (1 : Int32)), .val (.long (own_abs (i0.toInt64))), .second, .val (.long (own_kk i1)), .second, .val (.long (own_rr i0 i2)), .second, .val (.long (own_te i0 i1 i2)), .second, .val (.double (FP.ddiv (FP.l2d (own_te i0 i1 i2)) (FP.i2d i0))), .second, .val (.int (1 : Int32)), .val (.double (FP.ddiv (FP.l2d j3) (FP.i2d i0))), .second, .unset]) at_183 rfl rfl ?_
        refine WP.lloadN (n := 186) at_185 rfl rfl ?_
        refine WP.lconst (n := 187) (z := (0 : Int64)) at_186 rfl rfl ?_
        refine WP.lcmp (n := 188) at_187  rfl ?_
        by_cases ht : j3 = 0
        · refine WP.ifcN (n' := 191) at_188 ((if0 _ _).trans (teq (own_cl_eq ht)).2) rfl ?_
          refine WP.dload (n := 193) at_191 rfl rfl ?_
          refine WP.dconst0 (n := 194) (v := FP.dconst0) at_193 rfl rfl ?_
          refine WP.dcmp (n := 195) (v := (0 : Int32)) at_194 (by rw [show FP.dcmp _ _ = _ from sg.2.1 ht]; rfl) rfl ?_
          refine WP.ifcN (n' := 198) at_195 (by decide) rfl ?_
          refine WP.iconst (n := 199) (z := (1 : Int32)) at_198 rfl rfl ?_
          refine WP.goto (n := 203) at_199 (by decide) (by decide) ?_
          refine WP.istore (n := 205) (Ls' := #[.val (.int i0), .val (.int i1), .val (.int i2), .val (.long j3), .second, .val (.double FP.dconst0), .second, .val (.int (1 : Int32)), .val (.long (own_abs (i0.toInt64))), .second, .val (.long (own_kk i1)), .second, .val (.long (own_rr i0 i2)), .second, .val (.long (own_te i0 i1 i2)), .second, .val (.double (FP.ddiv (FP.l2d (own_te i0 i1 i2)) (FP.i2d i0))), .second, .val (.int (1 : Int32)), .val (.double (FP.ddiv (FP.l2d j3) (FP.i2d i0))), .second, .val (.int (1 : Int32))]) at_203 rfl rfl ?_
          refine WP.goto (n := 262) at_205 (by decide) (by decide) ?_
          refine WP.iload (n := 264) at_262 rfl rfl ?_
          refine WP.ifcN (n' := 267) at_264 (by decide) rfl ?_
          refine WP.iload (n := 269) at_267 rfl rfl ?_
          refine WP.ifcN (n' := 272) at_269 (by decide) rfl ?_
          refine WP.iload (n := 274) at_272 rfl rfl ?_
          refine WP.ifcN (n' := 277) at_274 (by decide) rfl ?_
          refine WP.iconst (n := 278) (z := (1 : Int32)) at_277 rfl rfl ?_
          refine WP.goto (n := 282) at_278 (by decide) (by decide) ?_
          exact WP.retN at_282 rfl (Or.inl rfl) (by decide : nar .boolean 1 = 1) (by decide) (by decide) rfl
        · refine WP.ifcY (n := 208) at_188 ((if0 _ _).trans (feq (own_cl_ne ht)).2) (by decide) (by decide) ?_
          refine WP.lloadN (n := 209) at_208 rfl rfl ?_
          refine WP.lconst (n := 210) (z := (0 : Int64)) at_209 rfl rfl ?_
          refine WP.lcmp (n := 211) at_210  rfl ?_
          by_cases hu : 0 < j3
          · rw [own_cl_gt hu]
            refine WP.ifcN (n' := 214) at_211 (by decide) rfl ?_
            refine WP.iconst (n := 215) (z := (1 : Int32)) at_214 rfl rfl ?_
            refine WP.goto (n := 219) at_215 (by decide) (by decide) ?_
            refine WP.iloadN (n := 220) at_219 rfl rfl ?_
            by_cases hp2 : 0 < i0
            · refine WP.ifcN (n' := 223) at_220 ((if0 _ _).trans (tlt hp2).2.2.2) rfl ?_
              refine WP.iconst (n := 224) (z := (1 : Int32)) at_223 rfl rfl ?_
              refine WP.goto (n := 228) at_224 (by decide) (by decide) ?_
              refine WP.icmpN (n' := 231) at_228 (by decide) rfl ?_
              refine WP.dload (n := 233) at_231 rfl rfl ?_
              refine WP.dconst0 (n := 234) (v := FP.dconst0) at_233 rfl rfl ?_
              refine WP.dcmp (n := 235) (v := (1 : Int32)) at_234 (by rw [show FP.dcmp _ _ = _ from sg.2.2.1 ht ⟨fun _ => hp2, fun _ => hu⟩]; rfl) rfl ?_
              refine WP.ifcN (n' := 238) at_235 (by decide) rfl ?_
              refine WP.iconst (n := 239) (z := (1 : Int32)) at_238 rfl rfl ?_
              refine WP.goto (n := 243) at_239 (by decide) (by decide) ?_
              refine WP.istore (n := 245) (Ls' := #[.val (.int i0), .val (.int i1), .val (.int i2), .val (.long j3), .second, .val (.double FP.dconst0), .second, .val (.int (1 : Int32)), .val (.long (own_abs (i0.toInt64))), .second, .val (.long (own_kk i1)), .second, .val (.long (own_rr i0 i2)), .second, .val (.long (own_te i0 i1 i2)), .second, .val (.double (FP.ddiv (FP.l2d (own_te i0 i1 i2)) (FP.i2d i0))), .second, .val (.int (1 : Int32)), .val (.double (FP.ddiv (FP.l2d j3) (FP.i2d i0))), .second, .val (.int (1 : Int32))]) at_243 rfl rfl ?_
              refine WP.goto (n := 262) at_245 (by decide) (by decide) ?_
              refine WP.iload (n := 264) at_262 rfl rfl ?_
              refine WP.ifcN (n' := 267) at_264 (by decide) rfl ?_
              refine WP.iload (n := 269) at_267 rfl rfl ?_
              refine WP.ifcN (n' := 272) at_269 (by decide) rfl ?_
              refine WP.iload (n := 274) at_272 rfl rfl ?_
              refine WP.ifcN (n' := 277) at_274 (by decide) rfl ?_
              refine WP.iconst (n := 278) (z := (1 : Int32)) at_277 rfl rfl ?_
              refine WP.goto (n := 282) at_278 (by decide) (by decide) ?_
              exact WP.retN at_282 rfl (Or.inl rfl) (by decide : nar .boolean 1 = 1) (by decide) (by decide) rfl
            · refine WP.ifcY (n := 227) at_220 ((if0 _ _).trans (flt hp2).2.2.2) (by decide) (by decide) ?_
              refine WP.iconst (n := 228) (z := (0 : Int32)) at_227 rfl rfl ?_
              refine WP.icmpY (n := 248) at_228 (by decide) (by decide) (by decide) ?_
              refine WP.dload (n := 250) at_248 rfl rfl ?_
              refine WP.dconst0 (n := 251) (v := FP.dconst0) at_250 rfl rfl ?_
              refine WP.dcmp (n := 252) (v := (-1 : Int32)) at_251 (by rw [show FP.dcmp _ _ = _ from sg.2.2.2 ht (fun e => hp2 (e.mp hu))]; rfl) rfl ?_
              refine WP.ifcN (n' := 255) at_252 (by decide) rfl ?_
              refine WP.iconst (n := 256) (z := (1 : Int32)) at_255 rfl rfl ?_
              refine WP.goto (n := 260) at_256 (by decide) (by decide) ?_
              refine WP.istore (n := 262) (Ls' := #[.val (.int i0), .val (.int i1), .val (.int i2), .val (.long j3), .second, .val (.double FP.dconst0), .second, .val (.int (1 : Int32)), .val (.long (own_abs (i0.toInt64))), .second, .val (.long (own_kk i1)), .second, .val (.long (own_rr i0 i2)), .second, .val (.long (own_te i0 i1 i2)), .second, .val (.double (FP.ddiv (FP.l2d (own_te i0 i1 i2)) (FP.i2d i0))), .second, .val (.int (1 : Int32)), .val (.double (FP.ddiv (FP.l2d j3) (FP.i2d i0))), .second, .val (.int (1 : Int32))]) at_260 rfl rfl ?_
              refine WP.iload (n := 264) at_262 rfl rfl ?_
              refine WP.ifcN (n' := 267) at_264 (by decide) rfl ?_
              refine WP.iload (n := 269) at_267 rfl rfl ?_
              refine WP.ifcN (n' := 272) at_269 (by decide) rfl ?_
              refine WP.iload (n := 274) at_272 rfl rfl ?_
              refine WP.ifcN (n' := 277) at_274 (by decide) rfl ?_
              refine WP.iconst (n := 278) (z := (1 : Int32)) at_277 rfl rfl ?_
              refine WP.goto (n := 282) at_278 (by decide) (by decide) ?_
              exact WP.retN at_282 rfl (Or.inl rfl) (by decide : nar .boolean 1 = 1) (by decide) (by decide) rfl
          · rw [own_cl_lt hu ht]
            refine WP.ifcY (n := 218) at_211 (by decide) (by decide) (by decide) ?_
            refine WP.iconst (n := 219) (z := (0 : Int32)) at_218 rfl rfl ?_
            refine WP.iloadN (n := 220) at_219 rfl rfl ?_
            by_cases hp2 : 0 < i0
            · refine WP.ifcN (n' := 223) at_220 ((if0 _ _).trans (tlt hp2).2.2.2) rfl ?_
              refine WP.iconst (n := 224) (z := (1 : Int32)) at_223 rfl rfl ?_
              refine WP.goto (n := 228) at_224 (by decide) (by decide) ?_
              refine WP.icmpY (n := 248) at_228 (by decide) (by decide) (by decide) ?_
              refine WP.dload (n := 250) at_248 rfl rfl ?_
              refine WP.dconst0 (n := 251) (v := FP.dconst0) at_250 rfl rfl ?_
              refine WP.dcmp (n := 252) (v := (-1 : Int32)) at_251 (by rw [show FP.dcmp _ _ = _ from sg.2.2.2 ht (fun e => hu (e.mpr hp2))]; rfl) rfl ?_
              refine WP.ifcN (n' := 255) at_252 (by decide) rfl ?_
              refine WP.iconst (n := 256) (z := (1 : Int32)) at_255 rfl rfl ?_
              refine WP.goto (n := 260) at_256 (by decide) (by decide) ?_
              refine WP.istore (n := 262) (Ls' := #[.val (.int i0), .val (.int i1), .val (.int i2), .val (.long j3), .second, .val (.double FP.dconst0), .second, .val (.int (1 : Int32)), .val (.long (own_abs (i0.toInt64))), .second, .val (.long (own_kk i1)), .second, .val (.long (own_rr i0 i2)), .second, .val (.long (own_te i0 i1 i2)), .second, .val (.double (FP.ddiv (FP.l2d (own_te i0 i1 i2)) (FP.i2d i0))), .second, .val (.int (1 : Int32)), .val (.double (FP.ddiv (FP.l2d j3) (FP.i2d i0))), .second, .val (.int (1 : Int32))]) at_260 rfl rfl ?_
              refine WP.iload (n := 264) at_262 rfl rfl ?_
              refine WP.ifcN (n' := 267) at_264 (by decide) rfl ?_
              refine WP.iload (n := 269) at_267 rfl rfl ?_
              refine WP.ifcN (n' := 272) at_269 (by decide) rfl ?_
              refine WP.iload (n := 274) at_272 rfl rfl ?_
              refine WP.ifcN (n' := 277) at_274 (by decide) rfl ?_
              refine WP.iconst (n := 278) (z := (1 : Int32)) at_277 rfl rfl ?_
              refine WP.goto (n := 282) at_278 (by decide) (by decide) ?_
              exact WP.retN at_282 rfl (Or.inl rfl) (by decide : nar .boolean 1 = 1) (by decide) (by decide) rfl
            · refine WP.ifcY (n := 227) at_220 ((if0 _ _).trans (flt hp2).2.2.2) (by decide) (by decide) ?_
              refine WP.iconst (n := 228) (z := (0 : Int32)) at_227 rfl rfl ?_
              refine WP.icmpN (n' := 231) at_228 (by decide) rfl ?_
              refine WP.dload (n := 233) at_231 rfl rfl ?_
              refine WP.dconst0 (n := 234) (v := FP.dconst0) at_233 rfl rfl ?_
              refine WP.dcmp (n := 235) (v := (1 : Int32)) at_234 (by rw [show FP.dcmp _ _ = _ from sg.2.2.1 ht ⟨fun h => absurd h hu, fun h => absurd h hp2⟩]; rfl) rfl ?_
              refine WP.ifcN (n' := 238) at_235 (by decide) rfl ?_
              refine WP.iconst (n := 239) (z := (1 : Int32)) at_238 rfl rfl ?_
              refine WP.goto (n := 243) at_239 (by decide) (by decide) ?_
              refine WP.istore (n := 245) (Ls' := #[.val (.int i0), .val (.int i1), .val (.int i2), .val (.long j3), .second, .val (.double FP.dconst0), .second, .val (.int (1 : Int32)), .val (.long (own_abs (i0.toInt64))), .second, .val (.long (own_kk i1)), .second, .val (.long (own_rr i0 i2)), .second, .val (.long (own_te i0 i1 i2)), .second, .val (.double (FP.ddiv (FP.l2d (own_te i0 i1 i2)) (FP.i2d i0))), .second, .val (.int (1 : Int32)), .val (.double (FP.ddiv (FP.l2d j3) (FP.i2d i0))), .second, .val (.int (1 : Int32))]) at_243 rfl rfl ?_
              refine WP.goto (n := 262) at_245 (by decide) (by decide) ?_
              refine WP.iload (n := 264) at_262 rfl rfl ?_
              refine WP.ifcN (n' := 267) at_264 (by decide) rfl ?_
              refine WP.iload (n := 269) at_267 rfl rfl ?_
              refine WP.ifcN (n' := 272) at_269 (by decide) rfl ?_
              refine WP.iload (n := 274) at_272 rfl rfl ?_
              refine WP.ifcN (n' := 277) at_274 (by decide) rfl ?_
              refine WP.iconst (n := 278) (z := (1 : Int32)) at_277 rfl rfl ?_
              refine WP.goto (n := 282) at_278 (by decide) (by decide) ?_
              exact WP.retN at_282 rfl (Or.inl rfl) (by decide : nar .boolean 1 = 1) (by decide) (by decide) rfl
set_option maxRecDepth 65536 in
set_option maxHeartbeats 40000000 in
theorem comes_1 {Post : Tables → Env → Array Value → State → Outcome → State → Prop} (hpost : ∀ tb e args s v u, (limb_1_1.after args s (.returned v) u = true ∧ limb_1_2.after args s (.returned v) u = true ∧ True) → Framed s (.returned v) u (Jvm.fieldLocs frame_1_writes args s ++ Jvm.arrayLocs frame_1_arrays args s ++ Jvm.staticLocs frame_1_statics s) 16 128 → Post tb e args s (.returned v) u) :
    ArmFor flags0 classFile x code maxLocals ret World_1 tables_1 room_1 Calls_1 rest_1 Pre_1 Post := by
  intro l hfl _ _ p e ha hc hk s m args below hf hA hF happ hP
  obtain ⟨hcalls, hrest, hpre⟩ := hP
  obtain ⟨-, -, -, hnamed, -, -, -, hat⟩ := (Spec.applies_iff hf).mp happ
  obtain ⟨hg, hn⟩ := and_e (Cond.before_iff.mp (show (Jvm.Cond.and given_1 narrow_1).before args s = true from hpre))
  obtain ⟨h1, g0'⟩ := and_e hg
  obtain ⟨w0, w1, w2, w3, rfl⟩ : ∃ w0 w1 w2 w3 : Value, args = #[w0, w1, w2, w3] := by
    have hs : args.size = 4 := by simpa [Cond.value, given_1] using h1
    obtain ⟨L⟩ := args
    match L, hs with
    | [w0, w1, w2, w3], _ => exact ⟨w0, w1, w2, w3, rfl⟩
  have hw := fun d (hd : d ∈ tables_1) => atoms_spec (ws := Jvm.Cond.code x code maxLocals ret :: tables_1) hat d (List.mem_cons_of_mem _ hd)
  obtain ⟨g0, g1'⟩ := and_e g0'
  obtain ⟨i0, e0⟩ := is_v g0
  obtain rfl : w0 = (.int i0) := Option.some.inj e0
  obtain ⟨g1, g2'⟩ := and_e g1'
  obtain ⟨i1, e1⟩ := is_v g1
  obtain rfl : w1 = (.int i1) := Option.some.inj e1
  obtain ⟨g2, g3'⟩ := and_e g2'
  obtain ⟨i2, e2⟩ := is_v g2
  obtain rfl : w2 = (.int i2) := Option.some.inj e2
  have g3 := g3'
  obtain ⟨i3, e3⟩ := isL_v g3
  obtain rfl : w3 = (.long i3) := Option.some.inj e3
  obtain ⟨n, o, h1, h2, h3, _, L, rfl, rfl, hE, N, hCh, hNar, hq⟩ := own_law l s _ hw [] EW.nil s.heap i0 i1 i2 i3 tables_1 p e ha hc hk s m _ below hf ((Spec.applies_iff_loose hf).mp happ).1 ⟨rfl, State.Warmed39.refl s, rfl, ext_refl _, (fun p hp => nomatch hp), (fun _ q => nomatch q)⟩ trivial
  obtain ⟨q1, q2, q3, q4⟩ := hq
  refine ⟨n, _, h1, h2, h3, hpost _ _ _ _ _ _ ⟨Cond.after_iff.mpr rfl, Cond.after_iff.mpr (eq_i res_at (Term.int_eval (1)) rfl), trivial⟩ ⟨q1, hNar rfl, (q4.sift fun y hy => Or.inr (N y hy)).mono (by decide) (by decide)⟩⟩
theorem main_1_1 : Claimed_1_1 := comes_1 fun _ _ _ _ _ _ h hF => ⟨h.1, hF⟩
theorem main_1_2 : Claimed_1_2 := comes_1 fun _ _ _ _ _ _ h hF => ⟨h.2.1, hF⟩
end Jvm.Pilot.@@N@@
namespace Jvm.Pilot.@@N@@
open Jvm Jvm.ClassFile Sem Op Lib Jvm.Free Jvm.Stand Jvm.Pilot.@@N@@.Jvm.D
/-! MADE BY PROGRAM (witnessworld.py) out of the Statement's table words and the real class files: 11 classes; the members and pool entries that the words name. The judged class is class 1, her method 1. -/
namespace start1
open Jvm.ClassFile
def u (s : String) : CpInfo := .utf8 (stringToUtf16 s)
/-- a pool by its gaps: so many unusable entries, then the entry; so many at the end -/
def gap : Nat → List CpInfo → List CpInfo
  | 0, r => r
  | n + 1, r => .unusable :: gap n r
def poolList (es : List (Nat × CpInfo)) (last : Nat) : List CpInfo := es.foldr (fun e r => gap e.1 (e.2 :: r)) (gap last [])
def pool (es : List (Nat × CpInfo)) (last : Nat) : Array CpInfo := ⟨poolList es last⟩
def fileOf (pool : Array CpInfo) (this : Nat) (attrs : Array Attribute := #[]) (ms : Array MethodInfo := #[]) (fl : Nat := 33) (sup : Nat := 0) (ifs : Array Nat := #[]) (fds : Array FieldInfo := #[]) : ClassFile where
  minorVersion := 0
  majorVersion := 65
  constantPool := pool
  accessFlags := fl
  thisClass := this
  superClass := sup
  interfaces := ifs
  fields := fds
  methods := ms
  attributes := attrs
def plain (name : String) (sup : Option ClassId) : Class where
  name := name
  kind := .ordinary
  loader := none
  accessFlags := 33
  super := sup
  interfaces := #[]
  cf := none
  fields := #[]
  methods := #[]
  instanceTypes := #[]
  staticTypes := #[]
  resolved := #[]
  callSites := []
  init := .initialized
  statics := none
  mirror := none

def pool0 : Array CpInfo := pool [(5, u "<init>"), (0, u "()V"), (1, .class_ 10), (1, u "java/lang/Object")] 113

def k0c0 : Code := { maxStack := 0, maxLocals := 1, code := object_method_1_code, exceptionTable := #[], attributes := #[] }
def k0m0 : Method := { name := "<init>", desc := "()V", sig := { parameters := [], returnType := none }, accessFlags := 1, code := some k0c0 }
/-- java/lang/Object -/
def k0 : Class := { plain "java/lang/Object" none with
  accessFlags := 33
  interfaces := #[]
  cf := some (fileOf pool0 8 #[] #[{ accessFlags := 1, nameIndex := 5, descriptorIndex := 6, attributes := #[] }] 33 0 #[] #[])
  fields := #[]
  methods := #[k0m0]
  instanceTypes := #[]
  staticTypes := #[]
  resolved := Array.replicate 124 none
  statics := none }

def pool1 : Array CpInfo := pool [(2, .class_ 4), (1, u "java/lang/Object"), (0, u "<init>"), (0, u "()V"), (0, .class_ 8), (0, u "com/example/lilybank/lilybank/index/CollectionStatistics"), (0, .methodref 7 10), (0, .nameAndType 5 11), (0, u "(IJ)V"), (0, .methodref 7 13), (0, .nameAndType 14 15), (0, u "averageLength"), (0, u "()D"), (0, .methodref 17 18), (0, .class_ 19), (0, .nameAndType 20 21), (0, u "java/lang/Math"), (0, u "abs"), (0, u "(J)J"), (0, .integer 1048576), (0, .integer 2147483647), (0, .class_ 25), (0, u "com/example/lilybank/lilybank/index/CollectionStatisticsAverageLengthPinLaw"), (2, u "law"), (0, u "(IIIJ)Z")] 3

def k1m0 : Method := { name := "<init>", desc := "()V", sig := { parameters := [], returnType := none }, accessFlags := 1, code := none }
def k1c1 : Code := { maxStack := 6, maxLocals := 22, code := code, exceptionTable := #[], attributes := #[] }
def k1m1 : Method := { name := "law", desc := "(IIIJ)Z", sig := { parameters := [.int, .int, .int, .long], returnType := some .boolean }, accessFlags := 9, code := some k1c1 }
/-- com/example/lilybank/lilybank/index/CollectionStatisticsAverageLengthPinLaw -/
def k1 : Class := { plain "com/example/lilybank/lilybank/index/CollectionStatisticsAverageLengthPinLaw" (some 0) with
  accessFlags := 49
  interfaces := #[]
  cf := some (fileOf pool1 24 #[] #[{ accessFlags := 1, nameIndex := 5, descriptorIndex := 6, attributes := #[] }, { accessFlags := 9, nameIndex := 28, descriptorIndex := 29, attributes := #[] }] 49 2 #[] #[])
  fields := #[]
  methods := #[k1m0, k1m1]
  instanceTypes := #[]
  staticTypes := #[]
  resolved := Array.replicate 33 none
  statics := none }

def pool2 : Array CpInfo := pool [(1, .methodref 2 3), (0, .class_ 4), (0, .nameAndType 5 6), (0, u "java/lang/Object"), (0, u "<init>"), (0, u "()V"), (0, .class_ 8), (0, u "java/lang/Record")] 13

def k2c0 : Code := { maxStack := 1, maxLocals := 1, code := jdk_30_method_1_code, exceptionTable := #[], attributes := #[] }
def k2m0 : Method := { name := "<init>", desc := "()V", sig := { parameters := [], returnType := none }, accessFlags := 4, code := some k2c0 }
/-- java/lang/Record -/
def k2 : Class := { plain "java/lang/Record" (some 0) with
  accessFlags := 1057
  interfaces := #[]
  cf := some (fileOf pool2 7 #[] #[{ accessFlags := 4, nameIndex := 5, descriptorIndex := 6, attributes := #[] }] 1057 2 #[] #[])
  fields := #[]
  methods := #[k2m0]
  instanceTypes := #[]
  staticTypes := #[]
  resolved := Array.replicate 22 none
  statics := none }

def pool3 : Array CpInfo := pool [(1, .methodref 2 3), (0, .class_ 4), (0, .nameAndType 5 6), (0, u "java/lang/Record"), (0, u "<init>"), (0, u "()V"), (0, .fieldref 8 9), (0, .class_ 10), (0, .nameAndType 11 12), (0, u "com/example/lilybank/lilybank/index/CollectionStatistics"), (0, u "documents"), (0, u "I"), (0, .fieldref 8 14), (0, .nameAndType 15 16), (0, u "terms"), (0, u "J"), (12, u "(IJ)V"), (3, u "averageLength"), (0, u "()D")] 26

def k3c0 : Code := { maxStack := 3, maxLocals := 4, code := prog_3_method_1_code, exceptionTable := #[], attributes := #[] }
def k3m0 : Method := { name := "<init>", desc := "(IJ)V", sig := { parameters := [.int, .long], returnType := none }, accessFlags := 1, code := some k3c0 }
def k3c1 : Code := { maxStack := 4, maxLocals := 1, code := prog_3_method_2_code, exceptionTable := #[], attributes := #[] }
def k3m1 : Method := { name := "averageLength", desc := "()D", sig := { parameters := [], returnType := some .double }, accessFlags := 1, code := some k3c1 }
/-- com/example/lilybank/lilybank/index/CollectionStatistics -/
def k3 : Class := { plain "com/example/lilybank/lilybank/index/CollectionStatistics" (some 2) with
  accessFlags := 49
  interfaces := #[]
  cf := some (fileOf pool3 8 #[] #[{ accessFlags := 1, nameIndex := 5, descriptorIndex := 29, attributes := #[] }, { accessFlags := 1, nameIndex := 33, descriptorIndex := 34, attributes := #[] }] 49 2 #[] #[{ accessFlags := 18, nameIndex := 11, descriptorIndex := 12, attributes := #[] }, { accessFlags := 18, nameIndex := 15, descriptorIndex := 16, attributes := #[] }])
  fields := #[{ name := "documents", type := .int, accessFlags := 18, slot := 0, constantValue := 0 }, { name := "terms", type := .long, accessFlags := 18, slot := 1, constantValue := 0 }]
  methods := #[k3m0, k3m1]
  instanceTypes := #[.int, .long]
  staticTypes := #[]
  resolved := Array.replicate 61 none
  statics := none }

def pool4 : Array CpInfo := pool [(1, .class_ 2), (0, u "java/lang/Math"), (1, .class_ 6), (1, u "java/lang/Object"), (0, u "<init>"), (0, u "()V"), (89, .class_ 100), (1, u "java/lang/Math$RandomNumberGeneratorHolder"), (23, u "abs"), (0, u "(J)J"), (46, u "negativeZeroFloatBits"), (0, u "J"), (2, u "negativeZeroDoubleBits"), (68, u "$assertionsDisabled"), (0, u "Z"), (91, u "twoToTheDoubleScaleDown"), (0, u "D"), (4, u "twoToTheDoubleScaleUp"), (9, u "E"), (3, u "PI"), (2, u "TAU"), (2, u "DEGREES_TO_RADIANS"), (0, u "RADIANS_TO_DEGREES")] 94

def k4m0 : Method := { name := "<init>", desc := "()V", sig := { parameters := [], returnType := none }, accessFlags := 2, code := none }
def k4c1 : Code := { maxStack := 4, maxLocals := 2, code := jdk_29_method_61_code, exceptionTable := #[], attributes := #[] }
def k4m1 : Method := { name := "abs", desc := "(J)J", sig := { parameters := [.long], returnType := some .long }, accessFlags := 9, code := some k4c1 }
/-- java/lang/Math -/
def k4 : Class := { plain "java/lang/Math" (some 0) with
  accessFlags := 49
  interfaces := #[]
  cf := some (fileOf pool4 1 #[.nestMembers #[98]] #[{ accessFlags := 2, nameIndex := 7, descriptorIndex := 8, attributes := #[] }, { accessFlags := 9, nameIndex := 124, descriptorIndex := 125, attributes := #[] }] 49 4 #[] #[{ accessFlags := 25, nameIndex := 354, descriptorIndex := 339, attributes := #[] }, { accessFlags := 25, nameIndex := 358, descriptorIndex := 339, attributes := #[] }, { accessFlags := 25, nameIndex := 361, descriptorIndex := 339, attributes := #[] }, { accessFlags := 26, nameIndex := 364, descriptorIndex := 339, attributes := #[] }, { accessFlags := 26, nameIndex := 365, descriptorIndex := 339, attributes := #[] }, { accessFlags := 26, nameIndex := 172, descriptorIndex := 173, attributes := #[] }, { accessFlags := 26, nameIndex := 176, descriptorIndex := 173, attributes := #[] }, { accessFlags := 8, nameIndex := 344, descriptorIndex := 339, attributes := #[] }, { accessFlags := 8, nameIndex := 338, descriptorIndex := 339, attributes := #[] }, { accessFlags := 4120, nameIndex := 245, descriptorIndex := 246, attributes := #[] }])
  fields := #[{ name := "E", type := .double, accessFlags := 25, slot := 0, constantValue := 0 }, { name := "PI", type := .double, accessFlags := 25, slot := 1, constantValue := 0 }, { name := "TAU", type := .double, accessFlags := 25, slot := 2, constantValue := 0 }, { name := "DEGREES_TO_RADIANS", type := .double, accessFlags := 26, slot := 3, constantValue := 0 }, { name := "RADIANS_TO_DEGREES", type := .double, accessFlags := 26, slot := 4, constantValue := 0 }, { name := "negativeZeroFloatBits", type := .long, accessFlags := 26, slot := 5, constantValue := 0 }, { name := "negativeZeroDoubleBits", type := .long, accessFlags := 26, slot := 6, constantValue := 0 }, { name := "twoToTheDoubleScaleUp", type := .double, accessFlags := 8, slot := 7, constantValue := 0 }, { name := "twoToTheDoubleScaleDown", type := .double, accessFlags := 8, slot := 8, constantValue := 0 }, { name := "$assertionsDisabled", type := .boolean, accessFlags := 4120, slot := 9, constantValue := 0 }]
  methods := #[k4m0, k4m1]
  instanceTypes := #[]
  staticTypes := #[.double, .double, .double, .double, .double, .long, .long, .double, .double, .boolean]
  resolved := Array.replicate 460 none
  statics := none }

def pool5 : Array CpInfo := pool [(1, u "java/lang/Cloneable"), (0, .class_ 1), (0, u "java/lang/Object"), (0, .class_ 3)] 3

/-- java/lang/Cloneable -/
def k5 : Class := { plain "java/lang/Cloneable" (some 0) with
  accessFlags := 1537
  interfaces := #[]
  cf := some (fileOf pool5 2 #[] #[] 1537 4 #[] #[])
  fields := #[]
  methods := #[]
  instanceTypes := #[]
  staticTypes := #[]
  resolved := Array.replicate 8 none
  statics := none }

def pool6 : Array CpInfo := pool [(1, u "java/io/Serializable"), (0, .class_ 1), (0, u "java/lang/Object"), (0, .class_ 3)] 3

/-- java/io/Serializable -/
def k6 : Class := { plain "java/io/Serializable" (some 0) with
  accessFlags := 1537
  interfaces := #[]
  cf := some (fileOf pool6 2 #[] #[] 1537 4 #[] #[])
  fields := #[]
  methods := #[]
  instanceTypes := #[]
  staticTypes := #[]
  resolved := Array.replicate 8 none
  statics := none }

/-- the primitive byte -/
def k7 : Class := { plain "byte" none with kind := .primitive 'B', accessFlags := 0x411 }
/-- [B -/
def k8 : Class := { plain "[B" (some 0) with kind := .array 7 .byte, interfaces := #[5, 6], accessFlags := 1041 }

/-- the primitive int -/
def k9 : Class := { plain "int" none with kind := .primitive 'I', accessFlags := 0x411 }
/-- [I -/
def k10 : Class := { plain "[I" (some 0) with kind := .array 9 .int, interfaces := #[5, 6], accessFlags := 1041 }

def heap : Heap := #[]
def classes : Array Class := #[k0, k1, k2, k3, k4, k5, k6, k7, k8, k9, k10]
def interned : List (Array UInt16 × Addr) := []
def slotsUsed : Nat := 0
def theMethod : MethodId := ⟨1, 1⟩
def args0 : Array Value := #[.int 5, .int 7, .int 2, .long 9]
def aboutOver (below : List Frame) : State where
  vm := { classes := classes, interned := interned.toArray }
  heap := heap
  slotsUsed := slotsUsed
  threads := #[{ frames := .invoking theMethod args0 :: below }]
def below0 : List Frame := [.native { method := ⟨0, 0⟩, args := #[] }]
def about1 : State := aboutOver below0
def p0 : Program := .bare "" "" ""
def e0 : Env := launch0.env 0 0 0
theorem w_frames : about1.frames = Frame.invoking theMethod args0 :: below0 := rfl
set_option maxRecDepth 65536 in
theorem w_args : argsFit about1.vm theMethod args0 = true := by decide +kernel
set_option maxRecDepth 65536 in
theorem w_heap : heapFits about1 = true := by decide +kernel
set_option maxRecDepth 65536 in
theorem w_runnable : about1.curStatus? = some .runnable := by decide +kernel
set_option maxRecDepth 65536 in
theorem w_alone : about1.alone = true := by decide +kernel
set_option maxRecDepth 65536 in
theorem w_named : about1.methodNamed? x = some theMethod := by decide +kernel
set_option maxRecDepth 65536 in
theorem w_hears : about1.hears theMethod below0 = true := by decide +kernel
set_option maxRecDepth 65536 in
theorem w_ripe : about1.ripe theMethod args0 below0 = true := by decide +kernel
theorem w_running : about1.status = .running := rfl
set_option maxRecDepth 65536 in
theorem w_room : about1.hasRoom e0.platform room_1 = true :=
  launch0.hasRoom_least _ room_1 (by decide +kernel) (by decide +kernel) (by decide +kernel) (by decide +kernel) (by decide +kernel) (by decide +kernel)
theorem allAtoms_all (ts : List Jvm.Cond) (a : Array Jvm.Value) (st : Jvm.State) : (allAtoms ts).before a st = ts.all (fun c => c.before a st) := by
  induction ts with
  | nil => rfl
  | cons c t ih =>
    show (Jvm.Cond.and c (allAtoms t)).before a st = _
    rw [Jvm.Cond.before_and, ih, List.all_cons]
def words1 : List Jvm.Cond := Jvm.Cond.code x code maxLocals ret :: tables_1
/-- a 'code' word, met by the world's own term for the bytes: nothing is compared byte by byte -/
theorem code_word {y : MethodName} {bytes : ByteArray} {mx : Nat} {rt : Option FieldType} {a : Array Value} {s : State} {m : MethodId} {meth : Method} {c : Code} (h1 : s.methodNamed? y = some m) (h2 : s.vm.method? m = some meth) (h3 : meth.code = some c) (h4 : c.code = bytes)
    (h5 : (c.maxLocals == mx && c.exceptionTable.isEmpty && decide (c.maxStack ≤ mostOperands) && decide (meth.sig.returnType = rt) && !meth.locks && decide (parseMethodDescriptor y.desc = some meth.sig)) = true) : (Jvm.Cond.code y bytes mx rt).before a s = true := by
  simp only [Bool.and_eq_true, beq_iff_eq, Bool.not_eq_true', decide_eq_true_eq] at h5
  obtain ⟨⟨⟨⟨⟨g1, g2⟩, g3⟩, g4⟩, g5⟩, g6⟩ := h5
  simp [Cond.before, Cond.holds, Cond.value, h1, h2, h3, h4, g1, g2, g3, g4, g5, g6]
def isCode : Jvm.Cond → Bool
  | .code _ _ _ _ => true
  | _ => false
theorem all_split {L : List Jvm.Cond} {P : Jvm.Cond → Bool} (h1 : L.all (fun c => isCode c || P c) = true) (h2 : ∀ c ∈ L.filter isCode, P c = true) : L.all P = true := by
  refine List.all_eq_true.mpr fun c hc => ?_
  have h := List.all_eq_true.mp h1 c hc
  rcases Bool.eq_false_or_eq_true (isCode c) with hi | hi
  · exact h2 c (List.mem_filter.mpr ⟨hc, hi⟩)
  · simpa [hi] using h
set_option maxRecDepth 65536 in
theorem w_c0 : (Jvm.Cond.code x code maxLocals ret).before args0 about1 = true := code_word (m := ⟨1, 1⟩) (meth := k1m1) (c := k1c1) (by decide +kernel) rfl rfl rfl (by decide +kernel)
set_option maxRecDepth 65536 in
theorem w_c1 : (Jvm.Cond.code ({ cls := "com/example/lilybank/lilybank/index/CollectionStatistics", name := "<init>", desc := "(IJ)V" } : Jvm.MethodName) prog_3_method_1_code (4 : Nat) (Option.none : Option Jvm.ClassFile.FieldType)).before args0 about1 = true := code_word (m := ⟨3, 0⟩) (meth := k3m0) (c := k3c0) (by decide +kernel) rfl rfl rfl (by decide +kernel)
set_option maxRecDepth 65536 in
theorem w_c2 : (Jvm.Cond.code ({ cls := "java/lang/Record", name := "<init>", desc := "()V" } : Jvm.MethodName) jdk_30_method_1_code (1 : Nat) (Option.none : Option Jvm.ClassFile.FieldType)).before args0 about1 = true := code_word (m := ⟨2, 0⟩) (meth := k2m0) (c := k2c0) (by decide +kernel) rfl rfl rfl (by decide +kernel)
set_option maxRecDepth 65536 in
theorem w_c3 : (Jvm.Cond.code ({ cls := "java/lang/Object", name := "<init>", desc := "()V" } : Jvm.MethodName) object_method_1_code (1 : Nat) (Option.none : Option Jvm.ClassFile.FieldType)).before args0 about1 = true := code_word (m := ⟨0, 0⟩) (meth := k0m0) (c := k0c0) (by decide +kernel) rfl rfl rfl (by decide +kernel)
set_option maxRecDepth 65536 in
theorem w_c4 : (Jvm.Cond.code ({ cls := "com/example/lilybank/lilybank/index/CollectionStatistics", name := "averageLength", desc := "()D" } : Jvm.MethodName) prog_3_method_2_code (1 : Nat) (Option.some Jvm.ClassFile.FieldType.double)).before args0 about1 = true := code_word (m := ⟨3, 1⟩) (meth := k3m1) (c := k3c1) (by decide +kernel) rfl rfl rfl (by decide +kernel)
set_option maxRecDepth 65536 in
theorem w_c5 : (Jvm.Cond.code ({ cls := "java/lang/Math", name := "abs", desc := "(J)J" } : Jvm.MethodName) jdk_29_method_61_code (2 : Nat) (Option.some Jvm.ClassFile.FieldType.long)).before args0 about1 = true := code_word (m := ⟨4, 1⟩) (meth := k4m1) (c := k4c1) (by decide +kernel) rfl rfl rfl (by decide +kernel)
def codes1 : List Jvm.Cond := [Jvm.Cond.code x code maxLocals ret, Jvm.Cond.code ({ cls := "com/example/lilybank/lilybank/index/CollectionStatistics", name := "<init>", desc := "(IJ)V" } : Jvm.MethodName) prog_3_method_1_code (4 : Nat) (Option.none : Option Jvm.ClassFile.FieldType), Jvm.Cond.code ({ cls := "java/lang/Record", name := "<init>", desc := "()V" } : Jvm.MethodName) jdk_30_method_1_code (1 : Nat) (Option.none : Option Jvm.ClassFile.FieldType), Jvm.Cond.code ({ cls := "java/lang/Object", name := "<init>", desc := "()V" } : Jvm.MethodName) object_method_1_code (1 : Nat) (Option.none : Option Jvm.ClassFile.FieldType), Jvm.Cond.code ({ cls := "com/example/lilybank/lilybank/index/CollectionStatistics", name := "averageLength", desc := "()D" } : Jvm.MethodName) prog_3_method_2_code (1 : Nat) (Option.some Jvm.ClassFile.FieldType.double), Jvm.Cond.code ({ cls := "java/lang/Math", name := "abs", desc := "(J)J" } : Jvm.MethodName) jdk_29_method_61_code (2 : Nat) (Option.some Jvm.ClassFile.FieldType.long)]
set_option maxRecDepth 65536 in
theorem codes_eq : words1.filter isCode = codes1 := rfl
theorem w_codes : ∀ c ∈ words1.filter isCode, c.before args0 about1 = true := by
  rw [codes_eq]
  intro c hc
  simp only [codes1, List.mem_cons, List.not_mem_nil, or_false] at hc
  rcases hc with rfl | rfl | rfl | rfl | rfl | rfl
  · exact w_c0
  · exact w_c1
  · exact w_c2
  · exact w_c3
  · exact w_c4
  · exact w_c5
set_option maxRecDepth 65536 in
theorem w_t1 : (words1.take 24).all (fun c => isCode c || c.before args0 about1) = true := by decide +kernel
set_option maxRecDepth 65536 in
theorem w_t2 : (words1.drop 24).all (fun c => isCode c || c.before args0 about1) = true := by decide +kernel
theorem w_tables : (allAtoms (Jvm.Cond.code x code maxLocals ret :: tables_1)).before args0 about1 = true := by
  rw [allAtoms_all]
  show words1.all (fun c => c.before args0 about1) = true
  refine all_split ?_ w_codes
  rw [← List.take_append_drop 24 words1, List.all_append, w_t1, w_t2]
  rfl
set_option maxRecDepth 65536 in
theorem w_case : (Jvm.Cond.and given_1 narrow_1).before args0 about1 = true := by decide +kernel
theorem w_applies : (headSpec (Jvm.Cond.code x code maxLocals ret :: tables_1) room_1).applies x e0.platform about1 = true :=
  (Spec.applies_iff w_frames).mpr ⟨w_running, w_runnable, w_alone, w_named, w_hears, w_ripe, w_room, w_tables⟩
theorem atStart : AtStart classFile x code maxLocals ret World_1 tables_1 room_1 Calls_1 rest_1 Pre_1 launch0 p0 e0 about1 theMethod args0 below0 :=
  ⟨lists_1, trivial, launch0.admits_env _ _ _, launch0.least_env, fairChoices_fair.cas, fairChoices_fair.clock, w_frames, w_args, w_heap, w_applies, trivial, trivial, w_case⟩
end start1
theorem witness_1 : WitnessClaimed_1 := ⟨start1.p0, start1.e0, start1.about1, start1.theMethod, start1.args0, start1.below0, start1.atStart⟩
end Jvm.Pilot.@@N@@
