import JvmDerived
import JvmDerived.Pilot.@@N@@Statement
import JvmDerived.Pilot.@@N@@Code
set_option linter.unusedVariables false
set_option linter.unusedSimpArgs false
namespace Jvm.OwnW
open Jvm Jvm.ClassFile Sem Op Lib Jvm.Free Jvm.Stand Jvm.LawKit Jvm.RoadKit Bundle
/-! A small calculus of weakest preconditions over the library's Stand: own text. WP says: from this place every run of this body ends well. -/
def Cx (Z : State) (own ds : String) (m : MethodId) (p : Program) (meth : Method) (c : Code) (nm : String) (bytes : ByteArray) (maxL : Nat) (ret : Option FieldType) : Prop :=
  p.tables.exec = Jvm.exec ∧ c.code = bytes ∧ c.maxLocals = maxL ∧ meth.sig.returnType = ret ∧ (meth.locks = false ∧ Z.methodNamed? ⟨own, nm, ds⟩ = some m) ∧ meth.name = nm
def Pl (l : Launch) (Z : State) (EL : List (String × Nat)) (nar : Bool) (own : String) (R : Room) (p : Program) (e : Env) (s : State) (m : MethodId) (args : Array Value) (below : List Frame) (meth : Method) (c : Code) (vm : Vm) (h : Heap) (T : State) (L : List Loc) (ce sl : Nat) : Prop :=
  Stand p l e R (s.setVm vm) m args below meth c T L ce sl ∧ (∃ k0, s.Since vm k0 ∧ k0 ≤ h.size) ∧ Z.Warmed39 vm ∧ vm.findClass own = some m.cls ∧ T.heap = h ∧ Fr Z.heap.size L ∧ Ext Z.heap h ∧ CHr Z EL s.vm s.heap vm h ∧ (nar = true → s.WarmedH vm) ∧ ∃ a0, EW Z a0 EL
def Fine (Z : State) (EL : List (String × Nat)) (nar : Bool) (R : Room) (Q : Option Value → Heap → Prop) (p : Program) (e : Env) (s : State) (below : List Frame) (S0 : State) : Prop :=
  ∃ t o, Steps p.tables e below S0 t ∧ t.status = .running ∧ Ended t below o ∧ ∃ v L, o = .returned v ∧ Q v t.heap ∧ Ext Z.heap t.heap ∧ Fr Z.heap.size L ∧ CHr Z EL s.vm s.heap t.vm t.heap ∧ (nar = true → s.WarmedH t.vm) ∧ ReturnedEndW s o t L R.cells R.slots
def WP (l : Launch) (Z : State) (EL : List (String × Nat)) (nar : Bool) (own nm ds : String) (bytes : ByteArray) (maxL : Nat) (ret : Option FieldType) (R : Room) (Q : Option Value → Heap → Prop) (vm : Vm) (h : Heap) (ce sl pc : Nat) (Ls : Array Slot) (st : List Value) : Prop :=
  ∀ p e s m args below meth c T L, Cx Z own ds m p meth c nm bytes maxL ret → Pl l Z EL nar own R p e s m args below meth c vm h T L ce sl → Fine Z EL nar R Q p e s below (T.setTop (mkF m pc Ls st))
def Con (l : Launch) (Z : State) (EL : List (String × Nat)) (nar : Bool) (sf : List Addr) (y : MethodName) (bytes : ByteArray) (maxL : Nat) (ret : Option FieldType) (rm : Room) (as' : Array Value) (h0 : Heap) (Q : Option Value → Heap → Prop) : Prop :=
  ∀ ws, MetFree l y (head1 (Cond.code y bytes maxL ret :: ws) rm) (fun a U => a = as' ∧ Z.Warmed39 U.vm ∧ U.heap = h0 ∧ Ext Z.heap h0 ∧ CHv Z EL U.vm h0 ∧ ∀ x ∈ sf, Safe Z EL U.vm h0 x) (fun _ _ _ _ _ => True)
    (fun _ U o U' => ∃ v L, o = .returned v ∧ Q v U'.heap ∧ Ext Z.heap U'.heap ∧ Fr Z.heap.size L ∧ CHr Z EL U.vm U.heap U'.vm U'.heap ∧ (nar = true → U.WarmedH U'.vm) ∧ ReturnedEndW U o U' L rm.cells rm.slots)
section Basic
variable {l : Launch} {Z : State} {EL : List (String × Nat)} {nar : Bool} {own nm ds : String} {bytes : ByteArray} {maxL : Nat} {ret : Option FieldType} {R : Room} {Q : Option Value → Heap → Prop} {vm : Vm} {h : Heap} {ce sl pc n : Nat} {Ls Ls' : Array Slot} {st st' : List Value} {a0 : Array Value}
theorem ext_refl (h : Heap) : Ext h h := ⟨Nat.le_refl _, fun _ _ q => q⟩
theorem ext_trans {h1 h2 h3 : Heap} (E : Ext h1 h2) (F : Ext h2 h3) : Ext h1 h3 := ⟨Nat.le_trans E.1 F.1, fun a c q => F.2 a c (E.2 a c q)⟩
theorem ext_keep {h1 h2 h3 : Heap} {ws : List Addr} (E : Ext h1 h2) (K : Keep h2 h3 ws) (q : ∀ x ∈ ws, h1.size ≤ x) : Ext h1 h3 :=
  ⟨Nat.le_trans E.1 K.1, fun a c r => K.2.1 a c (E.2 a c r) fun z => absurd (Array.getElem?_eq_some_iff.mp r).1 (Nat.not_lt.mpr (q a z))⟩
theorem ext_wr {h1 h2 h3 : Heap} {a : Addr} {i : Nat} {v : Value} (E : Ext h1 h2) (W : Wr h2 h3 a i v) (q : h1.size ≤ a) : Ext h1 h3 :=
  ext_keep E (Keep.of_wr W) fun x hx => by cases List.mem_singleton.mp hx; exact q
theorem ext_keep1 {h1 h2 h3 : Heap} {a : Addr} (E : Ext h1 h2) (K : Keep h2 h3 [a]) (q : h1.size ≤ a) : Ext h1 h3 := ext_keep E K fun x hx => by cases List.mem_singleton.mp hx; exact q
theorem ext_keep0 {h1 h2 : Heap} (K : Keep h1 h2 []) : Ext h1 h2 := ext_keep (ext_refl _) K fun x hx => nomatch hx
/-- what always holds where the walk stands -/
theorem WP.inv (k : Z.Warmed39 vm → Ext Z.heap h → CHv Z EL vm h → WP l Z EL nar own nm ds bytes maxL ret R Q vm h ce sl pc Ls st) : WP l Z EL nar own nm ds bytes maxL ret R Q vm h ce sl pc Ls st := by
  intro p e s m args below meth c T L cx pl
  exact k pl.2.2.1 pl.2.2.2.2.2.2.1 pl.2.2.2.2.2.2.2.1.1 p e s m args below meth c T L cx pl
/-- fewer cells and slots made are at most more -/
theorem WP.more {ce' sl' : Nat} (hc : ce ≤ ce') (hs : sl ≤ sl') (k : WP l Z EL nar own nm ds bytes maxL ret R Q vm h ce' sl' pc Ls st) : WP l Z EL nar own nm ds bytes maxL ret R Q vm h ce sl pc Ls st := by
  intro p e s m args below meth c T L cx pl
  exact k p e s m args below meth c T L cx ⟨pl.1.mono hc hs, pl.2⟩
theorem WP.post {Q' : Option Value → Heap → Prop} (hq : ∀ v h', Q' v h' → Q v h') (k : WP l Z EL nar own nm ds bytes maxL ret R Q' vm h ce sl pc Ls st) : WP l Z EL nar own nm ds bytes maxL ret R Q vm h ce sl pc Ls st := by
  intro p e s m args below meth c T L cx pl
  obtain ⟨t, o, h1, h2, h3, v, L', h4, h5, r⟩ := k p e s m args below meth c T L cx pl
  exact ⟨t, o, h1, h2, h3, v, L', h4, hq _ _ h5, r⟩
/-- a step that leaves the state as it is -/
theorem WP.step (hs : ∀ (p : Program) (e : Env) (below : List Frame) (T target : State) (m : MethodId) (c : Code), p.tables.exec = Jvm.exec → c.code = bytes → At T m c below → Steps p.tables e below (T.setTop (mkF m n Ls' st')) target → Steps p.tables e below (T.setTop (mkF m pc Ls st)) target)
    (k : WP l Z EL nar own nm ds bytes maxL ret R Q vm h ce sl n Ls' st') : WP l Z EL nar own nm ds bytes maxL ret R Q vm h ce sl pc Ls st := by
  intro p e s m args below meth c T L cx pl
  obtain ⟨t, o, h1, r⟩ := k p e s m args below meth c T L cx pl
  exact ⟨t, o, hs p e below T t m c cx.1 cx.2.1 pl.1.here h1, r⟩
/-- a step that leaves the heap as it is (the tables may warm) -/
theorem WP.look (hs : ∀ (p : Program) (e : Env) (s : State) (args : Array Value) (below : List Frame) (T : State) (m : MethodId) (meth : Method) (c : Code) (L : List Loc), p.tables.exec = Jvm.exec → c.code = bytes → Stand p l e R (s.setVm vm) m args below meth c T L ce sl → Z.Warmed39 (s.setVm vm).vm → (s.setVm vm).vm.findClass own = some m.cls → T.heap = h →
      ∃ T', Stand p l e R (s.setVm vm) m args below meth c T' L ce sl ∧ T'.heap = h ∧ ∀ target, Steps p.tables e below (T'.setTop (mkF m n Ls' st')) target → Steps p.tables e below (T.setTop (mkF m pc Ls st)) target)
    (k : WP l Z EL nar own nm ds bytes maxL ret R Q vm h ce sl n Ls' st') : WP l Z EL nar own nm ds bytes maxL ret R Q vm h ce sl pc Ls st := by
  intro p e s m args below meth c T L cx ⟨X, hS, hZ, hown, eT, N, hE, hC, hW, hEL⟩
  obtain ⟨T', X', e', stp⟩ := hs p e s args below T m meth c L cx.1 cx.2.1 X hZ hown eT
  obtain ⟨t, o, h1, r⟩ := k p e s m args below meth c T' L cx ⟨X', hS, hZ, hown, e', N, hE, hC, hW, hEL⟩
  exact ⟨t, o, stp _ h1, r⟩
/-- a step that makes a cell -/
theorem WP.make {ce' sl' : Nat} {P : Heap → Prop} (hs : ∀ (p : Program) (e : Env) (s : State) (args : Array Value) (below : List Frame) (T : State) (m : MethodId) (meth : Method) (c : Code) (L : List Loc), p.tables.exec = Jvm.exec → c.code = bytes → Stand p l e R (s.setVm vm) m args below meth c T L ce sl → Z.Warmed39 (s.setVm vm).vm → (s.setVm vm).vm.findClass own = some m.cls → T.heap = h →
      ∃ T' h', Stand p l e R (s.setVm vm) m args below meth c T' L ce' sl' ∧ T'.heap = h' ∧ Ext h h' ∧ P h' ∧ ∀ target, Steps p.tables e below (T'.setTop (mkF m n Ls' st')) target → Steps p.tables e below (T.setTop (mkF m pc Ls st)) target)
    (k : ∀ h', Ext h h' → P h' → CHr Z EL vm h vm h' → WP l Z EL nar own nm ds bytes maxL ret R Q vm h' ce' sl' n Ls' st') : WP l Z EL nar own nm ds bytes maxL ret R Q vm h ce sl pc Ls st := by
  intro p e s m args below meth c T L cx ⟨X, ⟨k0, hS, hk⟩, hZ, hown, eT, N, hE, hC, hW, hEL⟩
  obtain ⟨T', h', X', e', E', hP, stp⟩ := hs p e s args below T m meth c L cx.1 cx.2.1 X hZ hown eT
  have hR : CHr Z EL vm h vm h' := CHr.ext E' hC.1
  obtain ⟨t, o, h1, r⟩ := k h' E' hP hR p e s m args below meth c T' L cx ⟨X', ⟨k0, hS, Nat.le_trans hk E'.1⟩, hZ, hown, e', N, ext_trans hE E', hC.trans hR, hW, hEL⟩
  exact ⟨t, o, stp _ h1, r⟩
/-- a step that writes one place of a new cell -/
theorem WP.write {a : Addr} {i : Nat} {v : Value} (ha : Z.heap.size ≤ a) (hsafe : Z.Warmed39 vm → Safe Z EL vm h a)
    (hs : ∀ (p : Program) (e : Env) (s : State) (args : Array Value) (below : List Frame) (T : State) (m : MethodId) (meth : Method) (c : Code) (L : List Loc), p.tables.exec = Jvm.exec → c.code = bytes → meth.name = nm → Stand p l e R (s.setVm vm) m args below meth c T L ce sl → Z.Warmed39 (s.setVm vm).vm → (s.setVm vm).vm.findClass own = some m.cls → T.heap = h →
      ∃ T' h', Stand p l e R (s.setVm vm) m args below meth c T' (L ++ [⟨a, i⟩]) ce sl ∧ T'.heap = h' ∧ Wr h h' a i v ∧ ∀ target, Steps p.tables e below (T'.setTop (mkF m n Ls' st')) target → Steps p.tables e below (T.setTop (mkF m pc Ls st)) target)
    (k : ∀ h', Wr h h' a i v → CHr Z EL vm h vm h' → WP l Z EL nar own nm ds bytes maxL ret R Q vm h' ce sl n Ls' st') : WP l Z EL nar own nm ds bytes maxL ret R Q vm h ce sl pc Ls st := by
  intro p e s m args below meth c T L cx ⟨X, ⟨k0, hS, hk⟩, hZ, hown, eT, N, hE, hC, hW, hEL⟩
  obtain ⟨T', h', X', e', W', stp⟩ := hs p e s args below T m meth c L cx.1 cx.2.1 cx.2.2.2.2.2 X hZ hown eT
  have hR : CHr Z EL vm h vm h' := CHr.wr W' (hsafe hZ) hC.1
  obtain ⟨t, o, h1, r⟩ := k h' W' hR p e s m args below meth c T' _ cx ⟨X', ⟨k0, hS, by rw [W'.size]; exact hk⟩, hZ, hown, e', Fr.snoc X' N ha, ext_wr hE W' ha, hC.trans hR, hW, hEL⟩
  exact ⟨t, o, stp _ h1, r⟩
/-- the end -/
theorem WP.done {v : Option Value} (hc : ce ≤ R.cells) (hsl : sl ≤ R.slots) (hv : ret = none → v = none)
    (hs : ∀ (p : Program) (e : Env) (s : State) (args : Array Value) (below : List Frame) (T : State) (m : MethodId) (meth : Method) (c : Code) (L : List Loc) (fs : List Frame), p.tables.exec = Jvm.exec → c.code = bytes → meth.sig.returnType = ret → Stand p l e R (s.setVm vm) m args below meth c T L ce sl →
      (∀ (f : JFrame) (acts : List Action), f.method = m → f.locked = none → f.entered = [] → (doReturn e (T.setTop f) acts v).1 = T.setFrames fs) → Steps p.tables e below (T.setTop (mkF m pc Ls st)) (T.setFrames fs))
    (hq : Q v h) : WP l Z EL nar own nm ds bytes maxL ret R Q vm h ce sl pc Ls st := by
  intro p e s m args below meth c T L cx ⟨X, ⟨k0, hS, hk⟩, hZ, hown, eT, N, hE, hC, hW, a0, hEL⟩
  have hlk : meth.locks = false := cx.2.2.2.2.1.1
  obtain ⟨fs, hr, hrun, hend, hret⟩ := X.leaveW hS (by rw [eT]; exact hk) (v := v) (fun q => hv (cx.2.2.2.1 ▸ q))
  refine ⟨_, _, hs p e s args below T m meth c L fs cx.1 cx.2.1 cx.2.2.2.1 X hr, hrun, hend, v, L, rfl, ?_, ?_, N, ?_, fun q => ?_, ?_⟩
  · show Q v T.heap
    rw [eT]; exact hq
  · show Ext Z.heap T.heap
    rw [eT]; exact hE
  · show CHr Z EL s.vm s.heap T.vm T.heap
    rw [eT]; exact hC.trans (CHv.at X hZ hEL hC.1)
  · exact State.WarmedH.trans (t := s.setVm vm) (hW q) X.warmed
  · obtain ⟨r1, r2, r3, r4⟩ := hret
    exact ⟨r1, r2, r3, r4.mono hc hsl⟩
/-- a body's contract out of its walk -/
theorem Con.of {sf : List Addr} {y : MethodName} {as' : Array Value} (hpn : plainFor y = true) (hEL : EW Z a0 EL) (hef : ∀ m, entryFrame m as' maxL = mkF m 0 Ls [])
    (k : ∀ vm, Z.Warmed39 vm → Ext Z.heap h → CHv Z EL vm h → (∀ x ∈ sf, Safe Z EL vm h x) → WP l Z EL nar y.cls y.name y.desc bytes maxL ret R Q vm h 0 0 0 Ls []) : Con l Z EL nar sf y bytes maxL ret R as' h Q := by
  intro ws
  refine MetFree.of_bodySF hpn hisR ?_
  intro p e s m args below meth c s₁ Bd hml hP hK
  obtain ⟨rfl, hZ, hh, hE, hC, hS⟩ := hP
  have X0 : Stand p l e R s m args below meth c s₁ [] 0 0 := Stand.of_body Bd
  have e0 : s₁.heap = h := by rw [← hh, Bd.state]; rfl
  obtain ⟨t, o, h1, h2, h3, r⟩ := k s.vm hZ hE hC hS p e s m args below meth c s₁ [] ⟨Bd.exec, Bd.bytes, hml, Bd.returns, ⟨Bd.notSynchronized, (State.methodNamed?_setVm (s := Z) hZ.alike y).symm.trans Bd.named⟩, (name_of_methodNamed Bd.named Bd.method).1⟩
    ⟨X0, ⟨s.heap.size, (State.WarmedH.refl s).since _, by rw [hh]; exact Nat.le_refl _⟩, hZ, findClass_of_methodNamed Bd.named, e0, Fr.nil _, hE, by rw [hh]; exact CHr.refl hC, fun _ => State.WarmedH.refl s, a0, hEL⟩
  exact ⟨t, o, castTop (hef m) h1, h2, h3, r⟩
theorem Con.post {sf : List Addr} {y : MethodName} {as' : Array Value} {Q' : Option Value → Heap → Prop} (C : Con l Z EL nar sf y bytes maxL ret R as' h Q') (hq : ∀ v h', Q' v h' → Q v h') : Con l Z EL nar sf y bytes maxL ret R as' h Q := by
  intro ws p e ha hc hk s m args below hf happ hP hK
  obtain ⟨n, o, h1, h2, h3, v, L, h4, h5, r⟩ := C ws p e ha hc hk s m args below hf happ hP hK
  exact ⟨n, o, h1, h2, h3, v, L, h4, hq _ _ h5, r⟩
theorem Con.back {sf : List Addr} {y : MethodName} {as' : Array Value} {a1 : Array Value} {p : Program} {e : Env} {below : List Frame} {s : State} {args : Array Value} {len Wd : Nat} {rm : Room} (C : Con l Z EL nar sf y bytes maxL ret rm as' h Q) (hEL : EW Z a1 EL) (hZ : Z.Warmed39 vm) (wc : (Cond.code y bytes maxL ret).before a0 Z = true) (wz : (Cond.initialized y.cls).before a0 Z = true)
    (hf : rm.frames + 1 ≤ R.frames) (hl : Wd + (maxL + 11) + rm.locals ≤ R.locals) (hE : Ext Z.heap h) (H : CHv Z EL vm h) (hsf : ∀ x ∈ sf, Safe Z EL vm h x ∧ x < h.size) :
    BackS l R p e below (s.setVm vm) args y len Wd (fun A a => a = as' ∧ A.U.heap = h ∧ A.cells + rm.cells ≤ R.cells ∧ A.slots + rm.slots ≤ R.slots)
      (fun A _ v B => ∃ L, Q v B.U.heap ∧ Ext Z.heap B.U.heap ∧ Fr Z.heap.size L ∧ B.locs = A.locs ++ L ∧ B.cells = A.cells + rm.cells ∧ B.slots = A.slots + rm.slots ∧ CHr Z EL vm h B.U.vm B.U.heap ∧ (nar = true → (s.setVm vm).WarmedH B.U.vm)) :=
  BackS.of_freeW (bytes := bytes) (maxL := maxL) (ret := ret) (E := fun _ first o t L k n => k = rm.cells ∧ n = rm.slots ∧ (∃ v, o = .returned v ∧ Q v t.heap ∧ Ext Z.heap t.heap ∧ Fr Z.heap.size L) ∧ CHr Z EL first.vm first.heap t.vm t.heap ∧ (nar = true → first.WarmedH t.vm)) (C []) hf hl
    (fun m meth c A a Y hp => have hU : Z.Warmed39 A.U.vm := wtrans (s := s.setVm vm) hZ Y.warmed
      ⟨by show (Cond.and _ .tt).before a A.U = true; rw [Cond.before_and, mv hU wc]; rfl, mv hU wc, mv hU wz, hp.2.2.1, hp.2.2.2⟩)
    (fun m meth c A a g mk Y hp => ⟨hp.1, wtrans (s := s.setVm vm) hZ Y.warmed, hp.2.1, hE, (CHv.at Y hZ hEL H).1, fun x hx => (CHv.at Y hZ hEL H).safe (hsf x hx).2 (hsf x hx).1⟩) (fun _ _ _ _ _ _ _ _ _ => trivial)
    (fun _ _ _ _ ⟨v, L, h1, h2, h3, h4, h5, h6, h7⟩ => ⟨L, _, _, h7, rfl, rfl, ⟨v, h1, h2, h3, h4⟩, h5, h6⟩)
    (fun m meth c A a g mk v t L k n Y hp _ _ ⟨e1, e2, ⟨v', e3, e4, e5, e6⟩, e7, e8⟩ => by
      cases e3; subst e1 e2
      refine ⟨L, e4, e5, e6, rfl, rfl, rfl, (CHv.at Y hZ hEL H).trans ?_, fun q => ?_⟩
      · rw [← hp.2.1]; exact e7
      · exact State.WarmedH.trans (t := A.U.calling g mk a) Y.warmed (e8 q))
end Basic
end Jvm.OwnW
namespace Jvm.OwnW
open Jvm Jvm.ClassFile Sem Op Lib Jvm.Free Jvm.Stand Jvm.LawKit Jvm.RoadKit Bundle
section Steps
variable {l : Launch} {Z : State} {EL : List (String × Nat)} {nar : Bool} {own nm ds : String} {bytes : ByteArray} {maxL : Nat} {ret : Option FieldType} {R : Room} {Q : Option Value → Heap → Prop} {vm : Vm} {h : Heap} {ce sl pc n n' : Nat} {Ls Ls' : Array Slot} {st rest : List Value} {a0 : Array Value}
theorem WP.iloadN {k' : Fin 4} {v : Int32} (hd : decode bytes pc = .ok (.iload_n k', 1)) (hl : Ls[k'.val]? = some (.val (.int v))) (hp : pc + 1 = n) (k : WP l Z EL nar own nm ds bytes maxL ret R Q vm h ce sl n Ls (.int v :: st)) : WP l Z EL nar own nm ds bytes maxL ret R Q vm h ce sl pc Ls (st) := by subst hp; exact WP.step (fun p e below T t m c hx hb ha q => XS.iloadN ha hx rfl (hb ▸ hd) hl q) k
theorem WP.iload {k' : Nat} {v : Int32} (hd : decode bytes pc = .ok (.iload k', 2)) (hl : Ls[k']? = some (.val (.int v))) (hp : pc + 2 = n) (k : WP l Z EL nar own nm ds bytes maxL ret R Q vm h ce sl n Ls (.int v :: st)) : WP l Z EL nar own nm ds bytes maxL ret R Q vm h ce sl pc Ls (st) := by subst hp; exact WP.step (fun p e below T t m c hx hb ha q => XS.iload ha hx rfl (hb ▸ hd) hl q) k
theorem WP.istoreN {k' : Fin 4} {v : Int32} (hd : decode bytes pc = .ok (.istore_n k', 1)) (hl : storeLocals Ls k'.val (.int v) = some Ls') (hp : pc + 1 = n) (k : WP l Z EL nar own nm ds bytes maxL ret R Q vm h ce sl n Ls' (rest)) : WP l Z EL nar own nm ds bytes maxL ret R Q vm h ce sl pc Ls (.int v :: rest) := by subst hp; exact WP.step (fun p e below T t m c hx hb ha q => XS.istoreN ha hx rfl (hb ▸ hd) rfl hl q) k
theorem WP.istore {k' : Nat} {v : Int32} (hd : decode bytes pc = .ok (.istore k', 2)) (hl : storeLocals Ls k' (.int v) = some Ls') (hp : pc + 2 = n) (k : WP l Z EL nar own nm ds bytes maxL ret R Q vm h ce sl n Ls' (rest)) : WP l Z EL nar own nm ds bytes maxL ret R Q vm h ce sl pc Ls (.int v :: rest) := by subst hp; exact WP.step (fun p e below T t m c hx hb ha q => XS.istore ha hx rfl (hb ▸ hd) rfl hl q) k
theorem WP.lloadN {k' : Fin 4} {v : Int64} (hd : decode bytes pc = .ok (.lload_n k', 1)) (hl : Ls[k'.val]? = some (.val (.long v))) (hp : pc + 1 = n) (k : WP l Z EL nar own nm ds bytes maxL ret R Q vm h ce sl n Ls (.long v :: st)) : WP l Z EL nar own nm ds bytes maxL ret R Q vm h ce sl pc Ls (st) := by subst hp; exact WP.step (fun p e below T t m c hx hb ha q => XT.lloadN ha hx rfl (hb ▸ hd) hl q) k
theorem WP.lload {k' : Nat} {v : Int64} (hd : decode bytes pc = .ok (.lload k', 2)) (hl : Ls[k']? = some (.val (.long v))) (hp : pc + 2 = n) (k : WP l Z EL nar own nm ds bytes maxL ret R Q vm h ce sl n Ls (.long v :: st)) : WP l Z EL nar own nm ds bytes maxL ret R Q vm h ce sl pc Ls (st) := by subst hp; exact WP.step (fun p e below T t m c hx hb ha q => XT.lload ha hx rfl (hb ▸ hd) hl q) k
theorem WP.lstoreN {k' : Fin 4} {v : Int64} (hd : decode bytes pc = .ok (.lstore_n k', 1)) (hl : storeLocals Ls k'.val (.long v) = some Ls') (hp : pc + 1 = n) (k : WP l Z EL nar own nm ds bytes maxL ret R Q vm h ce sl n Ls' (rest)) : WP l Z EL nar own nm ds bytes maxL ret R Q vm h ce sl pc Ls (.long v :: rest) := by subst hp; exact WP.step (fun p e below T t m c hx hb ha q => XT.lstoreN ha hx rfl (hb ▸ hd) rfl hl q) k
theorem WP.lstore {k' : Nat} {v : Int64} (hd : decode bytes pc = .ok (.lstore k', 2)) (hl : storeLocals Ls k' (.long v) = some Ls') (hp : pc + 2 = n) (k : WP l Z EL nar own nm ds bytes maxL ret R Q vm h ce sl n Ls' (rest)) : WP l Z EL nar own nm ds bytes maxL ret R Q vm h ce sl pc Ls (.long v :: rest) := by subst hp; exact WP.step (fun p e below T t m c hx hb ha q => XT.lstore ha hx rfl (hb ▸ hd) rfl hl q) k
theorem WP.aloadN {k' : Fin 4} {v : Value} (hd : decode bytes pc = .ok (.aload_n k', 1)) (hl : Ls[k'.val]? = some (.val v)) (hv : v.isRef = true) (hp : pc + 1 = n) (k : WP l Z EL nar own nm ds bytes maxL ret R Q vm h ce sl n Ls (v :: st)) : WP l Z EL nar own nm ds bytes maxL ret R Q vm h ce sl pc Ls (st) := by subst hp; exact WP.step (fun p e below T t m c hx hb ha q => XS.aloadN ha hx rfl (hb ▸ hd) hl hv q) k
theorem WP.aload {k' : Nat} {v : Value} (hd : decode bytes pc = .ok (.aload k', 2)) (hl : Ls[k']? = some (.val v)) (hv : v.isRef = true) (hp : pc + 2 = n) (k : WP l Z EL nar own nm ds bytes maxL ret R Q vm h ce sl n Ls (v :: st)) : WP l Z EL nar own nm ds bytes maxL ret R Q vm h ce sl pc Ls (st) := by subst hp; exact WP.step (fun p e below T t m c hx hb ha q => XS.aload ha hx rfl (hb ▸ hd) hl hv q) k
theorem WP.astoreN {k' : Fin 4} {v : Value} (hd : decode bytes pc = .ok (.astore_n k', 1)) (hv : v.isRef = true) (hl : storeLocals Ls k'.val v = some Ls') (hp : pc + 1 = n) (k : WP l Z EL nar own nm ds bytes maxL ret R Q vm h ce sl n Ls' (rest)) : WP l Z EL nar own nm ds bytes maxL ret R Q vm h ce sl pc Ls (v :: rest) := by subst hp; exact WP.step (fun p e below T t m c hx hb ha q => XS.astoreN ha hx rfl (hb ▸ hd) rfl hv hl q) k
theorem WP.astore {k' : Nat} {v : Value} (hd : decode bytes pc = .ok (.astore k', 2)) (hv : v.isRef = true) (hl : storeLocals Ls k' v = some Ls') (hp : pc + 2 = n) (k : WP l Z EL nar own nm ds bytes maxL ret R Q vm h ce sl n Ls' (rest)) : WP l Z EL nar own nm ds bytes maxL ret R Q vm h ce sl pc Ls (v :: rest) := by subst hp; exact WP.step (fun p e below T t m c hx hb ha q => XS.astore ha hx rfl (hb ▸ hd) rfl hv hl q) k
theorem WP.iconst {i : Int} {z : Int32} (hd : decode bytes pc = .ok (.iconst i, 1)) (hz : Int32.ofInt i = z) (hp : pc + 1 = n) (k : WP l Z EL nar own nm ds bytes maxL ret R Q vm h ce sl n Ls (.int z :: st)) : WP l Z EL nar own nm ds bytes maxL ret R Q vm h ce sl pc Ls st := by subst hp hz; exact WP.step (fun p e below T t m c hx hb ha q => XS.iconst ha hx rfl (hb ▸ hd) q) k
theorem WP.bipush {i : Int} {z : Int32} (hd : decode bytes pc = .ok (.bipush i, 2)) (hz : (Int8.ofInt i).toInt32 = z) (hp : pc + 2 = n) (k : WP l Z EL nar own nm ds bytes maxL ret R Q vm h ce sl n Ls (.int z :: st)) : WP l Z EL nar own nm ds bytes maxL ret R Q vm h ce sl pc Ls st := by subst hp hz; exact WP.step (fun p e below T t m c hx hb ha q => XS.bipush ha hx rfl (hb ▸ hd) q) k
theorem WP.sipush {i : Int} {z : Int32} (hd : decode bytes pc = .ok (.sipush i, 3)) (hz : (Int16.ofInt i).toInt32 = z) (hp : pc + 3 = n) (k : WP l Z EL nar own nm ds bytes maxL ret R Q vm h ce sl n Ls (.int z :: st)) : WP l Z EL nar own nm ds bytes maxL ret R Q vm h ce sl pc Ls st := by subst hp hz; exact WP.step (fun p e below T t m c hx hb ha q => XS.sipush ha hx rfl (hb ▸ hd) q) k
theorem WP.lconst {i : Fin 2} (hd : decode bytes pc = .ok (.lconst i, 1)) {z : Int64} (hz : Int64.ofNat i = z) (hp : pc + 1 = n) (k : WP l Z EL nar own nm ds bytes maxL ret R Q vm h ce sl n Ls (.long z :: st)) : WP l Z EL nar own nm ds bytes maxL ret R Q vm h ce sl pc Ls st := by subst hp hz; exact WP.step (fun p e below T t m c hx hb ha q => XT.lconst ha hx rfl (hb ▸ hd) q) k
theorem WP.aconstNull  (hd : decode bytes pc = .ok (.aconst_null, 1))  (hp : pc + 1 = n) (k : WP l Z EL nar own nm ds bytes maxL ret R Q vm h ce sl n Ls (.null :: st)) : WP l Z EL nar own nm ds bytes maxL ret R Q vm h ce sl pc Ls (st) := by subst hp; exact WP.step (fun p e below T t m c hx hb ha q => XS.aconstNull ha hx rfl (hb ▸ hd)  q) k
theorem WP.iadd {x y : Int32} (hd : decode bytes pc = .ok (.iadd, 1))  (hp : pc + 1 = n) (k : WP l Z EL nar own nm ds bytes maxL ret R Q vm h ce sl n Ls (.int (x + y) :: rest)) : WP l Z EL nar own nm ds bytes maxL ret R Q vm h ce sl pc Ls (.int y :: .int x :: rest) := by subst hp; exact WP.step (fun p e below T t m c hx hb ha q => XS.iadd ha hx rfl (hb ▸ hd) rfl q) k
theorem WP.isub {x y : Int32} (hd : decode bytes pc = .ok (.isub, 1))  (hp : pc + 1 = n) (k : WP l Z EL nar own nm ds bytes maxL ret R Q vm h ce sl n Ls (.int (x - y) :: rest)) : WP l Z EL nar own nm ds bytes maxL ret R Q vm h ce sl pc Ls (.int y :: .int x :: rest) := by subst hp; exact WP.step (fun p e below T t m c hx hb ha q => XS.isub ha hx rfl (hb ▸ hd) rfl q) k
theorem WP.iand {x y : Int32} (hd : decode bytes pc = .ok (.iand, 1))  (hp : pc + 1 = n) (k : WP l Z EL nar own nm ds bytes maxL ret R Q vm h ce sl n Ls (.int (x &&& y) :: rest)) : WP l Z EL nar own nm ds bytes maxL ret R Q vm h ce sl pc Ls (.int y :: .int x :: rest) := by subst hp; exact WP.step (fun p e below T t m c hx hb ha q => XS.iand ha hx rfl (hb ▸ hd) rfl q) k
theorem WP.imul {x y : Int32} (hd : decode bytes pc = .ok (.imul, 1))  (hp : pc + 1 = n) (k : WP l Z EL nar own nm ds bytes maxL ret R Q vm h ce sl n Ls (.int (x * y) :: rest)) : WP l Z EL nar own nm ds bytes maxL ret R Q vm h ce sl pc Ls (.int y :: .int x :: rest) := by subst hp; exact WP.step (fun p e below T t m c hx hb ha q => XS.imul ha hx rfl (hb ▸ hd) rfl q) k
theorem WP.ixor {x y : Int32} (hd : decode bytes pc = .ok (.ixor, 1))  (hp : pc + 1 = n) (k : WP l Z EL nar own nm ds bytes maxL ret R Q vm h ce sl n Ls (.int (x ^^^ y) :: rest)) : WP l Z EL nar own nm ds bytes maxL ret R Q vm h ce sl pc Ls (.int y :: .int x :: rest) := by subst hp; exact WP.step (fun p e below T t m c hx hb ha q => XT.ixor ha hx rfl (hb ▸ hd) rfl q) k
theorem WP.ior {x y : Int32} (hd : decode bytes pc = .ok (.ior, 1))  (hp : pc + 1 = n) (k : WP l Z EL nar own nm ds bytes maxL ret R Q vm h ce sl n Ls (.int (x ||| y) :: rest)) : WP l Z EL nar own nm ds bytes maxL ret R Q vm h ce sl pc Ls (.int y :: .int x :: rest) := by subst hp; exact WP.step (fun p e below T t m c hx hb ha q => XT.ior ha hx rfl (hb ▸ hd) rfl q) k
theorem WP.ishl {x y : Int32} (hd : decode bytes pc = .ok (.ishl, 1))  (hp : pc + 1 = n) (k : WP l Z EL nar own nm ds bytes maxL ret R Q vm h ce sl n Ls (.int (x <<< (y &&& 31)) :: rest)) : WP l Z EL nar own nm ds bytes maxL ret R Q vm h ce sl pc Ls (.int y :: .int x :: rest) := by subst hp; exact WP.step (fun p e below T t m c hx hb ha q => XT.ishl ha hx rfl (hb ▸ hd) rfl q) k
theorem WP.ishr {x y : Int32} (hd : decode bytes pc = .ok (.ishr, 1))  (hp : pc + 1 = n) (k : WP l Z EL nar own nm ds bytes maxL ret R Q vm h ce sl n Ls (.int (x >>> (y &&& 31)) :: rest)) : WP l Z EL nar own nm ds bytes maxL ret R Q vm h ce sl pc Ls (.int y :: .int x :: rest) := by subst hp; exact WP.step (fun p e below T t m c hx hb ha q => XT.ishr ha hx rfl (hb ▸ hd) rfl q) k
theorem WP.iushr {x y : Int32} (hd : decode bytes pc = .ok (.iushr, 1))  (hp : pc + 1 = n) (k : WP l Z EL nar own nm ds bytes maxL ret R Q vm h ce sl n Ls (.int (XT.ushr x y) :: rest)) : WP l Z EL nar own nm ds bytes maxL ret R Q vm h ce sl pc Ls (.int y :: .int x :: rest) := by subst hp; exact WP.step (fun p e below T t m c hx hb ha q => XT.iushr ha hx rfl (hb ▸ hd) rfl q) k
theorem WP.idiv {x y : Int32} (hd : decode bytes pc = .ok (.idiv, 1)) (hy : y ≠ 0) (hp : pc + 1 = n) (k : WP l Z EL nar own nm ds bytes maxL ret R Q vm h ce sl n Ls (.int (x / y) :: rest)) : WP l Z EL nar own nm ds bytes maxL ret R Q vm h ce sl pc Ls (.int y :: .int x :: rest) := by subst hp; exact WP.step (fun p e below T t m c hx hb ha q => XS.idiv ha hx rfl (hb ▸ hd) rfl hy q) k
theorem WP.irem {x y : Int32} (hd : decode bytes pc = .ok (.irem, 1)) (hy : y ≠ 0) (hp : pc + 1 = n) (k : WP l Z EL nar own nm ds bytes maxL ret R Q vm h ce sl n Ls (.int (x % y) :: rest)) : WP l Z EL nar own nm ds bytes maxL ret R Q vm h ce sl pc Ls (.int y :: .int x :: rest) := by subst hp; rw [← irem_eq_mod] at k; exact WP.step (fun p e below T t m c hx hb ha q => XS.irem ha hx rfl (hb ▸ hd) rfl hy q) k
theorem WP.ineg {x : Int32} (hd : decode bytes pc = .ok (.ineg, 1))  (hp : pc + 1 = n) (k : WP l Z EL nar own nm ds bytes maxL ret R Q vm h ce sl n Ls (.int (-x) :: rest)) : WP l Z EL nar own nm ds bytes maxL ret R Q vm h ce sl pc Ls (.int x :: rest) := by subst hp; exact WP.step (fun p e below T t m c hx hb ha q => XS.ineg ha hx rfl (hb ▸ hd) rfl q) k
theorem WP.iinc {k' : Nat} {cst : Int} {x z : Int32} (hd : decode bytes pc = .ok (.iinc k' cst, 3)) (hl : Ls[k']? = some (.val (.int x))) (hz : x + Int32.ofInt cst = z) (hl' : storeLocals Ls k' (.int z) = some Ls') (hp : pc + 3 = n) (k : WP l Z EL nar own nm ds bytes maxL ret R Q vm h ce sl n Ls' st) : WP l Z EL nar own nm ds bytes maxL ret R Q vm h ce sl pc Ls st := by subst hp hz; exact WP.step (fun p e below T t m c hx hb ha q => XS.iinc ha hx rfl (hb ▸ hd) hl hl' q) k
theorem WP.ladd {x y : Int64} (hd : decode bytes pc = .ok (.ladd, 1))  (hp : pc + 1 = n) (k : WP l Z EL nar own nm ds bytes maxL ret R Q vm h ce sl n Ls (.long (x + y) :: rest)) : WP l Z EL nar own nm ds bytes maxL ret R Q vm h ce sl pc Ls (.long y :: .long x :: rest) := by subst hp; exact WP.step (fun p e below T t m c hx hb ha q => XT.ladd ha hx rfl (hb ▸ hd) rfl q) k
theorem WP.lsub {x y : Int64} (hd : decode bytes pc = .ok (.lsub, 1))  (hp : pc + 1 = n) (k : WP l Z EL nar own nm ds bytes maxL ret R Q vm h ce sl n Ls (.long (x - y) :: rest)) : WP l Z EL nar own nm ds bytes maxL ret R Q vm h ce sl pc Ls (.long y :: .long x :: rest) := by subst hp; exact WP.step (fun p e below T t m c hx hb ha q => XT.lsub ha hx rfl (hb ▸ hd) rfl q) k
theorem WP.lmul {x y : Int64} (hd : decode bytes pc = .ok (.lmul, 1))  (hp : pc + 1 = n) (k : WP l Z EL nar own nm ds bytes maxL ret R Q vm h ce sl n Ls (.long (x * y) :: rest)) : WP l Z EL nar own nm ds bytes maxL ret R Q vm h ce sl pc Ls (.long y :: .long x :: rest) := by subst hp; exact WP.step (fun p e below T t m c hx hb ha q => XT.lmul ha hx rfl (hb ▸ hd) rfl q) k
theorem WP.land {x y : Int64} (hd : decode bytes pc = .ok (.land, 1))  (hp : pc + 1 = n) (k : WP l Z EL nar own nm ds bytes maxL ret R Q vm h ce sl n Ls (.long (x &&& y) :: rest)) : WP l Z EL nar own nm ds bytes maxL ret R Q vm h ce sl pc Ls (.long y :: .long x :: rest) := by subst hp; exact WP.step (fun p e below T t m c hx hb ha q => XT.land ha hx rfl (hb ▸ hd) rfl q) k
theorem WP.lor {x y : Int64} (hd : decode bytes pc = .ok (.lor, 1))  (hp : pc + 1 = n) (k : WP l Z EL nar own nm ds bytes maxL ret R Q vm h ce sl n Ls (.long (x ||| y) :: rest)) : WP l Z EL nar own nm ds bytes maxL ret R Q vm h ce sl pc Ls (.long y :: .long x :: rest) := by subst hp; exact WP.step (fun p e below T t m c hx hb ha q => XT.lor ha hx rfl (hb ▸ hd) rfl q) k
theorem WP.lxor {x y : Int64} (hd : decode bytes pc = .ok (.lxor, 1))  (hp : pc + 1 = n) (k : WP l Z EL nar own nm ds bytes maxL ret R Q vm h ce sl n Ls (.long (x ^^^ y) :: rest)) : WP l Z EL nar own nm ds bytes maxL ret R Q vm h ce sl pc Ls (.long y :: .long x :: rest) := by subst hp; exact WP.step (fun p e below T t m c hx hb ha q => XT.lxor ha hx rfl (hb ▸ hd) rfl q) k
theorem WP.lshl {x : Int64} {y : Int32} (hd : decode bytes pc = .ok (.lshl, 1))  (hp : pc + 1 = n) (k : WP l Z EL nar own nm ds bytes maxL ret R Q vm h ce sl n Ls (.long (x <<< (y.toInt64 &&& 63)) :: rest)) : WP l Z EL nar own nm ds bytes maxL ret R Q vm h ce sl pc Ls (.int y :: .long x :: rest) := by subst hp; exact WP.step (fun p e below T t m c hx hb ha q => XT.lshl ha hx rfl (hb ▸ hd) rfl q) k
theorem WP.lshr {x : Int64} {y : Int32} (hd : decode bytes pc = .ok (.lshr, 1))  (hp : pc + 1 = n) (k : WP l Z EL nar own nm ds bytes maxL ret R Q vm h ce sl n Ls (.long (x >>> (y.toInt64 &&& 63)) :: rest)) : WP l Z EL nar own nm ds bytes maxL ret R Q vm h ce sl pc Ls (.int y :: .long x :: rest) := by subst hp; exact WP.step (fun p e below T t m c hx hb ha q => XT.lshr ha hx rfl (hb ▸ hd) rfl q) k
theorem WP.lushr {x : Int64} {y : Int32} (hd : decode bytes pc = .ok (.lushr, 1))  (hp : pc + 1 = n) (k : WP l Z EL nar own nm ds bytes maxL ret R Q vm h ce sl n Ls (.long (XT.ushrL x y) :: rest)) : WP l Z EL nar own nm ds bytes maxL ret R Q vm h ce sl pc Ls (.int y :: .long x :: rest) := by subst hp; exact WP.step (fun p e below T t m c hx hb ha q => XT.lushr ha hx rfl (hb ▸ hd) rfl q) k
theorem WP.ldiv {x y : Int64} (hd : decode bytes pc = .ok (.ldiv, 1)) (hy : y ≠ 0) (hp : pc + 1 = n) (k : WP l Z EL nar own nm ds bytes maxL ret R Q vm h ce sl n Ls (.long (x / y) :: rest)) : WP l Z EL nar own nm ds bytes maxL ret R Q vm h ce sl pc Ls (.long y :: .long x :: rest) := by subst hp; exact WP.step (fun p e below T t m c hx hb ha q => XT.ldiv ha hx rfl (hb ▸ hd) rfl hy q) k
theorem WP.lrem {x y : Int64} (hd : decode bytes pc = .ok (.lrem, 1)) (hy : y ≠ 0) (hp : pc + 1 = n) (k : WP l Z EL nar own nm ds bytes maxL ret R Q vm h ce sl n Ls (.long (x - (x / y) * y) :: rest)) : WP l Z EL nar own nm ds bytes maxL ret R Q vm h ce sl pc Ls (.long y :: .long x :: rest) := by subst hp; exact WP.step (fun p e below T t m c hx hb ha q => XT.lrem ha hx rfl (hb ▸ hd) rfl hy q) k
theorem WP.lneg {x : Int64} (hd : decode bytes pc = .ok (.lneg, 1))  (hp : pc + 1 = n) (k : WP l Z EL nar own nm ds bytes maxL ret R Q vm h ce sl n Ls (.long (-x) :: rest)) : WP l Z EL nar own nm ds bytes maxL ret R Q vm h ce sl pc Ls (.long x :: rest) := by subst hp; exact WP.step (fun p e below T t m c hx hb ha q => XT.lneg ha hx rfl (hb ▸ hd) rfl q) k
theorem WP.lcmp {x y : Int64} (hd : decode bytes pc = .ok (.lcmp, 1))  (hp : pc + 1 = n) (k : WP l Z EL nar own nm ds bytes maxL ret R Q vm h ce sl n Ls (.int (XT.cmpL x y) :: rest)) : WP l Z EL nar own nm ds bytes maxL ret R Q vm h ce sl pc Ls (.long y :: .long x :: rest) := by subst hp; exact WP.step (fun p e below T t m c hx hb ha q => XT.lcmp ha hx rfl (hb ▸ hd) rfl q) k
theorem WP.i2l {x : Int32} (hd : decode bytes pc = .ok (.i2l, 1))  (hp : pc + 1 = n) (k : WP l Z EL nar own nm ds bytes maxL ret R Q vm h ce sl n Ls (.long x.toInt64 :: rest)) : WP l Z EL nar own nm ds bytes maxL ret R Q vm h ce sl pc Ls (.int x :: rest) := by subst hp; exact WP.step (fun p e below T t m c hx hb ha q => XT.i2l ha hx rfl (hb ▸ hd) rfl q) k
theorem WP.l2i {x : Int64} (hd : decode bytes pc = .ok (.l2i, 1))  (hp : pc + 1 = n) (k : WP l Z EL nar own nm ds bytes maxL ret R Q vm h ce sl n Ls (.int x.toInt32 :: rest)) : WP l Z EL nar own nm ds bytes maxL ret R Q vm h ce sl pc Ls (.long x :: rest) := by subst hp; exact WP.step (fun p e below T t m c hx hb ha q => XT.l2i ha hx rfl (hb ▸ hd) rfl q) k
theorem WP.i2b {x : Int32} (hd : decode bytes pc = .ok (.i2b, 1))  (hp : pc + 1 = n) (k : WP l Z EL nar own nm ds bytes maxL ret R Q vm h ce sl n Ls (.int x.toInt8.toInt32 :: rest)) : WP l Z EL nar own nm ds bytes maxL ret R Q vm h ce sl pc Ls (.int x :: rest) := by subst hp; exact WP.step (fun p e below T t m c hx hb ha q => XT.i2b ha hx rfl (hb ▸ hd) rfl q) k
theorem WP.i2c {x z : Int32} (hd : decode bytes pc = .ok (.i2c, 1)) (hz : x.toUInt32.toUInt16.toUInt32.toInt32 = z) (hp : pc + 1 = n) (k : WP l Z EL nar own nm ds bytes maxL ret R Q vm h ce sl n Ls (.int z :: rest)) : WP l Z EL nar own nm ds bytes maxL ret R Q vm h ce sl pc Ls (.int x :: rest) := by subst hp hz; exact WP.step (fun p e below T t m c hx hb ha q => XT.i2c ha hx rfl (hb ▸ hd) rfl q) k
theorem WP.i2s {x : Int32} (hd : decode bytes pc = .ok (.i2s, 1))  (hp : pc + 1 = n) (k : WP l Z EL nar own nm ds bytes maxL ret R Q vm h ce sl n Ls (.int x.toInt16.toInt32 :: rest)) : WP l Z EL nar own nm ds bytes maxL ret R Q vm h ce sl pc Ls (.int x :: rest) := by subst hp; exact WP.step (fun p e below T t m c hx hb ha q => XT.i2s ha hx rfl (hb ▸ hd) rfl q) k
theorem WP.dup {v : Value} (hd : decode bytes pc = .ok (.dup, 1)) (hc : v.category = 1) (hp : pc + 1 = n) (k : WP l Z EL nar own nm ds bytes maxL ret R Q vm h ce sl n Ls (v :: v :: rest)) : WP l Z EL nar own nm ds bytes maxL ret R Q vm h ce sl pc Ls (v :: rest) := by subst hp; exact WP.step (fun p e below T t m c hx hb ha q => XS.dup ha hx rfl (hb ▸ hd) rfl hc q) k
theorem WP.pop {v : Value} (hd : decode bytes pc = .ok (.pop, 1)) (hc : v.category = 1) (hp : pc + 1 = n) (k : WP l Z EL nar own nm ds bytes maxL ret R Q vm h ce sl n Ls (rest)) : WP l Z EL nar own nm ds bytes maxL ret R Q vm h ce sl pc Ls (v :: rest) := by subst hp; exact WP.step (fun p e below T t m c hx hb ha q => XT.pop ha hx rfl (hb ▸ hd) rfl hc q) k
theorem WP.dupX1 {v w : Value} (hd : decode bytes pc = .ok (.dup_x1, 1)) (hc : v.category = 1) (hc' : w.category = 1) (hp : pc + 1 = n) (k : WP l Z EL nar own nm ds bytes maxL ret R Q vm h ce sl n Ls (v :: w :: v :: rest)) : WP l Z EL nar own nm ds bytes maxL ret R Q vm h ce sl pc Ls (v :: w :: rest) := by subst hp; exact WP.step (fun p e below T t m c hx hb ha q => XT.dupX1 ha hx rfl (hb ▸ hd) rfl hc hc' q) k
theorem WP.dup2 {v w : Value} (hd : decode bytes pc = .ok (.dup2, 1)) (hc : v.category = 1) (hc' : w.category = 1) (hp : pc + 1 = n) (k : WP l Z EL nar own nm ds bytes maxL ret R Q vm h ce sl n Ls (v :: w :: v :: w :: rest)) : WP l Z EL nar own nm ds bytes maxL ret R Q vm h ce sl pc Ls (v :: w :: rest) := by subst hp; exact WP.step (fun p e below T t m c hx hb ha q => XT.dup2 ha hx rfl (hb ▸ hd) rfl hc hc' q) k
theorem WP.goto {o' : Int} (hd : decode bytes pc = .ok (.goto o', 3)) (ho : 0 ≤ (pc : Int) + o') (hn : ((pc : Int) + o').toNat = n) (k : WP l Z EL nar own nm ds bytes maxL ret R Q vm h ce sl n Ls st) : WP l Z EL nar own nm ds bytes maxL ret R Q vm h ce sl pc Ls st := WP.step (fun p e below T t m c hx hb ha q => XS.goto ha hx rfl (pc0 := pc) rfl (hb ▸ hd) ho hn q) k
theorem WP.icmpY {cd : ClassFile.Cond} {o' : Int} {x y : Int32} (hd : decode bytes pc = .ok (.if_icmp cd o', 3)) (hc : if_icmp.holds cd x y = true) (ho : 0 ≤ (pc : Int) + o') (hn : ((pc : Int) + o').toNat = n) (k : WP l Z EL nar own nm ds bytes maxL ret R Q vm h ce sl n Ls rest) : WP l Z EL nar own nm ds bytes maxL ret R Q vm h ce sl pc Ls (.int y :: .int x :: rest) := WP.step (fun p e below T t m c hx hb ha q => XS.icmpYes ha hx rfl (pc0 := pc) rfl (hb ▸ hd) rfl hc ho hn q) k
theorem WP.icmpN {cd : ClassFile.Cond} {o' : Int} {x y : Int32} (hd : decode bytes pc = .ok (.if_icmp cd o', 3)) (hc : if_icmp.holds cd x y = false) (hp : pc + 3 = n') (k : WP l Z EL nar own nm ds bytes maxL ret R Q vm h ce sl n' Ls rest) : WP l Z EL nar own nm ds bytes maxL ret R Q vm h ce sl pc Ls (.int y :: .int x :: rest) := by subst hp; exact WP.step (fun p e below T t m c hx hb ha q => XS.icmpNo ha hx rfl (hb ▸ hd) rfl hc q) k
theorem WP.ifcY {cd : ClassFile.Cond} {o' : Int} {x : Int32} (hd : decode bytes pc = .ok (.ifCond cd o', 3)) (hc : ifCond.holds cd x = true) (ho : 0 ≤ (pc : Int) + o') (hn : ((pc : Int) + o').toNat = n) (k : WP l Z EL nar own nm ds bytes maxL ret R Q vm h ce sl n Ls rest) : WP l Z EL nar own nm ds bytes maxL ret R Q vm h ce sl pc Ls (.int x :: rest) := WP.step (fun p e below T t m c hx hb ha q => XS.ifYes ha hx rfl (pc0 := pc) rfl (hb ▸ hd) rfl hc ho hn q) k
theorem WP.ifcN {cd : ClassFile.Cond} {o' : Int} {x : Int32} (hd : decode bytes pc = .ok (.ifCond cd o', 3)) (hc : ifCond.holds cd x = false) (hp : pc + 3 = n') (k : WP l Z EL nar own nm ds bytes maxL ret R Q vm h ce sl n' Ls rest) : WP l Z EL nar own nm ds bytes maxL ret R Q vm h ce sl pc Ls (.int x :: rest) := by subst hp; exact WP.step (fun p e below T t m c hx hb ha q => XS.ifNo ha hx rfl (hb ▸ hd) rfl hc q) k
theorem WP.icmp_lt {o' : Int} {x y : Int32} (hd : decode bytes pc = .ok (.if_icmp .lt o', 3)) (ho : 0 ≤ (pc : Int) + o') (hn : ((pc : Int) + o').toNat = n) (hp : pc + 3 = n') (k1 : x < y → WP l Z EL nar own nm ds bytes maxL ret R Q vm h ce sl n Ls rest) (k2 : ¬ x < y → WP l Z EL nar own nm ds bytes maxL ret R Q vm h ce sl n' Ls rest) : WP l Z EL nar own nm ds bytes maxL ret R Q vm h ce sl pc Ls (.int y :: .int x :: rest) := by by_cases q : x < y; exact WP.icmpY hd ((tlt q).1) ho hn (k1 q); exact WP.icmpN hd ((flt q).1) hp (k2 q)
theorem WP.if_lt {o' : Int} {x : Int32} (hd : decode bytes pc = .ok (.ifCond .lt o', 3)) (ho : 0 ≤ (pc : Int) + o') (hn : ((pc : Int) + o').toNat = n) (hp : pc + 3 = n') (k1 : x < (0 : Int32) → WP l Z EL nar own nm ds bytes maxL ret R Q vm h ce sl n Ls rest) (k2 : ¬ x < (0 : Int32) → WP l Z EL nar own nm ds bytes maxL ret R Q vm h ce sl n' Ls rest) : WP l Z EL nar own nm ds bytes maxL ret R Q vm h ce sl pc Ls (.int x :: rest) := by by_cases q : x < (0 : Int32); exact WP.ifcY hd ((if0 _ _).trans (tlt q).1) ho hn (k1 q); exact WP.ifcN hd ((if0 _ _).trans (flt q).1) hp (k2 q)
theorem WP.icmp_ge {o' : Int} {x y : Int32} (hd : decode bytes pc = .ok (.if_icmp .ge o', 3)) (ho : 0 ≤ (pc : Int) + o') (hn : ((pc : Int) + o').toNat = n) (hp : pc + 3 = n') (k1 : ¬ x < y → WP l Z EL nar own nm ds bytes maxL ret R Q vm h ce sl n Ls rest) (k2 : x < y → WP l Z EL nar own nm ds bytes maxL ret R Q vm h ce sl n' Ls rest) : WP l Z EL nar own nm ds bytes maxL ret R Q vm h ce sl pc Ls (.int y :: .int x :: rest) := by by_cases q : x < y; exact WP.icmpN hd ((tlt q).2.1) hp (k2 q); exact WP.icmpY hd ((flt q).2.1) ho hn (k1 q)
theorem WP.if_ge {o' : Int} {x : Int32} (hd : decode bytes pc = .ok (.ifCond .ge o', 3)) (ho : 0 ≤ (pc : Int) + o') (hn : ((pc : Int) + o').toNat = n) (hp : pc + 3 = n') (k1 : ¬ x < (0 : Int32) → WP l Z EL nar own nm ds bytes maxL ret R Q vm h ce sl n Ls rest) (k2 : x < (0 : Int32) → WP l Z EL nar own nm ds bytes maxL ret R Q vm h ce sl n' Ls rest) : WP l Z EL nar own nm ds bytes maxL ret R Q vm h ce sl pc Ls (.int x :: rest) := by by_cases q : x < (0 : Int32); exact WP.ifcN hd ((if0 _ _).trans (tlt q).2.1) hp (k2 q); exact WP.ifcY hd ((if0 _ _).trans (flt q).2.1) ho hn (k1 q)
theorem WP.icmp_gt {o' : Int} {x y : Int32} (hd : decode bytes pc = .ok (.if_icmp .gt o', 3)) (ho : 0 ≤ (pc : Int) + o') (hn : ((pc : Int) + o').toNat = n) (hp : pc + 3 = n') (k1 : y < x → WP l Z EL nar own nm ds bytes maxL ret R Q vm h ce sl n Ls rest) (k2 : ¬ y < x → WP l Z EL nar own nm ds bytes maxL ret R Q vm h ce sl n' Ls rest) : WP l Z EL nar own nm ds bytes maxL ret R Q vm h ce sl pc Ls (.int y :: .int x :: rest) := by by_cases q : y < x; exact WP.icmpY hd ((tlt q).2.2.1) ho hn (k1 q); exact WP.icmpN hd ((flt q).2.2.1) hp (k2 q)
theorem WP.if_gt {o' : Int} {x : Int32} (hd : decode bytes pc = .ok (.ifCond .gt o', 3)) (ho : 0 ≤ (pc : Int) + o') (hn : ((pc : Int) + o').toNat = n) (hp : pc + 3 = n') (k1 : (0 : Int32) < x → WP l Z EL nar own nm ds bytes maxL ret R Q vm h ce sl n Ls rest) (k2 : ¬ (0 : Int32) < x → WP l Z EL nar own nm ds bytes maxL ret R Q vm h ce sl n' Ls rest) : WP l Z EL nar own nm ds bytes maxL ret R Q vm h ce sl pc Ls (.int x :: rest) := by by_cases q : (0 : Int32) < x; exact WP.ifcY hd ((if0 _ _).trans (tlt q).2.2.1) ho hn (k1 q); exact WP.ifcN hd ((if0 _ _).trans (flt q).2.2.1) hp (k2 q)
theorem WP.icmp_le {o' : Int} {x y : Int32} (hd : decode bytes pc = .ok (.if_icmp .le o', 3)) (ho : 0 ≤ (pc : Int) + o') (hn : ((pc : Int) + o').toNat = n) (hp : pc + 3 = n') (k1 : ¬ y < x → WP l Z EL nar own nm ds bytes maxL ret R Q vm h ce sl n Ls rest) (k2 : y < x → WP l Z EL nar own nm ds bytes maxL ret R Q vm h ce sl n' Ls rest) : WP l Z EL nar own nm ds bytes maxL ret R Q vm h ce sl pc Ls (.int y :: .int x :: rest) := by by_cases q : y < x; exact WP.icmpN hd ((tlt q).2.2.2) hp (k2 q); exact WP.icmpY hd ((flt q).2.2.2) ho hn (k1 q)
theorem WP.if_le {o' : Int} {x : Int32} (hd : decode bytes pc = .ok (.ifCond .le o', 3)) (ho : 0 ≤ (pc : Int) + o') (hn : ((pc : Int) + o').toNat = n) (hp : pc + 3 = n') (k1 : ¬ (0 : Int32) < x → WP l Z EL nar own nm ds bytes maxL ret R Q vm h ce sl n Ls rest) (k2 : (0 : Int32) < x → WP l Z EL nar own nm ds bytes maxL ret R Q vm h ce sl n' Ls rest) : WP l Z EL nar own nm ds bytes maxL ret R Q vm h ce sl pc Ls (.int x :: rest) := by by_cases q : (0 : Int32) < x; exact WP.ifcN hd ((if0 _ _).trans (tlt q).2.2.2) hp (k2 q); exact WP.ifcY hd ((if0 _ _).trans (flt q).2.2.2) ho hn (k1 q)
theorem WP.icmp_eq {o' : Int} {x y : Int32} (hd : decode bytes pc = .ok (.if_icmp .eq o', 3)) (ho : 0 ≤ (pc : Int) + o') (hn : ((pc : Int) + o').toNat = n) (hp : pc + 3 = n') (k1 : x = y → WP l Z EL nar own nm ds bytes maxL ret R Q vm h ce sl n Ls rest) (k2 : ¬ x = y → WP l Z EL nar own nm ds bytes maxL ret R Q vm h ce sl n' Ls rest) : WP l Z EL nar own nm ds bytes maxL ret R Q vm h ce sl pc Ls (.int y :: .int x :: rest) := by by_cases q : x = y; exact WP.icmpY hd ((teq q).1) ho hn (k1 q); exact WP.icmpN hd ((feq q).1) hp (k2 q)
theorem WP.if_eq {o' : Int} {x : Int32} (hd : decode bytes pc = .ok (.ifCond .eq o', 3)) (ho : 0 ≤ (pc : Int) + o') (hn : ((pc : Int) + o').toNat = n) (hp : pc + 3 = n') (k1 : x = (0 : Int32) → WP l Z EL nar own nm ds bytes maxL ret R Q vm h ce sl n Ls rest) (k2 : ¬ x = (0 : Int32) → WP l Z EL nar own nm ds bytes maxL ret R Q vm h ce sl n' Ls rest) : WP l Z EL nar own nm ds bytes maxL ret R Q vm h ce sl pc Ls (.int x :: rest) := by by_cases q : x = (0 : Int32); exact WP.ifcY hd ((if0 _ _).trans (teq q).1) ho hn (k1 q); exact WP.ifcN hd ((if0 _ _).trans (feq q).1) hp (k2 q)
theorem WP.icmp_ne {o' : Int} {x y : Int32} (hd : decode bytes pc = .ok (.if_icmp .ne o', 3)) (ho : 0 ≤ (pc : Int) + o') (hn : ((pc : Int) + o').toNat = n) (hp : pc + 3 = n') (k1 : ¬ x = y → WP l Z EL nar own nm ds bytes maxL ret R Q vm h ce sl n Ls rest) (k2 : x = y → WP l Z EL nar own nm ds bytes maxL ret R Q vm h ce sl n' Ls rest) : WP l Z EL nar own nm ds bytes maxL ret R Q vm h ce sl pc Ls (.int y :: .int x :: rest) := by by_cases q : x = y; exact WP.icmpN hd ((teq q).2) hp (k2 q); exact WP.icmpY hd ((feq q).2) ho hn (k1 q)
theorem WP.if_ne {o' : Int} {x : Int32} (hd : decode bytes pc = .ok (.ifCond .ne o', 3)) (ho : 0 ≤ (pc : Int) + o') (hn : ((pc : Int) + o').toNat = n) (hp : pc + 3 = n') (k1 : ¬ x = (0 : Int32) → WP l Z EL nar own nm ds bytes maxL ret R Q vm h ce sl n Ls rest) (k2 : x = (0 : Int32) → WP l Z EL nar own nm ds bytes maxL ret R Q vm h ce sl n' Ls rest) : WP l Z EL nar own nm ds bytes maxL ret R Q vm h ce sl pc Ls (.int x :: rest) := by by_cases q : x = (0 : Int32); exact WP.ifcN hd ((if0 _ _).trans (teq q).2) hp (k2 q); exact WP.ifcY hd ((if0 _ _).trans (feq q).2) ho hn (k1 q)
theorem WP.ifnullY {o' : Int} (hd : decode bytes pc = .ok (.ifnull o', 3)) (ho : 0 ≤ (pc : Int) + o') (hn : ((pc : Int) + o').toNat = n) (k : WP l Z EL nar own nm ds bytes maxL ret R Q vm h ce sl n Ls rest) : WP l Z EL nar own nm ds bytes maxL ret R Q vm h ce sl pc Ls (.null :: rest) := WP.step (fun p e below T t m c hx hb ha q => XS.ifnullYes ha hx rfl (pc0 := pc) rfl (hb ▸ hd) rfl ho hn q) k
theorem WP.ifnullN {o' : Int} {b : Addr} (hd : decode bytes pc = .ok (.ifnull o', 3)) (hp : pc + 3 = n') (k : WP l Z EL nar own nm ds bytes maxL ret R Q vm h ce sl n' Ls rest) : WP l Z EL nar own nm ds bytes maxL ret R Q vm h ce sl pc Ls (.ref b :: rest) := by subst hp; exact WP.step (fun p e below T t m c hx hb ha q => XS.ifnullNo ha hx rfl (hb ▸ hd) rfl q) k
theorem WP.ifnonnullY {o' : Int} {b : Addr} (hd : decode bytes pc = .ok (.ifnonnull o', 3)) (ho : 0 ≤ (pc : Int) + o') (hn : ((pc : Int) + o').toNat = n) (k : WP l Z EL nar own nm ds bytes maxL ret R Q vm h ce sl n Ls rest) : WP l Z EL nar own nm ds bytes maxL ret R Q vm h ce sl pc Ls (.ref b :: rest) := WP.step (fun p e below T t m c hx hb ha q => XT.ifnonnullYes ha hx rfl (pc0 := pc) rfl (hb ▸ hd) rfl ho hn q) k
theorem WP.ifnonnullN {o' : Int} (hd : decode bytes pc = .ok (.ifnonnull o', 3)) (hp : pc + 3 = n') (k : WP l Z EL nar own nm ds bytes maxL ret R Q vm h ce sl n' Ls rest) : WP l Z EL nar own nm ds bytes maxL ret R Q vm h ce sl pc Ls (.null :: rest) := by subst hp; exact WP.step (fun p e below T t m c hx hb ha q => XT.ifnonnullNo ha hx rfl (hb ▸ hd) rfl q) k
theorem WP.acmpY {cd : ACond} {o' : Int} {x y : Value} (hd : decode bytes pc = .ok (.if_acmp cd o', 3)) (hx' : x.isRef = true) (hy' : y.isRef = true) (hc : XT.acmp cd x y = true) (ho : 0 ≤ (pc : Int) + o') (hn : ((pc : Int) + o').toNat = n) (k : WP l Z EL nar own nm ds bytes maxL ret R Q vm h ce sl n Ls rest) : WP l Z EL nar own nm ds bytes maxL ret R Q vm h ce sl pc Ls (y :: x :: rest) := WP.step (fun p e below T t m c hx hb ha q => XT.acmpYes ha hx rfl (pc0 := pc) rfl (hb ▸ hd) rfl hx' hy' hc ho hn q) k
theorem WP.acmpN {cd : ACond} {o' : Int} {x y : Value} (hd : decode bytes pc = .ok (.if_acmp cd o', 3)) (hx' : x.isRef = true) (hy' : y.isRef = true) (hc : XT.acmp cd x y = false) (hp : pc + 3 = n') (k : WP l Z EL nar own nm ds bytes maxL ret R Q vm h ce sl n' Ls rest) : WP l Z EL nar own nm ds bytes maxL ret R Q vm h ce sl pc Ls (y :: x :: rest) := by subst hp; exact WP.step (fun p e below T t m c hx hb ha q => XT.acmpNo ha hx rfl (hb ▸ hd) rfl hx' hy' hc q) k
theorem WP.getF {R0 O nf d host : String} {index : Nat} {a : Addr} {v : Value} (hd : decode bytes pc = .ok (.getfield index, 3)) (w : (Cond.fieldLink own index R0 nf d).before a0 Z = true ∨ (Cond.fieldLinkNest own index R0 nf d host).before a0 Z = true) (via : Via Z R0 O nf d) (F : Fld Z h a O nf d v) (hp : pc + 3 = n) (k : WP l Z EL nar own nm ds bytes maxL ret R Q vm h ce sl n Ls (v :: rest)) : WP l Z EL nar own nm ds bytes maxL ret R Q vm h ce sl pc Ls (.ref a :: rest) := by
  subst hp
  refine WP.look (fun p e s args below T m meth c L hx hb X hZ hown eT => ?_) k
  exact getF X hx hZ hown w via eT F (g := mkF m pc Ls (.ref a :: rest)) rfl rfl (hb ▸ hd)
theorem WP.getS {R0 O nf d : String} {index : Nat} {v : Value} (hd : decode bytes pc = .ok (.getstatic index, 3)) (w : (Cond.fieldLink own index R0 nf d).before a0 Z = true) (via : Via Z R0 O nf d) (F : Sta Z h O nf d v) (hp : pc + 3 = n) (k : WP l Z EL nar own nm ds bytes maxL ret R Q vm h ce sl n Ls (v :: st)) : WP l Z EL nar own nm ds bytes maxL ret R Q vm h ce sl pc Ls st := by
  subst hp
  refine WP.look (fun p e s args below T m meth c L hx hb X hZ hown eT => ?_) k
  exact getS (host := "") X hx hZ hown w via eT F (g := mkF m pc Ls st) rfl (hb ▸ hd)
theorem WP.getSZ {R0 O nf d : String} {index : Nat} {v : Value} (hd : decode bytes pc = .ok (.getstatic index, 3)) (w : (Cond.fieldLink own index R0 nf d).before a0 Z = true) (via : Via Z R0 O nf d) (F : Sta Z Z.heap O nf d v) (hp : pc + 3 = n) (k : WP l Z EL nar own nm ds bytes maxL ret R Q vm h ce sl n Ls (v :: st)) : WP l Z EL nar own nm ds bytes maxL ret R Q vm h ce sl pc Ls st :=
  WP.inv fun _ E _ => WP.getS hd w via (F.ext E) hp k
theorem WP.new {C : String} {index nn : Nat} {ce' sl' : Nat} (hd : decode bytes pc = .ok (.new index, 3)) (w : (Cond.classLink own index C).before a0 Z = true) (wi : (Cond.instantiable C nn).before a0 Z = true) (wz : (Cond.initialized C).before a0 Z = true) (hce : ce + 1 = ce') (hsl : sl + nn = sl') (hc : ce' ≤ R.cells) (hl : sl' ≤ R.slots) (hp : pc + 3 = n)
    (k : ∀ a h', a = h.size → Ext h h' → Exa Z h' a C → (∀ {O f d : String} {ty : FieldType}, Laid Z a0 C O f d → parseFieldDescriptor d = some ty → Fld Z h' a O f d (defaultValue ty)) → Safe Z EL vm h' a → Z.heap.size ≤ a → CHr Z EL vm h vm h' → WP l Z EL nar own nm ds bytes maxL ret R Q vm h' ce' sl' n Ls (.ref a :: st)) : WP l Z EL nar own nm ds bytes maxL ret R Q vm h ce sl pc Ls st := by
  subst hp hce hsl
  refine WP.inv fun _ hE hH => WP.make (P := fun h' => Exa Z h' h.size C ∧ ∀ {O f d : String} {ty : FieldType}, Laid Z a0 C O f d → parseFieldDescriptor d = some ty → Fld Z h' h.size O f d (defaultValue ty)) (fun p e s args below T m meth c L hx hb X hZ hown eT => ?_) fun h' E p hr => k _ h' rfl E p.1 p.2 (Safe.ext E hH (Safe.new (Nat.le_refl _))) hE.1 hr
  obtain ⟨T', h', X', e', E', A', D', -, stp⟩ := newO X hx hZ hown w wi wz eT (g := mkF m pc Ls st) rfl (hb ▸ hd) hc hl
  exact ⟨T', h', X', e', E', ⟨A', D'⟩, stp⟩
theorem WP.putF {R0 O nf d host C : String} {index kk : Nat} {ty : FieldType} {a : Addr} {v old : Value} (hd : decode bytes pc = .ok (.putfield index, 3)) (w : (Cond.fieldLink own index R0 nf d).before a0 Z = true ∨ (Cond.fieldLinkNest own index R0 nf d host).before a0 Z = true) (via : Via Z R0 O nf d) (F : Fld Z h a O nf d old) (E : Exa Z h a C)
    (L' : (Cond.lays C O nf d).before a0 Z = true ∨ ((Cond.laysFinal C O nf d).before a0 Z = true ∧ own = O ∧ nm = "<init>")) (wi : (Cond.instantiable C kk).before a0 Z = true) (hty : parseFieldDescriptor d = some ty) (hn : narrow ty v = v) (hf : fits ty v = true) (ha : Z.heap.size ≤ a) (S : Safe Z EL vm h a) (hp : pc + 3 = n)
    (k : ∀ h', Wr h h' a (Jvm.RoadKit.slotOf Z O nf d) v → CHr Z EL vm h vm h' → WP l Z EL nar own nm ds bytes maxL ret R Q vm h' ce sl n Ls rest) : WP l Z EL nar own nm ds bytes maxL ret R Q vm h ce sl pc Ls (v :: .ref a :: rest) := by
  subst hp
  refine WP.write ha (fun _ => S) (fun p e s args below T m meth c L hx hb hnm X hZ hown eT => ?_) k
  exact putF X hx hZ hown w via eT F E (L'.imp id fun q => ⟨q.1, q.2.1, hnm.trans q.2.2⟩) wi hty hn hf (g := mkF m pc Ls (v :: .ref a :: rest)) rfl rfl (hb ▸ hd)
theorem WP.putFE {R0 O nf d host C : String} {index kk : Nat} {ty : FieldType} {a : Addr} {v old : Value} (hd : decode bytes pc = .ok (.putfield index, 3)) (w : (Cond.fieldLink own index R0 nf d).before a0 Z = true ∨ (Cond.fieldLinkNest own index R0 nf d host).before a0 Z = true) (via : Via Z R0 O nf d) (F : Fld Z h a O nf d old) (E : Exa Z h a C)
    (L' : (Cond.lays C O nf d).before a0 Z = true ∨ ((Cond.laysFinal C O nf d).before a0 Z = true ∧ own = O ∧ nm = "<init>")) (wi : (Cond.instantiable C kk).before a0 Z = true) (hty : parseFieldDescriptor d = some ty) (hn : narrow ty v = v) (hf : fits ty v = true) (ha : Z.heap.size ≤ a) (hC : C ≠ "java/lang/String" ∧ C ≠ "[B") (hp : pc + 3 = n)
    (k : ∀ h', Wr h h' a (Jvm.RoadKit.slotOf Z O nf d) v → CHr Z EL vm h vm h' → WP l Z EL nar own nm ds bytes maxL ret R Q vm h' ce sl n Ls rest) : WP l Z EL nar own nm ds bytes maxL ret R Q vm h ce sl pc Ls (v :: .ref a :: rest) :=
  WP.inv fun hZ _ _ => WP.putF hd w via F E L' wi hty hn hf ha (Safe.exa hZ.alike E hC.1 hC.2) hp k
theorem WP.newP {aty : ArrayType} {x : Int32} {cap ce' sl' : Nat} {ty : FieldType} (hd : decode bytes pc = .ok (.newarray aty, 2)) (w : (Cond.arrayClass ty).before a0 Z = true) (hty : newarray.typeOf aty = ty) (hx0 : ¬ x < 0) (hcap : x.toNatClampNeg ≤ cap) (hbig : cap * 8 ≤ 536870912) (hce : ce + 1 = ce') (hsl : sl + cap = sl') (hc : ce' ≤ R.cells) (hl : sl' ≤ R.slots) (hp : pc + 2 = n)
    (k : ∀ a h' cA, a = h.size → Ext h h' → Arv Z h' a cA ty x [] (defaultValue ty) → Safe Z EL vm h' a → Z.heap.size ≤ a → CHr Z EL vm h vm h' → WP l Z EL nar own nm ds bytes maxL ret R Q vm h' ce' sl' n Ls (.ref a :: rest)) : WP l Z EL nar own nm ds bytes maxL ret R Q vm h ce sl pc Ls (.int x :: rest) := by
  subst hp hce hsl hty
  refine WP.inv fun _ hE hH => WP.make (P := fun h' => ∃ cA, Arv Z h' h.size cA (newarray.typeOf aty) x [] (defaultValue (newarray.typeOf aty))) (fun p e s args below T m meth c L hx hb X hZ hown eT => ?_) fun h' E p hr => by
    obtain ⟨cA, A⟩ := p
    exact k _ h' cA rfl E A (Safe.ext E hH (Safe.new (Nat.le_refl _))) hE.1 hr
  obtain ⟨T', h', cA, X', e', E', A', stp⟩ := newP X hx hZ w eT (g := mkF m pc Ls (.int x :: rest)) rfl (hb ▸ hd) rfl hx0 hcap hbig hc hl
  exact ⟨T', h', X', e', E', ⟨cA, Arv.new A' hx0⟩, stp⟩
theorem WP.stC {a : Addr} {cA : ClassId} {z j x y : Int32} {vs : List Value} {d : Value} {i : Nat} (hd : decode bytes pc = .ok (.castore, 1)) (A : Arv Z h a cA .char z vs d) (hj : ¬ j < 0 ∧ j < z) (hi : j.toNatClampNeg = i) (hlen : i < vs.length) (hy : Jvm.RoadKit.nar .char x = y) (ha : Z.heap.size ≤ a) (S : Safe Z EL vm h a) (hp : pc + 1 = n)
    (k : ∀ h', Wr h h' a j.toNatClampNeg (.int y) → Arv Z h' a cA .char z (vs.set i (.int y)) d → CHr Z EL vm h vm h' → WP l Z EL nar own nm ds bytes maxL ret R Q vm h' ce sl n Ls rest) : WP l Z EL nar own nm ds bytes maxL ret R Q vm h ce sl pc Ls (.int x :: .int j :: .ref a :: rest) := by
  subst hp hy
  obtain ⟨cl, A1, q1, S1, M1, H1, G1⟩ := A
  refine WP.write ha (fun _ => S) (fun p e s args below T m meth c L hx hb hnm X hZ hown eT => ?_) fun h' W r => k h' W (Arv.set A1 q1 S1 M1 H1 G1 (fits_nar_char _) W i hi hlen) r
  exact stC X hx hZ eT A1 (inb_of S1 hj) (g := mkF m pc Ls (.int x :: .int j :: .ref a :: rest)) rfl rfl (hb ▸ hd)
theorem WP.stB {a : Addr} {cA : ClassId} {z j x y : Int32} {vs : List Value} {d : Value} {i : Nat} (hd : decode bytes pc = .ok (.bastore, 1)) (A : Arv Z h a cA .byte z vs d) (hj : ¬ j < 0 ∧ j < z) (hi : j.toNatClampNeg = i) (hlen : i < vs.length) (hy : Jvm.RoadKit.nar .byte x = y) (ha : Z.heap.size ≤ a) (S : Safe Z EL vm h a) (hp : pc + 1 = n)
    (k : ∀ h', Wr h h' a j.toNatClampNeg (.int y) → Arv Z h' a cA .byte z (vs.set i (.int y)) d → CHr Z EL vm h vm h' → WP l Z EL nar own nm ds bytes maxL ret R Q vm h' ce sl n Ls rest) : WP l Z EL nar own nm ds bytes maxL ret R Q vm h ce sl pc Ls (.int x :: .int j :: .ref a :: rest) := by
  subst hp hy
  obtain ⟨cl, A1, q1, S1, M1, H1, G1⟩ := A
  refine WP.write ha (fun _ => S) (fun p e s args below T m meth c L hx hb hnm X hZ hown eT => ?_) fun h' W r => k h' W (Arv.set A1 q1 S1 M1 H1 G1 (fits_nar_byte _) W i hi hlen) r
  exact stB X hx hZ eT A1 (inb_of S1 hj) (g := mkF m pc Ls (.int x :: .int j :: .ref a :: rest)) rfl rfl (hb ▸ hd)
theorem WP.alen {ty : FieldType} {a : Addr} {cA : ClassId} {z : Int32} {vs : List Value} {d : Value} (hd : decode bytes pc = .ok (.arraylength, 1)) (A : Arv Z h a cA ty z vs d) (hp : pc + 1 = n) (k : WP l Z EL nar own nm ds bytes maxL ret R Q vm h ce sl n Ls (.int z :: rest)) : WP l Z EL nar own nm ds bytes maxL ret R Q vm h ce sl pc Ls (.ref a :: rest) := by
  subst hp
  obtain ⟨cl, A1, -, hz, hz0, -⟩ := A
  refine WP.look (Ls' := Ls) (fun p e s args below T m meth c L hx hb X hZ hown eT => ⟨T, X, eT, fun target q => ?_⟩) k
  refine X.arraylength hx (cell := cl) (by rw [eT]; exact A1.1) (State.isArrayOf_alike hZ.alike A1.2.1) (g := mkF m pc Ls (.ref a :: rest)) rfl rfl (hb ▸ hd) _ ?_
  rw [len_of hz hz0]
  exact q
theorem WP.initO {idx : Nat} {a : Addr} {Wd : Nat} (hd : decode bytes pc = .ok (.invokespecial idx, 3)) (w1 : (Cond.methodLink own idx Lib.objectInit).before a0 Z = true) (w2 : (Cond.instanceMethod Lib.objectInit).before a0 Z = true) (w3 : (Cond.code Lib.objectInit ⟨#[0xb1]⟩ 1 none).before a0 Z = true) (hsize : Ls.size = maxL) (hf : 1 ≤ R.frames) (hW : (rest.map fun v => v.category).sum ≤ Wd) (hl : Wd + 12 ≤ R.locals) (hp : pc + 3 = n)
    (k : WP l Z EL nar own nm ds bytes maxL ret R Q vm h ce sl n Ls rest) : WP l Z EL nar own nm ds bytes maxL ret R Q vm h ce sl pc Ls (.ref a :: rest) := by
  subst hp
  intro p e s m args below meth c T L cx ⟨X, hS, hZ, hown, eT, N, hE, hC, hW', hEL⟩
  obtain ⟨T', X', e', stp⟩ := initO X cx.1 hZ hown w1 w2 w3 eT (g := mkF m pc Ls (.ref a :: rest)) rfl (by rw [cx.2.2.1]; exact hsize) rfl (cx.2.1 ▸ hd) hf (W := Wd) (by show 2 * 0 + _ ≤ _; omega) hl
  obtain ⟨t, o, h1, r⟩ := k p e s m args below meth c T' L cx ⟨X', hS, hZ, hown, e', N, hE, hC, hW', hEL⟩
  exact ⟨t, o, stp _ h1, r⟩
theorem WP.retV (hd : decode bytes pc = .ok (.return_, 1)) (hr : ret = none) (hc : ce ≤ R.cells) (hsl : sl ≤ R.slots) (hq : Q none h) : WP l Z EL nar own nm ds bytes maxL ret R Q vm h ce sl pc Ls [] :=
  WP.done (v := none) hc hsl (fun _ => rfl) (fun p e s args below T m meth c L fs hx hb hret X hl => X.returnOut hx (hret.trans hr) (hb ▸ hd) hl) hq
theorem WP.retI {x : Int32} (hd : decode bytes pc = .ok (.ireturn, 1)) (hr : ret = some .int) (hc : ce ≤ R.cells) (hsl : sl ≤ R.slots) (hq : Q (some (.int x)) h) : WP l Z EL nar own nm ds bytes maxL ret R Q vm h ce sl pc Ls (.int x :: rest) :=
  WP.done (v := some (.int x)) hc hsl (fun q => by rw [hr] at q; cases q) (fun p e s args below T m meth c L fs hx hb hret X hl => retOut X hx (t := .int) (hret.trans hr) rfl (Or.inl ⟨rfl, Or.inl rfl, x, rfl⟩) (hb ▸ hd) hl) hq
theorem WP.retN {t : FieldType} {x z : Int32} (hd : decode bytes pc = .ok (.ireturn, 1)) (hr : ret = some t) (ht : t = .boolean ∨ t = .byte ∨ t = .char ∨ t = .short) (hz : Jvm.RoadKit.nar t x = z) (hc : ce ≤ R.cells) (hsl : sl ≤ R.slots) (hq : Q (some (.int z)) h) : WP l Z EL nar own nm ds bytes maxL ret R Q vm h ce sl pc Ls (.int x :: rest) := by
  subst hz
  exact WP.done (v := some (.int (Jvm.RoadKit.nar t x))) hc hsl (fun q => by rw [hr] at q; cases q) (fun p e s args below T m meth c L fs hx hb hret X hl => Jvm.RoadKit.retN X hx (hret.trans hr) ht (hb ▸ hd) hl) hq
theorem WP.retA {t : FieldType} {v : Value} (hd : decode bytes pc = .ok (.areturn, 1)) (hr : ret = some t) (ht : t.isReference = true) (hv : v.isRef = true) (hn : narrow t v = v) (hc : ce ≤ R.cells) (hsl : sl ≤ R.slots) (hq : Q (some v) h) : WP l Z EL nar own nm ds bytes maxL ret R Q vm h ce sl pc Ls (v :: rest) :=
  WP.done (v := some v) hc hsl (fun q => by rw [hr] at q; cases q) (fun p e s args below T m meth c L fs hx hb hret X hl => retOut X hx (t := t) (hret.trans hr) hn (Or.inr (Or.inr (Or.inr (Or.inr ⟨rfl, ht, hv⟩)))) (hb ▸ hd) hl) hq
theorem WP.callS {sf : List Addr} {y : MethodName} {yb : ByteArray} {yl : Nat} {yr : Option FieldType} {rm : Room} {as' : Array Value} {Qy : Option Value → Heap → Prop} {index Wd ce' sl' : Nat} (C : Con l Z EL nar sf y yb yl yr rm as' h Qy) (hd : decode bytes pc = .ok (.invokestatic index, 3)) (w1 : (Cond.methodLink own index y).before a0 Z = true) (w2 : (Cond.static y).before a0 Z = true) (wz : (Cond.initialized y.cls).before a0 Z = true) (wc : (Cond.code y yb yl yr).before a0 Z = true) (hy : y.cls ≠ "java/lang/invoke/MethodHandle" ∧ y.cls ≠ "java/lang/invoke/VarHandle") (hsf : ∀ x ∈ sf, Safe Z EL vm h x ∧ x < h.size) (hf : rm.frames + 1 ≤ R.frames) (hl : Wd + (yl + 11) + rm.locals ≤ R.locals) (hce : ce + rm.cells = ce') (hsl : sl + rm.slots = sl') (hc : ce' ≤ R.cells) (hs : sl' ≤ R.slots) (hsize : Ls.size = maxL) {argsL : List Value} (hargs : argsL.toArray = as') (hlen : ∀ sig, parseMethodDescriptor y.desc = some sig → argsL.length = sig.parameters.length) (hst : st = argsL.reverse ++ rest) (hWd : (rest.map fun v => v.category).sum ≤ Wd) (hp : pc + 3 = n)
    (k : ∀ v vm' h', Qy v h' → CHr Z EL vm h vm' h' → WP l Z EL nar own nm ds bytes maxL ret R Q vm' h' ce' sl' n Ls (v.toList ++ rest)) : WP l Z EL nar own nm ds bytes maxL ret R Q vm h ce sl pc Ls st := by
  subst hp hce hsl
  intro p e s m args below meth c T L cx ⟨X, ⟨k0, hS, hk⟩, hZ, hown, eT, N, hE, hC, hW', a1, hEL⟩
  have hB := C.back (R := R) (p := p) (e := e) (below := below) (s := s) (args := args) (len := 3) (Wd := Wd) hEL hZ wc wz hf hl hE hC.1 hsf
  obtain ⟨v, vm₁, ⟨U, L', ke, ks⟩, hw1, X', hS', hg', ⟨Lq, q1, q2, q3, q4, q5, q6, q7, q8⟩, stp⟩ := callSS X cx.1 hown (mvT (s := s.setVm vm) hZ w1) (mvT (s := s.setVm vm) hZ w2) (mvT (s := s.setVm vm) hZ wz) (mvT (s := s.setVm vm) hZ wc) hy hB (g := mkF m pc Ls st) rfl (by rw [cx.2.2.1]; exact hsize) (argsL := argsL) (rest := rest) hlen hst (by show 2 * 0 + _ ≤ _; omega) (cx.2.1 ▸ hd) (fun _ _ => ⟨hargs, eT, hc, hs⟩)
  dsimp only [Pt.U, Pt.locs, Pt.cells, Pt.slots] at X' hS' hg' q1 q2 q4 q5 q6 q7 q8 stp
  subst q4 q5 q6
  obtain ⟨t, o, h1, r⟩ := k v U.vm U.heap q1 q7 p e s m args below meth c U _ cx ⟨X', ⟨_, hS.trans hS' (Nat.le_trans hk (by rw [← eT]; exact hg')), Nat.le_refl _⟩, State.Warmed39.trans (t := s.setVm vm) hZ hS'.1, (hS'.1.alike.findClass _ _).trans hown, rfl, Fr.app N q3, q2, hC.trans q7, fun q => State.WarmedH.trans (t := s.setVm vm) (hW' q) (q8 q), a1, hEL⟩
  exact ⟨t, o, stp.trans h1, r⟩
theorem WP.callP {sf : List Addr} {y : MethodName} {yb : ByteArray} {yl : Nat} {rm : Room} {as' : Array Value} {Qy : Option Value → Heap → Prop} {index Wd ce' sl' : Nat} (C : Con l Z EL nar sf y yb yl none rm as' h Qy) (hd : decode bytes pc = .ok (.invokespecial index, 3)) (hy1 : y.name = "<init>") (w1 : (Cond.methodLink own index y).before a0 Z = true) (w2 : (Cond.instanceMethod y).before a0 Z = true) (wz : (Cond.initialized y.cls).before a0 Z = true) (wc : (Cond.code y yb yl none).before a0 Z = true) (hy : y.cls ≠ "java/lang/invoke/MethodHandle" ∧ y.cls ≠ "java/lang/invoke/VarHandle") (hsf : ∀ x ∈ sf, Safe Z EL vm h x ∧ x < h.size) (hf : rm.frames + 1 ≤ R.frames) (hl : Wd + (yl + 11) + rm.locals ≤ R.locals) (hce : ce + rm.cells = ce') (hsl : sl + rm.slots = sl') (hc : ce' ≤ R.cells) (hs : sl' ≤ R.slots) (hsize : Ls.size = maxL) {a : Addr} {argsL : List Value} (hargs : (Value.ref a :: argsL).toArray = as') (hlen : ∀ sig, parseMethodDescriptor y.desc = some sig → argsL.length = sig.parameters.length) (hst : st = argsL.reverse ++ .ref a :: rest) (hWd : (rest.map fun v => v.category).sum ≤ Wd) (hp : pc + 3 = n)
    (k : ∀ v vm' h', Qy v h' → CHr Z EL vm h vm' h' → WP l Z EL nar own nm ds bytes maxL ret R Q vm' h' ce' sl' n Ls (v.toList ++ rest)) : WP l Z EL nar own nm ds bytes maxL ret R Q vm h ce sl pc Ls st := by
  subst hp hce hsl
  intro p e s m args below meth c T L cx ⟨X, ⟨k0, hS, hk⟩, hZ, hown, eT, N, hE, hC, hW', a1, hEL⟩
  have hB := C.back (R := R) (p := p) (e := e) (below := below) (s := s) (args := args) (len := 3) (Wd := Wd) hEL hZ wc wz hf hl hE hC.1 hsf
  obtain ⟨v, vm₁, ⟨U, L', ke, ks⟩, hw1, X', hS', hg', ⟨Lq, q1, q2, q3, q4, q5, q6, q7, q8⟩, stp⟩ := X.specialBackS cx.1 hy1 hown (mvT (s := s.setVm vm) hZ w1) (mvT (s := s.setVm vm) hZ w2) (mvT (s := s.setVm vm) hZ wc) hy hB (g := mkF m pc Ls st) rfl (by rw [cx.2.2.1]; exact hsize) (Steps.refl _) (a := a) (argsL := argsL) (rest := rest) hlen hst (by show 2 * 0 + _ ≤ _; omega) (cx.2.1 ▸ hd) (fun _ _ => ⟨hargs, eT, hc, hs⟩)
  dsimp only [Pt.U, Pt.locs, Pt.cells, Pt.slots] at X' hS' hg' q1 q2 q4 q5 q6 q7 q8 stp
  subst q4 q5 q6
  obtain ⟨t, o, h1, r⟩ := k v U.vm U.heap q1 q7 p e s m args below meth c U _ cx ⟨X', ⟨_, hS.trans hS' (Nat.le_trans hk (by rw [← eT]; exact hg')), Nat.le_refl _⟩, State.Warmed39.trans (t := s.setVm vm) hZ hS'.1, (hS'.1.alike.findClass _ _).trans hown, rfl, Fr.app N q3, q2, hC.trans q7, fun q => State.WarmedH.trans (t := s.setVm vm) (hW' q) (q8 q), a1, hEL⟩
  exact ⟨t, o, stp.trans h1, r⟩
theorem WP.callV {sf : List Addr} {y : MethodName} {yb : ByteArray} {yl : Nat} {yr : Option FieldType} {rm : Room} {as' : Array Value} {Qy : Option Value → Heap → Prop} {index Wd ce' sl' : Nat} {x : MethodName} {Cn : String} {a : Addr} (C : Con l Z EL nar sf y yb yl yr rm as' h Qy) (E : Exa Z h a Cn) (hd : decode bytes pc = .ok (.invokevirtual index, 3)) (w1 : (Cond.methodLink own index x).before a0 Z = true) (w2 : (Cond.declares x).before a0 Z = true) (w3 : (Cond.selects Cn x y).before a0 Z = true) (w4 : (Cond.instanceMethod y).before a0 Z = true) (wz : (Cond.initialized y.cls).before a0 Z = true) (wc : (Cond.code y yb yl yr).before a0 Z = true) (hy : x.cls ≠ "java/lang/invoke/MethodHandle" ∧ x.cls ≠ "java/lang/invoke/VarHandle") (hnf : ∀ s : State, Z.Warmed39 s.vm → NotFace s x) (hsf : ∀ x ∈ sf, Safe Z EL vm h x ∧ x < h.size) (hf : rm.frames + 1 ≤ R.frames) (hl : Wd + (yl + 11) + rm.locals ≤ R.locals) (hce : ce + rm.cells = ce') (hsl : sl + rm.slots = sl') (hc : ce' ≤ R.cells) (hs : sl' ≤ R.slots) (hsize : Ls.size = maxL) {argsL : List Value} (hargs : (Value.ref a :: argsL).toArray = as') (hlen : ∀ sig, parseMethodDescriptor x.desc = some sig → argsL.length = sig.parameters.length) (hst : st = argsL.reverse ++ .ref a :: rest) (hWd : (rest.map fun v => v.category).sum ≤ Wd) (hp : pc + 3 = n)
    (k : ∀ v vm' h', Qy v h' → CHr Z EL vm h vm' h' → WP l Z EL nar own nm ds bytes maxL ret R Q vm' h' ce' sl' n Ls (v.toList ++ rest)) : WP l Z EL nar own nm ds bytes maxL ret R Q vm h ce sl pc Ls st := by
  subst hp hce hsl
  intro p e s m args below meth c T L cx ⟨X, ⟨k0, hS, hk⟩, hZ, hown, eT, N, hE, hC, hW', a1, hEL⟩
  have hB := C.back (R := R) (p := p) (e := e) (below := below) (s := s) (args := args) (len := 3) (Wd := Wd) hEL hZ wc wz hf hl hE hC.1 hsf
  obtain ⟨cq, kq, qa, qb, qc⟩ := isOf (s := s.setVm vm) hZ eT E
  obtain ⟨v, vm₁, ⟨U, L', ke, ks⟩, hw1, X', hS', hg', ⟨Lq, q1, q2, q3, q4, q5, q6, q7, q8⟩, stp⟩ := X.virtualBackS cx.1 hown (mvT (s := s.setVm vm) hZ w1) (mvT (s := s.setVm vm) hZ w2) (hnf _ hZ) (mvT (s := s.setVm vm) hZ w3) (mvT (s := s.setVm vm) hZ w4) hy hB qa qc (g := mkF m pc Ls st) rfl (by rw [cx.2.2.1]; exact hsize) (Steps.refl _) (argsL := argsL) (rest := rest) hlen hst (by show 2 * 0 + _ ≤ _; omega) (cx.2.1 ▸ hd) (fun _ _ => ⟨hargs, eT, hc, hs⟩)
  dsimp only [Pt.U, Pt.locs, Pt.cells, Pt.slots] at X' hS' hg' q1 q2 q4 q5 q6 q7 q8 stp
  subst q4 q5 q6
  obtain ⟨t, o, h1, r⟩ := k v U.vm U.heap q1 q7 p e s m args below meth c U _ cx ⟨X', ⟨_, hS.trans hS' (Nat.le_trans hk (by rw [← eT]; exact hg')), Nat.le_refl _⟩, State.Warmed39.trans (t := s.setVm vm) hZ hS'.1, (hS'.1.alike.findClass _ _).trans hown, rfl, Fr.app N q3, q2, hC.trans q7, fun q => State.WarmedH.trans (t := s.setVm vm) (hW' q) (q8 q), a1, hEL⟩
  exact ⟨t, o, stp.trans h1, r⟩
theorem WP.backP {y : MethodName} {as' : Array Value} {Qy : Option Value → Heap → List Loc → Prop} {index Wd kc ks ce' sl' : Nat} {yb : ByteArray} {yl : Nat} (hK : ∀ (p : Program) (e : Env) (below : List Frame) (s : State) (args : Array Value), Z.Warmed39 (s.setVm vm).vm → Back l R p e below (s.setVm vm) args y 3 Wd (fun A a => a = as' ∧ A.U.heap = h ∧ A.cells + kc ≤ R.cells ∧ A.slots + ks ≤ R.slots) (fun A _ v B => ∃ L, Qy v B.U.heap L ∧ B.locs = A.locs ++ L ∧ B.cells = A.cells + kc ∧ B.slots = A.slots + ks)) (hq : ∀ v h' L, Qy v h' L → Fr Z.heap.size L ∧ Ext Z.heap h' ∧ CHr Z EL vm h vm h') (hd : decode bytes pc = .ok (.invokespecial index, 3)) (hy1 : y.name = "<init>") (w1 : (Cond.methodLink own index y).before a0 Z = true) (w2 : (Cond.instanceMethod y).before a0 Z = true) (wc : (Cond.code y yb yl none).before a0 Z = true) (hy : y.cls ≠ "java/lang/invoke/MethodHandle" ∧ y.cls ≠ "java/lang/invoke/VarHandle") (hce : ce + kc = ce') (hsl : sl + ks = sl') (hc : ce' ≤ R.cells) (hs : sl' ≤ R.slots) (hsize : Ls.size = maxL) {a : Addr} {argsL : List Value} (hargs : (Value.ref a :: argsL).toArray = as') (hlen : ∀ sig, parseMethodDescriptor y.desc = some sig → argsL.length = sig.parameters.length) (hst : st = argsL.reverse ++ .ref a :: rest) (hWd : (rest.map fun v => v.category).sum ≤ Wd) (hp : pc + 3 = n)
    (k : ∀ v h' L, Qy v h' L → CHr Z EL vm h vm h' → WP l Z EL nar own nm ds bytes maxL ret R Q vm h' ce' sl' n Ls (v.toList ++ rest)) : WP l Z EL nar own nm ds bytes maxL ret R Q vm h ce sl pc Ls st := by
  subst hp hce hsl
  intro p e s m args below meth c T L cx ⟨X, ⟨k0, hS, hk⟩, hZ, hown, eT, N, hE, hC, hW', a1, hEL⟩
  obtain ⟨v, vm₁, ⟨U, L', ke, ks'⟩, hw1, X', ⟨Lq, q1, q4, q5, q6⟩, stp⟩ := X.specialBack cx.1 hy1 hown (mvT (s := s.setVm vm) hZ w1) (mvT (s := s.setVm vm) hZ w2) (mvT (s := s.setVm vm) hZ wc) hy (hK p e below s args hZ) (g := mkF m pc Ls st) rfl (by rw [cx.2.2.1]; exact hsize) (Steps.refl _) (a := a) (argsL := argsL) (rest := rest) hlen hst (by show 2 * 0 + _ ≤ _; omega) (cx.2.1 ▸ hd) (fun _ _ => ⟨hargs, eT, hc, hs⟩)
  dsimp only [Pt.U, Pt.locs, Pt.cells, Pt.slots] at X' q1 q4 q5 q6 stp
  subst q4 q5 q6
  obtain ⟨r1, r2, r3⟩ := hq _ _ _ q1
  obtain ⟨t, o, h1, r⟩ := k v U.heap Lq q1 r3 p e s m args below meth c U _ cx ⟨X', ⟨k0, hS, Nat.le_trans hk r3.2.1⟩, hZ, hown, rfl, Fr.app N r1, r2, hC.trans r3, hW', a1, hEL⟩
  exact ⟨t, o, stp.trans h1, r⟩
theorem WP.backV {y : MethodName} {as' : Array Value} {Qy : Option Value → Heap → List Loc → Prop} {index Wd kc ks ce' sl' : Nat} {x : MethodName} {Cn : String} {a : Addr} (hK : ∀ (p : Program) (e : Env) (below : List Frame) (s : State) (args : Array Value), Z.Warmed39 (s.setVm vm).vm → Back l R p e below (s.setVm vm) args y 3 Wd (fun A a => a = as' ∧ A.U.heap = h ∧ A.cells + kc ≤ R.cells ∧ A.slots + ks ≤ R.slots) (fun A _ v B => ∃ L, Qy v B.U.heap L ∧ B.locs = A.locs ++ L ∧ B.cells = A.cells + kc ∧ B.slots = A.slots + ks)) (hq : ∀ v h' L, Qy v h' L → Fr Z.heap.size L ∧ Ext Z.heap h' ∧ CHr Z EL vm h vm h') (E : Exa Z h a Cn) (hd : decode bytes pc = .ok (.invokevirtual index, 3)) (w1 : (Cond.methodLink own index x).before a0 Z = true) (w2 : (Cond.declares x).before a0 Z = true) (w3 : (Cond.selects Cn x y).before a0 Z = true) (w4 : (Cond.instanceMethod y).before a0 Z = true) (hy : x.cls ≠ "java/lang/invoke/MethodHandle" ∧ x.cls ≠ "java/lang/invoke/VarHandle") (hnf : ∀ s : State, Z.Warmed39 s.vm → NotFace s x) (hce : ce + kc = ce') (hsl : sl + ks = sl') (hc : ce' ≤ R.cells) (hs : sl' ≤ R.slots) (hsize : Ls.size = maxL) {argsL : List Value} (hargs : (Value.ref a :: argsL).toArray = as') (hlen : ∀ sig, parseMethodDescriptor x.desc = some sig → argsL.length = sig.parameters.length) (hst : st = argsL.reverse ++ .ref a :: rest) (hWd : (rest.map fun v => v.category).sum ≤ Wd) (hp : pc + 3 = n)
    (k : ∀ v h' L, Qy v h' L → CHr Z EL vm h vm h' → WP l Z EL nar own nm ds bytes maxL ret R Q vm h' ce' sl' n Ls (v.toList ++ rest)) : WP l Z EL nar own nm ds bytes maxL ret R Q vm h ce sl pc Ls st := by
  subst hp hce hsl
  intro p e s m args below meth c T L cx ⟨X, ⟨k0, hS, hk⟩, hZ, hown, eT, N, hE, hC, hW', a1, hEL⟩
  obtain ⟨cq, kq, qa, qb, qc⟩ := isOf (s := s.setVm vm) hZ eT E
  obtain ⟨v, vm₁, ⟨U, L', ke, ks'⟩, hw1, X', ⟨Lq, q1, q4, q5, q6⟩, stp⟩ := X.virtualBack cx.1 hown (mvT (s := s.setVm vm) hZ w1) (mvT (s := s.setVm vm) hZ w2) (hnf _ hZ) (mvT (s := s.setVm vm) hZ w3) (mvT (s := s.setVm vm) hZ w4) hy (hK p e below s args hZ) qa qc (g := mkF m pc Ls st) rfl (by rw [cx.2.2.1]; exact hsize) (Steps.refl _) (argsL := argsL) (rest := rest) hlen hst (by show 2 * 0 + _ ≤ _; omega) (cx.2.1 ▸ hd) (fun _ _ => ⟨hargs, eT, hc, hs⟩)
  dsimp only [Pt.U, Pt.locs, Pt.cells, Pt.slots] at X' q1 q4 q5 q6 stp
  subst q4 q5 q6
  obtain ⟨r1, r2, r3⟩ := hq _ _ _ q1
  obtain ⟨t, o, h1, r⟩ := k v U.heap Lq q1 r3 p e s m args below meth c U _ cx ⟨X', ⟨k0, hS, Nat.le_trans hk r3.2.1⟩, hZ, hown, rfl, Fr.app N r1, r2, hC.trans r3, hW', a1, hEL⟩
  exact ⟨t, o, stp.trans h1, r⟩
theorem WP.ldcO {index : Nat} {text : String} {nn ce' sl' : Nat} (hd : decode bytes pc = .ok (.ldc index, 2)) (hnar : nar = false) (w : (Cond.stringLink own index text).before a0 Z = true) (wS : ∀ a ∈ Bundle.stringAtoms, a.before a0 Z = true) (hn : 4 * text.toList.length ≤ nn) (hbig : nn ≤ 536870912) (hce : ce + 2 = ce') (hsl : sl + (nn + 4) = sl') (hc : ce' ≤ R.cells) (hl : sl' ≤ R.slots) (hEL : EW Z a0 EL) (hp : pc + 2 = n)
    (k : ∀ a vm' h', Ext h h' → CHr Z EL vm h vm' h' → WP l Z EL nar own nm ds bytes maxL ret R Q vm' h' ce' sl' n Ls (.ref a :: st)) : WP l Z EL nar own nm ds bytes maxL ret R Q vm h ce sl pc Ls st := by
  subst hp hce hsl
  intro p e s m args below meth c T L cx ⟨X, ⟨k0, hS, hk⟩, hZ, hown, eT, N, hE, hC, hW', hEL'⟩
  obtain ⟨a, T', h', k1, X', e', E', hS', hk', hZ', hown', hr, -, stp⟩ := ldcOH X cx.1 hZ hown w wS eT hS hk hEL hC.1 (g := mkF m pc Ls st) rfl (cx.2.1 ▸ hd) hn hbig hc hl
  obtain ⟨t, o, h1, r⟩ := k a T'.vm h' E' hr p e s m args below meth c T' L cx ⟨X', ⟨k1, hS', hk'⟩, hZ', hown', e', N, ext_trans hE E', hC.trans hr, (fun q => by rw [hnar] at q; cases q), hEL'⟩
  exact ⟨t, o, stp _ h1, r⟩
theorem WP.ldcC {index : Nat} {text : String} {nn ce' sl' : Nat} {vs : List Value} {z : Int32} (hd : decode bytes pc = .ok (.ldc index, 2)) (hnar : nar = false) (w : (Cond.stringLink own index text).before a0 Z = true) (wS : ∀ a ∈ Bundle.stringAtoms, a.before a0 Z = true) (hmem : (own, index) ∈ EL) (ht : (∀ c ∈ text.toList, c.toNat < 256) ∧ text.toList.map (fun c => Value.int (Jvm.Lit.byteI c.toNat.toUInt16)) = vs) (hz : ¬ z < 0) (hzl : z.toNatClampNeg = vs.length) (hn : 4 * text.toList.length ≤ nn) (hbig : nn ≤ 536870912) (hce : ce + 2 = ce') (hsl : sl + (nn + 4) = sl') (hc : ce' ≤ R.cells) (hl : sl' ≤ R.slots) (hEL : EW Z a0 EL) (hp : pc + 2 = n)
    (k : ∀ a b kb vm' h', Ext h h' → CHr Z EL vm h vm' h' → Exa Z h' a "java/lang/String" → Fld Z h' a "java/lang/String" "coder" "B" (.int 0) → Fld Z h' a "java/lang/String" "value" "[B" (.ref b) → Arv Z h' b kb .byte z vs (.int 0) → Lit (Z.setVm vm') own index a → (∀ x, Safe Z EL vm' h' x → x ≠ a ∧ x ≠ b) → WP l Z EL nar own nm ds bytes maxL ret R Q vm' h' ce' sl' n Ls (.ref a :: st)) : WP l Z EL nar own nm ds bytes maxL ret R Q vm h ce sl pc Ls st := by
  subst hp hce hsl
  intro p e s m args below meth c T L cx ⟨X, ⟨k0, hS, hk⟩, hZ, hown, eT, N, hE, hC, hW', hEL'⟩
  obtain ⟨a, T', h', k1, b, kb, X', e', E', hS', hk', hZ', hown', f1, f2, f3, f4, -, -, hr, hLi, hNe, stp⟩ := ldcCH X cx.1 hZ hown w wS eT hS hk hEL hmem hC.1 ht hz hzl (g := mkF m pc Ls st) rfl (cx.2.1 ▸ hd) hn hbig hc hl
  obtain ⟨t, o, h1, r⟩ := k a b kb T'.vm h' E' hr f1 f2 f3 f4 hLi hNe p e s m args below meth c T' L cx ⟨X', ⟨k1, hS', hk'⟩, hZ', hown', e', N, ext_trans hE E', hC.trans hr, (fun q => by rw [hnar] at q; cases q), hEL'⟩
  exact ⟨t, o, stp _ h1, r⟩
theorem WP.baload {a : Addr} {cA : ClassId} {z j : Int32} {vs : List Value} {d v : Value} (hd : decode bytes pc = .ok (.baload, 1)) (A : Arv Z h a cA .byte z vs d) (hj : ¬ j < 0 ∧ j < z) (hv : vs.getD j.toNatClampNeg d = v) (hp : pc + 1 = n) (k : WP l Z EL nar own nm ds bytes maxL ret R Q vm h ce sl n Ls (v :: rest)) : WP l Z EL nar own nm ds bytes maxL ret R Q vm h ce sl pc Ls (.int j :: .ref a :: rest) := by
  subst hp
  obtain ⟨cl, A1, q1, S1, M1, H1, G1⟩ := A
  refine WP.look (Ls' := Ls) (fun p e s args below T m meth c L hx hb X hZ hown eT => ⟨T, X, eT, fun target q => ?_⟩) k
  exact X.baloadBytes hx (j := j) (v := v) (by rw [eT]; exact A1.1) (State.isArrayOf_alike hZ.alike A1.2.1) A1.2.2 (inb_of S1 hj) (H1.at (inb_of S1 hj) hv) (g := mkF m pc Ls (.int j :: .ref a :: rest)) rfl rfl (hb ▸ hd) _ q
theorem WP.caload {a : Addr} {cA : ClassId} {z j : Int32} {vs : List Value} {d v : Value} (hd : decode bytes pc = .ok (.caload, 1)) (A : Arv Z h a cA .char z vs d) (hj : ¬ j < 0 ∧ j < z) (hv : vs.getD j.toNatClampNeg d = v) (hp : pc + 1 = n) (k : WP l Z EL nar own nm ds bytes maxL ret R Q vm h ce sl n Ls (v :: rest)) : WP l Z EL nar own nm ds bytes maxL ret R Q vm h ce sl pc Ls (.int j :: .ref a :: rest) := by
  subst hp
  obtain ⟨cl, A1, q1, S1, M1, H1, G1⟩ := A
  refine WP.look (Ls' := Ls) (fun p e s args below T m meth c L hx hb X hZ hown eT => ⟨T, X, eT, fun target q => ?_⟩) k
  exact X.caload hx (j := j) (v := v) (by rw [eT]; exact A1.1) (State.isArrayOf_alike hZ.alike A1.2.1) A1.2.2 (inb_of S1 hj) (H1.at (inb_of S1 hj) hv) (g := mkF m pc Ls (.int j :: .ref a :: rest)) rfl rfl (hb ▸ hd) _ q
theorem WP.iaload {a : Addr} {cA : ClassId} {z j : Int32} {vs : List Value} {d v : Value} (hd : decode bytes pc = .ok (.iaload, 1)) (A : Arv Z h a cA .int z vs d) (hj : ¬ j < 0 ∧ j < z) (hv : vs.getD j.toNatClampNeg d = v) (hp : pc + 1 = n) (k : WP l Z EL nar own nm ds bytes maxL ret R Q vm h ce sl n Ls (v :: rest)) : WP l Z EL nar own nm ds bytes maxL ret R Q vm h ce sl pc Ls (.int j :: .ref a :: rest) := by
  subst hp
  obtain ⟨cl, A1, q1, S1, M1, H1, G1⟩ := A
  refine WP.look (Ls' := Ls) (fun p e s args below T m meth c L hx hb X hZ hown eT => ⟨T, X, eT, fun target q => ?_⟩) k
  exact X.iaload hx (j := j) (v := v) (by rw [eT]; exact A1.1) (State.isArrayOf_alike hZ.alike A1.2.1) A1.2.2 (inb_of S1 hj) (H1.at (inb_of S1 hj) hv) (g := mkF m pc Ls (.int j :: .ref a :: rest)) rfl rfl (hb ▸ hd) _ q
theorem WP.castY {K : String} {index : Nat} {a : Addr} (hd : decode bytes pc = .ok (.checkcast index, 3)) (w : (Cond.classLink own index K).before a0 Z = true) (F : Ins Z h a K true) (hp : pc + 3 = n) (k : WP l Z EL nar own nm ds bytes maxL ret R Q vm h ce sl n Ls (.ref a :: rest)) : WP l Z EL nar own nm ds bytes maxL ret R Q vm h ce sl pc Ls (.ref a :: rest) := by
  subst hp
  refine WP.look (fun p e s args below T m meth c L hx hb X hZ hown eT => ?_) k
  exact castY X hx hZ hown w eT F (g := mkF m pc Ls (.ref a :: rest)) rfl rfl (hb ▸ hd)
theorem WP.instY {K : String} {index : Nat} {a : Addr} (hd : decode bytes pc = .ok (.instanceof index, 3)) (w : (Cond.classLink own index K).before a0 Z = true) (F : Ins Z h a K true) (hp : pc + 3 = n) (k : WP l Z EL nar own nm ds bytes maxL ret R Q vm h ce sl n Ls (.int 1 :: rest)) : WP l Z EL nar own nm ds bytes maxL ret R Q vm h ce sl pc Ls (.ref a :: rest) := by
  subst hp
  refine WP.look (fun p e s args below T m meth c L hx hb X hZ hown eT => ?_) k
  exact instY X hx hZ hown w eT F (g := mkF m pc Ls (.ref a :: rest)) rfl rfl (hb ▸ hd)
theorem WP.instNo {K C : String} {index : Nat} {a : Addr} (hd : decode bytes pc = .ok (.instanceof index, 3)) (w : (Cond.classLink own index K).before a0 Z = true) (E : Exa Z h a C) (F : ∃ c t, Z.vm.findClass C = some c ∧ Z.vm.findClass K = some t ∧ Z.vm.assignable c t = false) (hp : pc + 3 = n) (k : WP l Z EL nar own nm ds bytes maxL ret R Q vm h ce sl n Ls (.int 0 :: rest)) : WP l Z EL nar own nm ds bytes maxL ret R Q vm h ce sl pc Ls (.ref a :: rest) := by
  subst hp
  refine WP.look (fun p e s args below T m meth c L hx hb X hZ hown eT => ?_) k
  exact instNo X hx hZ hown w eT E F (g := mkF m pc Ls (.ref a :: rest)) rfl rfl (hb ▸ hd)
theorem WP.instNull {index : Nat} (hd : decode bytes pc = .ok (.instanceof index, 3)) (hp : pc + 3 = n) (k : WP l Z EL nar own nm ds bytes maxL ret R Q vm h ce sl n Ls (.int 0 :: rest)) : WP l Z EL nar own nm ds bytes maxL ret R Q vm h ce sl pc Ls (.null :: rest) := by
  subst hp
  refine WP.look (Ls' := Ls) (fun p e s args below T m meth c L hx hb X hZ hown eT => ⟨T, X, eT, fun target q => ?_⟩) k
  exact X.instanceofNull hx (g := mkF m pc Ls (.null :: rest)) rfl rfl (hb ▸ hd) _ q
theorem WP.castNull {index : Nat} (hd : decode bytes pc = .ok (.checkcast index, 3)) (hp : pc + 3 = n) (k : WP l Z EL nar own nm ds bytes maxL ret R Q vm h ce sl n Ls (.null :: rest)) : WP l Z EL nar own nm ds bytes maxL ret R Q vm h ce sl pc Ls (.null :: rest) := by
  subst hp
  refine WP.look (Ls' := Ls) (fun p e s args below T m meth c L hx hb X hZ hown eT => ⟨T, X, eT, fun target q => ?_⟩) k
  exact X.checkcastNull hx (g := mkF m pc Ls (.null :: rest)) rfl rfl (hb ▸ hd) _ q
theorem WP.ldcA {index : Nat} {text : String} {a : Addr} (hd : decode bytes pc = .ok (.ldc index, 2)) (w : (Cond.stringLink own index text).before a0 Z = true) (Li : Lit (Z.setVm vm) own index a) (hp : pc + 2 = n) (k : WP l Z EL nar own nm ds bytes maxL ret R Q vm h ce sl n Ls (.ref a :: st)) : WP l Z EL nar own nm ds bytes maxL ret R Q vm h ce sl pc Ls st := by
  subst hp
  refine WP.look (Ls' := Ls) (fun p e s args below T m meth c L hx hb X hZ hown eT => ⟨T, X, eT, fun target q => ?_⟩) k
  exact ldcAgain X hx hZ hown w Li (g := mkF m pc Ls st) rfl (hb ▸ hd) _ q
theorem WP.backS {y : MethodName} {as' : Array Value} {Qy : Option Value → Heap → List Loc → Prop} {index Wd kc ks ce' sl' : Nat} {yb : ByteArray} {yl : Nat} {yr : Option FieldType} (hK : ∀ (p : Program) (e : Env) (below : List Frame) (s : State) (args : Array Value), Z.Warmed39 (s.setVm vm).vm → Back l R p e below (s.setVm vm) args y 3 Wd (fun A a => a = as' ∧ A.U.heap = h ∧ A.cells + kc ≤ R.cells ∧ A.slots + ks ≤ R.slots) (fun A _ v B => ∃ L, Qy v B.U.heap L ∧ B.locs = A.locs ++ L ∧ B.cells = A.cells + kc ∧ B.slots = A.slots + ks)) (hq : ∀ v h' L, Qy v h' L → Fr Z.heap.size L ∧ Ext Z.heap h' ∧ CHr Z EL vm h vm h') (hd : decode bytes pc = .ok (.invokestatic index, 3)) (w1 : (Cond.methodLink own index y).before a0 Z = true) (w2 : (Cond.static y).before a0 Z = true) (wz : (Cond.initialized y.cls).before a0 Z = true) (wc : (Cond.code y yb yl yr).before a0 Z = true) (hy : y.cls ≠ "java/lang/invoke/MethodHandle" ∧ y.cls ≠ "java/lang/invoke/VarHandle") (hce : ce + kc = ce') (hsl : sl + ks = sl') (hc : ce' ≤ R.cells) (hs : sl' ≤ R.slots) (hsize : Ls.size = maxL) {argsL : List Value} (hargs : argsL.toArray = as') (hlen : ∀ sig, parseMethodDescriptor y.desc = some sig → argsL.length = sig.parameters.length) (hst : st = argsL.reverse ++ rest) (hWd : (rest.map fun v => v.category).sum ≤ Wd) (hp : pc + 3 = n)
    (k : ∀ v h' L, Qy v h' L → CHr Z EL vm h vm h' → WP l Z EL nar own nm ds bytes maxL ret R Q vm h' ce' sl' n Ls (v.toList ++ rest)) : WP l Z EL nar own nm ds bytes maxL ret R Q vm h ce sl pc Ls st := by
  subst hp hce hsl
  intro p e s m args below meth c T L cx ⟨X, ⟨k0, hS, hk⟩, hZ, hown, eT, N, hE, hC, hW', a1, hEL⟩
  obtain ⟨v, vm₁, ⟨U, L', ke, ks'⟩, hw1, X', ⟨Lq, q1, q4, q5, q6⟩, stp⟩ := Jvm.LawKit.callS X cx.1 hown (mvT (s := s.setVm vm) hZ w1) (mvT (s := s.setVm vm) hZ w2) (mvT (s := s.setVm vm) hZ wz) (mvT (s := s.setVm vm) hZ wc) hy (hK p e below s args hZ) (g := mkF m pc Ls st) rfl (by rw [cx.2.2.1]; exact hsize) (argsL := argsL) (rest := rest) hlen hst (by show 2 * 0 + _ ≤ _; omega) (cx.2.1 ▸ hd) (fun _ _ => ⟨hargs, eT, hc, hs⟩)
  dsimp only [Pt.U, Pt.locs, Pt.cells, Pt.slots] at X' q1 q4 q5 q6 stp
  subst q4 q5 q6
  obtain ⟨r1, r2, r3⟩ := hq _ _ _ q1
  obtain ⟨t, o, h1, r⟩ := k v U.heap Lq q1 r3 p e s m args below meth c U _ cx ⟨X', ⟨k0, hS, Nat.le_trans hk r3.2.1⟩, hZ, hown, rfl, Fr.app N r1, r2, hC.trans r3, hW', a1, hEL⟩
  exact ⟨t, o, stp _ h1, r⟩
theorem WP.ldcI {index : Nat} {v : Int32} (hd : decode bytes pc = .ok (.ldc index, 2)) (w : (Cond.constant own index v).before a0 Z = true) (hp : pc + 2 = n) (k : WP l Z EL nar own nm ds bytes maxL ret R Q vm h ce sl n Ls (.int v :: st)) : WP l Z EL nar own nm ds bytes maxL ret R Q vm h ce sl pc Ls st := by
  subst hp
  refine WP.look (Ls' := Ls) (fun p e s args below T m meth c L hx hb X hZ hown eT => ⟨T, X, eT, fun target q => ?_⟩) k
  exact X.ldcInt hx hown (mvT (s := s.setVm vm) hZ w) (g := mkF m pc Ls st) rfl (hb ▸ hd) _ q
end Steps
end Jvm.OwnW
namespace Jvm.OwnW
open Jvm Jvm.ClassFile Sem Op Lib Jvm.Free Jvm.Stand Jvm.LawKit Jvm.RoadKit Bundle
section Steps5
variable {l : Launch} {Z : State} {EL : List (String × Nat)} {nar : Bool} {own nm ds : String} {bytes : ByteArray} {maxL : Nat} {ret : Option FieldType} {R : Room} {Q : Option Value → Heap → Prop} {vm : Vm} {h : Heap} {ce sl pc n : Nat} {Ls Ls' : Array Slot} {st rest : List Value} {a0 : Array Value}
theorem WP.dload {k' : Nat} {v : UInt64} (hd : decode bytes pc = .ok (.dload k', 2)) (hl : Ls[k']? = some (.val (.double v))) (hp : pc + 2 = n) (k : WP l Z EL nar own nm ds bytes maxL ret R Q vm h ce sl n Ls (.double v :: st)) : WP l Z EL nar own nm ds bytes maxL ret R Q vm h ce sl pc Ls st := by subst hp; exact WP.step (fun p e below T t m c hx hb ha q => XS.dload ha hx rfl (hb ▸ hd) hl q) k
theorem WP.dstore {k' : Nat} {v : UInt64} (hd : decode bytes pc = .ok (.dstore k', 2)) (hl : storeLocals Ls k' (.double v) = some Ls') (hp : pc + 2 = n) (k : WP l Z EL nar own nm ds bytes maxL ret R Q vm h ce sl n Ls' rest) : WP l Z EL nar own nm ds bytes maxL ret R Q vm h ce sl pc Ls (.double v :: rest) := by subst hp; exact WP.step (fun p e below T t m c hx hb ha q => XS.dstore ha hx rfl (hb ▸ hd) rfl hl q) k
theorem WP.dconst0 {v : UInt64} (hd : decode bytes pc = .ok (.dconst 0, 1)) (hv : FP.dconst0 = v) (hp : pc + 1 = n) (k : WP l Z EL nar own nm ds bytes maxL ret R Q vm h ce sl n Ls (.double v :: st)) : WP l Z EL nar own nm ds bytes maxL ret R Q vm h ce sl pc Ls st := by subst hp; exact WP.step (fun p e below T t m c hx hb ha q => XS.dconst0 ha hx rfl (hb ▸ hd) hv q) k
theorem WP.dconst1 {v : UInt64} (hd : decode bytes pc = .ok (.dconst 1, 1)) (hv : FP.dconst1 = v) (hp : pc + 1 = n) (k : WP l Z EL nar own nm ds bytes maxL ret R Q vm h ce sl n Ls (.double v :: st)) : WP l Z EL nar own nm ds bytes maxL ret R Q vm h ce sl pc Ls st := by subst hp; exact WP.step (fun p e below T t m c hx hb ha q => XS.dconst1 ha hx rfl (hb ▸ hd) hv q) k
theorem WP.i2d {x : Int32} (hd : decode bytes pc = .ok (.i2d, 1)) (hp : pc + 1 = n) (k : WP l Z EL nar own nm ds bytes maxL ret R Q vm h ce sl n Ls (.double (FP.i2d x) :: rest)) : WP l Z EL nar own nm ds bytes maxL ret R Q vm h ce sl pc Ls (.int x :: rest) := by subst hp; exact WP.step (fun p e below T t m c hx hb ha q => XS.i2dS ha hx rfl (hb ▸ hd) rfl rfl q) k
theorem WP.l2d {x : Int64} (hd : decode bytes pc = .ok (.l2d, 1)) (hp : pc + 1 = n) (k : WP l Z EL nar own nm ds bytes maxL ret R Q vm h ce sl n Ls (.double (FP.l2d x) :: rest)) : WP l Z EL nar own nm ds bytes maxL ret R Q vm h ce sl pc Ls (.long x :: rest) := by subst hp; exact WP.step (fun p e below T t m c hx hb ha q => XS.l2dS ha hx rfl (hb ▸ hd) rfl rfl q) k
theorem WP.dcmp {o : CmpOp} {x y : UInt64} {v : Int32} (hd : decode bytes pc = .ok (.dcmp o, 1)) (hv : cmpValue (FP.dcmp x y) o = v) (hp : pc + 1 = n) (k : WP l Z EL nar own nm ds bytes maxL ret R Q vm h ce sl n Ls (.int v :: rest)) : WP l Z EL nar own nm ds bytes maxL ret R Q vm h ce sl pc Ls (.double y :: .double x :: rest) := by subst hp; exact WP.step (fun p e below T t m c hx hb ha q => XS.dcmpS ha hx rfl (hb ▸ hd) rfl hv q) k
theorem WP.dadd {x y : UInt64} (hd : decode bytes pc = .ok (.dadd, 1)) (hn : Jvm.Free.Fl.NoNaN64 (FP.dadd x y)) (hp : pc + 1 = n) (k : WP l Z EL nar own nm ds bytes maxL ret R Q vm h ce sl n Ls (.double (FP.dadd x y) :: rest)) : WP l Z EL nar own nm ds bytes maxL ret R Q vm h ce sl pc Ls (.double y :: .double x :: rest) := by subst hp; exact WP.step (fun p e below T t m c hx hb ha q => XS.daddS ha hx rfl (hb ▸ hd) rfl hn rfl q) k
theorem WP.dsub {x y : UInt64} (hd : decode bytes pc = .ok (.dsub, 1)) (hn : Jvm.Free.Fl.NoNaN64 (FP.dsub x y)) (hp : pc + 1 = n) (k : WP l Z EL nar own nm ds bytes maxL ret R Q vm h ce sl n Ls (.double (FP.dsub x y) :: rest)) : WP l Z EL nar own nm ds bytes maxL ret R Q vm h ce sl pc Ls (.double y :: .double x :: rest) := by subst hp; exact WP.step (fun p e below T t m c hx hb ha q => XS.dsubS ha hx rfl (hb ▸ hd) rfl hn rfl q) k
theorem WP.ddiv {x y : UInt64} (hd : decode bytes pc = .ok (.ddiv, 1)) (hn : Jvm.Free.Fl.NoNaN64 (FP.ddiv x y)) (hp : pc + 1 = n) (k : WP l Z EL nar own nm ds bytes maxL ret R Q vm h ce sl n Ls (.double (FP.ddiv x y) :: rest)) : WP l Z EL nar own nm ds bytes maxL ret R Q vm h ce sl pc Ls (.double y :: .double x :: rest) := by subst hp; exact WP.step (fun p e below T t m c hx hb ha q => XS.ddivS ha hx rfl (hb ▸ hd) rfl hn rfl q) k
theorem WP.retL {x : Int64} (hd : decode bytes pc = .ok (.lreturn, 1)) (hr : ret = some .long) (hc : ce ≤ R.cells) (hsl : sl ≤ R.slots) (hq : Q (some (.long x)) h) : WP l Z EL nar own nm ds bytes maxL ret R Q vm h ce sl pc Ls (.long x :: rest) :=
  WP.done (v := some (.long x)) hc hsl (fun q => by rw [hr] at q; cases q) (fun p e s args below T m meth c L fs hx hb hret X hl => retOut X hx (t := .long) (hret.trans hr) rfl (Or.inr (Or.inl ⟨rfl, rfl, x, rfl⟩)) (hb ▸ hd) hl) hq
theorem WP.retD {x : UInt64} (hd : decode bytes pc = .ok (.dreturn, 1)) (hr : ret = some .double) (hc : ce ≤ R.cells) (hsl : sl ≤ R.slots) (hq : Q (some (.double x)) h) : WP l Z EL nar own nm ds bytes maxL ret R Q vm h ce sl pc Ls (.double x :: rest) :=
  WP.done (v := some (.double x)) hc hsl (fun q => by rw [hr] at q; cases q) (fun p e s args below T m meth c L fs hx hb hret X hl => retOut X hx (t := .double) (hret.trans hr) rfl (Or.inr (Or.inr (Or.inl ⟨rfl, rfl, x, rfl⟩))) (hb ▸ hd) hl) hq
end Steps5
end Jvm.OwnW
namespace Jvm.OwnW
open Jvm Jvm.ClassFile Sem Op Lib Jvm.Free Jvm.Stand Jvm.LawKit Jvm.RoadKit Bundle
section Steps6
variable {l : Launch} {Z : State} {EL : List (String × Nat)} {nar : Bool} {own nm ds : String} {bytes : ByteArray} {maxL : Nat} {ret : Option FieldType} {R : Room} {Q : Option Value → Heap → Prop} {vm : Vm} {h : Heap} {ce sl pc n : Nat} {Ls Ls' : Array Slot} {st rest : List Value} {a0 : Array Value}
theorem WP.dloadN {k' : Fin 4} {v : UInt64} (hd : decode bytes pc = .ok (.dload_n k', 1)) (hl : Ls[k'.val]? = some (.val (.double v))) (hp : pc + 1 = n) (k : WP l Z EL nar own nm ds bytes maxL ret R Q vm h ce sl n Ls (.double v :: st)) : WP l Z EL nar own nm ds bytes maxL ret R Q vm h ce sl pc Ls st := by subst hp; exact WP.step (fun p e below T t m c hx hb ha q => XS.dloadN ha hx rfl (hb ▸ hd) hl q) k
theorem WP.dmul {x y : UInt64} (hd : decode bytes pc = .ok (.dmul, 1)) (hn : Jvm.Free.Fl.NoNaN64 (FP.dmul x y)) (hp : pc + 1 = n) (k : WP l Z EL nar own nm ds bytes maxL ret R Q vm h ce sl n Ls (.double (FP.dmul x y) :: rest)) : WP l Z EL nar own nm ds bytes maxL ret R Q vm h ce sl pc Ls (.double y :: .double x :: rest) := by subst hp; exact WP.step (fun p e below T t m c hx hb ha q => XS.dmulS ha hx rfl (hb ▸ hd) rfl hn rfl q) k
theorem WP.ldcD {index : Nat} {v : UInt64} (hd : decode bytes pc = .ok (.ldc2_w index, 3)) (w : (Cond.constantDouble own index v).before a0 Z = true) (hp : pc + 3 = n) (k : WP l Z EL nar own nm ds bytes maxL ret R Q vm h ce sl n Ls (.double v :: st)) : WP l Z EL nar own nm ds bytes maxL ret R Q vm h ce sl pc Ls st := by
  subst hp
  refine WP.look (Ls' := Ls) (fun p e s args below T m meth c L hx hb X hZ hown eT => ⟨T, X, eT, fun target q => ?_⟩) k
  exact X.ldc2DoubleC hx hown (mvT (s := s.setVm vm) hZ w) (g := mkF m pc Ls st) rfl (hb ▸ hd) _ q
end Steps6
end Jvm.OwnW
namespace Jvm.OwnF
open Jvm.FP Jvm.FP.Core
/-! What a quotient of whole numbers is worth against a representable bound: own text over the library's FloatLaws, FloatLaws2. -/
theorem own_zr_le {f : Fmt} (hf : Good f) {s : Bool} {A B : Nat} {e e0 : Int} {V : Datum} (hB : 0 < B) (hV : Core.fits f V) (hn : V ≠ .nan) (h0 : e0 ≤ f.qmin) (h0e : e0 ≤ e)
    (h : signed s (inUnits A e e0) ≤ zval f V * ((2 ^ (f.qmin - e0).toNat * B : Nat) : Int)) : zval f (roundRatio f s A B e) ≤ zval f V := by
  have hle := zmag_roundRatio_le hf (s := s) (A := A) (B := B) hB hV hn h0 h0e
  have hge := zmag_roundRatio_ge hf (s := s) (A := A) (B := B) hB hV h0 h0e
  have hP := Nat.two_pow_pos (f.qmin - e0).toNat
  unfold zval at h ⊢
  rw [sgn_roundRatio]
  rw [← signed_mul, ← Nat.mul_assoc] at h
  have hz : zmag f V * 2 ^ (f.qmin - e0).toNat * B = 0 → zmag f V = 0 := by
    intro q
    rcases Nat.mul_eq_zero.mp q with q | q
    · rcases Nat.mul_eq_zero.mp q with q | q <;> omega
    · omega
  generalize zmag f V * 2 ^ (f.qmin - e0).toNat * B = vP at *
  generalize sgn V = t at *
  cases s <;> cases t <;> simp only [signed, if_true, Bool.false_eq_true, if_false] at h ⊢
  · have := hle (by omega); omega
  · have := hle (by omega); have := hz (by omega); omega
  · omega
  · have := hge (by omega); omega
theorem own_zr_ge {f : Fmt} (hf : Good f) {s : Bool} {A B : Nat} {e e0 : Int} {V : Datum} (hB : 0 < B) (hV : Core.fits f V) (hn : V ≠ .nan) (h0 : e0 ≤ f.qmin) (h0e : e0 ≤ e)
    (h : zval f V * ((2 ^ (f.qmin - e0).toNat * B : Nat) : Int) ≤ signed s (inUnits A e e0)) : zval f V ≤ zval f (roundRatio f s A B e) := by
  have hle := zmag_roundRatio_le hf (s := s) (A := A) (B := B) hB hV hn h0 h0e
  have hge := zmag_roundRatio_ge hf (s := s) (A := A) (B := B) hB hV h0 h0e
  have hP := Nat.two_pow_pos (f.qmin - e0).toNat
  unfold zval at h ⊢
  rw [sgn_roundRatio]
  rw [← signed_mul, ← Nat.mul_assoc] at h
  have hz : zmag f V * 2 ^ (f.qmin - e0).toNat * B = 0 → zmag f V = 0 := by
    intro q
    rcases Nat.mul_eq_zero.mp q with q | q
    · rcases Nat.mul_eq_zero.mp q with q | q <;> omega
    · omega
  generalize zmag f V * 2 ^ (f.qmin - e0).toNat * B = vP at *
  generalize sgn V = t at *
  cases s <;> cases t <;> simp only [signed, if_true, Bool.false_eq_true, if_false] at h ⊢
  · have := hge (by omega); omega
  · omega
  · have := hle (by omega); have := hz (by omega); omega
  · have := hle (by omega); omega
/-- the quotient of two whole numbers, as one rounded ratio -/
theorem own_ratio {i j : Int} {a b : UInt64} (ha : DInt i a) (hb : DInt j b) (hi : i ≠ 0) (hj : j ≠ 0) : val64 (Core.ddiv a b) = roundRatio b64 (decide (i < 0) != decide (j < 0)) i.natAbs j.natAbs 0 := by
  rw [val64_ddiv]
  unfold DInt at ha hb
  cases h1 : val64 a with
  | nan => rw [h1] at ha; exact ha.elim
  | inf u => rw [h1] at ha; exact ha.elim
  | fin s c q =>
  cases h2 : val64 b with
  | nan => rw [h2] at hb; exact hb.elim
  | inf u => rw [h2] at hb; exact hb.elim
  | fin t d r =>
  rw [h1] at ha
  rw [h2] at hb
  have hd : d ≠ 0 := fun e => hj ((whole_zero hb).mp e)
  show (if d = 0 then _ else roundRatio b64 (s != t) c d (q - r)) = _
  rw [if_neg hd, whole_sign ha hi, whole_sign hb hj]
  refine roundRatio_congr (by omega) (by omega) ?_
  have e1 := whole_natAbs ha
  have e2 := whole_natAbs hb
  obtain ⟨m, m1, m2⟩ : ∃ m : Nat, q.toNat + (-r).toNat = (q - r - 0).toNat + m ∧ (-q).toNat + r.toNat = (0 - (q - r)).toNat + m := ⟨q.toNat + (-r).toNat - (q - r - 0).toNat, by omega, by omega⟩
  refine Nat.eq_of_mul_eq_mul_right (Nat.two_pow_pos m) ?_
  rw [Nat.mul_assoc, ← Nat.pow_add, ← m1, Nat.mul_assoc (i.natAbs * d), ← Nat.pow_add, ← m2, Nat.pow_add, Nat.pow_add]
  calc c * j.natAbs * (2 ^ q.toNat * 2 ^ (-r).toNat) = (c * 2 ^ q.toNat) * (j.natAbs * 2 ^ (-r).toNat) := by ac_rfl
    _ = (i.natAbs * 2 ^ (-q).toNat) * (d * 2 ^ r.toNat) := by rw [e1, e2]
    _ = i.natAbs * d * (2 ^ (-q).toNat * 2 ^ r.toNat) := by ac_rfl
/-- a whole number's place in units of the least exponent -/
theorem own_wz {i : Int} {x : Datum} (h : Whole i x) (hf : Core.fits b64 x) : zval b64 x = i * ((2 ^ 1074 : Nat) : Int) := by
  cases x with
  | nan => exact h.elim
  | inf u => exact h.elim
  | fin s c q =>
    have e := whole_units h (e := b64.qmin) hf.2.1
    have e1 : (2 ^ (b64.qmin).toNat : Nat) = 1 := by decide
    have e2 : (-b64.qmin).toNat = 1074 := by decide
    rw [e1, e2] at e
    show signed s (inUnits c q b64.qmin) = _
    omega
/-- N/2^32, a double -/
theorem own_V (N : Int) (hN : N.natAbs < 2 ^ 53) : ∃ V : Datum, Core.fits b64 V ∧ V ≠ .nan ∧ zval b64 V = N * ((2 ^ 1042 : Nat) : Int) := by
  obtain ⟨c, q, e1, e2⟩ := round_exact good_b64 (decide (N < 0)) (c := N.natAbs) (q := -32) hN (by decide) (by decide)
  refine ⟨round b64 (.fin (decide (N < 0)) N.natAbs (-32)), round_fits good_b64 _, by rw [e1]; exact Datum.noConfusion, ?_⟩
  rw [e1]
  show signed (decide (N < 0)) (inUnits c q b64.qmin) = _
  rw [e2]
  unfold inUnits
  rw [show (-32 - b64.qmin).toNat = 1042 by decide, signed_mul]
  congr 1
  unfold signed
  by_cases h : N < 0 <;> simp [h] <;> omega
theorem own_sgn (i j : Int) (hj : j ≠ 0) (hi : i ≠ 0) : signed (decide (i < 0) != decide (j < 0)) i.natAbs = i * j.sign := by
  unfold signed
  rcases Int.lt_or_gt_of_ne hi with h | h <;> rcases Int.lt_or_gt_of_ne hj with h' | h'
  · rw [Int.sign_eq_neg_one_of_neg h']; simp [h, h']; omega
  · rw [Int.sign_eq_one_of_pos h']; simp [h, show ¬ j < 0 by omega]; omega
  · rw [Int.sign_eq_neg_one_of_neg h']; simp [h', show ¬ i < 0 by omega]; omega
  · rw [Int.sign_eq_one_of_pos h']; simp [show ¬ i < 0 by omega, show ¬ j < 0 by omega]; omega
theorem own_unit (i j : Int) (hj : j ≠ 0) (hi : i ≠ 0) : signed (decide (i < 0) != decide (j < 0)) (inUnits i.natAbs 0 b64.qmin) = i * j.sign * ((2 ^ 1074 : Nat) : Int) := by
  unfold inUnits
  rw [show (0 - b64.qmin).toNat = 1074 by decide, signed_mul, own_sgn i j hj hi]
/-- at most a double that is at least the exact quotient -/
theorem own_q_le {i j : Int} {a b : UInt64} (ha : DInt i a) (hb : DInt j b) (hi : i ≠ 0) (hj : j ≠ 0) {V : Datum} (hV : Core.fits b64 V) (hn : V ≠ .nan) (h : i * j.sign * ((2 ^ 1074 : Nat) : Int) ≤ zval b64 V * j.natAbs) : zval b64 (val64 (Core.ddiv a b)) ≤ zval b64 V := by
  rw [own_ratio ha hb hi hj]
  refine own_zr_le good_b64 (by omega) hV hn (Int.le_refl _) (by decide) ?_
  rw [own_unit i j hj hi, show (b64.qmin - b64.qmin).toNat = 0 by decide]
  simpa using h
theorem own_q_ge {i j : Int} {a b : UInt64} (ha : DInt i a) (hb : DInt j b) (hi : i ≠ 0) (hj : j ≠ 0) {V : Datum} (hV : Core.fits b64 V) (hn : V ≠ .nan) (h : zval b64 V * j.natAbs ≤ i * j.sign * ((2 ^ 1074 : Nat) : Int)) : zval b64 V ≤ zval b64 (val64 (Core.ddiv a b)) := by
  rw [own_ratio ha hb hi hj]
  refine own_zr_ge good_b64 (by omega) hV hn (Int.le_refl _) (by decide) ?_
  rw [own_unit i j hj hi, show (b64.qmin - b64.qmin).toNat = 0 by decide]
  simpa using h
theorem own_nn {x : UInt64} {i : Int} (h : DInt i x) : val64 x ≠ .nan := fun e => by unfold DInt at h; rw [e] at h; exact h
theorem own_qnn {i j : Int} {a b : UInt64} (ha : DInt i a) (hb : DInt j b) (hi : i ≠ 0) (hj : j ≠ 0) : val64 (Core.ddiv a b) ≠ .nan := by rw [own_ratio ha hb hi hj]; exact roundRatio_ne_nan _ _ _ _ _
theorem own_cmp {a b : UInt64} (ha : val64 a ≠ .nan) (hb : val64 b ≠ .nan) : Core.dcmp a b = some (compare (zval b64 (val64 a)) (zval b64 (val64 b))) := order_zval good_b64 (val64_fits a) (val64_fits b) ha hb
theorem own_lt {a b : UInt64} (ha : val64 a ≠ .nan) (hb : val64 b ≠ .nan) (h : zval b64 (val64 a) < zval b64 (val64 b)) : Core.dcmp a b = some .lt := by
  rw [own_cmp ha hb]; congr 1; exact Int.compare_eq_lt.mpr h
theorem own_eq {a b : UInt64} (ha : val64 a ≠ .nan) (hb : val64 b ≠ .nan) (h : zval b64 (val64 a) = zval b64 (val64 b)) : Core.dcmp a b = some .eq := by
  rw [own_cmp ha hb]; congr 1; exact Int.compare_eq_eq.mpr h
theorem own_ratio0 {j : Int} {a b : UInt64} (ha : DInt 0 a) (hb : DInt j b) (hj : j ≠ 0) : val64 (Core.ddiv a b) ≠ .nan ∧ zval b64 (val64 (Core.ddiv a b)) = 0 := by
  rw [val64_ddiv]
  unfold DInt at ha hb
  cases h1 : val64 a with
  | nan => rw [h1] at ha; exact ha.elim
  | inf u => rw [h1] at ha; exact ha.elim
  | fin s c q =>
  cases h2 : val64 b with
  | nan => rw [h2] at hb; exact hb.elim
  | inf u => rw [h2] at hb; exact hb.elim
  | fin t d r =>
  rw [h1] at ha
  rw [h2] at hb
  have hd : d ≠ 0 := fun e => hj ((whole_zero hb).mp e)
  have hc : c = 0 := (whole_zero ha).mpr rfl
  have e : quotient b64 (.fin s c q) (.fin t d r) = .fin (s != t) 0 b64.qmin := by
    show (if d = 0 then _ else roundRatio b64 (s != t) c d (q - r)) = _
    rw [if_neg hd, hc]; rfl
  rw [e]
  refine ⟨Datum.noConfusion, ?_⟩
  show signed (s != t) (0 * _) = 0
  rw [Nat.zero_mul]; cases (s != t) <;> rfl
/-- terms = kk * d: the quotient is kk -/
theorem own_exact {kk d : Int} {a b e : UInt64} (ha : DInt (kk * d) a) (hb : DInt d b) (he : DInt kk e) (hd : d ≠ 0) : val64 (Core.ddiv a b) ≠ .nan ∧ Core.dcmp (Core.ddiv a b) e = some .eq := by
  have hz := own_wz he (val64_fits e)
  by_cases hk : kk = 0
  · subst hk
    rw [Int.zero_mul] at ha
    obtain ⟨h1, h2⟩ := own_ratio0 ha hb hd
    exact ⟨h1, own_eq h1 (own_nn he) (by rw [h2, hz]; simp)⟩
  · have hi : kk * d ≠ 0 := Int.mul_ne_zero hk hd
    have hs : kk * d * d.sign = kk * d.natAbs := by rw [Int.mul_assoc, Int.mul_sign_self]
    refine ⟨own_qnn ha hb hi hd, own_eq (own_qnn ha hb hi hd) (own_nn he) (Int.le_antisymm ?_ ?_)⟩
    · refine own_q_le ha hb hi hd (val64_fits e) (own_nn he) ?_
      rw [hs, hz]; generalize ((2 ^ 1074 : Nat) : Int) = U; exact Int.le_of_eq (by ac_rfl)
    · refine own_q_ge ha hb hi hd (val64_fits e) (own_nn he) ?_
      rw [hs, hz]; generalize ((2 ^ 1074 : Nat) : Int) = U; exact Int.le_of_eq (by ac_rfl)
/-- a quotient strictly between two whole numbers k and k + 1, further than |j|/2^32 from both -/
theorem own_between {i j k : Int} {a b e g : UInt64} (ha : DInt i a) (hb : DInt j b) (he : DInt k e) (hg : DInt (k + 1) g) (hi : i ≠ 0) (hj : j ≠ 0) (hk : k.natAbs ≤ 1048576) (h1 : (k * 4294967296 + 1) * j.natAbs ≤ i * j.sign * 4294967296) (h2 : i * j.sign * 4294967296 ≤ ((k + 1) * 4294967296 - 1) * j.natAbs) :
    val64 (Core.ddiv a b) ≠ .nan ∧ Core.dcmp e (Core.ddiv a b) = some .lt ∧ Core.dcmp (Core.ddiv a b) g = some .lt := by
  have hn := own_qnn ha hb hi hj
  have p : ((2 ^ 1074 : Nat) : Int) = 4294967296 * ((2 ^ 1042 : Nat) : Int) := by rw [show (1074 : Nat) = 32 + 1042 from rfl, Nat.pow_add, Int.natCast_mul]; rfl
  have pp : (0 : Int) < ((2 ^ 1042 : Nat) : Int) := by have := Nat.two_pow_pos 1042; omega
  have ze := own_wz he (val64_fits e)
  have zg := own_wz hg (val64_fits g)
  obtain ⟨V, v1, v2, v3⟩ := own_V (k * 4294967296 + 1) (by omega)
  obtain ⟨W, w1, w2, w3⟩ := own_V ((k + 1) * 4294967296 - 1) (by omega)
  have q1 := own_q_ge ha hb hi hj v1 v2 (by
    rw [v3, p]
    clear v3 w3 ze zg p
    generalize ((2 ^ 1042 : Nat) : Int) = P at pp ⊢
    have q := Int.mul_le_mul_of_nonneg_right h1 (Int.le_of_lt pp)
    have e1 : (k * 4294967296 + 1) * P * j.natAbs = (k * 4294967296 + 1) * j.natAbs * P := by ac_rfl
    have e2 : i * j.sign * (4294967296 * P) = i * j.sign * 4294967296 * P := by ac_rfl
    rw [e1, e2]; exact q)
  have q2 := own_q_le ha hb hi hj w1 w2 (by
    rw [w3, p]
    clear v3 w3 ze zg p
    generalize ((2 ^ 1042 : Nat) : Int) = P at pp ⊢
    have q := Int.mul_le_mul_of_nonneg_right h2 (Int.le_of_lt pp)
    have e1 : ((k + 1) * 4294967296 - 1) * P * j.natAbs = ((k + 1) * 4294967296 - 1) * j.natAbs * P := by ac_rfl
    have e2 : i * j.sign * (4294967296 * P) = i * j.sign * 4294967296 * P := by ac_rfl
    rw [e1, e2]; exact q)
  rw [p] at ze zg
  clear p
  generalize ((2 ^ 1042 : Nat) : Int) = P at *
  refine ⟨hn, own_lt (own_nn he) hn ?_, own_lt hn (own_nn hg) ?_⟩
  · rw [ze]; rw [v3] at q1
    have e1 : k * (4294967296 * P) < (k * 4294967296 + 1) * P := by rw [← Int.mul_assoc, Int.add_mul, Int.one_mul]; omega
    omega
  · rw [zg]; rw [w3] at q2
    have e1 : ((k + 1) * 4294967296 - 1) * P < (k + 1) * (4294967296 * P) := by rw [← Int.mul_assoc, Int.sub_mul, Int.one_mul]; omega
    omega
theorem own_zmag (V : Datum) : zmag b64 V = (zval b64 V).natAbs := by
  unfold zval signed; cases sgn V <;> simp
theorem own_zmagN {V : Datum} {N P : Nat} (h : zval b64 V = (N : Int) * (P : Int)) : zmag b64 V = N * P := by rw [own_zmag, h, ← Int.natCast_mul, Int.natAbs_natCast]
theorem own_ar {P x : Nat} (h : x ≤ 2147483648) : 1 * P * 2 ^ 0 * x ≤ 4294967296 * P := by
  rw [Nat.one_mul, Nat.pow_zero, Nat.mul_one, Nat.mul_comm 4294967296 P]; exact Nat.mul_le_mul_left P (by omega)
theorem own_ar2 {P x : Nat} (h : 1 ≤ x) : 4294967296 * P * 2 ^ 0 * 1 ≤ x * (4294967296 * P) := by
  have := Nat.mul_le_mul_right (4294967296 * P) h
  simpa using this
theorem own_sign {t d : Int} {a b : UInt64} (ht : t ≠ 0) (ha : val64 a = roundRatio b64 (decide (t < 0)) t.natAbs 1 0) (hb : DInt d b) (hd : d ≠ 0) (hdb : d.natAbs ≤ 2147483648) :
    val64 (Core.ddiv a b) ≠ .nan ∧ sgn (val64 (Core.ddiv a b)) = (decide (t < 0) != decide (d < 0)) ∧ 0 < zmag b64 (val64 (Core.ddiv a b)) := by
  have hp : 0 < 2 ^ 1042 := Nat.two_pow_pos 1042
  have p : 2 ^ 1074 = 4294967296 * 2 ^ 1042 := by rw [show (1074 : Nat) = 32 + 1042 from rfl, Nat.pow_add]
  have hm : 4294967296 * 2 ^ 1042 ≤ zmag b64 (val64 a) := by
    obtain ⟨V, v1, v2, v3⟩ := own_V 4294967296 (by decide)
    have z := own_zmagN (N := 4294967296) (P := 2 ^ 1042) v3
    have q := zmag_roundRatio_ge good_b64 (s := decide (t < 0)) (A := t.natAbs) (B := 1) (e := 0) (e0 := b64.qmin) (by decide) v1 (Int.le_refl _) (by decide) (by
      unfold inUnits
      rw [z, show (b64.qmin - b64.qmin).toNat = 0 by decide, show (0 - b64.qmin).toNat = 1074 by decide, p]
      exact own_ar2 (by omega))
    rw [← ha, z] at q
    exact q
  have hsg : sgn (val64 a) = decide (t < 0) := by rw [ha, sgn_roundRatio]
  rw [val64_ddiv]
  unfold DInt at hb
  cases h2 : val64 b with
  | nan => rw [h2] at hb; exact hb.elim
  | inf u => rw [h2] at hb; exact hb.elim
  | fin w dd r =>
  rw [h2] at hb
  have hdd : dd ≠ 0 := fun e => hd ((whole_zero hb).mp e)
  have hw := whole_sign hb hd
  cases h1 : val64 a with
  | nan => rw [h1] at ha; exact absurd ha.symm (roundRatio_ne_nan _ _ _ _ _)
  | inf u =>
    rw [h1] at hsg
    have hsg' : u = decide (t < 0) := hsg
    refine ⟨Datum.noConfusion, ?_, ?_⟩
    · show (u != w) = _
      rw [hsg', hw]
    · show 0 < b64.tails * 2 ^ (b64.exps - 2)
      exact Nat.mul_pos (tails_pos _) (Nat.two_pow_pos _)
  | fin u c q =>
    have hfit := val64_fits a
    rw [h1] at hsg hm hfit
    have hsg' : u = decide (t < 0) := hsg
    have e : quotient b64 (.fin u c q) (.fin w dd r) = roundRatio b64 (u != w) c d.natAbs q := by
      show (if dd = 0 then _ else roundRatio b64 (u != w) c dd (q - r)) = _
      rw [if_neg hdd]
      refine roundRatio_congr (by omega) (by omega) ?_
      have e2 := whole_natAbs hb
      rw [show (q - r - q).toNat = (-r).toNat by omega, show (q - (q - r)).toNat = r.toNat by omega, Nat.mul_assoc, ← e2, Nat.mul_assoc]
    rw [e]
    refine ⟨roundRatio_ne_nan _ _ _ _ _, by rw [sgn_roundRatio, hsg', hw], ?_⟩
    obtain ⟨V, v1, v2, v3⟩ := own_V 1 (by decide)
    have z := own_zmagN (N := 1) (P := 2 ^ 1042) v3
    have hq := zmag_roundRatio_ge good_b64 (s := (u != w)) (A := c) (B := d.natAbs) (e := q) (e0 := b64.qmin) (by omega) v1 (Int.le_refl _) hfit.2.1 (by
      have hm' : 4294967296 * 2 ^ 1042 ≤ inUnits c q b64.qmin := hm
      rw [z, show (b64.qmin - b64.qmin).toNat = 0 by decide]
      exact Nat.le_trans (own_ar hdb) hm')
    rw [z, Nat.one_mul] at hq
    exact Nat.lt_of_lt_of_le hp hq
theorem own_sg_pos {x z : UInt64} (hx : val64 x ≠ .nan) (hs : sgn (val64 x) = false) (hm : 0 < zmag b64 (val64 x)) (hz : DInt 0 z) : Core.dcmp x z = some .gt := by
  have zz := own_wz hz (val64_fits z)
  rw [own_cmp hx (own_nn hz), zz, Int.zero_mul]
  congr 1
  refine Int.compare_eq_gt.mpr ?_
  unfold zval; rw [hs]; show (0 : Int) < (zmag b64 (val64 x) : Int); omega
theorem own_sg_neg {x z : UInt64} (hx : val64 x ≠ .nan) (hs : sgn (val64 x) = true) (hm : 0 < zmag b64 (val64 x)) (hz : DInt 0 z) : Core.dcmp x z = some .lt := by
  have zz := own_wz hz (val64_fits z)
  refine own_lt hx (own_nn hz) ?_
  rw [zz, Int.zero_mul]
  unfold zval; rw [hs]; show -(zmag b64 (val64 x) : Int) < 0; omega
end Jvm.OwnF
namespace Jvm.OwnF
open Jvm.FP Jvm.FP.Core
/-! Rounding keeps the order; sums, products and quotients of doubles by their values in units of the least exponent (own text). -/
/-- rounding keeps the order of two magnitudes over one divisor -/
theorem own_zmono {s t1 t2 : Bool} {A1 A2 B c1 c2 : Nat} {e q1 q2 : Int} (hB : 0 < B) (he : b64.qmin ≤ e) (h : A1 ≤ A2) (h1 : roundRatio b64 s A1 B e = .fin t1 c1 q1) (h2 : roundRatio b64 s A2 B e = .fin t2 c2 q2) : zmag b64 (roundRatio b64 s A1 B e) ≤ zmag b64 (roundRatio b64 s A2 B e) := by
  have f1 := roundRatio_fits good_b64 s A1 hB e
  have f2 := roundRatio_fits good_b64 s A2 hB e
  have hle := zmag_roundRatio_le good_b64 (s := s) (A := A1) (B := B) (e := e) (e0 := b64.qmin) hB f2 (roundRatio_ne_nan _ _ _ _ _) (Int.le_refl _) he
  have hge := zmag_roundRatio_ge good_b64 (s := s) (A := A2) (B := B) (e := e) (e0 := b64.qmin) hB f1 (Int.le_refl _) he
  have z0 : (b64.qmin - b64.qmin).toNat = 0 := by decide
  rw [z0, Nat.pow_zero, Nat.mul_one] at hle hge
  have g1 := f1
  have g2 := f2
  rw [h1] at g1
  rw [h2] at g2
  have n1 := roundRatio_nearest good_b64 hB h1 g2.1 g2.2.1 (Int.le_refl _) he
  have n2 := roundRatio_nearest good_b64 hB h2 g1.1 g1.2.1 (Int.le_refl _) he
  refine Nat.le_of_not_lt fun hlt => ?_
  have k1 : ¬ inUnits A1 e b64.qmin ≤ zmag b64 (roundRatio b64 s A2 B e) * B := fun q => absurd (hle q) (by omega)
  have k2 : ¬ zmag b64 (roundRatio b64 s A1 B e) * B ≤ inUnits A2 e b64.qmin := fun q => absurd (hge q) (by omega)
  have e1 : zmag b64 (roundRatio b64 s A1 B e) = inUnits c1 q1 b64.qmin := by rw [h1]; rfl
  have e2 : zmag b64 (roundRatio b64 s A2 B e) = inUnits c2 q2 b64.qmin := by rw [h2]; rfl
  have hE : inUnits A1 e b64.qmin ≤ inUnits A2 e b64.qmin := Nat.mul_le_mul_right _ h
  unfold distance at n1 n2
  rw [← e1, ← e2] at n1 n2
  rw [← Int.natCast_mul, ← Int.natCast_mul] at n1 n2
  have hEE : inUnits A1 e b64.qmin = inUnits A2 e b64.qmin := by
    generalize zmag b64 (roundRatio b64 s A1 B e) * B = Z1 at *
    generalize zmag b64 (roundRatio b64 s A2 B e) * B = Z2 at *
    generalize inUnits A1 e b64.qmin = E1 at *
    generalize inUnits A2 e b64.qmin = E2 at *
    omega
  have hA : A1 = A2 := Nat.eq_of_mul_eq_mul_right (Nat.two_pow_pos _) hEE
  subst hA
  omega
/-- d is the rounding of N/D * 2^e, the sign of a zero left open -/
def RR (d : Datum) (N : Int) (D : Nat) (e : Int) : Prop := ∃ s, d = roundRatio b64 s N.natAbs D e ∧ signed s N.natAbs = N
theorem RR.nn {d : Datum} {N : Int} {D : Nat} {e : Int} (h : RR d N D e) : d ≠ .nan := by
  obtain ⟨s, rfl, -⟩ := h; exact roundRatio_ne_nan _ _ _ _ _
theorem RR.le {d V : Datum} {N : Int} {D : Nat} {e : Int} (h : RR d N D e) (hD : 0 < D) (he : b64.qmin ≤ e) (hV : Core.fits b64 V) (hn : V ≠ .nan) (k : N * ((2 ^ (e - b64.qmin).toNat : Nat) : Int) ≤ zval b64 V * (D : Int)) : zval b64 d ≤ zval b64 V := by
  obtain ⟨s, rfl, hs⟩ := h
  refine own_zr_le good_b64 hD hV hn (Int.le_refl _) he ?_
  unfold inUnits
  rw [signed_mul, hs, show (b64.qmin - b64.qmin).toNat = 0 by decide, Nat.pow_zero, Nat.one_mul]
  exact k
theorem RR.ge {d V : Datum} {N : Int} {D : Nat} {e : Int} (h : RR d N D e) (hD : 0 < D) (he : b64.qmin ≤ e) (hV : Core.fits b64 V) (hn : V ≠ .nan) (k : zval b64 V * (D : Int) ≤ N * ((2 ^ (e - b64.qmin).toNat : Nat) : Int)) : zval b64 V ≤ zval b64 d := by
  obtain ⟨s, rfl, hs⟩ := h
  refine own_zr_ge good_b64 hD hV hn (Int.le_refl _) he ?_
  unfold inUnits
  rw [signed_mul, hs, show (b64.qmin - b64.qmin).toNat = 0 by decide, Nat.pow_zero, Nat.one_mul]
  exact k
theorem own_sgd {s : Bool} {N : Int} (h : signed s N.natAbs = N) (hN : N ≠ 0) : s = decide (N < 0) := by
  unfold signed at h
  cases s <;> simp at h ⊢ <;> omega
theorem own_rr0 (s : Bool) (D : Nat) (e : Int) : zval b64 (roundRatio b64 s 0 D e) = 0 := by
  show zval b64 (.fin s 0 b64.qmin) = 0
  show signed s (0 * _) = 0
  rw [Nat.zero_mul]; cases s <;> rfl
theorem own_zsg (d : Datum) : (sgn d = false → 0 ≤ zval b64 d ∧ zval b64 d = zmag b64 d) ∧ (sgn d = true → zval b64 d ≤ 0 ∧ zval b64 d = -(zmag b64 d : Int)) := by
  unfold zval signed
  constructor <;> intro h <;> rw [h] <;> simp <;> omega
theorem RR.mono {d1 d2 : Datum} {N1 N2 : Int} {D : Nat} {e : Int} (h1 : RR d1 N1 D e) (h2 : RR d2 N2 D e) (hD : 0 < D) (he : b64.qmin ≤ e) (f1 : ∃ s c q, d1 = .fin s c q) (f2 : ∃ s c q, d2 = .fin s c q) (h : N1 ≤ N2) : zval b64 d1 ≤ zval b64 d2 := by
  obtain ⟨s1, rfl, g1⟩ := h1
  obtain ⟨s2, rfl, g2⟩ := h2
  obtain ⟨t1, c1, q1, f1⟩ := f1
  obtain ⟨t2, c2, q2, f2⟩ := f2
  have a1 := own_zsg (roundRatio b64 s1 N1.natAbs D e)
  have a2 := own_zsg (roundRatio b64 s2 N2.natAbs D e)
  rw [sgn_roundRatio] at a1 a2
  by_cases n1 : N1 = 0
  · subst n1
    rw [show (0 : Int).natAbs = 0 from rfl, own_rr0]
    by_cases n2 : N2 = 0
    · subst n2; rw [show (0 : Int).natAbs = 0 from rfl, own_rr0]; exact Int.le_refl _
    · exact (a2.1 (by rw [own_sgd g2 n2]; exact decide_eq_false (by omega))).1
  · have e1 := own_sgd g1 n1
    by_cases n2 : N2 = 0
    · subst n2
      rw [show (0 : Int).natAbs = 0 from rfl, own_rr0]
      exact (a1.2 (by rw [e1]; exact decide_eq_true (by omega))).1
    · have e2 := own_sgd g2 n2
      by_cases k1 : N1 < 0
      · have w1 : s1 = true := by rw [e1]; exact decide_eq_true k1
        by_cases k2 : N2 < 0
        · have w2 : s2 = true := by rw [e2]; exact decide_eq_true k2
          subst w1 w2
          have m := own_zmono hD he (show N2.natAbs ≤ N1.natAbs by omega) f2 f1
          rw [(a1.2 rfl).2, (a2.2 rfl).2]
          omega
        · exact Int.le_trans (a1.2 w1).1 (a2.1 (by rw [e2]; exact decide_eq_false k2)).1
      · have w1 : s1 = false := by rw [e1]; exact decide_eq_false k1
        have w2 : s2 = false := by rw [e2]; exact decide_eq_false (by omega)
        subst w1 w2
        have m := own_zmono hD he (show N1.natAbs ≤ N2.natAbs by omega) f1 f2
        rw [(a1.1 rfl).2, (a2.1 rfl).2]
        omega
/-- a double that is finite, worth z units of the least exponent -/
def DV (x : UInt64) (z : Int) : Prop := (∃ s c q, val64 x = .fin s c q) ∧ zval b64 (val64 x) = z
theorem DV.nn {x : UInt64} {z : Int} (h : DV x z) : val64 x ≠ .nan := by
  obtain ⟨⟨s, c, q, e⟩, -⟩ := h; rw [e]; exact Datum.noConfusion
theorem own_sgz (s : Bool) (n : Nat) : signed s (signed s n).natAbs = signed s n := by cases s <;> simp [signed]
/-- a sum is the rounding of the sum of the values -/
theorem own_add {x y : UInt64} {X Y : Int} (hx : DV x X) (hy : DV y Y) : RR (val64 (Core.dadd x y)) (X + Y) 1 b64.qmin := by
  obtain ⟨⟨s, c, q, ex⟩, zx⟩ := hx
  obtain ⟨⟨t, d, r, ey⟩, zy⟩ := hy
  have fx := val64_fits x
  have fy := val64_fits y
  rw [ex] at fx zx
  rw [ey] at fy zy
  obtain ⟨u, n, p, e1, e2, e3⟩ := sum_units fx fy
  rw [zx, zy] at e3
  refine ⟨u, ?_, ?_⟩
  · rw [val64_dadd, ex, ey, e1]
    show roundRatio b64 u n 1 p = _
    rw [← e3, natAbs_signed]
    refine roundRatio_congr (by decide) (by decide) ?_
    unfold inUnits
    rw [show (b64.qmin - p).toNat = 0 by omega, Nat.pow_zero]
    simp only [Nat.mul_one]
  · rw [← e3]; exact own_sgz _ _
/-- a quotient is the rounding of the quotient of the values -/
theorem own_div {x y : UInt64} {X Y : Int} (hx : DV x X) (hy : DV y Y) (hY : 0 < Y) : RR (val64 (Core.ddiv x y)) X Y.natAbs 0 := by
  obtain ⟨⟨s, c, q, ex⟩, zx⟩ := hx
  obtain ⟨⟨t, d, r, ey⟩, zy⟩ := hy
  have fx := val64_fits x
  have fy := val64_fits y
  rw [ex] at fx zx
  rw [ey] at fy zy
  have zx' : signed s (inUnits c q b64.qmin) = X := zx
  have zy' : signed t (inUnits d r b64.qmin) = Y := zy
  have hq := fx.2.1
  have hr := fy.2.1
  have ht : t = false := by
    cases t with
    | false => rfl
    | true => exfalso; rw [← zy'] at hY; simp [signed] at hY; omega
  subst ht
  have hd : d ≠ 0 := fun h => by subst h; rw [← zy'] at hY; simp [signed, inUnits] at hY
  refine ⟨s, ?_, by rw [← zx']; exact own_sgz _ _⟩
  rw [val64_ddiv, ex, ey]
  show (if d = 0 then _ else roundRatio b64 (s != false) c d (q - r)) = _
  rw [if_neg hd, Bool.bne_false, ← zx', ← zy', natAbs_signed, natAbs_signed]
  refine roundRatio_congr (by omega) (Nat.mul_pos (by omega) (Nat.two_pow_pos _)) ?_
  unfold inUnits
  rw [← Nat.mul_assoc, Nat.mul_assoc _ (2 ^ _) (2 ^ _), ← Nat.pow_add, show c * 2 ^ (q - b64.qmin).toNat * d = c * d * 2 ^ (q - b64.qmin).toNat by ac_rfl, Nat.mul_assoc _ (2 ^ _) (2 ^ _), ← Nat.pow_add]
  congr 2
  omega
end Jvm.OwnF
namespace Jvm.OwnF
open Jvm.FP Jvm.FP.Core
/-! Values in units G = 2^-8 (own text). -/
def G : Int := ((2 ^ 1066 : Nat) : Int)
theorem G_pos : 0 < G := by have := Nat.two_pow_pos 1066; unfold G; omega
theorem own_U : ((2 ^ 1074 : Nat) : Int) = 256 * G := by
  unfold G; rw [show (1074 : Nat) = 8 + 1066 from rfl, Nat.pow_add, Int.natCast_mul]; rfl
theorem own_U0 : ((2 ^ (0 - b64.qmin).toNat : Nat) : Int) = 256 * G := by
  rw [show (0 - b64.qmin).toNat = 1074 by decide]; exact own_U
theorem own_U1 : ((2 ^ (b64.qmin - b64.qmin).toNat : Nat) : Int) = 1 := by
  rw [show (b64.qmin - b64.qmin).toNat = 0 by decide]; rfl
/-- N/256, a double -/
theorem own_VG (N : Int) (hN : N.natAbs < 2 ^ 53) : ∃ V : Datum, Core.fits b64 V ∧ (∃ s c q, V = .fin s c q) ∧ zval b64 V = N * G := by
  obtain ⟨c, q, e1, e2⟩ := round_exact good_b64 (decide (N < 0)) (c := N.natAbs) (q := -8) hN (by decide) (by decide)
  refine ⟨round b64 (.fin (decide (N < 0)) N.natAbs (-8)), round_fits good_b64 _, ⟨_, _, _, e1⟩, ?_⟩
  rw [e1]
  show signed (decide (N < 0)) (inUnits c q b64.qmin) = _
  rw [e2]
  unfold inUnits
  rw [show (-8 - b64.qmin).toNat = 1066 by decide, signed_mul]
  show _ * G = _
  congr 1
  unfold signed
  by_cases h : N < 0 <;> simp [h] <;> omega
theorem own_finz {d V : Datum} (hn : d ≠ .nan) (hV : Core.fits b64 V) (hf : ∃ s c q, V = .fin s c q) (h : zmag b64 d ≤ zmag b64 V) : ∃ s c q, d = .fin s c q := by
  obtain ⟨s, c, q, rfl⟩ := hf
  cases d with
  | nan => exact absurd rfl hn
  | fin t k p => exact ⟨t, k, p, rfl⟩
  | inf t =>
    have q1 := zmag_lt_top good_b64 hV
    have q2 : zmag b64 (.inf t) = b64.tails * 2 ^ (b64.exps - 2) := rfl
    rw [q2] at h
    exact absurd q1 (Nat.not_lt.mpr h)
theorem own_finV {d : Datum} (hn : d ≠ .nan) {K : Int} (hK : K.natAbs < 2 ^ 53) (h1 : zval b64 d ≤ K * G) (h2 : -(K * G) ≤ zval b64 d) : ∃ s c q, d = .fin s c q := by
  obtain ⟨V, v1, v2, v3⟩ := own_VG K hK
  refine own_finz hn v1 v2 ?_
  rw [own_zmag, own_zmag, v3]
  omega
theorem own_finN {V : Datum} (h : ∃ s c q, V = .fin s c q) : V ≠ .nan := by obtain ⟨s, c, q, rfl⟩ := h; exact Datum.noConfusion
theorem RR.fin {d : Datum} {N : Int} {D : Nat} {e : Int} (h : RR d N D e) (hD : 0 < D) (he : b64.qmin ≤ e) {K : Int} (hK : K.natAbs < 2 ^ 53) (k1 : N * ((2 ^ (e - b64.qmin).toNat : Nat) : Int) ≤ K * G * (D : Int)) (k2 : -(K * G * (D : Int)) ≤ N * ((2 ^ (e - b64.qmin).toNat : Nat) : Int)) :
    (∃ s c q, d = .fin s c q) ∧ zval b64 d ≤ K * G ∧ -(K * G) ≤ zval b64 d := by
  obtain ⟨V, v1, v2, v3⟩ := own_VG K hK
  obtain ⟨W, w1, w2, w3⟩ := own_VG (-K) (by omega)
  have a := h.le hD he v1 (own_finN v2) (by rw [v3]; exact k1)
  have b := h.ge hD he w1 (own_finN w2) (by rw [w3, Int.neg_mul, Int.neg_mul]; exact k2)
  rw [v3] at a
  rw [w3, Int.neg_mul] at b
  exact ⟨own_finV h.nn hK a b, a, b⟩
theorem RR.exact {d : Datum} {N : Int} {D : Nat} {e : Int} (h : RR d N D e) (hD : 0 < D) (he : b64.qmin ≤ e) {K : Int} (hK : K.natAbs < 2 ^ 53) (k : N * ((2 ^ (e - b64.qmin).toNat : Nat) : Int) = K * G * (D : Int)) :
    (∃ s c q, d = .fin s c q) ∧ zval b64 d = K * G := by
  obtain ⟨V, v1, v2, v3⟩ := own_VG K hK
  have a := h.le hD he v1 (own_finN v2) (by rw [v3]; exact Int.le_of_eq k)
  have b := h.ge hD he v1 (own_finN v2) (by rw [v3]; exact Int.le_of_eq k.symm)
  have e := Int.le_antisymm a b
  refine ⟨own_finz h.nn v1 v2 (by rw [own_zmag, own_zmag, e]; exact Nat.le_refl _), by rw [e, v3]⟩
theorem own_mul {x y : UInt64} {X Y K : Int} (hx : DV x X) (hy : DV y Y) (hK : K.natAbs < 2 ^ 53) (h : X * Y = K * G * (256 * G)) : DV (Core.dmul x y) (K * G) := by
  obtain ⟨V, v1, v2, v3⟩ := own_VG K hK
  obtain ⟨⟨s, c, q, ex⟩, zx⟩ := hx
  obtain ⟨⟨t, d, r, ey⟩, zy⟩ := hy
  have fx := val64_fits x
  have fy := val64_fits y
  rw [ex] at fx zx
  rw [ey] at fy zy
  obtain ⟨e1, e2, e3⟩ := product_units fx fy
  have er : val64 (Core.dmul x y) = roundRatio b64 (s != t) (c * d) 1 (q + r) := by rw [val64_dmul, ex, ey, e1]; rfl
  have es : signed (s != t) (inUnits (c * d) (q + r) (2 * b64.qmin)) = zval b64 V * ((2 ^ (b64.qmin - 2 * b64.qmin).toNat * 1 : Nat) : Int) := by
    rw [e3, v3, show (b64.qmin - 2 * b64.qmin).toNat = 1074 by decide, Nat.mul_one, own_U, ← h, ← zx, ← zy]
    show _ = signed s (zmag b64 (.fin s c q)) * signed t (zmag b64 (.fin t d r))
    generalize zmag b64 (.fin s c q) = a
    generalize zmag b64 (.fin t d r) = b
    cases s <;> cases t <;> simp [signed, Int.neg_mul, Int.mul_neg]
  have a := own_zr_le good_b64 (s := (s != t)) (A := c * d) (B := 1) (e := q + r) (e0 := 2 * b64.qmin) (by decide) v1 (own_finN v2) (by decide) e2 (Int.le_of_eq es)
  have b := own_zr_ge good_b64 (s := (s != t)) (A := c * d) (B := 1) (e := q + r) (e0 := 2 * b64.qmin) (by decide) v1 (own_finN v2) (by decide) e2 (Int.le_of_eq es.symm)
  rw [← er] at a b
  have e := Int.le_antisymm a b
  refine ⟨own_finz (by rw [er]; exact roundRatio_ne_nan _ _ _ _ _) v1 v2 (by rw [own_zmag, own_zmag, e]; exact Nat.le_refl _), by rw [e, v3]⟩
theorem own_neg {x : UInt64} {X : Int} (hx : DV x X) : DV (Core.dneg x) (-X) := by
  obtain ⟨⟨s, c, q, ex⟩, zx⟩ := hx
  refine ⟨⟨!s, c, q, by rw [Core.val64_dneg, ex]; rfl⟩, by rw [Core.val64_dneg, zval_negate, zx]⟩
theorem own_i2d (l : Int32) : DV (Core.i2d l) (l.toInt * 256 * G) :=
  ⟨i2d_fin l, by rw [own_wz (i2d_int l) (val64_fits _), own_U, Int.mul_assoc]⟩
theorem own_c1 : DV Core.dconst1 (256 * G) := by
  have h := own_i2d 1
  rwa [show Core.i2d 1 = Core.dconst1 by decide +kernel, show (1 : Int32).toInt * 256 = 256 from rfl] at h
theorem own_c0 : DV Core.dconst0 (0 * G) := by
  have h := own_i2d 0
  rwa [show Core.i2d 0 = Core.dconst0 by decide +kernel, show (0 : Int32).toInt * 256 = 0 from rfl] at h
theorem own_c16 : DV 4625196817309499392 (4096 * G) := by
  have h := own_i2d 16
  rwa [show Core.i2d 16 = 4625196817309499392 by decide +kernel, show (16 : Int32).toInt * 256 = 4096 from rfl] at h
theorem own_c256 : DV 4643211215818981376 (65536 * G) := by
  have h := own_i2d 256
  rwa [show Core.i2d 256 = 4643211215818981376 by decide +kernel, show (256 : Int32).toInt * 256 = 65536 from rfl] at h
theorem own_ltinf {x : UInt64} {X : Int} (h : DV x X) : Core.dcmp x 9218868437227405312 = some .lt := by
  have e : val64 9218868437227405312 = .inf false := by decide +kernel
  refine own_lt h.nn (by rw [e]; exact Datum.noConfusion) ?_
  obtain ⟨⟨s, c, q, ex⟩, zx⟩ := h
  have fx := val64_fits x
  rw [ex] at fx
  have q1 := zmag_lt_top good_b64 fx
  rw [e, ex]
  have q2 : zval b64 (.inf false) = ((b64.tails * 2 ^ (b64.exps - 2) : Nat) : Int) := rfl
  rw [q2]
  have q3 : zval b64 (.fin s c q) ≤ (zmag b64 (.fin s c q) : Int) := by
    unfold zval signed; split <;> omega
  have q4 : zmag b64 (.fin s c q) = inUnits c q b64.qmin := rfl
  rw [q4] at q3
  generalize b64.tails * 2 ^ (b64.exps - 2) = top at *
  omega
theorem own_mm (a g u : Int) : a * g * (u * g) = a * u * (g * g) := by ac_rfl
theorem own_GG {a b : Int} (h : a ≤ b) : a * G ≤ b * G := Int.mul_le_mul_of_nonneg_right h (Int.le_of_lt G_pos)
theorem own_G2 {a b : Int} (h : a ≤ b) : a * (G * G) ≤ b * (G * G) := Int.mul_le_mul_of_nonneg_right h (Int.le_of_lt (Int.mul_pos G_pos G_pos))
theorem own_nG {m : Int} (h : 0 < m) : ((m * G).natAbs : Int) = m * G ∧ 0 < (m * G).natAbs := by
  have := Int.mul_pos h G_pos
  constructor <;> omega
/-- k/D for two multiples of G: what the quotient's bounds ask -/
theorem own_divG {x y : UInt64} {a m : Int} (hx : DV x (a * G)) (hy : DV y (m * G)) (hm : 0 < m) :
    RR (val64 (Core.ddiv x y)) (a * G) (m * G).natAbs 0 ∧ (∀ V : Datum, Core.fits b64 V → V ≠ .nan → ∀ k : Int, zval b64 V = k * G → (a * 256 ≤ k * m → zval b64 (val64 (Core.ddiv x y)) ≤ k * G) ∧ (k * m ≤ a * 256 → k * G ≤ zval b64 (val64 (Core.ddiv x y)))) ∧
    (∀ K : Int, K.natAbs < 2 ^ 53 → a * 256 ≤ K * m → -(K * m) ≤ a * 256 → (∃ s c q, val64 (Core.ddiv x y) = .fin s c q) ∧ zval b64 (val64 (Core.ddiv x y)) ≤ K * G ∧ -(K * G) ≤ zval b64 (val64 (Core.ddiv x y))) := by
  obtain ⟨n1, n2⟩ := own_nG hm
  have h := own_div hx hy (Int.mul_pos hm G_pos)
  have e1 : a * G * (256 * G) = a * 256 * (G * G) := own_mm a G 256
  have e2 : ∀ k : Int, k * G * (m * G) = k * m * (G * G) := fun k => own_mm k G m
  refine ⟨h, fun V v1 v2 k v3 => ⟨fun q => ?_, fun q => ?_⟩, fun K hK q1 q2 => ?_⟩
  · rw [← v3]
    refine h.le n2 (by decide) v1 v2 ?_
    rw [own_U0, n1, v3, e1, e2]; exact own_G2 q
  · rw [← v3]
    refine h.ge n2 (by decide) v1 v2 ?_
    rw [own_U0, n1, v3, e1, e2]; exact own_G2 q
  · refine h.fin n2 (by decide) hK ?_ ?_
    · rw [own_U0, n1, e1, e2]; exact own_G2 q1
    · rw [own_U0, n1, e1, e2, ← Int.neg_mul]; exact own_G2 q2
theorem own_divE {x y : UInt64} {a m k : Int} (hx : DV x (a * G)) (hy : DV y (m * G)) (hm : 0 < m) (hk : k.natAbs < 2 ^ 53) (h : a * 256 = k * m) : DV (Core.ddiv x y) (k * G) := by
  obtain ⟨V, v1, v2, v3⟩ := own_VG k hk
  obtain ⟨h1, h2, -⟩ := own_divG hx hy hm
  obtain ⟨a1, a2⟩ := h2 V v1 (own_finN v2) k v3
  have e := Int.le_antisymm (a1 (Int.le_of_eq h)) (a2 (Int.le_of_eq h.symm))
  exact ⟨own_finz h1.nn v1 v2 (by rw [own_zmag, own_zmag, e, v3]; exact Nat.le_refl _), e⟩
theorem own_addE {x y : UInt64} {X Y k : Int} (hx : DV x X) (hy : DV y Y) (hk : k.natAbs < 2 ^ 53) (h : X + Y = k * G) : DV (Core.dadd x y) (k * G) := by
  have r := own_add hx hy
  exact r.exact (by decide) (Int.le_refl _) hk (by rw [own_U1, Int.mul_one, h]; exact (Int.mul_one _).symm)
theorem own_subE {x y : UInt64} {X Y k : Int} (hx : DV x X) (hy : DV y Y) (hk : k.natAbs < 2 ^ 53) (h : X - Y = k * G) : DV (Core.dsub x y) (k * G) := by
  rw [dsub_eq]; exact own_addE hx (own_neg hy) hk (by omega)
end Jvm.OwnF
namespace Jvm.OwnF
open Jvm.FP Jvm.FP.Core
/-! relativeLength: (1 - b) + (b * l) / avg with b = j / 16 (own text). -/
theorem own_m1 (a g l : Int) : a * g * (l * 256 * g) = a * l * g * (256 * g) := by ac_rfl
theorem own_jl {j l : Int} (h0 : 0 ≤ j) (h1 : j ≤ 16) (hl : l.natAbs ≤ 2147483648) : (16 * j * l).natAbs ≤ 549755813888 := by
  rw [Int.natAbs_mul]
  have := Nat.mul_le_mul (show (16 * j).natAbs ≤ 256 by omega) hl
  omega
def Rel (j : Int) (m : Int) (l : Int) (b u p x r : UInt64) (zx zr : Int) : Prop :=
  DV b (16 * j * G) ∧ DV u ((256 - 16 * j) * G) ∧ DV p (16 * j * l * G) ∧ DV x zx ∧ DV r zr ∧ RR (val64 x) (16 * j * l * G) (m * G).natAbs 0 ∧ RR (val64 r) ((256 - 16 * j) * G + zx) 1 b64.qmin ∧ (j = 0 → zr = 256 * G) ∧ (j = 16 → zr = zx) ∧ (0 ≤ l → (256 - 16 * j) * G ≤ zr) ∧ (l * 256 ≤ m → zr ≤ 256 * G) ∧ (m ≤ l * 256 → 256 * G ≤ zr)
theorem Rel.hb {j m l : Int} {b u p x r : UInt64} {zx zr : Int} (h : Rel j m l b u p x r zx zr) : DV b (16 * j * G) := h.1
theorem Rel.hu {j m l : Int} {b u p x r : UInt64} {zx zr : Int} (h : Rel j m l b u p x r zx zr) : DV u ((256 - 16 * j) * G) := h.2.1
theorem Rel.hp {j m l : Int} {b u p x r : UInt64} {zx zr : Int} (h : Rel j m l b u p x r zx zr) : DV p (16 * j * l * G) := h.2.2.1
theorem Rel.hx {j m l : Int} {b u p x r : UInt64} {zx zr : Int} (h : Rel j m l b u p x r zx zr) : DV x zx := h.2.2.2.1
theorem Rel.hr {j m l : Int} {b u p x r : UInt64} {zx zr : Int} (h : Rel j m l b u p x r zx zr) : DV r zr := h.2.2.2.2.1
theorem Rel.rx {j m l : Int} {b u p x r : UInt64} {zx zr : Int} (h : Rel j m l b u p x r zx zr) : RR (val64 x) (16 * j * l * G) (m * G).natAbs 0 := h.2.2.2.2.2.1
theorem Rel.rr {j m l : Int} {b u p x r : UInt64} {zx zr : Int} (h : Rel j m l b u p x r zx zr) : RR (val64 r) ((256 - 16 * j) * G + zx) 1 b64.qmin := h.2.2.2.2.2.2.1
theorem Rel.j0 {j m l : Int} {b u p x r : UInt64} {zx zr : Int} (h : Rel j m l b u p x r zx zr) : (j = 0 → zr = 256 * G) := h.2.2.2.2.2.2.2.1
theorem Rel.j16 {j m l : Int} {b u p x r : UInt64} {zx zr : Int} (h : Rel j m l b u p x r zx zr) : (j = 16 → zr = zx) := h.2.2.2.2.2.2.2.2.1
theorem Rel.lo {j m l : Int} {b u p x r : UInt64} {zx zr : Int} (h : Rel j m l b u p x r zx zr) : (0 ≤ l → (256 - 16 * j) * G ≤ zr) := h.2.2.2.2.2.2.2.2.2.1
theorem Rel.le {j m l : Int} {b u p x r : UInt64} {zx zr : Int} (h : Rel j m l b u p x r zx zr) : (l * 256 ≤ m → zr ≤ 256 * G) := h.2.2.2.2.2.2.2.2.2.2.1
theorem Rel.ge {j m l : Int} {b u p x r : UInt64} {zx zr : Int} (h : Rel j m l b u p x r zx zr) : (m ≤ l * 256 → 256 * G ≤ zr) := h.2.2.2.2.2.2.2.2.2.2.2
theorem own_zero (z : Int) (h1 : z ≤ 0 * G) (h2 : 0 * G ≤ z) : z = 0 := by rw [Int.zero_mul] at h1 h2; omega
theorem own_rel {j l : Int32} {avg : UInt64} {m : Int} (h0 : 0 ≤ j.toInt) (h1 : j.toInt ≤ 16) (hm : 0 < m) (ha : DV avg (m * G)) :
    ∃ zx zr, Rel j.toInt m l.toInt (Core.ddiv (Core.i2d j) 4625196817309499392) (Core.dsub Core.dconst1 (Core.ddiv (Core.i2d j) 4625196817309499392)) (Core.dmul (Core.ddiv (Core.i2d j) 4625196817309499392) (Core.i2d l)) (Core.ddiv (Core.dmul (Core.ddiv (Core.i2d j) 4625196817309499392) (Core.i2d l)) avg)
      (Core.dadd (Core.dsub Core.dconst1 (Core.ddiv (Core.i2d j) 4625196817309499392)) (Core.ddiv (Core.dmul (Core.ddiv (Core.i2d j) 4625196817309499392) (Core.i2d l)) avg)) zx zr := by
  have hb : DV (Core.ddiv (Core.i2d j) 4625196817309499392) (16 * j.toInt * G) := own_divE (own_i2d j) own_c16 (by decide) (by omega) (by omega)
  have hl : DV (Core.i2d l) (l.toInt * 256 * G) := own_i2d l
  have lb : l.toInt.natAbs ≤ 2147483648 := by have := l.le_toInt; have := l.toInt_lt; omega
  generalize Core.ddiv (Core.i2d j) 4625196817309499392 = b at *
  generalize Core.i2d l = ld at *
  generalize j.toInt = J at *
  generalize l.toInt = L at *
  have jl := own_jl h0 h1 lb
  have hu : DV (Core.dsub Core.dconst1 b) ((256 - 16 * J) * G) := own_subE own_c1 hb (by omega) (Int.sub_mul ..).symm
  have hp : DV (Core.dmul b ld) (16 * J * L * G) := own_mul hb hl (by omega) (own_m1 ..)
  generalize Core.dsub Core.dconst1 b = u at *
  generalize Core.dmul b ld = p at *
  obtain ⟨rx, bx, fx⟩ := own_divG hp ha hm
  obtain ⟨f1, f2, f3⟩ := fx 281474976710656 (by omega) (by omega) (by omega)
  generalize Core.ddiv p avg = x at *
  obtain ⟨zx, hzx⟩ : ∃ z, z = zval b64 (val64 x) := ⟨_, rfl⟩
  have hx : DV x zx := ⟨f1, hzx.symm⟩
  have rr := own_add hu hx
  rw [← hzx] at bx f2 f3
  have g1 : (256 - 16 * J) * G ≤ 281474976710656 * G := own_GG (by omega)
  have g2 : 0 * G ≤ (256 - 16 * J) * G := own_GG (by omega)
  have g3 : 0 * G ≤ 281474976710656 * G := own_GG (by omega)
  have e3 : (256 - 16 * J) * G = 256 * G - 16 * J * G := Int.sub_mul ..
  rw [Int.zero_mul] at g2 g3
  have fr := rr.fin (by decide) (Int.le_refl _) (K := 562949953421312) (by omega) (by rw [own_U1]; generalize G = g at *; generalize (256 - 16 * J) * g = w at *; omega) (by rw [own_U1]; generalize G = g at *; generalize (256 - 16 * J) * g = w at *; omega)
  obtain ⟨fr1, -, -⟩ := fr
  generalize Core.dadd u x = r at *
  obtain ⟨zr, hzr⟩ : ∃ z, z = zval b64 (val64 r) := ⟨_, rfl⟩
  have hr : DV r zr := ⟨fr1, hzr.symm⟩
  have rle : ∀ (w : UInt64) (z : Int), DV w z → (256 - 16 * J) * G + zx ≤ z → zr ≤ z := fun w z hw hz => by
    have q := rr.le (by decide) (Int.le_refl _) (val64_fits w) hw.nn (by rw [own_U1, Int.mul_one, hw.2]; show _ ≤ z * 1; rw [Int.mul_one]; exact hz)
    rw [hw.2, ← hzr] at q; exact q
  have rge : ∀ (w : UInt64) (z : Int), DV w z → z ≤ (256 - 16 * J) * G + zx → z ≤ zr := fun w z hw hz => by
    have q := rr.ge (by decide) (Int.le_refl _) (val64_fits w) hw.nn (by rw [own_U1, Int.mul_one, hw.2]; show z * 1 ≤ _; rw [Int.mul_one]; exact hz)
    rw [hw.2, ← hzr] at q; exact q
  have bz := bx (val64 Core.dconst0) (val64_fits _) own_c0.nn 0 own_c0.2
  have bb := bx (val64 b) (val64_fits _) hb.nn (16 * J) hb.2
  refine ⟨zx, zr, hb, hu, hp, hx, hr, rx, rr, fun q => ?_, fun q => ?_, fun q => ?_, fun q => ?_, fun q => ?_⟩
  · have z0 := own_zero zx (bz.1 (by rw [q]; simp)) (bz.2 (by rw [q]; simp))
    have e : (256 - 16 * J) * G + zx = 256 * G := by rw [z0, q]; simp
    exact Int.le_antisymm (rle _ _ own_c1 (Int.le_of_eq e)) (rge _ _ own_c1 (Int.le_of_eq e.symm))
  · have e : (256 - 16 * J) * G + zx = zx := by rw [q]; simp
    exact Int.le_antisymm (rle _ _ hx (Int.le_of_eq e)) (rge _ _ hx (Int.le_of_eq e.symm))
  · refine rge _ _ hu ?_
    have z0 := bz.2 (by rw [Int.zero_mul]; have := Int.mul_nonneg (show 0 ≤ 16 * J by omega) q; omega)
    rw [Int.zero_mul] at z0
    omega
  · refine rle _ _ own_c1 ?_
    have z0 := bb.1 (by rw [Int.mul_assoc]; exact Int.mul_le_mul_of_nonneg_left q (by omega))
    rw [e3]
    omega
  · refine rge _ _ own_c1 ?_
    have z0 := bb.2 (by rw [Int.mul_assoc _ L]; exact Int.mul_le_mul_of_nonneg_left q (by omega))
    rw [e3]
    omega
theorem Rel.mono {j m l l' : Int} {b u p p' x x' r r' : UInt64} {zx zx' zr zr' : Int} (hm : 0 < m) (h0 : 0 ≤ j) (h : Rel j m l b u p x r zx zr) (h' : Rel j m l' b u p' x' r' zx' zr') (hl : l ≤ l') : zr ≤ zr' := by
  have e1 : 16 * j * l * G ≤ 16 * j * l' * G := own_GG (Int.mul_le_mul_of_nonneg_left hl (by omega))
  have q1 := h.rx.mono h'.rx (own_nG hm).2 (by decide) h.hx.1 h'.hx.1 e1
  rw [h.hx.2, h'.hx.2] at q1
  have q2 := h.rr.mono h'.rr (by decide) (Int.le_refl _) h.hr.1 h'.hr.1 (by omega)
  rw [h.hr.2, h'.hr.2] at q2
  exact q2
/-- l/avg itself, for b = 1 -/
theorem own_self {j m : Int} {l : Int32} {avg b u p x r : UInt64} {zx zr : Int} (hj : j = 16) (hm : 0 < m) (ha : DV avg (m * G)) (h : Rel j m l.toInt b u p x r zx zr) : DV (Core.ddiv (Core.i2d l) avg) zr := by
  subst hj
  have hl : DV (Core.i2d l) (l.toInt * 256 * G) := own_i2d l
  have lb : l.toInt.natAbs ≤ 2147483648 := by have := l.le_toInt; have := l.toInt_lt; omega
  obtain ⟨rx, bx, fx⟩ := own_divG hl ha hm
  generalize l.toInt = L at *
  obtain ⟨f1, f2, f3⟩ := fx 281474976710656 (by omega) (by omega) (by omega)
  refine ⟨f1, ?_⟩
  rw [h.j16 rfl, ← h.hx.2]
  have e : L * 256 * G = 16 * 16 * L * G := by rw [Int.mul_comm L 256]; rfl
  exact Int.le_antisymm (rx.mono h.rx (own_nG hm).2 (by decide) f1 h.hx.1 (Int.le_of_eq e)) (h.rx.mono rx (own_nG hm).2 (by decide) h.hx.1 f1 (Int.le_of_eq e.symm))
theorem own_dlt {a b : UInt64} {x y : Int} (ha : DV a x) (hb : DV b y) (h : x < y) : Core.dcmp a b = some .lt := own_lt ha.nn hb.nn (by rw [ha.2, hb.2]; exact h)
theorem own_deq {a b : UInt64} {x y : Int} (ha : DV a x) (hb : DV b y) (h : x = y) : Core.dcmp a b = some .eq := Jvm.OwnF.own_eq ha.nn hb.nn (by rw [ha.2, hb.2]; exact h)
theorem own_dgt {a b : UInt64} {x y : Int} (ha : DV a x) (hb : DV b y) (h : y < x) : Core.dcmp a b = some .gt := by
  rw [own_cmp ha.nn hb.nn, ha.2, hb.2]; congr 1; exact Int.compare_eq_gt.mpr h
theorem own_dle {a b : UInt64} {x y : Int} (ha : DV a x) (hb : DV b y) (h : x ≤ y) : Core.dcmp a b = some .lt ∨ Core.dcmp a b = some .eq := by
  rcases Int.lt_or_eq_of_le h with h | h
  · exact Or.inl (own_dlt ha hb h)
  · exact Or.inr (own_deq ha hb h)
theorem own_dge {a b : UInt64} {x y : Int} (ha : DV a x) (hb : DV b y) (h : y ≤ x) : Core.dcmp a b = some .gt ∨ Core.dcmp a b = some .eq := by
  rcases Int.lt_or_eq_of_le h with h | h
  · exact Or.inl (own_dgt ha hb h)
  · exact Or.inr (own_deq ha hb h.symm)
theorem own_Glt {a b : Int} (h : a < b) : a * G < b * G := Int.mul_lt_mul_of_pos_right h G_pos
end Jvm.OwnF
namespace Jvm.Pilot.@@N@@
open Jvm Jvm.ClassFile Sem Op Lib Jvm.Free Jvm.Stand Jvm.LawKit Jvm.RoadKit Bundle Jvm.OwnW Jvm.Pilot.@@N@@.Jvm.D
theorem own_pn0 : plainName "java/lang/Record" = true := by first | (simp [plainName, overriddenIn]; done) | decide +kernel
theorem own_pn1 : plainName "com/example/lilybank/lilybank/retrieval/LengthNormalisation" = true := by first | (simp [plainName, overriddenIn]; done) | decide +kernel
theorem own_pn2 : plainName "com/example/lilybank/lilybank/retrieval/LengthNormalisationRelativeLengthPinLaw" = true := by first | (simp [plainName, overriddenIn]; done) | decide +kernel
theorem own_pd0 : parseMethodDescriptor "()V" = some ⟨[], none⟩ := by decide +kernel
theorem own_pd1 : parseMethodDescriptor "(DD)V" = some ⟨[.double, .double], none⟩ := by decide +kernel
theorem own_pd2 : parseMethodDescriptor "(ID)D" = some ⟨[.int, .double], some .double⟩ := by decide +kernel
/-- a String that spells bs (its bytes) -/
def Str (Z : State) (h : Heap) (a : Addr) (bs : List Int32) : Prop := Exa Z h a "java/lang/String" ∧ Fld Z h a "java/lang/String" "coder" "B" (.int 0) ∧ ∃ (b : Addr) (kb : ClassId) (z : Int32), Fld Z h a "java/lang/String" "value" "[B" (.ref b) ∧ Arv Z h b kb .byte z (bs.map Value.int) (.int 0) ∧ z.toNatClampNeg = bs.length
theorem Str.ext {Z : State} {h h' : Heap} {a : Addr} {bs : List Int32} (F : Str Z h a bs) (E : Ext h h') : Str Z h' a bs := by
  obtain ⟨f1, f2, b, kb, z, f3, f4, f5⟩ := F
  exact ⟨f1.ext E, f2.ext E, b, kb, z, f3.ext E, f4.ext E, f5⟩
theorem Str.lt {Z : State} {h : Heap} {a : Addr} {bs : List Int32} (F : Str Z h a bs) : a < h.size := F.1.lt
theorem own_fld_inj {Z : State} {h : Heap} {a : Addr} {C n d : String} {v w : Value} (F : Fld Z h a C n d v) (G : Fld Z h a C n d w) : v = w := by
  obtain ⟨c1, cf1, k1, i1, f1, e1, e2, -, -, -, -, e7⟩ := F
  obtain ⟨c2, cf2, k2, i2, f2, g1, g2, -, -, -, -, g7⟩ := G
  cases e1.symm.trans g1
  cases e2.symm.trans g2
  exact Option.some.inj (e7.symm.trans g7)
theorem own_arv_inj {Z : State} {h : Heap} {a : Addr} {k k' : ClassId} {ty : FieldType} {z z' : Int32} {vs ws : List Value} {d : Value} (F : Arv Z h a k ty z vs d) (G : Arv Z h a k' ty z' ws d) (hv : z.toNatClampNeg = vs.length) (hw : z'.toNatClampNeg = ws.length) : vs = ws := by
  obtain ⟨c1, A1, -, s1, -, H1, -⟩ := F
  obtain ⟨c2, A2, -, s2, -, H2, -⟩ := G
  cases A1.1.symm.trans A2.1
  have e : vs.length = ws.length := by omega
  refine List.ext_getElem e fun i h1 h2 => ?_
  have q1 := H1 i (by omega)
  have q2 := H2 i (by omega)
  have q := q1.symm.trans q2
  simpa [List.getD_eq_getElem?_getD, h1, h2] using q
theorem own_map_inj {bs ds : List Int32} (h : bs.map Value.int = ds.map Value.int) : bs = ds :=
  (List.map_inj_right (fun x y e => by injection e)).mp h
theorem Str.inj {Z : State} {h : Heap} {a : Addr} {bs ds : List Int32} (F : Str Z h a bs) (G : Str Z h a ds) : bs = ds := by
  obtain ⟨-, -, b, kb, z, f3, f4, f5⟩ := F
  obtain ⟨-, -, b', kb', z', g3, g4, g5⟩ := G
  have e := own_fld_inj f3 g3
  injection e with e
  subst e
  exact own_map_inj (own_arv_inj f4 g4 (by simpa using f5) (by simpa using g5))
theorem own_n32 {k : Nat} (h : k < 2147483648) : (Int32.ofNat k).toInt = k := by
  rw [Int32.toInt_ofNat', show Int32.size = 4294967296 from rfl]; simp only [Int.bmod]; omega
theorem own_cat {d : Value} (h : d.isRef = true) : d.category = 1 := by rcases ref_cases h with rfl | ⟨a, rfl⟩ <;> rfl
theorem own_ne_t {x y : Value} (h : x ≠ y) : XT.acmp .ne x y = true := decide_eq_true h
theorem own_ne_f {x y : Value} (h : x = y) : XT.acmp .ne x y = false := decide_eq_false (fun q => q h)
theorem own_eq_t {x y : Value} (h : x = y) : XT.acmp .eq x y = true := decide_eq_true h
theorem own_eq_f {x y : Value} (h : x ≠ y) : XT.acmp .eq x y = false := decide_eq_false h
theorem own_clamp {k : Nat} (h : k < 2147483648) : (Int32.ofNat k).toNatClampNeg = k := by
  simp only [Int32.toNatClampNeg, own_n32 h]; rfl
theorem own_z {z : Int32} (h0 : ¬ z < 0) : z = Int32.ofNat z.toNatClampNeg ∧ z.toNatClampNeg < 2147483648 := by
  have q := back32 h0
  exact ⟨q.1.symm, q.2⟩
theorem own_ltN {k m : Nat} (hk : k < 2147483648) (hm : m < 2147483648) : (Int32.ofNat k < Int32.ofNat m) ↔ k < m := by
  rw [Int32.lt_iff_toInt_lt, own_n32 hk, own_n32 hm]; omega
theorem own_nn {k : Nat} (hk : k < 2147483648) : ¬ (Int32.ofNat k < 0) := by
  rw [Int32.lt_iff_toInt_lt, own_n32 hk]
  have e0 : (0 : Int32).toInt = 0 := rfl
  omega
theorem own_inc {k : Nat} (hk : k + 1 < 2147483648) : Int32.ofNat k + Int32.ofInt 1 = Int32.ofNat (k + 1) := by
  rw [← Int32.toInt_inj, Int32.toInt_add, own_n32 (by omega), own_n32 hk]
  have e0 : (Int32.ofInt 1).toInt = 1 := rfl
  rw [e0]; simp only [Int.bmod]; omega

open Jvm.OwnF
theorem own_nn64 {x : UInt64} (h : Jvm.FP.Core.val64 x ≠ .nan) : Jvm.Free.Fl.NoNaN64 x := Jvm.Free.Fl.val64_no.mpr h
theorem own_d1 : DV FP.dconst1 (256 * G) := own_c1
theorem own_d0 : DV FP.dconst0 (0 * G) := own_c0
theorem own_di (l : Int32) : DV (FP.i2d l) (l.toInt * 256 * G) := own_i2d l
abbrev rl_b (j : Int32) : UInt64 := FP.ddiv (FP.i2d j) 4625196817309499392
abbrev rl_u (j : Int32) : UInt64 := FP.dsub FP.dconst1 (rl_b j)
abbrev rl_p (j l : Int32) : UInt64 := FP.dmul (rl_b j) (FP.i2d l)
abbrev rl_x (j l : Int32) (avg : UInt64) : UInt64 := FP.ddiv (rl_p j l) avg
abbrev rl_r (j l : Int32) (avg : UInt64) : UInt64 := FP.dadd (rl_u j) (rl_x j l avg)
theorem own_relF {j l : Int32} {avg : UInt64} {m : Int} (h0 : 0 ≤ j.toInt) (h1 : j.toInt ≤ 16) (hm : 0 < m) (ha : DV avg (m * G)) : ∃ zx zr, Rel j.toInt m l.toInt (rl_b j) (rl_u j) (rl_p j l) (rl_x j l avg) (rl_r j l avg) zx zr := own_rel h0 h1 hm ha
theorem own_bF {j : Int32} (h0 : 0 ≤ j.toInt) (h1 : j.toInt ≤ 16) : DV (rl_b j) (16 * j.toInt * G) := own_divE (own_i2d j) own_c16 (by decide) (by omega) (by omega)
theorem own_aF {a : Int32} (h0 : 1 ≤ a.toInt) (h1 : a.toInt ≤ 1048576) : DV (FP.ddiv (FP.i2d a) 4643211215818981376) (a.toInt * G) := own_divE (own_i2d a) own_c256 (by decide) (by omega) (by omega)
theorem own_selfF {j m : Int} {l : Int32} {avg b u p x r : UInt64} {zx zr : Int} (hj : j = 16) (hm : 0 < m) (ha : DV avg (m * G)) (h : Rel j m l.toInt b u p x r zx zr) : DV (FP.ddiv (FP.i2d l) avg) zr := own_self hj hm ha h
theorem own_feq {a b : UInt64} {x y : Int} (ha : DV a x) (hb : DV b y) (h : x = y) : FP.dcmp a b = some .eq := own_deq ha hb h
theorem own_flt {a b : UInt64} {x y : Int} (ha : DV a x) (hb : DV b y) (h : x < y) : FP.dcmp a b = some .lt := own_dlt ha hb h
theorem own_fgt {a b : UInt64} {x y : Int} (ha : DV a x) (hb : DV b y) (h : y < x) : FP.dcmp a b = some .gt := own_dgt ha hb h
theorem own_cle {a b : UInt64} {x y : Int} (ha : DV a x) (hb : DV b y) (h : x ≤ y) : ¬ 0 < cmpValue (FP.dcmp a b) .g := by
  rcases own_dle ha hb h with e | e <;> rw [show FP.dcmp a b = _ from e] <;> decide
theorem own_cge {a b : UInt64} {x y : Int} (ha : DV a x) (hb : DV b y) (h : y ≤ x) : ¬ cmpValue (FP.dcmp a b) .l < 0 := by
  rcases own_dge ha hb h with e | e <;> rw [show FP.dcmp a b = _ from e] <;> decide
theorem own_cin {a : UInt64} {x : Int} (ha : DV a x) : cmpValue (FP.dcmp a 9218868437227405312) .g < 0 := by
  rw [show FP.dcmp a 9218868437227405312 = _ from own_ltinf ha]; decide
theorem own_jr (i : Int32) : 0 ≤ ((i &&& 31) % 17).toInt ∧ ((i &&& 31) % 17).toInt ≤ 16 := by
  rw [Int32.toInt_mod, c_mask i 31 5 (by decide) (by decide), show (17 : Int32).toInt = 17 from rfl]
  have h0 : 0 ≤ i.toInt % (2 ^ 5 : Nat) := by omega
  rw [Int.tmod_eq_emod_of_nonneg h0]
  omega
theorem own_amr (a : Int32) : 1 ≤ ((a &&& 1048575) + 1).toInt ∧ ((a &&& 1048575) + 1).toInt ≤ 1048576 := by
  rw [Int32.toInt_add, c_mask a 1048575 20 (by decide) (by decide), show (1 : Int32).toInt = 1 from rfl]
  simp only [Int.bmod]
  omega
theorem own_kr (k : Int32) : 0 ≤ (k &&& 65535).toInt := by
  rw [c_mask k 65535 16 (by decide) (by decide)]; omega
theorem own_Ge {a b : Int} (h : a = b) : a * G = b * G := by rw [h]
theorem own_leI {x y : Int32} (h : ¬ y < x) : x.toInt ≤ y.toInt := by rw [Int32.lt_iff_toInt_lt] at h; omega
theorem own_nnI {x : Int32} (h : ¬ x < 0) : 0 ≤ x.toInt := own_leI h

theorem dRI_0 : decode jdk_30_method_1_code 0 = .ok (.aload_n 0, 1) := by decide +kernel
theorem dRI_1 : decode jdk_30_method_1_code 1 = .ok (.invokespecial 1, 3) := by decide +kernel
theorem dRI_4 : decode jdk_30_method_1_code 4 = .ok (.return_, 1) := by decide +kernel
set_option maxRecDepth 65536 in
set_option maxHeartbeats 40000000 in
theorem own_ri (l : Launch) (Z : State) (a0 : Array Value) (hw : ∀ d ∈ tables_1, d.before a0 Z = true) (EL : List (String × Nat)) (hEL : EW Z a0 EL) (h0 : Heap) (a : Addr) :
    Con l Z EL true [] (⟨"java/lang/Record", "<init>", "()V"⟩ : MethodName) jdk_30_method_1_code 1 none ({ frames := 1, cells := 0, slots := 0, locals := 12 } : Room) #[(.ref a)] h0 (fun v h' => v = none ∧ h0 = h') := by
  refine Con.of (Ls := #[.val (.ref a)]) (plainFor_of_name own_pn0) hEL (fun m => by first | (simp [entryFrame, mkF, argsToLocals, Value.category]; done) | rfl) ?_
  intro vm0 hZ0 hE0 hC0 hS0
  refine WP.aloadN (n := 1) dRI_0 rfl rfl rfl ?_
  refine WP.initO (n := 4) (Wd := 0) dRI_1 (hw _ (List.mem_of_getElem? (i := 14) rfl)) (hw _ (List.mem_of_getElem? (i := 15) rfl)) (hw _ (List.mem_of_getElem? (i := 16) rfl)) rfl (by decide) (Nat.le_of_eq rfl) (by decide) rfl ?_
  refine WP.retV dRI_4 rfl (by decide) (by decide) ?_
  exact ⟨rfl, rfl⟩
theorem dCI_0 : decode prog_38_method_1_code 0 = .ok (.aload_n 0, 1) := by decide +kernel
theorem dCI_1 : decode prog_38_method_1_code 1 = .ok (.invokespecial 1, 3) := by decide +kernel
theorem dCI_4 : decode prog_38_method_1_code 4 = .ok (.dload_n 1, 1) := by decide +kernel
theorem dCI_5 : decode prog_38_method_1_code 5 = .ok (.dconst 0, 1) := by decide +kernel
theorem dCI_6 : decode prog_38_method_1_code 6 = .ok (.dcmp .l, 1) := by decide +kernel
theorem dCI_7 : decode prog_38_method_1_code 7 = .ok (.ifCond .lt 11, 3) := by decide +kernel
theorem dCI_10 : decode prog_38_method_1_code 10 = .ok (.dload_n 1, 1) := by decide +kernel
theorem dCI_11 : decode prog_38_method_1_code 11 = .ok (.ldc2_w 9, 3) := by decide +kernel
theorem dCI_14 : decode prog_38_method_1_code 14 = .ok (.dcmp .g, 1) := by decide +kernel
theorem dCI_15 : decode prog_38_method_1_code 15 = .ok (.ifCond .lt 17, 3) := by decide +kernel
theorem dCI_18 : decode prog_38_method_1_code 18 = .ok (.new 11, 3) := by decide +kernel
theorem dCI_21 : decode prog_38_method_1_code 21 = .ok (.dup, 1) := by decide +kernel
theorem dCI_22 : decode prog_38_method_1_code 22 = .ok (.dload_n 1, 1) := by decide +kernel
theorem dCI_23 : decode prog_38_method_1_code 23 = .ok (.invokedynamic 13, 5) := by decide +kernel
theorem dCI_28 : decode prog_38_method_1_code 28 = .ok (.invokespecial 17, 3) := by decide +kernel
theorem dCI_31 : decode prog_38_method_1_code 31 = .ok (.athrow, 1) := by decide +kernel
theorem dCI_32 : decode prog_38_method_1_code 32 = .ok (.dload_n 3, 1) := by decide +kernel
theorem dCI_33 : decode prog_38_method_1_code 33 = .ok (.dconst 0, 1) := by decide +kernel
theorem dCI_34 : decode prog_38_method_1_code 34 = .ok (.dcmp .l, 1) := by decide +kernel
theorem dCI_35 : decode prog_38_method_1_code 35 = .ok (.ifCond .lt 9, 3) := by decide +kernel
theorem dCI_38 : decode prog_38_method_1_code 38 = .ok (.dload_n 3, 1) := by decide +kernel
theorem dCI_39 : decode prog_38_method_1_code 39 = .ok (.dconst 1, 1) := by decide +kernel
theorem dCI_40 : decode prog_38_method_1_code 40 = .ok (.dcmp .g, 1) := by decide +kernel
theorem dCI_41 : decode prog_38_method_1_code 41 = .ok (.ifCond .le 17, 3) := by decide +kernel
theorem dCI_44 : decode prog_38_method_1_code 44 = .ok (.new 11, 3) := by decide +kernel
theorem dCI_47 : decode prog_38_method_1_code 47 = .ok (.dup, 1) := by decide +kernel
theorem dCI_48 : decode prog_38_method_1_code 48 = .ok (.dload_n 3, 1) := by decide +kernel
theorem dCI_49 : decode prog_38_method_1_code 49 = .ok (.invokedynamic 20, 5) := by decide +kernel
theorem dCI_54 : decode prog_38_method_1_code 54 = .ok (.invokespecial 17, 3) := by decide +kernel
theorem dCI_57 : decode prog_38_method_1_code 57 = .ok (.athrow, 1) := by decide +kernel
theorem dCI_58 : decode prog_38_method_1_code 58 = .ok (.aload_n 0, 1) := by decide +kernel
theorem dCI_59 : decode prog_38_method_1_code 59 = .ok (.dload_n 1, 1) := by decide +kernel
theorem dCI_60 : decode prog_38_method_1_code 60 = .ok (.putfield 21, 3) := by decide +kernel
theorem dCI_63 : decode prog_38_method_1_code 63 = .ok (.aload_n 0, 1) := by decide +kernel
theorem dCI_64 : decode prog_38_method_1_code 64 = .ok (.dload_n 3, 1) := by decide +kernel
theorem dCI_65 : decode prog_38_method_1_code 65 = .ok (.putfield 27, 3) := by decide +kernel
theorem dCI_68 : decode prog_38_method_1_code 68 = .ok (.return_, 1) := by decide +kernel
set_option maxRecDepth 65536 in
set_option maxHeartbeats 40000000 in
theorem own_ci (l : Launch) (Z : State) (a0 : Array Value) (hw : ∀ d ∈ tables_1, d.before a0 Z = true) (EL : List (String × Nat)) (hEL : EW Z a0 EL) (h0 : Heap) (a : Addr) (k b : UInt64) (H1 : ¬ cmpValue (FP.dcmp k FP.dconst0) .l < 0) (H2 : cmpValue (FP.dcmp k (9218868437227405312 : UInt64)) .g < 0) (H3 : ¬ cmpValue (FP.dcmp b FP.dconst0) .l < 0) (H4 : ¬ 0 < cmpValue (FP.dcmp b FP.dconst1) .g) (hN : Z.heap.size ≤ a) (hA : Exa Z h0 a "com/example/lilybank/lilybank/retrieval/LengthNormalisation") (hD : Fld Z h0 a "com/example/lilybank/lilybank/retrieval/LengthNormalisation" "k1" "D" (.double 0)) (hT : Fld Z h0 a "com/example/lilybank/lilybank/retrieval/LengthNormalisation" "b" "D" (.double 0)) :
    Con l Z EL true [] (⟨"com/example/lilybank/lilybank/retrieval/LengthNormalisation", "<init>", "(DD)V"⟩ : MethodName) prog_38_method_1_code 5 none ({ frames := 2, cells := 0, slots := 0, locals := 30 } : Room) #[(.ref a), (.double k), (.double b)] h0 (fun v h' => v = none ∧ Keep h0 h' [a] ∧ Exa Z h' a "com/example/lilybank/lilybank/retrieval/LengthNormalisation" ∧ Fld Z h' a "com/example/lilybank/lilybank/retrieval/LengthNormalisation" "b" "D" (.double b)) := by
  refine Con.of (Ls := #[.val (.ref a), .val (.double k), .second, .val (.double b), .second]) (plainFor_of_name own_pn1) hEL (fun m => by first | (simp [entryFrame, mkF, argsToLocals, Value.category]; done) | rfl) ?_
  intro vm0 hZ0 hE0 hC0 hS0
  refine WP.aloadN (n := 1) dCI_0 rfl rfl rfl ?_
  refine WP.callP (n := 4) (ce' := 0) (sl' := 0) (Wd := 0) (a := a) (argsL := []) (rest := []) (own_ri l Z a0 hw EL hEL h0 a) dCI_1 rfl (hw _ (List.mem_of_getElem? (i := 9) rfl)) (hw _ (List.mem_of_getElem? (i := 10) rfl)) (hw _ (List.mem_of_getElem? (i := 12) rfl)) (hw _ (List.mem_of_getElem? (i := 13) rfl)) (by decide) (fun _ q => nomatch q) (by decide) (by decide) rfl rfl (by decide) (by decide) rfl rfl (lenOf own_pd0 rfl) rfl (Nat.le_of_eq rfl) rfl (fun v1 vm1 h1 q1 r1 => ?_)
  obtain ⟨rfl, rfl⟩ := q1
  refine WP.dloadN (n := 5) dCI_4 rfl rfl ?_
  refine WP.dconst0 (n := 6) (v := FP.dconst0) dCI_5 rfl rfl ?_
  refine WP.dcmp (n := 7) (v := (cmpValue (FP.dcmp k FP.dconst0) .l)) dCI_6 rfl rfl ?_
  refine WP.ifcN (n' := 10) dCI_7 ((if0 _ _).trans (flt H1).1) rfl ?_
  refine WP.dloadN (n := 11) dCI_10 rfl rfl ?_
  refine WP.ldcD (n := 14) (v := (9218868437227405312 : UInt64)) dCI_11 (hw _ (List.mem_of_getElem? (i := 17) rfl)) rfl ?_
  refine WP.dcmp (n := 15) (v := (cmpValue (FP.dcmp k (9218868437227405312 : UInt64)) .g)) dCI_14 rfl rfl ?_
  refine WP.ifcY (n := 32) dCI_15 ((if0 _ _).trans (tlt H2).1) (by decide) (by decide) ?_
  refine WP.dloadN (n := 33) dCI_32 rfl rfl ?_
  refine WP.dconst0 (n := 34) (v := FP.dconst0) dCI_33 rfl rfl ?_
  refine WP.dcmp (n := 35) (v := (cmpValue (FP.dcmp b FP.dconst0) .l)) dCI_34 rfl rfl ?_
  refine WP.ifcN (n' := 38) dCI_35 ((if0 _ _).trans (flt H3).1) rfl ?_
  refine WP.dloadN (n := 39) dCI_38 rfl rfl ?_
  refine WP.dconst1 (n := 40) (v := FP.dconst1) dCI_39 rfl rfl ?_
  refine WP.dcmp (n := 41) (v := (cmpValue (FP.dcmp b FP.dconst1) .g)) dCI_40 rfl rfl ?_
  refine WP.ifcY (n := 58) dCI_41 ((if0 _ _).trans (flt H4).2.2.2) (by decide) (by decide) ?_
  refine WP.aloadN (n := 59) dCI_58 rfl rfl rfl ?_
  refine WP.dloadN (n := 60) dCI_59 rfl rfl ?_
  refine WP.putFE (n := 63) (host := "") (ty := .double) dCI_60 (Or.inl (hw _ (List.mem_of_getElem? (i := 18) rfl))) Via.refl hD hA (Or.inr ⟨(hw _ (List.mem_of_getElem? (i := 19) rfl)), rfl, rfl⟩) (hw _ (List.mem_of_getElem? (i := 4) rfl)) (by decide) rfl rfl hN (by decide) rfl (fun h2 W2 r2 => ?_)
  have A2 := hA.wr W2
  have K2 := (Keep.refl h0 [a]).wr W2 (Or.inl (List.mem_cons_self ..))
  have F2_k1 := hD.same W2
  have F2_b := hT.other W2 (Or.inr (slot_ne (t := .double) (t' := .double) (Or.inr (hw _ (List.mem_of_getElem? (i := 21) rfl))) (Or.inr (hw _ (List.mem_of_getElem? (i := 19) rfl))) (by decide) (by decide) (by decide)))
  refine WP.aloadN (n := 64) dCI_63 rfl rfl rfl ?_
  refine WP.dloadN (n := 65) dCI_64 rfl rfl ?_
  refine WP.putFE (n := 68) (host := "") (ty := .double) dCI_65 (Or.inl (hw _ (List.mem_of_getElem? (i := 20) rfl))) Via.refl F2_b A2 (Or.inr ⟨(hw _ (List.mem_of_getElem? (i := 21) rfl)), rfl, rfl⟩) (hw _ (List.mem_of_getElem? (i := 4) rfl)) (by decide) rfl rfl hN (by decide) rfl (fun h3 W3 r3 => ?_)
  have A3 := A2.wr W3
  have K3 := K2.wr W3 (Or.inl (List.mem_cons_self ..))
  have F3_b := F2_b.same W3
  have F3_k1 := F2_k1.other W3 (Or.inr (slot_ne (t := .double) (t' := .double) (Or.inr (hw _ (List.mem_of_getElem? (i := 19) rfl))) (Or.inr (hw _ (List.mem_of_getElem? (i := 21) rfl))) (by decide) (by decide) (by decide)))
  refine WP.retV dCI_68 rfl (by decide) (by decide) ?_
  exact ⟨rfl, K3, A3, F3_b⟩
theorem dRL_0 : decode prog_38_method_2_code 0 = .ok (.dconst 1, 1) := by decide +kernel
theorem dRL_1 : decode prog_38_method_2_code 1 = .ok (.aload_n 0, 1) := by decide +kernel
theorem dRL_2 : decode prog_38_method_2_code 2 = .ok (.getfield 27, 3) := by decide +kernel
theorem dRL_5 : decode prog_38_method_2_code 5 = .ok (.dsub, 1) := by decide +kernel
theorem dRL_6 : decode prog_38_method_2_code 6 = .ok (.aload_n 0, 1) := by decide +kernel
theorem dRL_7 : decode prog_38_method_2_code 7 = .ok (.getfield 27, 3) := by decide +kernel
theorem dRL_10 : decode prog_38_method_2_code 10 = .ok (.iload_n 1, 1) := by decide +kernel
theorem dRL_11 : decode prog_38_method_2_code 11 = .ok (.i2d, 1) := by decide +kernel
theorem dRL_12 : decode prog_38_method_2_code 12 = .ok (.dmul, 1) := by decide +kernel
theorem dRL_13 : decode prog_38_method_2_code 13 = .ok (.dload_n 2, 1) := by decide +kernel
theorem dRL_14 : decode prog_38_method_2_code 14 = .ok (.ddiv, 1) := by decide +kernel
theorem dRL_15 : decode prog_38_method_2_code 15 = .ok (.dadd, 1) := by decide +kernel
theorem dRL_16 : decode prog_38_method_2_code 16 = .ok (.dreturn, 1) := by decide +kernel
set_option maxRecDepth 65536 in
set_option maxHeartbeats 40000000 in
theorem own_rl (l : Launch) (Z : State) (a0 : Array Value) (hw : ∀ d ∈ tables_1, d.before a0 Z = true) (EL : List (String × Nat)) (hEL : EW Z a0 EL) (h0 : Heap) (a : Addr) (b avg : UInt64) (i : Int32) (B : Fld Z h0 a "com/example/lilybank/lilybank/retrieval/LengthNormalisation" "b" "D" (.double b)) (n1 : Jvm.Free.Fl.NoNaN64 (FP.dsub FP.dconst1 b)) (n2 : Jvm.Free.Fl.NoNaN64 (FP.dmul b (FP.i2d i))) (n3 : Jvm.Free.Fl.NoNaN64 (FP.ddiv (FP.dmul b (FP.i2d i)) avg)) (n4 : Jvm.Free.Fl.NoNaN64 (FP.dadd (FP.dsub FP.dconst1 b) (FP.ddiv (FP.dmul b (FP.i2d i)) avg))) :
    Con l Z EL true [] (⟨"com/example/lilybank/lilybank/retrieval/LengthNormalisation", "relativeLength", "(ID)D"⟩ : MethodName) prog_38_method_2_code 4 (some .double) ({ frames := 0, cells := 0, slots := 0, locals := 0 } : Room) #[(.ref a), (.int i), (.double avg)] h0 (fun v h' => v = some (.double (FP.dadd (FP.dsub FP.dconst1 b) (FP.ddiv (FP.dmul b (FP.i2d i)) avg))) ∧ h0 = h') := by
  refine Con.of (Ls := #[.val (.ref a), .val (.int i), .val (.double avg), .second]) (plainFor_of_name own_pn1) hEL (fun m => by first | (simp [entryFrame, mkF, argsToLocals, Value.category]; done) | rfl) ?_
  intro vm0 hZ0 hE0 hC0 hS0
  refine WP.dconst1 (n := 1) (v := FP.dconst1) dRL_0 rfl rfl ?_
  refine WP.aloadN (n := 2) dRL_1 rfl rfl rfl ?_
  refine WP.getF (n := 5) (host := "") dRL_2 (Or.inl (hw _ (List.mem_of_getElem? (i := 20) rfl))) Via.refl B rfl ?_
  refine WP.dsub (n := 6) dRL_5 n1 rfl ?_
  refine WP.aloadN (n := 7) dRL_6 rfl rfl rfl ?_
  refine WP.getF (n := 10) (host := "") dRL_7 (Or.inl (hw _ (List.mem_of_getElem? (i := 20) rfl))) Via.refl B rfl ?_
  refine WP.iloadN (n := 11) dRL_10 rfl rfl ?_
  refine WP.i2d (n := 12) dRL_11  rfl ?_
  refine WP.dmul (n := 13) dRL_12 n2 rfl ?_
  refine WP.dloadN (n := 14) dRL_13 rfl rfl ?_
  refine WP.ddiv (n := 15) dRL_14 n3 rfl ?_
  refine WP.dadd (n := 16) dRL_15 n4 rfl ?_
  exact WP.retD dRL_16 rfl (by decide) (by decide) ⟨rfl, rfl⟩
set_option maxRecDepth 65536 in
set_option maxHeartbeats 40000000 in
theorem own_law (l : Launch) (Z : State) (a0 : Array Value) (hw : ∀ d ∈ tables_1, d.before a0 Z = true) (EL : List (String × Nat)) (hEL : EW Z a0 EL) (h0 : Heap) (i0 i1 i2 i3 i4 i5 : Int32) :
    Con l Z EL true [] x code maxLocals ret room_1 #[(.int i0), (.int i1), (.int i2), (.int i3), (.int i4), (.int i5)] h0 (fun v h' => v = some (.int 1)) := by
  refine Con.of (Ls := #[.val (.int i0), .val (.int i1), .val (.int i2), .val (.int i3), .val (.int i4), .val (.int i5), .unset, .unset, .unset, .unset, .unset, .unset, .unset, .unset, .unset, .unset, .unset, .unset, .unset, .unset, .unset, .unset, .unset, .unset]) (plainFor_of_name own_pn2) hEL (fun m => by first | (simp [entryFrame, mkF, argsToLocals, Value.category, maxLocals]; done) | rfl) ?_
  intro vm0 hZ0 hE0 hC0 hS0
  show WP l Z EL true "com/example/lilybank/lilybank/retrieval/LengthNormalisationRelativeLengthPinLaw" "law" "(IIIIII)Z" code maxLocals ret room_1 _ vm0 h0 0 0 0 _ _
  have main : ∀ (j am l1 : Int32) (avg : UInt64) (m : Int), 0 ≤ j.toInt → j.toInt ≤ 16 → 0 < m → DV avg (m * G) → WP l Z EL true "com/example/lilybank/lilybank/retrieval/LengthNormalisationRelativeLengthPinLaw" "law" "(IIIIII)Z" code maxLocals ret room_1 (fun v h' => v = some (.int 1)) vm0 h0 0 0 72 #[.val (.int i0), .val (.int i1), .val (.int i2), .val (.int i3), .val (.int i4), .val (.int i5), .val (.int j), .val (.double (rl_b j)), .second, .val (.double (FP.i2d (i0 &&& (65535 : Int32)))), .second, .val (.int am), .val (.double avg), .second, .val (.int l1), .unset, .unset, .unset, .unset, .unset, .unset, .unset, .unset, .unset] [] := by
    intro j am l1 avg m hj0 hj1 hm ha
    obtain ⟨zx1, zr1, R1⟩ := own_relF (l := l1) hj0 hj1 hm ha
    obtain ⟨zx2, zr2, R2⟩ := own_relF (l := i4) hj0 hj1 hm ha
    refine WP.iload (n := 74) at_72 rfl rfl ?_
    refine WP.istore (n := 76) (Ls' := #[.val (.int i0), .val (.int i1), .val (.int i2), .val (.int i3), .val (.int i4), .val (.int i5), .val (.int j), .val (.double (rl_b j)), .second, .val (.double (FP.i2d (i0 &&& (65535 : Int32)))), .second, .val (.int am), .val (.double avg), .second, .val (.int l1), .val (.int i4), .unset, .unset, .unset, .unset, .unset, .unset, .unset, .unset]) at_74 rfl rfl ?_
    refine WP.new (n := 79) (ce' := 1) (sl' := 2) at_76 (hw _ (List.mem_of_getElem? (i := 3) rfl)) (hw _ (List.mem_of_getElem? (i := 4) rfl)) (hw _ (List.mem_of_getElem? (i := 5) rfl)) rfl rfl (by decide) (by decide) rfl (fun a4 h4 g4 E4 A4 D4 S4 N4 r4 => ?_)
    refine WP.dup (n := 80) at_79 rfl rfl ?_
    refine WP.dload (n := 82) at_80 rfl rfl ?_
    refine WP.dload (n := 84) at_82 rfl rfl ?_
    refine WP.callP (n := 87) (ce' := 1) (sl' := 2) (Wd := 1) (a := a4) (argsL := [(.double (FP.i2d (i0 &&& (65535 : Int32)))), (.double (rl_b j))]) (rest := [(.ref a4)]) (own_ci l Z a0 hw EL hEL h4 a4 (FP.i2d (i0 &&& (65535 : Int32))) (rl_b j) (own_cge (own_di _) own_d0 (own_GG (by have := own_kr i0; omega))) (own_cin (own_di _)) (own_cge R1.hb own_d0 (own_GG (by omega))) (own_cle R1.hb own_d1 (own_GG (by omega))) N4 A4 (D4 (Or.inr (hw _ (List.mem_of_getElem? (i := 19) rfl))) (ty := .double) (by decide)) (D4 (Or.inr (hw _ (List.mem_of_getElem? (i := 21) rfl))) (ty := .double) (by decide))) at_84 rfl (hw _ (List.mem_of_getElem? (i := 6) rfl)) (hw _ (List.mem_of_getElem? (i := 7) rfl)) (hw _ (List.mem_of_getElem? (i := 5) rfl)) (hw _ (List.mem_of_getElem? (i := 8) rfl)) (by decide) (fun _ q => nomatch q) (by decide) (by decide) rfl rfl (by decide) (by decide) rfl rfl (lenOf own_pd1 rfl) rfl (Nat.le_of_eq rfl) rfl (fun v5 vm5 h5 q5 r5 => ?_)
    obtain ⟨rfl, K5, A5, F5⟩ := q5
    refine WP.astore (n := 89) (Ls' := #[.val (.int i0), .val (.int i1), .val (.int i2), .val (.int i3), .val (.int i4), .val (.int i5), .val (.int j), .val (.double (rl_b j)), .second, .val (.double (FP.i2d (i0 &&& (65535 : Int32)))), .second, .val (.int am), .val (.double avg), .second, .val (.int l1), .val (.int i4), .val (.ref a4), .unset, .unset, .unset, .unset, .unset, .unset, .unset]) at_87 rfl rfl rfl ?_
    refine WP.aload (n := 91) at_89 rfl rfl rfl ?_
    refine WP.iload (n := 93) at_91 rfl rfl ?_
    refine WP.dload (n := 95) at_93 rfl rfl ?_
    refine WP.callV (n := 98) (ce' := 1) (sl' := 2) (Wd := 0) (a := a4) (argsL := [(.int l1), (.double avg)]) (rest := []) (own_rl l Z a0 hw EL hEL h5 a4 (rl_b j) avg l1 F5 (own_nn64 R1.hu.nn) (own_nn64 R1.hp.nn) (own_nn64 R1.hx.nn) (own_nn64 R1.hr.nn)) A5 at_95 (hw _ (List.mem_of_getElem? (i := 22) rfl)) (hw _ (List.mem_of_getElem? (i := 23) rfl)) (hw _ (List.mem_of_getElem? (i := 25) rfl)) (hw _ (List.mem_of_getElem? (i := 24) rfl)) (hw _ (List.mem_of_getElem? (i := 5) rfl)) (hw _ (List.mem_of_getElem? (i := 26) rfl)) (by decide) (fun _ hz => notFace_of_selects (args := #[]) (mvT hz (hw _ (List.mem_of_getElem? (i := 25) rfl)))) (fun _ q => nomatch q) (by decide) (by decide) rfl rfl (by decide) (by decide) rfl rfl (lenOf own_pd2 rfl) rfl (Nat.le_of_eq rfl) rfl (fun v6 vm6 h6 q6 r6 => ?_)
    obtain ⟨rfl, rfl⟩ := q6
    refine WP.dstore (n := 100) (Ls' := #[.val (.int i0), .val (.int i1), .val (.int i2), .val (.int i3), .val (.int i4), .val (.int i5), .val (.int j), .val (.double (rl_b j)), .second, .val (.double (FP.i2d (i0 &&& (65535 : Int32)))), .second, .val (.int am), .val (.double avg), .second, .val (.int l1), .val (.int i4), .val (.ref a4), .val (.double (rl_r j l1 avg)), .second, .unset, .unset, .unset, .unset, .unset]) at_98 rfl rfl ?_
    refine WP.aload (n := 102) at_100 rfl rfl rfl ?_
    refine WP.iload (n := 104) at_102 rfl rfl ?_
    refine WP.dload (n := 106) at_104 rfl rfl ?_
    refine WP.callV (n := 109) (ce' := 1) (sl' := 2) (Wd := 0) (a := a4) (argsL := [(.int i4), (.double avg)]) (rest := []) (own_rl l Z a0 hw EL hEL h5 a4 (rl_b j) avg i4 F5 (own_nn64 R2.hu.nn) (own_nn64 R2.hp.nn) (own_nn64 R2.hx.nn) (own_nn64 R2.hr.nn)) A5 at_106 (hw _ (List.mem_of_getElem? (i := 22) rfl)) (hw _ (List.mem_of_getElem? (i := 23) rfl)) (hw _ (List.mem_of_getElem? (i := 25) rfl)) (hw _ (List.mem_of_getElem? (i := 24) rfl)) (hw _ (List.mem_of_getElem? (i := 5) rfl)) (hw _ (List.mem_of_getElem? (i := 26) rfl)) (by decide) (fun _ hz => notFace_of_selects (args := #[]) (mvT hz (hw _ (List.mem_of_getElem? (i := 25) rfl)))) (fun _ q => nomatch q) (by decide) (by decide) rfl rfl (by decide) (by decide) rfl rfl (lenOf own_pd2 rfl) rfl (Nat.le_of_eq rfl) rfl (fun v7 vm7 h7 q7 r7 => ?_)
    obtain ⟨rfl, rfl⟩ := q7
    refine WP.dstore (n := 111) (Ls' := #[.val (.int i0), .val (.int i1), .val (.int i2), .val (.int i3), .val (.int i4), .val (.int i5), .val (.int j), .val (.double (rl_b j)), .second, .val (.double (FP.i2d (i0 &&& (65535 : Int32)))), .second, .val (.int am), .val (.double avg), .second, .val (.int l1), .val (.int i4), .val (.ref a4), .val (.double (rl_r j l1 avg)), .second, .val (.double (rl_r j i4 avg)), .second, .unset, .unset, .unset]) at_109 rfl rfl ?_
    refine WP.iconst (n := 112) (z := (1 : Int32)) at_111 rfl rfl ?_
    refine WP.istore (n := 114) (Ls' := #[.val (.int i0), .val (.int i1), .val (.int i2), .val (.int i3), .val (.int i4), .val (.int i5), .val (.int j), .val (.double (rl_b j)), .second, .val (.double (FP.i2d (i0 &&& (65535 : Int32)))), .second, .val (.int am), .val (.double avg), .second, .val (.int l1), .val (.int i4), .val (.ref a4), .val (.double (rl_r j l1 avg)), .second, .val (.double (rl_r j i4 avg)), .second, .val (.int (1 : Int32)), .unset, .unset]) at_112 rfl rfl ?_
    have k242 : WP l Z EL true "com/example/lilybank/lilybank/retrieval/LengthNormalisationRelativeLengthPinLaw" "law" "(IIIIII)Z" code maxLocals ret room_1 (fun v h' => v = some (.int 1)) vm7 h5 1 2 242 #[.val (.int i0), .val (.int i1), .val (.int i2), .val (.int i3), .val (.int i4), .val (.int i5), .val (.int j), .val (.double (rl_b j)), .second, .val (.double (FP.i2d (i0 &&& (65535 : Int32)))), .second, .val (.int am), .val (.double avg), .second, .val (.int l1), .val (.int i4), .val (.ref a4), .val (.double (rl_r j l1 avg)), .second, .val (.double (rl_r j i4 avg)), .second, .val (.int (1 : Int32)), .unset, .unset] [] := by
      refine WP.iload (n := 244) at_242 rfl rfl ?_
      by_cases hn : l1 < 0
      · refine WP.ifcY (n := 341) at_244 ((if0 _ _).trans (tlt hn).1) (by decide) (by decide) ?_
        refine WP.iload (n := 343) at_341 rfl rfl ?_
        exact WP.retN at_343 rfl (Or.inl rfl) (by decide : nar .boolean 1 = 1) (by decide) (by decide) rfl
      · refine WP.ifcN (n' := 247) at_244 ((if0 _ _).trans (flt hn).1) rfl ?_
        refine WP.iload (n := 249) at_247 rfl rfl ?_
        refine WP.i2d (n := 250) at_249  rfl ?_
        refine WP.dstore (n := 252) (Ls' := #[.val (.int i0), .val (.int i1), .val (.int i2), .val (.int i3), .val (.int i4), .val (.int i5), .val (.int j), .val (.double (rl_b j)), .second, .val (.double (FP.i2d (i0 &&& (65535 : Int32)))), .second, .val (.int am), .val (.double avg), .second, .val (.int l1), .val (.int i4), .val (.ref a4), .val (.double (rl_r j l1 avg)), .second, .val (.double (rl_r j i4 avg)), .second, .val (.int (1 : Int32)), .val (.double (FP.i2d l1)), .second]) at_250 rfl rfl ?_
        refine WP.dload (n := 254) at_252 rfl rfl ?_
        refine WP.dload (n := 256) at_254 rfl rfl ?_
        rcases Int.lt_trichotomy (l1.toInt * 256) m with hd | hd | hd
        · refine WP.dcmp (n := 257) (v := (-1 : Int32)) at_256 (by rw [show FP.dcmp _ _ = _ from own_flt (own_di l1) ha (own_Glt hd)]; rfl) rfl ?_
          refine WP.ifcN (n' := 260) at_257 (by decide) rfl ?_
          refine WP.iload (n := 262) at_260 rfl rfl ?_
          refine WP.ifcN (n' := 265) at_262 (by decide) rfl ?_
          refine WP.dload (n := 267) at_265 rfl rfl ?_
          refine WP.dconst1 (n := 268) (v := FP.dconst1) at_267 rfl rfl ?_
          refine WP.dload (n := 270) at_268 rfl rfl ?_
          refine WP.dsub (n := 271) at_270 (own_nn64 R1.hu.nn) rfl ?_
          refine WP.dcmp (n := 272) (v := (cmpValue (FP.dcmp (rl_r j l1 avg) (FP.dsub FP.dconst1 (rl_b j))) .l)) at_271 rfl rfl ?_
          refine WP.ifcN (n' := 275) at_272 ((if0 _ _).trans (flt (own_cge R1.hr R1.hu (R1.lo (own_nnI hn)))).1) rfl ?_
          refine WP.dload (n := 277) at_275 rfl rfl ?_
          refine WP.dconst1 (n := 278) (v := FP.dconst1) at_277 rfl rfl ?_
          refine WP.dcmp (n := 279) (v := (cmpValue (FP.dcmp (rl_r j l1 avg) FP.dconst1) .g)) at_278 rfl rfl ?_
          refine WP.ifcN (n' := 282) at_279 ((if0 _ _).trans (flt (own_cle R1.hr own_d1 (R1.le (Int.le_of_lt hd)))).2.2.1) rfl ?_
          refine WP.iconst (n := 283) (z := (1 : Int32)) at_282 rfl rfl ?_
          refine WP.goto (n := 287) at_283 (by decide) (by decide) ?_
          refine WP.istore (n := 289) (Ls' := #[.val (.int i0), .val (.int i1), .val (.int i2), .val (.int i3), .val (.int i4), .val (.int i5), .val (.int j), .val (.double (rl_b j)), .second, .val (.double (FP.i2d (i0 &&& (65535 : Int32)))), .second, .val (.int am), .val (.double avg), .second, .val (.int l1), .val (.int i4), .val (.ref a4), .val (.double (rl_r j l1 avg)), .second, .val (.double (rl_r j i4 avg)), .second, .val (.int (1 : Int32)), .val (.double (FP.i2d l1)), .second]) at_287 rfl rfl ?_
          refine WP.goto (n := 341) at_289 (by decide) (by decide) ?_
          refine WP.iload (n := 343) at_341 rfl rfl ?_
          exact WP.retN at_343 rfl (Or.inl rfl) (by decide : nar .boolean 1 = 1) (by decide) (by decide) rfl
        · refine WP.dcmp (n := 257) (v := (0 : Int32)) at_256 (by rw [show FP.dcmp _ _ = _ from own_feq (own_di l1) ha (own_Ge hd)]; rfl) rfl ?_
          refine WP.ifcY (n := 292) at_257 (by decide) (by decide) (by decide) ?_
          refine WP.dload (n := 294) at_292 rfl rfl ?_
          refine WP.dload (n := 296) at_294 rfl rfl ?_
          refine WP.dcmp (n := 297) (v := (0 : Int32)) at_296 (by rw [show FP.dcmp _ _ = _ from own_feq (own_di l1) ha (own_Ge hd)]; rfl) rfl ?_
          refine WP.ifcN (n' := 300) at_297 (by decide) rfl ?_
          refine WP.iload (n := 302) at_300 rfl rfl ?_
          refine WP.ifcN (n' := 305) at_302 (by decide) rfl ?_
          refine WP.dload (n := 307) at_305 rfl rfl ?_
          refine WP.dconst1 (n := 308) (v := FP.dconst1) at_307 rfl rfl ?_
          refine WP.dcmp (n := 309) (v := (0 : Int32)) at_308 (by rw [show FP.dcmp _ _ = _ from own_feq R1.hr own_d1 (Int.le_antisymm (R1.le (Int.le_of_eq hd)) (R1.ge (Int.le_of_eq hd.symm)))]; rfl) rfl ?_
          refine WP.ifcN (n' := 312) at_309 (by decide) rfl ?_
          refine WP.iconst (n := 313) (z := (1 : Int32)) at_312 rfl rfl ?_
          refine WP.goto (n := 317) at_313 (by decide) (by decide) ?_
          refine WP.istore (n := 319) (Ls' := #[.val (.int i0), .val (.int i1), .val (.int i2), .val (.int i3), .val (.int i4), .val (.int i5), .val (.int j), .val (.double (rl_b j)), .second, .val (.double (FP.i2d (i0 &&& (65535 : Int32)))), .second, .val (.int am), .val (.double avg), .second, .val (.int l1), .val (.int i4), .val (.ref a4), .val (.double (rl_r j l1 avg)), .second, .val (.double (rl_r j i4 avg)), .second, .val (.int (1 : Int32)), .val (.double (FP.i2d l1)), .second]) at_317 rfl rfl ?_
          refine WP.goto (n := 341) at_319 (by decide) (by decide) ?_
          refine WP.iload (n := 343) at_341 rfl rfl ?_
          exact WP.retN at_343 rfl (Or.inl rfl) (by decide : nar .boolean 1 = 1) (by decide) (by decide) rfl
        · refine WP.dcmp (n := 257) (v := (1 : Int32)) at_256 (by rw [show FP.dcmp _ _ = _ from own_fgt (own_di l1) ha (own_Glt hd)]; rfl) rfl ?_
          refine WP.ifcY (n := 292) at_257 (by decide) (by decide) (by decide) ?_
          refine WP.dload (n := 294) at_292 rfl rfl ?_
          refine WP.dload (n := 296) at_294 rfl rfl ?_
          refine WP.dcmp (n := 297) (v := (1 : Int32)) at_296 (by rw [show FP.dcmp _ _ = _ from own_fgt (own_di l1) ha (own_Glt hd)]; rfl) rfl ?_
          refine WP.ifcY (n := 322) at_297 (by decide) (by decide) (by decide) ?_
          refine WP.iload (n := 324) at_322 rfl rfl ?_
          refine WP.ifcN (n' := 327) at_324 (by decide) rfl ?_
          refine WP.dload (n := 329) at_327 rfl rfl ?_
          refine WP.dconst1 (n := 330) (v := FP.dconst1) at_329 rfl rfl ?_
          refine WP.dcmp (n := 331) (v := (cmpValue (FP.dcmp (rl_r j l1 avg) FP.dconst1) .l)) at_330 rfl rfl ?_
          refine WP.ifcN (n' := 334) at_331 ((if0 _ _).trans (flt (own_cge R1.hr own_d1 (R1.ge (Int.le_of_lt hd)))).1) rfl ?_
          refine WP.iconst (n := 335) (z := (1 : Int32)) at_334 rfl rfl ?_
          refine WP.goto (n := 339) at_335 (by decide) (by decide) ?_
          refine WP.istore (n := 341) (Ls' := #[.val (.int i0), .val (.int i1), .val (.int i2), .val (.int i3), .val (.int i4), .val (.int i5), .val (.int j), .val (.double (rl_b j)), .second, .val (.double (FP.i2d (i0 &&& (65535 : Int32)))), .second, .val (.int am), .val (.double avg), .second, .val (.int l1), .val (.int i4), .val (.ref a4), .val (.double (rl_r j l1 avg)), .second, .val (.double (rl_r j i4 avg)), .second, .val (.int (1 : Int32)), .val (.double (FP.i2d l1)), .second]) at_339 rfl rfl ?_
          refine WP.iload (n := 343) at_341 rfl rfl ?_
          exact WP.retN at_343 rfl (Or.inl rfl) (by decide : nar .boolean 1 = 1) (by decide) (by decide) rfl
    have k215 : WP l Z EL true "com/example/lilybank/lilybank/retrieval/LengthNormalisationRelativeLengthPinLaw" "law" "(IIIIII)Z" code maxLocals ret room_1 (fun v h' => v = some (.int 1)) vm7 h5 1 2 215 #[.val (.int i0), .val (.int i1), .val (.int i2), .val (.int i3), .val (.int i4), .val (.int i5), .val (.int j), .val (.double (rl_b j)), .second, .val (.double (FP.i2d (i0 &&& (65535 : Int32)))), .second, .val (.int am), .val (.double avg), .second, .val (.int l1), .val (.int i4), .val (.ref a4), .val (.double (rl_r j l1 avg)), .second, .val (.double (rl_r j i4 avg)), .second, .val (.int (1 : Int32)), .unset, .unset] [] := by
      refine WP.iload (n := 217) at_215 rfl rfl ?_
      refine WP.iload (n := 219) at_217 rfl rfl ?_
      by_cases h21 : l1 < i4
      · refine WP.icmpY (n := 242) at_219 (tlt h21).2.2.1 (by decide) (by decide) ?_
        exact k242
      · refine WP.icmpN (n' := 222) at_219 (flt h21).2.2.1 rfl ?_
        refine WP.iload (n := 224) at_222 rfl rfl ?_
        refine WP.ifcN (n' := 227) at_224 (by decide) rfl ?_
        refine WP.dload (n := 229) at_227 rfl rfl ?_
        refine WP.dload (n := 231) at_229 rfl rfl ?_
        refine WP.dcmp (n := 232) (v := (cmpValue (FP.dcmp (rl_r j i4 avg) (rl_r j l1 avg)) .g)) at_231 rfl rfl ?_
        refine WP.ifcN (n' := 235) at_232 ((if0 _ _).trans (flt (own_cle R2.hr R1.hr (R2.mono hm hj0 R1 (own_leI h21)))).2.2.1) rfl ?_
        refine WP.iconst (n := 236) (z := (1 : Int32)) at_235 rfl rfl ?_
        refine WP.goto (n := 240) at_236 (by decide) (by decide) ?_
        refine WP.istore (n := 242) (Ls' := #[.val (.int i0), .val (.int i1), .val (.int i2), .val (.int i3), .val (.int i4), .val (.int i5), .val (.int j), .val (.double (rl_b j)), .second, .val (.double (FP.i2d (i0 &&& (65535 : Int32)))), .second, .val (.int am), .val (.double avg), .second, .val (.int l1), .val (.int i4), .val (.ref a4), .val (.double (rl_r j l1 avg)), .second, .val (.double (rl_r j i4 avg)), .second, .val (.int (1 : Int32)), .unset, .unset]) at_240 rfl rfl ?_
        exact k242
    have k188 : WP l Z EL true "com/example/lilybank/lilybank/retrieval/LengthNormalisationRelativeLengthPinLaw" "law" "(IIIIII)Z" code maxLocals ret room_1 (fun v h' => v = some (.int 1)) vm7 h5 1 2 188 #[.val (.int i0), .val (.int i1), .val (.int i2), .val (.int i3), .val (.int i4), .val (.int i5), .val (.int j), .val (.double (rl_b j)), .second, .val (.double (FP.i2d (i0 &&& (65535 : Int32)))), .second, .val (.int am), .val (.double avg), .second, .val (.int l1), .val (.int i4), .val (.ref a4), .val (.double (rl_r j l1 avg)), .second, .val (.double (rl_r j i4 avg)), .second, .val (.int (1 : Int32)), .unset, .unset] [] := by
      refine WP.iload (n := 190) at_188 rfl rfl ?_
      refine WP.iload (n := 192) at_190 rfl rfl ?_
      by_cases h12 : i4 < l1
      · refine WP.icmpY (n := 215) at_192 (tlt h12).2.2.1 (by decide) (by decide) ?_
        exact k215
      · refine WP.icmpN (n' := 195) at_192 (flt h12).2.2.1 rfl ?_
        refine WP.iload (n := 197) at_195 rfl rfl ?_
        refine WP.ifcN (n' := 200) at_197 (by decide) rfl ?_
        refine WP.dload (n := 202) at_200 rfl rfl ?_
        refine WP.dload (n := 204) at_202 rfl rfl ?_
        refine WP.dcmp (n := 205) (v := (cmpValue (FP.dcmp (rl_r j l1 avg) (rl_r j i4 avg)) .g)) at_204 rfl rfl ?_
        refine WP.ifcN (n' := 208) at_205 ((if0 _ _).trans (flt (own_cle R1.hr R2.hr (R1.mono hm hj0 R2 (own_leI h12)))).2.2.1) rfl ?_
        refine WP.iconst (n := 209) (z := (1 : Int32)) at_208 rfl rfl ?_
        refine WP.goto (n := 213) at_209 (by decide) (by decide) ?_
        refine WP.istore (n := 215) (Ls' := #[.val (.int i0), .val (.int i1), .val (.int i2), .val (.int i3), .val (.int i4), .val (.int i5), .val (.int j), .val (.double (rl_b j)), .second, .val (.double (FP.i2d (i0 &&& (65535 : Int32)))), .second, .val (.int am), .val (.double avg), .second, .val (.int l1), .val (.int i4), .val (.ref a4), .val (.double (rl_r j l1 avg)), .second, .val (.double (rl_r j i4 avg)), .second, .val (.int (1 : Int32)), .unset, .unset]) at_213 rfl rfl ?_
        exact k215
    have k145 : WP l Z EL true "com/example/lilybank/lilybank/retrieval/LengthNormalisationRelativeLengthPinLaw" "law" "(IIIIII)Z" code maxLocals ret room_1 (fun v h' => v = some (.int 1)) vm7 h5 1 2 145 #[.val (.int i0), .val (.int i1), .val (.int i2), .val (.int i3), .val (.int i4), .val (.int i5), .val (.int j), .val (.double (rl_b j)), .second, .val (.double (FP.i2d (i0 &&& (65535 : Int32)))), .second, .val (.int am), .val (.double avg), .second, .val (.int l1), .val (.int i4), .val (.ref a4), .val (.double (rl_r j l1 avg)), .second, .val (.double (rl_r j i4 avg)), .second, .val (.int (1 : Int32)), .unset, .unset] [] := by
      refine WP.iload (n := 147) at_145 rfl rfl ?_
      refine WP.bipush (n := 149) (z := (16 : Int32)) at_147 (by decide) rfl ?_
      by_cases hs : j = 16
      · refine WP.icmpN (n' := 152) at_149 (teq hs).2 rfl ?_
        have hs' : j.toInt = 16 := by rw [hs]; rfl
        refine WP.iload (n := 154) at_152 rfl rfl ?_
        refine WP.ifcN (n' := 157) at_154 (by decide) rfl ?_
        refine WP.dload (n := 159) at_157 rfl rfl ?_
        refine WP.iload (n := 161) at_159 rfl rfl ?_
        refine WP.i2d (n := 162) at_161  rfl ?_
        refine WP.dload (n := 164) at_162 rfl rfl ?_
        refine WP.ddiv (n := 165) at_164 (own_nn64 (own_selfF hs' hm ha R1).nn) rfl ?_
        refine WP.dcmp (n := 166) (v := (0 : Int32)) at_165 (by rw [show FP.dcmp _ _ = _ from own_feq R1.hr (own_selfF hs' hm ha R1) rfl]; rfl) rfl ?_
        refine WP.ifcN (n' := 169) at_166 (by decide) rfl ?_
        refine WP.dload (n := 171) at_169 rfl rfl ?_
        refine WP.iload (n := 173) at_171 rfl rfl ?_
        refine WP.i2d (n := 174) at_173  rfl ?_
        refine WP.dload (n := 176) at_174 rfl rfl ?_
        refine WP.ddiv (n := 177) at_176 (own_nn64 (own_selfF hs' hm ha R2).nn) rfl ?_
        refine WP.dcmp (n := 178) (v := (0 : Int32)) at_177 (by rw [show FP.dcmp _ _ = _ from own_feq R2.hr (own_selfF hs' hm ha R2) rfl]; rfl) rfl ?_
        refine WP.ifcN (n' := 181) at_178 (by decide) rfl ?_
        refine WP.iconst (n := 182) (z := (1 : Int32)) at_181 rfl rfl ?_
        refine WP.goto (n := 186) at_182 (by decide) (by decide) ?_
        refine WP.istore (n := 188) (Ls' := #[.val (.int i0), .val (.int i1), .val (.int i2), .val (.int i3), .val (.int i4), .val (.int i5), .val (.int j), .val (.double (rl_b j)), .second, .val (.double (FP.i2d (i0 &&& (65535 : Int32)))), .second, .val (.int am), .val (.double avg), .second, .val (.int l1), .val (.int i4), .val (.ref a4), .val (.double (rl_r j l1 avg)), .second, .val (.double (rl_r j i4 avg)), .second, .val (.int (1 : Int32)), .unset, .unset]) at_186 rfl rfl ?_
        exact k188
      · refine WP.icmpY (n := 188) at_149 (feq hs).2 (by decide) (by decide) ?_
        exact k188
    refine WP.iload (n := 116) at_114 rfl rfl ?_
    by_cases hz : j = 0
    · refine WP.ifcN (n' := 119) at_116 ((if0 _ _).trans (teq hz).2) rfl ?_
      have hz' : j.toInt = 0 := by rw [hz]; rfl
      refine WP.iload (n := 121) at_119 rfl rfl ?_
      refine WP.ifcN (n' := 124) at_121 (by decide) rfl ?_
      refine WP.dload (n := 126) at_124 rfl rfl ?_
      refine WP.dconst1 (n := 127) (v := FP.dconst1) at_126 rfl rfl ?_
      refine WP.dcmp (n := 128) (v := (0 : Int32)) at_127 (by rw [show FP.dcmp _ _ = _ from own_feq R1.hr own_d1 (R1.j0 hz')]; rfl) rfl ?_
      refine WP.ifcN (n' := 131) at_128 (by decide) rfl ?_
      refine WP.dload (n := 133) at_131 rfl rfl ?_
      refine WP.dconst1 (n := 134) (v := FP.dconst1) at_133 rfl rfl ?_
      refine WP.dcmp (n := 135) (v := (0 : Int32)) at_134 (by rw [show FP.dcmp _ _ = _ from own_feq R2.hr own_d1 (R2.j0 hz')]; rfl) rfl ?_
      refine WP.ifcN (n' := 138) at_135 (by decide) rfl ?_
      refine WP.iconst (n := 139) (z := (1 : Int32)) at_138 rfl rfl ?_
      refine WP.goto (n := 143) at_139 (by decide) (by decide) ?_
      refine WP.istore (n := 145) (Ls' := #[.val (.int i0), .val (.int i1), .val (.int i2), .val (.int i3), .val (.int i4), .val (.int i5), .val (.int j), .val (.double (rl_b j)), .second, .val (.double (FP.i2d (i0 &&& (65535 : Int32)))), .second, .val (.int am), .val (.double avg), .second, .val (.int l1), .val (.int i4), .val (.ref a4), .val (.double (rl_r j l1 avg)), .second, .val (.double (rl_r j i4 avg)), .second, .val (.int (1 : Int32)), .unset, .unset]) at_143 rfl rfl ?_
      exact k145
    · refine WP.ifcY (n := 145) at_116 ((if0 _ _).trans (feq hz).2) (by decide) (by decide) ?_
      exact k145
  have hj := own_jr i1
  have hb := own_bF hj.1 hj.2
  have ham := own_amr i2
  refine WP.iloadN (n := 1) at_0 rfl rfl ?_
  refine WP.bipush (n := 3) (z := (31 : Int32)) at_1 (by decide) rfl ?_
  refine WP.iand (n := 4) at_3  rfl ?_
  refine WP.bipush (n := 6) (z := (17 : Int32)) at_4 (by decide) rfl ?_
  refine WP.irem (n := 7) at_6 (by decide) rfl ?_
  refine WP.istore (n := 9) (Ls' := #[.val (.int i0), .val (.int i1), .val (.int i2), .val (.int i3), .val (.int i4), .val (.int i5), .val (.int ((i1 &&& (31 : Int32)) % (17 : Int32))), .unset, .unset, .unset, .unset, .unset, .unset, .unset, .unset, .unset, .unset, .unset, .unset, .unset, .unset, .unset, .unset, .unset]) at_7 rfl rfl ?_
  refine WP.iload (n := 11) at_9 rfl rfl ?_
  refine WP.i2d (n := 12) at_11  rfl ?_
  refine WP.ldcD (n := 15) (v := (4625196817309499392 : UInt64)) at_12 (hw _ (List.mem_of_getElem? (i := 0) rfl)) rfl ?_
  refine WP.ddiv (n := 16) at_15 (own_nn64 hb.nn) rfl ?_
  refine WP.dstore (n := 18) (Ls' := #[.val (.int i0), .val (.int i1), .val (.int i2), .val (.int i3), .val (.int i4), .val (.int i5), .val (.int ((i1 &&& (31 : Int32)) % (17 : Int32))), .val (.double (FP.ddiv (FP.i2d ((i1 &&& (31 : Int32)) % (17 : Int32))) (4625196817309499392 : UInt64))), .second, .unset, .unset, .unset, .unset, .unset, .unset, .unset, .unset, .unset, .unset, .unset, .unset, .unset, .unset, .unset]) at_16 rfl rfl ?_
  refine WP.iloadN (n := 19) at_18 rfl rfl ?_
  refine WP.ldcI (n := 21) (v := (65535 : Int32)) at_19 (hw _ (List.mem_of_getElem? (i := 1) rfl)) rfl ?_
  refine WP.iand (n := 22) at_21  rfl ?_
  refine WP.i2d (n := 23) at_22  rfl ?_
  refine WP.dstore (n := 25) (Ls' := #[.val (.int i0), .val (.int i1), .val (.int i2), .val (.int i3), .val (.int i4), .val (.int i5), .val (.int ((i1 &&& (31 : Int32)) % (17 : Int32))), .val (.double (FP.ddiv (FP.i2d ((i1 &&& (31 : Int32)) % (17 : Int32))) (4625196817309499392 : UInt64))), .second, .val (.double (FP.i2d (i0 &&& (65535 : Int32)))), .second, .unset, .unset, .unset, .unset, .unset, .unset, .unset, .unset, .unset, .unset, .unset, .unset, .unset]) at_23 rfl rfl ?_
  refine WP.iloadN (n := 26) at_25 rfl rfl ?_
  refine WP.ldcI (n := 28) (v := (1048575 : Int32)) at_26 (hw _ (List.mem_of_getElem? (i := 2) rfl)) rfl ?_
  refine WP.iand (n := 29) at_28  rfl ?_
  refine WP.iconst (n := 30) (z := (1 : Int32)) at_29 rfl rfl ?_
  refine WP.iadd (n := 31) at_30  rfl ?_
  refine WP.istore (n := 33) (Ls' := #[.val (.int i0), .val (.int i1), .val (.int i2), .val (.int i3), .val (.int i4), .val (.int i5), .val (.int ((i1 &&& (31 : Int32)) % (17 : Int32))), .val (.double (FP.ddiv (FP.i2d ((i1 &&& (31 : Int32)) % (17 : Int32))) (4625196817309499392 : UInt64))), .second, .val (.double (FP.i2d (i0 &&& (65535 : Int32)))), .second, .val (.int ((i2 &&& (1048575 : Int32)) + (1 : Int32))), .unset, .unset, .unset, .unset, .unset, .unset, .unset, .unset, .unset, .unset, .unset, .unset]) at_31 rfl rfl ?_
  refine WP.iloadN (n := 34) at_33 rfl rfl ?_
  refine WP.bipush (n := 36) (z := (20 : Int32)) at_34 (by decide) rfl ?_
  refine WP.iushr (n := 37) at_36  rfl ?_
  refine WP.iconst (n := 38) (z := (1 : Int32)) at_37 rfl rfl ?_
  refine WP.iand (n := 39) at_38  rfl ?_
  refine WP.if_ne (n := 48) (n' := 42) at_39 (by decide) (by decide) rfl (fun b8 => ?_) (fun b8 => ?_)
  · refine WP.iload (n := 50) at_48 rfl rfl ?_
    refine WP.i2d (n := 51) at_50  rfl ?_
    refine WP.ldcD (n := 54) (v := (4643211215818981376 : UInt64)) at_51 (hw _ (List.mem_of_getElem? (i := 27) rfl)) rfl ?_
    refine WP.ddiv (n := 55) at_54 (own_nn64 (own_aF ham.1 ham.2).nn) rfl ?_
    refine WP.dstore (n := 57) (Ls' := #[.val (.int i0), .val (.int i1), .val (.int i2), .val (.int i3), .val (.int i4), .val (.int i5), .val (.int ((i1 &&& (31 : Int32)) % (17 : Int32))), .val (.double (FP.ddiv (FP.i2d ((i1 &&& (31 : Int32)) % (17 : Int32))) (4625196817309499392 : UInt64))), .second, .val (.double (FP.i2d (i0 &&& (65535 : Int32)))), .second, .val (.int ((i2 &&& (1048575 : Int32)) + (1 : Int32))), .val (.double (FP.ddiv (FP.i2d ((i2 &&& (1048575 : Int32)) + (1 : Int32))) (4643211215818981376 : UInt64))), .second, .unset, .unset, .unset, .unset, .unset, .unset, .unset, .unset, .unset, .unset]) at_55 rfl rfl ?_
    refine WP.iload (n := 59) at_57 rfl rfl ?_
    refine WP.iconst (n := 60) (z := (1 : Int32)) at_59 rfl rfl ?_
    refine WP.iand (n := 61) at_60  rfl ?_
    refine WP.if_eq (n := 69) (n' := 64) at_61 (by decide) (by decide) rfl (fun b9 => ?_) (fun b9 => ?_)
    · refine WP.iloadN (n := 70) at_69 rfl rfl ?_
      refine WP.istore (n := 72) (Ls' := #[.val (.int i0), .val (.int i1), .val (.int i2), .val (.int i3), .val (.int i4), .val (.int i5), .val (.int ((i1 &&& (31 : Int32)) % (17 : Int32))), .val (.double (FP.ddiv (FP.i2d ((i1 &&& (31 : Int32)) % (17 : Int32))) (4625196817309499392 : UInt64))), .second, .val (.double (FP.i2d (i0 &&& (65535 : Int32)))), .second, .val (.int ((i2 &&& (1048575 : Int32)) + (1 : Int32))), .val (.double (FP.ddiv (FP.i2d ((i2 &&& (1048575 : Int32)) + (1 : Int32))) (4643211215818981376 : UInt64))), .second, .val (.int i3), .unset, .unset, .unset, .unset, .unset, .unset, .unset, .unset, .unset]) at_70 rfl rfl ?_
      exact main _ _ _ _ _ hj.1 hj.2 (show 0 < ((i2 &&& (1048575 : Int32)) + (1 : Int32)).toInt by omega) (own_aF ham.1 ham.2)
    · refine WP.iload (n := 66) at_64 rfl rfl ?_
      refine WP.goto (n := 70) at_66 (by decide) (by decide) ?_
      refine WP.istore (n := 72) (Ls' := #[.val (.int i0), .val (.int i1), .val (.int i2), .val (.int i3), .val (.int i4), .val (.int i5), .val (.int ((i1 &&& (31 : Int32)) % (17 : Int32))), .val (.double (FP.ddiv (FP.i2d ((i1 &&& (31 : Int32)) % (17 : Int32))) (4625196817309499392 : UInt64))), .second, .val (.double (FP.i2d (i0 &&& (65535 : Int32)))), .second, .val (.int ((i2 &&& (1048575 : Int32)) + (1 : Int32))), .val (.double (FP.ddiv (FP.i2d ((i2 &&& (1048575 : Int32)) + (1 : Int32))) (4643211215818981376 : UInt64))), .second, .val (.int ((i2 &&& (1048575 : Int32)) + (1 : Int32))), .unset, .unset, .unset, .unset, .unset, .unset, .unset, .unset, .unset]) at_70 rfl rfl ?_
      exact main _ _ _ _ _ hj.1 hj.2 (show 0 < ((i2 &&& (1048575 : Int32)) + (1 : Int32)).toInt by omega) (own_aF ham.1 ham.2)
  · refine WP.iload (n := 44) at_42 rfl rfl ?_
    refine WP.i2d (n := 45) at_44  rfl ?_
    refine WP.goto (n := 55) at_45 (by decide) (by decide) ?_
    refine WP.dstore (n := 57) (Ls' := #[.val (.int i0), .val (.int i1), .val (.int i2), .val (.int i3), .val (.int i4), .val (.int i5), .val (.int ((i1 &&& (31 : Int32)) % (17 : Int32))), .val (.double (FP.ddiv (FP.i2d ((i1 &&& (31 : Int32)) % (17 : Int32))) (4625196817309499392 : UInt64))), .second, .val (.double (FP.i2d (i0 &&& (65535 : Int32)))), .second, .val (.int ((i2 &&& (1048575 : Int32)) + (1 : Int32))), .val (.double (FP.i2d ((i2 &&& (1048575 : Int32)) + (1 : Int32)))), .second, .unset, .unset, .unset, .unset, .unset, .unset, .unset, .unset, .unset, .unset]) at_55 rfl rfl ?_
    refine WP.iload (n := 59) at_57 rfl rfl ?_
    refine WP.iconst (n := 60) (z := (1 : Int32)) at_59 rfl rfl ?_
    refine WP.iand (n := 61) at_60  rfl ?_
    refine WP.if_eq (n := 69) (n' := 64) at_61 (by decide) (by decide) rfl (fun b10 => ?_) (fun b10 => ?_)
    · refine WP.iloadN (n := 70) at_69 rfl rfl ?_
      refine WP.istore (n := 72) (Ls' := #[.val (.int i0), .val (.int i1), .val (.int i2), .val (.int i3), .val (.int i4), .val (.int i5), .val (.int ((i1 &&& (31 : Int32)) % (17 : Int32))), .val (.double (FP.ddiv (FP.i2d ((i1 &&& (31 : Int32)) % (17 : Int32))) (4625196817309499392 : UInt64))), .second, .val (.double (FP.i2d (i0 &&& (65535 : Int32)))), .second, .val (.int ((i2 &&& (1048575 : Int32)) + (1 : Int32))), .val (.double (FP.i2d ((i2 &&& (1048575 : Int32)) + (1 : Int32)))), .second, .val (.int i3), .unset, .unset, .unset, .unset, .unset, .unset, .unset, .unset, .unset]) at_70 rfl rfl ?_
      exact main _ _ _ _ _ hj.1 hj.2 (show 0 < ((i2 &&& (1048575 : Int32)) + (1 : Int32)).toInt * 256 by omega) (own_di _)
    · refine WP.iload (n := 66) at_64 rfl rfl ?_
      refine WP.goto (n := 70) at_66 (by decide) (by decide) ?_
      refine WP.istore (n := 72) (Ls' := #[.val (.int i0), .val (.int i1), .val (.int i2), .val (.int i3), .val (.int i4), .val (.int i5), .val (.int ((i1 &&& (31 : Int32)) % (17 : Int32))), .val (.double (FP.ddiv (FP.i2d ((i1 &&& (31 : Int32)) % (17 : Int32))) (4625196817309499392 : UInt64))), .second, .val (.double (FP.i2d (i0 &&& (65535 : Int32)))), .second, .val (.int ((i2 &&& (1048575 : Int32)) + (1 : Int32))), .val (.double (FP.i2d ((i2 &&& (1048575 : Int32)) + (1 : Int32)))), .second, .val (.int ((i2 &&& (1048575 : Int32)) + (1 : Int32))), .unset, .unset, .unset, .unset, .unset, .unset, .unset, .unset, .unset]) at_70 rfl rfl ?_
      exact main _ _ _ _ _ hj.1 hj.2 (show 0 < ((i2 &&& (1048575 : Int32)) + (1 : Int32)).toInt * 256 by omega) (own_di _)
set_option maxRecDepth 65536 in
set_option maxHeartbeats 40000000 in
theorem comes_1 {Post : Tables → Env → Array Value → State → Outcome → State → Prop} (hpost : ∀ tb e args s v u, (limb_1_1.after args s (.returned v) u = true ∧ limb_1_2.after args s (.returned v) u = true ∧ True) → Framed s (.returned v) u (Jvm.fieldLocs frame_1_writes args s ++ Jvm.arrayLocs frame_1_arrays args s ++ Jvm.staticLocs frame_1_statics s) 16 128 → Post tb e args s (.returned v) u) :
    ArmFor flags0 classFile x code maxLocals ret World_1 tables_1 room_1 Calls_1 rest_1 Pre_1 Post := by
  intro l hfl _ _ p e ha hc hk s m args below hf hA hF happ hP
  obtain ⟨hcalls, hrest, hpre⟩ := hP
  obtain ⟨-, -, -, hnamed, -, -, -, hat⟩ := (Spec.applies_iff hf).mp happ
  obtain ⟨hg, hn⟩ := and_e (Cond.before_iff.mp (show (Jvm.Cond.and given_1 narrow_1).before args s = true from hpre))
  obtain ⟨h1, g0'⟩ := and_e hg
  obtain ⟨w0, w1, w2, w3, w4, w5, rfl⟩ : ∃ w0 w1 w2 w3 w4 w5 : Value, args = #[w0, w1, w2, w3, w4, w5] := by
    have hs : args.size = 6 := by simpa [Cond.value, given_1] using h1
    obtain ⟨L⟩ := args
    match L, hs with
    | [w0, w1, w2, w3, w4, w5], _ => exact ⟨w0, w1, w2, w3, w4, w5, rfl⟩
  have hw := fun d (hd : d ∈ tables_1) => atoms_spec (ws := Jvm.Cond.code x code maxLocals ret :: tables_1) hat d (List.mem_cons_of_mem _ hd)
  obtain ⟨g0, g1'⟩ := and_e g0'
  obtain ⟨i0, e0⟩ := is_v g0
  obtain rfl : w0 = (.int i0) := Option.some.inj e0
  obtain ⟨g1, g2'⟩ := and_e g1'
  obtain ⟨i1, e1⟩ := is_v g1
  obtain rfl : w1 = (.int i1) := Option.some.inj e1
  obtain ⟨g2, g3'⟩ := and_e g2'
  obtain ⟨i2, e2⟩ := is_v g2
  obtain rfl : w2 = (.int i2) := Option.some.inj e2
  obtain ⟨g3, g4'⟩ := and_e g3'
  obtain ⟨i3, e3⟩ := is_v g3
  obtain rfl : w3 = (.int i3) := Option.some.inj e3
  obtain ⟨g4, g5'⟩ := and_e g4'
  obtain ⟨i4, e4⟩ := is_v g4
  obtain rfl : w4 = (.int i4) := Option.some.inj e4
  have g5 := g5'
  obtain ⟨i5, e5⟩ := is_v g5
  obtain rfl : w5 = (.int i5) := Option.some.inj e5
  obtain ⟨n, o, h1, h2, h3, _, L, rfl, rfl, hE, N, hCh, hNar, hq⟩ := own_law l s _ hw [] EW.nil s.heap i0 i1 i2 i3 i4 i5 tables_1 p e ha hc hk s m _ below hf ((Spec.applies_iff_loose hf).mp happ).1 ⟨rfl, State.Warmed39.refl s, rfl, ext_refl _, (fun p hp => nomatch hp), (fun _ q => nomatch q)⟩ trivial
  obtain ⟨q1, q2, q3, q4⟩ := hq
  refine ⟨n, _, h1, h2, h3, hpost _ _ _ _ _ _ ⟨Cond.after_iff.mpr rfl, Cond.after_iff.mpr (eq_i res_at (Term.int_eval (1)) rfl), trivial⟩ ⟨q1, hNar rfl, (q4.sift fun y hy => Or.inr (N y hy)).mono (by decide) (by decide)⟩⟩
theorem main_1_1 : Claimed_1_1 := comes_1 fun _ _ _ _ _ _ h hF => ⟨h.1, hF⟩
theorem main_1_2 : Claimed_1_2 := comes_1 fun _ _ _ _ _ _ h hF => ⟨h.2.1, hF⟩
end Jvm.Pilot.@@N@@
namespace Jvm.Pilot.@@N@@
open Jvm Jvm.ClassFile Sem Op Lib Jvm.Free Jvm.Stand Jvm.Pilot.@@N@@.Jvm.D
/-! MADE BY PROGRAM (witnessworld.py) out of the Statement's table words and the real class files: 10 classes; the members and pool entries that the words name. The judged class is class 1, her method 1. -/
namespace start1
open Jvm.ClassFile
def u (s : String) : CpInfo := .utf8 (stringToUtf16 s)
/-- a pool by its gaps: so many unusable entries, then the entry; so many at the end -/
def gap : Nat → List CpInfo → List CpInfo
  | 0, r => r
  | n + 1, r => .unusable :: gap n r
def poolList (es : List (Nat × CpInfo)) (last : Nat) : List CpInfo := es.foldr (fun e r => gap e.1 (e.2 :: r)) (gap last [])
def pool (es : List (Nat × CpInfo)) (last : Nat) : Array CpInfo := ⟨poolList es last⟩
def fileOf (pool : Array CpInfo) (this : Nat) (attrs : Array Attribute := #[]) (ms : Array MethodInfo := #[]) (fl : Nat := 33) (sup : Nat := 0) (ifs : Array Nat := #[]) (fds : Array FieldInfo := #[]) : ClassFile where
  minorVersion := 0
  majorVersion := 65
  constantPool := pool
  accessFlags := fl
  thisClass := this
  superClass := sup
  interfaces := ifs
  fields := fds
  methods := ms
  attributes := attrs
def plain (name : String) (sup : Option ClassId) : Class where
  name := name
  kind := .ordinary
  loader := none
  accessFlags := 33
  super := sup
  interfaces := #[]
  cf := none
  fields := #[]
  methods := #[]
  instanceTypes := #[]
  staticTypes := #[]
  resolved := #[]
  callSites := []
  init := .initialized
  statics := none
  mirror := none

def pool0 : Array CpInfo := pool [(5, u "<init>"), (0, u "()V"), (1, .class_ 10), (1, u "java/lang/Object")] 113

def k0c0 : Code := { maxStack := 0, maxLocals := 1, code := object_method_1_code, exceptionTable := #[], attributes := #[] }
def k0m0 : Method := { name := "<init>", desc := "()V", sig := { parameters := [], returnType := none }, accessFlags := 1, code := some k0c0 }
/-- java/lang/Object -/
def k0 : Class := { plain "java/lang/Object" none with
  accessFlags := 33
  interfaces := #[]
  cf := some (fileOf pool0 8 #[] #[{ accessFlags := 1, nameIndex := 5, descriptorIndex := 6, attributes := #[] }] 33 0 #[] #[])
  fields := #[]
  methods := #[k0m0]
  instanceTypes := #[]
  staticTypes := #[]
  resolved := Array.replicate 124 none
  statics := none }

def pool1 : Array CpInfo := pool [(2, .class_ 4), (1, u "java/lang/Object"), (0, u "<init>"), (0, u "()V"), (0, .double 4625196817309499392), (1, .integer 65535), (0, .integer 1048575), (0, .double 4643211215818981376), (1, .class_ 14), (0, u "com/example/lilybank/lilybank/retrieval/LengthNormalisation"), (0, .methodref 13 16), (0, .nameAndType 5 17), (0, u "(DD)V"), (0, .methodref 13 19), (0, .nameAndType 20 21), (0, u "relativeLength"), (0, u "(ID)D"), (0, .class_ 23), (0, u "com/example/lilybank/lilybank/retrieval/LengthNormalisationRelativeLengthPinLaw"), (2, u "law"), (0, u "(IIIIII)Z")] 3

def k1m0 : Method := { name := "<init>", desc := "()V", sig := { parameters := [], returnType := none }, accessFlags := 1, code := none }
def k1c1 : Code := { maxStack := 6, maxLocals := 24, code := code, exceptionTable := #[], attributes := #[] }
def k1m1 : Method := { name := "law", desc := "(IIIIII)Z", sig := { parameters := [.int, .int, .int, .int, .int, .int], returnType := some .boolean }, accessFlags := 9, code := some k1c1 }
/-- com/example/lilybank/lilybank/retrieval/LengthNormalisationRelativeLengthPinLaw -/
def k1 : Class := { plain "com/example/lilybank/lilybank/retrieval/LengthNormalisationRelativeLengthPinLaw" (some 0) with
  accessFlags := 49
  interfaces := #[]
  cf := some (fileOf pool1 22 #[] #[{ accessFlags := 1, nameIndex := 5, descriptorIndex := 6, attributes := #[] }, { accessFlags := 9, nameIndex := 26, descriptorIndex := 27, attributes := #[] }] 49 2 #[] #[])
  fields := #[]
  methods := #[k1m0, k1m1]
  instanceTypes := #[]
  staticTypes := #[]
  resolved := Array.replicate 31 none
  statics := none }

def pool2 : Array CpInfo := pool [(1, .methodref 2 3), (0, .class_ 4), (0, .nameAndType 5 6), (0, u "java/lang/Object"), (0, u "<init>"), (0, u "()V"), (0, .class_ 8), (0, u "java/lang/Record")] 13

def k2c0 : Code := { maxStack := 1, maxLocals := 1, code := jdk_30_method_1_code, exceptionTable := #[], attributes := #[] }
def k2m0 : Method := { name := "<init>", desc := "()V", sig := { parameters := [], returnType := none }, accessFlags := 4, code := some k2c0 }
/-- java/lang/Record -/
def k2 : Class := { plain "java/lang/Record" (some 0) with
  accessFlags := 1057
  interfaces := #[]
  cf := some (fileOf pool2 7 #[] #[{ accessFlags := 4, nameIndex := 5, descriptorIndex := 6, attributes := #[] }] 1057 2 #[] #[])
  fields := #[]
  methods := #[k2m0]
  instanceTypes := #[]
  staticTypes := #[]
  resolved := Array.replicate 22 none
  statics := none }

def pool3 : Array CpInfo := pool [(1, .methodref 2 3), (0, .class_ 4), (0, .nameAndType 5 6), (0, u "java/lang/Record"), (0, u "<init>"), (0, u "()V"), (2, .double 9218868437227405312), (11, .fieldref 22 23), (0, .class_ 24), (0, .nameAndType 25 26), (0, u "com/example/lilybank/lilybank/retrieval/LengthNormalisation"), (0, u "k1"), (0, u "D"), (0, .fieldref 22 28), (0, .nameAndType 29 26), (0, u "b"), (12, u "(DD)V"), (4, u "relativeLength"), (0, u "(ID)D")] 35

def k3c0 : Code := { maxStack := 4, maxLocals := 5, code := prog_38_method_1_code, exceptionTable := #[], attributes := #[] }
def k3m0 : Method := { name := "<init>", desc := "(DD)V", sig := { parameters := [.double, .double], returnType := none }, accessFlags := 0, code := some k3c0 }
def k3c1 : Code := { maxStack := 6, maxLocals := 4, code := prog_38_method_2_code, exceptionTable := #[], attributes := #[] }
def k3m1 : Method := { name := "relativeLength", desc := "(ID)D", sig := { parameters := [.int, .double], returnType := some .double }, accessFlags := 0, code := some k3c1 }
/-- com/example/lilybank/lilybank/retrieval/LengthNormalisation -/
def k3 : Class := { plain "com/example/lilybank/lilybank/retrieval/LengthNormalisation" (some 2) with
  accessFlags := 48
  interfaces := #[]
  cf := some (fileOf pool3 22 #[] #[{ accessFlags := 0, nameIndex := 5, descriptorIndex := 42, attributes := #[] }, { accessFlags := 0, nameIndex := 47, descriptorIndex := 48, attributes := #[] }] 48 2 #[] #[{ accessFlags := 18, nameIndex := 25, descriptorIndex := 26, attributes := #[] }, { accessFlags := 18, nameIndex := 29, descriptorIndex := 26, attributes := #[] }])
  fields := #[{ name := "k1", type := .double, accessFlags := 18, slot := 0, constantValue := 0 }, { name := "b", type := .double, accessFlags := 18, slot := 1, constantValue := 0 }]
  methods := #[k3m0, k3m1]
  instanceTypes := #[.double, .double]
  staticTypes := #[]
  resolved := Array.replicate 84 none
  statics := none }

def pool4 : Array CpInfo := pool [(1, u "java/lang/Cloneable"), (0, .class_ 1), (0, u "java/lang/Object"), (0, .class_ 3)] 3

/-- java/lang/Cloneable -/
def k4 : Class := { plain "java/lang/Cloneable" (some 0) with
  accessFlags := 1537
  interfaces := #[]
  cf := some (fileOf pool4 2 #[] #[] 1537 4 #[] #[])
  fields := #[]
  methods := #[]
  instanceTypes := #[]
  staticTypes := #[]
  resolved := Array.replicate 8 none
  statics := none }

def pool5 : Array CpInfo := pool [(1, u "java/io/Serializable"), (0, .class_ 1), (0, u "java/lang/Object"), (0, .class_ 3)] 3

/-- java/io/Serializable -/
def k5 : Class := { plain "java/io/Serializable" (some 0) with
  accessFlags := 1537
  interfaces := #[]
  cf := some (fileOf pool5 2 #[] #[] 1537 4 #[] #[])
  fields := #[]
  methods := #[]
  instanceTypes := #[]
  staticTypes := #[]
  resolved := Array.replicate 8 none
  statics := none }

/-- the primitive byte -/
def k6 : Class := { plain "byte" none with kind := .primitive 'B', accessFlags := 0x411 }
/-- [B -/
def k7 : Class := { plain "[B" (some 0) with kind := .array 6 .byte, interfaces := #[4, 5], accessFlags := 1041 }

/-- the primitive int -/
def k8 : Class := { plain "int" none with kind := .primitive 'I', accessFlags := 0x411 }
/-- [I -/
def k9 : Class := { plain "[I" (some 0) with kind := .array 8 .int, interfaces := #[4, 5], accessFlags := 1041 }

def heap : Heap := #[]
def classes : Array Class := #[k0, k1, k2, k3, k4, k5, k6, k7, k8, k9]
def interned : List (Array UInt16 × Addr) := []
def slotsUsed : Nat := 0
def theMethod : MethodId := ⟨1, 1⟩
def args0 : Array Value := #[.int 5, .int 7, .int 2, .int 9, .int 3, .int 4]
def aboutOver (below : List Frame) : State where
  vm := { classes := classes, interned := interned.toArray }
  heap := heap
  slotsUsed := slotsUsed
  threads := #[{ frames := .invoking theMethod args0 :: below }]
def below0 : List Frame := [.native { method := ⟨0, 0⟩, args := #[] }]
def about1 : State := aboutOver below0
def p0 : Program := .bare "" "" ""
def e0 : Env := launch0.env 0 0 0
theorem w_frames : about1.frames = Frame.invoking theMethod args0 :: below0 := rfl
set_option maxRecDepth 65536 in
theorem w_args : argsFit about1.vm theMethod args0 = true := by decide +kernel
set_option maxRecDepth 65536 in
theorem w_heap : heapFits about1 = true := by decide +kernel
set_option maxRecDepth 65536 in
theorem w_runnable : about1.curStatus? = some .runnable := by decide +kernel
set_option maxRecDepth 65536 in
theorem w_alone : about1.alone = true := by decide +kernel
set_option maxRecDepth 65536 in
theorem w_named : about1.methodNamed? x = some theMethod := by decide +kernel
set_option maxRecDepth 65536 in
theorem w_hears : about1.hears theMethod below0 = true := by decide +kernel
set_option maxRecDepth 65536 in
theorem w_ripe : about1.ripe theMethod args0 below0 = true := by decide +kernel
theorem w_running : about1.status = .running := rfl
set_option maxRecDepth 65536 in
theorem w_room : about1.hasRoom e0.platform room_1 = true :=
  launch0.hasRoom_least _ room_1 (by decide +kernel) (by decide +kernel) (by decide +kernel) (by decide +kernel) (by decide +kernel) (by decide +kernel)
theorem allAtoms_all (ts : List Jvm.Cond) (a : Array Jvm.Value) (st : Jvm.State) : (allAtoms ts).before a st = ts.all (fun c => c.before a st) := by
  induction ts with
  | nil => rfl
  | cons c t ih =>
    show (Jvm.Cond.and c (allAtoms t)).before a st = _
    rw [Jvm.Cond.before_and, ih, List.all_cons]
def words1 : List Jvm.Cond := Jvm.Cond.code x code maxLocals ret :: tables_1
/-- a 'code' word, met by the world's own term for the bytes: nothing is compared byte by byte -/
theorem code_word {y : MethodName} {bytes : ByteArray} {mx : Nat} {rt : Option FieldType} {a : Array Value} {s : State} {m : MethodId} {meth : Method} {c : Code} (h1 : s.methodNamed? y = some m) (h2 : s.vm.method? m = some meth) (h3 : meth.code = some c) (h4 : c.code = bytes)
    (h5 : (c.maxLocals == mx && c.exceptionTable.isEmpty && decide (c.maxStack ≤ mostOperands) && decide (meth.sig.returnType = rt) && !meth.locks && decide (parseMethodDescriptor y.desc = some meth.sig)) = true) : (Jvm.Cond.code y bytes mx rt).before a s = true := by
  simp only [Bool.and_eq_true, beq_iff_eq, Bool.not_eq_true', decide_eq_true_eq] at h5
  obtain ⟨⟨⟨⟨⟨g1, g2⟩, g3⟩, g4⟩, g5⟩, g6⟩ := h5
  simp [Cond.before, Cond.holds, Cond.value, h1, h2, h3, h4, g1, g2, g3, g4, g5, g6]
def isCode : Jvm.Cond → Bool
  | .code _ _ _ _ => true
  | _ => false
theorem all_split {L : List Jvm.Cond} {P : Jvm.Cond → Bool} (h1 : L.all (fun c => isCode c || P c) = true) (h2 : ∀ c ∈ L.filter isCode, P c = true) : L.all P = true := by
  refine List.all_eq_true.mpr fun c hc => ?_
  have h := List.all_eq_true.mp h1 c hc
  rcases Bool.eq_false_or_eq_true (isCode c) with hi | hi
  · exact h2 c (List.mem_filter.mpr ⟨hc, hi⟩)
  · simpa [hi] using h
set_option maxRecDepth 65536 in
theorem w_c0 : (Jvm.Cond.code x code maxLocals ret).before args0 about1 = true := code_word (m := ⟨1, 1⟩) (meth := k1m1) (c := k1c1) (by decide +kernel) rfl rfl rfl (by decide +kernel)
set_option maxRecDepth 65536 in
theorem w_c1 : (Jvm.Cond.code ({ cls := "com/example/lilybank/lilybank/retrieval/LengthNormalisation", name := "<init>", desc := "(DD)V" } : Jvm.MethodName) prog_38_method_1_code (5 : Nat) (Option.none : Option Jvm.ClassFile.FieldType)).before args0 about1 = true := code_word (m := ⟨3, 0⟩) (meth := k3m0) (c := k3c0) (by decide +kernel) rfl rfl rfl (by decide +kernel)
set_option maxRecDepth 65536 in
theorem w_c2 : (Jvm.Cond.code ({ cls := "java/lang/Record", name := "<init>", desc := "()V" } : Jvm.MethodName) jdk_30_method_1_code (1 : Nat) (Option.none : Option Jvm.ClassFile.FieldType)).before args0 about1 = true := code_word (m := ⟨2, 0⟩) (meth := k2m0) (c := k2c0) (by decide +kernel) rfl rfl rfl (by decide +kernel)
set_option maxRecDepth 65536 in
theorem w_c3 : (Jvm.Cond.code ({ cls := "java/lang/Object", name := "<init>", desc := "()V" } : Jvm.MethodName) object_method_1_code (1 : Nat) (Option.none : Option Jvm.ClassFile.FieldType)).before args0 about1 = true := code_word (m := ⟨0, 0⟩) (meth := k0m0) (c := k0c0) (by decide +kernel) rfl rfl rfl (by decide +kernel)
set_option maxRecDepth 65536 in
theorem w_c4 : (Jvm.Cond.code ({ cls := "com/example/lilybank/lilybank/retrieval/LengthNormalisation", name := "relativeLength", desc := "(ID)D" } : Jvm.MethodName) prog_38_method_2_code (4 : Nat) (Option.some Jvm.ClassFile.FieldType.double)).before args0 about1 = true := code_word (m := ⟨3, 1⟩) (meth := k3m1) (c := k3c1) (by decide +kernel) rfl rfl rfl (by decide +kernel)
def codes1 : List Jvm.Cond := [Jvm.Cond.code x code maxLocals ret, Jvm.Cond.code ({ cls := "com/example/lilybank/lilybank/retrieval/LengthNormalisation", name := "<init>", desc := "(DD)V" } : Jvm.MethodName) prog_38_method_1_code (5 : Nat) (Option.none : Option Jvm.ClassFile.FieldType), Jvm.Cond.code ({ cls := "java/lang/Record", name := "<init>", desc := "()V" } : Jvm.MethodName) jdk_30_method_1_code (1 : Nat) (Option.none : Option Jvm.ClassFile.FieldType), Jvm.Cond.code ({ cls := "java/lang/Object", name := "<init>", desc := "()V" } : Jvm.MethodName) object_method_1_code (1 : Nat) (Option.none : Option Jvm.ClassFile.FieldType), Jvm.Cond.code ({ cls := "com/example/lilybank/lilybank/retrieval/LengthNormalisation", name := "relativeLength", desc := "(ID)D" } : Jvm.MethodName) prog_38_method_2_code (4 : Nat) (Option.some Jvm.ClassFile.FieldType.double)]
set_option maxRecDepth 65536 in
theorem codes_eq : words1.filter isCode = codes1 := rfl
theorem w_codes : ∀ c ∈ words1.filter isCode, c.before args0 about1 = true := by
  rw [codes_eq]
  intro c hc
  simp only [codes1, List.mem_cons, List.not_mem_nil, or_false] at hc
  rcases hc with rfl | rfl | rfl | rfl | rfl
  · exact w_c0
  · exact w_c1
  · exact w_c2
  · exact w_c3
  · exact w_c4
set_option maxRecDepth 65536 in
theorem w_t1 : (words1.take 24).all (fun c => isCode c || c.before args0 about1) = true := by decide +kernel
set_option maxRecDepth 65536 in
theorem w_t2 : (words1.drop 24).all (fun c => isCode c || c.before args0 about1) = true := by decide +kernel
theorem w_tables : (allAtoms (Jvm.Cond.code x code maxLocals ret :: tables_1)).before args0 about1 = true := by
  rw [allAtoms_all]
  show words1.all (fun c => c.before args0 about1) = true
  refine all_split ?_ w_codes
  rw [← List.take_append_drop 24 words1, List.all_append, w_t1, w_t2]
  rfl
set_option maxRecDepth 65536 in
theorem w_case : (Jvm.Cond.and given_1 narrow_1).before args0 about1 = true := by decide +kernel
theorem w_applies : (headSpec (Jvm.Cond.code x code maxLocals ret :: tables_1) room_1).applies x e0.platform about1 = true :=
  (Spec.applies_iff w_frames).mpr ⟨w_running, w_runnable, w_alone, w_named, w_hears, w_ripe, w_room, w_tables⟩
theorem atStart : AtStart classFile x code maxLocals ret World_1 tables_1 room_1 Calls_1 rest_1 Pre_1 launch0 p0 e0 about1 theMethod args0 below0 :=
  ⟨lists_1, trivial, launch0.admits_env _ _ _, launch0.least_env, fairChoices_fair.cas, fairChoices_fair.clock, w_frames, w_args, w_heap, w_applies, trivial, trivial, w_case⟩
end start1
theorem witness_1 : WitnessClaimed_1 := ⟨start1.p0, start1.e0, start1.about1, start1.theMethod, start1.args0, start1.below0, start1.atStart⟩
end Jvm.Pilot.@@N@@
