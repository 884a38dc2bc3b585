import JvmDerived
import JvmDerived.Pilot.@@N@@Statement
import JvmDerived.Pilot.@@N@@Code
set_option linter.unusedVariables false
set_option linter.unusedSimpArgs false
namespace Jvm.OwnKit
open Sem ClassFile Op Lib Bundle Jvm.Stand Jvm.Free Jvm.LawKit Jvm.RoadKit
section Kit
variable {p : Program} {l : Launch} {e : Env} {R : Room} {s : State} {m : MethodId} {args : Array Value} {below : List Frame} {meth : Method} {c : Code} {Z : State} {a0 : Array Value} {EL : List (String × Nat)} {own : String} {Q : Option Value → Vm → Heap → Prop} {vm : Vm} {h : Heap} {cells slots : Nat} {g : JFrame}
/-- the k-th word -/
theorem ow {L : List Jvm.Cond} (hw : ∀ d ∈ L, d.before a0 Z = true) (k : Nat) {d : Jvm.Cond} (q : L[k]? = some d) : d.before a0 Z = true := hw _ (List.mem_of_getElem? q)
/-- a standing place of a walk that may have interned: tables vm, heap h, usage -/
def St (p : Program) (l : Launch) (e : Env) (R : Room) (s : State) (m : MethodId) (args : Array Value) (below : List Frame) (meth : Method) (c : Code) (Z : State) (a0 : Array Value) (EL : List (String × Nat)) (own : String) (vm : Vm) (T : State) (h : Heap) (cells slots : Nat) : Prop :=
  ∃ (locs : List Loc) (k0 : Nat), Stand p l e R (s.setVm vm) m args below meth c T locs cells slots ∧ T.heap = h ∧ Z.Warmed39 vm ∧ vm.findClass own = some m.cls ∧ s.Since vm k0 ∧ k0 ≤ h.size ∧ Fr Z.heap.size locs ∧ CHr Z EL s.vm s.heap vm h ∧ Ext Z.heap s.heap ∧ EW Z a0 EL ∧ p.tables.exec = Jvm.exec ∧ meth.locks = false
/-- from every such place with this frame the method ends as Q says -/
def Go (p : Program) (l : Launch) (e : Env) (R : Room) (s : State) (m : MethodId) (args : Array Value) (below : List Frame) (meth : Method) (c : Code) (Z : State) (a0 : Array Value) (EL : List (String × Nat)) (own : String) (Q : Option Value → Vm → Heap → Prop) (vm : Vm) (h : Heap) (cells slots : Nat) (g : JFrame) : Prop :=
  ∀ T, St p l e R s m args below meth c Z a0 EL own vm T h cells slots → ∃ s₂ o, Steps p.tables e below (T.setTop g) s₂ ∧ s₂.status = .running ∧ Ended s₂ below o ∧
    ∃ v L, o = .returned v ∧ (Fr Z.heap.size L ∧ Q v s₂.vm s₂.heap) ∧ CHr Z EL s.vm s.heap s₂.vm s₂.heap ∧ ReturnedEndW s o s₂ L R.cells R.slots
/-- a plain step -/
theorem gs (g' : JFrame) (st : ∀ T target, At T m c below → Steps p.tables e below (T.setTop g') target → Steps p.tables e below (T.setTop g) target)
    (k : Go p l e R s m args below meth c Z a0 EL own Q vm h cells slots g') : Go p l e R s m args below meth c Z a0 EL own Q vm h cells slots g := fun T X => by
  obtain ⟨s2, o, q1, q2⟩ := k T X
  obtain ⟨locs, k0, X', -⟩ := X
  exact ⟨s2, o, st _ _ X'.here q1, q2⟩
theorem gat (g' : JFrame) (q : g = g') (k : Go p l e R s m args below meth c Z a0 EL own Q vm h cells slots g') : Go p l e R s m args below meth c Z a0 EL own Q vm h cells slots g := q ▸ k
/-- a step that asks the standing place -/
theorem gx (g' : JFrame) (st : ∀ T locs, Stand p l e R (s.setVm vm) m args below meth c T locs cells slots → Z.Warmed39 vm → vm.findClass own = some m.cls → T.heap = h → ∀ target, Steps p.tables e below (T.setTop g') target → Steps p.tables e below (T.setTop g) target)
    (k : Go p l e R s m args below meth c Z a0 EL own Q vm h cells slots g') : Go p l e R s m args below meth c Z a0 EL own Q vm h cells slots g := fun T X => by
  obtain ⟨s2, o, q1, q2⟩ := k T X
  obtain ⟨locs, k0, X', eT, hZ, hown, -⟩ := X
  exact ⟨s2, o, st _ _ X' hZ hown eT _ q1, q2⟩
/-- a step to another state, the heap as it was -/
theorem gy (g' : JFrame) (st : ∀ T locs, Stand p l e R (s.setVm vm) m args below meth c T locs cells slots → Z.Warmed39 vm → vm.findClass own = some m.cls → T.heap = h → ∃ T', Stand p l e R (s.setVm vm) m args below meth c T' locs cells slots ∧ T'.heap = h ∧ ∀ target, Steps p.tables e below (T'.setTop g') target → Steps p.tables e below (T.setTop g) target)
    (k : Go p l e R s m args below meth c Z a0 EL own Q vm h cells slots g') : Go p l e R s m args below meth c Z a0 EL own Q vm h cells slots g := fun T X => by
  obtain ⟨locs, k0, X', eT, hZ, hown, r⟩ := X
  obtain ⟨T', X1, e1, s1⟩ := st T locs X' hZ hown eT
  obtain ⟨s2, o, q1, q2⟩ := k T' ⟨locs, k0, X1, e1, hZ, hown, r⟩
  exact ⟨s2, o, s1 _ q1, q2⟩
/-- what the standing place knows -/
theorem ginfo (k : Z.Warmed39 vm → CHv Z EL vm h → Ext Z.heap h → Go p l e R s m args below meth c Z a0 EL own Q vm h cells slots g) : Go p l e R s m args below meth c Z a0 EL own Q vm h cells slots g := fun T X => by
  have X0 := X
  obtain ⟨locs, k0, X', eT, hZ, hown, hS, hk, N, H, E0, r⟩ := X
  refine k hZ H.1 ⟨?_, ?_⟩ T X0
  · exact Nat.le_trans E0.1 H.2.1
  · intro b cl hcl
    have hb := (Array.getElem?_eq_some_iff.mp hcl).1
    obtain ⟨c', h1, h2, -, h4⟩ := X'.same.2.2.2.2.2 b cl (show s.heap[b]? = some cl from E0.2 b cl hcl)
    have hsl : c'.slots = cl.slots := Array.ext_getElem? fun i => h4 i fun hm => absurd (N _ hm) (Nat.not_le.mpr hb)
    have hcc : c' = cl := by rw [h2, hsl]
    have h1' : T.heap[b]? = some c' := h1
    rw [← eT, ← hcc]; exact h1'
theorem gmono {cells' slots' : Nat} (hc : cells ≤ cells') (hs : slots ≤ slots') (k : Go p l e R s m args below meth c Z a0 EL own Q vm h cells' slots' g) : Go p l e R s m args below meth c Z a0 EL own Q vm h cells slots g := fun T X => by
  obtain ⟨locs, k0, X', r⟩ := X
  exact k T ⟨locs, k0, { X' with same := X'.same.mono hc hs }, r⟩
/-- the heap grows at its end -/
theorem gnew {cells' slots' : Nat} {P : Heap → Prop} (g' : Heap → JFrame)
    (st : ∀ T locs, Stand p l e R (s.setVm vm) m args below meth c T locs cells slots → Z.Warmed39 vm → vm.findClass own = some m.cls → T.heap = h → ∃ T' h', Stand p l e R (s.setVm vm) m args below meth c T' locs cells' slots' ∧ T'.heap = h' ∧ Ext h h' ∧ P h' ∧ ∀ target, Steps p.tables e below (T'.setTop (g' h')) target → Steps p.tables e below (T.setTop g) target)
    (k : ∀ h', Ext h h' → CHr Z EL vm h vm h' → P h' → Z.heap.size ≤ h.size → Safe Z EL vm h' h.size → Go p l e R s m args below meth c Z a0 EL own Q vm h' cells' slots' (g' h')) : Go p l e R s m args below meth c Z a0 EL own Q vm h cells slots g := fun T X => by
  obtain ⟨locs, k0, X', eT, hZ, hown, hS, hk, N, H, E0, r⟩ := X
  obtain ⟨T', h', X1, e1, E, hP, s1⟩ := st T locs X' hZ hown eT
  obtain ⟨s2, o, q1, q2⟩ := k h' E (CHr.ext E H.1) hP (Nat.le_trans E0.1 H.2.1) (Safe.ext E H.1 (Safe.new (Nat.le_refl _))) T' ⟨locs, k0, X1, e1, hZ, hown, hS, Nat.le_trans hk E.1, N, H.trans (CHr.ext E H.1), E0, r⟩
  exact ⟨s2, o, s1 _ q1, q2⟩
/-- one place is written -/
theorem gwr (g' : JFrame) {a : Addr} {sl : Nat} {v : Value} (ha : Z.heap.size ≤ a) (hs : Z.vm.Alike vm → Safe Z EL vm h a)
    (st : ∀ T locs, Stand p l e R (s.setVm vm) m args below meth c T locs cells slots → Z.Warmed39 vm → vm.findClass own = some m.cls → T.heap = h → ∃ T' h', Stand p l e R (s.setVm vm) m args below meth c T' (locs ++ [⟨a, sl⟩]) cells slots ∧ T'.heap = h' ∧ Wr h h' a sl v ∧ ∀ target, Steps p.tables e below (T'.setTop g') target → Steps p.tables e below (T.setTop g) target)
    (k : ∀ h', Wr h h' a sl v → CHr Z EL vm h vm h' → Go p l e R s m args below meth c Z a0 EL own Q vm h' cells slots g') : Go p l e R s m args below meth c Z a0 EL own Q vm h cells slots g := fun T X => by
  obtain ⟨locs, k0, X', eT, hZ, hown, hS, hk, N, H, E0, r⟩ := X
  obtain ⟨T', h', X1, e1, W, s1⟩ := st T locs X' hZ hown eT
  obtain ⟨s2, o, q1, q2⟩ := k h' W (CHr.wr W (hs hZ.alike) H.1) T' ⟨_, k0, X1, e1, hZ, hown, hS, by rw [W.size]; exact hk, Fr.snoc X1 N ha, H.trans (CHr.wr W (hs hZ.alike) H.1), E0, r⟩
  exact ⟨s2, o, s1 _ q1, q2⟩
/-- the end -/
theorem gret {v : Option Value} (hv : meth.sig.returnType = none → v = none) (hc : cells ≤ R.cells) (hs : slots ≤ R.slots)
    (st : ∀ T locs fs, Stand p l e R (s.setVm vm) m args below meth c T locs cells slots → (∀ (f : JFrame) (acts : List Action), f.method = m → f.locked = none → f.entered = [] → (doReturn e (T.setTop f) acts v).1 = T.setFrames fs) → Steps p.tables e below (T.setTop g) (T.setFrames fs))
    (hq : ∀ vm', CHr Z EL vm h vm' h → Q v vm' h) : Go p l e R s m args below meth c Z a0 EL own Q vm h cells slots g := fun T X => by
  obtain ⟨locs, k0, X', eT, hZ, hown, hS, hk, N, H, E0, hw, hx, hlk⟩ := X
  obtain ⟨fs, hr, hrun, hend, hW⟩ := X'.leaveW hS (by rw [eT]; exact hk) hv hlk
  have C1 : CHr Z EL vm h T.vm h := CHv.at X' hZ hw H.1
  refine ⟨_, _, st T locs fs X' hr, hrun, hend, v, locs, rfl, ⟨N, ?_⟩, ?_, ?_⟩
  · show Q v T.vm T.heap
    rw [eT]; exact hq _ C1
  · show CHr Z EL s.vm s.heap T.vm T.heap
    rw [eT]; exact H.trans C1
  · exact ⟨hW.1, hW.2.1, hW.2.2.1, hW.2.2.2.mono hc hs⟩
theorem gretI {pc : Nat} {Ls : Array Slot} {z : Int32} {rest : List Value} (hx : p.tables.exec = Jvm.exec) (hret : meth.sig.returnType = some .int) (hd : decode c.code pc = .ok (.ireturn, 1)) (hc : cells ≤ R.cells) (hs : slots ≤ R.slots)
    (hq : ∀ vm', CHr Z EL vm h vm' h → Q (some (.int z)) vm' h) : Go p l e R s m args below meth c Z a0 EL own Q vm h cells slots (mkF m pc Ls (.int z :: rest)) :=
  gret (v := some (.int z)) (fun q => by rw [hret] at q; cases q) hc hs (fun T locs fs X hr => retOut X hx hret rfl (Or.inl ⟨rfl, Or.inl rfl, z, rfl⟩) hd hr) hq
theorem gretN {t : FieldType} {pc : Nat} {Ls : Array Slot} {z : Int32} {rest : List Value} (hx : p.tables.exec = Jvm.exec) (hret : meth.sig.returnType = some t) (ht : t = .boolean ∨ t = .byte ∨ t = .char ∨ t = .short) (hd : decode c.code pc = .ok (.ireturn, 1)) (hc : cells ≤ R.cells) (hs : slots ≤ R.slots)
    (hq : ∀ vm', CHr Z EL vm h vm' h → Q (some (.int (nar t z))) vm' h) : Go p l e R s m args below meth c Z a0 EL own Q vm h cells slots (mkF m pc Ls (.int z :: rest)) :=
  gret (v := some (.int (nar t z))) (fun q => by rw [hret] at q; cases q) hc hs (fun T locs fs X hr => retN X hx hret ht hd hr) hq
theorem gretJ {pc : Nat} {Ls : Array Slot} {z : Int64} {rest : List Value} (hx : p.tables.exec = Jvm.exec) (hret : meth.sig.returnType = some .long) (hd : decode c.code pc = .ok (.lreturn, 1)) (hc : cells ≤ R.cells) (hs : slots ≤ R.slots)
    (hq : ∀ vm', CHr Z EL vm h vm' h → Q (some (.long z)) vm' h) : Go p l e R s m args below meth c Z a0 EL own Q vm h cells slots (mkF m pc Ls (.long z :: rest)) :=
  gret (v := some (.long z)) (fun q => by rw [hret] at q; cases q) hc hs (fun T locs fs X hr => retOut X hx hret rfl (Or.inr (Or.inl ⟨rfl, rfl, z, rfl⟩)) hd hr) hq
theorem gretA {t : FieldType} {pc : Nat} {Ls : Array Slot} {v : Value} {rest : List Value} (hx : p.tables.exec = Jvm.exec) (hret : meth.sig.returnType = some t) (ht : t.isReference = true) (hv : v.isRef = true) (hd : decode c.code pc = .ok (.areturn, 1)) (hc : cells ≤ R.cells) (hs : slots ≤ R.slots)
    (hq : ∀ vm', CHr Z EL vm h vm' h → Q (some v) vm' h) : Go p l e R s m args below meth c Z a0 EL own Q vm h cells slots (mkF m pc Ls (v :: rest)) :=
  gret (v := some v) (fun q => by rw [hret] at q; cases q) hc hs (fun T locs fs X hr => retOut X hx hret (by cases t <;> first | (cases ht; done) | (cases v <;> first | rfl | (cases hv; done))) (Or.inr (Or.inr (Or.inr (Or.inr ⟨rfl, ht, hv⟩)))) hd hr) hq
theorem gretV {pc : Nat} {Ls : Array Slot} (hx : p.tables.exec = Jvm.exec) (hret : meth.sig.returnType = none) (hd : decode c.code pc = .ok (.return_, 1)) (hc : cells ≤ R.cells) (hs : slots ≤ R.slots)
    (hq : ∀ vm', CHr Z EL vm h vm' h → Q none vm' h) : Go p l e R s m args below meth c Z a0 EL own Q vm h cells slots (mkF m pc Ls []) :=
  gret (v := none) (fun _ => rfl) hc hs (fun T locs fs X hr => X.returnOut hx hret hd hr) hq
/-! contracts -/
def Met (l : Launch) (y : MethodName) (bytes : ByteArray) (maxL : Nat) (ret : Option FieldType) (ws : List Jvm.Cond) (rm : Room) (Z : State) (EL : List (String × Nat)) (vm0 : Vm) (h0 : Heap) (as' : Array Value) (Q : Option Value → Vm → Heap → Prop) : Prop :=
  MetFree l y (head1 (Jvm.Cond.code y bytes maxL ret :: ws) rm) (fun a U => a = as' ∧ Z.Warmed39 U.vm ∧ U.heap = h0 ∧ CHr Z EL vm0 h0 U.vm h0) (fun _ _ _ _ _ => True)
    (fun _ U o U' => ∃ v L, o = .returned v ∧ (Fr Z.heap.size L ∧ Q v U'.vm U'.heap) ∧ CHr Z EL U.vm U.heap U'.vm U'.heap ∧ ReturnedEndW U o U' L rm.cells rm.slots)
theorem Met.of_walk {y : MethodName} {bytes : ByteArray} {maxL : Nat} {ret : Option FieldType} {ws : List Jvm.Cond} {rm : Room} {vm0 : Vm} {h0 : Heap} {as' : Array Value} (L0 : Array Slot) (hpn : plainFor y = true) (X00 : Ext Z.heap h0) (hEL : EW Z a0 EL)
    (hef : ∀ m, entryFrame m as' maxL = mkF m 0 L0 [])
    (walk : ∀ (p : Program) (e : Env) (s : State) (m : MethodId) (below : List Frame) (meth : Method) (c : Code) (vm : Vm), p.tables.exec = Jvm.exec → c.code = bytes → c.maxLocals = maxL → meth.sig.returnType = ret → meth.name = y.name → CHr Z EL vm0 h0 vm h0 →
      Go p l e rm s m as' below meth c Z a0 EL y.cls Q vm h0 0 0 (mkF m 0 L0 [])) : Met l y bytes maxL ret ws rm Z EL vm0 h0 as' Q := by
  refine MetFree.of_bodySF hpn hisR ?_
  intro p e s m args below meth c s₁ Bd hml0 hP hK
  obtain ⟨rfl, hZ, hh, hC⟩ := hP
  have X0 : Stand p l e rm s m args below meth c s₁ [] 0 0 := Stand.of_body Bd
  have e0 : s₁.heap = h0 := by rw [← hh, Bd.state]; rfl
  obtain ⟨s2, o, q1, q2⟩ := walk p e s m below meth c s.vm Bd.exec Bd.bytes hml0 Bd.returns (name_of_methodNamed Bd.named Bd.method).1 hC s₁
    ⟨[], 0, X0, e0, hZ, findClass_of_methodNamed Bd.named, (State.WarmedH.refl s).since 0, Nat.zero_le _, Fr.nil _, by rw [hh]; exact CHr.refl hC.1, by rw [hh]; exact X00, hEL, Bd.exec, Bd.notSynchronized⟩
  exact ⟨s2, o, by rw [hef]; exact q1, q2⟩
def Pay (l : Launch) (R : Room) (p : Program) (e : Env) (below : List Frame) (s : State) (args : Array Value) (Z : State) (EL : List (String × Nat)) (vm : Vm) (h : Heap) (y : MethodName) (len W : Nat) (as' : Array Value) (rc rs : Nat) (Q : Option Value → Vm → Heap → Prop) : Prop :=
  BackS l R p e below (s.setVm vm) args y len W (fun A a => a = as' ∧ A.U.heap = h ∧ A.cells + rc ≤ R.cells ∧ A.slots + rs ≤ R.slots)
    (fun A _ v B => ∃ L, (Fr Z.heap.size L ∧ Q v B.U.vm B.U.heap) ∧ B.locs = A.locs ++ L ∧ B.cells = A.cells + rc ∧ B.slots = A.slots + rs ∧ CHr Z EL vm h B.U.vm B.U.heap)
theorem Pay.of_met {y : MethodName} {bytes : ByteArray} {maxL : Nat} {ret : Option FieldType} {rm : Room} {len W : Nat} {as' : Array Value} (hM : Met l y bytes maxL ret [] rm Z EL vm h as' Q)
    (wc : (Jvm.Cond.code y bytes maxL ret).before a0 Z = true) (wz : (Jvm.Cond.initialized y.cls).before a0 Z = true) (hf : rm.frames + 1 ≤ R.frames) (hl : W + (maxL + 11) + rm.locals ≤ R.locals) (hZ : Z.Warmed39 vm) (H : CHv Z EL vm h) (hEL : EW Z a0 EL) :
    Pay l R p e below s args Z EL vm h y len W as' rm.cells rm.slots Q :=
  BackS.of_freeW (bytes := bytes) (maxL := maxL) (ret := ret) (E := fun _ first o t L k n => k = rm.cells ∧ n = rm.slots ∧ (∃ v, o = .returned v ∧ (Fr Z.heap.size L ∧ Q v t.vm t.heap)) ∧ CHr Z EL first.vm first.heap t.vm t.heap) hM hf hl
    (fun m meth c A a Y hp => have hU : Z.Warmed39 A.U.vm := wtrans (s := s.setVm vm) hZ Y.warmed
      ⟨by show (Jvm.Cond.and _ .tt).before a A.U = true; rw [Cond.before_and, mv hU wc]; rfl, mv hU wc, mv hU wz, hp.2.2.1, hp.2.2.2⟩)
    (fun m meth c A a g mk Y hp => ⟨hp.1, wtrans (s := s.setVm vm) hZ Y.warmed, hp.2.1, (show CHr Z EL vm h A.U.vm h from CHv.at Y hZ hEL H)⟩) (fun _ _ _ _ _ _ _ _ _ => trivial)
    (fun _ _ _ _ ⟨v, L, h1, h2, h3, h4⟩ => ⟨L, _, _, h4, rfl, rfl, ⟨v, h1, h2⟩, h3⟩)
    (fun m meth c A a g mk v t L k n Y hp _ _ ⟨e1, e2, ⟨v', e3, e4⟩, e5⟩ => by
      cases e3; subst e1 e2
      refine ⟨L, e4, rfl, rfl, rfl, (CHv.at Y hZ hEL H).trans ?_⟩
      rw [← hp.2.1]; exact e5)
theorem Pay.of_back {y : MethodName} {len W : Nat} {as' : Array Value} {rc rs : Nat} {Q0 : Option Value → Heap → List Loc → Prop}
    (hK : Back l R p e below (s.setVm vm) args y len W (fun A a => a = as' ∧ A.U.heap = h ∧ A.cells + rc ≤ R.cells ∧ A.slots + rs ≤ R.slots) (fun A _ v B => ∃ L, Q0 v B.U.heap L ∧ B.locs = A.locs ++ L ∧ B.cells = A.cells + rc ∧ B.slots = A.slots + rs))
    (hZ : Z.Warmed39 vm) (H : CHv Z EL vm h) (hEL : EW Z a0 EL)
    (hq : ∀ v h' L, Q0 v h' L → Fr Z.heap.size L ∧ (∃ ws, Keep h h' ws ∧ ∀ x ∈ ws, Safe Z EL vm h x) ∧ ∀ vm', CHr Z EL vm h vm' h' → Q v vm' h') : Pay l R p e below s args Z EL vm h y len W as' rc rs Q := by
  intro m meth c A g ig mk a X hg hsize hdg hW hn hp
  obtain ⟨v, B, X', ⟨L, q0, q1, q2, q3⟩, hsteps⟩ := hK m meth c A g ig mk a X hg hsize hdg hW hn hp
  obtain ⟨hF, ⟨ws, K, hs⟩, hQ⟩ := hq _ _ _ q0
  have C1 : CHr Z EL vm h vm B.U.heap := CHr.keep K hs H
  have C2 : CHr Z EL vm h B.U.vm B.U.heap := C1.trans (CHv.at X' hZ hEL C1.1)
  exact ⟨v, B, X'.retabled X'.warmed.wide, X'.warmed.since _, by rw [hp.2.1]; exact K.1, ⟨L, ⟨hF, hQ _ C2⟩, q1, q2, q3, C2⟩, hsteps⟩
theorem Pay.mono {y : MethodName} {len W rc rs : Nat} {as' : Array Value} {Q' : Option Value → Vm → Heap → Prop} (hP : Pay l R p e below s args Z EL vm h y len W as' rc rs Q) (hq : ∀ v vm' h', Q v vm' h' → Q' v vm' h') : Pay l R p e below s args Z EL vm h y len W as' rc rs Q' := by
  intro m meth c A g ig mk a X hg hsize hdg hW hn hp
  obtain ⟨v, B, X', h1, h2, ⟨L, ⟨q1, q2⟩, r⟩, st⟩ := hP m meth c A g ig mk a X hg hsize hdg hW hn hp
  exact ⟨v, B, X', h1, h2, ⟨L, ⟨q1, hq _ _ _ q2⟩, r⟩, st⟩
/-- behind any call -/
theorem gback {y : MethodName} {rc rs : Nat} {as' : Array Value} {Q' : Option Value → Vm → Heap → Prop} {rest : List Value} {pc' : Nat} {L : Array Slot}
    (st : ∀ T locs, Stand p l e R (s.setVm vm) m args below meth c T locs cells slots → Z.Warmed39 vm → vm.findClass own = some m.cls → T.heap = h → CHv Z EL vm h → EW Z a0 EL →
      ∃ (v : Option Value) (vm₁ : Vm) (B : Pt), (s.setVm vm).WarmedH vm₁ ∧ Stand p l e R ((s.setVm vm).setVm B.U.vm) m args below meth c B.U B.locs B.cells B.slots ∧ (s.setVm vm).Since B.U.vm B.U.heap.size ∧ T.heap.size ≤ B.U.heap.size ∧
        (∃ L, (Fr Z.heap.size L ∧ Q' v B.U.vm B.U.heap) ∧ B.locs = locs ++ L ∧ B.cells = cells + rc ∧ B.slots = slots + rs ∧ CHr Z EL vm h B.U.vm B.U.heap) ∧ Steps p.tables e below (T.setTop g) (B.U.setTop (mkF m pc' L (v.toList ++ rest))))
    (k : ∀ v vm' h', CHr Z EL vm h vm' h' → Q' v vm' h' → Go p l e R s m args below meth c Z a0 EL own Q vm' h' (cells + rc) (slots + rs) (mkF m pc' L (v.toList ++ rest))) : Go p l e R s m args below meth c Z a0 EL own Q vm h cells slots g := fun T X => by
  obtain ⟨locs, k0, X', eT, hZ, hown, hS, hk, N, H, E0, hEL, hx, hlk⟩ := X
  obtain ⟨v, vm1, ⟨U, Lx, cx, sx⟩, hW1, X1, hS1, hgr, ⟨L1, ⟨hF, hQ⟩, hl, hc, hs, hC⟩, s1⟩ := st T locs X' hZ hown eT H.1 hEL
  dsimp only [Pt.U, Pt.locs, Pt.cells, Pt.slots] at X1 hS1 hgr hF hQ hl hc hs hC s1
  subst hl hc hs
  obtain ⟨s2, o, q1, q2⟩ := k v U.vm U.heap hC hQ U ⟨_, U.heap.size, X1, rfl, State.Warmed39.trans (t := s.setVm vm) hZ hS1.1, (hS1.1.alike.findClass _ _).trans hown, hS.trans hS1 (Nat.le_trans hk (by rw [← eT]; exact hgr)), Nat.le_refl _, Fr.app N hF, H.trans hC, E0, hEL, hx, hlk⟩
  exact ⟨s2, o, s1.trans q1, q2⟩
end Kit
end Jvm.OwnKit
namespace Jvm.OwnKit
open Sem ClassFile Op Lib Bundle Jvm.Stand Jvm.Free Jvm.LawKit Jvm.RoadKit
section Kit2
variable {p : Program} {l : Launch} {e : Env} {R : Room} {s : State} {m : MethodId} {args : Array Value} {below : List Frame} {meth : Method} {c : Code} {Z : State} {a0 : Array Value} {EL : List (String × Nat)} {own : String} {Q : Option Value → Vm → Heap → Prop} {vm : Vm} {h : Heap} {cells slots : Nat} {g : JFrame}
/-! calls -/
theorem gcallS {index : Nat} {y : MethodName} {bytes : ByteArray} {maxL : Nat} {ret : Option FieldType} (hx : p.tables.exec = Jvm.exec) (wl : (Cond.methodLink own index y).before a0 Z = true) (wst : (Cond.static y).before a0 Z = true) (wz : (Cond.initialized y.cls).before a0 Z = true) (wc : (Cond.code y bytes maxL ret).before a0 Z = true)
    (hy : y.cls ≠ "java/lang/invoke/MethodHandle" ∧ y.cls ≠ "java/lang/invoke/VarHandle") {W rc rs : Nat} {as' : Array Value} {Q' : Option Value → Vm → Heap → Prop} (hP : Z.Warmed39 vm → CHv Z EL vm h → EW Z a0 EL → Pay l R p e below s args Z EL vm h y 3 W as' rc rs Q')
    {pc : Nat} (pc' : Nat) {L : Array Slot} {S argsL rest : List Value} (hlen : ∀ sig, parseMethodDescriptor y.desc = some sig → argsL.length = sig.parameters.length) (has : argsL.toArray = as') (hstk : S = argsL.reverse ++ rest) (hW : (rest.map fun v => v.category).sum ≤ W) (hml : L.size = c.maxLocals)
    (hd : decode c.code pc = .ok (.invokestatic index, 3)) (hp : pc + 3 = pc') (hc : cells + rc ≤ R.cells) (hs : slots + rs ≤ R.slots)
    (k : ∀ v vm' h', CHr Z EL vm h vm' h' → Q' v vm' h' → Go p l e R s m args below meth c Z a0 EL own Q vm' h' (cells + rc) (slots + rs) (mkF m pc' L (v.toList ++ rest))) : Go p l e R s m args below meth c Z a0 EL own Q vm h cells slots (mkF m pc L S) :=
  gback (y := y) (as' := as') (fun T locs X hZ hown eT H hEL => by
    subst has hp hstk
    exact callSS (s := s.setVm vm) X hx hown (mvT hZ wl) (mvT hZ wst) (mvT hZ wz) (mvT hZ wc) hy (hP hZ H hEL) (g := mkF m pc L _) rfl hml hlen rfl (by show 2 * 0 + _ ≤ _; omega) hd (fun _ _ => ⟨rfl, eT, hc, hs⟩)) k
theorem gcallI {index : Nat} {y : MethodName} {bytes : ByteArray} {maxL : Nat} (hx : p.tables.exec = Jvm.exec) (hyi : y.name = "<init>") (wl : (Cond.methodLink own index y).before a0 Z = true) (wi : (Cond.instanceMethod y).before a0 Z = true) (wc : (Cond.code y bytes maxL none).before a0 Z = true)
    (hy : y.cls ≠ "java/lang/invoke/MethodHandle" ∧ y.cls ≠ "java/lang/invoke/VarHandle") {W rc rs : Nat} {as' : Array Value} {Q' : Option Value → Vm → Heap → Prop} (hP : Z.Warmed39 vm → CHv Z EL vm h → EW Z a0 EL → Pay l R p e below s args Z EL vm h y 3 W as' rc rs Q')
    {pc : Nat} (pc' : Nat) {L : Array Slot} {S argsL rest : List Value} {a : Addr} (hlen : ∀ sig, parseMethodDescriptor y.desc = some sig → argsL.length = sig.parameters.length) (has : (.ref a :: argsL).toArray = as') (hstk : S = argsL.reverse ++ .ref a :: rest) (hW : (rest.map fun v => v.category).sum ≤ W) (hml : L.size = c.maxLocals)
    (hd : decode c.code pc = .ok (.invokespecial index, 3)) (hp : pc + 3 = pc') (hc : cells + rc ≤ R.cells) (hs : slots + rs ≤ R.slots)
    (k : ∀ v vm' h', CHr Z EL vm h vm' h' → Q' v vm' h' → Go p l e R s m args below meth c Z a0 EL own Q vm' h' (cells + rc) (slots + rs) (mkF m pc' L (v.toList ++ rest))) : Go p l e R s m args below meth c Z a0 EL own Q vm h cells slots (mkF m pc L S) :=
  gback (y := y) (as' := as') (fun T locs X hZ hown eT H hEL => by
    subst has hp hstk
    exact X.specialBackS (s := s.setVm vm) hx hyi hown (mvT hZ wl) (mvT hZ wi) (mvT hZ wc) hy (hP hZ H hEL) (g := mkF m pc L _) rfl hml (Steps.refl _) hlen rfl (by show 2 * 0 + _ ≤ _; omega) hd (fun _ _ => ⟨rfl, eT, hc, hs⟩)) k
theorem gcallV {index : Nat} {C : String} {y z : MethodName} (hx : p.tables.exec = Jvm.exec) (wl : (Cond.methodLink own index y).before a0 Z = true) (wd : (Cond.declares y).before a0 Z = true) (nf : ∀ (U : State), Z.Warmed39 U.vm → NotFace U y) (wsel : (Cond.selects C y z).before a0 Z = true) (wi : (Cond.instanceMethod z).before a0 Z = true)
    (hy : y.cls ≠ "java/lang/invoke/MethodHandle" ∧ y.cls ≠ "java/lang/invoke/VarHandle") {W rc rs : Nat} {as' : Array Value} {Q' : Option Value → Vm → Heap → Prop} (hP : Z.Warmed39 vm → CHv Z EL vm h → EW Z a0 EL → Pay l R p e below s args Z EL vm h z 3 W as' rc rs Q')
    {pc : Nat} (pc' : Nat) {L : Array Slot} {S argsL rest : List Value} {a : Addr} (E : Exa Z h a C) (hlen : ∀ sig, parseMethodDescriptor y.desc = some sig → argsL.length = sig.parameters.length) (has : (.ref a :: argsL).toArray = as') (hstk : S = argsL.reverse ++ .ref a :: rest) (hW : (rest.map fun v => v.category).sum ≤ W) (hml : L.size = c.maxLocals)
    (hd : decode c.code pc = .ok (.invokevirtual index, 3)) (hp : pc + 3 = pc') (hc : cells + rc ≤ R.cells) (hs : slots + rs ≤ R.slots)
    (k : ∀ v vm' h', CHr Z EL vm h vm' h' → Q' v vm' h' → Go p l e R s m args below meth c Z a0 EL own Q vm' h' (cells + rc) (slots + rs) (mkF m pc' L (v.toList ++ rest))) : Go p l e R s m args below meth c Z a0 EL own Q vm h cells slots (mkF m pc L S) :=
  gback (y := z) (as' := as') (fun T locs X hZ hown eT H hEL => by
    subst has hp hstk
    obtain ⟨cB, kB, h1, h2, h3⟩ := isOf (s := s.setVm vm) hZ eT E
    exact X.virtualBackS (s := s.setVm vm) hx hown (mvT hZ wl) (mvT hZ wd) (nf _ hZ) (mvT hZ wsel) (mvT hZ wi) hy (hP hZ H hEL) h1 h3 (g := mkF m pc L _) rfl hml (Steps.refl _) hlen rfl (by show 2 * 0 + _ ≤ _; omega) hd (fun _ _ => ⟨rfl, eT, hc, hs⟩)) k
theorem nfSel {C : String} {y : MethodName} (w : (Cond.selects C y y).before a0 Z = true) : ∀ (U : State), Z.Warmed39 U.vm → NotFace U y := fun U hU => notFace_of_selects (args := #[]) (mvT hU w)
theorem nfSup {S : String} {y : MethodName} (w : (Cond.superclass y.cls S).before a0 Z = true) : ∀ (U : State), Z.Warmed39 U.vm → NotFace U y := fun U hU => nf_super (args := #[]) (mvT hU w)
theorem nfTop {y : MethodName} (w : (Cond.noSuperclass y.cls).before a0 Z = true) : ∀ (U : State), Z.Warmed39 U.vm → NotFace U y := fun U hU => nf_top (args := #[]) (mvT hU w)
theorem gcallF {index count : Nat} {C : String} {xi y : MethodName} (hx : p.tables.exec = Jvm.exec) (wl : (Cond.methodLink own index xi).before a0 Z = true) (wd : (Cond.declares xi).before a0 Z = true) (wf : ∀ (U : State) (aa : Array Value), Z.Warmed39 U.vm → (Cond.interfaceMethod xi.cls xi.cls xi.name xi.desc).before aa U = true) (wsel : (Cond.selects C xi y).before a0 Z = true) (wi : (Cond.instanceMethod y).before a0 Z = true)
    (wp : (Cond.publicMethod y).before a0 Z = true) (wu : (Cond.unhidden C xi.name xi.desc).before a0 Z = true) (wca : (Cond.castable C xi.cls).before a0 Z = true)
    (hy : xi.cls ≠ "java/lang/invoke/MethodHandle" ∧ xi.cls ≠ "java/lang/invoke/VarHandle") {W rc rs : Nat} {as' : Array Value} {Q' : Option Value → Vm → Heap → Prop} (hP : Z.Warmed39 vm → CHv Z EL vm h → EW Z a0 EL → Pay l R p e below s args Z EL vm h y 5 W as' rc rs Q')
    {pc : Nat} (pc' : Nat) {L : Array Slot} {S argsL rest : List Value} {a : Addr} (E : Exa Z h a C) (hlen : ∀ sig, parseMethodDescriptor xi.desc = some sig → argsL.length = sig.parameters.length) (has : (.ref a :: argsL).toArray = as') (hstk : S = argsL.reverse ++ .ref a :: rest) (hW : (rest.map fun v => v.category).sum ≤ W) (hml : L.size = c.maxLocals)
    (hd : decode c.code pc = .ok (.invokeinterface index count, 5)) (hp : pc + 5 = pc') (hc : cells + rc ≤ R.cells) (hs : slots + rs ≤ R.slots)
    (k : ∀ v vm' h', CHr Z EL vm h vm' h' → Q' v vm' h' → Go p l e R s m args below meth c Z a0 EL own Q vm' h' (cells + rc) (slots + rs) (mkF m pc' L (v.toList ++ rest))) : Go p l e R s m args below meth c Z a0 EL own Q vm h cells slots (mkF m pc L S) :=
  gback (y := y) (as' := as') (fun T locs X hZ hown eT H hEL => by
    subst has hp hstk
    obtain ⟨cB, kB, h1, h2, h3⟩ := isOf (s := s.setVm vm) hZ eT E
    exact X.interfaceBackS (s := s.setVm vm) hx hown (mvT hZ wl) (mvT hZ wd) (wf _ _ hZ) (mvT hZ wsel) (mvT hZ wi) (mvT hZ wp) (mvT hZ wu) (mvT hZ wca) hy (hP hZ H hEL) h1 h2 h3 (g := mkF m pc L _) rfl hml (Steps.refl _) hlen rfl (by show 2 * 0 + _ ≤ _; omega) hd (fun _ _ => ⟨rfl, eT, hc, hs⟩)) k
theorem gcallU {index : Nat} {K : String} {y : MethodName} {bytes : ByteArray} {maxL : Nat} {ret : Option FieldType} (hx : p.tables.exec = Jvm.exec) (wl : (Cond.methodLink own index y).before a0 Z = true) (wsm : (Cond.sameMethod y.cls y.cls y.name y.desc).before a0 Z = true) (wi : (Cond.instanceMethod y).before a0 Z = true) (wsu : (Cond.superclass own y.cls).before a0 Z = true) (hn : y.name ≠ "<init>") (wc : (Cond.code y bytes maxL ret).before a0 Z = true)
    {W rc rs : Nat} {as' : Array Value} {Q' : Option Value → Vm → Heap → Prop} (hP : Z.Warmed39 vm → CHv Z EL vm h → EW Z a0 EL → Pay l R p e below s args Z EL vm h y 3 W as' rc rs Q')
    {pc : Nat} (pc' : Nat) {L : Array Slot} {S argsL rest : List Value} {a : Addr} (I : Ins Z h a K true) (hlen : ∀ sig, parseMethodDescriptor y.desc = some sig → argsL.length = sig.parameters.length) (has : (.ref a :: argsL).toArray = as') (hstk : S = argsL.reverse ++ .ref a :: rest) (hW : (rest.map fun v => v.category).sum ≤ W) (hml : L.size = c.maxLocals)
    (hd : decode c.code pc = .ok (.invokespecial index, 3)) (hp : pc + 3 = pc') (hc : cells + rc ≤ R.cells) (hs : slots + rs ≤ R.slots)
    (k : ∀ v vm' h', CHr Z EL vm h vm' h' → Q' v vm' h' → Go p l e R s m args below meth c Z a0 EL own Q vm' h' (cells + rc) (slots + rs) (mkF m pc' L (v.toList ++ rest))) : Go p l e R s m args below meth c Z a0 EL own Q vm h cells slots (mkF m pc L S) :=
  gback (y := y) (as' := as') (fun T locs X hZ hown eT H hEL => by
    subst has hp hstk
    exact superBackS (s := s.setVm vm) X hx hZ hown wl wsm wi wsu hn (hP hZ H hEL) eT I (g := mkF m pc L _) rfl hml wc hlen rfl (by show 2 * 0 + _ ≤ _; omega) hd (fun _ _ => ⟨rfl, eT, hc, hs⟩)) k
theorem gcallP {index : Nat} {y : MethodName} {bytes : ByteArray} {maxL : Nat} {ret : Option FieldType} (hx : p.tables.exec = Jvm.exec) (wl : (Cond.methodLink own index y).before a0 Z = true) (wi : (Cond.instanceMethod y).before a0 Z = true) (wsel : (Cond.selects y.cls y y).before a0 Z = true) (wp : (Cond.privateMethod y).before a0 Z = true) (wc : (Cond.code y bytes maxL ret).before a0 Z = true)
    (hy : y.cls ≠ "java/lang/invoke/MethodHandle" ∧ y.cls ≠ "java/lang/invoke/VarHandle") {W rc rs : Nat} {as' : Array Value} {Q' : Option Value → Vm → Heap → Prop} (hP : Z.Warmed39 vm → CHv Z EL vm h → EW Z a0 EL → Pay l R p e below s args Z EL vm h y 3 W as' rc rs Q')
    {pc : Nat} (pc' : Nat) {L : Array Slot} {S argsL rest : List Value} {a : Addr} {K : String} (E : Exa Z h a K) (hlen : ∀ sig, parseMethodDescriptor y.desc = some sig → argsL.length = sig.parameters.length) (has : (.ref a :: argsL).toArray = as') (hstk : S = argsL.reverse ++ .ref a :: rest) (hW : (rest.map fun v => v.category).sum ≤ W) (hml : L.size = c.maxLocals)
    (hd : decode c.code pc = .ok (.invokevirtual index, 3)) (hp : pc + 3 = pc') (hc : cells + rc ≤ R.cells) (hs : slots + rs ≤ R.slots)
    (k : ∀ v vm' h', CHr Z EL vm h vm' h' → Q' v vm' h' → Go p l e R s m args below meth c Z a0 EL own Q vm' h' (cells + rc) (slots + rs) (mkF m pc' L (v.toList ++ rest))) : Go p l e R s m args below meth c Z a0 EL own Q vm h cells slots (mkF m pc L S) :=
  gback (y := y) (as' := as') (fun T locs X hZ hown eT H hEL => by
    subst has hp hstk
    obtain ⟨cq, q1, q2⟩ := E.cell
    exact X.privateBackS (s := s.setVm vm) hx hown (mvT hZ wl) (mvT hZ wi) (mvT hZ wsel) (Cond.privateMethod_at (mvP (s := s.setVm vm) hZ wp (args := #[]))) (mvT hZ wc) hy (hP hZ H hEL) (g := mkF m pc L _) rfl hml (Steps.refl _) (by rw [eT]; exact q1) q2 hlen rfl (by show 2 * 0 + _ ≤ _; omega) hd (fun _ _ => ⟨rfl, eT, hc, hs⟩)) k
/-- Object.<init> -/
theorem ginitO {idx : Nat} (hx : p.tables.exec = Jvm.exec) (w1 : (Cond.methodLink own idx Lib.objectInit).before a0 Z = true) (w2 : (Cond.instanceMethod Lib.objectInit).before a0 Z = true) (w3 : (Cond.code Lib.objectInit ⟨#[0xb1]⟩ 1 none).before a0 Z = true)
    {pc : Nat} (pc' : Nat) {L : Array Slot} {rest : List Value} {a : Addr} {W : Nat} (hW : (rest.map fun v => v.category).sum ≤ W) (hml : L.size = c.maxLocals) (hd : decode c.code pc = .ok (.invokespecial idx, 3)) (hp : pc + 3 = pc') (hf : 1 ≤ R.frames) (hl : W + 12 ≤ R.locals)
    (k : Go p l e R s m args below meth c Z a0 EL own Q vm h cells slots (mkF m pc' L rest)) : Go p l e R s m args below meth c Z a0 EL own Q vm h cells slots (mkF m pc L (.ref a :: rest)) :=
  gy _ (fun T locs X hZ hown eT => by
    subst hp
    exact initO (s := s.setVm vm) X hx hZ hown w1 w2 w3 eT (g := mkF m pc L (.ref a :: rest)) rfl hml rfl hd hf (W := W) (by show 2 * 0 + _ ≤ _; omega) hl) k
/-! fields -/
theorem ggetF {R0 O n d host : String} {index : Nat} (hx : p.tables.exec = Jvm.exec) (w : (Cond.fieldLink own index R0 n d).before a0 Z = true ∨ (Cond.fieldLinkNest own index R0 n d host).before a0 Z = true) (via : Via Z R0 O n d) {a : Addr} {v : Value} (F : Fld Z h a O n d v)
    {pc : Nat} (pc' : Nat) {L : Array Slot} {rest : List Value} (hd : decode c.code pc = .ok (.getfield index, 3)) (hp : pc + 3 = pc')
    (k : Go p l e R s m args below meth c Z a0 EL own Q vm h cells slots (mkF m pc' L (v :: rest))) : Go p l e R s m args below meth c Z a0 EL own Q vm h cells slots (mkF m pc L (.ref a :: rest)) :=
  gy _ (fun T locs X hZ hown eT => by
    subst hp
    exact getF (s := s.setVm vm) X hx hZ hown (host := host) w via eT F (g := mkF m pc L (.ref a :: rest)) rfl rfl hd) k
theorem ggetS {R0 O n d host : String} {index : Nat} (hx : p.tables.exec = Jvm.exec) (w : (Cond.fieldLink own index R0 n d).before a0 Z = true ∨ (Cond.fieldLinkNest own index R0 n d host).before a0 Z = true) (via : Via Z R0 O n d) {v : Value} (F : Sta Z Z.heap O n d v)
    {pc : Nat} (pc' : Nat) {L : Array Slot} {S : List Value} (hd : decode c.code pc = .ok (.getstatic index, 3)) (hp : pc + 3 = pc')
    (k : Go p l e R s m args below meth c Z a0 EL own Q vm h cells slots (mkF m pc' L (v :: S))) : Go p l e R s m args below meth c Z a0 EL own Q vm h cells slots (mkF m pc L S) :=
  ginfo fun _ _ E => gy _ (fun T locs X hZ hown eT => by
    subst hp
    exact getS2 (s := s.setVm vm) X hx hZ hown (host := host) w via eT (F.ext E) (g := mkF m pc L S) rfl hd) k
theorem gputF {R0 O n d host C : String} {index kk : Nat} {ty : FieldType} (hx : p.tables.exec = Jvm.exec) (w : (Cond.fieldLink own index R0 n d).before a0 Z = true ∨ (Cond.fieldLinkNest own index R0 n d host).before a0 Z = true) (via : Via Z R0 O n d) {a : Addr} {v old : Value} (F : Fld Z h a O n d old) (E : Exa Z h a C)
    (Lw : (Cond.lays C O n d).before a0 Z = true ∨ ((Cond.laysFinal C O n d).before a0 Z = true ∧ own = O ∧ meth.name = "<init>")) (wi : (Cond.instantiable C kk).before a0 Z = true) (hty : parseFieldDescriptor d = some ty) (hn : narrow ty v = v) (hf : fits ty v = true) (ha : Z.heap.size ≤ a) (hs : Z.vm.Alike vm → Safe Z EL vm h a)
    {pc : Nat} (pc' : Nat) {L : Array Slot} {rest : List Value} (hd : decode c.code pc = .ok (.putfield index, 3)) (hp : pc + 3 = pc')
    (k : ∀ h', Wr h h' a (Jvm.RoadKit.slotOf Z O n d) v → CHr Z EL vm h vm h' → Go p l e R s m args below meth c Z a0 EL own Q vm h' cells slots (mkF m pc' L rest)) : Go p l e R s m args below meth c Z a0 EL own Q vm h cells slots (mkF m pc L (v :: .ref a :: rest)) :=
  gwr _ ha hs (fun T locs X hZ hown eT => by
    subst hp
    exact putF (s := s.setVm vm) X hx hZ hown (host := host) w via eT F E Lw wi hty hn hf (g := mkF m pc L (v :: .ref a :: rest)) rfl rfl hd) k
/-! objects and arrays are made -/
theorem gnewO {C : String} {index n : Nat} (hx : p.tables.exec = Jvm.exec) (w : (Cond.classLink own index C).before a0 Z = true) (wi : (Cond.instantiable C n).before a0 Z = true) (wz : (Cond.initialized C).before a0 Z = true)
    {pc : Nat} (pc' : Nat) {L : Array Slot} {S : List Value} (hd : decode c.code pc = .ok (.new index, 3)) (hp : pc + 3 = pc') (hc : cells + 1 ≤ R.cells) (hl : slots + n ≤ R.slots)
    (k : ∀ (b : Addr) (h' : Heap), h.size = b → Ext h h' → CHr Z EL vm h vm h' → Exa Z h' b C → (∀ {O nm d : String} {ty : FieldType}, Laid Z a0 C O nm d → parseFieldDescriptor d = some ty → Fld Z h' b O nm d (defaultValue ty)) → Z.heap.size ≤ b → Safe Z EL vm h' b → Go p l e R s m args below meth c Z a0 EL own Q vm h' (cells + 1) (slots + n) (mkF m pc' L (.ref b :: S))) :
    Go p l e R s m args below meth c Z a0 EL own Q vm h cells slots (mkF m pc L S) :=
  gnew (P := fun h' => Exa Z h' h.size C ∧ ∀ (O nm d : String) (ty : FieldType), Laid Z a0 C O nm d → parseFieldDescriptor d = some ty → Fld Z h' h.size O nm d (defaultValue ty)) (fun _ => mkF m pc' L (.ref h.size :: S))
    (fun T locs X hZ hown eT => by
      subst hp
      obtain ⟨T', h', X', e', E, A, D, -, st⟩ := newO (s := s.setVm vm) X hx hZ hown w wi wz eT (g := mkF m pc L S) rfl hd hc hl
      exact ⟨T', h', X', e', E, ⟨A, fun _ _ _ _ q r => D q r⟩, st⟩)
    (fun h' E hC hP hz hs => k _ h' rfl E hC hP.1 (fun q r => hP.2 _ _ _ _ q r) hz hs)
theorem gnewP {aty : ArrayType} (hx : p.tables.exec = Jvm.exec) (w : (Cond.arrayClass (newarray.typeOf aty)).before a0 Z = true) {n : Int32} (hn : ¬ n < 0) {cap : Nat} (hcap : n.toNatClampNeg ≤ cap) (hb : cap * 8 ≤ 536870912)
    {pc : Nat} (pc' : Nat) {L : Array Slot} {S : List Value} (hd : decode c.code pc = .ok (.newarray aty, 2)) (hp : pc + 2 = pc') (hc : cells + 1 ≤ R.cells) (hl : slots + cap ≤ R.slots)
    (k : ∀ (b : Addr) (h' : Heap) (cA : ClassId), h.size = b → Ext h h' → CHr Z EL vm h vm h' → Arv Z h' b cA (newarray.typeOf aty) n [] (defaultValue (newarray.typeOf aty)) → Z.heap.size ≤ b → Safe Z EL vm h' b → Go p l e R s m args below meth c Z a0 EL own Q vm h' (cells + 1) (slots + cap) (mkF m pc' L (.ref b :: S))) :
    Go p l e R s m args below meth c Z a0 EL own Q vm h cells slots (mkF m pc L (.int n :: S)) :=
  gnew (P := fun h' => ∃ cA, Arv Z h' h.size cA (newarray.typeOf aty) n [] (defaultValue (newarray.typeOf aty))) (fun _ => mkF m pc' L (.ref h.size :: S))
    (fun T locs X hZ hown eT => by
      subst hp
      obtain ⟨T', h', cA, X', e', E, A, st⟩ := newP (s := s.setVm vm) X hx hZ w eT (g := mkF m pc L (.int n :: S)) rfl hd rfl hn hcap hb hc hl
      exact ⟨T', h', X', e', E, ⟨cA, Arv.new A hn⟩, st⟩)
    (fun h' E hC hP hz hs => by obtain ⟨cA, V⟩ := hP; exact k _ h' cA rfl E hC V hz hs)
theorem gnewR {C : String} {index : Nat} (hx : p.tables.exec = Jvm.exec) (w1 : (Cond.classLink own index C).before a0 Z = true) (w2 : (Cond.arrayOver (.object C)).before a0 Z = true) {n : Int32} (hn : ¬ n < 0) {cap : Nat} (hcap : n.toNatClampNeg ≤ cap) (hb : cap * 8 ≤ 536870912) {ad : String} (had : "[" ++ (FieldType.object C).toString = ad)
    {pc : Nat} (pc' : Nat) {L : Array Slot} {S : List Value} (hd : decode c.code pc = .ok (.anewarray index, 3)) (hp : pc + 3 = pc') (hc : cells + 1 ≤ R.cells) (hl : slots + cap ≤ R.slots)
    (k : ∀ (b : Addr) (h' : Heap) (cA : ClassId), h.size = b → Ext h h' → CHr Z EL vm h vm h' → Arv Z h' b cA (.object C) n [] .null → Exa Z h' b ad → Ovr Z cA C → Z.heap.size ≤ b → Safe Z EL vm h' b → Go p l e R s m args below meth c Z a0 EL own Q vm h' (cells + 1) (slots + cap) (mkF m pc' L (.ref b :: S))) :
    Go p l e R s m args below meth c Z a0 EL own Q vm h cells slots (mkF m pc L (.int n :: S)) :=
  gnew (P := fun h' => ∃ cA, Arv Z h' h.size cA (.object C) n [] .null ∧ Exa Z h' h.size ad ∧ Ovr Z cA C) (fun _ => mkF m pc' L (.ref h.size :: S))
    (fun T locs X hZ hown eT => by
      subst hp
      obtain ⟨T', h', cA, X', e', E, A, X1, O, st⟩ := newRE (s := s.setVm vm) X hx hZ hown w1 w2 eT (g := mkF m pc L (.int n :: S)) rfl hd rfl hn hcap hb hc hl had
      exact ⟨T', h', X', e', E, ⟨cA, Arv.new A hn, X1, O⟩, st⟩)
    (fun h' E hC hP hz hs => by obtain ⟨cA, V, X1, O⟩ := hP; exact k _ h' cA rfl E hC V X1 O hz hs)
/-! arrays are written and read -/
theorem gstC {a : Addr} {kc : ClassId} {n : Int32} {vs : List Value} {d : Value} {j x y : Int32} {i : Nat} (hx : p.tables.exec = Jvm.exec) (F : Arv Z h a kc .char n vs d) (hin : ¬ j < 0 ∧ j < n) (hj : j.toNatClampNeg = i) (hi : i < vs.length) (hy : nar .char x = y) (ha : Z.heap.size ≤ a)
    {pc : Nat} (pc' : Nat) {L : Array Slot} {rest : List Value} (hd : decode c.code pc = .ok (.castore, 1)) (hp : pc + 1 = pc')
    (k : ∀ h', Wr h h' a i (.int y) → CHr Z EL vm h vm h' → Arv Z h' a kc .char n (vs.set i (.int y)) d → Go p l e R s m args below meth c Z a0 EL own Q vm h' cells slots (mkF m pc' L rest)) : Go p l e R s m args below meth c Z a0 EL own Q vm h cells slots (mkF m pc L (.int x :: .int j :: .ref a :: rest)) := by
  subst hy hj hp
  obtain ⟨cl, Ar, q1, q2, q3, q4, q5⟩ := F
  exact gwr _ ha (fun al => Safe.arr al Ar (by decide)) (fun T locs X hZ hown eT => stC (s := s.setVm vm) X hx hZ eT Ar (j := j) (inb_of q2 hin) (g := mkF m pc L (.int x :: .int j :: .ref a :: rest)) rfl rfl hd) fun h' W hC => k h' W hC (Arv.set Ar q1 q2 q3 q4 q5 (fits_nar_char _) W _ rfl hi)
theorem gstB {a : Addr} {kc : ClassId} {n : Int32} {vs : List Value} {d : Value} {j x y : Int32} {i : Nat} (hx : p.tables.exec = Jvm.exec) (F : Arv Z h a kc .byte n vs d) (hin : ¬ j < 0 ∧ j < n) (hj : j.toNatClampNeg = i) (hi : i < vs.length) (hy : nar .byte x = y) (ha : Z.heap.size ≤ a) (hs : Z.vm.Alike vm → Safe Z EL vm h a)
    {pc : Nat} (pc' : Nat) {L : Array Slot} {rest : List Value} (hd : decode c.code pc = .ok (.bastore, 1)) (hp : pc + 1 = pc')
    (k : ∀ h', Wr h h' a i (.int y) → CHr Z EL vm h vm h' → Arv Z h' a kc .byte n (vs.set i (.int y)) d → Go p l e R s m args below meth c Z a0 EL own Q vm h' cells slots (mkF m pc' L rest)) : Go p l e R s m args below meth c Z a0 EL own Q vm h cells slots (mkF m pc L (.int x :: .int j :: .ref a :: rest)) := by
  subst hy hj hp
  obtain ⟨cl, Ar, q1, q2, q3, q4, q5⟩ := F
  exact gwr _ ha hs (fun T locs X hZ hown eT => stB (s := s.setVm vm) X hx hZ eT Ar (j := j) (inb_of q2 hin) (g := mkF m pc L (.int x :: .int j :: .ref a :: rest)) rfl rfl hd) fun h' W hC => k h' W hC (Arv.set Ar q1 q2 q3 q4 q5 (fits_nar_byte _) W _ rfl hi)
theorem gstR {a : Addr} {kc : ClassId} {C : String} {n : Int32} {vs : List Value} {d v : Value} {j : Int32} {i : Nat} (hx : p.tables.exec = Jvm.exec) (F : Arv Z h a kc (.object C) n vs d) (hin : ¬ j < 0 ∧ j < n) (hj : j.toNatClampNeg = i) (hi : i < vs.length) (S : Sto Z h a v) (hv : v.isRef = true) (ha : Z.heap.size ≤ a)
    {pc : Nat} (pc' : Nat) {L : Array Slot} {rest : List Value} (hd : decode c.code pc = .ok (.aastore, 1)) (hp : pc + 1 = pc')
    (k : ∀ h', Wr h h' a i v → CHr Z EL vm h vm h' → Arv Z h' a kc (.object C) n (vs.set i v) d → Go p l e R s m args below meth c Z a0 EL own Q vm h' cells slots (mkF m pc' L rest)) : Go p l e R s m args below meth c Z a0 EL own Q vm h cells slots (mkF m pc L (v :: .int j :: .ref a :: rest)) := by
  subst hj hp
  obtain ⟨cl, Ar, q1, q2, q3, q4, q5⟩ := F
  exact gwr _ ha (fun al => Safe.arr al Ar nofun) (fun T locs X hZ hown eT => stR (s := s.setVm vm) X hx hZ eT Ar (j := j) (inb_of q2 hin) rfl S (g := mkF m pc L (v :: .int j :: .ref a :: rest)) rfl rfl hd) fun h' W hC => k h' W hC (Arv.set Ar q1 q2 q3 q4 q5 (by cases v <;> first | rfl | (cases hv; done)) W _ rfl hi)
theorem gldC {a : Addr} {kc : ClassId} {n : Int32} {vs : List Value} {d v : Value} {j : Int32} {i : Nat} (hx : p.tables.exec = Jvm.exec) (F : Arv Z h a kc .char n vs d) (hin : ¬ j < 0 ∧ j < n) (hj : j.toNatClampNeg = i) (hv : vs.getD i d = v)
    {pc : Nat} (pc' : Nat) {L : Array Slot} {rest : List Value} (hd : decode c.code pc = .ok (.caload, 1)) (hp : pc + 1 = pc')
    (k : Go p l e R s m args below meth c Z a0 EL own Q vm h cells slots (mkF m pc' L (v :: rest))) : Go p l e R s m args below meth c Z a0 EL own Q vm h cells slots (mkF m pc L (.int j :: .ref a :: rest)) := by
  subst hj hp
  obtain ⟨cl, Ar, q1, q2, q3, q4, q5⟩ := F
  exact gx _ (fun T locs X hZ hown eT => X.caload (s := s.setVm vm) hx (by rw [eT]; exact Ar.1) (State.isArrayOf_alike hZ.alike Ar.2.1) Ar.2.2 (inb_of q2 hin) (q4.at (inb_of q2 hin) hv) (g := mkF m pc L (.int j :: .ref a :: rest)) rfl rfl hd) k
theorem gldB {a : Addr} {kc : ClassId} {n : Int32} {vs : List Value} {d v : Value} {j : Int32} {i : Nat} (hx : p.tables.exec = Jvm.exec) (F : Arv Z h a kc .byte n vs d) (hin : ¬ j < 0 ∧ j < n) (hj : j.toNatClampNeg = i) (hv : vs.getD i d = v)
    {pc : Nat} (pc' : Nat) {L : Array Slot} {rest : List Value} (hd : decode c.code pc = .ok (.baload, 1)) (hp : pc + 1 = pc')
    (k : Go p l e R s m args below meth c Z a0 EL own Q vm h cells slots (mkF m pc' L (v :: rest))) : Go p l e R s m args below meth c Z a0 EL own Q vm h cells slots (mkF m pc L (.int j :: .ref a :: rest)) := by
  subst hj hp
  obtain ⟨cl, Ar, q1, q2, q3, q4, q5⟩ := F
  exact gx _ (fun T locs X hZ hown eT => X.baloadBytes (s := s.setVm vm) hx (by rw [eT]; exact Ar.1) (State.isArrayOf_alike hZ.alike Ar.2.1) Ar.2.2 (inb_of q2 hin) (q4.at (inb_of q2 hin) hv) (g := mkF m pc L (.int j :: .ref a :: rest)) rfl rfl hd) k
theorem gldI {a : Addr} {kc : ClassId} {n : Int32} {vs : List Value} {d v : Value} {j : Int32} {i : Nat} (hx : p.tables.exec = Jvm.exec) (F : Arv Z h a kc .int n vs d) (hin : ¬ j < 0 ∧ j < n) (hj : j.toNatClampNeg = i) (hv : vs.getD i d = v)
    {pc : Nat} (pc' : Nat) {L : Array Slot} {rest : List Value} (hd : decode c.code pc = .ok (.iaload, 1)) (hp : pc + 1 = pc')
    (k : Go p l e R s m args below meth c Z a0 EL own Q vm h cells slots (mkF m pc' L (v :: rest))) : Go p l e R s m args below meth c Z a0 EL own Q vm h cells slots (mkF m pc L (.int j :: .ref a :: rest)) := by
  subst hj hp
  obtain ⟨cl, Ar, q1, q2, q3, q4, q5⟩ := F
  exact gx _ (fun T locs X hZ hown eT => X.iaload (s := s.setVm vm) hx (by rw [eT]; exact Ar.1) (State.isArrayOf_alike hZ.alike Ar.2.1) Ar.2.2 (inb_of q2 hin) (q4.at (inb_of q2 hin) hv) (g := mkF m pc L (.int j :: .ref a :: rest)) rfl rfl hd) k
theorem gldR {a : Addr} {kc : ClassId} {C : String} {n : Int32} {vs : List Value} {d v : Value} {j : Int32} {i : Nat} (hx : p.tables.exec = Jvm.exec) (F : Arv Z h a kc (.object C) n vs d) (hin : ¬ j < 0 ∧ j < n) (hj : j.toNatClampNeg = i) (hv : vs.getD i d = v)
    {pc : Nat} (pc' : Nat) {L : Array Slot} {rest : List Value} (hd : decode c.code pc = .ok (.aaload, 1)) (hp : pc + 1 = pc')
    (k : Go p l e R s m args below meth c Z a0 EL own Q vm h cells slots (mkF m pc' L (v :: rest))) : Go p l e R s m args below meth c Z a0 EL own Q vm h cells slots (mkF m pc L (.int j :: .ref a :: rest)) := by
  subst hj hp
  obtain ⟨cl, Ar, q1, q2, q3, q4, q5⟩ := F
  exact gx _ (fun T locs X hZ hown eT => X.aaload (s := s.setVm vm) hx (by rw [eT]; exact Ar.1) (State.isArrayOf_alike hZ.alike Ar.2.1) rfl Ar.2.2 (inb_of q2 hin) (q4.at (inb_of q2 hin) hv) (g := mkF m pc L (.int j :: .ref a :: rest)) rfl rfl hd) k
theorem glen {a : Addr} {kc : ClassId} {ty : FieldType} {n : Int32} {vs : List Value} {d : Value} (hx : p.tables.exec = Jvm.exec) (F : Arv Z h a kc ty n vs d)
    {pc : Nat} (pc' : Nat) {L : Array Slot} {rest : List Value} (hd : decode c.code pc = .ok (.arraylength, 1)) (hp : pc + 1 = pc')
    (k : Go p l e R s m args below meth c Z a0 EL own Q vm h cells slots (mkF m pc' L (.int n :: rest))) : Go p l e R s m args below meth c Z a0 EL own Q vm h cells slots (mkF m pc L (.ref a :: rest)) := by
  subst hp
  obtain ⟨cl, Ar, q1, q2, q3, q4, q5⟩ := F
  exact gx _ (fun T locs X hZ hown eT t kk => X.arraylength (s := s.setVm vm) hx (by rw [eT]; exact Ar.1) (State.isArrayOf_alike hZ.alike Ar.2.1) (g := mkF m pc L (.ref a :: rest)) rfl rfl hd t (by rw [len_of q2 q3]; exact kk)) k
/-! casts, constants -/
theorem gcast {K : String} {index : Nat} (hx : p.tables.exec = Jvm.exec) (w : (Cond.classLink own index K).before a0 Z = true) {a : Addr} (F : Ins Z h a K true) {pc : Nat} (pc' : Nat) {L : Array Slot} {rest : List Value} (hd : decode c.code pc = .ok (.checkcast index, 3)) (hp : pc + 3 = pc')
    (k : Go p l e R s m args below meth c Z a0 EL own Q vm h cells slots (mkF m pc' L (.ref a :: rest))) : Go p l e R s m args below meth c Z a0 EL own Q vm h cells slots (mkF m pc L (.ref a :: rest)) :=
  gy _ (fun T locs X hZ hown eT => by
    subst hp
    exact castY (s := s.setVm vm) X hx hZ hown w eT F (g := mkF m pc L (.ref a :: rest)) rfl rfl hd) k
theorem ginstY {K : String} {index : Nat} (hx : p.tables.exec = Jvm.exec) (w : (Cond.classLink own index K).before a0 Z = true) {a : Addr} (F : Ins Z h a K true) {pc : Nat} (pc' : Nat) {L : Array Slot} {rest : List Value} (hd : decode c.code pc = .ok (.instanceof index, 3)) (hp : pc + 3 = pc')
    (k : Go p l e R s m args below meth c Z a0 EL own Q vm h cells slots (mkF m pc' L (.int 1 :: rest))) : Go p l e R s m args below meth c Z a0 EL own Q vm h cells slots (mkF m pc L (.ref a :: rest)) :=
  gy _ (fun T locs X hZ hown eT => by
    subst hp
    exact instY (s := s.setVm vm) X hx hZ hown w eT F (g := mkF m pc L (.ref a :: rest)) rfl rfl hd) k
theorem ginstN {K C : String} {index : Nat} (hx : p.tables.exec = Jvm.exec) (w : (Cond.classLink own index K).before a0 Z = true) {a : Addr} (E : Exa Z h a C) (F : ∃ c t, Z.vm.findClass C = some c ∧ Z.vm.findClass K = some t ∧ Z.vm.assignable c t = false) {pc : Nat} (pc' : Nat) {L : Array Slot} {rest : List Value} (hd : decode c.code pc = .ok (.instanceof index, 3)) (hp : pc + 3 = pc')
    (k : Go p l e R s m args below meth c Z a0 EL own Q vm h cells slots (mkF m pc' L (.int 0 :: rest))) : Go p l e R s m args below meth c Z a0 EL own Q vm h cells slots (mkF m pc L (.ref a :: rest)) :=
  gy _ (fun T locs X hZ hown eT => by
    subst hp
    exact instNo (s := s.setVm vm) X hx hZ hown w eT E F (g := mkF m pc L (.ref a :: rest)) rfl rfl hd) k
theorem gldcI {index : Nat} {v : Int32} (hx : p.tables.exec = Jvm.exec) (w : (Cond.constant own index v).before a0 Z = true) {pc : Nat} (pc' : Nat) {L : Array Slot} {S : List Value} (hd : decode c.code pc = .ok (.ldc index, 2)) (hp : pc + 2 = pc')
    (k : Go p l e R s m args below meth c Z a0 EL own Q vm h cells slots (mkF m pc' L (.int v :: S))) : Go p l e R s m args below meth c Z a0 EL own Q vm h cells slots (mkF m pc L S) :=
  gx _ (fun T locs X hZ hown eT => by
    subst hp
    exact X.ldcInt (s := s.setVm vm) hx hown (mvT hZ w) (g := mkF m pc L S) rfl hd) k
theorem gldcJ {index : Nat} {v : Int64} (hx : p.tables.exec = Jvm.exec) (w : (Cond.constantLong own index v).before a0 Z = true) {pc : Nat} (pc' : Nat) {L : Array Slot} {S : List Value} (hd : decode c.code pc = .ok (.ldc2_w index, 3)) (hp : pc + 3 = pc')
    (k : Go p l e R s m args below meth c Z a0 EL own Q vm h cells slots (mkF m pc' L (.long v :: S))) : Go p l e R s m args below meth c Z a0 EL own Q vm h cells slots (mkF m pc L S) :=
  gx _ (fun T locs X hZ hown eT => by
    subst hp
    exact X.ldc2Long (s := s.setVm vm) hx hown (mvT hZ w) (g := mkF m pc L S) rfl hd) k
/-- ldc of a String constant whose text isn't read -/
theorem gldcO {index : Nat} {text : String} (hx : p.tables.exec = Jvm.exec) (w : (Cond.stringLink own index text).before a0 Z = true) (wS : ∀ a ∈ Bundle.stringAtoms, a.before a0 Z = true) {n : Nat} (hn : 4 * text.toList.length ≤ n) (hbig : n ≤ 536870912)
    {pc : Nat} (pc' : Nat) {L : Array Slot} {S : List Value} (hd : decode c.code pc = .ok (.ldc index, 2)) (hp : pc + 2 = pc') (hc : cells + 2 ≤ R.cells) (hl : slots + (n + 4) ≤ R.slots)
    (k : ∀ (a : Addr) (vm' : Vm) (h' : Heap), Ext h h' → CHr Z EL vm h vm' h' → Go p l e R s m args below meth c Z a0 EL own Q vm' h' (cells + 2) (slots + (n + 4)) (mkF m pc' L (.ref a :: S))) : Go p l e R s m args below meth c Z a0 EL own Q vm h cells slots (mkF m pc L S) := fun T X => by
  subst hp
  obtain ⟨locs, k0, X', eT, hZ, hown, hS, hk, N, H, E0, hEL, hx', hlk⟩ := X
  obtain ⟨a, T', h', k1, X1, e1, E, hS1, hk1, hZ1, ho1, hC, -, st⟩ := ldcOH X' hx hZ hown w wS eT hS hk hEL H.1 (g := mkF m pc L S) rfl hd hn hbig hc hl
  obtain ⟨s2, o, q1, q2⟩ := k a T'.vm h' E hC T' ⟨locs, k1, X1, e1, hZ1, ho1, hS1, hk1, N, H.trans hC, E0, hEL, hx', hlk⟩
  exact ⟨s2, o, st _ q1, q2⟩
/-- ldc of a String constant of EL, read -/
theorem gldcR {index : Nat} {text : String} (hx : p.tables.exec = Jvm.exec) (w : (Cond.stringLink own index text).before a0 Z = true) (wS : ∀ a ∈ Bundle.stringAtoms, a.before a0 Z = true) (hmem : (own, index) ∈ EL) {n : Nat} (hn : 4 * text.toList.length ≤ n) (hbig : n ≤ 536870912)
    {vs : List Value} {z : Int32} (ht : (∀ c ∈ text.toList, c.toNat < 256) ∧ text.toList.map (fun c => Value.int (Jvm.Lit.byteI c.toNat.toUInt16)) = vs) (hz : ¬ z < 0) (hlz : z.toNatClampNeg = vs.length)
    {pc : Nat} (pc' : Nat) {L : Array Slot} {S : List Value} (hd : decode c.code pc = .ok (.ldc index, 2)) (hp : pc + 2 = pc') (hc : cells + 2 ≤ R.cells) (hl : slots + (n + 4) ≤ R.slots)
    (k : ∀ (a b : Addr) (kb : ClassId) (vm' : Vm) (h' : Heap), Ext h h' → CHr Z EL vm h vm' h' → Exa Z h' a "java/lang/String" → Fld Z h' a "java/lang/String" "coder" "B" (.int 0) → Fld Z h' a "java/lang/String" "value" "[B" (.ref b) → Arv Z h' b kb .byte z vs (.int 0) → (∀ x, Safe Z EL vm' h' x → x ≠ a ∧ x ≠ b) →
      Go p l e R s m args below meth c Z a0 EL own Q vm' h' (cells + 2) (slots + (n + 4)) (mkF m pc' L (.ref a :: S))) : Go p l e R s m args below meth c Z a0 EL own Q vm h cells slots (mkF m pc L S) := fun T X => by
  subst hp
  obtain ⟨locs, k0, X', eT, hZ, hown, hS, hk, N, H, E0, hEL, hx', hlk⟩ := X
  obtain ⟨a, T', h', k1, b, kb, X1, e1, E, hS1, hk1, hZ1, ho1, F1, F2, F3, F4, -, -, hC, -, F5, st⟩ := ldcCH X' hx hZ hown w wS eT hS hk hEL hmem H.1 ht hz hlz (g := mkF m pc L S) rfl hd hn hbig hc hl
  obtain ⟨s2, o, q1, q2⟩ := k a b kb T'.vm h' E hC F1 F2 F3 F4 F5 T' ⟨locs, k1, X1, e1, hZ1, ho1, hS1, hk1, N, H.trans hC, E0, hEL, hx', hlk⟩
  exact ⟨s2, o, st _ q1, q2⟩
end Kit2
end Jvm.OwnKit
namespace Jvm.OwnKit
open Sem ClassFile Op Lib Bundle Jvm.Stand Jvm.Free Jvm.LawKit Jvm.RoadKit
section Kit3
variable {p : Program} {l : Launch} {e : Env} {R : Room} {s : State} {m : MethodId} {args : Array Value} {below : List Frame} {meth : Method} {c : Code} {Z : State} {a0 : Array Value} {EL : List (String × Nat)} {own : String} {Q : Option Value → Vm → Heap → Prop} {vm : Vm} {h h' : Heap} {cells slots : Nat} {g : JFrame}
theorem gi2c {x y : Int32} (hx : p.tables.exec = Jvm.exec) (hy : x.toUInt32.toUInt16.toUInt32.toInt32 = y) {pc : Nat} (pc' : Nat) {L : Array Slot} {rest : List Value} (hd : decode c.code pc = .ok (.i2c, 1)) (hp : pc + 1 = pc')
    (k : Go p l e R s m args below meth c Z a0 EL own Q vm h cells slots (mkF m pc' L (.int y :: rest))) : Go p l e R s m args below meth c Z a0 EL own Q vm h cells slots (mkF m pc L (.int x :: rest)) := by
  subst hy hp
  exact gs _ (fun _ _ A k => XS.i2c A hx rfl hd rfl k) k
theorem narC (x : Int32) : nar .char (x &&& 255) = x &&& 255 := i2c_mask x
theorem narC2 (x : Int32) : nar .char (x.toUInt32.toUInt16.toUInt32.toInt32) = x.toUInt32.toUInt16.toUInt32.toInt32 := by
  show (x.toUInt32.toUInt16.toUInt32.toInt32).toUInt32.toUInt16.toUInt32.toInt32 = _
  simp only [UInt32.toUInt32_toInt32, UInt16.toUInt16_toUInt32]
/-- a char of 0 to 255 -/
def B8 (c : Int32) : Prop := ¬ c < 0 ∧ ¬ (255 : Int32) < c
theorem b255 (x : Int32) : B8 (x &&& 255) := by
  have h := c_mask x 255 8 (by decide) (by decide)
  have e1 : (0 : Int32).toInt = 0 := rfl
  have e2 : (255 : Int32).toInt = 255 := rfl
  refine ⟨?_, ?_⟩
  · rw [Int32.lt_iff_toInt_lt, h, e1]; omega
  · rw [Int32.lt_iff_toInt_lt, h, e2]; omega
theorem bnil : ∀ c ∈ ([] : List Int32), B8 c := fun _ q => nomatch q
theorem bcons {a : Int32} {L : List Int32} (q : B8 a) (r : ∀ c ∈ L, B8 c) : ∀ c ∈ a :: L, B8 c := fun c z => (List.mem_cons.mp z).elim (fun u => u ▸ q) (r c)
/-- an ordinary Latin-1 String and its bytes -/
def Str (Z : State) (h : Heap) (a t : Addr) (cs : List Int32) : Prop := Exa Z h a "java/lang/String" ∧ Fld Z h a "java/lang/String" "coder" "B" (.int 0) ∧ Fld Z h a "java/lang/String" "value" "[B" (.ref t) ∧
  (∃ kb, Arv Z h t kb .byte (Int32.ofNat cs.length) ((cs.map fun c => c.toInt8.toInt32).map Value.int) (.int 0)) ∧ (∀ c ∈ cs, B8 c) ∧ cs.length ≤ 4000
variable {a t o : Addr} {cs : List Int32} {ws : List Addr} {sl : Nat} {v : Value}
theorem Str.ext (F : Str Z h a t cs) (E : Ext h h') : Str Z h' a t cs := by
  obtain ⟨f1, f2, f3, ⟨kb, f4⟩, f5⟩ := F
  exact ⟨f1.ext E, f2.ext E, f3.ext E, ⟨kb, f4.ext E⟩, f5⟩
theorem Str.keep (F : Str Z h a t cs) (K : Keep h h' ws) (q : a ∉ ws) (r : t ∉ ws) : Str Z h' a t cs := by
  obtain ⟨f1, f2, f3, ⟨kb, f4⟩, f5⟩ := F
  exact ⟨f1.keep K, f2.keep K q, f3.keep K q, ⟨kb, f4.keep K r⟩, f5⟩
theorem Str.other (F : Str Z h a t cs) (W : Wr h h' o sl v) (q : a ≠ o) (r : t ≠ o) : Str Z h' a t cs := by
  obtain ⟨f1, f2, f3, ⟨kb, f4⟩, f5⟩ := F
  exact ⟨f1.wr W, f2.other W (Or.inl q), f3.other W (Or.inl q), ⟨kb, f4.other W r⟩, f5⟩
theorem Str.tlt (F : Str Z h a t cs) : t < h.size := by
  obtain ⟨f1, f2, f3, ⟨kb, f4⟩, f5⟩ := F
  exact f4.lt
theorem Str.neT (F : Str Z h a t cs) {x : Addr} {C : String} {n : Nat} (E : Exa Z h x C) (w : (Cond.instantiable C n).before a0 Z = true) : x ≠ t := by
  obtain ⟨f1, f2, f3, ⟨kb, f4⟩, f5⟩ := F
  exact Exa.neArv E f4 w
theorem Str.neq {b u : Addr} {ds : List Int32} (F : Str Z h a t cs) (G : Str Z h b u ds) (q : cs ≠ ds) : a ≠ b := fun e => by
  subst e
  obtain ⟨-, -, f3, ⟨kb, A, f4, -, f6, -, f8, -⟩, f9, f10⟩ := F
  obtain ⟨-, -, g3, ⟨kb', A', g4, -, g6, -, g8, -⟩, g9, g10⟩ := G
  have e1 : t = u := by
    obtain ⟨cell, cf, k, i, f, h1, h2, -, -, -, -, h7⟩ := f3
    obtain ⟨cell', cf', k', i', f', h1', h2', -, -, -, -, h7'⟩ := g3
    cases h1.symm.trans h1'
    cases h2.symm.trans h2'
    have := Option.some.inj (h7.symm.trans h7')
    cases this; rfl
  subst e1
  cases f4.1.symm.trans g4.1
  have e2 : cs.length = ds.length := by
    rw [f6] at g6
    have r : ∀ n : Nat, n ≤ 4000 → (Int32.ofNat n).toNatClampNeg = n := fun n hn => by
      have := (back32 (n := Int32.ofNat n) (by rw [Int32.lt_iff_toInt_lt, Int32.toInt_ofNat_of_lt (by omega)]; simp)).1
      rw [Int32.toNatClampNeg, Int32.toInt_ofNat_of_lt (by omega)]; rfl
    rw [r _ f10, r _ g10] at g6; exact g6
  apply q
  apply List.ext_getElem e2
  intro i h1 h2
  have sz : i < A.slots.size := by
    rw [f6, Int32.toNatClampNeg, Int32.toInt_ofNat_of_lt (by omega)]; exact h1
  have w1 := f8 i sz
  have w2 := g8 i sz
  rw [w1] at w2
  have w3 := Option.some.inj w2
  simp only [List.map_map, List.getD_eq_getElem?_getD, List.getElem?_map, List.getElem?_eq_getElem h1, List.getElem?_eq_getElem h2, Option.map_some, Option.getD_some, Function.comp] at w3
  have w4 := Value.int.inj w3
  have b1 := f9 _ (List.getElem_mem h1)
  have b2 := g9 _ (List.getElem_mem h2)
  generalize cs[i] = x at *
  generalize ds[i] = y at *
  obtain ⟨b1a, b1b⟩ := b1
  obtain ⟨b2a, b2b⟩ := b2
  have c1 := c_i2b x
  have c2 := c_i2b y
  rw [w4] at c1
  rw [Int32.lt_iff_toInt_lt] at b1a b1b b2a b2b
  have e0 : (0 : Int32).toInt = 0 := rfl
  have e255 : (255 : Int32).toInt = 255 := rfl
  rw [e0] at b1a b2a
  rw [e255] at b1b b2b
  apply Int32.toInt_inj.mp
  omega
theorem Str.lit {kb : ClassId} {z : Int32} {vs : List Value} (E : Exa Z h a "java/lang/String") (C : Fld Z h a "java/lang/String" "coder" "B" (.int 0)) (V : Fld Z h a "java/lang/String" "value" "[B" (.ref t)) (A : Arv Z h t kb .byte z vs (.int 0)) (hb : ∀ c ∈ cs, ¬ c < 0 ∧ ¬ (255 : Int32) < c)
    (hz : z = Int32.ofNat cs.length) (hv : vs = (cs.map fun c => c.toInt8.toInt32).map Value.int) (hl : cs.length ≤ 4000) : Str Z h a t cs := ⟨E, C, V, ⟨kb, by rw [← hz, ← hv]; exact A⟩, hb, hl⟩
theorem Arv.sto {kc : ClassId} {C : String} {n : Int32} {vs : List Value} {d : Value} {y : Addr} (F : Arv Z h a kc (.object C) n vs d) (O : Ovr Z kc C) (I : Ins Z h y C true) : Sto Z h a (.ref y) := by
  obtain ⟨cl, Ar, q1, -⟩ := F
  exact Sto.ofV Ar q1 O I
end Kit3
end Jvm.OwnKit
namespace Jvm.OwnKit
open Sem ClassFile Op Lib Bundle Jvm.Stand Jvm.Free Jvm.LawKit Jvm.RoadKit
section Kit4
variable {p : Program} {l : Launch} {e : Env} {R : Room} {s : State} {m : MethodId} {args : Array Value} {below : List Frame} {meth : Method} {c : Code} {Z : State} {a0 : Array Value} {EL : List (String × Nat)} {own : String} {Q : Option Value → Vm → Heap → Prop} {vm : Vm} {h h' : Heap} {cells slots : Nat} {g : JFrame}
theorem Pay.weaken {y : MethodName} {len W rc rs rc' rs' : Nat} {as' : Array Value} (hP : Pay l R p e below s args Z EL vm h y len W as' rc rs Q) (hc : rc ≤ rc') (hs : rs ≤ rs') : Pay l R p e below s args Z EL vm h y len W as' rc' rs' Q := by
  intro m meth c A g ig mk a X hg hsize hdg hW hn hp
  obtain ⟨v, ⟨U, Lx, cx, sx⟩, X', h1, h2, ⟨L, q1, q2, q3, q4, q5⟩, st⟩ := hP m meth c A g ig mk a X hg hsize hdg hW hn ⟨hp.1, hp.2.1, by have := hp.2.2.1; omega, by have := hp.2.2.2; omega⟩
  dsimp only [Pt.U, Pt.locs, Pt.cells, Pt.slots] at X' h1 h2 q1 q2 q3 q4 q5 st
  subst q2 q3 q4
  exact ⟨v, ⟨U, _, A.cells + rc', A.slots + rs'⟩, { X' with same := X'.same.mono (by show A.cells + rc ≤ A.cells + rc'; omega) (by show A.slots + rs ≤ A.slots + rs'; omega) }, h1, h2, ⟨L, q1, rfl, rfl, rfl, q5⟩, st⟩
/-- roads that meet -/
theorem gjoin (P : Vm → Heap → JFrame → Prop) (cells' slots' : Nat) (k1 : ∀ vm' h' g', P vm' h' g' → Go p l e R s m args below meth c Z a0 EL own Q vm' h' cells' slots' g')
    (k2 : (∀ vm' h' g', P vm' h' g' → Go p l e R s m args below meth c Z a0 EL own Q vm' h' cells' slots' g') → Go p l e R s m args below meth c Z a0 EL own Q vm h cells slots g) : Go p l e R s m args below meth c Z a0 EL own Q vm h cells slots g := k2 k1
/-- C's chain of superclasses doesn't meet an instantiable K -/
theorem NSroot {O K : String} {n : Nat} (w : (Cond.noSuperclass O).before a0 Z = true) (wk : (Cond.instantiable K n).before a0 Z = true) (hn : O ≠ K) : NS Z O K := by
  obtain ⟨c, k, h1, h2, h3, -, -⟩ := Cond.noSuperclass_spec w
  obtain ⟨t, k', g1, g2, g3, g4, -⟩ := Cond.instantiable_spec wk
  have ne := ids_ne h1 g1 hn
  refine ⟨c, t, h1, g1, fun fuel => ?_⟩
  cases fuel with
  | zero => rfl
  | succ f => simp [Vm.isSubclassAux, ne, h2, h3]
theorem NSno {C S K : String} {n : Nat} (w : (Cond.superclass C S).before a0 Z = true) (wk : (Cond.instantiable K n).before a0 Z = true) (nn : NS Z C K) (hn : C ≠ K) : ∃ c t, Z.vm.findClass C = some c ∧ Z.vm.findClass K = some t ∧ Z.vm.assignable c t = false := by
  obtain ⟨c, t, h0, g0, n3⟩ := nn
  obtain ⟨p, k, kp, h1, h2, h3, h4, h5, -, h7⟩ := Cond.superclass_spec h0 w
  obtain ⟨t', k', g1, g2, g3, g4, -⟩ := Cond.instantiable_spec wk
  cases g0.symm.trans g1
  have ne := ids_ne h0 g0 hn
  have g5 : k'.isInterface = false := by cases hq : k'.isInterface <;> simp [hq] at g4 ⊢
  refine ⟨c, t, h0, g0, ?_⟩
  show Z.vm.assignableAux (255 + 1) c t = false
  simp [Vm.assignableAux, ne, h2, g2, h5, g3, g5, Vm.isSubclass, n3]
/-- a char[] of Latin-1 signs -/
def ChA (Z : State) (h : Heap) (b : Addr) (cs : List Int32) : Prop := ∃ kc, Arv Z h b kc .char (Int32.ofNat cs.length) (cs.map Value.int) (.int 0) ∧ (∀ c ∈ cs, B8 c) ∧ cs.length ≤ 4000
variable {b : Addr} {cs : List Int32} {ws : List Addr} {sl : Nat} {v : Value} {o : Addr}
theorem ChA.ext (F : ChA Z h b cs) (E : Ext h h') : ChA Z h' b cs := by obtain ⟨k, f, r⟩ := F; exact ⟨k, f.ext E, r⟩
theorem ChA.keep (F : ChA Z h b cs) (K : Keep h h' ws) (q : b ∉ ws) : ChA Z h' b cs := by obtain ⟨k, f, r⟩ := F; exact ⟨k, f.keep K q, r⟩
theorem ChA.wr (F : ChA Z h b cs) (W : Wr h h' o sl v) (q : b ≠ o) : ChA Z h' b cs := by obtain ⟨k, f, r⟩ := F; exact ⟨k, f.other W q, r⟩
theorem ChA.lt (F : ChA Z h b cs) : b < h.size := by obtain ⟨k, f, r⟩ := F; exact f.lt
theorem narB (x : Int32) : nar .byte (x.toInt8.toInt32) = x.toInt8.toInt32 := by
  show (x.toInt8.toInt32).toInt8.toInt32 = _
  simp
theorem b16 (x : Int32) : ¬ (x.toUInt32.toUInt16.toUInt32.toInt32) < 0 ∧ ¬ (65535 : Int32) < (x.toUInt32.toUInt16.toUInt32.toInt32) := by
  have h := c_i2c x
  have e1 : (0 : Int32).toInt = 0 := rfl
  have e2 : (65535 : Int32).toInt = 65535 := rfl
  rw [Int32.lt_iff_toInt_lt, Int32.lt_iff_toInt_lt, e1, e2]
  omega
/-! out of the case's words -/
theorem staI {C n d : String} {y : Int32} (w : (Cond.eq (Term.static C n d) (Term.int y)).before args s = true) (wi : (Cond.initializedFor C n d).before args s = true) : Sta s s.heap C n d (.int y) := by
  have w := Cond.before_iff.mp w
  obtain ⟨x, y', e1, e2, k1, k2⟩ := cmp_v (Or.inl w)
  cases (Option.some.inj e2 : Value.int y = y')
  obtain ⟨z, rfl⟩ := k2
  have e3 : z = y := by
    generalize Term.static C n d = t at *
    simpa [Cond.value, Term.eval, e1] using w
  subst e3
  exact Sta.start e1 (Or.inl wi)
theorem eqI {t : Term} {x y : Int32} {idx : List Nat} (h1 : t.eval args s none idx s = some (.int x)) (h2 : (Cond.eq t (Term.int y)).value args s none s idx = some true) : x = y := by simpa [Cond.value, Term.eval, h1] using h2
theorem lenlt {t : Term} {v : Value} {aa : Addr} {cl : Cell} (h : (Term.length t).eval args s none [] s = some v) (ht : t.eval args s none [] s = some (.ref aa)) (hA : s.arrayAt? aa = some cl) : cl.slots.size < 2 ^ 31 := by
  apply Decidable.byContradiction
  intro hb
  simp [Term.eval, ht, hA, hb] at h
theorem lenI {t : Term} {n : Int32} {aa : Addr} {cl : Cell} (w : (Cond.eq (Term.length t) (Term.int n)).value args s none s [] = some true) (ht : t.eval args s none [] s = some (.ref aa)) (hA : s.arrayAt? aa = some cl) : cl.slots.size < 2 ^ 31 ∧ cl.slots.size.toInt32 = n := by
  obtain ⟨x, y, f1, f2, -, -⟩ := cmp_v (Or.inl w)
  have hb := lenlt f1 ht hA
  exact ⟨hb, eqI (len_f ht hA hb) w⟩
theorem elI {t : Term} {aa : Addr} {cl : Cell} {j y : Int32} (ht : t.eval args s none [] s = some (.ref aa)) (hc : s.heap[aa]? = some cl) (w : (Cond.eq (Term.elem t (Term.int j)) (Term.int y)).value args s none s [] = some true) : cl.slots[j.toNatClampNeg]? = some (.int y) := by
  obtain ⟨x, y', e1, e2, k1, k2⟩ := cmp_v (Or.inl w)
  cases (Option.some.inj e2 : Value.int y = y')
  obtain ⟨z, rfl⟩ := k2
  have := eqI e1 w
  subst this
  exact (elem_in e1 ht rfl hc).2
theorem fldI {t : Term} {aa : Addr} {C n d : String} {y : Int32} (ht : t.eval args s none [] s = some (.ref aa)) (w : (Cond.eq (Term.field t C n d) (Term.int y)).value args s none s [] = some true) : Fld s s.heap aa C n d (.int y) := by
  obtain ⟨x, y', e1, e2, k1, k2⟩ := cmp_v (Or.inl w)
  cases (Option.some.inj e2 : Value.int y = y')
  obtain ⟨z, rfl⟩ := k2
  have := eqI e1 w
  subst this
  exact Fld.start ((fld_at ht).symm.trans e1)
theorem Str.start {t : Term} {cs : List Int32} {n : Int32} {aa : Addr} (hf : Fit s) (ev : t.eval args s none [] s = some (.ref aa)) (wE : (Cond.exactly t "java/lang/String").value args s none s [] = some true) (wC : (Cond.eq (Term.field t "java/lang/String" "coder" "B") (Term.int 0)).value args s none s [] = some true)
    (wA : (Cond.arrayOf (Term.field t "java/lang/String" "value" "[B") .byte).value args s none s [] = some true) (wL : (Cond.eq (Term.length (Term.field t "java/lang/String" "value" "[B")) (Term.int n)).value args s none s [] = some true) (hn : n = Int32.ofNat cs.length) (hl : cs.length ≤ 4000) (hb : ∀ c ∈ cs, B8 c)
    (H : ∀ (tt : Addr) (cl : Cell), (Term.field t "java/lang/String" "value" "[B").eval args s none [] s = some (.ref tt) → s.heap[tt]? = some cl → HasL cl 0 ((cs.map fun c => c.toInt8.toInt32).map Value.int)) : ∃ tt, Str s s.heap aa tt cs := by
  obtain ⟨tt, et⟩ := arr_v wA
  obtain ⟨cl, Ar⟩ := Arr.start et wA
  have hA : s.arrayAt? tt = some cl := Ar.fin (Vm.Alike.refl _)
  obtain ⟨h1, h2⟩ := lenI wL et hA
  have hz : ¬ n < 0 := by rw [hn, Int32.lt_iff_toInt_lt, Int32.toInt_ofNat_of_lt (by omega)]; simp
  have hz2 : n.toNatClampNeg = cs.length := by rw [hn, Int32.toNatClampNeg, Int32.toInt_ofNat_of_lt (by omega)]; rfl
  refine ⟨tt, Exa.start ev wE, fldI ev wC, Fld.start ((fld_at ev).symm.trans et), ⟨cl.cls, ?_⟩, hb, hl⟩
  rw [← hn]
  exact Arv.start hf Ar h1 h2 hz (by rw [hz2]; simp) (H tt cl et Ar.1)
end Kit4
end Jvm.OwnKit
namespace Jvm.OwnKit
open Sem ClassFile Op Lib Bundle Jvm.Stand Jvm.Free Jvm.LawKit Jvm.RoadKit
section Kit5
variable {p : Program} {l : Launch} {e : Env} {R : Room} {s : State} {m : MethodId} {args : Array Value} {below : List Frame} {meth : Method} {c : Code} {Z : State} {a0 : Array Value} {EL : List (String × Nat)} {own : String} {Q : Option Value → Vm → Heap → Prop} {vm : Vm} {h h' : Heap} {cells slots : Nat} {g : JFrame}
/-- a private method reached by invokevirtual, the word 'selects' at the receiver's class -/
theorem gcallQ {index : Nat} {C : String} {y : MethodName} {bytes : ByteArray} {maxL : Nat} {ret : Option FieldType} (hx : p.tables.exec = Jvm.exec) (wl : (Cond.methodLink own index y).before a0 Z = true) (wi : (Cond.instanceMethod y).before a0 Z = true) (wsel : (Cond.selects C y y).before a0 Z = true) (wp : (Cond.privateMethod y).before a0 Z = true) (wc : (Cond.code y bytes maxL ret).before a0 Z = true)
    (hy : y.cls ≠ "java/lang/invoke/MethodHandle" ∧ y.cls ≠ "java/lang/invoke/VarHandle") {W rc rs : Nat} {as' : Array Value} {Q' : Option Value → Vm → Heap → Prop} (hP : Z.Warmed39 vm → CHv Z EL vm h → EW Z a0 EL → Pay l R p e below s args Z EL vm h y 3 W as' rc rs Q')
    {pc : Nat} (pc' : Nat) {L : Array Slot} {S argsL rest : List Value} {a : Addr} {K : String} (E : Exa Z h a K) (hlen : ∀ sig, parseMethodDescriptor y.desc = some sig → argsL.length = sig.parameters.length) (has : (.ref a :: argsL).toArray = as') (hstk : S = argsL.reverse ++ .ref a :: rest) (hW : (rest.map fun v => v.category).sum ≤ W) (hml : L.size = c.maxLocals)
    (hd : decode c.code pc = .ok (.invokevirtual index, 3)) (hp : pc + 3 = pc') (hc : cells + rc ≤ R.cells) (hs : slots + rs ≤ R.slots)
    (k : ∀ v vm' h', CHr Z EL vm h vm' h' → Q' v vm' h' → Go p l e R s m args below meth c Z a0 EL own Q vm' h' (cells + rc) (slots + rs) (mkF m pc' L (v.toList ++ rest))) : Go p l e R s m args below meth c Z a0 EL own Q vm h cells slots (mkF m pc L S) :=
  gback (y := y) (as' := as') (fun T locs X hZ hown eT H hEL => by
    subst has hp hstk
    obtain ⟨cq, q1, q2⟩ := E.cell
    have hi : (Cond.instanceMethod y).before args (s.setVm vm) = true := mvT (s := s.setVm vm) hZ wi
    have hco : (Cond.code y bytes maxL ret).before args (s.setVm vm) = true := mvT (s := s.setVm vm) hZ wc
    obtain ⟨mk, mM, hn, hmM, hst, hab⟩ := Cond.instanceMethod_spec hi
    obtain ⟨mM', cM, e1, -, -, -, -, -, -, hsig⟩ := Cond.code_spec hn hco
    cases hmM.symm.trans e1
    obtain ⟨-, -, m2, -, -, q3, -, kP, hk1, hk2⟩ := Cond.selects_spec (show (Cond.selects C y y).before args (s.setVm vm) = true from mvT (s := s.setVm vm) hZ wsel)
    cases hn.symm.trans q3
    have hpr := Cond.privateMethod_at (mvP (s := s.setVm vm) hZ wp (args := #[]))
    obtain ⟨vm1, X1, st1⟩ := X.invokevirtual (s := s.setVm vm) hx hown (mvT hZ wl) hn hmM hst hk1 hk2 hy (a := a) (cell := cq) (by rw [eT]; exact q1) q2 (selectMethod_private hmM (hpr mk mM hn hmM)) hmM hab hk1 hk2 (g := mkF m pc L (argsL.reverse ++ .ref a :: rest)) rfl (argsL := argsL) (rest := rest) (hlen _ hsig) rfl hd
    obtain ⟨v, B, X2, hS, hgr, hpost, hst2⟩ := hP hZ H hEL m meth c ⟨T.setVm vm1, locs, cells, slots⟩ (mkF m pc L rest) (.invokevirtual index) mk (.ref a :: argsL).toArray X1 rfl hml hd (by show 2 * 0 + (rest.map fun v => v.category).sum ≤ _; omega) (X1.named hn) ⟨rfl, eT, hc, hs⟩
    exact ⟨v, vm1, B, X1.warmed, X2, hS, hgr, hpost, (st1 _ fun acts => by rw [doInvoke_state]; exact Steps.refl _).trans hst2⟩) k
theorem nfSame {C : String} {y y' : MethodName} (w : (Cond.selects C y' y').before a0 Z = true) (wi : (Cond.instanceMethod y').before a0 Z = true) (he : y'.cls = y.cls) : ∀ (U : State), Z.Warmed39 U.vm → NotFace U y := fun U hU r0 h0 => by
  have n1 : NotFace U y' := notFace_of_selects (args := #[]) (mvT hU w)
  obtain ⟨mk, mM, hn, -⟩ := Cond.instanceMethod_spec (show (Cond.instanceMethod y').before #[] U = true from mvT hU wi)
  obtain ⟨kr, h1, h2⟩ := n1 mk hn
  have e1 := findClass_of_methodNamed hn
  have e2 := findClass_of_methodNamed h0
  rw [he] at e1
  have e3 := Option.some.inj (e1.symm.trans e2)
  exact ⟨kr, by rw [← e3]; exact h1, h2⟩
theorem smOf {y : MethodName} (wi : (Cond.instanceMethod y).before a0 Z = true) (nf : ∀ (U : State), Z.Warmed39 U.vm → NotFace U y) (hy : y.cls ≠ "java/lang/invoke/MethodHandle" ∧ y.cls ≠ "java/lang/invoke/VarHandle") : (Cond.sameMethod y.cls y.cls y.name y.desc).before a0 Z = true := by
  obtain ⟨mk, mM, hn, -⟩ := Cond.instanceMethod_spec wi
  obtain ⟨kr, h1, h2⟩ := nf Z (State.Warmed39.refl Z) mk hn
  have e1 := findClass_of_methodNamed hn
  have e2 := State.methodFound?_of_named hn hy
  have hn' : Z.methodNamed? ⟨y.cls, y.name, y.desc⟩ = some mk := hn
  simp only [Cond.before, Cond.holds, Cond.value, e1, e2, hn']
  simp [h1, h2]
theorem ggetFR {R0 O n d : String} {index : Nat} (hx : p.tables.exec = Jvm.exec) (w : (Cond.fieldRef own index R0 n d).before a0 Z = true) (via : Via Z R0 O n d) {a : Addr} {v : Value} (F : Fld Z h a O n d v)
    {pc : Nat} (pc' : Nat) {L : Array Slot} {rest : List Value} (hd : decode c.code pc = .ok (.getfield index, 3)) (hp : pc + 3 = pc')
    (k : Go p l e R s m args below meth c Z a0 EL own Q vm h cells slots (mkF m pc' L (v :: rest))) : Go p l e R s m args below meth c Z a0 EL own Q vm h cells slots (mkF m pc L (.ref a :: rest)) :=
  gy _ (fun T locs X hZ hown eT => by
    subst hp
    obtain ⟨cell, cf, k, i, f, h1, h2, h3, h4, -, -, h7⟩ := F
    obtain ⟨k', hi, -⟩ := State.fieldFound?_setVm (s := Z) hZ.alike (via _ h2)
    have w1 : (Cond.fieldRef own index R0 n d).before args (s.setVm vm) = true := (Cond.fieldRef_warmed39 hZ w :)
    have hW : (s.setVm vm).WarmedH T.vm := X.warmed
    have w2 := Cond.fieldRef_warmed hW w1
    obtain ⟨kk, hk1, hk2⟩ := Vm.findClass_spec hown
    have hc2 : T.vm.findClass own = some m.cls := by rw [hW.alike.findClass]; exact hown
    obtain ⟨c2, k2, i2, f2, g1, g2⟩ := Cond.fieldRef_spec (s := (s.setVm vm).setVm T.vm) hc2 w2
    obtain ⟨k3, hi3, -⟩ := State.fieldFound?_setVm (s := s.setVm vm) hW.alike (show (s.setVm vm).fieldFound? R0 n d = _ from hi)
    cases g1.symm.trans hi3
    refine ⟨T, X, eT, fun target hrest => ?_⟩
    jvm_step X.here [hx, (show decode c.code (mkF m pc L (.ref a :: rest)).pc = _ from hd), Op.getfield.wp_ready (e := e) (s := T) (f := mkF m pc L (.ref a :: rest)) X.here.top g2 h3 rfl (by rw [eT]; exact h1) h4 h7]
    exact hrest) k
theorem elR {args : Array Value} {s : State} {t u : Term} {aa st : Addr} {cl : Cell} {j : Int32} (ht : t.eval args s none [] s = some (.ref aa)) (hc : s.heap[aa]? = some cl) (hu : u.eval args s none [] s = some (.ref st)) (w : (Cond.eq (Term.elem t (Term.int j)) u).value args s none s [] = some true) : cl.slots[j.toNatClampNeg]? = some (.ref st) := by
  cases hv : (Term.elem t (Term.int j)).eval args s none [] s with
  | none => simp [Cond.value, hv] at w
  | some v =>
    have hr : v = .ref st := by
      generalize Term.elem t (Term.int j) = q at *
      cases v <;> simp [Cond.value, hv, hu] at w ⊢ <;> exact w
    subst hr
    exact (elem_in hv ht rfl hc).2
theorem gclone {index : Nat} {ad : String} (hx : p.tables.exec = Jvm.exec) (w1 : (Cond.methodLink own index ⟨ad, "clone", "()Ljava/lang/Object;"⟩).before a0 Z = true) (w2 : (Cond.sameMethod ad "java/lang/Object" "clone" "()Ljava/lang/Object;").before a0 Z = true) (w3 : (Cond.native ⟨"java/lang/Object", "clone", "()Ljava/lang/Object;"⟩).before a0 Z = true)
    (w4 : (Cond.instanceMethod ⟨"java/lang/Object", "clone", "()Ljava/lang/Object;"⟩).before a0 Z = true) (w5 : (Cond.selects ad ⟨ad, "clone", "()Ljava/lang/Object;"⟩ ⟨"java/lang/Object", "clone", "()Ljava/lang/Object;"⟩).before a0 Z = true) (w6 : (Cond.castable ad "java/lang/Cloneable").before a0 Z = true)
    {a : Addr} {kc : ClassId} {ty : FieldType} {z : Int32} {vs : List Value} {dv : Value} (V : Arv Z h a kc ty z vs dv) (E : Exa Z h a ad) {cap : Nat} (hcap : z.toNatClampNeg ≤ cap)
    {pc : Nat} (pc' : Nat) {L : Array Slot} {rest : List Value} {W : Nat} (hW : (rest.map fun v => v.category).sum ≤ W) (hml : L.size = c.maxLocals) (hd : decode c.code pc = .ok (.invokevirtual index, 3)) (hp : pc + 3 = pc') (hf : 1 ≤ R.frames) (hlo : W + 14 ≤ R.locals) (hc : cells + 1 ≤ R.cells) (hl : slots + cap ≤ R.slots)
    (k : ∀ (b : Addr) (h' : Heap), h.size = b → Ext h h' → CHr Z EL vm h vm h' → Arv Z h' b kc ty z vs dv → Exa Z h' b ad → Z.heap.size ≤ b → Safe Z EL vm h' b → Go p l e R s m args below meth c Z a0 EL own Q vm h' (cells + 1) (slots + cap) (mkF m pc' L (.ref b :: rest))) :
    Go p l e R s m args below meth c Z a0 EL own Q vm h cells slots (mkF m pc L (.ref a :: rest)) :=
  gnew (P := fun h' => Arv Z h' h.size kc ty z vs dv ∧ Exa Z h' h.size ad) (fun _ => mkF m pc' L (.ref h.size :: rest))
    (fun T locs X hZ hown eT => by
      subst hp
      obtain ⟨cl, A, q1, q2, q3, q4, q5⟩ := V
      have FC : FitC Z cl := fitC_of A fun i hi v hv => by rw [q4 i hi] at hv; cases hv; exact q5 i hi
      obtain ⟨T', h', X', e', ex, A', E', st⟩ := cloneA (s := s.setVm vm) X hx hZ hown w1 w2 w3 w4 w5 w6 eT A E FC (g := mkF m pc L (.ref a :: rest)) rfl hml rfl hd hf (W := W) (by show 2 * 0 + _ ≤ _; omega) hlo (by rw [q2]; exact hcap) hc hl
      exact ⟨T', h', X', e', ex, ⟨⟨cloneOf cl, A', q1, q2, q3, q4, q5⟩, E'⟩, st⟩)
    (fun h' E hC hP hz hs => k _ h' rfl E hC hP.1 hP.2 hz hs)
theorem catR {v : Value} (h : v.isRef = true) : v.category = 1 := by rcases ref_cases h with q | ⟨_, q⟩ <;> rw [q] <;> rfl
/-! arrays of bytes are copied -/
theorem tn {n : Nat} (h : n < 2147483648) : (Int32.ofNat n).toNatClampNeg = n := by rw [Int32.toNatClampNeg, Int32.toInt_ofNat_of_lt (by omega)]; rfl
theorem nn0 {n : Nat} (h : n < 2147483648) : ¬ Int32.ofNat n < 0 := by rw [Int32.lt_iff_toInt_lt, Int32.toInt_ofNat_of_lt (by omega)]; simp
theorem range_get (vs : List Value) (dv : Value) (i n : Nat) (hn : i + n ≤ vs.length) : (vs.drop i).take n = (List.range n).map fun t => vs.getD (i + t) dv := by
  apply List.ext_getElem
  · simp; omega
  · intro t h1 h2
    simp at h1 h2
    simp [List.getD_eq_getElem?_getD, List.getElem?_eq_getElem (show i + t < vs.length by omega)]
theorem gcopyN {index : Nat} (hx : p.tables.exec = Jvm.exec) (w1 : (Cond.methodLink own index Jvm.Stand.acN).before a0 Z = true) (w2 : (Cond.native Jvm.Stand.acN).before a0 Z = true) (w3 : (Cond.static Jvm.Stand.acN).before a0 Z = true) (w4 : (Cond.initialized "java/lang/System").before a0 Z = true)
    {a b : Addr} {ka kb : ClassId} {z z' sp dp nn : Int32} {vs vd : List Value} {dv dd : Value} (i j n N M : Nat) (A : Arv Z h a ka .byte z vs dv) (B : Arv Z h b kb .byte z' vd dd) (hsp : sp = Int32.ofNat i) (hdp : dp = Int32.ofNat j) (hnn : nn = Int32.ofNat n) (hz : z = Int32.ofNat N) (hz' : z' = Int32.ofNat M)
    (hN : N < 2147483648) (hM : M < 2147483648) (h4 : i + n ≤ N) (h5 : j + n ≤ M) (hvs : vs.length = N) (hvd : vd.length = M) (ge : Z.heap.size ≤ b) (hs : Z.vm.Alike vm → Safe Z EL vm h b)
    {pc : Nat} (pc' : Nat) {L : Array Slot} {rest : List Value} {W : Nat} (hW : (rest.map fun v => v.category).sum ≤ W) (hml : L.size = c.maxLocals) (hd : decode c.code pc = .ok (.invokestatic index, 3)) (hp : pc + 3 = pc') (hf : 1 ≤ R.frames) (hlo : W + 18 ≤ R.locals)
    (k : ∀ h', Keep h h' [b] → CHr Z EL vm h vm h' → Arv Z h' b kb .byte z' (vd.take j ++ (vs.drop i).take n ++ vd.drop (j + n)) dd → Go p l e R s m args below meth c Z a0 EL own Q vm h' cells slots (mkF m pc' L rest)) :
    Go p l e R s m args below meth c Z a0 EL own Q vm h cells slots (mkF m pc L (.int nn :: .int dp :: .ref b :: .int sp :: .ref a :: rest)) := fun T X => by
  subst hp hsp hdp hnn hz hz'
  obtain ⟨locs, k0, X', eT, hZ, hown, hS, hk, N0, H, E0, hEL, hx', hlk⟩ := X
  have ti : (Int32.ofNat i).toNatClampNeg = i := tn (by omega)
  have tj : (Int32.ofNat j).toNatClampNeg = j := tn (by omega)
  have tnn : (Int32.ofNat n).toNatClampNeg = n := tn (by omega)
  obtain ⟨T', h', L', X1, e1, F1, K1, V1, st⟩ := cpA (s := s.setVm vm) X' hx hZ hown w1 w2 w3 w4 eT A B (Or.inl ⟨rfl, rfl⟩) (nn0 (by omega)) (nn0 (by omega)) (nn0 (by omega)) (by rw [ti, tnn, tn hN]; exact h4) (by rw [tj, tnn, tn hM]; exact h5) (us := (vs.drop i).take n) (by rw [ti, tnn]; exact range_get vs dv i n (by omega)) (by rw [tj, tnn]; omega) N0 ge
    (g := mkF m pc L (.int (Int32.ofNat n) :: .int (Int32.ofNat j) :: .ref b :: .int (Int32.ofNat i) :: .ref a :: rest)) rfl hml rfl hd hf (W := W) (by show 2 * 0 + _ ≤ _; omega) (by show W + (7 + 11) ≤ _; omega)
  rw [tj, tnn] at V1
  have C1 : CHr Z EL vm h vm h' := CHr.keep K1 (allS (hs hZ.alike) all0) H.1
  obtain ⟨s2, o, q1, q2⟩ := k h' K1 C1 V1 T' ⟨L', k0, X1, e1, hZ, hown, hS, Nat.le_trans hk K1.1, F1, H.trans C1, E0, hEL, hx', hlk⟩
  exact ⟨s2, o, st _ q1, q2⟩
/-! a StringBuilder of Latin-1 signs -/
abbrev lo8s (cs : List Int32) : List Value := (cs.map fun c => c.toInt8.toInt32).map Value.int
def SBd (Z : State) (h : Heap) (b v : Addr) (cap : Nat) (cs : List Int32) : Prop := Exa Z h b "java/lang/StringBuilder" ∧ Fld Z h b "java/lang/AbstractStringBuilder" "value" "[B" (.ref v) ∧ Fld Z h b "java/lang/AbstractStringBuilder" "coder" "B" (.int 0) ∧ Fld Z h b "java/lang/AbstractStringBuilder" "count" "I" (.int (Int32.ofNat cs.length)) ∧
  (∃ kb zs, Arv Z h v kb .byte (Int32.ofNat cap) (lo8s cs ++ zs) (.int 0) ∧ cs.length + zs.length = cap) ∧ (∀ c ∈ cs, B8 c) ∧ cap ≤ 4000
variable {b v t o : Addr} {cap : Nat} {cs ds : List Int32} {ws : List Addr} {sl : Nat} {w : Value}
theorem SBd.ext (F : SBd Z h b v cap cs) (E : Ext h h') : SBd Z h' b v cap cs := by
  obtain ⟨f1, f2, f3, f4, ⟨kb, zs, f5, f6⟩, f7⟩ := F
  exact ⟨f1.ext E, f2.ext E, f3.ext E, f4.ext E, ⟨kb, zs, f5.ext E, f6⟩, f7⟩
theorem SBd.keep (F : SBd Z h b v cap cs) (K : Keep h h' ws) (q : b ∉ ws) (r : v ∉ ws) : SBd Z h' b v cap cs := by
  obtain ⟨f1, f2, f3, f4, ⟨kb, zs, f5, f6⟩, f7⟩ := F
  exact ⟨f1.keep K, f2.keep K q, f3.keep K q, f4.keep K q, ⟨kb, zs, f5.keep K r, f6⟩, f7⟩
theorem SBd.wr (F : SBd Z h b v cap cs) (W : Wr h h' o sl w) (q : b ≠ o) (r : v ≠ o) : SBd Z h' b v cap cs := by
  obtain ⟨f1, f2, f3, f4, ⟨kb, zs, f5, f6⟩, f7⟩ := F
  exact ⟨f1.wr W, f2.other W (Or.inl q), f3.other W (Or.inl q), f4.other W (Or.inl q), ⟨kb, zs, f5.other W r, f6⟩, f7⟩
theorem SBd.vlt (F : SBd Z h b v cap cs) : v < h.size := by obtain ⟨f1, f2, f3, f4, ⟨kb, zs, f5, f6⟩, f7⟩ := F; exact f5.lt
theorem addOf {a b : Nat} (h : a + b ≤ 4000) : Int32.ofNat a + Int32.ofNat b = Int32.ofNat (a + b) := by
  apply Int32.toInt_inj.mp
  have q := c_iadd (Int32.ofNat a) (Int32.ofNat b)
  have r := rng32 (Int32.ofNat a + Int32.ofNat b)
  rw [Int32.toInt_ofNat_of_lt (by omega), Int32.toInt_ofNat_of_lt (by omega)] at q
  rw [Int32.toInt_ofNat_of_lt (by omega)]
  omega
theorem subOf0 {a : Nat} (h : a ≤ 4000) : Int32.ofNat a - (0 : Int32) = Int32.ofNat a := by
  apply Int32.toInt_inj.mp
  have q := c_isub (Int32.ofNat a) 0
  have r := rng32 (Int32.ofNat a - 0)
  have e0 : (0 : Int32).toInt = 0 := rfl
  rw [Int32.toInt_ofNat_of_lt (by omega), e0] at q
  rw [Int32.toInt_ofNat_of_lt (by omega)]
  omega
theorem ltOf {a b : Nat} (ha : a ≤ 4000) (hb : b ≤ 4000) : Int32.ofNat a < Int32.ofNat b ↔ a < b := by
  rw [Int32.lt_iff_toInt_lt, Int32.toInt_ofNat_of_lt (by omega), Int32.toInt_ofNat_of_lt (by omega)]; omega
theorem eqOf {a b : Nat} (ha : a ≤ 4000) (hb : b ≤ 4000) : Int32.ofNat a = Int32.ofNat b ↔ a = b := by
  rw [← Int32.toInt_inj, Int32.toInt_ofNat_of_lt (by omega), Int32.toInt_ofNat_of_lt (by omega)]; omega
theorem subLe {a b : Nat} (ha : a ≤ 4000) (hb : b ≤ 4000) (h : a ≤ b) : ¬ (0 : Int32) < Int32.ofNat a - Int32.ofNat b := by
  have q := c_isub (Int32.ofNat a) (Int32.ofNat b)
  have r := rng32 (Int32.ofNat a - Int32.ofNat b)
  have e0 : (0 : Int32).toInt = 0 := rfl
  rw [Int32.toInt_ofNat_of_lt (by omega), Int32.toInt_ofNat_of_lt (by omega)] at q
  rw [Int32.lt_iff_toInt_lt, e0]
  omega
theorem shr0 {a : Nat} (h : a ≤ 4000) : (Int32.ofNat a >>> ((0 : Int32) &&& 31)) = Int32.ofNat a := by
  apply Int32.toInt_inj.mp
  rw [c_ishr _ 0 0 (by decide)]; simp
theorem shl0 {a : Nat} (h : a ≤ 4000) : (Int32.ofNat a <<< ((0 : Int32) &&& 31)) = Int32.ofNat a := by
  apply Int32.toInt_inj.mp
  have q := c_ishl (Int32.ofNat a) 0 0 (by decide)
  have r := rng32 (Int32.ofNat a <<< ((0 : Int32) &&& 31))
  rw [Int32.toInt_ofNat_of_lt (by omega)] at q ⊢
  omega
theorem lo8s_len (cs : List Int32) : (lo8s cs).length = cs.length := by simp [lo8s]
theorem lo8s_app (cs ds : List Int32) : lo8s (cs ++ ds) = lo8s cs ++ lo8s ds := by simp [lo8s]
/-- what a copy behind the first signs leaves -/
theorem put_list {zs : List Value} : ((lo8s cs ++ zs).take cs.length ++ ((lo8s ds).drop 0).take ds.length ++ (lo8s cs ++ zs).drop (cs.length + ds.length)) = lo8s (cs ++ ds) ++ zs.drop ds.length := by
  rw [List.take_append_of_le_length (by rw [lo8s_len]; exact Nat.le_refl _), List.take_of_length_le (by rw [lo8s_len]; exact Nat.le_refl _), List.drop_zero, List.take_of_length_le (by rw [lo8s_len]; exact Nat.le_refl _), lo8s_app]
  have e : (lo8s cs).drop cs.length = [] := List.drop_of_length_le (by rw [lo8s_len]; exact Nat.le_refl _)
  rw [← List.drop_drop, List.drop_append_of_le_length (by rw [lo8s_len]; exact Nat.le_refl _), e, List.nil_append]
theorem pre_list {zs : List Value} {d : Value} : ((List.replicate cs.length d).take 0 ++ ((lo8s cs ++ zs).drop 0).take cs.length ++ (List.replicate cs.length d).drop (0 + cs.length)) = lo8s cs := by
  rw [List.take_zero, List.nil_append, List.drop_zero, List.take_append_of_le_length (by rw [lo8s_len]; exact Nat.le_refl _), List.take_of_length_le (by rw [lo8s_len]; exact Nat.le_refl _), List.drop_of_length_le (by simp), List.append_nil]
end Kit5
end Jvm.OwnKit
/- laws to paste: Road.backV, Road.lenW, Road.chN, Road.codOf (cut by pick.py; bodies as the Statement names them) -/
namespace Jvm.Pilot.@@N@@
namespace StrChars
open Jvm Sem ClassFile Op Lib Jvm.Stand Jvm.Free.XT Jvm.Free.ALB Jvm.Free.JM Jvm.Free
open Jvm.Lib.Cold (StaticIs)
/-- a char array whose places are chars -/
def Ch (a : Addr) (A : Cell) (U : State) : Prop := Arr .char a A U ∧ Typed .char A
theorem Ch.mv {a : Addr} {A : Cell} {U U' : State} (h : Ch a A U) (hal : U.vm.Alike U'.vm) (hh : U'.heap = U.heap) : Ch a A U' := ⟨h.1.mv hal hh, h.2⟩
theorem Ch.keep {a : Addr} {A : Cell} {U U' : State} (h : Ch a A U) (hal : U.vm.Alike U'.vm) (hk : U'.heap[a]? = some A) : Ch a A U' := ⟨h.1.keep hal hk, h.2⟩
/-- what place i of a char[]'s cell holds -/
def cv (A : Cell) (i : Nat) : Int32 := match A.slots[i]? with | some (.int x) => x | _ => 0
theorem Ch.get {a : Addr} {A : Cell} {U : State} (h : Ch a A U) {i : Nat} (hi : i < A.slots.size) : A.slots[i]? = some (.int (cv A i)) := by
  have e := Array.getElem?_eq_getElem hi
  have f := h.2 i _ e
  unfold cv; rw [e]
  generalize A.slots[i] = v at f
  cases v <;> simp [fits] at f ⊢
/-- the byte that i2b leaves of a char -/
def lo8 (x : Int32) : Int32 := x.toInt8.toInt32
theorem fits_lo8 (y : Int32) : fits .byte (.int (lo8 y)) = true := by
  have h1 := y.toInt8.le_toInt
  have h2 := y.toInt8.toInt_lt
  simp only [lo8, fits, Bool.and_eq_true, decide_eq_true_eq, Int32.le_iff_toInt_le, Int8.toInt_toInt32, show (-128 : Int32).toInt = -128 from by decide, show (127 : Int32).toInt = 127 from by decide]
  omega
/-- A' is A but that each place j of lo .. hi - 1 holds f j -/
def Laid (A A' : Cell) (lo hi : Nat) (f : Nat → Value) : Prop := A'.cls = A.cls ∧ A'.vm = A.vm ∧ A'.slots.size = A.slots.size ∧ ∀ i, A'.slots[i]? = if lo ≤ i ∧ i < hi then some (f i) else A.slots[i]?
theorem Laid.zero (A : Cell) (lo : Nat) (f : Nat → Value) : Laid A A lo (lo + 0) f := ⟨rfl, rfl, rfl, fun i => by rw [if_neg (by omega)]⟩
theorem Laid.step {A Ak : Cell} {lo k : Nat} {f : Nat → Value} {v : Value} (h : Laid A Ak lo k f) (hlo : lo ≤ k) (hk : k < Ak.slots.size) (hv : v = f k) : Laid A (Ak.setSlot k v) lo (k + 1) f := by
  refine ⟨h.1, h.2.1, by simpa [Cell.setSlot] using h.2.2.1, fun i => ?_⟩
  by_cases e : k = i
  · subst e; rw [Cell.slots_setSlot_self v hk, if_pos (by omega), hv]
  · rw [Cell.slots_setSlot_ne v e, h.2.2.2 i]
    by_cases q : lo ≤ i ∧ i < k
    · rw [if_pos q, if_pos (by omega)]
    · rw [if_neg q, if_neg (by omega)]
def U16 : String := "java/lang/StringUTF16"
namespace Cmp5
def yN : MethodName := ⟨"java/lang/StringUTF16", "compress", "([CI[BII)I"⟩
abbrev yB : ByteArray := jdk_52_method_21_code
theorem d0 : decode yB 0 = .ok (.iconst 0, 1) := by decide +kernel
theorem d1 : decode yB 1 = .ok (.istore 5, 2) := by decide +kernel
theorem d3 : decode yB 3 = .ok (.iload 5, 2) := by decide +kernel
theorem d5 : decode yB 5 = .ok (.iload 4, 2) := by decide +kernel
theorem d7 : decode yB 7 = .ok (.if_icmp (.ge) 37, 3) := by decide +kernel
theorem d10 : decode yB 10 = .ok (.aload_n 0, 1) := by decide +kernel
theorem d11 : decode yB 11 = .ok (.iload_n 1, 1) := by decide +kernel
theorem d12 : decode yB 12 = .ok (.caload, 1) := by decide +kernel
theorem d13 : decode yB 13 = .ok (.istore 6, 2) := by decide +kernel
theorem d15 : decode yB 15 = .ok (.iload 6, 2) := by decide +kernel
theorem d17 : decode yB 17 = .ok (.sipush 255, 3) := by decide +kernel
theorem d20 : decode yB 20 = .ok (.if_icmp (.le) 6, 3) := by decide +kernel
theorem d26 : decode yB 26 = .ok (.aload_n 2, 1) := by decide +kernel
theorem d27 : decode yB 27 = .ok (.iload_n 3, 1) := by decide +kernel
theorem d28 : decode yB 28 = .ok (.iload 6, 2) := by decide +kernel
theorem d30 : decode yB 30 = .ok (.i2b, 1) := by decide +kernel
theorem d31 : decode yB 31 = .ok (.bastore, 1) := by decide +kernel
theorem d32 : decode yB 32 = .ok (.iinc 1 1, 3) := by decide +kernel
theorem d35 : decode yB 35 = .ok (.iinc 3 1, 3) := by decide +kernel
theorem d38 : decode yB 38 = .ok (.iinc 5 1, 3) := by decide +kernel
theorem d41 : decode yB 41 = .ok (.goto (-38), 3) := by decide +kernel
theorem d44 : decode yB 44 = .ok (.iload 4, 2) := by decide +kernel
theorem d46 : decode yB 46 = .ok (.ireturn, 1) := by decide +kernel
def site : List Cond := []
def tab : Cond := tabOf yN yB 7 (some .int) site
def P (b : Addr) (A : Cell) (d : Addr) (B : Cell) (o q len : Nat) (args : Array Value) (s : State) : Prop := args = #[.ref b, .int (Int32.ofNat o), .ref d, .int (Int32.ofNat q), .int (Int32.ofNat len)] ∧ Ch b A s ∧ Arr .byte d B s ∧ b ≠ d ∧ o + len ≤ A.slots.size ∧ q + len ≤ B.slots.size ∧ ∀ i, i < len → ¬ 255 < cv A (o + i)
def E (b : Addr) (A : Cell) (d : Addr) (B : Cell) (o q len : Nat) (r : Option Value) (s u : State) : Prop := r = some (.int (Int32.ofNat len)) ∧ ∃ B', Put d B' s u ∧ Laid B B' q (q + len) (fun j => Value.int (lo8 (cv A (o + (j - q)))))
/-- no char of the range above 255: len; the places written hold each char's low byte -/
theorem law (l : Launch) (b : Addr) (A : Cell) (d : Addr) (B : Cell) (o q len : Nat) : Law l yN 5 5 0 0 yB 7 (some .int) site (P b A d B o q len) (E b A d B o q len) (copyLocs d q len) 0 0 := by
  refine Law.of_walk (plainFor_of_name (by decide +kernel)) (by decide +kernel) (by decide +kernel) (by decide) (fun _ _ h => by rw [h.1]; rfl) (fun _ U U' hal hh h => ⟨h.1, h.2.1.mv hal hh, h.2.2.1.mv hal hh, h.2.2.2⟩) (fun r U U' V V' h1 hal h2 h => ⟨h.1, h.2.elim fun B' q => ⟨B', q.1.mv h1 h2, q.2⟩⟩) ?_
  intro p e s m args below meth c s₁ X0 hexec hbytes hml hret hlk hnm hown hh0 W hP
  obtain ⟨rfl, hA, hB, hne, l1, l2, hp⟩ := hP
  have c1 : Steps p.tables e below (s₁.setTop (entryFrame m #[.ref b, .int (Int32.ofNat o), .ref d, .int (Int32.ofNat q), .int (Int32.ofNat len)] 7)) (s₁.setTop (mkF m 0 #[.val (.ref b), .val (.int (Int32.ofNat o)), .val (.ref d), .val (.int (Int32.ofNat q)), .val (.int (Int32.ofNat len)), .unset, .unset] [])) := entry rfl
  have hA0 := hA.1.mv X0.warmed.alike hh0
  have hB0 := hB.mv X0.warmed.alike hh0
  have a31 := hA.1.2.2.2
  have c2 : Steps p.tables e below (s₁.setTop (entryFrame m #[.ref b, .int (Int32.ofNat o), .ref d, .int (Int32.ofNat q), .int (Int32.ofNat len)] 7)) (s₁.setTop (mkF m 3 #[.val (.ref b), .val (.int (Int32.ofNat o)), .val (.ref d), .val (.int (Int32.ofNat q)), .val (.int (Int32.ofNat len)), .val (.int 0), .unset] [])) := c1.trans (by
    refine iconstV X0.here hexec rfl 0 (hb hbytes d0) (by decide) ?_
    refine XS.istore X0.here hexec rfl (hb hbytes d1) rfl rfl ?_
    exact Steps.refl _)
  have loop : ∀ (r i : Nat), i + r = len → ∀ (z : Slot), (z = .unset ∨ ∃ w, z = .val w ∧ w.category = 1) → ∀ (Tl : State) (Bk : Cell), Stand p l e { frames := 0, locals := 0, cells := 0, slots := 0 } s m #[.ref b, .int (Int32.ofNat o), .ref d, .int (Int32.ofNat q), .int (Int32.ofNat len)] below meth c Tl ([] ++ copyLocs d q i) 0 0 → Put d Bk s₁ Tl → Laid B Bk q (q + i) (fun j => Value.int (lo8 (cv A (o + (j - q))))) →
      Steps p.tables e below (s₁.setTop (entryFrame m #[.ref b, .int (Int32.ofNat o), .ref d, .int (Int32.ofNat q), .int (Int32.ofNat len)] 7)) (Tl.setTop (mkF m 3 #[.val (.ref b), .val (.int (Int32.ofNat (o + i))), .val (.ref d), .val (.int (Int32.ofNat (q + i))), .val (.int (Int32.ofNat len)), .val (.int (Int32.ofNat i)), z] [])) → ∃ (T' : State) (B' : Cell) (z' : Slot), Stand p l e { frames := 0, locals := 0, cells := 0, slots := 0 } s m #[.ref b, .int (Int32.ofNat o), .ref d, .int (Int32.ofNat q), .int (Int32.ofNat len)] below meth c T' ([] ++ copyLocs d q len) 0 0 ∧ Put d B' s₁ T' ∧ Laid B B' q (q + len) (fun j => Value.int (lo8 (cv A (o + (j - q))))) ∧
      Steps p.tables e below (s₁.setTop (entryFrame m #[.ref b, .int (Int32.ofNat o), .ref d, .int (Int32.ofNat q), .int (Int32.ofNat len)] 7)) (T'.setTop (mkF m 3 #[.val (.ref b), .val (.int (Int32.ofNat (o + len))), .val (.ref d), .val (.int (Int32.ofNat (q + len))), .val (.int (Int32.ofNat len)), .val (.int (Int32.ofNat len)), z'] [])) := by
    intro r
    induction r with
    | zero =>
      intro i hi z hz Tl Bk Xl pl fl cl
      have hil : i = len := by omega
      rw [hil] at Xl fl cl
      exact ⟨Tl, Bk, z, Xl, pl, fl, cl⟩
    | succ r ih =>
      intro i hi z hz Tl Bk Xl pl fl cl
      have all := X0.warmed.alike.symm.trans Xl.warmed.alike
      have hAl := hA0.keep all (pl.other hne hA0.1)
      have hBk := hB0.like all pl.1 fl.1 fl.2.1 fl.2.2.1
      have hlt : q + i < Bk.slots.size := by rw [fl.2.2.1]; omega
      have c3 : Steps p.tables e below (s₁.setTop (entryFrame m #[.ref b, .int (Int32.ofNat o), .ref d, .int (Int32.ofNat q), .int (Int32.ofNat len)] 7)) (Tl.setTop (mkF m 12 #[.val (.ref b), .val (.int (Int32.ofNat (o + i))), .val (.ref d), .val (.int (Int32.ofNat (q + i))), .val (.int (Int32.ofNat len)), .val (.int (Int32.ofNat i)), z] [.int (Int32.ofNat (o + i)), .ref b])) := cl.trans (by
        refine XS.iload Xl.here hexec rfl (hb hbytes d3) rfl ?_
        refine XS.iload Xl.here hexec rfl (hb hbytes d5) rfl ?_
        refine XS.icmpNo Xl.here hexec rfl (hb hbytes d7) rfl (ii_ge_f (lt32 (by omega) (by omega))) ?_
        refine XS.aloadN Xl.here hexec rfl (hb hbytes d10) rfl rfl ?_
        refine XS.iloadN Xl.here hexec rfl (hb hbytes d11) rfl ?_
        exact Steps.refl _)
      have c4 : Steps p.tables e below (s₁.setTop (entryFrame m #[.ref b, .int (Int32.ofNat o), .ref d, .int (Int32.ofNat q), .int (Int32.ofNat len)] 7)) (Tl.setTop (mkF m 13 #[.val (.ref b), .val (.int (Int32.ofNat (o + i))), .val (.ref d), .val (.int (Int32.ofNat (q + i))), .val (.int (Int32.ofNat len)), .val (.int (Int32.ofNat i)), z] [.int (cv A (o + i))])) := c3.trans (by
        refine Xl.aget hexec hAl rfl (hA.get (i := o + i) (by omega)) rfl rfl (hb hbytes d12) ?_
        exact Steps.refl _)
      have c5 : Steps p.tables e below (s₁.setTop (entryFrame m #[.ref b, .int (Int32.ofNat o), .ref d, .int (Int32.ofNat q), .int (Int32.ofNat len)] 7)) (Tl.setTop (mkF m 15 #[.val (.ref b), .val (.int (Int32.ofNat (o + i))), .val (.ref d), .val (.int (Int32.ofNat (q + i))), .val (.int (Int32.ofNat len)), .val (.int (Int32.ofNat i)), .val (.int (cv A (o + i)))] [])) := c4.trans (by
        refine XS.istoreS Xl.here hexec rfl (hb hbytes d13) rfl rfl hz ?_
        exact Steps.refl _)
      have c6 : Steps p.tables e below (s₁.setTop (entryFrame m #[.ref b, .int (Int32.ofNat o), .ref d, .int (Int32.ofNat q), .int (Int32.ofNat len)] 7)) (Tl.setTop (mkF m 31 #[.val (.ref b), .val (.int (Int32.ofNat (o + i))), .val (.ref d), .val (.int (Int32.ofNat (q + i))), .val (.int (Int32.ofNat len)), .val (.int (Int32.ofNat i)), .val (.int (cv A (o + i)))] [.int (lo8 (cv A (o + i))), .int (Int32.ofNat (q + i)), .ref d])) := c5.trans (by
        refine XS.iload Xl.here hexec rfl (hb hbytes d15) rfl ?_
        refine sipushV Xl.here hexec rfl 255 (hb hbytes d17) (by decide) ?_
        refine XS.icmpYes Xl.here hexec rfl (pc0 := 20) rfl (hb hbytes d20) rfl (ii_le_t (hp i (by omega))) (by decide) rfl ?_
        refine XS.aloadN Xl.here hexec rfl (hb hbytes d26) rfl rfl ?_
        refine XS.iloadN Xl.here hexec rfl (hb hbytes d27) rfl ?_
        refine XS.iload Xl.here hexec rfl (hb hbytes d28) rfl ?_
        refine i2b Xl.here hexec rfl (hb hbytes d30) rfl ?_
        exact Steps.refl _)
      obtain ⟨T7, X7, p7, st7⟩ := Xl.aput hexec hBk rfl hlt rfl (fits_lo8 (cv A (o + i))) (g := (mkF m 31 #[.val (.ref b), .val (.int (Int32.ofNat (o + i))), .val (.ref d), .val (.int (Int32.ofNat (q + i))), .val (.int (Int32.ofNat len)), .val (.int (Int32.ofNat i)), .val (.int (cv A (o + i)))] [.int (lo8 (cv A (o + i))), .int (Int32.ofNat (q + i)), .ref d])) rfl (rest := []) rfl (hb hbytes d31)
      have c8 : Steps p.tables e below (s₁.setTop (entryFrame m #[.ref b, .int (Int32.ofNat o), .ref d, .int (Int32.ofNat q), .int (Int32.ofNat len)] 7)) (T7.setTop (mkF m 32 #[.val (.ref b), .val (.int (Int32.ofNat (o + i))), .val (.ref d), .val (.int (Int32.ofNat (q + i))), .val (.int (Int32.ofNat len)), .val (.int (Int32.ofNat i)), .val (.int (cv A (o + i)))] [])) := c6.trans (st7 _ (Steps.refl _))
      have c9 : Steps p.tables e below (s₁.setTop (entryFrame m #[.ref b, .int (Int32.ofNat o), .ref d, .int (Int32.ofNat q), .int (Int32.ofNat len)] 7)) (T7.setTop (mkF m 3 #[.val (.ref b), .val (.int (Int32.ofNat (o + i) + 1)), .val (.ref d), .val (.int (Int32.ofNat (q + i) + 1)), .val (.int (Int32.ofNat len)), .val (.int (Int32.ofNat i + 1)), .val (.int (cv A (o + i)))] [])) := c8.trans (by
        refine iincV X7.here hexec rfl 1 (hb hbytes d32) (by decide) rfl rfl ?_
        refine iincV X7.here hexec rfl 1 (hb hbytes d35) (by decide) rfl rfl ?_
        refine iincV X7.here hexec rfl 1 (hb hbytes d38) (by decide) rfl rfl ?_
        refine XS.goto X7.here hexec rfl (pc0 := 41) rfl (hb hbytes d41) (by decide) rfl ?_
        exact Steps.refl _)
      have c10 : Steps p.tables e below (s₁.setTop (entryFrame m #[.ref b, .int (Int32.ofNat o), .ref d, .int (Int32.ofNat q), .int (Int32.ofNat len)] 7)) (T7.setTop (mkF m 3 #[.val (.ref b), .val (.int (Int32.ofNat (o + (i + 1)))), .val (.ref d), .val (.int (Int32.ofNat (q + (i + 1)))), .val (.int (Int32.ofNat len)), .val (.int (Int32.ofNat (i + 1))), .val (.int (cv A (o + i)))] [])) := by
        have := c9
        rw [succ32, succ32, succ32] at this
        exact this
      exact ih (i + 1) (by omega) _ (Or.inr ⟨_, rfl, rfl⟩) T7 _ (by rw [copyLocs_step, ← List.append_assoc]; exact X7) (pl.trans p7) (fl.step (by omega) hlt (by simp)) c10
  obtain ⟨T9, B9, z9, X9, p9, f9, g9⟩ := loop len 0 (by omega) .unset (Or.inl rfl) s₁ B (by simpa [copyLocs] using X0) ⟨hB0.1, fun _ _ => rfl, rfl⟩ (Laid.zero _ _ _) c2
  have c11 : Steps p.tables e below (s₁.setTop (entryFrame m #[.ref b, .int (Int32.ofNat o), .ref d, .int (Int32.ofNat q), .int (Int32.ofNat len)] 7)) (T9.setTop (mkF m 46 #[.val (.ref b), .val (.int (Int32.ofNat (o + len))), .val (.ref d), .val (.int (Int32.ofNat (q + len))), .val (.int (Int32.ofNat len)), .val (.int (Int32.ofNat len)), z9] [.int (Int32.ofNat len)])) := g9.trans (by
    refine XS.iload X9.here hexec rfl (hb hbytes d3) rfl ?_
    refine XS.iload X9.here hexec rfl (hb hbytes d5) rfl ?_
    refine XS.icmpYes X9.here hexec rfl (pc0 := 7) rfl (hb hbytes d7) rfl (ii_ge_t (nlt32 (by omega) (Nat.le_refl _))) (by decide) rfl ?_
    refine XS.iload X9.here hexec rfl (hb hbytes d44) rfl ?_
    exact Steps.refl _)
  exact ⟨T9, some (.int (Int32.ofNat len)), _, _, _, X9, by simp, rfl, rfl, (fun h => by cases h), ⟨rfl, B9, p9.from hh0, f9⟩, fun fs hl => c11.trans (X9.ireturnOut hexec hret rfl (Or.inl rfl) (hb hbytes d46) hl)⟩
end Cmp5
namespace Cmp3
def yN : MethodName := ⟨"java/lang/StringUTF16", "compress", "([CII)[B"⟩
abbrev yB : ByteArray := jdk_52_method_16_code
theorem d0 : decode yB 0 = .ok (.iload_n 2, 1) := by decide +kernel
theorem d1 : decode yB 1 = .ok (.newarray .byte, 2) := by decide +kernel
theorem d3 : decode yB 3 = .ok (.astore_n 3, 1) := by decide +kernel
theorem d4 : decode yB 4 = .ok (.aload_n 0, 1) := by decide +kernel
theorem d5 : decode yB 5 = .ok (.iload_n 1, 1) := by decide +kernel
theorem d6 : decode yB 6 = .ok (.aload_n 3, 1) := by decide +kernel
theorem d7 : decode yB 7 = .ok (.iconst 0, 1) := by decide +kernel
theorem d8 : decode yB 8 = .ok (.iload_n 2, 1) := by decide +kernel
theorem d9 : decode yB 9 = .ok (.invokestatic 115, 3) := by decide +kernel
theorem d12 : decode yB 12 = .ok (.istore 4, 2) := by decide +kernel
theorem d14 : decode yB 14 = .ok (.iload 4, 2) := by decide +kernel
theorem d16 : decode yB 16 = .ok (.iload_n 2, 1) := by decide +kernel
theorem d17 : decode yB 17 = .ok (.if_icmp (.eq) 40, 3) := by decide +kernel
theorem d57 : decode yB 57 = .ok (.aload_n 3, 1) := by decide +kernel
theorem d58 : decode yB 58 = .ok (.areturn, 1) := by decide +kernel
def site : List Cond := [.arrayClass .byte, Cmp5.tab] ++ staticW U16 115 Cmp5.yN
def tab : Cond := tabOf yN yB 6 (some (.array .byte)) site
def P (b : Addr) (A : Cell) (o len : Nat) (args : Array Value) (s : State) : Prop := args = #[.ref b, .int (Int32.ofNat o), .int (Int32.ofNat len)] ∧ Ch b A s ∧ o + len ≤ A.slots.size ∧ len ≤ 536870912 ∧ ∀ i, i < len → ¬ 255 < cv A (o + i)
def E (b : Addr) (A : Cell) (o len : Nat) (r : Option Value) (s u : State) : Prop := NewArr .byte "[B" len (fun j => .int (lo8 (cv A (o + j)))) r s u ∧ u.heap.size = s.heap.size + 1
/-- no char of the range above 255: a new byte[] of their low bytes -/
theorem law (l : Launch) (b : Addr) (A : Cell) (o len : Nat) : Law l yN 3 3 1 18 yB 6 (some (.array .byte)) site (P b A o len) (E b A o len) [] 1 len := by
  refine Law.of_walk (plainFor_of_name (by decide +kernel)) (by decide +kernel) (by decide +kernel) (by decide) (fun _ _ h => by rw [h.1]; rfl) (fun _ U U' hal hh h => ⟨h.1, h.2.1.mv hal hh, h.2.2⟩) (fun r U U' V V' h1 hal h2 h => ⟨NewArr.mv r U U' V V' h1 hal h2 h.1, by rw [h1, h2]; exact h.2⟩) ?_
  intro p e s m args below meth c s₁ X0 hexec hbytes hml hret hlk hnm hown hh0 W hP
  obtain ⟨rfl, hA, l1, l2, hp⟩ := hP
  have a31 := hA.1.2.2.2
  have c1 : Steps p.tables e below (s₁.setTop (entryFrame m #[.ref b, .int (Int32.ofNat o), .int (Int32.ofNat len)] 6)) (s₁.setTop (mkF m 0 #[.val (.ref b), .val (.int (Int32.ofNat o)), .val (.int (Int32.ofNat len)), .unset, .unset, .unset] [])) := entry rfl
  have c2 : Steps p.tables e below (s₁.setTop (entryFrame m #[.ref b, .int (Int32.ofNat o), .int (Int32.ofNat len)] 6)) (s₁.setTop (mkF m 1 #[.val (.ref b), .val (.int (Int32.ofNat o)), .val (.int (Int32.ofNat len)), .unset, .unset, .unset] [.int (Int32.ofNat len)])) := c1.trans (by
    refine XS.iloadN X0.here hexec rfl (hb hbytes d0) rfl ?_
    exact Steps.refl _)
  obtain ⟨T3, B3, X3, ba3, bs3, bv3, bh3, bf3, st3⟩ := X0.anew hexec (atype := .byte) (wk W (.arrayClass .byte)) rfl (by show len * 1 ≤ _; omega) (by omega) (g := (mkF m 1 #[.val (.ref b), .val (.int (Int32.ofNat o)), .val (.int (Int32.ofNat len)), .unset, .unset, .unset] [.int (Int32.ofNat len)])) rfl (hb hbytes d1) (rest := []) rfl (Nat.le_refl _) (by show 0 + len ≤ len; omega)
  rw [hh0] at ba3 st3
  have kp3 : XT.Kept s T3 := (XT.Kept.of_eq hh0).push bh3
  have hA3 := hA.keep X3.warmed.alike (kp3 _ _ hA.1.1)
  have hne : b ≠ s.heap.size := hA.1.ne
  have c4 : Steps p.tables e below (s₁.setTop (entryFrame m #[.ref b, .int (Int32.ofNat o), .int (Int32.ofNat len)] 6)) (T3.setTop (mkF m 3 #[.val (.ref b), .val (.int (Int32.ofNat o)), .val (.int (Int32.ofNat len)), .unset, .unset, .unset] [.ref s.heap.size])) := c2.trans (st3 _ (Steps.refl _))
  have c5 : Steps p.tables e below (s₁.setTop (entryFrame m #[.ref b, .int (Int32.ofNat o), .int (Int32.ofNat len)] 6)) (T3.setTop (mkF m 9 #[.val (.ref b), .val (.int (Int32.ofNat o)), .val (.int (Int32.ofNat len)), .val (.ref s.heap.size), .unset, .unset] [.int (Int32.ofNat len), .int 0, .ref s.heap.size, .int (Int32.ofNat o), .ref b])) := c4.trans (by
    refine XS.astoreN X3.here hexec rfl (hb hbytes d3) rfl rfl rfl ?_
    refine XS.aloadN X3.here hexec rfl (hb hbytes d4) rfl rfl ?_
    refine XS.iloadN X3.here hexec rfl (hb hbytes d5) rfl ?_
    refine XS.aloadN X3.here hexec rfl (hb hbytes d6) rfl rfl ?_
    refine iconstV X3.here hexec rfl 0 (hb hbytes d7) (by decide) ?_
    refine XS.iloadN X3.here hexec rfl (hb hbytes d8) rfl ?_
    exact Steps.refl _)
  obtain ⟨v6, T6, X6, E6, g6⟩ := X3.callS hexec (Cmp5.law l b A s.heap.size B3 o 0 len) hown (wks W (staticW U16 115 Cmp5.yN)) (wk W Cmp5.tab) (W := 0) (Nat.le_of_ble_eq_true rfl) (Nat.le_of_ble_eq_true rfl) (Nat.le_refl _) (by show 0 + len + 0 ≤ len; omega) (g := (mkF m 9 #[.val (.ref b), .val (.int (Int32.ofNat o)), .val (.int (Int32.ofNat len)), .val (.ref s.heap.size), .unset, .unset] [.int (Int32.ofNat len), .int (Int32.ofNat 0), .ref s.heap.size, .int (Int32.ofNat o), .ref b])) rfl (by rw [hml]; rfl) c5 (argsL := [.ref b, .int (Int32.ofNat o), .ref s.heap.size, .int (Int32.ofNat 0), .int (Int32.ofNat len)]) (rest := []) rfl rfl (by show 2 * 0 + 0 ≤ _; decide) (hb hbytes d9) (⟨rfl, hA3, ba3, hne, l1, by rw [bs3]; simp, hp⟩)
  obtain ⟨rfl, B6, p6, f6⟩ := E6
  have c7 : Steps p.tables e below (s₁.setTop (entryFrame m #[.ref b, .int (Int32.ofNat o), .int (Int32.ofNat len)] 6)) (T6.setTop (mkF m 12 #[.val (.ref b), .val (.int (Int32.ofNat o)), .val (.int (Int32.ofNat len)), .val (.ref s.heap.size), .unset, .unset] [.int (Int32.ofNat len)])) := g6
  have c8 : Steps p.tables e below (s₁.setTop (entryFrame m #[.ref b, .int (Int32.ofNat o), .int (Int32.ofNat len)] 6)) (T6.setTop (mkF m 58 #[.val (.ref b), .val (.int (Int32.ofNat o)), .val (.int (Int32.ofNat len)), .val (.ref s.heap.size), .val (.int (Int32.ofNat len)), .unset] [.ref s.heap.size])) := c7.trans (by
    refine XS.istore X6.here hexec rfl (hb hbytes d12) rfl rfl ?_
    refine XS.iload X6.here hexec rfl (hb hbytes d14) rfl ?_
    refine XS.iloadN X6.here hexec rfl (hb hbytes d16) rfl ?_
    refine XS.icmpYes X6.here hexec rfl (pc0 := 17) rfl (hb hbytes d17) rfl (ii_eq_t rfl) (by decide) rfl ?_
    refine XS.aloadN X6.here hexec rfl (hb hbytes d57) rfl rfl ?_
    exact Steps.refl _)
  have X8 := X6.wide (L' := []) (cells' := 1) (slots' := len) (fun x hx hlt => by
    simp only [List.nil_append, copyLocs, List.mem_map, List.mem_range] at hx
    obtain ⟨i, -, rfl⟩ := hx
    exact absurd hlt (Nat.lt_irrefl _)) (Nat.le_refl _) (by omega)
  exact ⟨T6, some (.ref s.heap.size), _, _, _, X8, rfl, rfl, rfl, (fun h => by cases h), ⟨⟨rfl, B6, ba3.like (X3.warmed.alike.symm.trans X6.warmed.alike) p6.1 f6.1 f6.2.1 f6.2.2.1, f6.2.1.trans bv3, by rw [X6.warmed.alike.findClass, f6.1]; exact bf3, by rw [f6.2.2.1, bs3]; simp, fun j hj => by rw [f6.2.2.2 j, if_pos (by omega)]; rfl, kp3.put p6 (Nat.le_refl _)⟩, by rw [p6.2.2, bh3, hh0]; simp⟩, fun fs hl => c8.trans (X8.areturnOut hexec rfl hret rfl (hb hbytes d58) hl)⟩
end Cmp3
namespace CodL
def yN : MethodName := ⟨"java/lang/StringUTF16", "coderFromArrayLen", "([BI)B"⟩
abbrev yB : ByteArray := jdk_52_method_15_code
theorem d0 : decode yB 0 = .ok (.iload_n 1, 1) := by decide +kernel
theorem d1 : decode yB 1 = .ok (.aload_n 0, 1) := by decide +kernel
theorem d2 : decode yB 2 = .ok (.arraylength, 1) := by decide +kernel
theorem d3 : decode yB 3 = .ok (.isub, 1) := by decide +kernel
theorem d4 : decode yB 4 = .ok (.bipush 31, 2) := by decide +kernel
theorem d6 : decode yB 6 = .ok (.iushr, 1) := by decide +kernel
theorem d7 : decode yB 7 = .ok (.i2b, 1) := by decide +kernel
theorem d8 : decode yB 8 = .ok (.ireturn, 1) := by decide +kernel
def site : List Cond := []
def tab : Cond := tabOf yN yB 2 (some .byte) site
def P (d : Addr) (B : Cell) (args : Array Value) (s : State) : Prop := args = #[.ref d, .int (Int32.ofNat B.slots.size)] ∧ Arr .byte d B s
def E (r : Option Value) (s u : State) : Prop := XT.PureE (some (.int 0)) r s u
/-- an array as long as the number of chars: LATIN1 -/
theorem law (l : Launch) (d : Addr) (B : Cell) : Law l yN 2 2 0 0 yB 2 (some .byte) site (P d B) E [] 0 0 := by
  refine Law.of_walk (plainFor_of_name (by decide +kernel)) (by decide +kernel) (by decide +kernel) (by decide) (fun _ _ h => by rw [h.1]; rfl) (fun _ U U' hal hh h => ⟨h.1, h.2.mv hal hh⟩) (fun r U U' V V' h1 hal h2 h => XT.PureE.mv r U U' V V' h1 hal h2 h) ?_
  intro p e s m args below meth c s₁ X0 hexec hbytes hml hret hlk hnm hown hh0 W hP
  obtain ⟨rfl, hB⟩ := hP
  have hB0 := hB.mv X0.warmed.alike hh0
  have c1 : Steps p.tables e below (s₁.setTop (entryFrame m #[.ref d, .int (Int32.ofNat B.slots.size)] 2)) (s₁.setTop (mkF m 0 #[.val (.ref d), .val (.int (Int32.ofNat B.slots.size))] [])) := entry rfl
  have c2 : Steps p.tables e below (s₁.setTop (entryFrame m #[.ref d, .int (Int32.ofNat B.slots.size)] 2)) (s₁.setTop (mkF m 2 #[.val (.ref d), .val (.int (Int32.ofNat B.slots.size))] [.ref d, .int (Int32.ofNat B.slots.size)])) := c1.trans (by
    refine XS.iloadN X0.here hexec rfl (hb hbytes d0) rfl ?_
    refine XS.aloadN X0.here hexec rfl (hb hbytes d1) rfl rfl ?_
    exact Steps.refl _)
  have c3 : Steps p.tables e below (s₁.setTop (entryFrame m #[.ref d, .int (Int32.ofNat B.slots.size)] 2)) (s₁.setTop (mkF m 8 #[.val (.ref d), .val (.int (Int32.ofNat B.slots.size))] [.int (lo8 (ushr (Int32.ofNat B.slots.size - Int32.ofNat B.slots.size) 31))])) := c2.trans (by
    refine X0.alen hexec hB0 rfl rfl (hb hbytes d2) ?_
    refine XS.isub X0.here hexec rfl (hb hbytes d3) rfl ?_
    refine bipushV X0.here hexec rfl 31 (hb hbytes d4) (by decide) ?_
    refine iushr X0.here hexec rfl (hb hbytes d6) rfl ?_
    refine i2b X0.here hexec rfl (hb hbytes d7) rfl ?_
    exact Steps.refl _)
  have e0 : lo8 (ushr (Int32.ofNat B.slots.size - Int32.ofNat B.slots.size) 31) = 0 := by rw [Int32.sub_self]; decide
  rw [e0] at c3
  exact ⟨s₁, some (.int 0), _, _, _, X0, rfl, rfl, rfl, (fun h => by cases h), ⟨rfl, hh0⟩, fun fs hl => c3.trans (X0.ireturnOut hexec hret rfl (Or.inr (Or.inr (Or.inl rfl))) (hb hbytes d8) hl)⟩
end CodL
/-- the String at a is Latin-1 over a new byte[] (the heap's one new cell): the low bytes of the len chars of A from o on; every cell but a is kept -/
def Got (a : Addr) (D : Cell) (fV fC : Field) (A : Cell) (o len : Nat) (r : Option Value) (s u : State) : Prop := r = none ∧ ∃ D' V : Cell, Blank "java/lang/String" a D' u ∧ Same D D' [fV.slot, fC.slot] ∧ D'.slots[fV.slot]? = some (.ref s.heap.size) ∧ D'.slots[fC.slot]? = some (.int 0) ∧ Arr .byte s.heap.size V u ∧ V.vm = .none ∧ u.vm.findClass "[B" = some V.cls ∧ V.slots.size = len ∧ (∀ j, j < len → V.slots[j]? = some (.int (lo8 (cv A (o + j))))) ∧ (∀ (y : Addr) (c : Cell), y ≠ a → s.heap[y]? = some c → u.heap[y]? = some c) ∧ u.heap.size = s.heap.size + 1
theorem Got.mv {a : Addr} {D A : Cell} {fV fC : Field} {o len : Nat} : ∀ r (U U' V V' : State), U'.heap = U.heap → V.vm.Alike V'.vm → V'.heap = V.heap → Got a D fV fC A o len r U V → Got a D fV fC A o len r U' V' :=
  fun r U U' V V' h1 hal h2 ⟨e0, D', X, a1, a2, a3, a4, a5, a6, a7, a8, a9, a10, a11⟩ => ⟨e0, D', X, a1.mv hal h2, a2, by rw [h1]; exact a3, a4, by rw [h1]; exact a5.mv hal h2, a6, by rw [hal.findClass]; exact a7, a8, a9, by rw [h1, h2]; exact a10, by rw [h1, h2]; exact a11⟩
namespace New4
def yN : MethodName := ⟨"java/lang/String", "<init>", "([CIILjava/lang/Void;)V"⟩
abbrev yB : ByteArray := jdk_42_method_149_code
theorem d0 : decode yB 0 = .ok (.aload_n 0, 1) := by decide +kernel
theorem d1 : decode yB 1 = .ok (.invokespecial 1, 3) := by decide +kernel
theorem d4 : decode yB 4 = .ok (.iload_n 3, 1) := by decide +kernel
theorem d5 : decode yB 5 = .ok (.ifCond (.ne) 22, 3) := by decide +kernel
theorem d27 : decode yB 27 = .ok (.getstatic 38, 3) := by decide +kernel
theorem d30 : decode yB 30 = .ok (.ifCond (.eq) 28, 3) := by decide +kernel
theorem d33 : decode yB 33 = .ok (.aload_n 1, 1) := by decide +kernel
theorem d34 : decode yB 34 = .ok (.iload_n 2, 1) := by decide +kernel
theorem d35 : decode yB 35 = .ok (.iload_n 3, 1) := by decide +kernel
theorem d36 : decode yB 36 = .ok (.invokestatic 177, 3) := by decide +kernel
theorem d39 : decode yB 39 = .ok (.astore 5, 2) := by decide +kernel
theorem d41 : decode yB 41 = .ok (.aload_n 0, 1) := by decide +kernel
theorem d42 : decode yB 42 = .ok (.aload 5, 2) := by decide +kernel
theorem d44 : decode yB 44 = .ok (.iload_n 3, 1) := by decide +kernel
theorem d45 : decode yB 45 = .ok (.invokestatic 47, 3) := by decide +kernel
theorem d48 : decode yB 48 = .ok (.putfield 15, 3) := by decide +kernel
theorem d51 : decode yB 51 = .ok (.aload_n 0, 1) := by decide +kernel
theorem d52 : decode yB 52 = .ok (.aload 5, 2) := by decide +kernel
theorem d54 : decode yB 54 = .ok (.putfield 9, 3) := by decide +kernel
theorem d57 : decode yB 57 = .ok (.return_, 1) := by decide +kernel
def site : List Cond := [.fieldLink "java/lang/String" 38 "java/lang/String" "COMPACT_STRINGS" "Z", Cmp3.tab, CodL.tab, .laysFinal "java/lang/String" "java/lang/String" "value" "[B", .fieldLink "java/lang/String" 9 "java/lang/String" "value" "[B", .laysFinal "java/lang/String" "java/lang/String" "coder" "B", .fieldLink "java/lang/String" 15 "java/lang/String" "coder" "B"] ++ objW "java/lang/String" 1 ++ staticW "java/lang/String" 177 Cmp3.yN ++ staticW "java/lang/String" 47 CodL.yN
def tab : Cond := tabOf yN yB 6 none site
def P (a : Addr) (D : Cell) (fV fC : Field) (b : Addr) (A : Cell) (z : Int32) (o len : Nat) (args : Array Value) (s : State) : Prop := args = #[.ref a, .ref b, .int (Int32.ofNat o), .int (Int32.ofNat len), .null] ∧ Blank "java/lang/String" a D s ∧ Found "java/lang/String" "value" "[B" fV s ∧ Found "java/lang/String" "coder" "B" fC s ∧ Ch b A s ∧ StaticIs s "java/lang/String" "COMPACT_STRINGS" "Z" (.int z) ∧ ¬ z = 0 ∧ 0 < len ∧ o + len ≤ A.slots.size ∧ len ≤ 536870912 ∧ ∀ i, i < len → ¬ 255 < cv A (o + i)
def E (a : Addr) (D : Cell) (fV fC : Field) (A : Cell) (o len : Nat) (r : Option Value) (s u : State) : Prop := Got a D fV fC A o len r s u
/-- len > 0, no char of the range above 255: a Latin-1 String of their low bytes -/
theorem law (l : Launch) (a : Addr) (D : Cell) (fV fC : Field) (b : Addr) (A : Cell) (z : Int32) (o len : Nat) : Law l yN 5 4 2 35 yB 6 none site (P a D fV fC b A z o len) (E a D fV fC A o len) [⟨a, fC.slot⟩, ⟨a, fV.slot⟩] 1 len := by
  refine Law.of_walk (plainFor_of_name (by decide +kernel)) (by decide +kernel) (by decide +kernel) (by decide) (fun _ _ h => by rw [h.1]; rfl) (fun _ U U' hal hh h => ⟨h.1, h.2.1.mv hal hh, h.2.2.1.al hal, h.2.2.2.1.al hal, h.2.2.2.2.1.mv hal hh, h.2.2.2.2.2.1.there hal hh, h.2.2.2.2.2.2⟩) (fun r U U' V V' h1 hal h2 h => Got.mv r U U' V V' h1 hal h2 h) ?_
  intro p e s m args below meth c s₁ X0 hexec hbytes hml hret hlk hnm hown hh0 W hP
  obtain ⟨rfl, hB, f1, f2, hA, s1, hz, l0, l1, l2, hp⟩ := hP
  have a31 := hA.1.2.2.2
  have c1 : Steps p.tables e below (s₁.setTop (entryFrame m #[.ref a, .ref b, .int (Int32.ofNat o), .int (Int32.ofNat len), .null] 6)) (s₁.setTop (mkF m 0 #[.val (.ref a), .val (.ref b), .val (.int (Int32.ofNat o)), .val (.int (Int32.ofNat len)), .val .null, .unset] [])) := entry rfl
  have c2 : Steps p.tables e below (s₁.setTop (entryFrame m #[.ref a, .ref b, .int (Int32.ofNat o), .int (Int32.ofNat len), .null] 6)) (s₁.setTop (mkF m 1 #[.val (.ref a), .val (.ref b), .val (.int (Int32.ofNat o)), .val (.int (Int32.ofNat len)), .val .null, .unset] [.ref a])) := c1.trans (by
    refine XS.aloadN X0.here hexec rfl (hb hbytes d0) rfl rfl ?_
    exact Steps.refl _)
  obtain ⟨T3, X3, q3, st3⟩ := X0.oinit hexec hown (wks W (objW "java/lang/String" 1)) (g := (mkF m 1 #[.val (.ref a), .val (.ref b), .val (.int (Int32.ofNat o)), .val (.int (Int32.ofNat len)), .val .null, .unset] [.ref a])) rfl (by rw [hml]; rfl) (rest := []) rfl (hb hbytes d1) (W := 0) (by show 2 * 0 + 0 ≤ _; decide) (Nat.le_of_ble_eq_true rfl) (Nat.le_of_ble_eq_true rfl)
  have hh3 := q3.trans hh0
  have c4 : Steps p.tables e below (s₁.setTop (entryFrame m #[.ref a, .ref b, .int (Int32.ofNat o), .int (Int32.ofNat len), .null] 6)) (T3.setTop (mkF m 27 #[.val (.ref a), .val (.ref b), .val (.int (Int32.ofNat o)), .val (.int (Int32.ofNat len)), .val .null, .unset] [])) := (c2.trans (st3 _ (Steps.refl _))).trans (by
    refine XS.iloadN X3.here hexec rfl (hb hbytes d4) rfl ?_
    refine XS.ifYes X3.here hexec rfl (pc0 := 5) rfl (hb hbytes d5) rfl (i0_ne_t (nz32 (by omega) l0)) (by decide) rfl ?_
    exact Steps.refl _)
  obtain ⟨T5, X5, q5, st5⟩ := X3.sget hexec hown (wk W (.fieldLink "java/lang/String" 38 "java/lang/String" "COMPACT_STRINGS" "Z")) s1 (fun _ _ h => by rw [hh3]; exact h) (g := (mkF m 27 #[.val (.ref a), .val (.ref b), .val (.int (Int32.ofNat o)), .val (.int (Int32.ofNat len)), .val .null, .unset] [])) rfl (hb hbytes d27)
  have hh5 := q5.trans hh3
  have c6 : Steps p.tables e below (s₁.setTop (entryFrame m #[.ref a, .ref b, .int (Int32.ofNat o), .int (Int32.ofNat len), .null] 6)) (T5.setTop (mkF m 30 #[.val (.ref a), .val (.ref b), .val (.int (Int32.ofNat o)), .val (.int (Int32.ofNat len)), .val .null, .unset] [.int z])) := c4.trans (st5 _ (Steps.refl _))
  have c7 : Steps p.tables e below (s₁.setTop (entryFrame m #[.ref a, .ref b, .int (Int32.ofNat o), .int (Int32.ofNat len), .null] 6)) (T5.setTop (mkF m 36 #[.val (.ref a), .val (.ref b), .val (.int (Int32.ofNat o)), .val (.int (Int32.ofNat len)), .val .null, .unset] [.int (Int32.ofNat len), .int (Int32.ofNat o), .ref b])) := c6.trans (by
    refine XS.ifNo X5.here hexec rfl (hb hbytes d30) rfl (i0_eq_f hz) ?_
    refine XS.aloadN X5.here hexec rfl (hb hbytes d33) rfl rfl ?_
    refine XS.iloadN X5.here hexec rfl (hb hbytes d34) rfl ?_
    refine XS.iloadN X5.here hexec rfl (hb hbytes d35) rfl ?_
    exact Steps.refl _)
  obtain ⟨v8, T8, X8, E8, g8⟩ := X5.callS hexec (Cmp3.law l b A o len) hown (wks W (staticW "java/lang/String" 177 Cmp3.yN)) (wk W Cmp3.tab) (W := 0) (Nat.le_of_ble_eq_true rfl) (Nat.le_of_ble_eq_true rfl) (Nat.le_refl _) (by show 0 + len ≤ len; omega) (g := (mkF m 36 #[.val (.ref a), .val (.ref b), .val (.int (Int32.ofNat o)), .val (.int (Int32.ofNat len)), .val .null, .unset] [.int (Int32.ofNat len), .int (Int32.ofNat o), .ref b])) rfl (by rw [hml]; rfl) c7 (argsL := [.ref b, .int (Int32.ofNat o), .int (Int32.ofNat len)]) (rest := []) rfl rfl (by show 2 * 0 + 0 ≤ _; decide) (hb hbytes d36) (⟨rfl, hA.mv X5.warmed.alike hh5, l1, l2, hp⟩)
  obtain ⟨e8, z8⟩ := E8
  obtain ⟨rfl, N, n1, n2, n3, n4, n5, n6⟩ := NewArr.mv _ T5 s _ _ hh5.symm (Vm.Alike.refl _) rfl e8
  rw [hh5] at z8
  have hB1 := hB.keep X8.warmed.alike (n6 _ _ hB.1)
  have hne : s.heap.size ≠ a := (Nat.ne_of_lt (Array.getElem?_eq_some_iff.mp hB.1).1).symm
  have c9 : Steps p.tables e below (s₁.setTop (entryFrame m #[.ref a, .ref b, .int (Int32.ofNat o), .int (Int32.ofNat len), .null] 6)) (T8.setTop (mkF m 39 #[.val (.ref a), .val (.ref b), .val (.int (Int32.ofNat o)), .val (.int (Int32.ofNat len)), .val .null, .unset] [.ref s.heap.size])) := g8
  have c10 : Steps p.tables e below (s₁.setTop (entryFrame m #[.ref a, .ref b, .int (Int32.ofNat o), .int (Int32.ofNat len), .null] 6)) (T8.setTop (mkF m 45 #[.val (.ref a), .val (.ref b), .val (.int (Int32.ofNat o)), .val (.int (Int32.ofNat len)), .val .null, .val (.ref s.heap.size)] [.int (Int32.ofNat N.slots.size), .ref s.heap.size, .ref a])) := by
    have hc : Steps p.tables e below (s₁.setTop (entryFrame m #[.ref a, .ref b, .int (Int32.ofNat o), .int (Int32.ofNat len), .null] 6)) (T8.setTop (mkF m 45 #[.val (.ref a), .val (.ref b), .val (.int (Int32.ofNat o)), .val (.int (Int32.ofNat len)), .val .null, .val (.ref s.heap.size)] [.int (Int32.ofNat len), .ref s.heap.size, .ref a])) := c9.trans (by
      refine XS.astore X8.here hexec rfl (hb hbytes d39) rfl rfl rfl ?_
      refine XS.aloadN X8.here hexec rfl (hb hbytes d41) rfl rfl ?_
      refine XS.aload X8.here hexec rfl (hb hbytes d42) rfl rfl ?_
      refine XS.iloadN X8.here hexec rfl (hb hbytes d44) rfl ?_
      exact Steps.refl _)
    rw [n4]; exact hc
  obtain ⟨v11, T11, X11, E11, g11⟩ := X8.callS hexec (CodL.law l s.heap.size N) hown (wks W (staticW "java/lang/String" 47 CodL.yN)) (wk W CodL.tab) (W := 1) (Nat.le_of_ble_eq_true rfl) (Nat.le_of_ble_eq_true rfl) (Nat.le_refl _) (by show 0 + len + 0 ≤ len; omega) (g := (mkF m 45 #[.val (.ref a), .val (.ref b), .val (.int (Int32.ofNat o)), .val (.int (Int32.ofNat len)), .val .null, .val (.ref s.heap.size)] [.int (Int32.ofNat N.slots.size), .ref s.heap.size, .ref a])) rfl (by rw [hml]; rfl) c10 (argsL := [.ref s.heap.size, .int (Int32.ofNat N.slots.size)]) (rest := [.ref a]) rfl rfl (by show 2 * 0 + (1 + 0) ≤ _; decide) (hb hbytes d45) (⟨rfl, n1⟩)
  obtain ⟨rfl, q11⟩ := E11
  have hB11 := hB1.mv (X8.warmed.alike.symm.trans X11.warmed.alike) q11
  have c12 : Steps p.tables e below (s₁.setTop (entryFrame m #[.ref a, .ref b, .int (Int32.ofNat o), .int (Int32.ofNat len), .null] 6)) (T11.setTop (mkF m 48 #[.val (.ref a), .val (.ref b), .val (.int (Int32.ofNat o)), .val (.int (Int32.ofNat len)), .val .null, .val (.ref s.heap.size)] [.int 0, .ref a])) := g11
  obtain ⟨T13, X13, p13, bl13, sl13, st13⟩ := X11.finit hexec hown (wk W (.fieldLink "java/lang/String" 15 "java/lang/String" "coder" "B")) (Or.inr ⟨_, (wk W (.laysFinal "java/lang/String" "java/lang/String" "coder" "B"))⟩) (Or.inl ⟨rfl, hnm⟩) f2 (Or.inl rfl) hB11 (t := .byte) (by decide +kernel) rfl (g := (mkF m 48 #[.val (.ref a), .val (.ref b), .val (.int (Int32.ofNat o)), .val (.int (Int32.ofNat len)), .val .null, .val (.ref s.heap.size)] [.int 0, .ref a])) rfl (rest := []) rfl (hb hbytes d48)
  have c14 : Steps p.tables e below (s₁.setTop (entryFrame m #[.ref a, .ref b, .int (Int32.ofNat o), .int (Int32.ofNat len), .null] 6)) (T13.setTop (mkF m 54 #[.val (.ref a), .val (.ref b), .val (.int (Int32.ofNat o)), .val (.int (Int32.ofNat len)), .val .null, .val (.ref s.heap.size)] [.ref s.heap.size, .ref a])) := (c12.trans (st13 _ (Steps.refl _))).trans (by
    refine XS.aloadN X13.here hexec rfl (hb hbytes d51) rfl rfl ?_
    refine XS.aload X13.here hexec rfl (hb hbytes d52) rfl rfl ?_
    exact Steps.refl _)
  obtain ⟨T15, X15, p15, bl15, sl15, st15⟩ := X13.finit hexec hown (wk W (.fieldLink "java/lang/String" 9 "java/lang/String" "value" "[B")) (Or.inr ⟨_, (wk W (.laysFinal "java/lang/String" "java/lang/String" "value" "[B"))⟩) (Or.inl ⟨rfl, hnm⟩) f1 (Or.inl rfl) bl13 (t := (.array .byte)) (by decide +kernel) rfl (g := (mkF m 54 #[.val (.ref a), .val (.ref b), .val (.int (Int32.ofNat o)), .val (.int (Int32.ofNat len)), .val .null, .val (.ref s.heap.size)] [.ref s.heap.size, .ref a])) rfl (rest := []) rfl (hb hbytes d54)
  have c16 : Steps p.tables e below (s₁.setTop (entryFrame m #[.ref a, .ref b, .int (Int32.ofNat o), .int (Int32.ofNat len), .null] 6)) (T15.setTop (mkF m 57 #[.val (.ref a), .val (.ref b), .val (.int (Int32.ofNat o)), .val (.int (Int32.ofNat len)), .val .null, .val (.ref s.heap.size)] [])) := c14.trans (st15 _ (Steps.refl _))
  have ap := apart (Or.inr ⟨_, (wk W (.laysFinal "java/lang/String" "java/lang/String" "value" "[B"))⟩) (Or.inr ⟨_, (wk W (.laysFinal "java/lang/String" "java/lang/String" "coder" "B"))⟩) f1 f2 (t₁ := .array .byte) (t₂ := .byte) (by decide +kernel) (by decide +kernel) (by decide)
  have al := X8.warmed.alike.symm.trans X15.warmed.alike
  have n7 : T11.heap[s.heap.size]? = some N := by rw [q11]; exact n1.1
  exact ⟨T15, none, _, _, _, X15, by simp, rfl, by omega, (fun _ => rfl), ⟨rfl, _, N, bl15, ((Same.refl D _).set _ (by simp)).set _ (by simp), sl15, (Cell.slots_setSlot_ne _ ap).trans sl13, n1.keep al (p15.other hne (p13.other hne n7)), n2, by rw [al.findClass]; exact n3, n4, n5, fun y c h1 h2 => p15.other h1 (p13.other h1 (by rw [q11]; exact n6 y c h2)), by rw [p15.2.2, p13.2.2, q11]; exact z8⟩, fun fs hl => c16.trans (X15.returnOut hexec hret (hb hbytes d57) hl)⟩
end New4
namespace New1
def yN : MethodName := ⟨"java/lang/String", "<init>", "([C)V"⟩
abbrev yB : ByteArray := jdk_42_method_3_code
theorem d0 : decode yB 0 = .ok (.aload_n 0, 1) := by decide +kernel
theorem d1 : decode yB 1 = .ok (.aload_n 1, 1) := by decide +kernel
theorem d2 : decode yB 2 = .ok (.iconst 0, 1) := by decide +kernel
theorem d3 : decode yB 3 = .ok (.aload_n 1, 1) := by decide +kernel
theorem d4 : decode yB 4 = .ok (.arraylength, 1) := by decide +kernel
theorem d5 : decode yB 5 = .ok (.aconst_null, 1) := by decide +kernel
theorem d6 : decode yB 6 = .ok (.invokespecial 27, 3) := by decide +kernel
theorem d9 : decode yB 9 = .ok (.return_, 1) := by decide +kernel
def site : List Cond := [New4.tab] ++ initW "java/lang/String" 27 New4.yN
def tab : Cond := tabOf yN yB 2 none site
def P (a : Addr) (D : Cell) (fV fC : Field) (b : Addr) (A : Cell) (z : Int32) (args : Array Value) (s : State) : Prop := args = #[.ref a, .ref b] ∧ Blank "java/lang/String" a D s ∧ Found "java/lang/String" "value" "[B" fV s ∧ Found "java/lang/String" "coder" "B" fC s ∧ Ch b A s ∧ StaticIs s "java/lang/String" "COMPACT_STRINGS" "Z" (.int z) ∧ ¬ z = 0 ∧ 0 < A.slots.size ∧ A.slots.size ≤ 536870912 ∧ ∀ i, i < A.slots.size → ¬ 255 < cv A i
def E (a : Addr) (D : Cell) (fV fC : Field) (A : Cell) (r : Option Value) (s u : State) : Prop := Got a D fV fC A 0 A.slots.size r s u
/-- new String(chars), not empty, no char above 255: a Latin-1 String of their low bytes -/
theorem law (l : Launch) (a : Addr) (D : Cell) (fV fC : Field) (b : Addr) (A : Cell) (z : Int32) : Law l yN 2 1 3 52 yB 2 none site (P a D fV fC b A z) (E a D fV fC A) [⟨a, fC.slot⟩, ⟨a, fV.slot⟩] 1 A.slots.size := by
  refine Law.of_walk (plainFor_of_name (by decide +kernel)) (by decide +kernel) (by decide +kernel) (by decide) (fun _ _ h => by rw [h.1]; rfl) (fun _ U U' hal hh h => ⟨h.1, h.2.1.mv hal hh, h.2.2.1.al hal, h.2.2.2.1.al hal, h.2.2.2.2.1.mv hal hh, h.2.2.2.2.2.1.there hal hh, h.2.2.2.2.2.2⟩) (fun r U U' V V' h1 hal h2 h => Got.mv r U U' V V' h1 hal h2 h) ?_
  intro p e s m args below meth c s₁ X0 hexec hbytes hml hret hlk hnm hown hh0 W hP
  obtain ⟨rfl, hB, f1, f2, hA, s1, hz, l0, l2, hp⟩ := hP
  have c1 : Steps p.tables e below (s₁.setTop (entryFrame m #[.ref a, .ref b] 2)) (s₁.setTop (mkF m 0 #[.val (.ref a), .val (.ref b)] [])) := entry rfl
  have c2 : Steps p.tables e below (s₁.setTop (entryFrame m #[.ref a, .ref b] 2)) (s₁.setTop (mkF m 6 #[.val (.ref a), .val (.ref b)] [.null, .int (Int32.ofNat A.slots.size), .int 0, .ref b, .ref a])) := c1.trans (by
    refine XS.aloadN X0.here hexec rfl (hb hbytes d0) rfl rfl ?_
    refine XS.aloadN X0.here hexec rfl (hb hbytes d1) rfl rfl ?_
    refine iconstV X0.here hexec rfl 0 (hb hbytes d2) (by decide) ?_
    refine XS.aloadN X0.here hexec rfl (hb hbytes d3) rfl rfl ?_
    refine X0.alen hexec (hA.1.mv X0.warmed.alike hh0) rfl rfl (hb hbytes d4) ?_
    refine XS.aconstNull X0.here hexec rfl (hb hbytes d5) ?_
    exact Steps.refl _)
  obtain ⟨v3, T3, X3, E3, g3⟩ := X0.callN hexec (New4.law l a D fV fC b A z 0 A.slots.size) rfl hown (wks W (initW "java/lang/String" 27 New4.yN)) (W New4.tab (by simp only [site, List.mem_cons, List.mem_append, true_or, or_true])) (W := 0) (Nat.le_of_ble_eq_true rfl) (Nat.le_of_ble_eq_true rfl) (Nat.le_refl _) (by show 0 + A.slots.size ≤ A.slots.size; omega) (g := (mkF m 6 #[.val (.ref a), .val (.ref b)] [.null, .int (Int32.ofNat A.slots.size), .int (Int32.ofNat 0), .ref b, .ref a])) rfl (by rw [hml]; rfl) c2 (argsL := [.ref b, .int (Int32.ofNat 0), .int (Int32.ofNat A.slots.size), .null]) (rest := []) rfl rfl (by show 2 * 0 + 0 ≤ _; decide) (hb hbytes d6) (⟨rfl, hB.mv X0.warmed.alike hh0, f1.al X0.warmed.alike, f2.al X0.warmed.alike, hA.mv X0.warmed.alike hh0, s1.there X0.warmed.alike hh0, hz, l0, by omega, l2, fun i hi => by rw [Nat.zero_add]; exact hp i hi⟩)
  have e0 := Got.mv _ s₁ s _ _ hh0.symm (Vm.Alike.refl _) rfl E3
  obtain rfl := e0.1
  have c4 : Steps p.tables e below (s₁.setTop (entryFrame m #[.ref a, .ref b] 2)) (T3.setTop (mkF m 9 #[.val (.ref a), .val (.ref b)] [])) := g3
  exact ⟨T3, none, _, _, _, X3, by simp, rfl, by omega, (fun _ => rfl), e0, fun fs hl => c4.trans (X3.returnOut hexec hret (hb hbytes d9) hl)⟩
theorem pays {l : Launch} {R : Room} {p : Program} {e : Env} {below : List Frame} {s : State} {sargs : Array Value} {len W : Nat} (a : Addr) (D : Cell) (fV fC : Field) (b : Addr) (A : Cell) (z : Int32) (htab : tab.before sargs s = true) (hfr : 4 ≤ R.frames) (hlo : W + 65 ≤ R.locals) :
    Back l R p e below s sargs yN len W (fun A₁ a₁ => A₁.cells + 1 ≤ R.cells ∧ A₁.slots + A.slots.size ≤ R.slots ∧ P a D fV fC b A z a₁ A₁.U) (fun A₁ _ v₁ B₁ => E a D fV fC A v₁ A₁.U B₁.U ∧ B₁.locs = A₁.locs ++ [⟨a, fC.slot⟩, ⟨a, fV.slot⟩] ∧ B₁.cells = A₁.cells + 1 ∧ B₁.slots = A₁.slots + A.slots.size) :=
  (law l a D fV fC b A z).pays htab hfr (by omega)
end New1
/-- the byte, read back as charAt reads it, is the char -/
theorem lo8_mask {x : Int32} (h0 : ¬ x < 0) (h1 : ¬ 255 < x) : lo8 x &&& 255 = x := by
  have t : ∀ k : Fin 256, lo8 (Int32.ofNat k.val) &&& 255 = Int32.ofNat k.val := by decide +kernel
  rw [Int32.lt_iff_toInt_lt] at h0 h1
  have e0 : (0 : Int32).toInt = 0 := rfl
  have e1 : (255 : Int32).toInt = 255 := rfl
  obtain ⟨k, hk⟩ : ∃ k : Nat, x.toInt = k := ⟨x.toInt.toNat, by omega⟩
  have hx : x = Int32.ofNat k := Int32.toInt_inj.mp (by rw [hk, Int32.toInt_ofNat_small (by omega)])
  rw [hx]
  exact t ⟨k, by omega⟩
end StrChars
namespace StrChars.Road
open Jvm Sem ClassFile Op Lib Jvm.Stand Jvm.Free Jvm.Free.XT
open Jvm.Lib.Cold (StaticIs)
abbrev ST : String := "java/lang/String"
/-- every table word that New1's law asks, flat -/
abbrev words : List Jvm.Cond := [.code New1.yN New1.yB 2 none, .initialized ST, .methodLink ST 27 New4.yN, .instanceMethod New4.yN,
  .code New4.yN New4.yB 6 none, .fieldLink ST 38 ST "COMPACT_STRINGS" "Z", .laysFinal ST ST "value" "[B", .fieldLink ST 9 ST "value" "[B", .laysFinal ST ST "coder" "B", .fieldLink ST 15 ST "coder" "B",
  .methodLink ST 1 Lib.objectInit, .instanceMethod Lib.objectInit, .code Lib.objectInit ⟨#[0xb1]⟩ 1 none, .methodLink ST 177 Cmp3.yN, .static Cmp3.yN, .methodLink ST 47 CodL.yN, .static CodL.yN,
  .code Cmp3.yN Cmp3.yB 6 (some (.array .byte)), .initialized U16, .arrayClass .byte, .methodLink U16 115 Cmp5.yN, .static Cmp5.yN, .code Cmp5.yN Cmp5.yB 7 (some .int), .code CodL.yN CodL.yB 2 (some .byte)]
theorem tab_of {a : Array Value} {s : State} (h : ∀ w ∈ words, w.before a s = true) : New1.tab.before a s = true := by
  have h5 : Cmp5.tab.before a s = true := unparts (wk h (.code Cmp5.yN Cmp5.yB 7 (some .int))) (wks h (.initialized Cmp5.yN.cls :: Cmp5.site))
  have hc : CodL.tab.before a s = true := unparts (wk h (.code CodL.yN CodL.yB 2 (some .byte))) (wks h (.initialized CodL.yN.cls :: CodL.site))
  have q5 : ∀ w ∈ Cmp5.tab :: words, w.before a s = true := fun w hw => (List.mem_cons.mp hw).elim (fun e => e ▸ h5) (h w)
  have h3 : Cmp3.tab.before a s = true := unparts (wk q5 (.code Cmp3.yN Cmp3.yB 6 (some (.array .byte)))) (wks q5 (.initialized Cmp3.yN.cls :: Cmp3.site))
  have q3 : ∀ w ∈ Cmp3.tab :: CodL.tab :: words, w.before a s = true := fun w hw => (List.mem_cons.mp hw).elim (fun e => e ▸ h3) fun hw => (List.mem_cons.mp hw).elim (fun e => e ▸ hc) (h w)
  have h4 : New4.tab.before a s = true := unparts (wk q3 (.code New4.yN New4.yB 6 none)) (wks q3 (.initialized New4.yN.cls :: New4.site))
  have q4 : ∀ w ∈ New4.tab :: words, w.before a s = true := fun w hw => (List.mem_cons.mp hw).elim (fun e => e ▸ h4) (h w)
  exact unparts (wk q4 (.code New1.yN New1.yB 2 none)) (wks q4 (.initialized New1.yN.cls :: New1.site))
/-- the words ride from the start Z to the walk's own state -/
theorem moved {Z s : State} {a0 args : Array Value} (hZ : Z.Warmed39 s.vm) (hw : ∀ d ∈ words, d.before a0 Z = true) : ∀ d ∈ words, d.before args s = true := fun d hd => by
  have q := hw d hd
  have t : ∀ d ∈ words, d = .arrayClass .byte ∨ (d.onTables && d.keepsFace) = true := by decide +kernel
  rcases t d hd with rfl | t
  · exact RoadKit.mvA hZ q
  · exact RoadKit.mv hZ q t
/-- WHAT COMES BACK, over the tables of the start Z: h the heap at the call, h' behind it -/
def Q (Z : State) (x : Addr) (A : Cell) (h : Heap) (v : Option Value) (h' : Heap) (L : List Loc) : Prop := v = none ∧ (∀ y ∈ L, y.base = x) ∧ RoadKit.Keep h h' [x] ∧ h'.size = h.size + 1 ∧ RoadKit.Exa Z h' x ST ∧ RoadKit.Fld Z h' x ST "value" "[B" (.ref h.size) ∧ RoadKit.Fld Z h' x ST "coder" "B" (.int 0) ∧
  (∃ V : Cell, RoadKit.Arr Z h' h.size V .byte ∧ V.vm = .none ∧ Z.vm.findClass "[B" = some V.cls ∧ V.slots.size = A.slots.size ∧ ∀ j, j < A.slots.size → V.slots[j]? = some (.int (lo8 (cv A j)))) ∧
  ∀ (O n d : String) (w : Value), RoadKit.Fld Z h x O n d w → RoadKit.slotOf Z O n d ≠ RoadKit.slotOf Z ST "value" "[B" → RoadKit.slotOf Z O n d ≠ RoadKit.slotOf Z ST "coder" "B" → RoadKit.Fld Z h' x O n d w
/-- **new String(chars) AT A CALL, IN THE ROAD'S FORM**: for specialBack behind newO: x the fresh String, b the char[] with the cell A -/
theorem back {p : Program} {l : Launch} {e : Env} {R : Room} {s : State} {args : Array Value} {below : List Frame} {len W : Nat} {Z : State} {a0 : Array Value} {h : Heap} (hZ : Z.Warmed39 s.vm) (hw : ∀ d ∈ words, d.before a0 Z = true) {kI : Nat} (wi : (Jvm.Cond.instantiable ST kI).before a0 Z = true)
    {x b : Addr} {A : Cell} {z : Int32} {v0 c0 : Value} (E : RoadKit.Exa Z h x ST) (V : RoadKit.Fld Z h x ST "value" "[B" v0) (C : RoadKit.Fld Z h x ST "coder" "B" c0) (K : RoadKit.Arr Z h b A .char) (hty : Typed .char A) (S : RoadKit.Sta Z h ST "COMPACT_STRINGS" "Z" (.int z)) (hz : ¬ z = 0)
    (l0 : 0 < A.slots.size) (l2 : A.slots.size ≤ 536870912) (hp : ∀ i, i < A.slots.size → ¬ 255 < cv A i) (hfr : 4 ≤ R.frames) (hlo : W + 65 ≤ R.locals) :
    Back l R p e below s args New1.yN len W (fun P a => a = #[.ref x, .ref b] ∧ P.U.heap = h ∧ P.cells + 1 ≤ R.cells ∧ P.slots + A.slots.size ≤ R.slots)
      (fun P _ v B => ∃ L, Q Z x A h v B.U.heap L ∧ B.locs = P.locs ++ L ∧ B.cells = P.cells + 1 ∧ B.slots = P.slots + A.slots.size) := by
  intro m meth c P g ig mk a X hg hsize hdg hW hn hp'
  obtain ⟨rfl, rfl, r1, r2⟩ := hp'
  have al : Z.vm.Alike P.U.vm := hZ.alike.trans X.warmed.alike
  obtain ⟨D, cfV, kV, iV, fV, hD, gV, stV, knV, obV, asV, slV⟩ := id V
  obtain ⟨D', cfC, kC, iC, fC, hD', gC, stC, -, -, asC, slC⟩ := id C
  cases hD.symm.trans hD'
  obtain ⟨D2, kD, e1, e2, e3, e4, e5⟩ := id E
  cases hD.symm.trans e1
  obtain ⟨c2, k2, i1, i2, i3, -⟩ := Cond.instantiable_spec wi
  cases e2.symm.trans i1
  cases e3.symm.trans i2
  obtain ⟨kU, u1, u2⟩ := al.2.2 _ _ e3
  have hB : Blank ST x D P.U := ⟨hD, ⟨knV, fun q hq => by rw [hq] at obV; cases obV⟩, by rw [al.findClass]; exact e2, kU, u1, by rw [u2]; exact i3, by rw [u2]; exact e5 i3⟩
  have F1 : Found ST "value" "[B" fV P.U := ⟨SBG.found_only al ⟨cfV, kV, iV, gV⟩, stV⟩
  have F2 : Found ST "coder" "B" fC P.U := ⟨SBG.found_only al ⟨cfC, kC, iC, gC⟩, stC⟩
  have hA : Ch b A P.U := ⟨⟨K.1, State.isArrayOf_alike al K.2.1, K.2.2, by omega⟩, hty⟩
  have hS : StaticIs P.U ST "COMPACT_STRINGS" "Z" (.int z) := by
    obtain ⟨cfS, iS, kS, fS, st, cS, t1, t2, t3, t4, t5, t6, t7⟩ := S
    exact StaticIs.there (s := { Z with heap := P.U.heap }) ⟨cfS, iS, kS, fS, st, cS, t1, t2, t3, t4, t5, (fun q => by rw [q] at t6; cases t6), t7⟩ al rfl
  obtain ⟨v, B, X', ⟨⟨hv, E', V', q1, q2, q3, q4, q5, q6, q7, q8, q9, q10, q11⟩, hl, hc, hs⟩, st⟩ := New1.pays x D fV fC b A z (tab_of (moved hZ hw)) hfr hlo m meth c P g ig mk _ X hg hsize hdg hW hn ⟨r1, r2, rfl, hB, F1, F2, hA, hS, hz, l0, l2, hp⟩
  have al' : Z.vm.Alike B.U.vm := hZ.alike.trans X'.warmed.alike
  have hsz : E'.slots.size = D.slots.size := by
    obtain ⟨-, -, -, kB, w1, w2, w3⟩ := q1
    obtain ⟨kB', y1, y2⟩ := al'.2.2 _ _ e3
    rw [q2.2.1] at w1
    cases w1.symm.trans y1
    rw [w3, e5 i3, y2]
  refine ⟨v, B, X', ⟨_, ⟨hv, ?_, ⟨by omega, fun y cy hy hn' => q10 y cy (by simpa using hn') hy, fun y cy hy => ?_⟩, q11, ⟨E', _, q1.1, by rw [q2.2.1]; exact e2, by rw [q2.2.1]; exact e3, by rw [q2.1]; exact obV, fun _ => by rw [hsz]; exact e5 i3⟩,
    ⟨E', cfV, kV, iV, fV, q1.1, gV, stV, by rw [q2.1]; exact knV, by rw [q2.1]; exact obV, by rw [q2.2.1]; exact asV, q3⟩, ⟨E', cfC, kC, iC, fC, q1.1, gC, stC, by rw [q2.1]; exact knV, by rw [q2.1]; exact obV, by rw [q2.2.1]; exact asC, q4⟩,
    ⟨V', ⟨q5.1, State.isArrayOf_alike al'.symm q5.2.1, q5.2.2.1⟩, q6, by rw [← al'.findClass]; exact q7, q8, fun j hj => by have := q9 j hj; rwa [Nat.zero_add] at this⟩, fun O n d w F n1 n2 => ?_⟩, hl, hc, hs⟩, st⟩
  · intro y hy
    simp only [List.mem_cons, List.not_mem_nil, or_false] at hy
    rcases hy with rfl | rfl <;> rfl
  · by_cases q : y = x
    · subst q
      cases hD.symm.trans hy
      exact ⟨E', q1.1, q2.2.1, q2.1, hsz⟩
    · exact ⟨cy, q10 y cy q hy, rfl, rfl, rfl⟩
  · obtain ⟨D3, cf, k, i, f, g1, g2, g3, g4, g5, g6, g7⟩ := F
    cases hD.symm.trans g1
    simp only [RoadKit.slotOf, g2, gV, gC, Option.map_some, Option.getD_some] at n1 n2
    exact ⟨E', cf, k, i, f, q1.1, g2, g3, by rw [q2.1]; exact g4, by rw [q2.1]; exact g5, by rw [q2.2.1]; exact g6, by rw [q2.2.2 f.slot (by simp [n1, n2])]; exact g7⟩
end StrChars.Road
namespace StrChars.Road
open Jvm Sem ClassFile Op Lib Jvm.Stand Jvm.Free Jvm.Free.XT
/-- WHAT COMES BACK, the byte[] as a list of values -/
def QA (Z : State) (x : Addr) (zn : Int32) (cs : List Int32) (h : Heap) (v : Option Value) (h' : Heap) (L : List Loc) : Prop := v = none ∧ (∀ y ∈ L, y.base = x) ∧ RoadKit.Keep h h' [x] ∧ h'.size = h.size + 1 ∧ RoadKit.Exa Z h' x ST ∧ RoadKit.Fld Z h' x ST "value" "[B" (.ref h.size) ∧ RoadKit.Fld Z h' x ST "coder" "B" (.int 0) ∧
  (∃ kb, Z.vm.findClass "[B" = some kb ∧ RoadKit.Arv Z h' h.size kb .byte zn (cs.map fun c => .int (lo8 c)) (.int 0)) ∧
  ∀ (O n d : String) (w : Value), RoadKit.Fld Z h x O n d w → RoadKit.slotOf Z O n d ≠ RoadKit.slotOf Z ST "value" "[B" → RoadKit.slotOf Z O n d ≠ RoadKit.slotOf Z ST "coder" "B" → RoadKit.Fld Z h' x O n d w
/-- **new String(chars) AT A CALL, THE ARRAYS AS LISTS**: the char[] at b holds cs, not empty, no char above 255 -/
theorem backArv {p : Program} {l : Launch} {e : Env} {R : Room} {s : State} {args : Array Value} {below : List Frame} {len W : Nat} {Z : State} {a0 : Array Value} {h : Heap} (hZ : Z.Warmed39 s.vm) (hw : ∀ d ∈ words, d.before a0 Z = true) {kI : Nat} (wi : (Jvm.Cond.instantiable ST kI).before a0 Z = true)
    {x b : Addr} {k : ClassId} {zn z : Int32} {cs : List Int32} {dv v0 c0 : Value} (E : RoadKit.Exa Z h x ST) (V : RoadKit.Fld Z h x ST "value" "[B" v0) (C : RoadKit.Fld Z h x ST "coder" "B" c0) (K : RoadKit.Arv Z h b k .char zn (cs.map Value.int) dv) (S : RoadKit.Sta Z h ST "COMPACT_STRINGS" "Z" (.int z)) (hz : ¬ z = 0)
    (hlen : zn.toNatClampNeg = cs.length) (h0 : 0 < cs.length) (hbig : cs.length ≤ 536870912) (hall : ∀ c ∈ cs, ¬ 255 < c) (hfr : 4 ≤ R.frames) (hlo : W + 65 ≤ R.locals) :
    Back l R p e below s args New1.yN len W (fun P a => a = #[.ref x, .ref b] ∧ P.U.heap = h ∧ P.cells + 1 ≤ R.cells ∧ P.slots + cs.length ≤ R.slots)
      (fun P _ v B => ∃ L, QA Z x zn cs h v B.U.heap L ∧ B.locs = P.locs ++ L ∧ B.cells = P.cells + 1 ∧ B.slots = P.slots + cs.length) := by
  obtain ⟨A, K1, K2, K3, K4, K5, K6⟩ := K
  have e : A.slots.size = cs.length := K3.trans hlen
  have hat : ∀ (i : Nat) (hi : i < cs.length), A.slots[i]? = some (.int cs[i]) := fun i hi => by rw [K5 i (by omega)]; simp [List.getD_eq_getElem?_getD, hi]
  have hcv : ∀ (i : Nat) (hi : i < cs.length), cv A i = cs[i] := fun i hi => by unfold cv; rw [hat i hi]
  have hty : Typed .char A := fun i v hv => by
    have hi : i < A.slots.size := (Array.getElem?_eq_some_iff.mp hv).1
    have q := K5 i hi
    rw [hv] at q
    rw [Option.some.inj q]
    exact K6 i hi
  refine Back.mono (back hZ hw wi E V C K1 hty S hz (by omega) (by omega) (fun i hi => by rw [hcv i (by omega)]; exact hall _ (List.getElem_mem _)) hfr hlo) (fun P a hp => ⟨hp.1, hp.2.1, hp.2.2.1, by rw [e]; exact hp.2.2.2⟩) (fun P a v B hp hq => ?_)
  obtain ⟨L, ⟨q1, q2, q3, q4, q5, q6, q7, ⟨V', v1, v2, v3, v4, v5⟩, q9⟩, hl, hc, hs⟩ := hq
  refine ⟨L, ⟨q1, q2, q3, q4, q5, q6, q7, ⟨V'.cls, v3, V', v1, rfl, by rw [v4, e, hlen], K4, fun i hi => ?_, fun i hi => ?_⟩, q9⟩, hl, hc, by rw [hs, e]⟩
  · have hi' : i < cs.length := by omega
    rw [v5 i (by omega), hcv i hi']; simp [List.getD_eq_getElem?_getD, hi']
  · have hi' : i < cs.length := by omega
    simp only [List.getD_eq_getElem?_getD, List.getElem?_map, List.getElem?_eq_getElem hi', Option.map_some, Option.getD_some]
    exact fits_lo8 _
end StrChars.Road
namespace StrChars.Road
open Jvm Sem ClassFile Op Lib Jvm.Stand Jvm.Free Jvm.Free.XT
/-- WHAT COMES BACK, in the writer's own shape -/
def QV (Z : State) (x : Addr) (N : Int32) (bs : List Int32) (h : Heap) (n0 : Nat) (v : Option Value) (h' : Heap) (L : List Loc) : Prop := v = none ∧ RoadKit.Fr n0 L ∧ RoadKit.Keep h h' [x] ∧ RoadKit.Exa Z h' x ST ∧ RoadKit.Fld Z h' x ST "coder" "B" (.int 0) ∧
  ∃ (t : Addr) (kb : ClassId), n0 ≤ t ∧ h.size ≤ t ∧ ¬ t = x ∧ RoadKit.Fld Z h' x ST "value" "[B" (.ref t) ∧ RoadKit.Arv Z h' t kb .byte N (bs.map Value.int) (.int 0)
/-- **new String(chars) AT A CALL, FOR THE WRITER**: a char[] of n known ints, each 0 to 255 -/
theorem backV {p : Program} {l : Launch} {e : Env} {R : Room} {s : State} {args : Array Value} {below : List Frame} {len W : Nat} {Z : State} {a0 : Array Value} {h : Heap} (hZ : Z.Warmed39 s.vm) (hw : ∀ d ∈ words, d.before a0 Z = true) {kI : Nat} (wi : (Jvm.Cond.instantiable ST kI).before a0 Z = true)
    {x b : Addr} {kC : ClassId} {cs bs : List Int32} {d v0 c0 : Value} {z N : Int32} {n n0 : Nat} (hx0 : n0 ≤ x) (hh0 : n0 ≤ h.size) (E : RoadKit.Exa Z h x ST) (V : RoadKit.Fld Z h x ST "value" "[B" v0) (C : RoadKit.Fld Z h x ST "coder" "B" c0) (K : RoadKit.Arv Z h b kC .char N (cs.map Value.int) d) (S : RoadKit.Sta Z h ST "COMPACT_STRINGS" "Z" (.int z)) (hz : ¬ z = 0)
    (hn : cs.length = n) (hN : N = Int32.ofNat n) (l0 : 0 < n) (l2 : n ≤ 4000) (hp : ∀ c ∈ cs, ¬ c < 0 ∧ ¬ (255 : Int32) < c) (hb : bs = cs.map (fun c => c.toInt8.toInt32)) (hfr : 4 ≤ R.frames) (hlo : W + 65 ≤ R.locals) :
    Back l R p e below s args (⟨"java/lang/String", "<init>", "([C)V"⟩ : MethodName) len W (fun P a => a = #[.ref x, .ref b] ∧ P.U.heap = h ∧ P.cells + 1 ≤ R.cells ∧ P.slots + n ≤ R.slots)
      (fun P _ v B => ∃ L, QV Z x N bs h n0 v B.U.heap L ∧ B.locs = P.locs ++ L ∧ B.cells = P.cells + 1 ∧ B.slots = P.slots + n) := by
  subst hn hN hb
  refine Back.mono (backArv hZ hw wi E V C K S hz (n32 (by omega)) l0 (by omega) (fun c hc => (hp c hc).2) hfr hlo) (fun P a hp => hp) (fun P a v B hp hq => ?_)
  obtain ⟨L, ⟨q1, q2, q3, q4, q5, q6, q7, ⟨kb, v1, v2⟩, q9⟩, hl, hc, hs⟩ := hq
  exact ⟨L, ⟨q1, fun y hy => by rw [q2 y hy]; exact hx0, q3, q5, q7, h.size, kb, hh0, Nat.le_refl _, Nat.ne_of_gt E.lt, q6, by rw [List.map_map]; exact v2⟩, hl, hc, hs⟩
end StrChars.Road
namespace StrChars
open Jvm Sem ClassFile Op Lib Jvm.Stand Jvm.Free.XT Jvm.Free.ALB Jvm.Free.JM Jvm.Free
open Jvm.Lib.Cold (StaticIs)
def hi8 (x : Int32) : Int32 := lo8 (x >>> ((8 : Int32) &&& 31))
/-- what StringUTF16.getChar makes of two bytes -/
def pairCh (u v : Int32) : Int32 := (((u &&& 255) <<< ((0 : Int32) &&& 31)) ||| ((v &&& 255) <<< ((8 : Int32) &&& 31))).toUInt32.toUInt16.toUInt32.toInt32
theorem shr0 (c : Int32) : c >>> ((0 : Int32) &&& 31) = c := by
  have e : ((0 : Int32) &&& 31) = 0 := by decide
  rw [e]
  apply Int32.toBitVec_inj.mp
  rw [Int32.toBitVec_shiftRight]
  have e1 : ((0 : Int32).toBitVec.smod 32) = 0#32 := by decide
  rw [e1, BitVec.sshiftRight_eq']
  exact BitVec.sshiftRight_zero
theorem lo8_and (x : Int32) : (lo8 x &&& 255).toBitVec.toNat = x.toBitVec.toNat % 256 := by
  have h : (lo8 x).toBitVec = (x.toBitVec.signExtend 8).signExtend 32 := by rw [lo8, Int8.toBitVec_toInt32, Int32.toBitVec_toInt8]
  rw [Int32.toBitVec_and, BitVec.toNat_and, h]
  have e : ((x.toBitVec.signExtend 8).signExtend 32).toNat % 256 = x.toBitVec.toNat % 256 := by
    rw [BitVec.toNat_signExtend]
    have hlt := x.toBitVec.isLt
    simp only [BitVec.toNat_setWidth, BitVec.toNat_signExtend]
    split <;> split <;> omega
  rw [← e]
  exact Nat.and_two_pow_sub_one_eq_mod _ 8
theorem pair_says {c : Int32} (h0 : ¬ c < 0) (h1 : ¬ 65535 < c) : pairCh (lo8 c) (hi8 c) = c := by
  rw [Int32.lt_iff_toInt_lt] at h0 h1
  have e0 : (0 : Int32).toInt = 0 := rfl
  have e1 : (65535 : Int32).toInt = 65535 := rfl
  have hc : c.toInt = c.toBitVec.toNat := by
    have := c.toBitVec.isLt
    have e : c.toInt = c.toBitVec.toInt := rfl
    rw [e] at h0 h1
    rw [e]
    rw [BitVec.toInt_eq_toNat_cond] at h0 h1 ⊢
    split at h0 <;> split <;> omega
  have hn : c.toBitVec.toNat < 65536 := by omega
  have a1 := lo8_and c
  have a2 : (hi8 c &&& 255).toBitVec.toNat = c.toBitVec.toNat / 256 := by
    rw [hi8, lo8_and]
    have e : ((8 : Int32) &&& 31) = 8 := by decide
    rw [e, Int32.toBitVec_shiftRight]
    have e2 : ((8 : Int32).toBitVec.smod 32) = 8#32 := by decide
    rw [e2, BitVec.sshiftRight_eq', BitVec.toNat_sshiftRight_of_msb_false (by rw [BitVec.msb_eq_false_iff_two_mul_lt]; omega)]
    show c.toBitVec.toNat >>> 8 % 256 = _
    rw [Nat.shiftRight_eq_div_pow]
    omega
  unfold pairCh
  apply Int32.toBitVec_inj.mp
  apply BitVec.eq_of_toNat_eq
  have f0 : ((0 : Int32) &&& 31) = 0 := by decide
  have f8 : ((8 : Int32) &&& 31) = 8 := by decide
  rw [f0, f8]
  have g : (((lo8 c &&& 255) <<< (0 : Int32)) ||| ((hi8 c &&& 255) <<< (8 : Int32))).toBitVec.toNat = c.toBitVec.toNat := by
    rw [Int32.toBitVec_or, Int32.toBitVec_shiftLeft, Int32.toBitVec_shiftLeft]
    have s0 : ((0 : Int32).toBitVec.smod 32) = 0#32 := by decide
    have s8 : ((8 : Int32).toBitVec.smod 32) = 8#32 := by decide
    rw [s0, s8, BitVec.toNat_or]
    simp only [BitVec.shiftLeft_eq', BitVec.toNat_shiftLeft, a1, a2]
    show (c.toBitVec.toNat % 256) <<< 0 % 2 ^ 32 ||| (c.toBitVec.toNat / 256) <<< 8 % 2 ^ 32 = _
    rw [Nat.shiftLeft_zero, Nat.mod_eq_of_lt (show c.toBitVec.toNat % 256 < 2 ^ 32 by omega), Nat.mod_eq_of_lt (show (c.toBitVec.toNat / 256) <<< 8 < 2 ^ 32 by rw [Nat.shiftLeft_eq]; omega), Nat.or_comm, ← Nat.shiftLeft_add_eq_or_of_lt (by omega), Nat.shiftLeft_eq]
    omega
  show BitVec.toNat (((((lo8 c &&& 255) <<< (0 : Int32)) ||| ((hi8 c &&& 255) <<< (8 : Int32))).toBitVec.setWidth 16).setWidth 32) = _
  rw [BitVec.toNat_setWidth, BitVec.toNat_setWidth, g]
  omega
end StrChars
namespace StrChars
open Jvm Sem ClassFile Op Lib Jvm.Stand Jvm.Free.XT Jvm.Free.ALB Jvm.Free.JM Jvm.Free
open Jvm.Lib.Cold (StaticIs)
theorem shr1 {n : Nat} (h : 2 * n < 2 ^ 31) : Int32.ofNat (2 * n) >>> ((1 : Int32) &&& 31) = Int32.ofNat n := by
  have e : ((1 : Int32) &&& 31) = 1 := by decide
  rw [e]
  apply Int32.toBitVec_inj.mp
  rw [Int32.toBitVec_shiftRight]
  have e1 : ((1 : Int32).toBitVec.smod 32) = 1#32 := by decide
  have hm : (BitVec.ofNat 32 (2 * n)).toNat = 2 * n := by rw [BitVec.toNat_ofNat, Nat.mod_eq_of_lt (by omega)]
  rw [e1, BitVec.sshiftRight_eq']
  apply BitVec.eq_of_toNat_eq
  show ((BitVec.ofNat 32 (2 * n)).sshiftRight 1).toNat = (BitVec.ofNat 32 n).toNat
  rw [BitVec.toNat_sshiftRight_of_msb_false (by rw [BitVec.msb_eq_false_iff_two_mul_lt, hm]; omega), hm, BitVec.toNat_ofNat, Nat.shiftRight_eq_div_pow]
  omega
/-- charAt's cast of a byte read back -/
def chr8 (u : Int32) : Int32 := (u &&& 255).toUInt32.toUInt16.toUInt32.toInt32
theorem chr8_lo8 {c : Int32} (h0 : ¬ c < 0) (h1 : ¬ 255 < c) : chr8 (lo8 c) = c := by
  have t : ∀ k : Fin 256, (Int32.ofNat k.val).toUInt32.toUInt16.toUInt32.toInt32 = Int32.ofNat k.val := by decide +kernel
  unfold chr8
  rw [lo8_mask h0 h1]
  rw [Int32.lt_iff_toInt_lt] at h0 h1
  have e0 : (0 : Int32).toInt = 0 := rfl
  have e1 : (255 : Int32).toInt = 255 := rfl
  obtain ⟨k, hk⟩ : ∃ k : Nat, c.toInt = k := ⟨c.toInt.toNat, by omega⟩
  have hx : c = Int32.ofNat k := Int32.toInt_inj.mp (by rw [hk, Int32.toInt_ofNat_small (by omega)])
  rw [hx]
  exact t ⟨k, by omega⟩
theorem narrow_ch {c : Int32} (h0 : ¬ c < 0) (h1 : ¬ 65535 < c) : narrow .char (.int c) = .int c := by
  have q : narrow .char (.int (pairCh (lo8 c) (hi8 c))) = .int (pairCh (lo8 c) (hi8 c)) := narrow_c _
  rwa [pair_says h0 h1] at q
/-- the array's cell V codes the n chars f 0 .. f (n - 1) by the coder cd, as the JDK does: coder 1 just where some char is above 255 -/
def Cod (cd : Int32) (n : Nat) (f : Nat → Int32) (V : Cell) : Prop := (cd = 0 ∧ V.slots.size = n ∧ ∀ j, j < n → V.slots[j]? = some (.int (lo8 (f j))) ∧ ¬ 255 < f j) ∨ (cd = 1 ∧ V.slots.size = 2 * n ∧ (∀ j, j < n → V.slots[2 * j]? = some (.int (lo8 (f j))) ∧ V.slots[2 * j + 1]? = some (.int (hi8 (f j)))) ∧ ∃ j, j < n ∧ 255 < f j)
theorem Cod.cd {cd : Int32} {n : Nat} {f : Nat → Int32} {V : Cell} (h : Cod cd n f V) : cd = 0 ∨ cd = 1 := h.imp (fun q => q.1) fun q => q.1
theorem Cod.len {cd : Int32} {n : Nat} {f : Nat → Int32} {V : Cell} (h : Cod cd n f V) (hs : V.slots.size < 2 ^ 31) : Int32.ofNat V.slots.size >>> (cd &&& 31) = Int32.ofNat n := by
  rcases h with ⟨rfl, h, -⟩ | ⟨rfl, h, -⟩
  · rw [shr0, h]
  · rw [h, shr1 (by omega)]
/-- **x is a String of the n chars f 0 .. f (n - 1)**, Latin-1 or UTF-16; its array at t has the cell V -/
def Txt (x t : Addr) (V : Cell) (cd : Int32) (n : Nat) (f : Nat → Int32) (U : State) : Prop := Exact "java/lang/String" x U ∧ Has x "java/lang/String" "value" "[B" (.ref t) U ∧ Has x "java/lang/String" "coder" "B" (.int cd) U ∧ XT.Arr .byte t V U ∧ Cod cd n f V ∧ ∀ j, j < n → ¬ f j < 0 ∧ ¬ 65535 < f j
theorem Txt.mv {x t : Addr} {V : Cell} {cd : Int32} {n : Nat} {f : Nat → Int32} {U U' : State} (h : Txt x t V cd n f U) (hal : U.vm.Alike U'.vm) (hh : U'.heap = U.heap) : Txt x t V cd n f U' := ⟨h.1.mv hal hh, h.2.1.mv hal hh, h.2.2.1.mv hal hh, h.2.2.2.1.mv hal hh, h.2.2.2.2⟩
namespace Cdr
def yN : MethodName := ⟨"java/lang/String", "coder", "()B"⟩
abbrev yB : ByteArray := jdk_42_method_152_code
theorem d0 : decode yB 0 = .ok (.getstatic 38, 3) := by decide +kernel
theorem d3 : decode yB 3 = .ok (.ifCond (.eq) 10, 3) := by decide +kernel
theorem d6 : decode yB 6 = .ok (.aload_n 0, 1) := by decide +kernel
theorem d7 : decode yB 7 = .ok (.getfield 15, 3) := by decide +kernel
theorem d10 : decode yB 10 = .ok (.goto 4, 3) := by decide +kernel
theorem d14 : decode yB 14 = .ok (.ireturn, 1) := by decide +kernel
def site : List Cond := [.fieldLink "java/lang/String" 38 "java/lang/String" "COMPACT_STRINGS" "Z", .fieldLink "java/lang/String" 15 "java/lang/String" "coder" "B"]
def tab : Cond := tabOf yN yB 1 (some .byte) site
def P (x : Addr) (cd z : Int32) (args : Array Value) (s : State) : Prop := args = #[.ref x] ∧ Has x "java/lang/String" "coder" "B" (.int cd) s ∧ (cd = 0 ∨ cd = 1) ∧ StaticIs s "java/lang/String" "COMPACT_STRINGS" "Z" (.int z) ∧ ¬ z = 0
def E (cd : Int32) (r : Option Value) (s u : State) : Prop := XT.PureE (some (.int cd)) r s u
theorem law (l : Launch) (x : Addr) (cd z : Int32) : Law l yN 1 0 0 0 yB 1 (some .byte) site (P x cd z) (E cd) [] 0 0 := by
  refine Law.of_walk (plainFor_of_name (by decide +kernel)) (by decide +kernel) (by decide +kernel) (by decide) (fun _ _ h => by rw [h.1]; rfl) (fun _ U U' hal hh h => ⟨h.1, h.2.1.mv hal hh, h.2.2.1, h.2.2.2.1.there hal hh, h.2.2.2.2⟩) (fun r U U' V V' h1 hal h2 h => XT.PureE.mv r U U' V V' h1 hal h2 h) ?_
  intro p e s m args below meth c s₁ X0 hexec hbytes hml hret hlk hnm hown hh0 W hP
  obtain ⟨rfl, hx, hc, s1, hz⟩ := hP
  have c1 : Steps p.tables e below (s₁.setTop (entryFrame m #[.ref x] 1)) (s₁.setTop (mkF m 0 #[.val (.ref x)] [])) := entry rfl
  obtain ⟨T2, X2, q2, st2⟩ := X0.sget hexec hown (wk W (.fieldLink "java/lang/String" 38 "java/lang/String" "COMPACT_STRINGS" "Z")) s1 (fun _ _ h => by rw [hh0]; exact h) (g := (mkF m 0 #[.val (.ref x)] [])) rfl (hb hbytes d0)
  have hh2 := q2.trans hh0
  have c3 : Steps p.tables e below (s₁.setTop (entryFrame m #[.ref x] 1)) (T2.setTop (mkF m 7 #[.val (.ref x)] [.ref x])) := (c1.trans (st2 _ (Steps.refl _))).trans (by
    refine XS.ifNo X2.here hexec rfl (hb hbytes d3) rfl (i0_eq_f hz) ?_
    refine XS.aloadN X2.here hexec rfl (hb hbytes d6) rfl rfl ?_
    exact Steps.refl _)
  obtain ⟨T4, X4, q4, st4⟩ := X2.hget hexec hown (wk W (.fieldLink "java/lang/String" 15 "java/lang/String" "coder" "B")) (hx.mv X2.warmed.alike hh2) (g := (mkF m 7 #[.val (.ref x)] [.ref x])) rfl (rest := []) rfl (hb hbytes d7)
  have c5 : Steps p.tables e below (s₁.setTop (entryFrame m #[.ref x] 1)) (T4.setTop (mkF m 14 #[.val (.ref x)] [.int cd])) := (c3.trans (st4 _ (Steps.refl _))).trans (by
    refine XS.goto X4.here hexec rfl (pc0 := 10) rfl (hb hbytes d10) (by decide) rfl ?_
    exact Steps.refl _)
  exact ⟨T4, some (.int cd), _, _, _, X4, rfl, rfl, rfl, (fun h => by cases h), ⟨rfl, q4.trans hh2⟩, fun fs hl => c5.trans (X4.ireturnOut hexec hret (by rcases hc with rfl | rfl <;> rfl) (Or.inr (Or.inr (Or.inl rfl))) (hb hbytes d14) hl)⟩
end Cdr
namespace Len
def yN : MethodName := ⟨"java/lang/String", "length", "()I"⟩
abbrev yB : ByteArray := jdk_42_method_54_code
theorem d0 : decode yB 0 = .ok (.aload_n 0, 1) := by decide +kernel
theorem d1 : decode yB 1 = .ok (.getfield 9, 3) := by decide +kernel
theorem d4 : decode yB 4 = .ok (.arraylength, 1) := by decide +kernel
theorem d5 : decode yB 5 = .ok (.aload_n 0, 1) := by decide +kernel
theorem d6 : decode yB 6 = .ok (.invokevirtual 335, 3) := by decide +kernel
theorem d9 : decode yB 9 = .ok (.ishr, 1) := by decide +kernel
theorem d10 : decode yB 10 = .ok (.ireturn, 1) := by decide +kernel
def site : List Cond := [.fieldLink "java/lang/String" 9 "java/lang/String" "value" "[B", Cdr.tab] ++ virtW "java/lang/String" 335 "java/lang/String" Cdr.yN Cdr.yN
def tab : Cond := tabOf yN yB 1 (some .int) site
def P (x t : Addr) (V : Cell) (cd : Int32) (n : Nat) (f : Nat → Int32) (z : Int32) (args : Array Value) (s : State) : Prop := args = #[.ref x] ∧ Txt x t V cd n f s ∧ StaticIs s "java/lang/String" "COMPACT_STRINGS" "Z" (.int z) ∧ ¬ z = 0
def E (n : Nat) (r : Option Value) (s u : State) : Prop := XT.PureE (some (.int (Int32.ofNat n))) r s u
/-- length() of a String of n chars, in either coding -/
theorem law (l : Launch) (x t : Addr) (V : Cell) (cd : Int32) (n : Nat) (f : Nat → Int32) (z : Int32) : Law l yN 1 0 1 13 yB 1 (some .int) site (P x t V cd n f z) (E n) [] 0 0 := by
  refine Law.of_walk (plainFor_of_name (by decide +kernel)) (by decide +kernel) (by decide +kernel) (by decide) (fun _ _ h => by rw [h.1]; rfl) (fun _ U U' hal hh h => ⟨h.1, h.2.1.mv hal hh, h.2.2.1.there hal hh, h.2.2.2⟩) (fun r U U' V V' h1 hal h2 h => XT.PureE.mv r U U' V V' h1 hal h2 h) ?_
  intro p e s m args below meth c s₁ X0 hexec hbytes hml hret hlk hnm hown hh0 W hP
  obtain ⟨rfl, hx, s1, hz⟩ := hP
  have v31 := hx.2.2.2.1.2.2.2
  have c1 : Steps p.tables e below (s₁.setTop (entryFrame m #[.ref x] 1)) (s₁.setTop (mkF m 1 #[.val (.ref x)] [.ref x])) := Steps.trans (entry rfl) (by
    show Steps p.tables e below (s₁.setTop (mkF m 0 #[.val (.ref x)] [])) _
    refine XS.aloadN X0.here hexec rfl (hb hbytes d0) rfl rfl ?_
    exact Steps.refl _)
  obtain ⟨T2, X2, q2, st2⟩ := X0.hget hexec hown (wk W (.fieldLink "java/lang/String" 9 "java/lang/String" "value" "[B")) (hx.mv X0.warmed.alike hh0).2.1 (g := (mkF m 1 #[.val (.ref x)] [.ref x])) rfl (rest := []) rfl (hb hbytes d1)
  have hh2 := q2.trans hh0
  have hx2 := hx.mv X2.warmed.alike hh2
  have c3 : Steps p.tables e below (s₁.setTop (entryFrame m #[.ref x] 1)) (T2.setTop (mkF m 6 #[.val (.ref x)] [.ref x, .int (Int32.ofNat V.slots.size)])) := (c1.trans (st2 _ (Steps.refl _))).trans (by
    refine X2.alen hexec hx2.2.2.2.1 rfl rfl (hb hbytes d4) ?_
    refine XS.aloadN X2.here hexec rfl (hb hbytes d5) rfl rfl ?_
    exact Steps.refl _)
  obtain ⟨v4, T4, X4, E4, g4⟩ := X2.callV hexec (Cdr.law l x cd z) hown (wks W (virtW "java/lang/String" 335 "java/lang/String" Cdr.yN Cdr.yN)) rfl (by decide) (wk W Cdr.tab) (W := 1) (Nat.le_of_ble_eq_true rfl) (Nat.le_of_ble_eq_true rfl) (Nat.le_refl _) (Nat.le_refl _) (hx2.1.fc X2.warmed.alike) hx2.1.is (g := (mkF m 6 #[.val (.ref x)] [.ref x, .int (Int32.ofNat V.slots.size)])) rfl (by rw [hml]; rfl) c3 (argsL := []) (rest := [.int (Int32.ofNat V.slots.size)]) rfl rfl (by show 2 * 0 + (1 + 0) ≤ _; decide) (hb hbytes d6) (⟨rfl, hx2.2.2.1, hx.2.2.2.2.1.cd, s1.there X2.warmed.alike hh2, hz⟩)
  obtain ⟨rfl, q4⟩ := E4
  have c5 : Steps p.tables e below (s₁.setTop (entryFrame m #[.ref x] 1)) (T4.setTop (mkF m 10 #[.val (.ref x)] [.int (Int32.ofNat V.slots.size >>> (cd &&& 31))])) := Steps.trans g4 (by
    refine ishr X4.here hexec rfl (hb hbytes d9) rfl ?_
    exact Steps.refl _)
  rw [hx.2.2.2.2.1.len v31] at c5
  exact ⟨T4, some (.int (Int32.ofNat n)), _, _, _, X4, rfl, rfl, rfl, (fun h => by cases h), ⟨rfl, q4.trans hh2⟩, fun fs hl => c5.trans (X4.ireturnOut hexec hret rfl (Or.inl rfl) (hb hbytes d10) hl)⟩
theorem pays {l : Launch} {R : Room} {p : Program} {e : Env} {below : List Frame} {s : State} {sargs : Array Value} {len W : Nat} (x t : Addr) (V : Cell) (cd : Int32) (n : Nat) (f : Nat → Int32) (z : Int32) (htab : tab.before sargs s = true) (hfr : 2 ≤ R.frames) (hlo : W + 25 ≤ R.locals) :
    Back l R p e below s sargs yN len W (fun A₁ a₁ => A₁.cells + 0 ≤ R.cells ∧ A₁.slots + 0 ≤ R.slots ∧ P x t V cd n f z a₁ A₁.U) (fun A₁ _ v₁ B₁ => E n v₁ A₁.U B₁.U ∧ B₁.locs = A₁.locs ++ [] ∧ B₁.cells = A₁.cells + 0 ∧ B₁.slots = A₁.slots + 0) :=
  (law l x t V cd n f z).pays htab hfr (by omega)
end Len
namespace IsL
def yN : MethodName := ⟨"java/lang/String", "isLatin1", "()Z"⟩
abbrev yB : ByteArray := jdk_42_method_154_code
theorem d0 : decode yB 0 = .ok (.getstatic 38, 3) := by decide +kernel
theorem d3 : decode yB 3 = .ok (.ifCond (.eq) 14, 3) := by decide +kernel
theorem d6 : decode yB 6 = .ok (.aload_n 0, 1) := by decide +kernel
theorem d7 : decode yB 7 = .ok (.getfield 15, 3) := by decide +kernel
theorem d10 : decode yB 10 = .ok (.ifCond (.ne) 7, 3) := by decide +kernel
theorem d13 : decode yB 13 = .ok (.iconst 1, 1) := by decide +kernel
theorem d14 : decode yB 14 = .ok (.goto 4, 3) := by decide +kernel
theorem d17 : decode yB 17 = .ok (.iconst 0, 1) := by decide +kernel
theorem d18 : decode yB 18 = .ok (.ireturn, 1) := by decide +kernel
def site : List Cond := [.fieldLink "java/lang/String" 38 "java/lang/String" "COMPACT_STRINGS" "Z", .fieldLink "java/lang/String" 15 "java/lang/String" "coder" "B"]
def tab : Cond := tabOf yN yB 1 (some .boolean) site
def P (x : Addr) (cd z : Int32) (args : Array Value) (s : State) : Prop := args = #[.ref x] ∧ Has x "java/lang/String" "coder" "B" (.int cd) s ∧ (cd = 0 ∨ cd = 1) ∧ StaticIs s "java/lang/String" "COMPACT_STRINGS" "Z" (.int z) ∧ ¬ z = 0
def E (cd : Int32) (r : Option Value) (s u : State) : Prop := XT.PureE (some (.int (1 - cd))) r s u
theorem law (l : Launch) (x : Addr) (cd z : Int32) : Law l yN 1 0 0 0 yB 1 (some .boolean) site (P x cd z) (E cd) [] 0 0 := by
  refine Law.of_walk (plainFor_of_name (by decide +kernel)) (by decide +kernel) (by decide +kernel) (by decide) (fun _ _ h => by rw [h.1]; rfl) (fun _ U U' hal hh h => ⟨h.1, h.2.1.mv hal hh, h.2.2.1, h.2.2.2.1.there hal hh, h.2.2.2.2⟩) (fun r U U' V V' h1 hal h2 h => XT.PureE.mv r U U' V V' h1 hal h2 h) ?_
  intro p e s m args below meth c s₁ X0 hexec hbytes hml hret hlk hnm hown hh0 W hP
  obtain ⟨rfl, hx, hc, s1, hz⟩ := hP
  have c1 : Steps p.tables e below (s₁.setTop (entryFrame m #[.ref x] 1)) (s₁.setTop (mkF m 0 #[.val (.ref x)] [])) := entry rfl
  obtain ⟨T2, X2, q2, st2⟩ := X0.sget hexec hown (wk W (.fieldLink "java/lang/String" 38 "java/lang/String" "COMPACT_STRINGS" "Z")) s1 (fun _ _ h => by rw [hh0]; exact h) (g := (mkF m 0 #[.val (.ref x)] [])) rfl (hb hbytes d0)
  have hh2 := q2.trans hh0
  have c3 : Steps p.tables e below (s₁.setTop (entryFrame m #[.ref x] 1)) (T2.setTop (mkF m 7 #[.val (.ref x)] [.ref x])) := (c1.trans (st2 _ (Steps.refl _))).trans (by
    refine XS.ifNo X2.here hexec rfl (hb hbytes d3) rfl (i0_eq_f hz) ?_
    refine XS.aloadN X2.here hexec rfl (hb hbytes d6) rfl rfl ?_
    exact Steps.refl _)
  obtain ⟨T4, X4, q4, st4⟩ := X2.hget hexec hown (wk W (.fieldLink "java/lang/String" 15 "java/lang/String" "coder" "B")) (hx.mv X2.warmed.alike hh2) (g := (mkF m 7 #[.val (.ref x)] [.ref x])) rfl (rest := []) rfl (hb hbytes d7)
  have c5 : Steps p.tables e below (s₁.setTop (entryFrame m #[.ref x] 1)) (T4.setTop (mkF m 10 #[.val (.ref x)] [.int cd])) := c3.trans (st4 _ (Steps.refl _))
  have c6 : Steps p.tables e below (s₁.setTop (entryFrame m #[.ref x] 1)) (T4.setTop (mkF m 18 #[.val (.ref x)] [.int (1 - cd)])) := by
    rcases hc with rfl | rfl
    · exact c5.trans (by
        refine XS.ifNo X4.here hexec rfl (hb hbytes d10) rfl (i0_ne_f rfl) ?_
        refine iconstV X4.here hexec rfl 1 (hb hbytes d13) (by decide) ?_
        refine XS.goto X4.here hexec rfl (pc0 := 14) rfl (hb hbytes d14) (by decide) rfl ?_
        exact Steps.refl _)
    · exact c5.trans (by
        refine XS.ifYes X4.here hexec rfl (pc0 := 10) rfl (hb hbytes d10) rfl (i0_ne_t (by decide)) (by decide) rfl ?_
        refine iconstV X4.here hexec rfl 0 (hb hbytes d17) (by decide) ?_
        exact Steps.refl _)
  exact ⟨T4, some (.int (1 - cd)), _, _, _, X4, rfl, rfl, rfl, (fun h => by cases h), ⟨rfl, q4.trans hh2⟩, fun fs hl => c6.trans (X4.ireturnOut hexec hret (by rcases hc with rfl | rfl <;> rfl) (Or.inr (Or.inl rfl)) (hb hbytes d18) hl)⟩
end IsL
namespace LChA
def yN : MethodName := ⟨"java/lang/StringLatin1", "charAt", "([BI)C"⟩
abbrev yB : ByteArray := jdk_43_method_2_code
theorem d0 : decode yB 0 = .ok (.iload_n 1, 1) := by decide +kernel
theorem d1 : decode yB 1 = .ok (.aload_n 0, 1) := by decide +kernel
theorem d2 : decode yB 2 = .ok (.arraylength, 1) := by decide +kernel
theorem d3 : decode yB 3 = .ok (.invokestatic 9, 3) := by decide +kernel
theorem d6 : decode yB 6 = .ok (.aload_n 0, 1) := by decide +kernel
theorem d7 : decode yB 7 = .ok (.iload_n 1, 1) := by decide +kernel
theorem d8 : decode yB 8 = .ok (.baload, 1) := by decide +kernel
theorem d9 : decode yB 9 = .ok (.sipush 255, 3) := by decide +kernel
theorem d12 : decode yB 12 = .ok (.iand, 1) := by decide +kernel
theorem d13 : decode yB 13 = .ok (.i2c, 1) := by decide +kernel
theorem d14 : decode yB 14 = .ok (.ireturn, 1) := by decide +kernel
def site : List Cond := [JO.Str_checkIndex.tab] ++ staticW "java/lang/StringLatin1" 9 JO.Str_checkIndex.yN
def tab : Cond := tabOf yN yB 2 (some .char) site
def P (t : Addr) (V : Cell) (i : Nat) (u : Int32) (fm : Value) (args : Array Value) (s : State) : Prop := args = #[.ref t, .int (Int32.ofNat i)] ∧ XT.Arr .byte t V s ∧ V.slots[i]? = some (.int u) ∧ (StaticIs s "jdk/internal/util/Preconditions" "SIOOBE_FORMATTER" "Ljava/util/function/BiFunction;" fm ∧ fm.isRef = true)
def E (u : Int32) (r : Option Value) (s w : State) : Prop := XT.PureE (some (.int (chr8 u))) r s w
theorem law (l : Launch) (t : Addr) (V : Cell) (i : Nat) (u : Int32) (fm : Value) : Law l yN 2 2 2 27 yB 2 (some .char) site (P t V i u fm) (E u) [] 0 0 := by
  refine Law.of_walk (plainFor_of_name (by decide +kernel)) (by decide +kernel) (by decide +kernel) (by decide) (fun _ _ h => by rw [h.1]; rfl) (fun _ U U' hal hh h => ⟨h.1, h.2.1.mv hal hh, h.2.2.1, h.2.2.2.1.there hal hh, h.2.2.2.2⟩) (fun r U U' V V' h1 hal h2 h => XT.PureE.mv r U U' V V' h1 hal h2 h) ?_
  intro p e s m args below meth c s₁ X0 hexec hbytes hml hret hlk hnm hown hh0 W hP
  obtain ⟨rfl, hV, hu, s1, rf⟩ := hP
  have v31 := hV.2.2.2
  have hi : i < V.slots.size := (Array.getElem?_eq_some_iff.mp hu).1
  have c1 : Steps p.tables e below (s₁.setTop (entryFrame m #[.ref t, .int (Int32.ofNat i)] 2)) (s₁.setTop (mkF m 0 #[.val (.ref t), .val (.int (Int32.ofNat i))] [])) := entry rfl
  have c2 : Steps p.tables e below (s₁.setTop (entryFrame m #[.ref t, .int (Int32.ofNat i)] 2)) (s₁.setTop (mkF m 3 #[.val (.ref t), .val (.int (Int32.ofNat i))] [.int (Int32.ofNat V.slots.size), .int (Int32.ofNat i)])) := c1.trans (by
    refine XS.iloadN X0.here hexec rfl (hb hbytes d0) rfl ?_
    refine XS.aloadN X0.here hexec rfl (hb hbytes d1) rfl rfl ?_
    refine X0.alen hexec (hV.mv X0.warmed.alike hh0) rfl rfl (hb hbytes d2) ?_
    exact Steps.refl _)
  obtain ⟨v3, T3, X3, E3, g3⟩ := X0.callS hexec (JO.Str_checkIndex.law l (Int32.ofNat i) (Int32.ofNat V.slots.size) fm) hown (wks W (staticW "java/lang/StringLatin1" 9 JO.Str_checkIndex.yN)) (wk W JO.Str_checkIndex.tab) (W := 0) (Nat.le_of_ble_eq_true rfl) (Nat.le_of_ble_eq_true rfl) (Nat.le_refl _) (Nat.le_refl _) (g := (mkF m 3 #[.val (.ref t), .val (.int (Int32.ofNat i))] [.int (Int32.ofNat V.slots.size), .int (Int32.ofNat i)])) rfl (by rw [hml]; rfl) c2 (argsL := [.int (Int32.ofNat i), .int (Int32.ofNat V.slots.size)]) (rest := []) rfl rfl (by show 2 * 0 + 0 ≤ _; decide) (hb hbytes d3) (⟨rfl, rf, s1.there X0.warmed.alike hh0, Int32.ofNat_not_neg (by omega), lt32 v31 hi⟩)
  obtain ⟨rfl, q3⟩ := E3
  have hh3 := q3.trans hh0
  have c4 : Steps p.tables e below (s₁.setTop (entryFrame m #[.ref t, .int (Int32.ofNat i)] 2)) (T3.setTop (mkF m 14 #[.val (.ref t), .val (.int (Int32.ofNat i))] [.int (chr8 u)])) := Steps.trans g3 (by
    refine XS.aloadN X3.here hexec rfl (hb hbytes d6) rfl rfl ?_
    refine XS.iloadN X3.here hexec rfl (hb hbytes d7) rfl ?_
    refine X3.aget hexec (hV.mv X3.warmed.alike hh3) rfl hu rfl rfl (hb hbytes d8) ?_
    refine sipushV X3.here hexec rfl 255 (hb hbytes d9) (by decide) ?_
    refine XS.iand X3.here hexec rfl (hb hbytes d12) rfl ?_
    refine i2c X3.here hexec rfl (hb hbytes d13) rfl ?_
    exact Steps.refl _)
  exact ⟨T3, some (.int (chr8 u)), _, _, _, X3, rfl, rfl, rfl, (fun h => by cases h), ⟨rfl, hh3⟩, fun fs hl => c4.trans (X3.ireturnOut hexec hret (narrow_c _) (Or.inr (Or.inr (Or.inr (Or.inl rfl)))) (hb hbytes d14) hl)⟩
end LChA
end StrChars
namespace StrChars.Road
open Jvm Sem ClassFile Op Lib Jvm.Stand Jvm.Free Jvm.Free.XT
open Jvm.Lib.Cold (StaticIs)
theorem consq {a : Array Value} {s : State} {c : Jvm.Cond} {L : List Jvm.Cond} (h0 : c.before a s = true) (h : ∀ w ∈ L, w.before a s = true) : ∀ w ∈ c :: L, w.before a s = true := fun w hw => (List.mem_cons.mp hw).elim (fun e => e ▸ h0) (h w)
/-- the words of String.length(), either coding -/
abbrev wordsLen : List Jvm.Cond := [.code Len.yN Len.yB 1 (some .int), .initialized ST, .fieldLink ST 9 ST "value" "[B", .fieldLink ST 38 ST "COMPACT_STRINGS" "Z", .fieldLink ST 15 ST "coder" "B", .code Cdr.yN Cdr.yB 1 (some .byte), .methodLink ST 335 Cdr.yN, .declares Cdr.yN, .selects ST Cdr.yN Cdr.yN, .instanceMethod Cdr.yN]
theorem tabLen_of {a : Array Value} {s : State} (h : ∀ w ∈ wordsLen, w.before a s = true) : Len.tab.before a s = true := by
  have hc : Cdr.tab.before a s = true := unparts (wk h (.code Cdr.yN Cdr.yB 1 (some .byte))) (wks h (.initialized Cdr.yN.cls :: Cdr.site))
  have q := consq hc h
  exact unparts (wk q (.code Len.yN Len.yB 1 (some .int))) (wks q (.initialized Len.yN.cls :: Len.site))
theorem movedLen {Z s : State} {a0 args : Array Value} (hZ : Z.Warmed39 s.vm) (hw : ∀ d ∈ wordsLen, d.before a0 Z = true) : ∀ d ∈ wordsLen, d.before args s = true := fun d hd => by
  have q := hw d hd
  have t : ∀ d ∈ wordsLen, d = .arrayClass .byte ∨ (d.onTables && d.keepsFace) = true := by decide +kernel
  rcases t d hd with rfl | t
  · exact RoadKit.mvA hZ q
  · exact RoadKit.mv hZ q t
/-- the bytes of the chars cs, low before high -/
def wideBytes : List Int32 → List Value
  | [] => []
  | c :: cs => .int (lo8 c) :: .int (hi8 c) :: wideBytes cs
theorem wide_lo (d : Value) : ∀ (cs : List Int32) (j : Nat), j < cs.length → (wideBytes cs).getD (2 * j) d = .int (lo8 (cs.getD j 0))
  | [], j, h => absurd h (Nat.not_lt_zero j)
  | c :: cs, 0, _ => rfl
  | c :: cs, j + 1, h => by
    have q := wide_lo d cs j (by simpa using h)
    rw [show 2 * (j + 1) = 2 * j + 1 + 1 from by omega]
    simpa [wideBytes] using q
theorem wide_hi (d : Value) : ∀ (cs : List Int32) (j : Nat), j < cs.length → (wideBytes cs).getD (2 * j + 1) d = .int (hi8 (cs.getD j 0))
  | [], j, h => absurd h (Nat.not_lt_zero j)
  | c :: cs, 0, _ => rfl
  | c :: cs, j + 1, h => by
    have q := wide_hi d cs j (by simpa using h)
    rw [show 2 * (j + 1) + 1 = 2 * j + 1 + 1 + 1 from by omega]
    simpa [wideBytes] using q
theorem low_at (d : Value) (cs : List Int32) (j : Nat) (h : j < cs.length) : (cs.map fun c => Value.int (lo8 c)).getD j d = .int (lo8 (cs.getD j 0)) := by
  simp [List.getD_eq_getElem?_getD, h]
/-- an array of N2 bytes vs codes the chars cs by the coder cd -/
def CodA (cs : List Int32) (cd N2 : Int32) (vs : List Value) : Prop := (cd = 0 ∧ N2 = Int32.ofNat cs.length ∧ vs = (cs.map fun c => Value.int (lo8 c)) ∧ ∀ c ∈ cs, ¬ 255 < c) ∨ (cd = 1 ∧ N2 = Int32.ofNat (2 * cs.length) ∧ vs = wideBytes cs ∧ ∃ c ∈ cs, 255 < c)
theorem CodA.cod {cs : List Int32} {cd N2 : Int32} {vs : List Value} {V : Cell} (h : CodA cs cd N2 vs) (hn : 2 * cs.length < 2 ^ 31) (hs : V.slots.size = N2.toNatClampNeg) (hv : RoadKit.Has V vs (.int 0)) : Cod cd cs.length (fun j => cs.getD j 0) V := by
  rcases h with ⟨rfl, rfl, rfl, h⟩ | ⟨rfl, rfl, rfl, c, hc, hw⟩
  · rw [n32 (by omega)] at hs
    exact Or.inl ⟨rfl, hs, fun j hj => ⟨by rw [hv j (by omega), low_at _ _ _ hj], by
      have e : cs.getD j 0 = cs[j] := by simp [List.getD_eq_getElem?_getD, hj]
      show ¬ 255 < cs.getD j 0
      rw [e]; exact h _ (List.getElem_mem _)⟩⟩
  · rw [n32 (by omega)] at hs
    obtain ⟨j, hj, rfl⟩ := List.getElem_of_mem hc
    exact Or.inr ⟨rfl, hs, fun j hj => ⟨by rw [hv _ (by omega), wide_lo _ _ _ hj], by rw [hv _ (by omega), wide_hi _ _ _ hj]⟩, j, hj, by
      have e : cs.getD j 0 = cs[j] := by simp [List.getD_eq_getElem?_getD, hj]
      show 255 < cs.getD j 0
      rw [e]; exact hw⟩
/-- an object of exactly java/lang/String, its two fields found: as the laws ask it -/
theorem strObj {Z U : State} {a0 : Array Value} {kI : Nat} (wi : (Jvm.Cond.instantiable ST kI).before a0 Z = true) (al : Z.vm.Alike U.vm) {x : Addr} {v0 c0 : Value} (E : RoadKit.Exa Z U.heap x ST) (V : RoadKit.Fld Z U.heap x ST "value" "[B" v0) (C : RoadKit.Fld Z U.heap x ST "coder" "B" c0) :
    ∃ (D : Cell) (fV fC : Field), Blank ST x D U ∧ Found ST "value" "[B" fV U ∧ Found ST "coder" "B" fC U ∧ D.slots[fV.slot]? = some v0 ∧ D.slots[fC.slot]? = some c0 ∧ RoadKit.slotOf Z ST "value" "[B" = fV.slot ∧ RoadKit.slotOf Z ST "coder" "B" = fC.slot := by
  obtain ⟨D, cfV, kV, iV, fV, hD, gV, stV, knV, obV, asV, slV⟩ := V
  obtain ⟨D', cfC, kC, iC, fC, hD', gC, stC, -, -, asC, slC⟩ := C
  cases hD.symm.trans hD'
  obtain ⟨D2, kD, e1, e2, e3, e4, e5⟩ := E
  cases hD.symm.trans e1
  obtain ⟨c2, k2, i1, i2, i3, -⟩ := Cond.instantiable_spec wi
  cases e2.symm.trans i1
  cases e3.symm.trans i2
  obtain ⟨kU, u1, u2⟩ := al.2.2 _ _ e3
  exact ⟨D, fV, fC, ⟨hD, ⟨knV, fun q hq => by rw [hq] at obV; cases obV⟩, by rw [al.findClass]; exact e2, kU, u1, by rw [u2]; exact i3, by rw [u2]; exact e5 i3⟩, ⟨SBG.found_only al ⟨cfV, kV, iV, gV⟩, stV⟩, ⟨SBG.found_only al ⟨cfC, kC, iC, gC⟩, stC⟩, slV, slC, by simp [RoadKit.slotOf, gV], by simp [RoadKit.slotOf, gC]⟩
theorem sta_is {Z U : State} (al : Z.vm.Alike U.vm) {C n d : String} {v : Value} (S : RoadKit.Sta Z U.heap C n d v) : StaticIs U C n d v := by
  obtain ⟨cfS, iS, kS, fS, st, cS, t1, t2, t3, t4, t5, t6, t7⟩ := S
  exact StaticIs.there (s := { Z with heap := U.heap }) ⟨cfS, iS, kS, fS, st, cS, t1, t2, t3, t4, t5, (fun q => by rw [q] at t6; cases t6), t7⟩ al rfl
/-- **length() OF SUCH A STRING** -/
theorem lenW {p : Program} {l : Launch} {e : Env} {R : Room} {s : State} {args : Array Value} {below : List Frame} {len W : Nat} {Z : State} {a0 : Array Value} {h : Heap} (hZ : Z.Warmed39 s.vm) (hw : ∀ d ∈ wordsLen, d.before a0 Z = true) {kI : Nat} (wi : (Jvm.Cond.instantiable ST kI).before a0 Z = true)
    {x t : Addr} {kb : ClassId} {cs : List Int32} {cd N2 z : Int32} {vs : List Value} (E : RoadKit.Exa Z h x ST) (V : RoadKit.Fld Z h x ST "value" "[B" (.ref t)) (C : RoadKit.Fld Z h x ST "coder" "B" (.int cd)) (K : RoadKit.Arv Z h t kb .byte N2 vs (.int 0)) (hc : CodA cs cd N2 vs) (hb : ∀ c ∈ cs, ¬ c < 0 ∧ ¬ (65535 : Int32) < c)
    (S : RoadKit.Sta Z h ST "COMPACT_STRINGS" "Z" (.int z)) (hz : ¬ z = 0) (l2 : cs.length ≤ 4000) (hfr : 2 ≤ R.frames) (hlo : W + 25 ≤ R.locals) :
    Back l R p e below s args (⟨"java/lang/String", "length", "()I"⟩ : MethodName) len W (fun P a => a = #[.ref x] ∧ P.U.heap = h ∧ P.cells + 0 ≤ R.cells ∧ P.slots + 0 ≤ R.slots)
      (fun P _ v B => ∃ L, (v = some (.int (Int32.ofNat cs.length)) ∧ L = [] ∧ B.U.heap = h) ∧ B.locs = P.locs ++ L ∧ B.cells = P.cells + 0 ∧ B.slots = P.slots + 0) := by
  obtain ⟨A, K1, K2, K3, K4, K5, K6⟩ := K
  have hcod := hc.cod (by omega) K3 K5
  intro m meth c P g ig mk a X hg hsize hdg hW hn hp'
  obtain ⟨rfl, rfl, r1, r2⟩ := hp'
  have al : Z.vm.Alike P.U.vm := hZ.alike.trans X.warmed.alike
  obtain ⟨D, fV, fC, hB, F1, F2, g1, g2, -, -⟩ := strObj wi al E V C
  have hx : Txt x t A cd cs.length (fun j => cs.getD j 0) P.U := ⟨⟨_, hB.2.2.1, D, hB.1, rfl, by cases q : D.vm <;> first | rfl | exact absurd q (hB.2.1.2 _)⟩, Has.of hB F1 g1, Has.of hB F2 g2, ⟨K1.1, State.isArrayOf_alike al K1.2.1, K1.2.2, by rcases hcod with ⟨-, q, -⟩ | ⟨-, q, -⟩ <;> omega⟩, hcod, fun j hj => by
    have e : cs.getD j 0 = cs[j] := by simp [List.getD_eq_getElem?_getD, hj]
    show ¬ cs.getD j 0 < 0 ∧ ¬ 65535 < cs.getD j 0
    rw [e]; exact hb _ (List.getElem_mem _)⟩
  obtain ⟨v, B, X', ⟨⟨hv, hh⟩, hl, hk, hs⟩, st⟩ := Len.pays x t A cd cs.length (fun j => cs.getD j 0) z (tabLen_of (movedLen hZ hw)) hfr hlo m meth c P g ig mk _ X hg hsize hdg hW hn ⟨r1, r2, rfl, hx, sta_is al S, hz⟩
  exact ⟨v, B, X', ⟨[], ⟨hv, rfl, hh⟩, hl, hk, hs⟩, st⟩
end StrChars.Road
namespace StrChars.Road
open Jvm Sem ClassFile Op Lib Jvm.Stand Jvm.Free Jvm.Free.XT
open Jvm.Lib.Cold (StaticIs)
/-- the road's facts of a String, as the laws ask it -/
theorem txt_of {Z U : State} {a0 : Array Value} {kI : Nat} (wi : (Jvm.Cond.instantiable ST kI).before a0 Z = true) (al : Z.vm.Alike U.vm) {x t : Addr} {kb : ClassId} {cs : List Int32} {cd N2 : Int32} {vs : List Value} (E : RoadKit.Exa Z U.heap x ST) (V : RoadKit.Fld Z U.heap x ST "value" "[B" (.ref t)) (C : RoadKit.Fld Z U.heap x ST "coder" "B" (.int cd)) (K : RoadKit.Arv Z U.heap t kb .byte N2 vs (.int 0)) (hc : CodA cs cd N2 vs) (hb : ∀ c ∈ cs, ¬ c < 0 ∧ ¬ (65535 : Int32) < c) (l2 : cs.length ≤ 4000) :
    ∃ A, Txt x t A cd cs.length (fun j => cs.getD j 0) U := by
  obtain ⟨A, K1, K2, K3, K4, K5, K6⟩ := K
  have hcod := hc.cod (by omega) K3 K5
  obtain ⟨D, fV, fC, hB, F1, F2, g1, g2, -, -⟩ := strObj wi al E V C
  exact ⟨A, ⟨_, hB.2.2.1, D, hB.1, rfl, by cases q : D.vm <;> first | rfl | exact absurd q (hB.2.1.2 _)⟩, Has.of hB F1 g1, Has.of hB F2 g2, ⟨K1.1, State.isArrayOf_alike al K1.2.1, K1.2.2, by rcases hcod with ⟨-, q, -⟩ | ⟨-, q, -⟩ <;> omega⟩, hcod, fun j hj => by
    have e : cs.getD j 0 = cs[j] := by simp [List.getD_eq_getElem?_getD, hj]
    show ¬ cs.getD j 0 < 0 ∧ ¬ 65535 < cs.getD j 0
    rw [e]; exact hb _ (List.getElem_mem _)⟩
end StrChars.Road
namespace StrChars
open Jvm Sem ClassFile Op Lib Jvm.Stand Jvm.Free.XT Jvm.Free.ALB Jvm.Free.JM Jvm.Free
open Jvm.Lib.Cold (StaticIs)
namespace ChN
def yN : MethodName := ⟨"java/lang/String", "charAt", "(I)C"⟩
abbrev yB : ByteArray := jdk_42_method_56_code
theorem d0 : decode yB 0 = .ok (.aload_n 0, 1) := by decide +kernel
theorem d1 : decode yB 1 = .ok (.invokevirtual 492, 3) := by decide +kernel
theorem d4 : decode yB 4 = .ok (.ifCond (.eq) 12, 3) := by decide +kernel
theorem d7 : decode yB 7 = .ok (.aload_n 0, 1) := by decide +kernel
theorem d8 : decode yB 8 = .ok (.getfield 9, 3) := by decide +kernel
theorem d11 : decode yB 11 = .ok (.iload_n 1, 1) := by decide +kernel
theorem d12 : decode yB 12 = .ok (.invokestatic 495, 3) := by decide +kernel
theorem d15 : decode yB 15 = .ok (.ireturn, 1) := by decide +kernel
def site : List Cond := [.fieldLink "java/lang/String" 9 "java/lang/String" "value" "[B", IsL.tab, LChA.tab] ++ virtW "java/lang/String" 492 "java/lang/String" IsL.yN IsL.yN ++ staticW "java/lang/String" 495 LChA.yN
def tab : Cond := tabOf yN yB 2 (some .char) site
def P (x t : Addr) (V : Cell) (n : Nat) (f : Nat → Int32) (z : Int32) (fm : Value) (i : Nat) (args : Array Value) (s : State) : Prop := args = #[.ref x, .int (Int32.ofNat i)] ∧ Txt x t V 0 n f s ∧ i < n ∧ StaticIs s "java/lang/String" "COMPACT_STRINGS" "Z" (.int z) ∧ ¬ z = 0 ∧ StaticIs s "jdk/internal/util/Preconditions" "SIOOBE_FORMATTER" "Ljava/util/function/BiFunction;" fm ∧ fm.isRef = true
def E (f : Nat → Int32) (i : Nat) (r : Option Value) (s u : State) : Prop := XT.PureE (some (.int (f i))) r s u
/-- charAt(i) of a Latin-1 String of n chars, i < n: f i -/
theorem law (l : Launch) (x t : Addr) (V : Cell) (n : Nat) (f : Nat → Int32) (z : Int32) (fm : Value) (i : Nat) : Law l yN 2 1 3 40 yB 2 (some .char) site (P x t V n f z fm i) (E f i) [] 0 0 := by
  refine Law.of_walk (plainFor_of_name (by decide +kernel)) (by decide +kernel) (by decide +kernel) (by decide) (fun _ _ h => by rw [h.1]; rfl) (fun _ U U' hal hh h => ⟨h.1, h.2.1.mv hal hh, h.2.2.1, h.2.2.2.1.there hal hh, h.2.2.2.2.1, h.2.2.2.2.2.1.there hal hh, h.2.2.2.2.2.2⟩) (fun r U U' V V' h1 hal h2 h => XT.PureE.mv r U U' V V' h1 hal h2 h) ?_
  intro p e s m args below meth c s₁ X0 hexec hbytes hml hret hlk hnm hown hh0 W hP
  obtain ⟨rfl, hx, hi, s1, hz, s3, rf⟩ := hP
  have v31 := hx.2.2.2.1.2.2.2
  have hr := hx.2.2.2.2.2 i hi
  have hx0 := hx.mv X0.warmed.alike hh0
  have c1 : Steps p.tables e below (s₁.setTop (entryFrame m #[.ref x, .int (Int32.ofNat i)] 2)) (s₁.setTop (mkF m 1 #[.val (.ref x), .val (.int (Int32.ofNat i))] [.ref x])) := Steps.trans (entry rfl) (by
    show Steps p.tables e below (s₁.setTop (mkF m 0 #[.val (.ref x), .val (.int (Int32.ofNat i))] [])) _
    refine XS.aloadN X0.here hexec rfl (hb hbytes d0) rfl rfl ?_
    exact Steps.refl _)
  obtain ⟨v2, T2, X2, E2, g2⟩ := X0.callV hexec (IsL.law l x 0 z) hown (wks W (virtW "java/lang/String" 492 "java/lang/String" IsL.yN IsL.yN)) rfl (by decide) (wk W IsL.tab) (W := 0) (Nat.le_of_ble_eq_true rfl) (Nat.le_of_ble_eq_true rfl) (Nat.le_refl _) (Nat.le_refl _) (hx0.1.fc X0.warmed.alike) hx0.1.is (g := (mkF m 1 #[.val (.ref x), .val (.int (Int32.ofNat i))] [.ref x])) rfl (by rw [hml]; rfl) c1 (argsL := []) (rest := []) rfl rfl (by show 2 * 0 + 0 ≤ _; decide) (hb hbytes d1) (⟨rfl, hx0.2.2.1, hx.2.2.2.2.1.cd, s1.there X0.warmed.alike hh0, hz⟩)
  obtain ⟨rfl, q2⟩ := E2
  have hh2 := q2.trans hh0
  have hx2 := hx.mv X2.warmed.alike hh2
  obtain ⟨-, k1, k2⟩ | ⟨k0, -⟩ := hx.2.2.2.2.1
  · have c3 : Steps p.tables e below (s₁.setTop (entryFrame m #[.ref x, .int (Int32.ofNat i)] 2)) (T2.setTop (mkF m 8 #[.val (.ref x), .val (.int (Int32.ofNat i))] [.ref x])) := Steps.trans g2 (by
      refine XS.ifNo X2.here hexec rfl (hb hbytes d4) rfl (i0_eq_f (by decide)) ?_
      refine XS.aloadN X2.here hexec rfl (hb hbytes d7) rfl rfl ?_
      exact Steps.refl _)
    obtain ⟨T4, X4, q4, st4⟩ := X2.hget hexec hown (wk W (.fieldLink "java/lang/String" 9 "java/lang/String" "value" "[B")) hx2.2.1 (g := (mkF m 8 #[.val (.ref x), .val (.int (Int32.ofNat i))] [.ref x])) rfl (rest := []) rfl (hb hbytes d8)
    have hh4 := q4.trans hh2
    have c5 : Steps p.tables e below (s₁.setTop (entryFrame m #[.ref x, .int (Int32.ofNat i)] 2)) (T4.setTop (mkF m 12 #[.val (.ref x), .val (.int (Int32.ofNat i))] [.int (Int32.ofNat i), .ref t])) := (c3.trans (st4 _ (Steps.refl _))).trans (by
      refine XS.iloadN X4.here hexec rfl (hb hbytes d11) rfl ?_
      exact Steps.refl _)
    obtain ⟨v6, T6, X6, E6, g6⟩ := X4.callS hexec (LChA.law l t V i (lo8 (f i)) fm) hown (wks W (staticW "java/lang/String" 495 LChA.yN)) (wk W LChA.tab) (W := 0) (Nat.le_of_ble_eq_true rfl) (Nat.le_of_ble_eq_true rfl) (Nat.le_refl _) (Nat.le_refl _) (g := (mkF m 12 #[.val (.ref x), .val (.int (Int32.ofNat i))] [.int (Int32.ofNat i), .ref t])) rfl (by rw [hml]; rfl) c5 (argsL := [.ref t, .int (Int32.ofNat i)]) (rest := []) rfl rfl (by show 2 * 0 + 0 ≤ _; decide) (hb hbytes d12) (⟨rfl, hx.2.2.2.1.mv X4.warmed.alike hh4, (k2 i hi).1, s3.there X4.warmed.alike hh4, rf⟩)
    obtain ⟨rfl, q6⟩ := E6
    rw [chr8_lo8 hr.1 (k2 i hi).2] at g6
    exact ⟨T6, some (.int (f i)), _, _, _, X6, rfl, rfl, rfl, (fun h => by cases h), ⟨rfl, q6.trans hh4⟩, fun fs hl => Steps.trans g6 (X6.ireturnOut hexec hret (narrow_ch hr.1 hr.2) (Or.inr (Or.inr (Or.inr (Or.inl rfl)))) (hb hbytes d15) hl)⟩
  · exact absurd k0 (by decide)
theorem pays {l : Launch} {R : Room} {p : Program} {e : Env} {below : List Frame} {s : State} {sargs : Array Value} {len W : Nat} (x t : Addr) (V : Cell) (n : Nat) (f : Nat → Int32) (z : Int32) (fm : Value) (i : Nat) (htab : tab.before sargs s = true) (hfr : 4 ≤ R.frames) (hlo : W + 53 ≤ R.locals) :
    Back l R p e below s sargs yN len W (fun A₁ a₁ => A₁.cells + 0 ≤ R.cells ∧ A₁.slots + 0 ≤ R.slots ∧ P x t V n f z fm i a₁ A₁.U) (fun A₁ _ v₁ B₁ => E f i v₁ A₁.U B₁.U ∧ B₁.locs = A₁.locs ++ [] ∧ B₁.cells = A₁.cells + 0 ∧ B₁.slots = A₁.slots + 0) :=
  (law l x t V n f z fm i).pays htab hfr (by omega)
end ChN
end StrChars
namespace StrChars.Road
open Jvm Sem ClassFile Op Lib Jvm.Stand Jvm.Free Jvm.Free.XT
open Jvm.Lib.Cold (StaticIs)
/-- the words of String.charAt(int), the Latin-1 road alone -/
abbrev wordsChN : List Jvm.Cond := [.code ChN.yN ChN.yB 2 (some .char), .initialized ST, .fieldLink ST 9 ST "value" "[B", .fieldLink ST 38 ST "COMPACT_STRINGS" "Z", .fieldLink ST 15 ST "coder" "B", .code IsL.yN IsL.yB 1 (some .boolean), .methodLink ST 492 IsL.yN, .declares IsL.yN, .selects ST IsL.yN IsL.yN, .instanceMethod IsL.yN,
  .methodLink ST 495 LChA.yN, .static LChA.yN, .code LChA.yN LChA.yB 2 (some .char), .initialized "java/lang/StringLatin1", .methodLink "java/lang/StringLatin1" 9 JO.Str_checkIndex.yN, .static JO.Str_checkIndex.yN, .code JO.Str_checkIndex.yN JO.Str_checkIndex.yB 2 none,
  .fieldLink ST 1053 "jdk/internal/util/Preconditions" "SIOOBE_FORMATTER" "Ljava/util/function/BiFunction;", .methodLink ST 1059 JC.PreCheck.yN, .static JC.PreCheck.yN, .code JC.PreCheck.yN JC.PreCheck.yB 3 (some .int), .initialized "jdk/internal/util/Preconditions"]
theorem tabChN_of {a : Array Value} {s : State} (h : ∀ w ∈ wordsChN, w.before a s = true) : ChN.tab.before a s = true := by
  have hp : JC.PreCheck.tab.before a s = true := unparts (wk h (.code JC.PreCheck.yN JC.PreCheck.yB 3 (some .int))) (wks h (.initialized JC.PreCheck.yN.cls :: JC.PreCheck.site))
  have qk := consq hp h
  have hk : JO.Str_checkIndex.tab.before a s = true := unparts (wk qk (.code JO.Str_checkIndex.yN JO.Str_checkIndex.yB 2 none)) (wks qk (.initialized JO.Str_checkIndex.yN.cls :: JO.Str_checkIndex.site))
  have ql := consq hk h
  have hl : LChA.tab.before a s = true := unparts (wk ql (.code LChA.yN LChA.yB 2 (some .char))) (wks ql (.initialized LChA.yN.cls :: LChA.site))
  have hi : IsL.tab.before a s = true := unparts (wk h (.code IsL.yN IsL.yB 1 (some .boolean))) (wks h (.initialized IsL.yN.cls :: IsL.site))
  have q := consq hi (consq hl h)
  exact unparts (wk q (.code ChN.yN ChN.yB 2 (some .char))) (wks q (.initialized ChN.yN.cls :: ChN.site))
theorem movedChN {Z s : State} {a0 args : Array Value} (hZ : Z.Warmed39 s.vm) (hw : ∀ d ∈ wordsChN, d.before a0 Z = true) : ∀ d ∈ wordsChN, d.before args s = true := fun d hd => by
  have t : ∀ d ∈ wordsChN, (d.onTables && d.keepsFace) = true := by decide +kernel
  exact RoadKit.mv hZ (hw d hd) (t d hd)
/-- **charAt(i) OF A LATIN-1 STRING**, i < n: the char -/
theorem chN {p : Program} {l : Launch} {e : Env} {R : Room} {s : State} {args : Array Value} {below : List Frame} {len W : Nat} {Z : State} {a0 : Array Value} {h : Heap} (hZ : Z.Warmed39 s.vm) (hw : ∀ d ∈ wordsChN, d.before a0 Z = true) {kI : Nat} (wi : (Jvm.Cond.instantiable ST kI).before a0 Z = true)
    {x t : Addr} {kb : ClassId} {cs : List Int32} {N2 z : Int32} {vs : List Value} {fm : Value} {i : Nat} {j : Int32} (E : RoadKit.Exa Z h x ST) (V : RoadKit.Fld Z h x ST "value" "[B" (.ref t)) (C : RoadKit.Fld Z h x ST "coder" "B" (.int 0)) (K : RoadKit.Arv Z h t kb .byte N2 vs (.int 0)) (hc : CodA cs 0 N2 vs) (hb : ∀ c ∈ cs, ¬ c < 0 ∧ ¬ (65535 : Int32) < c)
    (S : RoadKit.Sta Z h ST "COMPACT_STRINGS" "Z" (.int z)) (hz : ¬ z = 0) (F : RoadKit.Sta Z h "jdk/internal/util/Preconditions" "SIOOBE_FORMATTER" "Ljava/util/function/BiFunction;" fm) (rf : fm.isRef = true) (l2 : cs.length ≤ 4000) (hi : i < cs.length) (hj : j = Int32.ofNat i) (hfr : 4 ≤ R.frames) (hlo : W + 53 ≤ R.locals) :
    Back l R p e below s args (⟨"java/lang/String", "charAt", "(I)C"⟩ : MethodName) len W (fun P a => a = #[.ref x, .int j] ∧ P.U.heap = h ∧ P.cells + 0 ≤ R.cells ∧ P.slots + 0 ≤ R.slots)
      (fun P _ v B => ∃ L, (v = some (.int (cs.getD i 0)) ∧ L = [] ∧ B.U.heap = h) ∧ B.locs = P.locs ++ L ∧ B.cells = P.cells + 0 ∧ B.slots = P.slots + 0) := by
  subst hj
  intro m meth c P g ig mk a X hg hsize hdg hW hn hp'
  obtain ⟨rfl, rfl, r1, r2⟩ := hp'
  have al : Z.vm.Alike P.U.vm := hZ.alike.trans X.warmed.alike
  obtain ⟨A, hx⟩ := txt_of wi al E V C K hc hb l2
  obtain ⟨v, B, X', ⟨⟨hv, hh⟩, hl, hk, hs⟩, st⟩ := ChN.pays x t A cs.length (fun j => cs.getD j 0) z fm i (tabChN_of (movedChN hZ hw)) hfr hlo m meth c P g ig mk _ X hg hsize hdg hW hn ⟨r1, r2, rfl, hx, hi, sta_is al S, hz, sta_is al F, rf⟩
  exact ⟨v, B, X', ⟨[], ⟨hv, rfl, hh⟩, hl, hk, hs⟩, st⟩
/-- what backV says of its String, as the contracts of this text ask it: cs's low bytes, coder 0 -/
theorem codOf {cs : List Int32} {n : Nat} (hn : cs.length = n) (hb : ∀ c ∈ cs, ¬ 255 < c) : CodA cs 0 (Int32.ofNat n) ((cs.map lo8).map Value.int) := Or.inl ⟨rfl, by rw [hn], by simp [List.map_map, Function.comp_def], hb⟩
end StrChars.Road
end Jvm.Pilot.@@N@@
namespace Jvm.Pilot.@@N@@
open Jvm Jvm.ClassFile Sem Op Lib Jvm.Free Jvm.Stand Jvm.LawKit Jvm.RoadKit Bundle Jvm.Pilot.@@N@@.Jvm.D Jvm.OwnKit
section OwnStr
variable {p : Program} {l : Launch} {e : Env} {R : Room} {s : State} {args : Array Value} {below : List Frame} {Z : State} {a0 : Array Value} {EL : List (String × Nat)} {vm : Vm} {h : Heap} {len W : Nat}
theorem own_up {cs : List Int32} (h : ∀ c ∈ cs, B8 c) : ∀ c ∈ cs, ¬ c < 0 ∧ ¬ (65535 : Int32) < c := fun c hc => ⟨(h c hc).1, fun q => (h c hc).2 (by rw [Int32.lt_iff_toInt_lt] at q ⊢; have e1 : (65535 : Int32).toInt = 65535 := rfl; have e2 : (255 : Int32).toInt = 255 := rfl; omega)⟩
theorem own_payNew {zc : Int32} (hws : ∀ d ∈ StrChars.Road.words, d.before a0 Z = true) (wi : (Jvm.Cond.instantiable "java/lang/String" 4).before a0 Z = true) (Scs : Sta Z Z.heap "java/lang/String" "COMPACT_STRINGS" "Z" (.int zc)) (hzc : ¬ zc = 0) (O : Ext Z.heap h)
    {x b : Addr} {kC : ClassId} {cs : List Int32} {d v0 c0 : Value} {N : Int32} {n : Nat} (gx0 : Z.heap.size ≤ x) (E : Exa Z h x "java/lang/String") (V : Fld Z h x "java/lang/String" "value" "[B" v0) (C : Fld Z h x "java/lang/String" "coder" "B" c0) (K : Arv Z h b kC .char N (cs.map Value.int) d)
    (hn : cs.length = n) (hN : N = Int32.ofNat n) (l0 : 0 < n) (l2 : n ≤ 4000) (hp : ∀ c ∈ cs, B8 c) (Sf : Safe Z EL vm h x) (hfr : 4 ≤ R.frames) (hlo : W + 65 ≤ R.locals) (hZ : Z.Warmed39 vm) (H : CHv Z EL vm h) (hEL : EW Z a0 EL) :
    Pay l R p e below s args Z EL vm h (⟨"java/lang/String", "<init>", "([C)V"⟩ : MethodName) len W #[.ref x, .ref b] 1 n (fun v _ h' => ∃ (t : Addr), v = none ∧ Keep h h' [x] ∧ h.size ≤ t ∧ Str Z h' x t cs) := by
  have hx : x < h.size := E.lt
  refine Pay.of_back (a0 := a0) (Q0 := StrChars.Road.QV Z x N (cs.map fun c => c.toInt8.toInt32) h Z.heap.size) (StrChars.Road.backV (s := s.setVm vm) hZ hws (kI := 4) wi (cs := cs) (bs := cs.map fun c => c.toInt8.toInt32) (n := n) gx0 O.1 E V C K (Scs.ext O) hzc hn hN l0 l2 hp rfl hfr hlo) hZ H hEL ?_
  rintro v h' L ⟨rfl, q1, q2, q3, q4, t, kb, q5, q6, q7, q8, q9⟩
  exact ⟨q1, ⟨[x], q2, allS Sf all0⟩, fun vm' _ => ⟨t, rfl, q2, q6, q3, q4, q8, ⟨kb, by rw [hn, ← hN]; exact q9⟩, hp, by rw [hn]; exact l2⟩⟩
theorem own_payLen {zc : Int32} (hws : ∀ d ∈ StrChars.Road.wordsLen, d.before a0 Z = true) (wi : (Jvm.Cond.instantiable "java/lang/String" 4).before a0 Z = true) (Scs : Sta Z Z.heap "java/lang/String" "COMPACT_STRINGS" "Z" (.int zc)) (hzc : ¬ zc = 0) (O : Ext Z.heap h)
    {x t : Addr} {cs : List Int32} {N : Int32} (F : Str Z h x t cs) (hN : Int32.ofNat cs.length = N) (hfr : 2 ≤ R.frames) (hlo : W + 25 ≤ R.locals) (hZ : Z.Warmed39 vm) (H : CHv Z EL vm h) (hEL : EW Z a0 EL) :
    Pay l R p e below s args Z EL vm h (⟨"java/lang/String", "length", "()I"⟩ : MethodName) len W #[.ref x] 0 0 (fun v _ h' => v = some (.int N) ∧ h = h') := by
  obtain ⟨f1, f2, f3, ⟨kb, f4⟩, f5, f6⟩ := F
  refine Pay.of_back (a0 := a0) (Q0 := fun v h' L => v = some (.int (Int32.ofNat cs.length)) ∧ L = [] ∧ h' = h) (StrChars.Road.lenW (s := s.setVm vm) hZ hws (kI := 4) wi (cs := cs) f1 f3 f2 f4 (StrChars.Road.codOf (n := cs.length) rfl (fun c hc => (f5 c hc).2)) (own_up f5) (Scs.ext O) hzc f6 hfr hlo) hZ H hEL ?_
  rintro v h' L ⟨rfl, rfl, rfl⟩
  exact ⟨Fr.nil _, ⟨[], Keep.refl _ _, all0⟩, fun _ _ => ⟨by rw [hN], rfl⟩⟩
theorem own_payChN {zc : Int32} {fm : Value} (hws : ∀ d ∈ StrChars.Road.wordsChN, d.before a0 Z = true) (wi : (Jvm.Cond.instantiable "java/lang/String" 4).before a0 Z = true) (Scs : Sta Z Z.heap "java/lang/String" "COMPACT_STRINGS" "Z" (.int zc)) (hzc : ¬ zc = 0) (Sfm : Sta Z Z.heap "jdk/internal/util/Preconditions" "SIOOBE_FORMATTER" "Ljava/util/function/BiFunction;" fm) (hfm : fm.isRef = true) (O : Ext Z.heap h)
    {x t : Addr} {cs : List Int32} {i : Nat} {j y : Int32} (F : Str Z h x t cs) (hi : i < cs.length) (hj : j = Int32.ofNat i) (hy : cs.getD i 0 = y) (hfr : 4 ≤ R.frames) (hlo : W + 53 ≤ R.locals) (hZ : Z.Warmed39 vm) (H : CHv Z EL vm h) (hEL : EW Z a0 EL) :
    Pay l R p e below s args Z EL vm h (⟨"java/lang/String", "charAt", "(I)C"⟩ : MethodName) len W #[.ref x, .int j] 0 0 (fun v _ h' => v = some (.int y) ∧ h = h') := by
  obtain ⟨f1, f2, f3, ⟨kb, f4⟩, f5, f6⟩ := F
  refine Pay.of_back (a0 := a0) (Q0 := fun v h' L => v = some (.int (cs.getD i 0)) ∧ L = [] ∧ h' = h) (StrChars.Road.chN (s := s.setVm vm) hZ hws (kI := 4) wi (cs := cs) f1 f3 f2 f4 (StrChars.Road.codOf (n := cs.length) rfl (fun c hc => (f5 c hc).2)) (own_up f5) (Scs.ext O) hzc (Sfm.ext O) hfm f6 hi hj hfr hlo) hZ H hEL ?_
  rintro v h' L ⟨rfl, rfl, rfl⟩
  exact ⟨Fr.nil _, ⟨[], Keep.refl _ _, all0⟩, fun _ _ => ⟨by rw [hy], rfl⟩⟩
end OwnStr
end Jvm.Pilot.@@N@@
namespace Jvm.Pilot.@@N@@
open Jvm Jvm.ClassFile Sem Op Lib Jvm.Free Jvm.Stand Jvm.LawKit Jvm.RoadKit Bundle Jvm.Pilot.@@N@@.Jvm.D Jvm.OwnKit
def Ctx (Z : State) (a0 : Array Value) : Prop := (∀ d ∈ tables_1, d.before a0 Z = true) ∧ EW Z a0 consts_1 ∧ (∃ zc : Int32, Sta Z Z.heap "java/lang/String" "COMPACT_STRINGS" "Z" (.int zc) ∧ ¬ zc = 0) ∧ (∃ fm : Value, Sta Z Z.heap "jdk/internal/util/Preconditions" "SIOOBE_FORMATTER" "Ljava/util/function/BiFunction;" fm ∧ fm.isRef = true) ∧ (∃ fe ft tt : Addr, Sta Z Z.heap "com/example/limentinus/limentinus/core/KeyLayout$Suffix" "FENCE" "Lcom/example/limentinus/limentinus/core/KeyLayout$Suffix;" (.ref fe) ∧ Exa Z Z.heap fe "com/example/limentinus/limentinus/core/KeyLayout$Suffix" ∧ Fld Z Z.heap fe "com/example/limentinus/limentinus/core/KeyLayout$Suffix" "text" "Ljava/lang/String;" (.ref ft) ∧ Str Z Z.heap ft tt [(58 : Int32), (102 : Int32), (101 : Int32), (110 : Int32), (99 : Int32), (101 : Int32)])
theorem own_SA {Z : State} {a0 : Array Value} (hw : ∀ d ∈ tables_1, d.before a0 Z = true) : ∀ a ∈ Bundle.stringAtoms, a.before a0 Z = true := fun d hd => hw d ((by decide +kernel : ∀ d ∈ Bundle.stringAtoms, d ∈ tables_1) d hd)
theorem own_wNew {Z : State} {a0 : Array Value} (hw : ∀ d ∈ tables_1, d.before a0 Z = true) : ∀ d ∈ StrChars.Road.words, d.before a0 Z = true := fun d hd => hw d ((by decide +kernel : ∀ d ∈ StrChars.Road.words, d ∈ tables_1) d hd)
theorem own_wLen {Z : State} {a0 : Array Value} (hw : ∀ d ∈ tables_1, d.before a0 Z = true) : ∀ d ∈ StrChars.Road.wordsLen, d.before a0 Z = true := fun d hd => hw d ((by decide +kernel : ∀ d ∈ StrChars.Road.wordsLen, d ∈ tables_1) d hd)
theorem own_wChN {Z : State} {a0 : Array Value} (hw : ∀ d ∈ tables_1, d.before a0 Z = true) : ∀ d ∈ StrChars.Road.wordsChN, d.before a0 Z = true := fun d hd => hw d ((by decide +kernel : ∀ d ∈ StrChars.Road.wordsChN, d ∈ tables_1) d hd)
theorem own_d_jdk_42_method_149_0 : decode jdk_42_method_149_code 0 = .ok (.aload_n 0, 1) := by decide +kernel
theorem own_d_jdk_42_method_149_1 : decode jdk_42_method_149_code 1 = .ok (.invokespecial 1, 3) := by decide +kernel
theorem own_d_jdk_42_method_149_4 : decode jdk_42_method_149_code 4 = .ok (.iload_n 3, 1) := by decide +kernel
theorem own_d_jdk_42_method_149_5 : decode jdk_42_method_149_code 5 = .ok (.ifCond .ne 22, 3) := by decide +kernel
theorem own_d_jdk_42_method_149_8 : decode jdk_42_method_149_code 8 = .ok (.aload_n 0, 1) := by decide +kernel
theorem own_d_jdk_42_method_149_9 : decode jdk_42_method_149_code 9 = .ok (.ldc 7, 2) := by decide +kernel
theorem own_d_jdk_42_method_149_11 : decode jdk_42_method_149_code 11 = .ok (.getfield 9, 3) := by decide +kernel
theorem own_d_jdk_42_method_149_14 : decode jdk_42_method_149_code 14 = .ok (.putfield 9, 3) := by decide +kernel
theorem own_d_jdk_42_method_149_17 : decode jdk_42_method_149_code 17 = .ok (.aload_n 0, 1) := by decide +kernel
theorem own_d_jdk_42_method_149_18 : decode jdk_42_method_149_code 18 = .ok (.ldc 7, 2) := by decide +kernel
theorem own_d_jdk_42_method_149_20 : decode jdk_42_method_149_code 20 = .ok (.getfield 15, 3) := by decide +kernel
theorem own_d_jdk_42_method_149_23 : decode jdk_42_method_149_code 23 = .ok (.putfield 15, 3) := by decide +kernel
theorem own_d_jdk_42_method_149_26 : decode jdk_42_method_149_code 26 = .ok (.return_, 1) := by decide +kernel
theorem own_pn13 : plainName "java/lang/String" = true := by first | (simp [plainName, overriddenIn]; done) | decide +kernel
set_option maxRecDepth 65536 in
set_option maxHeartbeats 40000000 in
theorem own_emp4 (l : Launch) (Z : State) (a0 : Array Value) (cx : Ctx Z a0) (ws : List Jvm.Cond) (x : Addr) (b : Addr) (v0 : Value) (c0 : Value) (vm0 : Vm) (h0 : Heap) (X00 : Ext Z.heap h0) (P0 : Exa Z h0 x "java/lang/String") (P1 : Fld Z h0 x "java/lang/String" "value" "[B" v0) (P2 : Fld Z h0 x "java/lang/String" "coder" "B" c0) (P3 : Z.heap.size ≤ x) (P4 : Safe Z consts_1 vm0 h0 x) :
    Met l (⟨"java/lang/String", "<init>", "([CIILjava/lang/Void;)V"⟩ : MethodName) jdk_42_method_149_code 6 none ws ({ frames := 1, cells := 4, slots := 8, locals := 12 } : Room) Z consts_1 vm0 h0 #[(.ref x), (.ref b), (.int (0 : Int32)), (.int (0 : Int32)), .null] (fun rv vm h => ∃ (t : Addr), rv = none ∧ Keep h0 h [x] ∧ Str Z h x t ([] : List Int32) ∧ Safe Z consts_1 vm h x) := by
  obtain ⟨hw, hEL, ⟨zc, Scs, hzc⟩, ⟨fm, Sfm, hfm⟩, ⟨fe, ft, tt, Sfe, Efe, Fft, Sft⟩⟩ := id cx
  have hSA := own_SA hw
  refine Met.of_walk (a0 := a0) #[.val (.ref x), .val (.ref b), .val (.int (0 : Int32)), .val (.int (0 : Int32)), .val .null, .unset] (plainFor_of_name own_pn13) X00 hEL (fun m => by first | (simp [entryFrame, mkF, argsToLocals, Value.category]; done) | rfl) ?_
  intro p e s m below meth c vm hx hby hml hret hnm hC0
  have lt_x : h0.size > x := P0.lt
  have L4 := hC0.safe lt_x P4
  refine gs (mkF m 1 #[.val (.ref x), .val (.ref b), .val (.int (0 : Int32)), .val (.int (0 : Int32)), .val .null, .unset] [(.ref x)]) (fun _ _ A kq => XS.aloadN A hx rfl (hb hby own_d_jdk_42_method_149_0) rfl rfl kq) ?_
  refine ginitO hx (ow hw 18 rfl) (ow hw 19 rfl) (ow hw 20 rfl) 4 (W := 0) (Nat.le_of_eq rfl) (by rw [hml]; rfl) (hb hby own_d_jdk_42_method_149_1) rfl (by decide) (by decide) ?_
  refine gs (mkF m 5 #[.val (.ref x), .val (.ref b), .val (.int (0 : Int32)), .val (.int (0 : Int32)), .val .null, .unset] [(.int (0 : Int32))]) (fun _ _ A kq => XS.iloadN A hx rfl (hb hby own_d_jdk_42_method_149_4) rfl  kq) ?_
  refine gs (mkF m 8 #[.val (.ref x), .val (.ref b), .val (.int (0 : Int32)), .val (.int (0 : Int32)), .val .null, .unset] []) (fun _ _ A kq => XS.ifNo A hx rfl (hb hby own_d_jdk_42_method_149_5) rfl ((if0 _ _).trans (teq (by decide)).2) kq) ?_
  refine gs (mkF m 9 #[.val (.ref x), .val (.ref b), .val (.int (0 : Int32)), .val (.int (0 : Int32)), .val .null, .unset] [(.ref x)]) (fun _ _ A kq => XS.aloadN A hx rfl (hb hby own_d_jdk_42_method_149_8) rfl rfl kq) ?_
  refine gldcR hx (ow hw 37 rfl) hSA (by decide) (n := 0) (by decide) (by decide) (vs := []) (z := (0 : Int32)) (by decide +kernel) (by decide) (by decide) 11 (hb hby own_d_jdk_42_method_149_9) rfl (by decide) (by decide) ?_
  intro b2 t2 k2 vm2 h2 E2 C2 Q2a Q2b Q2c Q2d Q2e
  have z2 := C2.2.1
  have S2 : Str Z h2 b2 t2 ([] : List Int32) := Str.lit Q2a Q2b Q2c Q2d (by decide) rfl rfl (by decide)
  have lt_b2 : h2.size > b2 := S2.1.lt
  have lt_t2 : h2.size > t2 := S2.tlt
  have f3 := (C2.safe (show h0.size > x by omega) L4)
  have ne2_x := Q2e x f3
  refine ggetF (host := "") hx (Or.inl (ow hw 35 rfl)) Via.refl S2.2.2.1 14 (hb hby own_d_jdk_42_method_149_11) rfl ?_
  have f4 := (P1.ext E2)
  have f5 := (P0.ext E2)
  refine gputF (host := "") hx (Or.inl (ow hw 35 rfl)) Via.refl f4 f5 (Or.inr ⟨(ow hw 36 rfl), rfl, hnm⟩) (ow hw 5 rfl) (ty := (.array .byte)) (by decide) rfl rfl P3 (fun _ => f3) 17 (hb hby own_d_jdk_42_method_149_14) rfl ?_
  intro h6 W6 C6
  have z6 := C6.2.1
  have F6 := f4.same W6
  refine gs (mkF m 18 #[.val (.ref x), .val (.ref b), .val (.int (0 : Int32)), .val (.int (0 : Int32)), .val .null, .unset] [(.ref x)]) (fun _ _ A kq => XS.aloadN A hx rfl (hb hby own_d_jdk_42_method_149_17) rfl rfl kq) ?_
  refine gldcR hx (ow hw 37 rfl) hSA (by decide) (n := 0) (by decide) (by decide) (vs := []) (z := (0 : Int32)) (by decide +kernel) (by decide) (by decide) 20 (hb hby own_d_jdk_42_method_149_18) rfl (by decide) (by decide) ?_
  intro b7 t7 k7 vm7 h7 E7 C7 Q7a Q7b Q7c Q7d Q7e
  have z7 := C7.2.1
  have S7 : Str Z h7 b7 t7 ([] : List Int32) := Str.lit Q7a Q7b Q7c Q7d (by decide) rfl rfl (by decide)
  have lt_b7 : h7.size > b7 := S7.1.lt
  have lt_t7 : h7.size > t7 := S7.tlt
  have f8 := (C7.safe (show h6.size > x by omega) (C6.safe (show h2.size > x by omega) f3))
  have ne7_x := Q7e x f8
  refine ggetF (host := "") hx (Or.inl (ow hw 33 rfl)) Via.refl S7.2.1 23 (hb hby own_d_jdk_42_method_149_20) rfl ?_
  have f9 := (((P2.ext E2).other W6 (Or.inr (slot_ne (Or.inr (ow hw 34 rfl)) (Or.inr (ow hw 36 rfl)) (by decide) (t := .byte) (t' := (.array .byte)) (by decide) (by decide)))).ext E7)
  have f10 := ((f5.wr W6).ext E7)
  refine gputF (host := "") hx (Or.inl (ow hw 33 rfl)) Via.refl f9 f10 (Or.inr ⟨(ow hw 34 rfl), rfl, hnm⟩) (ow hw 5 rfl) (ty := .byte) (by decide) rfl rfl P3 (fun _ => f8) 26 (hb hby own_d_jdk_42_method_149_23) rfl ?_
  intro h11 W11 C11
  have z11 := C11.2.1
  have F11 := f9.same W11
  have f13 := (((S2.other W6 (Ne.symm ne2_x.1) (Ne.symm ne2_x.2)).ext E7).other W11 (Ne.symm ne2_x.1) (Ne.symm ne2_x.2))
  have f15 := (f10.wr W11)
  have f16 := ((F6.ext E7).other W11 (Or.inr (slot_ne (Or.inr (ow hw 36 rfl)) (Or.inr (ow hw 34 rfl)) (by decide) (t := (.array .byte)) (t' := .byte) (by decide) (by decide))))
  have S14 : Str Z h11 x t2 ([] : List Int32) := ⟨f15, F11, f16, f13.2.2.2⟩
  have f17 := (C11.safe (show h7.size > x by omega) f8)
  exact gretV hx hret (hb hby own_d_jdk_42_method_149_26) (by decide) (by decide) (fun vq Cq => ⟨t2, rfl, (((((Keep.refl h0 [x]).ext E2).wr W6 (Or.inl (List.mem_of_getElem? (i := 0) rfl))).ext E7).wr W11 (Or.inl (List.mem_of_getElem? (i := 0) rfl))), S14, (Cq.safe (show h11.size > x by omega) f17)⟩)
theorem own_d_jdk_42_method_3_0 : decode jdk_42_method_3_code 0 = .ok (.aload_n 0, 1) := by decide +kernel
theorem own_d_jdk_42_method_3_1 : decode jdk_42_method_3_code 1 = .ok (.aload_n 1, 1) := by decide +kernel
theorem own_d_jdk_42_method_3_2 : decode jdk_42_method_3_code 2 = .ok (.iconst 0, 1) := by decide +kernel
theorem own_d_jdk_42_method_3_3 : decode jdk_42_method_3_code 3 = .ok (.aload_n 1, 1) := by decide +kernel
theorem own_d_jdk_42_method_3_4 : decode jdk_42_method_3_code 4 = .ok (.arraylength, 1) := by decide +kernel
theorem own_d_jdk_42_method_3_5 : decode jdk_42_method_3_code 5 = .ok (.aconst_null, 1) := by decide +kernel
theorem own_d_jdk_42_method_3_6 : decode jdk_42_method_3_code 6 = .ok (.invokespecial 27, 3) := by decide +kernel
theorem own_pd21 : parseMethodDescriptor "([CIILjava/lang/Void;)V" = some ⟨[(.array .char), .int, .int, (.object "java/lang/Void")], none⟩ := by decide +kernel
theorem own_d_jdk_42_method_3_9 : decode jdk_42_method_3_code 9 = .ok (.return_, 1) := by decide +kernel
set_option maxRecDepth 65536 in
set_option maxHeartbeats 40000000 in
theorem own_emp1 (l : Launch) (Z : State) (a0 : Array Value) (cx : Ctx Z a0) (ws : List Jvm.Cond) (x : Addr) (b : Addr) (v0 : Value) (c0 : Value) (kc : ClassId) (vm0 : Vm) (h0 : Heap) (X00 : Ext Z.heap h0) (P0 : Exa Z h0 x "java/lang/String") (P1 : Fld Z h0 x "java/lang/String" "value" "[B" v0) (P2 : Fld Z h0 x "java/lang/String" "coder" "B" c0) (P3 : Z.heap.size ≤ x) (P4 : Safe Z consts_1 vm0 h0 x) (P5 : Arv Z h0 b kc .char (0 : Int32) [] (.int (0 : Int32))) :
    Met l (⟨"java/lang/String", "<init>", "([C)V"⟩ : MethodName) jdk_42_method_3_code 2 none ws ({ frames := 2, cells := 4, slots := 8, locals := 29 } : Room) Z consts_1 vm0 h0 #[(.ref x), (.ref b)] (fun rv vm h => ∃ (t : Addr), rv = none ∧ Keep h0 h [x] ∧ Str Z h x t ([] : List Int32) ∧ Safe Z consts_1 vm h x) := by
  obtain ⟨hw, hEL, ⟨zc, Scs, hzc⟩, ⟨fm, Sfm, hfm⟩, ⟨fe, ft, tt, Sfe, Efe, Fft, Sft⟩⟩ := id cx
  have hSA := own_SA hw
  refine Met.of_walk (a0 := a0) #[.val (.ref x), .val (.ref b)] (plainFor_of_name own_pn13) X00 hEL (fun m => by first | (simp [entryFrame, mkF, argsToLocals, Value.category]; done) | rfl) ?_
  intro p e s m below meth c vm hx hby hml hret hnm hC0
  have lt_x : h0.size > x := P0.lt
  have L4 := hC0.safe lt_x P4
  have lt_b : h0.size > b := P5.lt
  refine gs (mkF m 1 #[.val (.ref x), .val (.ref b)] [(.ref x)]) (fun _ _ A kq => XS.aloadN A hx rfl (hb hby own_d_jdk_42_method_3_0) rfl rfl kq) ?_
  refine gs (mkF m 2 #[.val (.ref x), .val (.ref b)] [(.ref b), (.ref x)]) (fun _ _ A kq => XS.aloadN A hx rfl (hb hby own_d_jdk_42_method_3_1) rfl rfl kq) ?_
  refine gs (mkF m 3 #[.val (.ref x), .val (.ref b)] [(.int (0 : Int32)), (.ref b), (.ref x)]) (fun _ _ A kq => XS.iconst A hx rfl (hb hby own_d_jdk_42_method_3_2) kq) ?_
  refine gs (mkF m 4 #[.val (.ref x), .val (.ref b)] [(.ref b), (.int (0 : Int32)), (.ref b), (.ref x)]) (fun _ _ A kq => XS.aloadN A hx rfl (hb hby own_d_jdk_42_method_3_3) rfl rfl kq) ?_
  refine glen hx P5 5 (hb hby own_d_jdk_42_method_3_4) rfl ?_
  refine gs (mkF m 6 #[.val (.ref x), .val (.ref b)] [.null, (.int (0 : Int32)), (.int (0 : Int32)), (.ref b), (.ref x)]) (fun _ _ A kq => XS.aconstNull A hx rfl (hb hby own_d_jdk_42_method_3_5) kq) ?_
  refine ginfo fun _ _ O1 => ?_
  refine gcallI (y := (⟨"java/lang/String", "<init>", "([CIILjava/lang/Void;)V"⟩ : MethodName)) hx rfl (ow hw 14 rfl) (ow hw 15 rfl) (ow hw 17 rfl) (by decide) (fun hZ H hEL => Pay.of_met (W := 0) (own_emp4 l Z a0 cx [] (x) (b) (v0) (c0) vm h0 O1 P0 P1 P2 P3 L4) (ow hw 17 rfl) (ow hw 6 rfl) (by decide) (by decide) hZ H hEL) (a := x) 9 (argsL := [(.ref b), (.int (0 : Int32)), (.int (0 : Int32)), .null]) (rest := []) (lenOf own_pd21 rfl) rfl rfl (Nat.le_of_eq rfl) (by rw [hml]; rfl) (hb hby own_d_jdk_42_method_3_6) rfl (by decide) (by decide) ?_
  rintro _ vm1 h1 C1 ⟨t1, rfl, K1, q1_0, q1_1⟩
  have z1 := C1.2.1
  have lt_t1 : h1.size > t1 := q1_0.tlt
  refine gat (mkF m 9 #[.val (.ref x), .val (.ref b)] []) rfl ?_
  exact gretV hx hret (hb hby own_d_jdk_42_method_3_9) (by decide) (by decide) (fun vq Cq => ⟨t1, rfl, ((Keep.refl h0 [x]).trans K1 (allS (Or.inl (List.mem_of_getElem? (i := 0) rfl)) all0)), q1_0, (Cq.safe (show h1.size > x by omega) q1_1)⟩)
theorem own_d_jdk_31_method_11_0 : decode jdk_31_method_11_code 0 = .ok (.aload_n 0, 1) := by decide +kernel
theorem own_d_jdk_31_method_11_1 : decode jdk_31_method_11_code 1 = .ok (.ifnonnull 12, 3) := by decide +kernel
theorem own_d_jdk_31_method_11_13 : decode jdk_31_method_11_code 13 = .ok (.aload_n 0, 1) := by decide +kernel
theorem own_d_jdk_31_method_11_14 : decode jdk_31_method_11_code 14 = .ok (.areturn, 1) := by decide +kernel
theorem own_pn27 : plainName "java/util/Objects" = true := by first | (simp [plainName, overriddenIn]; done) | decide +kernel
set_option maxRecDepth 65536 in
set_option maxHeartbeats 40000000 in
theorem own_require2 (l : Launch) (Z : State) (a0 : Array Value) (cx : Ctx Z a0) (ws : List Jvm.Cond) (x : Addr) (b : Addr) (vm0 : Vm) (h0 : Heap) (X00 : Ext Z.heap h0)  :
    Met l (⟨"java/util/Objects", "requireNonNull", "(Ljava/lang/Object;Ljava/lang/String;)Ljava/lang/Object;"⟩ : MethodName) jdk_31_method_11_code 2 (some (.object "java/lang/Object")) ws ({ frames := 0, cells := 0, slots := 0, locals := 0 } : Room) Z consts_1 vm0 h0 #[(.ref x), (.ref b)] (fun rv vm h => rv = some (.ref x) ∧ h0 = h) := by
  obtain ⟨hw, hEL, ⟨zc, Scs, hzc⟩, ⟨fm, Sfm, hfm⟩, ⟨fe, ft, tt, Sfe, Efe, Fft, Sft⟩⟩ := id cx
  have hSA := own_SA hw
  refine Met.of_walk (a0 := a0) #[.val (.ref x), .val (.ref b)] (plainFor_of_name own_pn27) X00 hEL (fun m => by first | (simp [entryFrame, mkF, argsToLocals, Value.category]; done) | rfl) ?_
  intro p e s m below meth c vm hx hby hml hret hnm hC0
  refine gs (mkF m 1 #[.val (.ref x), .val (.ref b)] [(.ref x)]) (fun _ _ A kq => XS.aloadN A hx rfl (hb hby own_d_jdk_31_method_11_0) rfl rfl kq) ?_
  refine gs (mkF m 13 #[.val (.ref x), .val (.ref b)] []) (fun _ _ A kq => XS.ifnonnullYes A hx rfl (pc0 := 1) (pc' := 13) rfl (hb hby own_d_jdk_31_method_11_1) rfl (by decide) (by decide) kq) ?_
  refine gs (mkF m 14 #[.val (.ref x), .val (.ref b)] [(.ref x)]) (fun _ _ A kq => XS.aloadN A hx rfl (hb hby own_d_jdk_31_method_11_13) rfl rfl kq) ?_
  exact gretA hx hret rfl rfl (hb hby own_d_jdk_31_method_11_14) (by decide) (by decide) (fun vq Cq => ⟨rfl, rfl⟩)
theorem own_d_jdk_43_method_3_0 : decode jdk_43_method_3_code 0 = .ok (.iload_n 0, 1) := by decide +kernel
theorem own_d_jdk_43_method_3_1 : decode jdk_43_method_3_code 1 = .ok (.sipush 255, 3) := by decide +kernel
theorem own_d_jdk_43_method_3_4 : decode jdk_43_method_3_code 4 = .ok (.if_icmp .gt 7, 3) := by decide +kernel
theorem own_d_jdk_43_method_3_7 : decode jdk_43_method_3_code 7 = .ok (.iconst 1, 1) := by decide +kernel
theorem own_d_jdk_43_method_3_8 : decode jdk_43_method_3_code 8 = .ok (.goto 4, 3) := by decide +kernel
theorem own_d_jdk_43_method_3_12 : decode jdk_43_method_3_code 12 = .ok (.ireturn, 1) := by decide +kernel
theorem own_pn34 : plainName "java/lang/StringLatin1" = true := by first | (simp [plainName, overriddenIn]; done) | decide +kernel
set_option maxRecDepth 65536 in
set_option maxHeartbeats 40000000 in
theorem own_canEncode (l : Launch) (Z : State) (a0 : Array Value) (cx : Ctx Z a0) (ws : List Jvm.Cond) (ch : Int32) (vm0 : Vm) (h0 : Heap) (X00 : Ext Z.heap h0) (P0 : (¬ (255 : Int32) < ch)) :
    Met l (⟨"java/lang/StringLatin1", "canEncode", "(C)Z"⟩ : MethodName) jdk_43_method_3_code 1 (some .boolean) ws ({ frames := 0, cells := 0, slots := 0, locals := 0 } : Room) Z consts_1 vm0 h0 #[(.int ch)] (fun rv vm h => rv = some (.int (1 : Int32)) ∧ h0 = h) := by
  obtain ⟨hw, hEL, ⟨zc, Scs, hzc⟩, ⟨fm, Sfm, hfm⟩, ⟨fe, ft, tt, Sfe, Efe, Fft, Sft⟩⟩ := id cx
  have hSA := own_SA hw
  refine Met.of_walk (a0 := a0) #[.val (.int ch)] (plainFor_of_name own_pn34) X00 hEL (fun m => by first | (simp [entryFrame, mkF, argsToLocals, Value.category]; done) | rfl) ?_
  intro p e s m below meth c vm hx hby hml hret hnm hC0
  refine gs (mkF m 1 #[.val (.int ch)] [(.int ch)]) (fun _ _ A kq => XS.iloadN A hx rfl (hb hby own_d_jdk_43_method_3_0) rfl  kq) ?_
  refine gs (mkF m 4 #[.val (.int ch)] [(.int (255 : Int32)), (.int ch)]) (fun _ _ A kq => XS.sipush A hx rfl (hb hby own_d_jdk_43_method_3_1) kq) ?_
  refine gs (mkF m 7 #[.val (.int ch)] []) (fun _ _ A kq => XS.icmpNo A hx rfl (hb hby own_d_jdk_43_method_3_4) rfl (flt P0).2.2.1 kq) ?_
  refine gs (mkF m 8 #[.val (.int ch)] [(.int (1 : Int32))]) (fun _ _ A kq => XS.iconst A hx rfl (hb hby own_d_jdk_43_method_3_7) kq) ?_
  refine gs (mkF m 12 #[.val (.int ch)] [(.int (1 : Int32))]) (fun _ _ A kq => XS.goto A hx rfl (pc0 := 8) (pc' := 12) rfl (hb hby own_d_jdk_43_method_3_8) (by decide) (by decide) kq) ?_
  exact gretN (t := .boolean) hx hret (by simp) (hb hby own_d_jdk_43_method_3_12) (by decide) (by decide) (fun vq Cq => ⟨rfl, rfl⟩)
theorem own_d_jdk_43_method_46_0 : decode jdk_43_method_46_code 0 = .ok (.iconst 1, 1) := by decide +kernel
theorem own_d_jdk_43_method_46_1 : decode jdk_43_method_46_code 1 = .ok (.newarray .byte, 2) := by decide +kernel
theorem own_d_jdk_43_method_46_3 : decode jdk_43_method_46_code 3 = .ok (.dup, 1) := by decide +kernel
theorem own_d_jdk_43_method_46_4 : decode jdk_43_method_46_code 4 = .ok (.iconst 0, 1) := by decide +kernel
theorem own_d_jdk_43_method_46_5 : decode jdk_43_method_46_code 5 = .ok (.iload_n 0, 1) := by decide +kernel
theorem own_d_jdk_43_method_46_6 : decode jdk_43_method_46_code 6 = .ok (.i2b, 1) := by decide +kernel
theorem own_d_jdk_43_method_46_7 : decode jdk_43_method_46_code 7 = .ok (.bastore, 1) := by decide +kernel
theorem own_d_jdk_43_method_46_8 : decode jdk_43_method_46_code 8 = .ok (.areturn, 1) := by decide +kernel
set_option maxRecDepth 65536 in
set_option maxHeartbeats 40000000 in
theorem own_toBytes1 (l : Launch) (Z : State) (a0 : Array Value) (cx : Ctx Z a0) (ws : List Jvm.Cond) (ch : Int32) (vm0 : Vm) (h0 : Heap) (X00 : Ext Z.heap h0)  :
    Met l (⟨"java/lang/StringLatin1", "toBytes", "(C)[B"⟩ : MethodName) jdk_43_method_46_code 1 (some (.array .byte)) ws ({ frames := 0, cells := 1, slots := 1, locals := 0 } : Room) Z consts_1 vm0 h0 #[(.int ch)] (fun rv vm h => ∃ (r : Addr), ∃ (kb : ClassId), rv = some (.ref r) ∧ Keep h0 h [] ∧ h0.size ≤ r ∧ Arv Z h r kb .byte (1 : Int32) [(.int (ch.toInt8.toInt32))] (.int (0 : Int32))) := by
  obtain ⟨hw, hEL, ⟨zc, Scs, hzc⟩, ⟨fm, Sfm, hfm⟩, ⟨fe, ft, tt, Sfe, Efe, Fft, Sft⟩⟩ := id cx
  have hSA := own_SA hw
  refine Met.of_walk (a0 := a0) #[.val (.int ch)] (plainFor_of_name own_pn34) X00 hEL (fun m => by first | (simp [entryFrame, mkF, argsToLocals, Value.category]; done) | rfl) ?_
  intro p e s m below meth c vm hx hby hml hret hnm hC0
  refine gs (mkF m 1 #[.val (.int ch)] [(.int (1 : Int32))]) (fun _ _ A kq => XS.iconst A hx rfl (hb hby own_d_jdk_43_method_46_0) kq) ?_
  refine gnewP hx (ow hw 26 rfl) (n := (1 : Int32)) (by decide) (cap := 1) (by decide) (by decide) 3 (hb hby own_d_jdk_43_method_46_1) rfl (by decide) (by decide) ?_
  intro b1 h1 k1 g1 E1 C1 V1 n1 L1
  have z1 := C1.2.1
  have V1 : Arv Z h1 b1 k1 .byte (1 : Int32) [(.int (0 : Int32))] (.int (0 : Int32)) := V1.pad (pad_rep [] (.int (0 : Int32)) 1)
  have lt_b1 : h1.size > b1 := V1.lt
  refine gs (mkF m 4 #[.val (.int ch)] [(.ref b1), (.ref b1)]) (fun _ _ A kq => XS.dup A hx rfl (hb hby own_d_jdk_43_method_46_3) rfl rfl kq) ?_
  refine gs (mkF m 5 #[.val (.int ch)] [(.int (0 : Int32)), (.ref b1), (.ref b1)]) (fun _ _ A kq => XS.iconst A hx rfl (hb hby own_d_jdk_43_method_46_4) kq) ?_
  refine gs (mkF m 6 #[.val (.int ch)] [(.int ch), (.int (0 : Int32)), (.ref b1), (.ref b1)]) (fun _ _ A kq => XS.iloadN A hx rfl (hb hby own_d_jdk_43_method_46_5) rfl  kq) ?_
  refine gs (mkF m 7 #[.val (.int ch)] [(.int (ch.toInt8.toInt32)), (.int (0 : Int32)), (.ref b1), (.ref b1)]) (fun _ _ A kq => XS.i2b A hx rfl (hb hby own_d_jdk_43_method_46_6) rfl kq) ?_
  refine gstB hx V1 ⟨by decide, by decide⟩ (i := 0) rfl (Nat.le_of_ble_eq_true rfl) (y := (ch.toInt8.toInt32)) (narB _) n1 (fun _ => L1) 8 (hb hby own_d_jdk_43_method_46_7) rfl ?_
  intro h2 W2 C2 V2
  have z2 := C2.2.1
  replace V2 : Arv Z h2 b1 k1 .byte (1 : Int32) [(.int (ch.toInt8.toInt32))] (.int (0 : Int32)) := V2
  exact gretA hx hret rfl rfl (hb hby own_d_jdk_43_method_46_8) (by decide) (by decide) (fun vq Cq => ⟨b1, k1, rfl, (((Keep.refl h0 []).ext E1).wr W2 (Or.inr (by omega))), (by omega), V2⟩)
theorem own_d_jdk_42_method_151_0 : decode jdk_42_method_151_code 0 = .ok (.aload_n 0, 1) := by decide +kernel
theorem own_d_jdk_42_method_151_1 : decode jdk_42_method_151_code 1 = .ok (.invokespecial 1, 3) := by decide +kernel
theorem own_d_jdk_42_method_151_4 : decode jdk_42_method_151_code 4 = .ok (.aload_n 0, 1) := by decide +kernel
theorem own_d_jdk_42_method_151_5 : decode jdk_42_method_151_code 5 = .ok (.aload_n 1, 1) := by decide +kernel
theorem own_d_jdk_42_method_151_6 : decode jdk_42_method_151_code 6 = .ok (.putfield 9, 3) := by decide +kernel
theorem own_d_jdk_42_method_151_9 : decode jdk_42_method_151_code 9 = .ok (.aload_n 0, 1) := by decide +kernel
theorem own_d_jdk_42_method_151_10 : decode jdk_42_method_151_code 10 = .ok (.iload_n 2, 1) := by decide +kernel
theorem own_d_jdk_42_method_151_11 : decode jdk_42_method_151_code 11 = .ok (.putfield 15, 3) := by decide +kernel
theorem own_d_jdk_42_method_151_14 : decode jdk_42_method_151_code 14 = .ok (.return_, 1) := by decide +kernel
set_option maxRecDepth 65536 in
set_option maxHeartbeats 40000000 in
theorem own_initBB (l : Launch) (Z : State) (a0 : Array Value) (cx : Ctx Z a0) (ws : List Jvm.Cond) (x : Addr) (b : Addr) (v0 : Value) (c0 : Value) (vm0 : Vm) (h0 : Heap) (X00 : Ext Z.heap h0) (P0 : Exa Z h0 x "java/lang/String") (P1 : Fld Z h0 x "java/lang/String" "value" "[B" v0) (P2 : Fld Z h0 x "java/lang/String" "coder" "B" c0) (P3 : Z.heap.size ≤ x) (P4 : Safe Z consts_1 vm0 h0 x) :
    Met l (⟨"java/lang/String", "<init>", "([BB)V"⟩ : MethodName) jdk_42_method_151_code 3 none ws ({ frames := 1, cells := 0, slots := 0, locals := 12 } : Room) Z consts_1 vm0 h0 #[(.ref x), (.ref b), (.int (0 : Int32))] (fun rv vm h => rv = none ∧ Keep h0 h [x] ∧ Fld Z h x "java/lang/String" "value" "[B" (.ref b) ∧ Fld Z h x "java/lang/String" "coder" "B" (.int (0 : Int32)) ∧ Safe Z consts_1 vm h x) := by
  obtain ⟨hw, hEL, ⟨zc, Scs, hzc⟩, ⟨fm, Sfm, hfm⟩, ⟨fe, ft, tt, Sfe, Efe, Fft, Sft⟩⟩ := id cx
  have hSA := own_SA hw
  refine Met.of_walk (a0 := a0) #[.val (.ref x), .val (.ref b), .val (.int (0 : Int32))] (plainFor_of_name own_pn13) X00 hEL (fun m => by first | (simp [entryFrame, mkF, argsToLocals, Value.category]; done) | rfl) ?_
  intro p e s m below meth c vm hx hby hml hret hnm hC0
  have lt_x : h0.size > x := P0.lt
  have L4 := hC0.safe lt_x P4
  refine gs (mkF m 1 #[.val (.ref x), .val (.ref b), .val (.int (0 : Int32))] [(.ref x)]) (fun _ _ A kq => XS.aloadN A hx rfl (hb hby own_d_jdk_42_method_151_0) rfl rfl kq) ?_
  refine ginitO hx (ow hw 18 rfl) (ow hw 19 rfl) (ow hw 20 rfl) 4 (W := 0) (Nat.le_of_eq rfl) (by rw [hml]; rfl) (hb hby own_d_jdk_42_method_151_1) rfl (by decide) (by decide) ?_
  refine gs (mkF m 5 #[.val (.ref x), .val (.ref b), .val (.int (0 : Int32))] [(.ref x)]) (fun _ _ A kq => XS.aloadN A hx rfl (hb hby own_d_jdk_42_method_151_4) rfl rfl kq) ?_
  refine gs (mkF m 6 #[.val (.ref x), .val (.ref b), .val (.int (0 : Int32))] [(.ref b), (.ref x)]) (fun _ _ A kq => XS.aloadN A hx rfl (hb hby own_d_jdk_42_method_151_5) rfl rfl kq) ?_
  refine gputF (host := "") hx (Or.inl (ow hw 35 rfl)) Via.refl P1 P0 (Or.inr ⟨(ow hw 36 rfl), rfl, hnm⟩) (ow hw 5 rfl) (ty := (.array .byte)) (by decide) rfl rfl P3 (fun _ => L4) 9 (hb hby own_d_jdk_42_method_151_6) rfl ?_
  intro h2 W2 C2
  have z2 := C2.2.1
  have F2 := P1.same W2
  refine gs (mkF m 10 #[.val (.ref x), .val (.ref b), .val (.int (0 : Int32))] [(.ref x)]) (fun _ _ A kq => XS.aloadN A hx rfl (hb hby own_d_jdk_42_method_151_9) rfl rfl kq) ?_
  refine gs (mkF m 11 #[.val (.ref x), .val (.ref b), .val (.int (0 : Int32))] [(.int (0 : Int32)), (.ref x)]) (fun _ _ A kq => XS.iloadN A hx rfl (hb hby own_d_jdk_42_method_151_10) rfl  kq) ?_
  have f3 := (P2.other W2 (Or.inr (slot_ne (Or.inr (ow hw 34 rfl)) (Or.inr (ow hw 36 rfl)) (by decide) (t := .byte) (t' := (.array .byte)) (by decide) (by decide))))
  have f4 := (P0.wr W2)
  have f5 := (C2.safe (show h0.size > x by omega) L4)
  refine gputF (host := "") hx (Or.inl (ow hw 33 rfl)) Via.refl f3 f4 (Or.inr ⟨(ow hw 34 rfl), rfl, hnm⟩) (ow hw 5 rfl) (ty := .byte) (by decide) rfl rfl P3 (fun _ => f5) 14 (hb hby own_d_jdk_42_method_151_11) rfl ?_
  intro h6 W6 C6
  have z6 := C6.2.1
  have F6 := f3.same W6
  have f8 := (F2.other W6 (Or.inr (slot_ne (Or.inr (ow hw 36 rfl)) (Or.inr (ow hw 34 rfl)) (by decide) (t := (.array .byte)) (t' := .byte) (by decide) (by decide))))
  have f9 := (C6.safe (show h2.size > x by omega) f5)
  exact gretV hx hret (hb hby own_d_jdk_42_method_151_14) (by decide) (by decide) (fun vq Cq => ⟨rfl, (((Keep.refl h0 [x]).wr W2 (Or.inl (List.mem_of_getElem? (i := 0) rfl))).wr W6 (Or.inl (List.mem_of_getElem? (i := 0) rfl))), f8, F6, (Cq.safe (show h6.size > x by omega) f9)⟩)
theorem own_d_jdk_42_method_139_0 : decode jdk_42_method_139_code 0 = .ok (.getstatic 38, 3) := by decide +kernel
theorem own_d_jdk_42_method_139_3 : decode jdk_42_method_139_code 3 = .ok (.ifCond .eq 23, 3) := by decide +kernel
theorem own_d_jdk_42_method_139_6 : decode jdk_42_method_139_code 6 = .ok (.iload_n 0, 1) := by decide +kernel
theorem own_d_jdk_42_method_139_7 : decode jdk_42_method_139_code 7 = .ok (.invokestatic 1015, 3) := by decide +kernel
theorem own_pd56 : parseMethodDescriptor "(C)Z" = some ⟨[.char], some .boolean⟩ := by decide +kernel
theorem own_d_jdk_42_method_139_10 : decode jdk_42_method_139_code 10 = .ok (.ifCond .eq 16, 3) := by decide +kernel
theorem own_d_jdk_42_method_139_13 : decode jdk_42_method_139_code 13 = .ok (.new 10, 3) := by decide +kernel
theorem own_d_jdk_42_method_139_16 : decode jdk_42_method_139_code 16 = .ok (.dup, 1) := by decide +kernel
theorem own_d_jdk_42_method_139_17 : decode jdk_42_method_139_code 17 = .ok (.iload_n 0, 1) := by decide +kernel
theorem own_d_jdk_42_method_139_18 : decode jdk_42_method_139_code 18 = .ok (.invokestatic 1018, 3) := by decide +kernel
theorem own_pd62 : parseMethodDescriptor "(C)[B" = some ⟨[.char], some (.array .byte)⟩ := by decide +kernel
theorem own_d_jdk_42_method_139_21 : decode jdk_42_method_139_code 21 = .ok (.iconst 0, 1) := by decide +kernel
theorem own_d_jdk_42_method_139_22 : decode jdk_42_method_139_code 22 = .ok (.invokespecial 209, 3) := by decide +kernel
theorem own_pd65 : parseMethodDescriptor "([BB)V" = some ⟨[(.array .byte), .byte], none⟩ := by decide +kernel
theorem own_d_jdk_42_method_139_25 : decode jdk_42_method_139_code 25 = .ok (.areturn, 1) := by decide +kernel
set_option maxRecDepth 65536 in
set_option maxHeartbeats 40000000 in
theorem own_valueOfC (l : Launch) (Z : State) (a0 : Array Value) (cx : Ctx Z a0) (ws : List Jvm.Cond) (ch : Int32) (vm0 : Vm) (h0 : Heap) (X00 : Ext Z.heap h0) (P0 : (B8 ch)) :
    Met l (⟨"java/lang/String", "valueOf", "(C)Ljava/lang/String;"⟩ : MethodName) jdk_42_method_139_code 1 (some (.object "java/lang/String")) ws ({ frames := 2, cells := 2, slots := 5, locals := 27 } : Room) Z consts_1 vm0 h0 #[(.int ch)] (fun rv vm h => ∃ (r : Addr), ∃ (t : Addr), rv = some (.ref r) ∧ Keep h0 h [] ∧ h0.size ≤ r ∧ Str Z h r t [ch]) := by
  obtain ⟨hw, hEL, ⟨zc, Scs, hzc⟩, ⟨fm, Sfm, hfm⟩, ⟨fe, ft, tt, Sfe, Efe, Fft, Sft⟩⟩ := id cx
  have hSA := own_SA hw
  refine Met.of_walk (a0 := a0) #[.val (.int ch)] (plainFor_of_name own_pn13) X00 hEL (fun m => by first | (simp [entryFrame, mkF, argsToLocals, Value.category]; done) | rfl) ?_
  intro p e s m below meth c vm hx hby hml hret hnm hC0
  refine ggetS (host := "") hx (Or.inl (ow hw 21 rfl)) Via.refl Scs 3 (hb hby own_d_jdk_42_method_139_0) rfl ?_
  refine gs (mkF m 6 #[.val (.int ch)] []) (fun _ _ A kq => XS.ifNo A hx rfl (hb hby own_d_jdk_42_method_139_3) rfl ((if0 _ _).trans (feq hzc).1) kq) ?_
  refine gs (mkF m 7 #[.val (.int ch)] [(.int ch)]) (fun _ _ A kq => XS.iloadN A hx rfl (hb hby own_d_jdk_42_method_139_6) rfl  kq) ?_
  refine ginfo fun _ _ O1 => ?_
  refine gcallS (y := (⟨"java/lang/StringLatin1", "canEncode", "(C)Z"⟩ : MethodName)) hx (ow hw 213 rfl) (ow hw 214 rfl) (ow hw 196 rfl) (ow hw 215 rfl) (by decide) (fun hZ H hEL => Pay.of_met (W := 0) (own_canEncode l Z a0 cx [] (ch) vm h0 O1 P0.2) (ow hw 215 rfl) (ow hw 196 rfl) (by decide) (by decide) hZ H hEL) 10 (argsL := [(.int ch)]) (rest := []) (lenOf own_pd56 rfl) rfl rfl (Nat.le_of_eq rfl) (by rw [hml]; rfl) (hb hby own_d_jdk_42_method_139_7) rfl (by decide) (by decide) ?_
  rintro _ vm1 h1 C1 ⟨rfl, rfl⟩
  have z1 := C1.2.1
  refine gat (mkF m 10 #[.val (.int ch)] [(.int (1 : Int32))]) rfl ?_
  refine gs (mkF m 13 #[.val (.int ch)] []) (fun _ _ A kq => XS.ifNo A hx rfl (hb hby own_d_jdk_42_method_139_10) rfl ((if0 _ _).trans (feq (by decide)).1) kq) ?_
  refine gnewO hx (ow hw 216 rfl) (ow hw 5 rfl) (ow hw 6 rfl) 16 (hb hby own_d_jdk_42_method_139_13) rfl (by decide) (by decide) ?_
  intro b2 h2 g2 E2 C2 A2 D2 n2 L2
  have z2 := C2.2.1
  have lt_b2 : h2.size > b2 := A2.lt
  have F2_coder : Fld Z h2 b2 "java/lang/String" "coder" "B" (.int (0 : Int32)) := D2 (Or.inr (ow hw 34 rfl)) (ty := .byte) (by decide)
  have F2_value : Fld Z h2 b2 "java/lang/String" "value" "[B" .null := D2 (Or.inr (ow hw 36 rfl)) (ty := (.array .byte)) (by decide)
  refine gs (mkF m 17 #[.val (.int ch)] [(.ref b2), (.ref b2)]) (fun _ _ A kq => XS.dup A hx rfl (hb hby own_d_jdk_42_method_139_16) rfl rfl kq) ?_
  refine gs (mkF m 18 #[.val (.int ch)] [(.int ch), (.ref b2), (.ref b2)]) (fun _ _ A kq => XS.iloadN A hx rfl (hb hby own_d_jdk_42_method_139_17) rfl  kq) ?_
  refine ginfo fun _ _ O3 => ?_
  refine gcallS (y := (⟨"java/lang/StringLatin1", "toBytes", "(C)[B"⟩ : MethodName)) hx (ow hw 217 rfl) (ow hw 218 rfl) (ow hw 196 rfl) (ow hw 219 rfl) (by decide) (fun hZ H hEL => Pay.of_met (W := 2) (own_toBytes1 l Z a0 cx [] (ch) vm1 h2 O3 ) (ow hw 219 rfl) (ow hw 196 rfl) (by decide) (by decide) hZ H hEL) 21 (argsL := [(.int ch)]) (rest := [(.ref b2), (.ref b2)]) (lenOf own_pd62 rfl) rfl rfl (Nat.le_of_eq rfl) (by rw [hml]; rfl) (hb hby own_d_jdk_42_method_139_18) rfl (by decide) (by decide) ?_
  rintro _ vm3 h3 C3 ⟨r3, kb3, rfl, K3, q3_0, q3_1⟩
  have z3 := C3.2.1
  have lt_r3 : h3.size > r3 := q3_1.lt
  refine gat (mkF m 21 #[.val (.int ch)] [(.ref r3), (.ref b2), (.ref b2)]) rfl ?_
  refine gs (mkF m 22 #[.val (.int ch)] [(.int (0 : Int32)), (.ref r3), (.ref b2), (.ref b2)]) (fun _ _ A kq => XS.iconst A hx rfl (hb hby own_d_jdk_42_method_139_21) kq) ?_
  have f5 := (A2.keep K3)
  have f6 := (F2_value.keep K3 nin0)
  have f7 := (F2_coder.keep K3 nin0)
  have f8 := (C3.safe (show h2.size > b2 by omega) L2)
  refine ginfo fun _ _ O4 => ?_
  refine gcallI (y := (⟨"java/lang/String", "<init>", "([BB)V"⟩ : MethodName)) hx rfl (ow hw 220 rfl) (ow hw 221 rfl) (ow hw 222 rfl) (by decide) (fun hZ H hEL => Pay.of_met (W := 1) (own_initBB l Z a0 cx [] (b2) (r3) (.null) ((.int (0 : Int32))) vm3 h3 O4 f5 f6 f7 n2 f8) (ow hw 222 rfl) (ow hw 6 rfl) (by decide) (by decide) hZ H hEL) (a := b2) 25 (argsL := [(.ref r3), (.int (0 : Int32))]) (rest := [(.ref b2)]) (lenOf own_pd65 rfl) rfl rfl (Nat.le_of_eq rfl) (by rw [hml]; rfl) (hb hby own_d_jdk_42_method_139_22) rfl (by decide) (by decide) ?_
  rintro _ vm4 h4 C4 ⟨rfl, K4, q4_0, q4_1, q4_2⟩
  have z4 := C4.2.1
  refine gat (mkF m 25 #[.val (.int ch)] [(.ref b2)]) rfl ?_
  have f9 := (f5.keep K4)
  have f10 := (q3_1.keep K4 (ninS (Nat.ne_of_gt (by omega)) nin0))
  exact gretA hx hret rfl rfl (hb hby own_d_jdk_42_method_139_25) (by decide) (by decide) (fun vq Cq => ⟨b2, r3, rfl, ((((Keep.refl h0 []).ext E2).trans K3 all0).trans K4 (allS (Or.inr (by omega)) all0)), (by omega), ⟨f9, q4_1, q4_0, ⟨_, f10⟩, bcons P0 bnil, Nat.le_of_ble_eq_true rfl⟩⟩)
theorem bapp {cs ds : List Int32} (h1 : ∀ c ∈ cs, B8 c) (h2 : ∀ c ∈ ds, B8 c) : ∀ c ∈ cs ++ ds, B8 c := fun c hc => (List.mem_append.mp hc).elim (h1 c) (h2 c)
theorem own_d_jdk_68_method_2_0 : decode jdk_68_method_2_code 0 = .ok (.aload_n 0, 1) := by decide +kernel
theorem own_d_jdk_68_method_2_1 : decode jdk_68_method_2_code 1 = .ok (.invokespecial 3, 3) := by decide +kernel
theorem own_d_jdk_68_method_2_4 : decode jdk_68_method_2_code 4 = .ok (.getstatic 18, 3) := by decide +kernel
theorem own_d_jdk_68_method_2_7 : decode jdk_68_method_2_code 7 = .ok (.ifCond .eq 18, 3) := by decide +kernel
theorem own_d_jdk_68_method_2_10 : decode jdk_68_method_2_code 10 = .ok (.aload_n 0, 1) := by decide +kernel
theorem own_d_jdk_68_method_2_11 : decode jdk_68_method_2_code 11 = .ok (.iload_n 1, 1) := by decide +kernel
theorem own_d_jdk_68_method_2_12 : decode jdk_68_method_2_code 12 = .ok (.newarray .byte, 2) := by decide +kernel
theorem own_d_jdk_68_method_2_14 : decode jdk_68_method_2_code 14 = .ok (.putfield 15, 3) := by decide +kernel
theorem own_d_jdk_68_method_2_17 : decode jdk_68_method_2_code 17 = .ok (.aload_n 0, 1) := by decide +kernel
theorem own_d_jdk_68_method_2_18 : decode jdk_68_method_2_code 18 = .ok (.iconst 0, 1) := by decide +kernel
theorem own_d_jdk_68_method_2_19 : decode jdk_68_method_2_code 19 = .ok (.putfield 22, 3) := by decide +kernel
theorem own_d_jdk_68_method_2_22 : decode jdk_68_method_2_code 22 = .ok (.goto 16, 3) := by decide +kernel
theorem own_d_jdk_68_method_2_38 : decode jdk_68_method_2_code 38 = .ok (.return_, 1) := by decide +kernel
theorem own_pn80 : plainName "java/lang/AbstractStringBuilder" = true := by first | (simp [plainName, overriddenIn]; done) | decide +kernel
set_option maxRecDepth 65536 in
set_option maxHeartbeats 40000000 in
theorem own_asbinit (l : Launch) (Z : State) (a0 : Array Value) (cx : Ctx Z a0) (ws : List Jvm.Cond) (x : Addr) (v0 : Value) (c0 : Value) (vm0 : Vm) (h0 : Heap) (X00 : Ext Z.heap h0) (P0 : Exa Z h0 x "java/lang/StringBuilder") (P1 : Fld Z h0 x "java/lang/AbstractStringBuilder" "value" "[B" v0) (P2 : Fld Z h0 x "java/lang/AbstractStringBuilder" "coder" "B" c0) (P3 : Fld Z h0 x "java/lang/AbstractStringBuilder" "count" "I" (.int (0 : Int32))) (P4 : Z.heap.size ≤ x) :
    Met l (⟨"java/lang/AbstractStringBuilder", "<init>", "(I)V"⟩ : MethodName) jdk_68_method_2_code 2 none ws ({ frames := 1, cells := 1, slots := 16, locals := 12 } : Room) Z consts_1 vm0 h0 #[(.ref x), (.int (16 : Int32))] (fun rv vm h => ∃ (v : Addr), ∃ (kb : ClassId), rv = none ∧ Keep h0 h [x] ∧ Fld Z h x "java/lang/AbstractStringBuilder" "value" "[B" (.ref v) ∧ Fld Z h x "java/lang/AbstractStringBuilder" "coder" "B" (.int (0 : Int32)) ∧ Fld Z h x "java/lang/AbstractStringBuilder" "count" "I" (.int (0 : Int32)) ∧ h0.size ≤ v ∧ Z.heap.size ≤ v ∧ Safe Z consts_1 vm h v ∧ Arv Z h v kb .byte (16 : Int32) [(.int (0 : Int32)), (.int (0 : Int32)), (.int (0 : Int32)), (.int (0 : Int32)), (.int (0 : Int32)), (.int (0 : Int32)), (.int (0 : Int32)), (.int (0 : Int32)), (.int (0 : Int32)), (.int (0 : Int32)), (.int (0 : Int32)), (.int (0 : Int32)), (.int (0 : Int32)), (.int (0 : Int32)), (.int (0 : Int32)), (.int (0 : Int32))] (.int (0 : Int32))) := by
  obtain ⟨hw, hEL, ⟨zc, Scs, hzc⟩, ⟨fm, Sfm, hfm⟩, ⟨fe, ft, tt, Sfe, Efe, Fft, Sft⟩⟩ := id cx
  have hSA := own_SA hw
  refine Met.of_walk (a0 := a0) #[.val (.ref x), .val (.int (16 : Int32))] (plainFor_of_name own_pn80) X00 hEL (fun m => by first | (simp [entryFrame, mkF, argsToLocals, Value.category]; done) | rfl) ?_
  intro p e s m below meth c vm hx hby hml hret hnm hC0
  have lt_x : h0.size > x := P0.lt
  refine gs (mkF m 1 #[.val (.ref x), .val (.int (16 : Int32))] [(.ref x)]) (fun _ _ A kq => XS.aloadN A hx rfl (hb hby own_d_jdk_68_method_2_0) rfl rfl kq) ?_
  refine ginitO hx (ow hw 72 rfl) (ow hw 19 rfl) (ow hw 20 rfl) 4 (W := 0) (Nat.le_of_eq rfl) (by rw [hml]; rfl) (hb hby own_d_jdk_68_method_2_1) rfl (by decide) (by decide) ?_
  refine ggetS (host := "") hx (Or.inl (ow hw 73 rfl)) Via.refl Scs 7 (hb hby own_d_jdk_68_method_2_4) rfl ?_
  refine gs (mkF m 10 #[.val (.ref x), .val (.int (16 : Int32))] []) (fun _ _ A kq => XS.ifNo A hx rfl (hb hby own_d_jdk_68_method_2_7) rfl ((if0 _ _).trans (feq hzc).1) kq) ?_
  refine gs (mkF m 11 #[.val (.ref x), .val (.int (16 : Int32))] [(.ref x)]) (fun _ _ A kq => XS.aloadN A hx rfl (hb hby own_d_jdk_68_method_2_10) rfl rfl kq) ?_
  refine gs (mkF m 12 #[.val (.ref x), .val (.int (16 : Int32))] [(.int (16 : Int32)), (.ref x)]) (fun _ _ A kq => XS.iloadN A hx rfl (hb hby own_d_jdk_68_method_2_11) rfl  kq) ?_
  refine gnewP hx (ow hw 26 rfl) (n := (16 : Int32)) (by decide) (cap := 16) (by decide) (by decide) 14 (hb hby own_d_jdk_68_method_2_12) rfl (by decide) (by decide) ?_
  intro b2 h2 k2 g2 E2 C2 V2 n2 L2
  have z2 := C2.2.1
  have V2 : Arv Z h2 b2 k2 .byte (16 : Int32) [(.int (0 : Int32)), (.int (0 : Int32)), (.int (0 : Int32)), (.int (0 : Int32)), (.int (0 : Int32)), (.int (0 : Int32)), (.int (0 : Int32)), (.int (0 : Int32)), (.int (0 : Int32)), (.int (0 : Int32)), (.int (0 : Int32)), (.int (0 : Int32)), (.int (0 : Int32)), (.int (0 : Int32)), (.int (0 : Int32)), (.int (0 : Int32))] (.int (0 : Int32)) := V2.pad (pad_rep [] (.int (0 : Int32)) 16)
  have lt_b2 : h2.size > b2 := V2.lt
  have f3 := (P1.ext E2)
  have f4 := (P0.ext E2)
  refine gputF (host := "") hx (Or.inl (ow hw 74 rfl)) Via.refl f3 f4 (Or.inl (ow hw 75 rfl)) (ow hw 61 rfl) (ty := (.array .byte)) (by decide) rfl rfl P4 (fun al => Safe.exa al f4 (by decide) (by decide)) 17 (hb hby own_d_jdk_68_method_2_14) rfl ?_
  intro h5 W5 C5
  have z5 := C5.2.1
  have F5 := f3.same W5
  refine gs (mkF m 18 #[.val (.ref x), .val (.int (16 : Int32))] [(.ref x)]) (fun _ _ A kq => XS.aloadN A hx rfl (hb hby own_d_jdk_68_method_2_17) rfl rfl kq) ?_
  refine gs (mkF m 19 #[.val (.ref x), .val (.int (16 : Int32))] [(.int (0 : Int32)), (.ref x)]) (fun _ _ A kq => XS.iconst A hx rfl (hb hby own_d_jdk_68_method_2_18) kq) ?_
  have f6 := ((P2.ext E2).other W5 (Or.inr (slot_ne (Or.inl (ow hw 77 rfl)) (Or.inl (ow hw 75 rfl)) (by decide) (t := .byte) (t' := (.array .byte)) (by decide) (by decide))))
  have f7 := (f4.wr W5)
  refine gputF (host := "") hx (Or.inl (ow hw 76 rfl)) Via.refl f6 f7 (Or.inl (ow hw 77 rfl)) (ow hw 61 rfl) (ty := .byte) (by decide) rfl rfl P4 (fun al => Safe.exa al f7 (by decide) (by decide)) 22 (hb hby own_d_jdk_68_method_2_19) rfl ?_
  intro h8 W8 C8
  have z8 := C8.2.1
  have F8 := f6.same W8
  refine gs (mkF m 38 #[.val (.ref x), .val (.int (16 : Int32))] []) (fun _ _ A kq => XS.goto A hx rfl (pc0 := 22) (pc' := 38) rfl (hb hby own_d_jdk_68_method_2_22) (by decide) (by decide) kq) ?_
  have f10 := (F5.other W8 (Or.inr (slot_ne (Or.inl (ow hw 75 rfl)) (Or.inl (ow hw 77 rfl)) (by decide) (t := (.array .byte)) (t' := .byte) (by decide) (by decide))))
  have f11 := (((P3.ext E2).other W5 (Or.inr (slot_ne (Or.inl (ow hw 104 rfl)) (Or.inl (ow hw 75 rfl)) (by decide) (t := .int) (t' := (.array .byte)) (by decide) (by decide)))).other W8 (Or.inr (slot_ne (Or.inl (ow hw 104 rfl)) (Or.inl (ow hw 77 rfl)) (by decide) (t := .int) (t' := .byte) (by decide) (by decide))))
  have f12 := (C8.safe (show h5.size > b2 by omega) (C5.safe (show h2.size > b2 by omega) L2))
  have f13 := ((V2.other W5 (Nat.ne_of_gt (by omega))).other W8 (Nat.ne_of_gt (by omega)))
  exact gretV hx hret (hb hby own_d_jdk_68_method_2_38) (by decide) (by decide) (fun vq Cq => ⟨b2, k2, rfl, ((((Keep.refl h0 [x]).ext E2).wr W5 (Or.inl (List.mem_of_getElem? (i := 0) rfl))).wr W8 (Or.inl (List.mem_of_getElem? (i := 0) rfl))), f10, F8, f11, (by omega), n2, (Cq.safe (show h8.size > b2 by omega) f12), f13⟩)
theorem own_d_jdk_67_method_1_0 : decode jdk_67_method_1_code 0 = .ok (.aload_n 0, 1) := by decide +kernel
theorem own_d_jdk_67_method_1_1 : decode jdk_67_method_1_code 1 = .ok (.bipush 16, 2) := by decide +kernel
theorem own_d_jdk_67_method_1_3 : decode jdk_67_method_1_code 3 = .ok (.invokespecial 1, 3) := by decide +kernel
theorem own_pd84 : parseMethodDescriptor "(I)V" = some ⟨[.int], none⟩ := by decide +kernel
theorem own_d_jdk_67_method_1_6 : decode jdk_67_method_1_code 6 = .ok (.return_, 1) := by decide +kernel
theorem own_pn86 : plainName "java/lang/StringBuilder" = true := by first | (simp [plainName, overriddenIn]; done) | decide +kernel
set_option maxRecDepth 65536 in
set_option maxHeartbeats 40000000 in
theorem own_sbinit (l : Launch) (Z : State) (a0 : Array Value) (cx : Ctx Z a0) (ws : List Jvm.Cond) (x : Addr) (v0 : Value) (c0 : Value) (vm0 : Vm) (h0 : Heap) (X00 : Ext Z.heap h0) (P0 : Exa Z h0 x "java/lang/StringBuilder") (P1 : Fld Z h0 x "java/lang/AbstractStringBuilder" "value" "[B" v0) (P2 : Fld Z h0 x "java/lang/AbstractStringBuilder" "coder" "B" c0) (P3 : Fld Z h0 x "java/lang/AbstractStringBuilder" "count" "I" (.int (0 : Int32))) (P4 : Z.heap.size ≤ x) :
    Met l (⟨"java/lang/StringBuilder", "<init>", "()V"⟩ : MethodName) jdk_67_method_1_code 1 none ws ({ frames := 2, cells := 1, slots := 16, locals := 25 } : Room) Z consts_1 vm0 h0 #[(.ref x)] (fun rv vm h => ∃ (v : Addr), rv = none ∧ Keep h0 h [x] ∧ SBd Z h x v 16 ([] : List Int32) ∧ h0.size ≤ v ∧ Z.heap.size ≤ v ∧ Safe Z consts_1 vm h v) := by
  obtain ⟨hw, hEL, ⟨zc, Scs, hzc⟩, ⟨fm, Sfm, hfm⟩, ⟨fe, ft, tt, Sfe, Efe, Fft, Sft⟩⟩ := id cx
  have hSA := own_SA hw
  refine Met.of_walk (a0 := a0) #[.val (.ref x)] (plainFor_of_name own_pn86) X00 hEL (fun m => by first | (simp [entryFrame, mkF, argsToLocals, Value.category]; done) | rfl) ?_
  intro p e s m below meth c vm hx hby hml hret hnm hC0
  have lt_x : h0.size > x := P0.lt
  refine gs (mkF m 1 #[.val (.ref x)] [(.ref x)]) (fun _ _ A kq => XS.aloadN A hx rfl (hb hby own_d_jdk_67_method_1_0) rfl rfl kq) ?_
  refine gs (mkF m 3 #[.val (.ref x)] [(.int (16 : Int32)), (.ref x)]) (fun _ _ A kq => XS.bipush A hx rfl (hb hby own_d_jdk_67_method_1_1) kq) ?_
  refine ginfo fun _ _ O1 => ?_
  refine gcallI (y := (⟨"java/lang/AbstractStringBuilder", "<init>", "(I)V"⟩ : MethodName)) hx rfl (ow hw 66 rfl) (ow hw 67 rfl) (ow hw 71 rfl) (by decide) (fun hZ H hEL => Pay.of_met (W := 0) (own_asbinit l Z a0 cx [] (x) (v0) (c0) vm h0 O1 P0 P1 P2 P3 P4) (ow hw 71 rfl) (ow hw 70 rfl) (by decide) (by decide) hZ H hEL) (a := x) 6 (argsL := [(.int (16 : Int32))]) (rest := []) (lenOf own_pd84 rfl) rfl rfl (Nat.le_of_eq rfl) (by rw [hml]; rfl) (hb hby own_d_jdk_67_method_1_3) rfl (by decide) (by decide) ?_
  rintro _ vm1 h1 C1 ⟨v1, kb1, rfl, K1, q1_0, q1_1, q1_2, q1_3, q1_4, q1_5, q1_6⟩
  have z1 := C1.2.1
  have lt_v1 : h1.size > v1 := q1_6.lt
  refine gat (mkF m 6 #[.val (.ref x)] []) rfl ?_
  have f2 := (P0.keep K1)
  exact gretV hx hret (hb hby own_d_jdk_67_method_1_6) (by decide) (by decide) (fun vq Cq => ⟨v1, rfl, ((Keep.refl h0 [x]).trans K1 (allS (Or.inl (List.mem_of_getElem? (i := 0) rfl)) all0)), ⟨f2, q1_0, q1_1, q1_2, ⟨_, _, q1_6, rfl⟩, bnil, by decide⟩, (by omega), q1_4, (Cq.safe (show h1.size > v1 by omega) q1_5)⟩)
theorem own_d_jdk_42_method_152_0 : decode jdk_42_method_152_code 0 = .ok (.getstatic 38, 3) := by decide +kernel
theorem own_d_jdk_42_method_152_3 : decode jdk_42_method_152_code 3 = .ok (.ifCond .eq 10, 3) := by decide +kernel
theorem own_d_jdk_42_method_152_6 : decode jdk_42_method_152_code 6 = .ok (.aload_n 0, 1) := by decide +kernel
theorem own_d_jdk_42_method_152_7 : decode jdk_42_method_152_code 7 = .ok (.getfield 15, 3) := by decide +kernel
theorem own_d_jdk_42_method_152_10 : decode jdk_42_method_152_code 10 = .ok (.goto 4, 3) := by decide +kernel
theorem own_d_jdk_42_method_152_14 : decode jdk_42_method_152_code 14 = .ok (.ireturn, 1) := by decide +kernel
set_option maxRecDepth 65536 in
set_option maxHeartbeats 40000000 in
theorem own_scoder (l : Launch) (Z : State) (a0 : Array Value) (cx : Ctx Z a0) (ws : List Jvm.Cond) (x : Addr) (t : Addr) (cs : List Int32) (vm0 : Vm) (h0 : Heap) (X00 : Ext Z.heap h0) (P0 : Str Z h0 x t cs) :
    Met l (⟨"java/lang/String", "coder", "()B"⟩ : MethodName) jdk_42_method_152_code 1 (some .byte) ws ({ frames := 0, cells := 0, slots := 0, locals := 0 } : Room) Z consts_1 vm0 h0 #[(.ref x)] (fun rv vm h => rv = some (.int (0 : Int32)) ∧ h0 = h) := by
  obtain ⟨hw, hEL, ⟨zc, Scs, hzc⟩, ⟨fm, Sfm, hfm⟩, ⟨fe, ft, tt, Sfe, Efe, Fft, Sft⟩⟩ := id cx
  have hSA := own_SA hw
  refine Met.of_walk (a0 := a0) #[.val (.ref x)] (plainFor_of_name own_pn13) X00 hEL (fun m => by first | (simp [entryFrame, mkF, argsToLocals, Value.category]; done) | rfl) ?_
  intro p e s m below meth c vm hx hby hml hret hnm hC0
  have lt_x : h0.size > x := P0.1.lt
  have lt_t : h0.size > t := P0.tlt
  refine ggetS (host := "") hx (Or.inl (ow hw 21 rfl)) Via.refl Scs 3 (hb hby own_d_jdk_42_method_152_0) rfl ?_
  refine gs (mkF m 6 #[.val (.ref x)] []) (fun _ _ A kq => XS.ifNo A hx rfl (hb hby own_d_jdk_42_method_152_3) rfl ((if0 _ _).trans (feq hzc).1) kq) ?_
  refine gs (mkF m 7 #[.val (.ref x)] [(.ref x)]) (fun _ _ A kq => XS.aloadN A hx rfl (hb hby own_d_jdk_42_method_152_6) rfl rfl kq) ?_
  refine ggetF (host := "") hx (Or.inl (ow hw 33 rfl)) Via.refl P0.2.1 10 (hb hby own_d_jdk_42_method_152_7) rfl ?_
  refine gs (mkF m 14 #[.val (.ref x)] [(.int (0 : Int32))]) (fun _ _ A kq => XS.goto A hx rfl (pc0 := 10) (pc' := 14) rfl (hb hby own_d_jdk_42_method_152_10) (by decide) (by decide) kq) ?_
  exact gretN (t := .byte) hx hret (by simp) (hb hby own_d_jdk_42_method_152_14) (by decide) (by decide) (fun vq Cq => ⟨rfl, rfl⟩)
theorem own_d_jdk_68_method_71_0 : decode jdk_68_method_71_code 0 = .ok (.getstatic 18, 3) := by decide +kernel
theorem own_d_jdk_68_method_71_3 : decode jdk_68_method_71_code 3 = .ok (.ifCond .eq 18, 3) := by decide +kernel
theorem own_d_jdk_68_method_71_6 : decode jdk_68_method_71_code 6 = .ok (.aload_n 0, 1) := by decide +kernel
theorem own_d_jdk_68_method_71_7 : decode jdk_68_method_71_code 7 = .ok (.getfield 22, 3) := by decide +kernel
theorem own_d_jdk_68_method_71_10 : decode jdk_68_method_71_code 10 = .ok (.aload_n 1, 1) := by decide +kernel
theorem own_d_jdk_68_method_71_11 : decode jdk_68_method_71_code 11 = .ok (.invokevirtual 40, 3) := by decide +kernel
theorem own_pd99 : parseMethodDescriptor "()B" = some ⟨[], some .byte⟩ := by decide +kernel
theorem own_d_jdk_68_method_71_14 : decode jdk_68_method_71_code 14 = .ok (.if_icmp .eq 7, 3) := by decide +kernel
theorem own_d_jdk_68_method_71_21 : decode jdk_68_method_71_code 21 = .ok (.return_, 1) := by decide +kernel
set_option maxRecDepth 65536 in
set_option maxHeartbeats 40000000 in
theorem own_inflate (l : Launch) (Z : State) (a0 : Array Value) (cx : Ctx Z a0) (ws : List Jvm.Cond) (x : Addr) (y : Addr) (t : Addr) (cs : List Int32) (vm0 : Vm) (h0 : Heap) (X00 : Ext Z.heap h0) (P0 : Fld Z h0 x "java/lang/AbstractStringBuilder" "coder" "B" (.int (0 : Int32))) (P1 : Str Z h0 y t cs) :
    Met l (⟨"java/lang/AbstractStringBuilder", "inflateIfNeededFor", "(Ljava/lang/String;)V"⟩ : MethodName) jdk_68_method_71_code 2 none ws ({ frames := 1, cells := 0, slots := 0, locals := 13 } : Room) Z consts_1 vm0 h0 #[(.ref x), (.ref y)] (fun rv vm h => rv = none ∧ h0 = h) := by
  obtain ⟨hw, hEL, ⟨zc, Scs, hzc⟩, ⟨fm, Sfm, hfm⟩, ⟨fe, ft, tt, Sfe, Efe, Fft, Sft⟩⟩ := id cx
  have hSA := own_SA hw
  refine Met.of_walk (a0 := a0) #[.val (.ref x), .val (.ref y)] (plainFor_of_name own_pn80) X00 hEL (fun m => by first | (simp [entryFrame, mkF, argsToLocals, Value.category]; done) | rfl) ?_
  intro p e s m below meth c vm hx hby hml hret hnm hC0
  have lt_x : h0.size > x := P0.lt
  have lt_y : h0.size > y := P1.1.lt
  have lt_t : h0.size > t := P1.tlt
  refine ggetS (host := "") hx (Or.inl (ow hw 73 rfl)) Via.refl Scs 3 (hb hby own_d_jdk_68_method_71_0) rfl ?_
  refine gs (mkF m 6 #[.val (.ref x), .val (.ref y)] []) (fun _ _ A kq => XS.ifNo A hx rfl (hb hby own_d_jdk_68_method_71_3) rfl ((if0 _ _).trans (feq hzc).1) kq) ?_
  refine gs (mkF m 7 #[.val (.ref x), .val (.ref y)] [(.ref x)]) (fun _ _ A kq => XS.aloadN A hx rfl (hb hby own_d_jdk_68_method_71_6) rfl rfl kq) ?_
  refine ggetF (host := "") hx (Or.inl (ow hw 76 rfl)) Via.refl P0 10 (hb hby own_d_jdk_68_method_71_7) rfl ?_
  refine gs (mkF m 11 #[.val (.ref x), .val (.ref y)] [(.ref y), (.int (0 : Int32))]) (fun _ _ A kq => XS.aloadN A hx rfl (hb hby own_d_jdk_68_method_71_10) rfl rfl kq) ?_
  refine ginfo fun _ _ O1 => ?_
  refine gcallV (y := (⟨"java/lang/String", "coder", "()B"⟩ : MethodName)) (z := (⟨"java/lang/String", "coder", "()B"⟩ : MethodName)) hx (ow hw 120 rfl) (ow hw 99 rfl) (nfSel (ow hw 101 rfl)) (ow hw 101 rfl) (ow hw 100 rfl) (by decide) (fun hZ H hEL => Pay.of_met (W := 1) (own_scoder l Z a0 cx [] (y) (t) (cs) vm h0 O1 P1) (ow hw 102 rfl) (ow hw 6 rfl) (by decide) (by decide) hZ H hEL) 14 (argsL := []) (rest := [(.int (0 : Int32))]) P1.1 (lenOf own_pd99 rfl) rfl rfl (Nat.le_of_eq rfl) (by rw [hml]; rfl) (hb hby own_d_jdk_68_method_71_11) rfl (by decide) (by decide) ?_
  rintro _ vm1 h1 C1 ⟨rfl, rfl⟩
  have z1 := C1.2.1
  refine gat (mkF m 14 #[.val (.ref x), .val (.ref y)] [(.int (0 : Int32)), (.int (0 : Int32))]) rfl ?_
  refine gs (mkF m 21 #[.val (.ref x), .val (.ref y)] []) (fun _ _ A kq => XS.icmpYes A hx rfl (pc0 := 14) (pc' := 21) rfl (hb hby own_d_jdk_68_method_71_14) rfl (teq (by decide)).1 (by decide) (by decide) kq) ?_
  exact gretV hx hret (hb hby own_d_jdk_68_method_71_21) (by decide) (by decide) (fun vq Cq => ⟨rfl, rfl⟩)
theorem own_d_jdk_42_method_147_0 : decode jdk_42_method_147_code 0 = .ok (.aload_n 0, 1) := by decide +kernel
theorem own_d_jdk_42_method_147_1 : decode jdk_42_method_147_code 1 = .ok (.invokevirtual 335, 3) := by decide +kernel
theorem own_d_jdk_42_method_147_4 : decode jdk_42_method_147_code 4 = .ok (.iload_n 3, 1) := by decide +kernel
theorem own_d_jdk_42_method_147_5 : decode jdk_42_method_147_code 5 = .ok (.if_icmp .ne 23, 3) := by decide +kernel
theorem own_d_jdk_42_method_147_8 : decode jdk_42_method_147_code 8 = .ok (.aload_n 0, 1) := by decide +kernel
theorem own_d_jdk_42_method_147_9 : decode jdk_42_method_147_code 9 = .ok (.getfield 9, 3) := by decide +kernel
theorem own_d_jdk_42_method_147_12 : decode jdk_42_method_147_code 12 = .ok (.iconst 0, 1) := by decide +kernel
theorem own_d_jdk_42_method_147_13 : decode jdk_42_method_147_code 13 = .ok (.aload_n 1, 1) := by decide +kernel
theorem own_d_jdk_42_method_147_14 : decode jdk_42_method_147_code 14 = .ok (.iload_n 2, 1) := by decide +kernel
theorem own_d_jdk_42_method_147_15 : decode jdk_42_method_147_code 15 = .ok (.iload_n 3, 1) := by decide +kernel
theorem own_d_jdk_42_method_147_16 : decode jdk_42_method_147_code 16 = .ok (.ishl, 1) := by decide +kernel
theorem own_d_jdk_42_method_147_17 : decode jdk_42_method_147_code 17 = .ok (.aload_n 0, 1) := by decide +kernel
theorem own_d_jdk_42_method_147_18 : decode jdk_42_method_147_code 18 = .ok (.getfield 9, 3) := by decide +kernel
theorem own_d_jdk_42_method_147_21 : decode jdk_42_method_147_code 21 = .ok (.arraylength, 1) := by decide +kernel
theorem own_d_jdk_42_method_147_22 : decode jdk_42_method_147_code 22 = .ok (.invokestatic 212, 3) := by decide +kernel
theorem own_d_jdk_42_method_147_25 : decode jdk_42_method_147_code 25 = .ok (.goto 18, 3) := by decide +kernel
theorem own_d_jdk_42_method_147_43 : decode jdk_42_method_147_code 43 = .ok (.return_, 1) := by decide +kernel
set_option maxRecDepth 65536 in
set_option maxHeartbeats 40000000 in
theorem own_getBytes (l : Launch) (Z : State) (a0 : Array Value) (cx : Ctx Z a0) (ws : List Jvm.Cond) (x : Addr) (b : Addr) (j : Nat) (t : Addr) (ds : List Int32) (kb : ClassId) (M : Nat) (vd : List Value) (vm0 : Vm) (h0 : Heap) (X00 : Ext Z.heap h0) (P0 : Str Z h0 x t ds) (P1 : Arv Z h0 b kb .byte (Int32.ofNat M) vd (.int (0 : Int32))) (P2 : Z.heap.size ≤ b) (P3 : Safe Z consts_1 vm0 h0 b) (hj : (j + ds.length ≤ M)) (hM : (M ≤ 4000)) (hvd : (vd.length = M)) :
    Met l (⟨"java/lang/String", "getBytes", "([BIB)V"⟩ : MethodName) jdk_42_method_147_code 4 none ws ({ frames := 1, cells := 0, slots := 0, locals := 18 } : Room) Z consts_1 vm0 h0 #[(.ref x), (.ref b), (.int (Int32.ofNat j)), (.int (0 : Int32))] (fun rv vm h => rv = none ∧ Keep h0 h [b] ∧ Arv Z h b kb .byte (Int32.ofNat M) (vd.take j ++ ((lo8s ds).drop 0).take ds.length ++ vd.drop (j + ds.length)) (.int (0 : Int32)) ∧ Safe Z consts_1 vm h b) := by
  obtain ⟨hw, hEL, ⟨zc, Scs, hzc⟩, ⟨fm, Sfm, hfm⟩, ⟨fe, ft, tt, Sfe, Efe, Fft, Sft⟩⟩ := id cx
  have hSA := own_SA hw
  refine Met.of_walk (a0 := a0) #[.val (.ref x), .val (.ref b), .val (.int (Int32.ofNat j)), .val (.int (0 : Int32))] (plainFor_of_name own_pn13) X00 hEL (fun m => by first | (simp [entryFrame, mkF, argsToLocals, Value.category]; done) | rfl) ?_
  intro p e s m below meth c vm hx hby hml hret hnm hC0
  have lt_x : h0.size > x := P0.1.lt
  have lt_t : h0.size > t := P0.tlt
  have lt_b : h0.size > b := P1.lt
  have L3 := hC0.safe lt_b P3
  obtain ⟨ks, eS⟩ := P0.2.2.2.1
  refine gs (mkF m 1 #[.val (.ref x), .val (.ref b), .val (.int (Int32.ofNat j)), .val (.int (0 : Int32))] [(.ref x)]) (fun _ _ A kq => XS.aloadN A hx rfl (hb hby own_d_jdk_42_method_147_0) rfl rfl kq) ?_
  refine ginfo fun _ _ O1 => ?_
  refine gcallV (y := (⟨"java/lang/String", "coder", "()B"⟩ : MethodName)) (z := (⟨"java/lang/String", "coder", "()B"⟩ : MethodName)) hx (ow hw 98 rfl) (ow hw 99 rfl) (nfSel (ow hw 101 rfl)) (ow hw 101 rfl) (ow hw 100 rfl) (by decide) (fun hZ H hEL => Pay.of_met (W := 0) (own_scoder l Z a0 cx [] (x) (t) (ds) vm h0 O1 P0) (ow hw 102 rfl) (ow hw 6 rfl) (by decide) (by decide) hZ H hEL) 4 (argsL := []) (rest := []) P0.1 (lenOf own_pd99 rfl) rfl rfl (Nat.le_of_eq rfl) (by rw [hml]; rfl) (hb hby own_d_jdk_42_method_147_1) rfl (by decide) (by decide) ?_
  rintro _ vm1 h1 C1 ⟨rfl, rfl⟩
  have z1 := C1.2.1
  refine gat (mkF m 4 #[.val (.ref x), .val (.ref b), .val (.int (Int32.ofNat j)), .val (.int (0 : Int32))] [(.int (0 : Int32))]) rfl ?_
  refine gs (mkF m 5 #[.val (.ref x), .val (.ref b), .val (.int (Int32.ofNat j)), .val (.int (0 : Int32))] [(.int (0 : Int32)), (.int (0 : Int32))]) (fun _ _ A kq => XS.iloadN A hx rfl (hb hby own_d_jdk_42_method_147_4) rfl  kq) ?_
  refine gs (mkF m 8 #[.val (.ref x), .val (.ref b), .val (.int (Int32.ofNat j)), .val (.int (0 : Int32))] []) (fun _ _ A kq => XS.icmpNo A hx rfl (hb hby own_d_jdk_42_method_147_5) rfl (teq (by decide)).2 kq) ?_
  refine gs (mkF m 9 #[.val (.ref x), .val (.ref b), .val (.int (Int32.ofNat j)), .val (.int (0 : Int32))] [(.ref x)]) (fun _ _ A kq => XS.aloadN A hx rfl (hb hby own_d_jdk_42_method_147_8) rfl rfl kq) ?_
  refine ggetF (host := "") hx (Or.inl (ow hw 35 rfl)) Via.refl P0.2.2.1 12 (hb hby own_d_jdk_42_method_147_9) rfl ?_
  refine gs (mkF m 13 #[.val (.ref x), .val (.ref b), .val (.int (Int32.ofNat j)), .val (.int (0 : Int32))] [(.int (0 : Int32)), (.ref t)]) (fun _ _ A kq => XS.iconst A hx rfl (hb hby own_d_jdk_42_method_147_12) kq) ?_
  refine gs (mkF m 14 #[.val (.ref x), .val (.ref b), .val (.int (Int32.ofNat j)), .val (.int (0 : Int32))] [(.ref b), (.int (0 : Int32)), (.ref t)]) (fun _ _ A kq => XS.aloadN A hx rfl (hb hby own_d_jdk_42_method_147_13) rfl rfl kq) ?_
  refine gs (mkF m 15 #[.val (.ref x), .val (.ref b), .val (.int (Int32.ofNat j)), .val (.int (0 : Int32))] [(.int (Int32.ofNat j)), (.ref b), (.int (0 : Int32)), (.ref t)]) (fun _ _ A kq => XS.iloadN A hx rfl (hb hby own_d_jdk_42_method_147_14) rfl  kq) ?_
  refine gs (mkF m 16 #[.val (.ref x), .val (.ref b), .val (.int (Int32.ofNat j)), .val (.int (0 : Int32))] [(.int (0 : Int32)), (.int (Int32.ofNat j)), (.ref b), (.int (0 : Int32)), (.ref t)]) (fun _ _ A kq => XS.iloadN A hx rfl (hb hby own_d_jdk_42_method_147_15) rfl  kq) ?_
  refine gs (mkF m 17 #[.val (.ref x), .val (.ref b), .val (.int (Int32.ofNat j)), .val (.int (0 : Int32))] [(.int ((Int32.ofNat j) <<< ((0 : Int32) &&& 31))), (.ref b), (.int (0 : Int32)), (.ref t)]) (fun _ _ A kq => XS.ishl A hx rfl (hb hby own_d_jdk_42_method_147_16) rfl kq) ?_
  refine gat (mkF m 17 #[.val (.ref x), .val (.ref b), .val (.int (Int32.ofNat j)), .val (.int (0 : Int32))] [(.int (Int32.ofNat j)), (.ref b), (.int (0 : Int32)), (.ref t)]) (by rw [shl0 (by omega)]) ?_
  refine gs (mkF m 18 #[.val (.ref x), .val (.ref b), .val (.int (Int32.ofNat j)), .val (.int (0 : Int32))] [(.ref x), (.int (Int32.ofNat j)), (.ref b), (.int (0 : Int32)), (.ref t)]) (fun _ _ A kq => XS.aloadN A hx rfl (hb hby own_d_jdk_42_method_147_17) rfl rfl kq) ?_
  refine ggetF (host := "") hx (Or.inl (ow hw 35 rfl)) Via.refl P0.2.2.1 21 (hb hby own_d_jdk_42_method_147_18) rfl ?_
  refine glen hx eS 22 (hb hby own_d_jdk_42_method_147_21) rfl ?_
  have f3 := (C1.safe (show h0.size > b by omega) L3)
  refine gcopyN hx (ow hw 126 rfl) (ow hw 129 rfl) (ow hw 127 rfl) (ow hw 128 rfl) (0) (j) (ds.length) (ds.length) (M) eS P1 rfl rfl rfl rfl rfl (by omega) (by omega) (by omega) hj (lo8s_len _) hvd P2 (fun _ => f3) 25 (W := 0) (Nat.le_of_eq rfl) (by rw [hml]; rfl) (hb hby own_d_jdk_42_method_147_22) rfl (by decide) (by decide) ?_
  intro h2 K2 C2 V2
  have z2 := C2.2.1
  rw [show (0 : Nat) = 0 from rfl] at V2
  refine gs (mkF m 43 #[.val (.ref x), .val (.ref b), .val (.int (Int32.ofNat j)), .val (.int (0 : Int32))] []) (fun _ _ A kq => XS.goto A hx rfl (pc0 := 25) (pc' := 43) rfl (hb hby own_d_jdk_42_method_147_25) (by decide) (by decide) kq) ?_
  have f5 := (C2.safe (show h0.size > b by omega) f3)
  exact gretV hx hret (hb hby own_d_jdk_42_method_147_43) (by decide) (by decide) (fun vq Cq => ⟨rfl, ((Keep.refl h0 [b]).trans K2 (allS (Or.inl (List.mem_of_getElem? (i := 0) rfl)) all0)), V2, (Cq.safe (show h2.size > b by omega) f5)⟩)
theorem own_d_jdk_68_method_73_0 : decode jdk_68_method_73_code 0 = .ok (.aload_n 0, 1) := by decide +kernel
theorem own_d_jdk_68_method_73_1 : decode jdk_68_method_73_code 1 = .ok (.aload_n 2, 1) := by decide +kernel
theorem own_d_jdk_68_method_73_2 : decode jdk_68_method_73_code 2 = .ok (.invokevirtual 397, 3) := by decide +kernel
theorem own_pd122 : parseMethodDescriptor "(Ljava/lang/String;)V" = some ⟨[(.object "java/lang/String")], none⟩ := by decide +kernel
theorem own_d_jdk_68_method_73_5 : decode jdk_68_method_73_code 5 = .ok (.aload_n 2, 1) := by decide +kernel
theorem own_d_jdk_68_method_73_6 : decode jdk_68_method_73_code 6 = .ok (.aload_n 0, 1) := by decide +kernel
theorem own_d_jdk_68_method_73_7 : decode jdk_68_method_73_code 7 = .ok (.getfield 15, 3) := by decide +kernel
theorem own_d_jdk_68_method_73_10 : decode jdk_68_method_73_code 10 = .ok (.iload_n 1, 1) := by decide +kernel
theorem own_d_jdk_68_method_73_11 : decode jdk_68_method_73_code 11 = .ok (.aload_n 0, 1) := by decide +kernel
theorem own_d_jdk_68_method_73_12 : decode jdk_68_method_73_code 12 = .ok (.getfield 22, 3) := by decide +kernel
theorem own_d_jdk_68_method_73_15 : decode jdk_68_method_73_code 15 = .ok (.invokevirtual 399, 3) := by decide +kernel
theorem own_pd130 : parseMethodDescriptor "([BIB)V" = some ⟨[(.array .byte), .int, .byte], none⟩ := by decide +kernel
theorem own_d_jdk_68_method_73_18 : decode jdk_68_method_73_code 18 = .ok (.return_, 1) := by decide +kernel
set_option maxRecDepth 65536 in
set_option maxHeartbeats 40000000 in
theorem own_putAt (l : Launch) (Z : State) (a0 : Array Value) (cx : Ctx Z a0) (ws : List Jvm.Cond) (x : Addr) (j : Nat) (y : Addr) (b : Addr) (t : Addr) (ds : List Int32) (kb : ClassId) (M : Nat) (vd : List Value) (vm0 : Vm) (h0 : Heap) (X00 : Ext Z.heap h0) (P0 : Exa Z h0 x "java/lang/StringBuilder") (P1 : Fld Z h0 x "java/lang/AbstractStringBuilder" "value" "[B" (.ref b)) (P2 : Fld Z h0 x "java/lang/AbstractStringBuilder" "coder" "B" (.int (0 : Int32))) (P3 : Str Z h0 y t ds) (P4 : Arv Z h0 b kb .byte (Int32.ofNat M) vd (.int (0 : Int32))) (P5 : Z.heap.size ≤ b) (P6 : Safe Z consts_1 vm0 h0 b) (hj : (j + ds.length ≤ M)) (hM : (M ≤ 4000)) (hvd : (vd.length = M)) :
    Met l (⟨"java/lang/AbstractStringBuilder", "putStringAt", "(ILjava/lang/String;)V"⟩ : MethodName) jdk_68_method_73_code 3 none ws ({ frames := 2, cells := 0, slots := 0, locals := 33 } : Room) Z consts_1 vm0 h0 #[(.ref x), (.int (Int32.ofNat j)), (.ref y)] (fun rv vm h => rv = none ∧ Keep h0 h [b] ∧ Arv Z h b kb .byte (Int32.ofNat M) (vd.take j ++ ((lo8s ds).drop 0).take ds.length ++ vd.drop (j + ds.length)) (.int (0 : Int32)) ∧ Safe Z consts_1 vm h b) := by
  obtain ⟨hw, hEL, ⟨zc, Scs, hzc⟩, ⟨fm, Sfm, hfm⟩, ⟨fe, ft, tt, Sfe, Efe, Fft, Sft⟩⟩ := id cx
  have hSA := own_SA hw
  refine Met.of_walk (a0 := a0) #[.val (.ref x), .val (.int (Int32.ofNat j)), .val (.ref y)] (plainFor_of_name own_pn80) X00 hEL (fun m => by first | (simp [entryFrame, mkF, argsToLocals, Value.category]; done) | rfl) ?_
  intro p e s m below meth c vm hx hby hml hret hnm hC0
  have lt_x : h0.size > x := P0.lt
  have lt_y : h0.size > y := P3.1.lt
  have lt_t : h0.size > t := P3.tlt
  have lt_b : h0.size > b := P4.lt
  have L6 := hC0.safe lt_b P6
  refine gs (mkF m 1 #[.val (.ref x), .val (.int (Int32.ofNat j)), .val (.ref y)] [(.ref x)]) (fun _ _ A kq => XS.aloadN A hx rfl (hb hby own_d_jdk_68_method_73_0) rfl rfl kq) ?_
  refine gs (mkF m 2 #[.val (.ref x), .val (.int (Int32.ofNat j)), .val (.ref y)] [(.ref y), (.ref x)]) (fun _ _ A kq => XS.aloadN A hx rfl (hb hby own_d_jdk_68_method_73_1) rfl rfl kq) ?_
  refine ginfo fun _ _ O1 => ?_
  refine gcallQ (y := (⟨"java/lang/AbstractStringBuilder", "inflateIfNeededFor", "(Ljava/lang/String;)V"⟩ : MethodName)) hx (ow hw 115 rfl) (ow hw 116 rfl) (ow hw 118 rfl) (ow hw 117 rfl) (ow hw 119 rfl) (by decide) (fun hZ H hEL => Pay.of_met (W := 0) (own_inflate l Z a0 cx [] (x) (y) (t) (ds) vm h0 O1 P2 P3) (ow hw 119 rfl) (ow hw 70 rfl) (by decide) (by decide) hZ H hEL) 5 (argsL := [(.ref y)]) (rest := []) P0 (lenOf own_pd122 rfl) rfl rfl (Nat.le_of_eq rfl) (by rw [hml]; rfl) (hb hby own_d_jdk_68_method_73_2) rfl (by decide) (by decide) ?_
  rintro _ vm1 h1 C1 ⟨rfl, rfl⟩
  have z1 := C1.2.1
  refine gat (mkF m 5 #[.val (.ref x), .val (.int (Int32.ofNat j)), .val (.ref y)] []) rfl ?_
  refine gs (mkF m 6 #[.val (.ref x), .val (.int (Int32.ofNat j)), .val (.ref y)] [(.ref y)]) (fun _ _ A kq => XS.aloadN A hx rfl (hb hby own_d_jdk_68_method_73_5) rfl rfl kq) ?_
  refine gs (mkF m 7 #[.val (.ref x), .val (.int (Int32.ofNat j)), .val (.ref y)] [(.ref x), (.ref y)]) (fun _ _ A kq => XS.aloadN A hx rfl (hb hby own_d_jdk_68_method_73_6) rfl rfl kq) ?_
  refine ggetF (host := "") hx (Or.inl (ow hw 74 rfl)) Via.refl P1 10 (hb hby own_d_jdk_68_method_73_7) rfl ?_
  refine gs (mkF m 11 #[.val (.ref x), .val (.int (Int32.ofNat j)), .val (.ref y)] [(.int (Int32.ofNat j)), (.ref b), (.ref y)]) (fun _ _ A kq => XS.iloadN A hx rfl (hb hby own_d_jdk_68_method_73_10) rfl  kq) ?_
  refine gs (mkF m 12 #[.val (.ref x), .val (.int (Int32.ofNat j)), .val (.ref y)] [(.ref x), (.int (Int32.ofNat j)), (.ref b), (.ref y)]) (fun _ _ A kq => XS.aloadN A hx rfl (hb hby own_d_jdk_68_method_73_11) rfl rfl kq) ?_
  refine ggetF (host := "") hx (Or.inl (ow hw 76 rfl)) Via.refl P2 15 (hb hby own_d_jdk_68_method_73_12) rfl ?_
  have f3 := (C1.safe (show h0.size > b by omega) L6)
  refine ginfo fun _ _ O2 => ?_
  refine gcallV (y := (⟨"java/lang/String", "getBytes", "([BIB)V"⟩ : MethodName)) (z := (⟨"java/lang/String", "getBytes", "([BIB)V"⟩ : MethodName)) hx (ow hw 121 rfl) (ow hw 122 rfl) (nfSel (ow hw 124 rfl)) (ow hw 124 rfl) (ow hw 123 rfl) (by decide) (fun hZ H hEL => Pay.of_met (W := 0) (own_getBytes l Z a0 cx [] (y) (b) (j) (t) (ds) (kb) (M) (vd) vm1 h0 O2 P3 P4 P5 f3 (by first | assumption | decide | omega) (by first | assumption | decide | omega) (by first | assumption | decide | omega)) (ow hw 125 rfl) (ow hw 6 rfl) (by decide) (by decide) hZ H hEL) 18 (argsL := [(.ref b), (.int (Int32.ofNat j)), (.int (0 : Int32))]) (rest := []) P3.1 (lenOf own_pd130 rfl) rfl rfl (Nat.le_of_eq rfl) (by rw [hml]; rfl) (hb hby own_d_jdk_68_method_73_15) rfl (by decide) (by decide) ?_
  rintro _ vm2 h2 C2 ⟨rfl, K2, q2_0, q2_1⟩
  have z2 := C2.2.1
  refine gat (mkF m 18 #[.val (.ref x), .val (.int (Int32.ofNat j)), .val (.ref y)] []) rfl ?_
  exact gretV hx hret (hb hby own_d_jdk_68_method_73_18) (by decide) (by decide) (fun vq Cq => ⟨rfl, ((Keep.refl h0 [b]).trans K2 (allS (Or.inl (List.mem_of_getElem? (i := 0) rfl)) all0)), q2_0, (Cq.safe (show h2.size > b by omega) q2_1)⟩)
theorem own_d_jdk_68_method_9_0 : decode jdk_68_method_9_code 0 = .ok (.aload_n 0, 1) := by decide +kernel
theorem own_d_jdk_68_method_9_1 : decode jdk_68_method_9_code 1 = .ok (.getfield 15, 3) := by decide +kernel
theorem own_d_jdk_68_method_9_4 : decode jdk_68_method_9_code 4 = .ok (.arraylength, 1) := by decide +kernel
theorem own_d_jdk_68_method_9_5 : decode jdk_68_method_9_code 5 = .ok (.aload_n 0, 1) := by decide +kernel
theorem own_d_jdk_68_method_9_6 : decode jdk_68_method_9_code 6 = .ok (.getfield 22, 3) := by decide +kernel
theorem own_d_jdk_68_method_9_9 : decode jdk_68_method_9_code 9 = .ok (.ishr, 1) := by decide +kernel
theorem own_d_jdk_68_method_9_10 : decode jdk_68_method_9_code 10 = .ok (.istore_n 2, 1) := by decide +kernel
theorem own_d_jdk_68_method_9_11 : decode jdk_68_method_9_code 11 = .ok (.iload_n 1, 1) := by decide +kernel
theorem own_d_jdk_68_method_9_12 : decode jdk_68_method_9_code 12 = .ok (.iload_n 2, 1) := by decide +kernel
theorem own_d_jdk_68_method_9_13 : decode jdk_68_method_9_code 13 = .ok (.isub, 1) := by decide +kernel
theorem own_d_jdk_68_method_9_14 : decode jdk_68_method_9_code 14 = .ok (.ifCond .le 24, 3) := by decide +kernel
theorem own_d_jdk_68_method_9_38 : decode jdk_68_method_9_code 38 = .ok (.return_, 1) := by decide +kernel
set_option maxRecDepth 65536 in
set_option maxHeartbeats 40000000 in
theorem own_ensure (l : Launch) (Z : State) (a0 : Array Value) (cx : Ctx Z a0) (ws : List Jvm.Cond) (x : Addr) (k : Nat) (v : Addr) (kb : ClassId) (M : Nat) (vd : List Value) (vm0 : Vm) (h0 : Heap) (X00 : Ext Z.heap h0) (P0 : Fld Z h0 x "java/lang/AbstractStringBuilder" "value" "[B" (.ref v)) (P1 : Fld Z h0 x "java/lang/AbstractStringBuilder" "coder" "B" (.int (0 : Int32))) (P2 : Arv Z h0 v kb .byte (Int32.ofNat M) vd (.int (0 : Int32))) (hk : (k ≤ M)) (hM : (M ≤ 4000)) :
    Met l (⟨"java/lang/AbstractStringBuilder", "ensureCapacityInternal", "(I)V"⟩ : MethodName) jdk_68_method_9_code 3 none ws ({ frames := 0, cells := 0, slots := 0, locals := 0 } : Room) Z consts_1 vm0 h0 #[(.ref x), (.int (Int32.ofNat k))] (fun rv vm h => rv = none ∧ h0 = h) := by
  obtain ⟨hw, hEL, ⟨zc, Scs, hzc⟩, ⟨fm, Sfm, hfm⟩, ⟨fe, ft, tt, Sfe, Efe, Fft, Sft⟩⟩ := id cx
  have hSA := own_SA hw
  refine Met.of_walk (a0 := a0) #[.val (.ref x), .val (.int (Int32.ofNat k)), .unset] (plainFor_of_name own_pn80) X00 hEL (fun m => by first | (simp [entryFrame, mkF, argsToLocals, Value.category]; done) | rfl) ?_
  intro p e s m below meth c vm hx hby hml hret hnm hC0
  have lt_x : h0.size > x := P0.lt
  have lt_v : h0.size > v := P2.lt
  refine gs (mkF m 1 #[.val (.ref x), .val (.int (Int32.ofNat k)), .unset] [(.ref x)]) (fun _ _ A kq => XS.aloadN A hx rfl (hb hby own_d_jdk_68_method_9_0) rfl rfl kq) ?_
  refine ggetF (host := "") hx (Or.inl (ow hw 74 rfl)) Via.refl P0 4 (hb hby own_d_jdk_68_method_9_1) rfl ?_
  refine glen hx P2 5 (hb hby own_d_jdk_68_method_9_4) rfl ?_
  refine gs (mkF m 6 #[.val (.ref x), .val (.int (Int32.ofNat k)), .unset] [(.ref x), (.int (Int32.ofNat M))]) (fun _ _ A kq => XS.aloadN A hx rfl (hb hby own_d_jdk_68_method_9_5) rfl rfl kq) ?_
  refine ggetF (host := "") hx (Or.inl (ow hw 76 rfl)) Via.refl P1 9 (hb hby own_d_jdk_68_method_9_6) rfl ?_
  refine gs (mkF m 10 #[.val (.ref x), .val (.int (Int32.ofNat k)), .unset] [(.int ((Int32.ofNat M) >>> ((0 : Int32) &&& 31)))]) (fun _ _ A kq => XS.ishr A hx rfl (hb hby own_d_jdk_68_method_9_9) rfl kq) ?_
  refine gat (mkF m 10 #[.val (.ref x), .val (.int (Int32.ofNat k)), .unset] [(.int (Int32.ofNat M))]) (by rw [shr0 hM]) ?_
  refine gs (mkF m 11 #[.val (.ref x), .val (.int (Int32.ofNat k)), .val (.int (Int32.ofNat M))] []) (fun _ _ A kq => XS.istoreN A hx rfl (hb hby own_d_jdk_68_method_9_10) rfl (l' := #[.val (.ref x), .val (.int (Int32.ofNat k)), .val (.int (Int32.ofNat M))]) rfl kq) ?_
  refine gs (mkF m 12 #[.val (.ref x), .val (.int (Int32.ofNat k)), .val (.int (Int32.ofNat M))] [(.int (Int32.ofNat k))]) (fun _ _ A kq => XS.iloadN A hx rfl (hb hby own_d_jdk_68_method_9_11) rfl  kq) ?_
  refine gs (mkF m 13 #[.val (.ref x), .val (.int (Int32.ofNat k)), .val (.int (Int32.ofNat M))] [(.int (Int32.ofNat M)), (.int (Int32.ofNat k))]) (fun _ _ A kq => XS.iloadN A hx rfl (hb hby own_d_jdk_68_method_9_12) rfl  kq) ?_
  refine gs (mkF m 14 #[.val (.ref x), .val (.int (Int32.ofNat k)), .val (.int (Int32.ofNat M))] [(.int ((Int32.ofNat k) - (Int32.ofNat M)))]) (fun _ _ A kq => XS.isub A hx rfl (hb hby own_d_jdk_68_method_9_13) rfl kq) ?_
  refine gs (mkF m 38 #[.val (.ref x), .val (.int (Int32.ofNat k)), .val (.int (Int32.ofNat M))] []) (fun _ _ A kq => XS.ifYes A hx rfl (pc0 := 14) (pc' := 38) rfl (hb hby own_d_jdk_68_method_9_14) rfl ((if0 _ _).trans (flt (subLe (by omega) hM hk)).2.2.2) (by decide) (by decide) kq) ?_
  exact gretV hx hret (hb hby own_d_jdk_68_method_9_38) (by decide) (by decide) (fun vq Cq => ⟨rfl, rfl⟩)
theorem own_d_jdk_68_method_22_0 : decode jdk_68_method_22_code 0 = .ok (.aload_n 1, 1) := by decide +kernel
theorem own_d_jdk_68_method_22_1 : decode jdk_68_method_22_code 1 = .ok (.ifnonnull 8, 3) := by decide +kernel
theorem own_d_jdk_68_method_22_9 : decode jdk_68_method_22_code 9 = .ok (.aload_n 1, 1) := by decide +kernel
theorem own_d_jdk_68_method_22_10 : decode jdk_68_method_22_code 10 = .ok (.invokevirtual 32, 3) := by decide +kernel
theorem own_pd148 : parseMethodDescriptor "()I" = some ⟨[], some .int⟩ := by decide +kernel
theorem own_d_jdk_68_method_22_13 : decode jdk_68_method_22_code 13 = .ok (.istore_n 2, 1) := by decide +kernel
theorem own_d_jdk_68_method_22_14 : decode jdk_68_method_22_code 14 = .ok (.aload_n 0, 1) := by decide +kernel
theorem own_d_jdk_68_method_22_15 : decode jdk_68_method_22_code 15 = .ok (.aload_n 0, 1) := by decide +kernel
theorem own_d_jdk_68_method_22_16 : decode jdk_68_method_22_code 16 = .ok (.getfield 79, 3) := by decide +kernel
theorem own_d_jdk_68_method_22_19 : decode jdk_68_method_22_code 19 = .ok (.iload_n 2, 1) := by decide +kernel
theorem own_d_jdk_68_method_22_20 : decode jdk_68_method_22_code 20 = .ok (.iadd, 1) := by decide +kernel
theorem own_d_jdk_68_method_22_21 : decode jdk_68_method_22_code 21 = .ok (.invokevirtual 100, 3) := by decide +kernel
theorem own_d_jdk_68_method_22_24 : decode jdk_68_method_22_code 24 = .ok (.aload_n 0, 1) := by decide +kernel
theorem own_d_jdk_68_method_22_25 : decode jdk_68_method_22_code 25 = .ok (.aload_n 0, 1) := by decide +kernel
theorem own_d_jdk_68_method_22_26 : decode jdk_68_method_22_code 26 = .ok (.getfield 79, 3) := by decide +kernel
theorem own_d_jdk_68_method_22_29 : decode jdk_68_method_22_code 29 = .ok (.aload_n 1, 1) := by decide +kernel
theorem own_d_jdk_68_method_22_30 : decode jdk_68_method_22_code 30 = .ok (.invokevirtual 208, 3) := by decide +kernel
theorem own_pd161 : parseMethodDescriptor "(ILjava/lang/String;)V" = some ⟨[.int, (.object "java/lang/String")], none⟩ := by decide +kernel
theorem own_d_jdk_68_method_22_33 : decode jdk_68_method_22_code 33 = .ok (.aload_n 0, 1) := by decide +kernel
theorem own_d_jdk_68_method_22_34 : decode jdk_68_method_22_code 34 = .ok (.dup, 1) := by decide +kernel
theorem own_d_jdk_68_method_22_35 : decode jdk_68_method_22_code 35 = .ok (.getfield 79, 3) := by decide +kernel
theorem own_d_jdk_68_method_22_38 : decode jdk_68_method_22_code 38 = .ok (.iload_n 2, 1) := by decide +kernel
theorem own_d_jdk_68_method_22_39 : decode jdk_68_method_22_code 39 = .ok (.iadd, 1) := by decide +kernel
theorem own_d_jdk_68_method_22_40 : decode jdk_68_method_22_code 40 = .ok (.putfield 79, 3) := by decide +kernel
theorem own_d_jdk_68_method_22_43 : decode jdk_68_method_22_code 43 = .ok (.aload_n 0, 1) := by decide +kernel
theorem own_d_jdk_68_method_22_44 : decode jdk_68_method_22_code 44 = .ok (.areturn, 1) := by decide +kernel
set_option maxRecDepth 65536 in
set_option maxHeartbeats 40000000 in
theorem own_asbappend (l : Launch) (Z : State) (a0 : Array Value) (cx : Ctx Z a0) (ws : List Jvm.Cond) (b : Addr) (y : Addr) (v : Addr) (cap : Nat) (cs : List Int32) (t : Addr) (ds : List Int32) (vm0 : Vm) (h0 : Heap) (X00 : Ext Z.heap h0) (P0 : SBd Z h0 b v cap cs) (P1 : Str Z h0 y t ds) (P2 : Z.heap.size ≤ b) (P3 : Z.heap.size ≤ v) (P4 : Safe Z consts_1 vm0 h0 v) (hcd : (cs.length + ds.length ≤ cap)) (hvt : (v ≠ t)) :
    Met l (⟨"java/lang/AbstractStringBuilder", "append", "(Ljava/lang/String;)Ljava/lang/AbstractStringBuilder;"⟩ : MethodName) jdk_68_method_22_code 3 (some (.object "java/lang/AbstractStringBuilder")) ws ({ frames := 3, cells := 0, slots := 0, locals := 47 } : Room) Z consts_1 vm0 h0 #[(.ref b), (.ref y)] (fun rv vm h => rv = some (.ref b) ∧ Keep h0 h [b, v] ∧ SBd Z h b v cap (cs ++ ds) ∧ Safe Z consts_1 vm h v) := by
  obtain ⟨hw, hEL, ⟨zc, Scs, hzc⟩, ⟨fm, Sfm, hfm⟩, ⟨fe, ft, tt, Sfe, Efe, Fft, Sft⟩⟩ := id cx
  have hSA := own_SA hw
  refine Met.of_walk (a0 := a0) #[.val (.ref b), .val (.ref y), .unset] (plainFor_of_name own_pn80) X00 hEL (fun m => by first | (simp [entryFrame, mkF, argsToLocals, Value.category]; done) | rfl) ?_
  intro p e s m below meth c vm hx hby hml hret hnm hC0
  have lt_v : h0.size > v := P0.vlt
  have lt_b : h0.size > b := P0.1.lt
  have lt_y : h0.size > y := P1.1.lt
  have lt_t : h0.size > t := P1.tlt
  have L4 := hC0.safe lt_v P4
  obtain ⟨eE, eV, eC, eN, ⟨kz, zs, eA, ez⟩, eb, ecap⟩ := P0
  refine gs (mkF m 1 #[.val (.ref b), .val (.ref y), .unset] [(.ref y)]) (fun _ _ A kq => XS.aloadN A hx rfl (hb hby own_d_jdk_68_method_22_0) rfl rfl kq) ?_
  refine gs (mkF m 9 #[.val (.ref b), .val (.ref y), .unset] []) (fun _ _ A kq => XS.ifnonnullYes A hx rfl (pc0 := 1) (pc' := 9) rfl (hb hby own_d_jdk_68_method_22_1) rfl (by decide) (by decide) kq) ?_
  refine gs (mkF m 10 #[.val (.ref b), .val (.ref y), .unset] [(.ref y)]) (fun _ _ A kq => XS.aloadN A hx rfl (hb hby own_d_jdk_68_method_22_9) rfl rfl kq) ?_
  refine ginfo fun _ _ O1 => ?_
  refine gcallV (y := (⟨"java/lang/String", "length", "()I"⟩ : MethodName)) (z := (⟨"java/lang/String", "length", "()I"⟩ : MethodName)) hx (ow hw 93 rfl) (ow hw 94 rfl) (nfSel (ow hw 96 rfl)) (ow hw 96 rfl) (ow hw 95 rfl) (by decide) (fun hZ H hEL => own_payLen (W := 0) (own_wLen hw) (ow hw 5 rfl) Scs hzc O1 (N := (Int32.ofNat (ds).length)) P1 rfl (by decide) (by decide) hZ H hEL) 13 (argsL := []) (rest := []) P1.1 (lenOf own_pd148 rfl) rfl rfl (Nat.le_of_eq rfl) (by rw [hml]; rfl) (hb hby own_d_jdk_68_method_22_10) rfl (by decide) (by decide) ?_
  rintro _ vm1 h1 C1 ⟨rfl, rfl⟩
  have z1 := C1.2.1
  refine gat (mkF m 13 #[.val (.ref b), .val (.ref y), .unset] [(.int (Int32.ofNat (ds).length))]) rfl ?_
  refine gs (mkF m 14 #[.val (.ref b), .val (.ref y), .val (.int (Int32.ofNat (ds).length))] []) (fun _ _ A kq => XS.istoreN A hx rfl (hb hby own_d_jdk_68_method_22_13) rfl (l' := #[.val (.ref b), .val (.ref y), .val (.int (Int32.ofNat (ds).length))]) rfl kq) ?_
  refine gs (mkF m 15 #[.val (.ref b), .val (.ref y), .val (.int (Int32.ofNat (ds).length))] [(.ref b)]) (fun _ _ A kq => XS.aloadN A hx rfl (hb hby own_d_jdk_68_method_22_14) rfl rfl kq) ?_
  refine gs (mkF m 16 #[.val (.ref b), .val (.ref y), .val (.int (Int32.ofNat (ds).length))] [(.ref b), (.ref b)]) (fun _ _ A kq => XS.aloadN A hx rfl (hb hby own_d_jdk_68_method_22_15) rfl rfl kq) ?_
  refine ggetF (host := "") hx (Or.inl (ow hw 103 rfl)) Via.refl eN 19 (hb hby own_d_jdk_68_method_22_16) rfl ?_
  refine gs (mkF m 20 #[.val (.ref b), .val (.ref y), .val (.int (Int32.ofNat (ds).length))] [(.int (Int32.ofNat (ds).length)), (.int (Int32.ofNat (cs).length)), (.ref b)]) (fun _ _ A kq => XS.iloadN A hx rfl (hb hby own_d_jdk_68_method_22_19) rfl  kq) ?_
  refine gs (mkF m 21 #[.val (.ref b), .val (.ref y), .val (.int (Int32.ofNat (ds).length))] [(.int ((Int32.ofNat (cs).length) + (Int32.ofNat (ds).length))), (.ref b)]) (fun _ _ A kq => XS.iadd A hx rfl (hb hby own_d_jdk_68_method_22_20) rfl kq) ?_
  refine gat (mkF m 21 #[.val (.ref b), .val (.ref y), .val (.int (Int32.ofNat (ds).length))] [(.int (Int32.ofNat (cs.length + ds.length))), (.ref b)]) (by rw [addOf (by omega)]) ?_
  refine ginfo fun _ _ O2 => ?_
  refine gcallQ (y := (⟨"java/lang/AbstractStringBuilder", "ensureCapacityInternal", "(I)V"⟩ : MethodName)) hx (ow hw 105 rfl) (ow hw 106 rfl) (ow hw 108 rfl) (ow hw 107 rfl) (ow hw 109 rfl) (by decide) (fun hZ H hEL => Pay.of_met (W := 0) (own_ensure l Z a0 cx [] (b) (cs.length + ds.length) (v) (kz) (cap) ((lo8s cs ++ zs)) vm1 h0 O2 eV eC eA (by first | assumption | decide | omega) (by first | assumption | decide | omega)) (ow hw 109 rfl) (ow hw 70 rfl) (by decide) (by decide) hZ H hEL) 24 (argsL := [(.int (Int32.ofNat (cs.length + ds.length)))]) (rest := []) eE (lenOf own_pd84 rfl) rfl rfl (Nat.le_of_eq rfl) (by rw [hml]; rfl) (hb hby own_d_jdk_68_method_22_21) rfl (by decide) (by decide) ?_
  rintro _ vm2 h2 C2 ⟨rfl, rfl⟩
  have z2 := C2.2.1
  refine gat (mkF m 24 #[.val (.ref b), .val (.ref y), .val (.int (Int32.ofNat (ds).length))] []) rfl ?_
  refine gs (mkF m 25 #[.val (.ref b), .val (.ref y), .val (.int (Int32.ofNat (ds).length))] [(.ref b)]) (fun _ _ A kq => XS.aloadN A hx rfl (hb hby own_d_jdk_68_method_22_24) rfl rfl kq) ?_
  refine gs (mkF m 26 #[.val (.ref b), .val (.ref y), .val (.int (Int32.ofNat (ds).length))] [(.ref b), (.ref b)]) (fun _ _ A kq => XS.aloadN A hx rfl (hb hby own_d_jdk_68_method_22_25) rfl rfl kq) ?_
  refine ggetF (host := "") hx (Or.inl (ow hw 103 rfl)) Via.refl eN 29 (hb hby own_d_jdk_68_method_22_26) rfl ?_
  refine gs (mkF m 30 #[.val (.ref b), .val (.ref y), .val (.int (Int32.ofNat (ds).length))] [(.ref y), (.int (Int32.ofNat (cs).length)), (.ref b)]) (fun _ _ A kq => XS.aloadN A hx rfl (hb hby own_d_jdk_68_method_22_29) rfl rfl kq) ?_
  have f4 := (C2.safe (show h0.size > v by omega) (C1.safe (show h0.size > v by omega) L4))
  refine ginfo fun _ _ O3 => ?_
  refine gcallQ (y := (⟨"java/lang/AbstractStringBuilder", "putStringAt", "(ILjava/lang/String;)V"⟩ : MethodName)) hx (ow hw 110 rfl) (ow hw 111 rfl) (ow hw 113 rfl) (ow hw 112 rfl) (ow hw 114 rfl) (by decide) (fun hZ H hEL => Pay.of_met (W := 0) (own_putAt l Z a0 cx [] (b) (cs.length) (y) (v) (t) (ds) (kz) (cap) ((lo8s cs ++ zs)) vm2 h0 O3 eE eV eC P1 eA P3 f4 (by first | assumption | decide | omega) (by first | assumption | decide | omega) (by simp only [List.length_append, lo8s_len]; exact ez)) (ow hw 114 rfl) (ow hw 70 rfl) (by decide) (by decide) hZ H hEL) 33 (argsL := [(.int (Int32.ofNat (cs).length)), (.ref y)]) (rest := []) eE (lenOf own_pd161 rfl) rfl rfl (Nat.le_of_eq rfl) (by rw [hml]; rfl) (hb hby own_d_jdk_68_method_22_30) rfl (by decide) (by decide) ?_
  rintro _ vm3 h3 C3 ⟨rfl, K3, q3_0, q3_1⟩
  have z3 := C3.2.1
  refine gat (mkF m 33 #[.val (.ref b), .val (.ref y), .val (.int (Int32.ofNat (ds).length))] []) rfl ?_
  have VL := q3_0
  rw [put_list] at VL
  refine gs (mkF m 34 #[.val (.ref b), .val (.ref y), .val (.int (Int32.ofNat (ds).length))] [(.ref b)]) (fun _ _ A kq => XS.aloadN A hx rfl (hb hby own_d_jdk_68_method_22_33) rfl rfl kq) ?_
  refine gs (mkF m 35 #[.val (.ref b), .val (.ref y), .val (.int (Int32.ofNat (ds).length))] [(.ref b), (.ref b)]) (fun _ _ A kq => XS.dup A hx rfl (hb hby own_d_jdk_68_method_22_34) rfl rfl kq) ?_
  have f5 := (eN.keep K3 (ninS (Exa.neArv (eE.keep K3) VL (ow hw 61 rfl)) nin0))
  refine ggetF (host := "") hx (Or.inl (ow hw 103 rfl)) Via.refl f5 38 (hb hby own_d_jdk_68_method_22_35) rfl ?_
  refine gs (mkF m 39 #[.val (.ref b), .val (.ref y), .val (.int (Int32.ofNat (ds).length))] [(.int (Int32.ofNat (ds).length)), (.int (Int32.ofNat (cs).length)), (.ref b)]) (fun _ _ A kq => XS.iloadN A hx rfl (hb hby own_d_jdk_68_method_22_38) rfl  kq) ?_
  refine gs (mkF m 40 #[.val (.ref b), .val (.ref y), .val (.int (Int32.ofNat (ds).length))] [(.int ((Int32.ofNat (cs).length) + (Int32.ofNat (ds).length))), (.ref b)]) (fun _ _ A kq => XS.iadd A hx rfl (hb hby own_d_jdk_68_method_22_39) rfl kq) ?_
  refine gat (mkF m 40 #[.val (.ref b), .val (.ref y), .val (.int (Int32.ofNat (ds).length))] [(.int (Int32.ofNat (cs.length + ds.length))), (.ref b)]) (by rw [addOf (by omega)]) ?_
  have f6 := (eE.keep K3)
  refine gputF (host := "") hx (Or.inl (ow hw 103 rfl)) Via.refl f5 f6 (Or.inl (ow hw 104 rfl)) (ow hw 61 rfl) (ty := .int) (by decide) rfl rfl P2 (fun al => Safe.exa al f6 (by decide) (by decide)) 43 (hb hby own_d_jdk_68_method_22_40) rfl ?_
  intro h7 W7 C7
  have z7 := C7.2.1
  have F7 := f5.same W7
  refine gs (mkF m 44 #[.val (.ref b), .val (.ref y), .val (.int (Int32.ofNat (ds).length))] [(.ref b)]) (fun _ _ A kq => XS.aloadN A hx rfl (hb hby own_d_jdk_68_method_22_43) rfl rfl kq) ?_
  have N8 : Fld Z h7 b "java/lang/AbstractStringBuilder" "count" "I" (.int (Int32.ofNat (cs ++ ds).length)) := by rw [List.length_append]; exact F7
  have f9 := (f6.wr W7)
  have f10 := ((eV.keep K3 (ninS (Exa.neArv f6 VL (ow hw 61 rfl)) nin0)).other W7 (Or.inr (slot_ne (Or.inl (ow hw 75 rfl)) (Or.inl (ow hw 104 rfl)) (by decide) (t := (.array .byte)) (t' := .int) (by decide) (by decide))))
  have f11 := ((eC.keep K3 (ninS (Exa.neArv f6 VL (ow hw 61 rfl)) nin0)).other W7 (Or.inr (slot_ne (Or.inl (ow hw 77 rfl)) (Or.inl (ow hw 104 rfl)) (by decide) (t := .byte) (t' := .int) (by decide) (by decide))))
  have f12 := (VL.other W7 (Ne.symm (Exa.neArv f6 VL (ow hw 61 rfl))))
  have f14 := (C7.safe (show h3.size > v by omega) q3_1)
  exact gretA hx hret rfl rfl (hb hby own_d_jdk_68_method_22_44) (by decide) (by decide) (fun vq Cq => ⟨rfl, (((Keep.refl h0 [b, v]).trans K3 (allS (Or.inl (List.mem_of_getElem? (i := 1) rfl)) all0)).wr W7 (Or.inl (List.mem_of_getElem? (i := 0) rfl))), ⟨f9, f10, f11, N8, ⟨_, _, f12, by simp only [List.length_append, List.length_drop]; omega⟩, bapp eb P1.2.2.2.2.1, ecap⟩, (Cq.safe (show h7.size > v by omega) f14)⟩)
theorem own_d_jdk_67_method_7_0 : decode jdk_67_method_7_code 0 = .ok (.aload_n 0, 1) := by decide +kernel
theorem own_d_jdk_67_method_7_1 : decode jdk_67_method_7_code 1 = .ok (.aload_n 1, 1) := by decide +kernel
theorem own_d_jdk_67_method_7_2 : decode jdk_67_method_7_code 2 = .ok (.invokespecial 29, 3) := by decide +kernel
theorem own_pd173 : parseMethodDescriptor "(Ljava/lang/String;)Ljava/lang/AbstractStringBuilder;" = some ⟨[(.object "java/lang/String")], some (.object "java/lang/AbstractStringBuilder")⟩ := by decide +kernel
theorem own_d_jdk_67_method_7_5 : decode jdk_67_method_7_code 5 = .ok (.pop, 1) := by decide +kernel
theorem own_d_jdk_67_method_7_6 : decode jdk_67_method_7_code 6 = .ok (.aload_n 0, 1) := by decide +kernel
theorem own_d_jdk_67_method_7_7 : decode jdk_67_method_7_code 7 = .ok (.areturn, 1) := by decide +kernel
set_option maxRecDepth 65536 in
set_option maxHeartbeats 40000000 in
theorem own_sbappend (l : Launch) (Z : State) (a0 : Array Value) (cx : Ctx Z a0) (ws : List Jvm.Cond) (b : Addr) (y : Addr) (v : Addr) (cap : Nat) (cs : List Int32) (t : Addr) (ds : List Int32) (vm0 : Vm) (h0 : Heap) (X00 : Ext Z.heap h0) (P0 : SBd Z h0 b v cap cs) (P1 : Str Z h0 y t ds) (P2 : Z.heap.size ≤ b) (P3 : Z.heap.size ≤ v) (P4 : Safe Z consts_1 vm0 h0 v) (hcd : (cs.length + ds.length ≤ cap)) (hvt : (v ≠ t)) :
    Met l (⟨"java/lang/StringBuilder", "append", "(Ljava/lang/String;)Ljava/lang/StringBuilder;"⟩ : MethodName) jdk_67_method_7_code 2 (some (.object "java/lang/StringBuilder")) ws ({ frames := 4, cells := 0, slots := 0, locals := 61 } : Room) Z consts_1 vm0 h0 #[(.ref b), (.ref y)] (fun rv vm h => rv = some (.ref b) ∧ Keep h0 h [b, v] ∧ SBd Z h b v cap (cs ++ ds) ∧ Safe Z consts_1 vm h v) := by
  obtain ⟨hw, hEL, ⟨zc, Scs, hzc⟩, ⟨fm, Sfm, hfm⟩, ⟨fe, ft, tt, Sfe, Efe, Fft, Sft⟩⟩ := id cx
  have hSA := own_SA hw
  refine Met.of_walk (a0 := a0) #[.val (.ref b), .val (.ref y)] (plainFor_of_name own_pn86) X00 hEL (fun m => by first | (simp [entryFrame, mkF, argsToLocals, Value.category]; done) | rfl) ?_
  intro p e s m below meth c vm hx hby hml hret hnm hC0
  have lt_v : h0.size > v := P0.vlt
  have lt_b : h0.size > b := P0.1.lt
  have lt_y : h0.size > y := P1.1.lt
  have lt_t : h0.size > t := P1.tlt
  have L4 := hC0.safe lt_v P4
  have eE := P0.1
  refine gs (mkF m 1 #[.val (.ref b), .val (.ref y)] [(.ref b)]) (fun _ _ A kq => XS.aloadN A hx rfl (hb hby own_d_jdk_67_method_7_0) rfl rfl kq) ?_
  refine gs (mkF m 2 #[.val (.ref b), .val (.ref y)] [(.ref y), (.ref b)]) (fun _ _ A kq => XS.aloadN A hx rfl (hb hby own_d_jdk_67_method_7_1) rfl rfl kq) ?_
  refine ginfo fun _ _ O1 => ?_
  refine gcallU (y := (⟨"java/lang/AbstractStringBuilder", "append", "(Ljava/lang/String;)Ljava/lang/AbstractStringBuilder;"⟩ : MethodName)) hx (ow hw 88 rfl) (smOf (y := (⟨"java/lang/AbstractStringBuilder", "append", "(Ljava/lang/String;)Ljava/lang/AbstractStringBuilder;"⟩ : MethodName)) (ow hw 89 rfl) (nfSame (y' := (⟨"java/lang/AbstractStringBuilder", "ensureCapacityInternal", "(I)V"⟩ : MethodName)) (ow hw 108 rfl) (ow hw 106 rfl) rfl) (by decide)) (ow hw 89 rfl) (ow hw 90 rfl) (by decide) (ow hw 92 rfl) (fun hZ H hEL => Pay.of_met (W := 0) (own_asbappend l Z a0 cx [] (b) (y) (v) (cap) (cs) (t) (ds) vm h0 O1 P0 P1 P2 P3 L4 (by first | assumption | decide | omega) (by first | assumption | decide | omega)) (ow hw 92 rfl) (ow hw 70 rfl) (by decide) (by decide) hZ H hEL) 5 (argsL := [(.ref y)]) (rest := []) (Ins.self eE) (lenOf own_pd173 rfl) rfl rfl (Nat.le_of_eq rfl) (by rw [hml]; rfl) (hb hby own_d_jdk_67_method_7_2) rfl (by decide) (by decide) ?_
  rintro _ vm1 h1 C1 ⟨rfl, K1, q1_0, q1_1⟩
  have z1 := C1.2.1
  refine gat (mkF m 5 #[.val (.ref b), .val (.ref y)] [(.ref b)]) rfl ?_
  refine gs (mkF m 6 #[.val (.ref b), .val (.ref y)] []) (fun _ _ A kq => XS.pop A hx rfl (hb hby own_d_jdk_67_method_7_5) rfl rfl kq) ?_
  refine gs (mkF m 7 #[.val (.ref b), .val (.ref y)] [(.ref b)]) (fun _ _ A kq => XS.aloadN A hx rfl (hb hby own_d_jdk_67_method_7_6) rfl rfl kq) ?_
  exact gretA hx hret rfl rfl (hb hby own_d_jdk_67_method_7_7) (by decide) (by decide) (fun vq Cq => ⟨rfl, ((Keep.refl h0 [b, v]).trans K1 (allS (Or.inl (List.mem_of_getElem? (i := 0) rfl)) (allS (Or.inl (List.mem_of_getElem? (i := 1) rfl)) all0))), q1_0, (Cq.safe (show h1.size > v by omega) q1_1)⟩)
theorem own_d_jdk_68_method_64_0 : decode jdk_68_method_64_code 0 = .ok (.aload_n 0, 1) := by decide +kernel
theorem own_d_jdk_68_method_64_1 : decode jdk_68_method_64_code 1 = .ok (.getfield 15, 3) := by decide +kernel
theorem own_d_jdk_68_method_64_4 : decode jdk_68_method_64_code 4 = .ok (.areturn, 1) := by decide +kernel
set_option maxRecDepth 65536 in
set_option maxHeartbeats 40000000 in
theorem own_getValue (l : Launch) (Z : State) (a0 : Array Value) (cx : Ctx Z a0) (ws : List Jvm.Cond) (x : Addr) (v : Addr) (vm0 : Vm) (h0 : Heap) (X00 : Ext Z.heap h0) (P0 : Fld Z h0 x "java/lang/AbstractStringBuilder" "value" "[B" (.ref v)) :
    Met l (⟨"java/lang/AbstractStringBuilder", "getValue", "()[B"⟩ : MethodName) jdk_68_method_64_code 1 (some (.array .byte)) ws ({ frames := 0, cells := 0, slots := 0, locals := 0 } : Room) Z consts_1 vm0 h0 #[(.ref x)] (fun rv vm h => rv = some (.ref v) ∧ h0 = h) := by
  obtain ⟨hw, hEL, ⟨zc, Scs, hzc⟩, ⟨fm, Sfm, hfm⟩, ⟨fe, ft, tt, Sfe, Efe, Fft, Sft⟩⟩ := id cx
  have hSA := own_SA hw
  refine Met.of_walk (a0 := a0) #[.val (.ref x)] (plainFor_of_name own_pn80) X00 hEL (fun m => by first | (simp [entryFrame, mkF, argsToLocals, Value.category]; done) | rfl) ?_
  intro p e s m below meth c vm hx hby hml hret hnm hC0
  have lt_x : h0.size > x := P0.lt
  refine gs (mkF m 1 #[.val (.ref x)] [(.ref x)]) (fun _ _ A kq => XS.aloadN A hx rfl (hb hby own_d_jdk_68_method_64_0) rfl rfl kq) ?_
  refine ggetF (host := "") hx (Or.inl (ow hw 74 rfl)) Via.refl P0 4 (hb hby own_d_jdk_68_method_64_1) rfl ?_
  exact gretA hx hret rfl rfl (hb hby own_d_jdk_68_method_64_4) (by decide) (by decide) (fun vq Cq => ⟨rfl, rfl⟩)
theorem own_d_jdk_68_method_6_0 : decode jdk_68_method_6_code 0 = .ok (.aload_n 0, 1) := by decide +kernel
theorem own_d_jdk_68_method_6_1 : decode jdk_68_method_6_code 1 = .ok (.getfield 79, 3) := by decide +kernel
theorem own_d_jdk_68_method_6_4 : decode jdk_68_method_6_code 4 = .ok (.ireturn, 1) := by decide +kernel
set_option maxRecDepth 65536 in
set_option maxHeartbeats 40000000 in
theorem own_asblen (l : Launch) (Z : State) (a0 : Array Value) (cx : Ctx Z a0) (ws : List Jvm.Cond) (x : Addr) (n : Int32) (vm0 : Vm) (h0 : Heap) (X00 : Ext Z.heap h0) (P0 : Fld Z h0 x "java/lang/AbstractStringBuilder" "count" "I" (.int n)) :
    Met l (⟨"java/lang/AbstractStringBuilder", "length", "()I"⟩ : MethodName) jdk_68_method_6_code 1 (some .int) ws ({ frames := 0, cells := 0, slots := 0, locals := 0 } : Room) Z consts_1 vm0 h0 #[(.ref x)] (fun rv vm h => rv = some (.int n) ∧ h0 = h) := by
  obtain ⟨hw, hEL, ⟨zc, Scs, hzc⟩, ⟨fm, Sfm, hfm⟩, ⟨fe, ft, tt, Sfe, Efe, Fft, Sft⟩⟩ := id cx
  have hSA := own_SA hw
  refine Met.of_walk (a0 := a0) #[.val (.ref x)] (plainFor_of_name own_pn80) X00 hEL (fun m => by first | (simp [entryFrame, mkF, argsToLocals, Value.category]; done) | rfl) ?_
  intro p e s m below meth c vm hx hby hml hret hnm hC0
  have lt_x : h0.size > x := P0.lt
  refine gs (mkF m 1 #[.val (.ref x)] [(.ref x)]) (fun _ _ A kq => XS.aloadN A hx rfl (hb hby own_d_jdk_68_method_6_0) rfl rfl kq) ?_
  refine ggetF (host := "") hx (Or.inl (ow hw 103 rfl)) Via.refl P0 4 (hb hby own_d_jdk_68_method_6_1) rfl ?_
  exact gretI hx hret (hb hby own_d_jdk_68_method_6_4) (by decide) (by decide) (fun vq Cq => ⟨rfl, rfl⟩)
theorem own_d_jdk_67_method_93_0 : decode jdk_67_method_93_code 0 = .ok (.aload_n 0, 1) := by decide +kernel
theorem own_d_jdk_67_method_93_1 : decode jdk_67_method_93_code 1 = .ok (.invokespecial 343, 3) := by decide +kernel
theorem own_d_jdk_67_method_93_4 : decode jdk_67_method_93_code 4 = .ok (.ireturn, 1) := by decide +kernel
set_option maxRecDepth 65536 in
set_option maxHeartbeats 40000000 in
theorem own_sblen (l : Launch) (Z : State) (a0 : Array Value) (cx : Ctx Z a0) (ws : List Jvm.Cond) (x : Addr) (n : Int32) (vm0 : Vm) (h0 : Heap) (X00 : Ext Z.heap h0) (P0 : Exa Z h0 x "java/lang/StringBuilder") (P1 : Fld Z h0 x "java/lang/AbstractStringBuilder" "count" "I" (.int n)) :
    Met l (⟨"java/lang/StringBuilder", "length", "()I"⟩ : MethodName) jdk_67_method_93_code 1 (some .int) ws ({ frames := 1, cells := 0, slots := 0, locals := 12 } : Room) Z consts_1 vm0 h0 #[(.ref x)] (fun rv vm h => rv = some (.int n) ∧ h0 = h) := by
  obtain ⟨hw, hEL, ⟨zc, Scs, hzc⟩, ⟨fm, Sfm, hfm⟩, ⟨fe, ft, tt, Sfe, Efe, Fft, Sft⟩⟩ := id cx
  have hSA := own_SA hw
  refine Met.of_walk (a0 := a0) #[.val (.ref x)] (plainFor_of_name own_pn86) X00 hEL (fun m => by first | (simp [entryFrame, mkF, argsToLocals, Value.category]; done) | rfl) ?_
  intro p e s m below meth c vm hx hby hml hret hnm hC0
  have lt_x : h0.size > x := P0.lt
  refine gs (mkF m 1 #[.val (.ref x)] [(.ref x)]) (fun _ _ A kq => XS.aloadN A hx rfl (hb hby own_d_jdk_67_method_93_0) rfl rfl kq) ?_
  refine ginfo fun _ _ O1 => ?_
  refine gcallU (y := (⟨"java/lang/AbstractStringBuilder", "length", "()I"⟩ : MethodName)) hx (ow hw 153 rfl) (smOf (y := (⟨"java/lang/AbstractStringBuilder", "length", "()I"⟩ : MethodName)) (ow hw 149 rfl) (nfSame (y' := (⟨"java/lang/AbstractStringBuilder", "ensureCapacityInternal", "(I)V"⟩ : MethodName)) (ow hw 108 rfl) (ow hw 106 rfl) rfl) (by decide)) (ow hw 149 rfl) (ow hw 90 rfl) (by decide) (ow hw 154 rfl) (fun hZ H hEL => Pay.of_met (W := 0) (own_asblen l Z a0 cx [] (x) (n) vm h0 O1 P1) (ow hw 154 rfl) (ow hw 70 rfl) (by decide) (by decide) hZ H hEL) 4 (argsL := []) (rest := []) (Ins.self P0) (lenOf own_pd148 rfl) rfl rfl (Nat.le_of_eq rfl) (by rw [hml]; rfl) (hb hby own_d_jdk_67_method_93_1) rfl (by decide) (by decide) ?_
  rintro _ vm1 h1 C1 ⟨rfl, rfl⟩
  have z1 := C1.2.1
  refine gat (mkF m 4 #[.val (.ref x)] [(.int n)]) rfl ?_
  exact gretI hx hret (hb hby own_d_jdk_67_method_93_4) (by decide) (by decide) (fun vq Cq => ⟨rfl, rfl⟩)
theorem own_d_jdk_68_method_68_0 : decode jdk_68_method_68_code 0 = .ok (.getstatic 18, 3) := by decide +kernel
theorem own_d_jdk_68_method_68_3 : decode jdk_68_method_68_code 3 = .ok (.ifCond .eq 14, 3) := by decide +kernel
theorem own_d_jdk_68_method_68_6 : decode jdk_68_method_68_code 6 = .ok (.aload_n 0, 1) := by decide +kernel
theorem own_d_jdk_68_method_68_7 : decode jdk_68_method_68_code 7 = .ok (.getfield 22, 3) := by decide +kernel
theorem own_d_jdk_68_method_68_10 : decode jdk_68_method_68_code 10 = .ok (.ifCond .ne 7, 3) := by decide +kernel
theorem own_d_jdk_68_method_68_13 : decode jdk_68_method_68_code 13 = .ok (.iconst 1, 1) := by decide +kernel
theorem own_d_jdk_68_method_68_14 : decode jdk_68_method_68_code 14 = .ok (.goto 4, 3) := by decide +kernel
theorem own_d_jdk_68_method_68_18 : decode jdk_68_method_68_code 18 = .ok (.ireturn, 1) := by decide +kernel
set_option maxRecDepth 65536 in
set_option maxHeartbeats 40000000 in
theorem own_asblat (l : Launch) (Z : State) (a0 : Array Value) (cx : Ctx Z a0) (ws : List Jvm.Cond) (x : Addr) (vm0 : Vm) (h0 : Heap) (X00 : Ext Z.heap h0) (P0 : Fld Z h0 x "java/lang/AbstractStringBuilder" "coder" "B" (.int (0 : Int32))) :
    Met l (⟨"java/lang/AbstractStringBuilder", "isLatin1", "()Z"⟩ : MethodName) jdk_68_method_68_code 1 (some .boolean) ws ({ frames := 0, cells := 0, slots := 0, locals := 0 } : Room) Z consts_1 vm0 h0 #[(.ref x)] (fun rv vm h => rv = some (.int (1 : Int32)) ∧ h0 = h) := by
  obtain ⟨hw, hEL, ⟨zc, Scs, hzc⟩, ⟨fm, Sfm, hfm⟩, ⟨fe, ft, tt, Sfe, Efe, Fft, Sft⟩⟩ := id cx
  have hSA := own_SA hw
  refine Met.of_walk (a0 := a0) #[.val (.ref x)] (plainFor_of_name own_pn80) X00 hEL (fun m => by first | (simp [entryFrame, mkF, argsToLocals, Value.category]; done) | rfl) ?_
  intro p e s m below meth c vm hx hby hml hret hnm hC0
  have lt_x : h0.size > x := P0.lt
  refine ggetS (host := "") hx (Or.inl (ow hw 73 rfl)) Via.refl Scs 3 (hb hby own_d_jdk_68_method_68_0) rfl ?_
  refine gs (mkF m 6 #[.val (.ref x)] []) (fun _ _ A kq => XS.ifNo A hx rfl (hb hby own_d_jdk_68_method_68_3) rfl ((if0 _ _).trans (feq hzc).1) kq) ?_
  refine gs (mkF m 7 #[.val (.ref x)] [(.ref x)]) (fun _ _ A kq => XS.aloadN A hx rfl (hb hby own_d_jdk_68_method_68_6) rfl rfl kq) ?_
  refine ggetF (host := "") hx (Or.inl (ow hw 76 rfl)) Via.refl P0 10 (hb hby own_d_jdk_68_method_68_7) rfl ?_
  refine gs (mkF m 13 #[.val (.ref x)] []) (fun _ _ A kq => XS.ifNo A hx rfl (hb hby own_d_jdk_68_method_68_10) rfl ((if0 _ _).trans (teq (by decide)).2) kq) ?_
  refine gs (mkF m 14 #[.val (.ref x)] [(.int (1 : Int32))]) (fun _ _ A kq => XS.iconst A hx rfl (hb hby own_d_jdk_68_method_68_13) kq) ?_
  refine gs (mkF m 18 #[.val (.ref x)] [(.int (1 : Int32))]) (fun _ _ A kq => XS.goto A hx rfl (pc0 := 14) (pc' := 18) rfl (hb hby own_d_jdk_68_method_68_14) (by decide) (by decide) kq) ?_
  exact gretN (t := .boolean) hx hret (by simp) (hb hby own_d_jdk_68_method_68_18) (by decide) (by decide) (fun vq Cq => ⟨rfl, rfl⟩)
theorem own_d_jdk_65_method_131_0 : decode jdk_65_method_131_code 0 = .ok (.iload_n 1, 1) := by decide +kernel
theorem own_d_jdk_65_method_131_1 : decode jdk_65_method_131_code 1 = .ok (.iload_n 0, 1) := by decide +kernel
theorem own_d_jdk_65_method_131_2 : decode jdk_65_method_131_code 2 = .ok (.if_icmp .ge 35, 3) := by decide +kernel
theorem own_d_jdk_65_method_131_37 : decode jdk_65_method_131_code 37 = .ok (.return_, 1) := by decide +kernel
theorem own_pn198 : plainName "java/util/Arrays" = true := by first | (simp [plainName, overriddenIn]; done) | decide +kernel
set_option maxRecDepth 65536 in
set_option maxHeartbeats 40000000 in
theorem own_checkLength (l : Launch) (Z : State) (a0 : Array Value) (cx : Ctx Z a0) (ws : List Jvm.Cond) (x : Int32) (y : Int32) (vm0 : Vm) (h0 : Heap) (X00 : Ext Z.heap h0) (hxy : (¬ y < x)) :
    Met l (⟨"java/util/Arrays", "checkLength", "(II)V"⟩ : MethodName) jdk_65_method_131_code 2 none ws ({ frames := 0, cells := 0, slots := 0, locals := 0 } : Room) Z consts_1 vm0 h0 #[(.int x), (.int y)] (fun rv vm h => rv = none ∧ h0 = h) := by
  obtain ⟨hw, hEL, ⟨zc, Scs, hzc⟩, ⟨fm, Sfm, hfm⟩, ⟨fe, ft, tt, Sfe, Efe, Fft, Sft⟩⟩ := id cx
  have hSA := own_SA hw
  refine Met.of_walk (a0 := a0) #[.val (.int x), .val (.int y)] (plainFor_of_name own_pn198) X00 hEL (fun m => by first | (simp [entryFrame, mkF, argsToLocals, Value.category]; done) | rfl) ?_
  intro p e s m below meth c vm hx hby hml hret hnm hC0
  refine gs (mkF m 1 #[.val (.int x), .val (.int y)] [(.int y)]) (fun _ _ A kq => XS.iloadN A hx rfl (hb hby own_d_jdk_65_method_131_0) rfl  kq) ?_
  refine gs (mkF m 2 #[.val (.int x), .val (.int y)] [(.int x), (.int y)]) (fun _ _ A kq => XS.iloadN A hx rfl (hb hby own_d_jdk_65_method_131_1) rfl  kq) ?_
  refine gs (mkF m 37 #[.val (.int x), .val (.int y)] []) (fun _ _ A kq => XS.icmpYes A hx rfl (pc0 := 2) (pc' := 37) rfl (hb hby own_d_jdk_65_method_131_2) rfl (flt hxy).2.1 (by decide) (by decide) kq) ?_
  exact gretV hx hret (hb hby own_d_jdk_65_method_131_37) (by decide) (by decide) (fun vq Cq => ⟨rfl, rfl⟩)
theorem own_d_jdk_29_method_69_0 : decode jdk_29_method_69_code 0 = .ok (.iload_n 0, 1) := by decide +kernel
theorem own_d_jdk_29_method_69_1 : decode jdk_29_method_69_code 1 = .ok (.iload_n 1, 1) := by decide +kernel
theorem own_d_jdk_29_method_69_2 : decode jdk_29_method_69_code 2 = .ok (.if_icmp .gt 7, 3) := by decide +kernel
theorem own_d_jdk_29_method_69_9 : decode jdk_29_method_69_code 9 = .ok (.iload_n 1, 1) := by decide +kernel
theorem own_d_jdk_29_method_69_10 : decode jdk_29_method_69_code 10 = .ok (.ireturn, 1) := by decide +kernel
theorem own_pn204 : plainFor (⟨"java/lang/Math", "min", "(II)I"⟩ : MethodName) = true := by first | decide +kernel | (simp [plainFor, plainName, overriddenIn]; done)
set_option maxRecDepth 65536 in
set_option maxHeartbeats 40000000 in
theorem own_min (l : Launch) (Z : State) (a0 : Array Value) (cx : Ctx Z a0) (ws : List Jvm.Cond) (x : Int32) (y : Int32) (vm0 : Vm) (h0 : Heap) (X00 : Ext Z.heap h0) (hyx : (y < x)) :
    Met l (⟨"java/lang/Math", "min", "(II)I"⟩ : MethodName) jdk_29_method_69_code 2 (some .int) ws ({ frames := 0, cells := 0, slots := 0, locals := 0 } : Room) Z consts_1 vm0 h0 #[(.int x), (.int y)] (fun rv vm h => rv = some (.int y) ∧ h0 = h) := by
  obtain ⟨hw, hEL, ⟨zc, Scs, hzc⟩, ⟨fm, Sfm, hfm⟩, ⟨fe, ft, tt, Sfe, Efe, Fft, Sft⟩⟩ := id cx
  have hSA := own_SA hw
  refine Met.of_walk (a0 := a0) #[.val (.int x), .val (.int y)] own_pn204 X00 hEL (fun m => by first | (simp [entryFrame, mkF, argsToLocals, Value.category]; done) | rfl) ?_
  intro p e s m below meth c vm hx hby hml hret hnm hC0
  refine gs (mkF m 1 #[.val (.int x), .val (.int y)] [(.int x)]) (fun _ _ A kq => XS.iloadN A hx rfl (hb hby own_d_jdk_29_method_69_0) rfl  kq) ?_
  refine gs (mkF m 2 #[.val (.int x), .val (.int y)] [(.int y), (.int x)]) (fun _ _ A kq => XS.iloadN A hx rfl (hb hby own_d_jdk_29_method_69_1) rfl  kq) ?_
  refine gs (mkF m 9 #[.val (.int x), .val (.int y)] []) (fun _ _ A kq => XS.icmpYes A hx rfl (pc0 := 2) (pc' := 9) rfl (hb hby own_d_jdk_29_method_69_2) rfl (tlt hyx).2.2.1 (by decide) (by decide) kq) ?_
  refine gs (mkF m 10 #[.val (.int x), .val (.int y)] [(.int y)]) (fun _ _ A kq => XS.iloadN A hx rfl (hb hby own_d_jdk_29_method_69_9) rfl  kq) ?_
  exact gretI hx hret (hb hby own_d_jdk_29_method_69_10) (by decide) (by decide) (fun vq Cq => ⟨rfl, rfl⟩)
theorem own_d_jdk_65_method_133_0 : decode jdk_65_method_133_code 0 = .ok (.iload_n 1, 1) := by decide +kernel
theorem own_d_jdk_65_method_133_1 : decode jdk_65_method_133_code 1 = .ok (.iload_n 2, 1) := by decide +kernel
theorem own_d_jdk_65_method_133_2 : decode jdk_65_method_133_code 2 = .ok (.invokestatic 343, 3) := by decide +kernel
theorem own_pd208 : parseMethodDescriptor "(II)V" = some ⟨[.int, .int], none⟩ := by decide +kernel
theorem own_d_jdk_65_method_133_5 : decode jdk_65_method_133_code 5 = .ok (.iload_n 2, 1) := by decide +kernel
theorem own_d_jdk_65_method_133_6 : decode jdk_65_method_133_code 6 = .ok (.iload_n 1, 1) := by decide +kernel
theorem own_d_jdk_65_method_133_7 : decode jdk_65_method_133_code 7 = .ok (.isub, 1) := by decide +kernel
theorem own_d_jdk_65_method_133_8 : decode jdk_65_method_133_code 8 = .ok (.istore_n 3, 1) := by decide +kernel
theorem own_d_jdk_65_method_133_9 : decode jdk_65_method_133_code 9 = .ok (.iload_n 3, 1) := by decide +kernel
theorem own_d_jdk_65_method_133_10 : decode jdk_65_method_133_code 10 = .ok (.newarray .byte, 2) := by decide +kernel
theorem own_d_jdk_65_method_133_12 : decode jdk_65_method_133_code 12 = .ok (.astore 4, 2) := by decide +kernel
theorem own_d_jdk_65_method_133_14 : decode jdk_65_method_133_code 14 = .ok (.aload_n 0, 1) := by decide +kernel
theorem own_d_jdk_65_method_133_15 : decode jdk_65_method_133_code 15 = .ok (.iload_n 1, 1) := by decide +kernel
theorem own_d_jdk_65_method_133_16 : decode jdk_65_method_133_code 16 = .ok (.aload 4, 2) := by decide +kernel
theorem own_d_jdk_65_method_133_18 : decode jdk_65_method_133_code 18 = .ok (.iconst 0, 1) := by decide +kernel
theorem own_d_jdk_65_method_133_19 : decode jdk_65_method_133_code 19 = .ok (.aload_n 0, 1) := by decide +kernel
theorem own_d_jdk_65_method_133_20 : decode jdk_65_method_133_code 20 = .ok (.arraylength, 1) := by decide +kernel
theorem own_d_jdk_65_method_133_21 : decode jdk_65_method_133_code 21 = .ok (.iload_n 1, 1) := by decide +kernel
theorem own_d_jdk_65_method_133_22 : decode jdk_65_method_133_code 22 = .ok (.isub, 1) := by decide +kernel
theorem own_d_jdk_65_method_133_23 : decode jdk_65_method_133_code 23 = .ok (.iload_n 3, 1) := by decide +kernel
theorem own_d_jdk_65_method_133_24 : decode jdk_65_method_133_code 24 = .ok (.invokestatic 304, 3) := by decide +kernel
theorem own_pd226 : parseMethodDescriptor "(II)I" = some ⟨[.int, .int], some .int⟩ := by decide +kernel
theorem own_d_jdk_65_method_133_27 : decode jdk_65_method_133_code 27 = .ok (.invokestatic 150, 3) := by decide +kernel
theorem own_d_jdk_65_method_133_30 : decode jdk_65_method_133_code 30 = .ok (.aload 4, 2) := by decide +kernel
theorem own_d_jdk_65_method_133_32 : decode jdk_65_method_133_code 32 = .ok (.areturn, 1) := by decide +kernel
set_option maxRecDepth 65536 in
set_option maxHeartbeats 40000000 in
theorem own_corb (l : Launch) (Z : State) (a0 : Array Value) (cx : Ctx Z a0) (ws : List Jvm.Cond) (a : Addr) (ka : ClassId) (cs : List Int32) (zs : List Value) (cap : Nat) (vm0 : Vm) (h0 : Heap) (X00 : Ext Z.heap h0) (P0 : Arv Z h0 a ka .byte (Int32.ofNat cap) (lo8s cs ++ zs) (.int (0 : Int32))) (hz : (cs.length + zs.length = cap)) (hlt : (cs.length < cap)) (h32 : (cs.length ≤ 32)) (hcap : (cap ≤ 4000)) :
    Met l (⟨"java/util/Arrays", "copyOfRangeByte", "([BII)[B"⟩ : MethodName) jdk_65_method_133_code 5 (some (.array .byte)) ws ({ frames := 1, cells := 1, slots := 32, locals := 18 } : Room) Z consts_1 vm0 h0 #[(.ref a), (.int (0 : Int32)), (.int (Int32.ofNat cs.length))] (fun rv vm h => ∃ (r : Addr), ∃ (kb : ClassId), rv = some (.ref r) ∧ Keep h0 h [] ∧ h0.size ≤ r ∧ Arv Z h r kb .byte (Int32.ofNat cs.length) (lo8s cs) (.int (0 : Int32))) := by
  obtain ⟨hw, hEL, ⟨zc, Scs, hzc⟩, ⟨fm, Sfm, hfm⟩, ⟨fe, ft, tt, Sfe, Efe, Fft, Sft⟩⟩ := id cx
  have hSA := own_SA hw
  refine Met.of_walk (a0 := a0) #[.val (.ref a), .val (.int (0 : Int32)), .val (.int (Int32.ofNat cs.length)), .unset, .unset] (plainFor_of_name own_pn198) X00 hEL (fun m => by first | (simp [entryFrame, mkF, argsToLocals, Value.category]; done) | rfl) ?_
  intro p e s m below meth c vm hx hby hml hret hnm hC0
  have lt_a : h0.size > a := P0.lt
  refine gs (mkF m 1 #[.val (.ref a), .val (.int (0 : Int32)), .val (.int (Int32.ofNat cs.length)), .unset, .unset] [(.int (0 : Int32))]) (fun _ _ A kq => XS.iloadN A hx rfl (hb hby own_d_jdk_65_method_133_0) rfl  kq) ?_
  refine gs (mkF m 2 #[.val (.ref a), .val (.int (0 : Int32)), .val (.int (Int32.ofNat cs.length)), .unset, .unset] [(.int (Int32.ofNat cs.length)), (.int (0 : Int32))]) (fun _ _ A kq => XS.iloadN A hx rfl (hb hby own_d_jdk_65_method_133_1) rfl  kq) ?_
  refine ginfo fun _ _ O1 => ?_
  refine gcallS (y := (⟨"java/util/Arrays", "checkLength", "(II)V"⟩ : MethodName)) hx (ow hw 167 rfl) (ow hw 168 rfl) (ow hw 162 rfl) (ow hw 169 rfl) (by decide) (fun hZ H hEL => Pay.of_met (W := 0) (own_checkLength l Z a0 cx [] ((0 : Int32)) ((Int32.ofNat cs.length)) vm h0 O1 (nn0 (by omega))) (ow hw 169 rfl) (ow hw 162 rfl) (by decide) (by decide) hZ H hEL) 5 (argsL := [(.int (0 : Int32)), (.int (Int32.ofNat cs.length))]) (rest := []) (lenOf own_pd208 rfl) rfl rfl (Nat.le_of_eq rfl) (by rw [hml]; rfl) (hb hby own_d_jdk_65_method_133_2) rfl (by decide) (by decide) ?_
  rintro _ vm1 h1 C1 ⟨rfl, rfl⟩
  have z1 := C1.2.1
  refine gat (mkF m 5 #[.val (.ref a), .val (.int (0 : Int32)), .val (.int (Int32.ofNat cs.length)), .unset, .unset] []) rfl ?_
  refine gs (mkF m 6 #[.val (.ref a), .val (.int (0 : Int32)), .val (.int (Int32.ofNat cs.length)), .unset, .unset] [(.int (Int32.ofNat cs.length))]) (fun _ _ A kq => XS.iloadN A hx rfl (hb hby own_d_jdk_65_method_133_5) rfl  kq) ?_
  refine gs (mkF m 7 #[.val (.ref a), .val (.int (0 : Int32)), .val (.int (Int32.ofNat cs.length)), .unset, .unset] [(.int (0 : Int32)), (.int (Int32.ofNat cs.length))]) (fun _ _ A kq => XS.iloadN A hx rfl (hb hby own_d_jdk_65_method_133_6) rfl  kq) ?_
  refine gs (mkF m 8 #[.val (.ref a), .val (.int (0 : Int32)), .val (.int (Int32.ofNat cs.length)), .unset, .unset] [(.int ((Int32.ofNat cs.length) - (0 : Int32)))]) (fun _ _ A kq => XS.isub A hx rfl (hb hby own_d_jdk_65_method_133_7) rfl kq) ?_
  refine gat (mkF m 8 #[.val (.ref a), .val (.int (0 : Int32)), .val (.int (Int32.ofNat cs.length)), .unset, .unset] [(.int (Int32.ofNat cs.length))]) (by rw [subOf0 (by omega)]) ?_
  refine gs (mkF m 9 #[.val (.ref a), .val (.int (0 : Int32)), .val (.int (Int32.ofNat cs.length)), .val (.int (Int32.ofNat cs.length)), .unset] []) (fun _ _ A kq => XS.istoreN A hx rfl (hb hby own_d_jdk_65_method_133_8) rfl (l' := #[.val (.ref a), .val (.int (0 : Int32)), .val (.int (Int32.ofNat cs.length)), .val (.int (Int32.ofNat cs.length)), .unset]) rfl kq) ?_
  refine gs (mkF m 10 #[.val (.ref a), .val (.int (0 : Int32)), .val (.int (Int32.ofNat cs.length)), .val (.int (Int32.ofNat cs.length)), .unset] [(.int (Int32.ofNat cs.length))]) (fun _ _ A kq => XS.iloadN A hx rfl (hb hby own_d_jdk_65_method_133_9) rfl  kq) ?_
  refine gnewP hx (ow hw 26 rfl) (n := (Int32.ofNat cs.length)) (nn0 (by omega)) (cap := 32) (by rw [tn (by omega)]; exact h32) (by decide) 12 (hb hby own_d_jdk_65_method_133_10) rfl (by decide) (by decide) ?_
  intro b2 h2 k2 g2 E2 C2 V2 n2 L2
  have z2 := C2.2.1
  have V2 : Arv Z h2 b2 k2 .byte (Int32.ofNat cs.length) (List.replicate cs.length (.int (0 : Int32))) (.int (0 : Int32)) := V2.pad (pad_rep [] (.int (0 : Int32)) cs.length)
  have lt_b2 : h2.size > b2 := V2.lt
  refine gs (mkF m 14 #[.val (.ref a), .val (.int (0 : Int32)), .val (.int (Int32.ofNat cs.length)), .val (.int (Int32.ofNat cs.length)), .val (.ref b2)] []) (fun _ _ A kq => XS.astore A hx rfl (hb hby own_d_jdk_65_method_133_12) rfl rfl (l' := #[.val (.ref a), .val (.int (0 : Int32)), .val (.int (Int32.ofNat cs.length)), .val (.int (Int32.ofNat cs.length)), .val (.ref b2)]) rfl kq) ?_
  refine gs (mkF m 15 #[.val (.ref a), .val (.int (0 : Int32)), .val (.int (Int32.ofNat cs.length)), .val (.int (Int32.ofNat cs.length)), .val (.ref b2)] [(.ref a)]) (fun _ _ A kq => XS.aloadN A hx rfl (hb hby own_d_jdk_65_method_133_14) rfl rfl kq) ?_
  refine gs (mkF m 16 #[.val (.ref a), .val (.int (0 : Int32)), .val (.int (Int32.ofNat cs.length)), .val (.int (Int32.ofNat cs.length)), .val (.ref b2)] [(.int (0 : Int32)), (.ref a)]) (fun _ _ A kq => XS.iloadN A hx rfl (hb hby own_d_jdk_65_method_133_15) rfl  kq) ?_
  refine gs (mkF m 18 #[.val (.ref a), .val (.int (0 : Int32)), .val (.int (Int32.ofNat cs.length)), .val (.int (Int32.ofNat cs.length)), .val (.ref b2)] [(.ref b2), (.int (0 : Int32)), (.ref a)]) (fun _ _ A kq => XS.aload A hx rfl (hb hby own_d_jdk_65_method_133_16) rfl rfl kq) ?_
  refine gs (mkF m 19 #[.val (.ref a), .val (.int (0 : Int32)), .val (.int (Int32.ofNat cs.length)), .val (.int (Int32.ofNat cs.length)), .val (.ref b2)] [(.int (0 : Int32)), (.ref b2), (.int (0 : Int32)), (.ref a)]) (fun _ _ A kq => XS.iconst A hx rfl (hb hby own_d_jdk_65_method_133_18) kq) ?_
  refine gs (mkF m 20 #[.val (.ref a), .val (.int (0 : Int32)), .val (.int (Int32.ofNat cs.length)), .val (.int (Int32.ofNat cs.length)), .val (.ref b2)] [(.ref a), (.int (0 : Int32)), (.ref b2), (.int (0 : Int32)), (.ref a)]) (fun _ _ A kq => XS.aloadN A hx rfl (hb hby own_d_jdk_65_method_133_19) rfl rfl kq) ?_
  have f3 := (P0.ext E2)
  refine glen hx f3 21 (hb hby own_d_jdk_65_method_133_20) rfl ?_
  refine gs (mkF m 22 #[.val (.ref a), .val (.int (0 : Int32)), .val (.int (Int32.ofNat cs.length)), .val (.int (Int32.ofNat cs.length)), .val (.ref b2)] [(.int (0 : Int32)), (.int (Int32.ofNat cap)), (.int (0 : Int32)), (.ref b2), (.int (0 : Int32)), (.ref a)]) (fun _ _ A kq => XS.iloadN A hx rfl (hb hby own_d_jdk_65_method_133_21) rfl  kq) ?_
  refine gs (mkF m 23 #[.val (.ref a), .val (.int (0 : Int32)), .val (.int (Int32.ofNat cs.length)), .val (.int (Int32.ofNat cs.length)), .val (.ref b2)] [(.int ((Int32.ofNat cap) - (0 : Int32))), (.int (0 : Int32)), (.ref b2), (.int (0 : Int32)), (.ref a)]) (fun _ _ A kq => XS.isub A hx rfl (hb hby own_d_jdk_65_method_133_22) rfl kq) ?_
  refine gat (mkF m 23 #[.val (.ref a), .val (.int (0 : Int32)), .val (.int (Int32.ofNat cs.length)), .val (.int (Int32.ofNat cs.length)), .val (.ref b2)] [(.int (Int32.ofNat cap)), (.int (0 : Int32)), (.ref b2), (.int (0 : Int32)), (.ref a)]) (by rw [subOf0 hcap]) ?_
  refine gs (mkF m 24 #[.val (.ref a), .val (.int (0 : Int32)), .val (.int (Int32.ofNat cs.length)), .val (.int (Int32.ofNat cs.length)), .val (.ref b2)] [(.int (Int32.ofNat cs.length)), (.int (Int32.ofNat cap)), (.int (0 : Int32)), (.ref b2), (.int (0 : Int32)), (.ref a)]) (fun _ _ A kq => XS.iloadN A hx rfl (hb hby own_d_jdk_65_method_133_23) rfl  kq) ?_
  refine ginfo fun _ _ O4 => ?_
  refine gcallS (y := (⟨"java/lang/Math", "min", "(II)I"⟩ : MethodName)) hx (ow hw 170 rfl) (ow hw 171 rfl) (ow hw 172 rfl) (ow hw 173 rfl) (by decide) (fun hZ H hEL => Pay.of_met (W := 4) (own_min l Z a0 cx [] ((Int32.ofNat cap)) ((Int32.ofNat cs.length)) vm1 h2 O4 ((ltOf (by omega) hcap).mpr hlt)) (ow hw 173 rfl) (ow hw 172 rfl) (by decide) (by decide) hZ H hEL) 27 (argsL := [(.int (Int32.ofNat cap)), (.int (Int32.ofNat cs.length))]) (rest := [(.int (0 : Int32)), (.ref b2), (.int (0 : Int32)), (.ref a)]) (lenOf own_pd226 rfl) rfl rfl (Nat.le_of_eq rfl) (by rw [hml]; rfl) (hb hby own_d_jdk_65_method_133_24) rfl (by decide) (by decide) ?_
  rintro _ vm4 h4 C4 ⟨rfl, rfl⟩
  have z4 := C4.2.1
  refine gat (mkF m 27 #[.val (.ref a), .val (.int (0 : Int32)), .val (.int (Int32.ofNat cs.length)), .val (.int (Int32.ofNat cs.length)), .val (.ref b2)] [(.int (Int32.ofNat cs.length)), (.int (0 : Int32)), (.ref b2), (.int (0 : Int32)), (.ref a)]) rfl ?_
  have f6 := (C4.safe (show h2.size > b2 by omega) L2)
  refine gcopyN hx (ow hw 174 rfl) (ow hw 129 rfl) (ow hw 127 rfl) (ow hw 128 rfl) (0) (0) (cs.length) (cap) (cs.length) f3 V2 rfl rfl rfl rfl rfl (by omega) (by omega) (by omega) (by omega) (by simp only [List.length_append, lo8s_len]; exact hz) (by simp) n2 (fun _ => f6) 30 (W := 0) (Nat.le_of_eq rfl) (by rw [hml]; rfl) (hb hby own_d_jdk_65_method_133_27) rfl (by decide) (by decide) ?_
  intro h5 K5 C5 V5
  have z5 := C5.2.1
  rw [pre_list] at V5
  refine gs (mkF m 32 #[.val (.ref a), .val (.int (0 : Int32)), .val (.int (Int32.ofNat cs.length)), .val (.int (Int32.ofNat cs.length)), .val (.ref b2)] [(.ref b2)]) (fun _ _ A kq => XS.aload A hx rfl (hb hby own_d_jdk_65_method_133_30) rfl rfl kq) ?_
  exact gretA hx hret rfl rfl (hb hby own_d_jdk_65_method_133_32) (by decide) (by decide) (fun vq Cq => ⟨b2, k2, rfl, (((Keep.refl h0 []).ext E2).trans K5 (allS (Or.inr (by omega)) all0)), (by omega), V5⟩)
theorem own_d_jdk_65_method_132_0 : decode jdk_65_method_132_code 0 = .ok (.iload_n 1, 1) := by decide +kernel
theorem own_d_jdk_65_method_132_1 : decode jdk_65_method_132_code 1 = .ok (.ifCond .ne 9, 3) := by decide +kernel
theorem own_d_jdk_65_method_132_4 : decode jdk_65_method_132_code 4 = .ok (.iload_n 2, 1) := by decide +kernel
theorem own_d_jdk_65_method_132_5 : decode jdk_65_method_132_code 5 = .ok (.aload_n 0, 1) := by decide +kernel
theorem own_d_jdk_65_method_132_6 : decode jdk_65_method_132_code 6 = .ok (.arraylength, 1) := by decide +kernel
theorem own_d_jdk_65_method_132_7 : decode jdk_65_method_132_code 7 = .ok (.if_icmp .eq 10, 3) := by decide +kernel
theorem own_d_jdk_65_method_132_10 : decode jdk_65_method_132_code 10 = .ok (.aload_n 0, 1) := by decide +kernel
theorem own_d_jdk_65_method_132_11 : decode jdk_65_method_132_code 11 = .ok (.iload_n 1, 1) := by decide +kernel
theorem own_d_jdk_65_method_132_12 : decode jdk_65_method_132_code 12 = .ok (.iload_n 2, 1) := by decide +kernel
theorem own_d_jdk_65_method_132_13 : decode jdk_65_method_132_code 13 = .ok (.invokestatic 339, 3) := by decide +kernel
theorem own_pd240 : parseMethodDescriptor "([BII)[B" = some ⟨[(.array .byte), .int, .int], some (.array .byte)⟩ := by decide +kernel
theorem own_d_jdk_65_method_132_16 : decode jdk_65_method_132_code 16 = .ok (.areturn, 1) := by decide +kernel
set_option maxRecDepth 65536 in
set_option maxHeartbeats 40000000 in
theorem own_cor (l : Launch) (Z : State) (a0 : Array Value) (cx : Ctx Z a0) (ws : List Jvm.Cond) (a : Addr) (ka : ClassId) (cs : List Int32) (zs : List Value) (cap : Nat) (vm0 : Vm) (h0 : Heap) (X00 : Ext Z.heap h0) (P0 : Arv Z h0 a ka .byte (Int32.ofNat cap) (lo8s cs ++ zs) (.int (0 : Int32))) (hz : (cs.length + zs.length = cap)) (hlt : (cs.length < cap)) (h32 : (cs.length ≤ 32)) (hcap : (cap ≤ 4000)) :
    Met l (⟨"java/util/Arrays", "copyOfRange", "([BII)[B"⟩ : MethodName) jdk_65_method_132_code 3 (some (.array .byte)) ws ({ frames := 2, cells := 1, slots := 32, locals := 34 } : Room) Z consts_1 vm0 h0 #[(.ref a), (.int (0 : Int32)), (.int (Int32.ofNat cs.length))] (fun rv vm h => ∃ (r : Addr), ∃ (kb : ClassId), rv = some (.ref r) ∧ Keep h0 h [] ∧ h0.size ≤ r ∧ Arv Z h r kb .byte (Int32.ofNat cs.length) (lo8s cs) (.int (0 : Int32))) := by
  obtain ⟨hw, hEL, ⟨zc, Scs, hzc⟩, ⟨fm, Sfm, hfm⟩, ⟨fe, ft, tt, Sfe, Efe, Fft, Sft⟩⟩ := id cx
  have hSA := own_SA hw
  refine Met.of_walk (a0 := a0) #[.val (.ref a), .val (.int (0 : Int32)), .val (.int (Int32.ofNat cs.length))] (plainFor_of_name own_pn198) X00 hEL (fun m => by first | (simp [entryFrame, mkF, argsToLocals, Value.category]; done) | rfl) ?_
  intro p e s m below meth c vm hx hby hml hret hnm hC0
  have lt_a : h0.size > a := P0.lt
  refine gs (mkF m 1 #[.val (.ref a), .val (.int (0 : Int32)), .val (.int (Int32.ofNat cs.length))] [(.int (0 : Int32))]) (fun _ _ A kq => XS.iloadN A hx rfl (hb hby own_d_jdk_65_method_132_0) rfl  kq) ?_
  refine gs (mkF m 4 #[.val (.ref a), .val (.int (0 : Int32)), .val (.int (Int32.ofNat cs.length))] []) (fun _ _ A kq => XS.ifNo A hx rfl (hb hby own_d_jdk_65_method_132_1) rfl ((if0 _ _).trans (teq (by decide)).2) kq) ?_
  refine gs (mkF m 5 #[.val (.ref a), .val (.int (0 : Int32)), .val (.int (Int32.ofNat cs.length))] [(.int (Int32.ofNat cs.length))]) (fun _ _ A kq => XS.iloadN A hx rfl (hb hby own_d_jdk_65_method_132_4) rfl  kq) ?_
  refine gs (mkF m 6 #[.val (.ref a), .val (.int (0 : Int32)), .val (.int (Int32.ofNat cs.length))] [(.ref a), (.int (Int32.ofNat cs.length))]) (fun _ _ A kq => XS.aloadN A hx rfl (hb hby own_d_jdk_65_method_132_5) rfl rfl kq) ?_
  refine glen hx P0 7 (hb hby own_d_jdk_65_method_132_6) rfl ?_
  refine gs (mkF m 10 #[.val (.ref a), .val (.int (0 : Int32)), .val (.int (Int32.ofNat cs.length))] []) (fun _ _ A kq => XS.icmpNo A hx rfl (hb hby own_d_jdk_65_method_132_7) rfl (feq (fun q => absurd ((eqOf (by omega) hcap).mp q) (by omega))).1 kq) ?_
  refine gs (mkF m 11 #[.val (.ref a), .val (.int (0 : Int32)), .val (.int (Int32.ofNat cs.length))] [(.ref a)]) (fun _ _ A kq => XS.aloadN A hx rfl (hb hby own_d_jdk_65_method_132_10) rfl rfl kq) ?_
  refine gs (mkF m 12 #[.val (.ref a), .val (.int (0 : Int32)), .val (.int (Int32.ofNat cs.length))] [(.int (0 : Int32)), (.ref a)]) (fun _ _ A kq => XS.iloadN A hx rfl (hb hby own_d_jdk_65_method_132_11) rfl  kq) ?_
  refine gs (mkF m 13 #[.val (.ref a), .val (.int (0 : Int32)), .val (.int (Int32.ofNat cs.length))] [(.int (Int32.ofNat cs.length)), (.int (0 : Int32)), (.ref a)]) (fun _ _ A kq => XS.iloadN A hx rfl (hb hby own_d_jdk_65_method_132_12) rfl  kq) ?_
  refine ginfo fun _ _ O1 => ?_
  refine gcallS (y := (⟨"java/util/Arrays", "copyOfRangeByte", "([BII)[B"⟩ : MethodName)) hx (ow hw 164 rfl) (ow hw 165 rfl) (ow hw 162 rfl) (ow hw 166 rfl) (by decide) (fun hZ H hEL => Pay.of_met (W := 0) (own_corb l Z a0 cx [] (a) (ka) (cs) (zs) (cap) vm h0 O1 P0 (by first | assumption | decide | omega) (by first | assumption | decide | omega) (by first | assumption | decide | omega) (by first | assumption | decide | omega)) (ow hw 166 rfl) (ow hw 162 rfl) (by decide) (by decide) hZ H hEL) 16 (argsL := [(.ref a), (.int (0 : Int32)), (.int (Int32.ofNat cs.length))]) (rest := []) (lenOf own_pd240 rfl) rfl rfl (Nat.le_of_eq rfl) (by rw [hml]; rfl) (hb hby own_d_jdk_65_method_132_13) rfl (by decide) (by decide) ?_
  rintro _ vm1 h1 C1 ⟨r1, kb1, rfl, K1, q1_0, q1_1⟩
  have z1 := C1.2.1
  have lt_r1 : h1.size > r1 := q1_1.lt
  refine gat (mkF m 16 #[.val (.ref a), .val (.int (0 : Int32)), .val (.int (Int32.ofNat cs.length))] [(.ref r1)]) rfl ?_
  exact gretA hx hret rfl rfl (hb hby own_d_jdk_65_method_132_16) (by decide) (by decide) (fun vq Cq => ⟨r1, kb1, rfl, ((Keep.refl h0 []).trans K1 all0), (by omega), q1_1⟩)
theorem own_d_jdk_42_method_150_0 : decode jdk_42_method_150_code 0 = .ok (.aload_n 0, 1) := by decide +kernel
theorem own_d_jdk_42_method_150_1 : decode jdk_42_method_150_code 1 = .ok (.invokespecial 1, 3) := by decide +kernel
theorem own_d_jdk_42_method_150_4 : decode jdk_42_method_150_code 4 = .ok (.aload_n 1, 1) := by decide +kernel
theorem own_d_jdk_42_method_150_5 : decode jdk_42_method_150_code 5 = .ok (.invokevirtual 552, 3) := by decide +kernel
theorem own_pd246 : parseMethodDescriptor "()[B" = some ⟨[], some (.array .byte)⟩ := by decide +kernel
theorem own_d_jdk_42_method_150_8 : decode jdk_42_method_150_code 8 = .ok (.astore_n 3, 1) := by decide +kernel
theorem own_d_jdk_42_method_150_9 : decode jdk_42_method_150_code 9 = .ok (.aload_n 1, 1) := by decide +kernel
theorem own_d_jdk_42_method_150_10 : decode jdk_42_method_150_code 10 = .ok (.invokevirtual 549, 3) := by decide +kernel
theorem own_d_jdk_42_method_150_13 : decode jdk_42_method_150_code 13 = .ok (.istore 4, 2) := by decide +kernel
theorem own_d_jdk_42_method_150_15 : decode jdk_42_method_150_code 15 = .ok (.aload_n 1, 1) := by decide +kernel
theorem own_d_jdk_42_method_150_16 : decode jdk_42_method_150_code 16 = .ok (.invokevirtual 1047, 3) := by decide +kernel
theorem own_pd253 : parseMethodDescriptor "()Z" = some ⟨[], some .boolean⟩ := by decide +kernel
theorem own_d_jdk_42_method_150_19 : decode jdk_42_method_150_code 19 = .ok (.ifCond .eq 22, 3) := by decide +kernel
theorem own_d_jdk_42_method_150_22 : decode jdk_42_method_150_code 22 = .ok (.aload_n 0, 1) := by decide +kernel
theorem own_d_jdk_42_method_150_23 : decode jdk_42_method_150_code 23 = .ok (.iconst 0, 1) := by decide +kernel
theorem own_d_jdk_42_method_150_24 : decode jdk_42_method_150_code 24 = .ok (.putfield 15, 3) := by decide +kernel
theorem own_d_jdk_42_method_150_27 : decode jdk_42_method_150_code 27 = .ok (.aload_n 0, 1) := by decide +kernel
theorem own_d_jdk_42_method_150_28 : decode jdk_42_method_150_code 28 = .ok (.aload_n 3, 1) := by decide +kernel
theorem own_d_jdk_42_method_150_29 : decode jdk_42_method_150_code 29 = .ok (.iconst 0, 1) := by decide +kernel
theorem own_d_jdk_42_method_150_30 : decode jdk_42_method_150_code 30 = .ok (.iload 4, 2) := by decide +kernel
theorem own_d_jdk_42_method_150_32 : decode jdk_42_method_150_code 32 = .ok (.invokestatic 54, 3) := by decide +kernel
theorem own_d_jdk_42_method_150_35 : decode jdk_42_method_150_code 35 = .ok (.putfield 9, 3) := by decide +kernel
theorem own_d_jdk_42_method_150_38 : decode jdk_42_method_150_code 38 = .ok (.goto 59, 3) := by decide +kernel
theorem own_d_jdk_42_method_150_97 : decode jdk_42_method_150_code 97 = .ok (.return_, 1) := by decide +kernel
set_option maxRecDepth 65536 in
set_option maxHeartbeats 40000000 in
theorem own_sinit5 (l : Launch) (Z : State) (a0 : Array Value) (cx : Ctx Z a0) (ws : List Jvm.Cond) (x : Addr) (b : Addr) (v0 : Value) (c0 : Value) (v : Addr) (cap : Nat) (cs : List Int32) (vm0 : Vm) (h0 : Heap) (X00 : Ext Z.heap h0) (P0 : Exa Z h0 x "java/lang/String") (P1 : Fld Z h0 x "java/lang/String" "value" "[B" v0) (P2 : Fld Z h0 x "java/lang/String" "coder" "B" c0) (P3 : Z.heap.size ≤ x) (P4 : Safe Z consts_1 vm0 h0 x) (P5 : SBd Z h0 b v cap cs) (hlt : (cs.length < cap)) (h32 : (cs.length ≤ 32)) :
    Met l (⟨"java/lang/String", "<init>", "(Ljava/lang/AbstractStringBuilder;Ljava/lang/Void;)V"⟩ : MethodName) jdk_42_method_150_code 5 none ws ({ frames := 3, cells := 1, slots := 32, locals := 49 } : Room) Z consts_1 vm0 h0 #[(.ref x), (.ref b), .null] (fun rv vm h => ∃ (t : Addr), rv = none ∧ Keep h0 h [x] ∧ h0.size ≤ t ∧ Str Z h x t cs ∧ Safe Z consts_1 vm h x) := by
  obtain ⟨hw, hEL, ⟨zc, Scs, hzc⟩, ⟨fm, Sfm, hfm⟩, ⟨fe, ft, tt, Sfe, Efe, Fft, Sft⟩⟩ := id cx
  have hSA := own_SA hw
  refine Met.of_walk (a0 := a0) #[.val (.ref x), .val (.ref b), .val .null, .unset, .unset] (plainFor_of_name own_pn13) X00 hEL (fun m => by first | (simp [entryFrame, mkF, argsToLocals, Value.category]; done) | rfl) ?_
  intro p e s m below meth c vm hx hby hml hret hnm hC0
  have lt_x : h0.size > x := P0.lt
  have L4 := hC0.safe lt_x P4
  have lt_v : h0.size > v := P5.vlt
  have lt_b : h0.size > b := P5.1.lt
  refine gs (mkF m 1 #[.val (.ref x), .val (.ref b), .val .null, .unset, .unset] [(.ref x)]) (fun _ _ A kq => XS.aloadN A hx rfl (hb hby own_d_jdk_42_method_150_0) rfl rfl kq) ?_
  refine ginitO hx (ow hw 18 rfl) (ow hw 19 rfl) (ow hw 20 rfl) 4 (W := 0) (Nat.le_of_eq rfl) (by rw [hml]; rfl) (hb hby own_d_jdk_42_method_150_1) rfl (by decide) (by decide) ?_
  obtain ⟨eE, eV, eC, eN, ⟨kz, zs, eA, ez⟩, eb, ecap⟩ := P5
  refine gs (mkF m 5 #[.val (.ref x), .val (.ref b), .val .null, .unset, .unset] [(.ref b)]) (fun _ _ A kq => XS.aloadN A hx rfl (hb hby own_d_jdk_42_method_150_4) rfl rfl kq) ?_
  refine ginfo fun _ _ O2 => ?_
  refine gcallV (y := (⟨"java/lang/AbstractStringBuilder", "getValue", "()[B"⟩ : MethodName)) (z := (⟨"java/lang/AbstractStringBuilder", "getValue", "()[B"⟩ : MethodName)) hx (ow hw 142 rfl) (ow hw 143 rfl) (nfSel (ow hw 145 rfl)) (ow hw 145 rfl) (ow hw 144 rfl) (by decide) (fun hZ H hEL => Pay.of_met (W := 0) (own_getValue l Z a0 cx [] (b) (v) vm h0 O2 eV) (ow hw 146 rfl) (ow hw 70 rfl) (by decide) (by decide) hZ H hEL) 8 (argsL := []) (rest := []) eE (lenOf own_pd246 rfl) rfl rfl (Nat.le_of_eq rfl) (by rw [hml]; rfl) (hb hby own_d_jdk_42_method_150_5) rfl (by decide) (by decide) ?_
  rintro _ vm2 h2 C2 ⟨rfl, rfl⟩
  have z2 := C2.2.1
  refine gat (mkF m 8 #[.val (.ref x), .val (.ref b), .val .null, .unset, .unset] [(.ref v)]) rfl ?_
  refine gs (mkF m 9 #[.val (.ref x), .val (.ref b), .val .null, .val (.ref v), .unset] []) (fun _ _ A kq => XS.astoreN A hx rfl (hb hby own_d_jdk_42_method_150_8) rfl rfl (l' := #[.val (.ref x), .val (.ref b), .val .null, .val (.ref v), .unset]) rfl kq) ?_
  refine gs (mkF m 10 #[.val (.ref x), .val (.ref b), .val .null, .val (.ref v), .unset] [(.ref b)]) (fun _ _ A kq => XS.aloadN A hx rfl (hb hby own_d_jdk_42_method_150_9) rfl rfl kq) ?_
  refine ginfo fun _ _ O3 => ?_
  refine gcallV (y := (⟨"java/lang/AbstractStringBuilder", "length", "()I"⟩ : MethodName)) (z := (⟨"java/lang/StringBuilder", "length", "()I"⟩ : MethodName)) hx (ow hw 147 rfl) (ow hw 148 rfl) (nfSame (y' := (⟨"java/lang/AbstractStringBuilder", "ensureCapacityInternal", "(I)V"⟩ : MethodName)) (ow hw 108 rfl) (ow hw 106 rfl) rfl) (ow hw 150 rfl) (ow hw 151 rfl) (by decide) (fun hZ H hEL => Pay.of_met (W := 0) (own_sblen l Z a0 cx [] (b) ((Int32.ofNat (cs).length)) vm2 h0 O3 eE eN) (ow hw 152 rfl) (ow hw 62 rfl) (by decide) (by decide) hZ H hEL) 13 (argsL := []) (rest := []) eE (lenOf own_pd148 rfl) rfl rfl (Nat.le_of_eq rfl) (by rw [hml]; rfl) (hb hby own_d_jdk_42_method_150_10) rfl (by decide) (by decide) ?_
  rintro _ vm3 h3 C3 ⟨rfl, rfl⟩
  have z3 := C3.2.1
  refine gat (mkF m 13 #[.val (.ref x), .val (.ref b), .val .null, .val (.ref v), .unset] [(.int (Int32.ofNat (cs).length))]) rfl ?_
  refine gs (mkF m 15 #[.val (.ref x), .val (.ref b), .val .null, .val (.ref v), .val (.int (Int32.ofNat (cs).length))] []) (fun _ _ A kq => XS.istore A hx rfl (hb hby own_d_jdk_42_method_150_13) rfl (l' := #[.val (.ref x), .val (.ref b), .val .null, .val (.ref v), .val (.int (Int32.ofNat (cs).length))]) rfl kq) ?_
  refine gs (mkF m 16 #[.val (.ref x), .val (.ref b), .val .null, .val (.ref v), .val (.int (Int32.ofNat (cs).length))] [(.ref b)]) (fun _ _ A kq => XS.aloadN A hx rfl (hb hby own_d_jdk_42_method_150_15) rfl rfl kq) ?_
  refine ginfo fun _ _ O4 => ?_
  refine gcallV (y := (⟨"java/lang/AbstractStringBuilder", "isLatin1", "()Z"⟩ : MethodName)) (z := (⟨"java/lang/AbstractStringBuilder", "isLatin1", "()Z"⟩ : MethodName)) hx (ow hw 155 rfl) (ow hw 156 rfl) (nfSel (ow hw 158 rfl)) (ow hw 158 rfl) (ow hw 157 rfl) (by decide) (fun hZ H hEL => Pay.of_met (W := 0) (own_asblat l Z a0 cx [] (b) vm3 h0 O4 eC) (ow hw 159 rfl) (ow hw 70 rfl) (by decide) (by decide) hZ H hEL) 19 (argsL := []) (rest := []) eE (lenOf own_pd253 rfl) rfl rfl (Nat.le_of_eq rfl) (by rw [hml]; rfl) (hb hby own_d_jdk_42_method_150_16) rfl (by decide) (by decide) ?_
  rintro _ vm4 h4 C4 ⟨rfl, rfl⟩
  have z4 := C4.2.1
  refine gat (mkF m 19 #[.val (.ref x), .val (.ref b), .val .null, .val (.ref v), .val (.int (Int32.ofNat (cs).length))] [(.int (1 : Int32))]) rfl ?_
  refine gs (mkF m 22 #[.val (.ref x), .val (.ref b), .val .null, .val (.ref v), .val (.int (Int32.ofNat (cs).length))] []) (fun _ _ A kq => XS.ifNo A hx rfl (hb hby own_d_jdk_42_method_150_19) rfl ((if0 _ _).trans (feq (by decide)).1) kq) ?_
  refine gs (mkF m 23 #[.val (.ref x), .val (.ref b), .val .null, .val (.ref v), .val (.int (Int32.ofNat (cs).length))] [(.ref x)]) (fun _ _ A kq => XS.aloadN A hx rfl (hb hby own_d_jdk_42_method_150_22) rfl rfl kq) ?_
  refine gs (mkF m 24 #[.val (.ref x), .val (.ref b), .val .null, .val (.ref v), .val (.int (Int32.ofNat (cs).length))] [(.int (0 : Int32)), (.ref x)]) (fun _ _ A kq => XS.iconst A hx rfl (hb hby own_d_jdk_42_method_150_23) kq) ?_
  have f5 := (C4.safe (show h0.size > x by omega) (C3.safe (show h0.size > x by omega) (C2.safe (show h0.size > x by omega) L4)))
  refine gputF (host := "") hx (Or.inl (ow hw 33 rfl)) Via.refl P2 P0 (Or.inr ⟨(ow hw 34 rfl), rfl, hnm⟩) (ow hw 5 rfl) (ty := .byte) (by decide) rfl rfl P3 (fun _ => f5) 27 (hb hby own_d_jdk_42_method_150_24) rfl ?_
  intro h6 W6 C6
  have z6 := C6.2.1
  have F6 := P2.same W6
  refine gs (mkF m 28 #[.val (.ref x), .val (.ref b), .val .null, .val (.ref v), .val (.int (Int32.ofNat (cs).length))] [(.ref x)]) (fun _ _ A kq => XS.aloadN A hx rfl (hb hby own_d_jdk_42_method_150_27) rfl rfl kq) ?_
  refine gs (mkF m 29 #[.val (.ref x), .val (.ref b), .val .null, .val (.ref v), .val (.int (Int32.ofNat (cs).length))] [(.ref v), (.ref x)]) (fun _ _ A kq => XS.aloadN A hx rfl (hb hby own_d_jdk_42_method_150_28) rfl rfl kq) ?_
  refine gs (mkF m 30 #[.val (.ref x), .val (.ref b), .val .null, .val (.ref v), .val (.int (Int32.ofNat (cs).length))] [(.int (0 : Int32)), (.ref v), (.ref x)]) (fun _ _ A kq => XS.iconst A hx rfl (hb hby own_d_jdk_42_method_150_29) kq) ?_
  refine gs (mkF m 32 #[.val (.ref x), .val (.ref b), .val .null, .val (.ref v), .val (.int (Int32.ofNat (cs).length))] [(.int (Int32.ofNat (cs).length)), (.int (0 : Int32)), (.ref v), (.ref x)]) (fun _ _ A kq => XS.iload A hx rfl (hb hby own_d_jdk_42_method_150_30) rfl  kq) ?_
  have f8 := (eA.other W6 (Ne.symm (Exa.neArv P0 eA (ow hw 5 rfl))))
  refine ginfo fun _ _ O7 => ?_
  refine gcallS (y := (⟨"java/util/Arrays", "copyOfRange", "([BII)[B"⟩ : MethodName)) hx (ow hw 160 rfl) (ow hw 161 rfl) (ow hw 162 rfl) (ow hw 163 rfl) (by decide) (fun hZ H hEL => Pay.of_met (W := 1) (own_cor l Z a0 cx [] (v) (kz) (cs) (zs) (cap) vm4 h6 O7 f8 ez (by first | assumption | decide | omega) (by first | assumption | decide | omega) ecap) (ow hw 163 rfl) (ow hw 162 rfl) (by decide) (by decide) hZ H hEL) 35 (argsL := [(.ref v), (.int (0 : Int32)), (.int (Int32.ofNat (cs).length))]) (rest := [(.ref x)]) (lenOf own_pd240 rfl) rfl rfl (Nat.le_of_eq rfl) (by rw [hml]; rfl) (hb hby own_d_jdk_42_method_150_32) rfl (by decide) (by decide) ?_
  rintro _ vm7 h7 C7 ⟨r7, kb7, rfl, K7, q7_0, q7_1⟩
  have z7 := C7.2.1
  have lt_r7 : h7.size > r7 := q7_1.lt
  refine gat (mkF m 35 #[.val (.ref x), .val (.ref b), .val .null, .val (.ref v), .val (.int (Int32.ofNat (cs).length))] [(.ref r7), (.ref x)]) rfl ?_
  have f9 := ((P1.other W6 (Or.inr (slot_ne (Or.inr (ow hw 36 rfl)) (Or.inr (ow hw 34 rfl)) (by decide) (t := (.array .byte)) (t' := .byte) (by decide) (by decide)))).keep K7 nin0)
  have f10 := ((P0.wr W6).keep K7)
  have f11 := (C7.safe (show h6.size > x by omega) (C6.safe (show h0.size > x by omega) f5))
  refine gputF (host := "") hx (Or.inl (ow hw 35 rfl)) Via.refl f9 f10 (Or.inr ⟨(ow hw 36 rfl), rfl, hnm⟩) (ow hw 5 rfl) (ty := (.array .byte)) (by decide) rfl rfl P3 (fun _ => f11) 38 (hb hby own_d_jdk_42_method_150_35) rfl ?_
  intro h12 W12 C12
  have z12 := C12.2.1
  have F12 := f9.same W12
  refine gs (mkF m 97 #[.val (.ref x), .val (.ref b), .val .null, .val (.ref v), .val (.int (Int32.ofNat (cs).length))] []) (fun _ _ A kq => XS.goto A hx rfl (pc0 := 38) (pc' := 97) rfl (hb hby own_d_jdk_42_method_150_38) (by decide) (by decide) kq) ?_
  have f13 := (f10.wr W12)
  have f14 := ((F6.keep K7 nin0).other W12 (Or.inr (slot_ne (Or.inr (ow hw 34 rfl)) (Or.inr (ow hw 36 rfl)) (by decide) (t := .byte) (t' := (.array .byte)) (by decide) (by decide))))
  have f15 := (q7_1.other W12 (Nat.ne_of_gt (by omega)))
  have f17 := (C12.safe (show h7.size > x by omega) f11)
  exact gretV hx hret (hb hby own_d_jdk_42_method_150_97) (by decide) (by decide) (fun vq Cq => ⟨r7, rfl, ((((Keep.refl h0 [x]).wr W6 (Or.inl (List.mem_of_getElem? (i := 0) rfl))).trans K7 all0).wr W12 (Or.inl (List.mem_of_getElem? (i := 0) rfl))), (by omega), ⟨f13, f14, F12, ⟨_, f15⟩, eb, by omega⟩, (Cq.safe (show h12.size > x by omega) f17)⟩)
theorem own_d_jdk_42_method_53_0 : decode jdk_42_method_53_code 0 = .ok (.aload_n 0, 1) := by decide +kernel
theorem own_d_jdk_42_method_53_1 : decode jdk_42_method_53_code 1 = .ok (.aload_n 1, 1) := by decide +kernel
theorem own_d_jdk_42_method_53_2 : decode jdk_42_method_53_code 2 = .ok (.aconst_null, 1) := by decide +kernel
theorem own_d_jdk_42_method_53_3 : decode jdk_42_method_53_code 3 = .ok (.invokespecial 489, 3) := by decide +kernel
theorem own_pd270 : parseMethodDescriptor "(Ljava/lang/AbstractStringBuilder;Ljava/lang/Void;)V" = some ⟨[(.object "java/lang/AbstractStringBuilder"), (.object "java/lang/Void")], none⟩ := by decide +kernel
theorem own_d_jdk_42_method_53_6 : decode jdk_42_method_53_code 6 = .ok (.return_, 1) := by decide +kernel
set_option maxRecDepth 65536 in
set_option maxHeartbeats 40000000 in
theorem own_sinit3 (l : Launch) (Z : State) (a0 : Array Value) (cx : Ctx Z a0) (ws : List Jvm.Cond) (x : Addr) (b : Addr) (v0 : Value) (c0 : Value) (v : Addr) (cap : Nat) (cs : List Int32) (vm0 : Vm) (h0 : Heap) (X00 : Ext Z.heap h0) (P0 : Exa Z h0 x "java/lang/String") (P1 : Fld Z h0 x "java/lang/String" "value" "[B" v0) (P2 : Fld Z h0 x "java/lang/String" "coder" "B" c0) (P3 : Z.heap.size ≤ x) (P4 : Safe Z consts_1 vm0 h0 x) (P5 : SBd Z h0 b v cap cs) (hlt : (cs.length < cap)) (h32 : (cs.length ≤ 32)) :
    Met l (⟨"java/lang/String", "<init>", "(Ljava/lang/StringBuilder;)V"⟩ : MethodName) jdk_42_method_53_code 2 none ws ({ frames := 4, cells := 1, slots := 32, locals := 65 } : Room) Z consts_1 vm0 h0 #[(.ref x), (.ref b)] (fun rv vm h => ∃ (t : Addr), rv = none ∧ Keep h0 h [x] ∧ h0.size ≤ t ∧ Str Z h x t cs ∧ Safe Z consts_1 vm h x) := by
  obtain ⟨hw, hEL, ⟨zc, Scs, hzc⟩, ⟨fm, Sfm, hfm⟩, ⟨fe, ft, tt, Sfe, Efe, Fft, Sft⟩⟩ := id cx
  have hSA := own_SA hw
  refine Met.of_walk (a0 := a0) #[.val (.ref x), .val (.ref b)] (plainFor_of_name own_pn13) X00 hEL (fun m => by first | (simp [entryFrame, mkF, argsToLocals, Value.category]; done) | rfl) ?_
  intro p e s m below meth c vm hx hby hml hret hnm hC0
  have lt_x : h0.size > x := P0.lt
  have L4 := hC0.safe lt_x P4
  have lt_v : h0.size > v := P5.vlt
  have lt_b : h0.size > b := P5.1.lt
  refine gs (mkF m 1 #[.val (.ref x), .val (.ref b)] [(.ref x)]) (fun _ _ A kq => XS.aloadN A hx rfl (hb hby own_d_jdk_42_method_53_0) rfl rfl kq) ?_
  refine gs (mkF m 2 #[.val (.ref x), .val (.ref b)] [(.ref b), (.ref x)]) (fun _ _ A kq => XS.aloadN A hx rfl (hb hby own_d_jdk_42_method_53_1) rfl rfl kq) ?_
  refine gs (mkF m 3 #[.val (.ref x), .val (.ref b)] [.null, (.ref b), (.ref x)]) (fun _ _ A kq => XS.aconstNull A hx rfl (hb hby own_d_jdk_42_method_53_2) kq) ?_
  refine ginfo fun _ _ O1 => ?_
  refine gcallI (y := (⟨"java/lang/String", "<init>", "(Ljava/lang/AbstractStringBuilder;Ljava/lang/Void;)V"⟩ : MethodName)) hx rfl (ow hw 139 rfl) (ow hw 140 rfl) (ow hw 141 rfl) (by decide) (fun hZ H hEL => Pay.of_met (W := 0) (own_sinit5 l Z a0 cx [] (x) (b) (v0) (c0) (v) (cap) (cs) vm h0 O1 P0 P1 P2 P3 L4 P5 (by first | assumption | decide | omega) (by first | assumption | decide | omega)) (ow hw 141 rfl) (ow hw 6 rfl) (by decide) (by decide) hZ H hEL) (a := x) 6 (argsL := [(.ref b), .null]) (rest := []) (lenOf own_pd270 rfl) rfl rfl (Nat.le_of_eq rfl) (by rw [hml]; rfl) (hb hby own_d_jdk_42_method_53_3) rfl (by decide) (by decide) ?_
  rintro _ vm1 h1 C1 ⟨t1, rfl, K1, q1_0, q1_1, q1_2⟩
  have z1 := C1.2.1
  have lt_t1 : h1.size > t1 := q1_1.tlt
  refine gat (mkF m 6 #[.val (.ref x), .val (.ref b)] []) rfl ?_
  exact gretV hx hret (hb hby own_d_jdk_42_method_53_6) (by decide) (by decide) (fun vq Cq => ⟨t1, rfl, ((Keep.refl h0 [x]).trans K1 (allS (Or.inl (List.mem_of_getElem? (i := 0) rfl)) all0)), (by omega), q1_1, (Cq.safe (show h1.size > x by omega) q1_2)⟩)
theorem own_d_jdk_67_method_42_0 : decode jdk_67_method_42_code 0 = .ok (.new 18, 3) := by decide +kernel
theorem own_d_jdk_67_method_42_3 : decode jdk_67_method_42_code 3 = .ok (.dup, 1) := by decide +kernel
theorem own_d_jdk_67_method_42_4 : decode jdk_67_method_42_code 4 = .ok (.aload_n 0, 1) := by decide +kernel
theorem own_d_jdk_67_method_42_5 : decode jdk_67_method_42_code 5 = .ok (.invokespecial 137, 3) := by decide +kernel
theorem own_pd276 : parseMethodDescriptor "(Ljava/lang/StringBuilder;)V" = some ⟨[(.object "java/lang/StringBuilder")], none⟩ := by decide +kernel
theorem own_d_jdk_67_method_42_8 : decode jdk_67_method_42_code 8 = .ok (.areturn, 1) := by decide +kernel
set_option maxRecDepth 65536 in
set_option maxHeartbeats 40000000 in
theorem own_sbtostring (l : Launch) (Z : State) (a0 : Array Value) (cx : Ctx Z a0) (ws : List Jvm.Cond) (b : Addr) (v : Addr) (cap : Nat) (cs : List Int32) (vm0 : Vm) (h0 : Heap) (X00 : Ext Z.heap h0) (P0 : SBd Z h0 b v cap cs) (hlt : (cs.length < cap)) (h32 : (cs.length ≤ 32)) :
    Met l (⟨"java/lang/StringBuilder", "toString", "()Ljava/lang/String;"⟩ : MethodName) jdk_67_method_42_code 1 (some (.object "java/lang/String")) ws ({ frames := 5, cells := 2, slots := 36, locals := 79 } : Room) Z consts_1 vm0 h0 #[(.ref b)] (fun rv vm h => ∃ (r : Addr), ∃ (t : Addr), rv = some (.ref r) ∧ Keep h0 h [] ∧ h0.size ≤ r ∧ h0.size ≤ t ∧ Str Z h r t cs) := by
  obtain ⟨hw, hEL, ⟨zc, Scs, hzc⟩, ⟨fm, Sfm, hfm⟩, ⟨fe, ft, tt, Sfe, Efe, Fft, Sft⟩⟩ := id cx
  have hSA := own_SA hw
  refine Met.of_walk (a0 := a0) #[.val (.ref b)] (plainFor_of_name own_pn86) X00 hEL (fun m => by first | (simp [entryFrame, mkF, argsToLocals, Value.category]; done) | rfl) ?_
  intro p e s m below meth c vm hx hby hml hret hnm hC0
  have lt_v : h0.size > v := P0.vlt
  have lt_b : h0.size > b := P0.1.lt
  have eE := P0.1
  refine gnewO hx (ow hw 135 rfl) (ow hw 5 rfl) (ow hw 6 rfl) 3 (hb hby own_d_jdk_67_method_42_0) rfl (by decide) (by decide) ?_
  intro b1 h1 g1 E1 C1 A1 D1 n1 L1
  have z1 := C1.2.1
  have lt_b1 : h1.size > b1 := A1.lt
  have F1_coder : Fld Z h1 b1 "java/lang/String" "coder" "B" (.int (0 : Int32)) := D1 (Or.inr (ow hw 34 rfl)) (ty := .byte) (by decide)
  have F1_value : Fld Z h1 b1 "java/lang/String" "value" "[B" .null := D1 (Or.inr (ow hw 36 rfl)) (ty := (.array .byte)) (by decide)
  refine gs (mkF m 4 #[.val (.ref b)] [(.ref b1), (.ref b1)]) (fun _ _ A kq => XS.dup A hx rfl (hb hby own_d_jdk_67_method_42_3) rfl rfl kq) ?_
  refine gs (mkF m 5 #[.val (.ref b)] [(.ref b), (.ref b1), (.ref b1)]) (fun _ _ A kq => XS.aloadN A hx rfl (hb hby own_d_jdk_67_method_42_4) rfl rfl kq) ?_
  have f3 := (P0.ext E1)
  refine ginfo fun _ _ O2 => ?_
  refine gcallI (y := (⟨"java/lang/String", "<init>", "(Ljava/lang/StringBuilder;)V"⟩ : MethodName)) hx rfl (ow hw 136 rfl) (ow hw 137 rfl) (ow hw 138 rfl) (by decide) (fun hZ H hEL => Pay.of_met (W := 1) (own_sinit3 l Z a0 cx [] (b1) (b) (.null) ((.int (0 : Int32))) (v) (cap) (cs) vm h1 O2 A1 F1_value F1_coder n1 L1 f3 (by first | assumption | decide | omega) (by first | assumption | decide | omega)) (ow hw 138 rfl) (ow hw 6 rfl) (by decide) (by decide) hZ H hEL) (a := b1) 8 (argsL := [(.ref b)]) (rest := [(.ref b1)]) (lenOf own_pd276 rfl) rfl rfl (Nat.le_of_eq rfl) (by rw [hml]; rfl) (hb hby own_d_jdk_67_method_42_5) rfl (by decide) (by decide) ?_
  rintro _ vm2 h2 C2 ⟨t2, rfl, K2, q2_0, q2_1, q2_2⟩
  have z2 := C2.2.1
  have lt_t2 : h2.size > t2 := q2_1.tlt
  refine gat (mkF m 8 #[.val (.ref b)] [(.ref b1)]) rfl ?_
  exact gretA hx hret rfl rfl (hb hby own_d_jdk_67_method_42_8) (by decide) (by decide) (fun vq Cq => ⟨b1, t2, rfl, (((Keep.refl h0 []).ext E1).trans K2 (allS (Or.inr (by omega)) all0)), (by omega), (by omega), q2_1⟩)
def own_ch (x i : Int32) : Int32 := (((x.toUInt32 >>> (((8 : Int32) * i) &&& 31).toUInt32).toInt32) &&& (255 : Int32))
theorem own_d_method_3_0 : decode method_3_code 0 = .ok (.iload_n 0, 1) := by decide +kernel
theorem own_d_method_3_1 : decode method_3_code 1 = .ok (.bipush 8, 2) := by decide +kernel
theorem own_d_method_3_3 : decode method_3_code 3 = .ok (.iload_n 1, 1) := by decide +kernel
theorem own_d_method_3_4 : decode method_3_code 4 = .ok (.imul, 1) := by decide +kernel
theorem own_d_method_3_5 : decode method_3_code 5 = .ok (.iushr, 1) := by decide +kernel
theorem own_d_method_3_6 : decode method_3_code 6 = .ok (.sipush 255, 3) := by decide +kernel
theorem own_d_method_3_9 : decode method_3_code 9 = .ok (.iand, 1) := by decide +kernel
theorem own_d_method_3_10 : decode method_3_code 10 = .ok (.i2c, 1) := by decide +kernel
theorem own_d_method_3_11 : decode method_3_code 11 = .ok (.ireturn, 1) := by decide +kernel
theorem own_pn287 : plainName "com/example/limentinus/limentinus/core/KeyLayoutFencingKeyPinLaw" = true := by first | (simp [plainName, overriddenIn]; done) | decide +kernel
set_option maxRecDepth 65536 in
set_option maxHeartbeats 40000000 in
theorem own_chw (l : Launch) (Z : State) (a0 : Array Value) (cx : Ctx Z a0) (ws : List Jvm.Cond) (x : Int32) (i : Int32) (vm0 : Vm) (h0 : Heap) (X00 : Ext Z.heap h0)  :
    Met l (⟨"com/example/limentinus/limentinus/core/KeyLayoutFencingKeyPinLaw", "ch", "(II)C"⟩ : MethodName) method_3_code 2 (some .char) ws ({ frames := 0, cells := 0, slots := 0, locals := 0 } : Room) Z consts_1 vm0 h0 #[(.int x), (.int i)] (fun rv vm h => rv = some (.int (own_ch x i)) ∧ h0 = h) := by
  obtain ⟨hw, hEL, ⟨zc, Scs, hzc⟩, ⟨fm, Sfm, hfm⟩, ⟨fe, ft, tt, Sfe, Efe, Fft, Sft⟩⟩ := id cx
  have hSA := own_SA hw
  refine Met.of_walk (a0 := a0) #[.val (.int x), .val (.int i)] (plainFor_of_name own_pn287) X00 hEL (fun m => by first | (simp [entryFrame, mkF, argsToLocals, Value.category]; done) | rfl) ?_
  intro p e s m below meth c vm hx hby hml hret hnm hC0
  refine gs (mkF m 1 #[.val (.int x), .val (.int i)] [(.int x)]) (fun _ _ A kq => XS.iloadN A hx rfl (hb hby own_d_method_3_0) rfl  kq) ?_
  refine gs (mkF m 3 #[.val (.int x), .val (.int i)] [(.int (8 : Int32)), (.int x)]) (fun _ _ A kq => XS.bipush A hx rfl (hb hby own_d_method_3_1) kq) ?_
  refine gs (mkF m 4 #[.val (.int x), .val (.int i)] [(.int i), (.int (8 : Int32)), (.int x)]) (fun _ _ A kq => XS.iloadN A hx rfl (hb hby own_d_method_3_3) rfl  kq) ?_
  refine gs (mkF m 5 #[.val (.int x), .val (.int i)] [(.int ((8 : Int32) * i)), (.int x)]) (fun _ _ A kq => XS.imul A hx rfl (hb hby own_d_method_3_4) rfl kq) ?_
  refine gs (mkF m 6 #[.val (.int x), .val (.int i)] [(.int ((x.toUInt32 >>> (((8 : Int32) * i) &&& 31).toUInt32).toInt32))]) (fun _ _ A kq => XS.iushr A hx rfl (hb hby own_d_method_3_5) rfl kq) ?_
  refine gs (mkF m 9 #[.val (.int x), .val (.int i)] [(.int (255 : Int32)), (.int ((x.toUInt32 >>> (((8 : Int32) * i) &&& 31).toUInt32).toInt32))]) (fun _ _ A kq => XS.sipush A hx rfl (hb hby own_d_method_3_6) kq) ?_
  refine gs (mkF m 10 #[.val (.int x), .val (.int i)] [(.int (((x.toUInt32 >>> (((8 : Int32) * i) &&& 31).toUInt32).toInt32) &&& (255 : Int32)))]) (fun _ _ A kq => XS.iand A hx rfl (hb hby own_d_method_3_9) rfl kq) ?_
  refine gi2c hx (i2c_mask _) 11 (hb hby own_d_method_3_10) rfl ?_
  exact gretN (t := .char) hx hret (by simp) (hb hby own_d_method_3_11) (by decide) (by decide) (fun vq Cq => ⟨(congrArg (fun z => some (Value.int z)) (narC _)), rfl⟩)
def own_dr (x n : Int32) : List Int32 := if n = 0 then [] else if n = 1 then [(own_ch x (0 : Int32))] else if n = 2 then [(own_ch x (0 : Int32)), (own_ch x (1 : Int32))] else [(own_ch x (0 : Int32)), (own_ch x (1 : Int32)), (own_ch x (2 : Int32))]
theorem own_chB (x i : Int32) : B8 (own_ch x i) := b255 _
theorem own_narch (x i : Int32) : nar .char (own_ch x i) = own_ch x i := narC _
theorem own_dr0 (x : Int32) : own_dr x (0 : Int32) = [] := rfl
theorem own_dr1 (x : Int32) : own_dr x (1 : Int32) = [(own_ch x (0 : Int32))] := rfl
theorem own_dr2 (x : Int32) : own_dr x (2 : Int32) = [(own_ch x (0 : Int32)), (own_ch x (1 : Int32))] := rfl
theorem own_dr3 (x : Int32) : own_dr x (3 : Int32) = [(own_ch x (0 : Int32)), (own_ch x (1 : Int32)), (own_ch x (2 : Int32))] := rfl
theorem own_drL {x n : Int32} (h : n = 0 ∨ n = 1 ∨ n = 2 ∨ n = 3) : Int32.ofNat (own_dr x n).length = n ∧ (own_dr x n).length ≤ 3 := by rcases h with rfl | rfl | rfl | rfl <;> exact ⟨rfl, Nat.le_of_ble_eq_true rfl⟩
theorem own_drB {x n : Int32} (h : n = 0 ∨ n = 1 ∨ n = 2 ∨ n = 3) : ∀ c ∈ own_dr x n, B8 c := by
  rcases h with rfl | rfl | rfl | rfl
  · exact bnil
  · exact bcons (own_chB _ _) bnil
  · exact bcons (own_chB _ _) (bcons (own_chB _ _) bnil)
  · exact bcons (own_chB _ _) (bcons (own_chB _ _) (bcons (own_chB _ _) bnil))
theorem own_d_method_4_0 : decode method_4_code 0 = .ok (.iload_n 1, 1) := by decide +kernel
theorem own_d_method_4_1 : decode method_4_code 1 = .ok (.ifCond .ne 14, 3) := by decide +kernel
theorem own_d_method_4_4 : decode method_4_code 4 = .ok (.new 23, 3) := by decide +kernel
theorem own_d_method_4_7 : decode method_4_code 7 = .ok (.dup, 1) := by decide +kernel
theorem own_d_method_4_8 : decode method_4_code 8 = .ok (.iconst 0, 1) := by decide +kernel
theorem own_d_method_4_9 : decode method_4_code 9 = .ok (.newarray .char, 2) := by decide +kernel
theorem own_d_method_4_11 : decode method_4_code 11 = .ok (.invokespecial 32, 3) := by decide +kernel
theorem own_pd295 : parseMethodDescriptor "([C)V" = some ⟨[(.array .char)], none⟩ := by decide +kernel
theorem own_d_method_4_14 : decode method_4_code 14 = .ok (.areturn, 1) := by decide +kernel
theorem own_d_method_4_15 : decode method_4_code 15 = .ok (.iload_n 1, 1) := by decide +kernel
theorem own_d_method_4_16 : decode method_4_code 16 = .ok (.iconst 1, 1) := by decide +kernel
theorem own_d_method_4_17 : decode method_4_code 17 = .ok (.if_icmp .ne 12, 3) := by decide +kernel
theorem own_d_method_4_20 : decode method_4_code 20 = .ok (.iload_n 0, 1) := by decide +kernel
theorem own_d_method_4_21 : decode method_4_code 21 = .ok (.iconst 0, 1) := by decide +kernel
theorem own_d_method_4_22 : decode method_4_code 22 = .ok (.invokestatic 35, 3) := by decide +kernel
theorem own_pd303 : parseMethodDescriptor "(II)C" = some ⟨[.int, .int], some .char⟩ := by decide +kernel
theorem own_d_method_4_25 : decode method_4_code 25 = .ok (.invokestatic 39, 3) := by decide +kernel
theorem own_pd305 : parseMethodDescriptor "(C)Ljava/lang/String;" = some ⟨[.char], some (.object "java/lang/String")⟩ := by decide +kernel
theorem own_d_method_4_28 : decode method_4_code 28 = .ok (.areturn, 1) := by decide +kernel
theorem own_d_method_4_29 : decode method_4_code 29 = .ok (.iload_n 1, 1) := by decide +kernel
theorem own_d_method_4_30 : decode method_4_code 30 = .ok (.iconst 2, 1) := by decide +kernel
theorem own_d_method_4_31 : decode method_4_code 31 = .ok (.if_icmp .ne 30, 3) := by decide +kernel
theorem own_d_method_4_34 : decode method_4_code 34 = .ok (.new 23, 3) := by decide +kernel
theorem own_d_method_4_37 : decode method_4_code 37 = .ok (.dup, 1) := by decide +kernel
theorem own_d_method_4_38 : decode method_4_code 38 = .ok (.iconst 2, 1) := by decide +kernel
theorem own_d_method_4_39 : decode method_4_code 39 = .ok (.newarray .char, 2) := by decide +kernel
theorem own_d_method_4_41 : decode method_4_code 41 = .ok (.dup, 1) := by decide +kernel
theorem own_d_method_4_42 : decode method_4_code 42 = .ok (.iconst 0, 1) := by decide +kernel
theorem own_d_method_4_43 : decode method_4_code 43 = .ok (.iload_n 0, 1) := by decide +kernel
theorem own_d_method_4_44 : decode method_4_code 44 = .ok (.iconst 0, 1) := by decide +kernel
theorem own_d_method_4_45 : decode method_4_code 45 = .ok (.invokestatic 35, 3) := by decide +kernel
theorem own_d_method_4_48 : decode method_4_code 48 = .ok (.castore, 1) := by decide +kernel
theorem own_d_method_4_49 : decode method_4_code 49 = .ok (.dup, 1) := by decide +kernel
theorem own_d_method_4_50 : decode method_4_code 50 = .ok (.iconst 1, 1) := by decide +kernel
theorem own_d_method_4_51 : decode method_4_code 51 = .ok (.iload_n 0, 1) := by decide +kernel
theorem own_d_method_4_52 : decode method_4_code 52 = .ok (.iconst 1, 1) := by decide +kernel
theorem own_d_method_4_53 : decode method_4_code 53 = .ok (.invokestatic 35, 3) := by decide +kernel
theorem own_d_method_4_56 : decode method_4_code 56 = .ok (.castore, 1) := by decide +kernel
theorem own_d_method_4_57 : decode method_4_code 57 = .ok (.invokespecial 32, 3) := by decide +kernel
theorem own_d_method_4_60 : decode method_4_code 60 = .ok (.areturn, 1) := by decide +kernel
theorem own_d_method_4_61 : decode method_4_code 61 = .ok (.new 23, 3) := by decide +kernel
theorem own_d_method_4_64 : decode method_4_code 64 = .ok (.dup, 1) := by decide +kernel
theorem own_d_method_4_65 : decode method_4_code 65 = .ok (.iconst 3, 1) := by decide +kernel
theorem own_d_method_4_66 : decode method_4_code 66 = .ok (.newarray .char, 2) := by decide +kernel
theorem own_d_method_4_68 : decode method_4_code 68 = .ok (.dup, 1) := by decide +kernel
theorem own_d_method_4_69 : decode method_4_code 69 = .ok (.iconst 0, 1) := by decide +kernel
theorem own_d_method_4_70 : decode method_4_code 70 = .ok (.iload_n 0, 1) := by decide +kernel
theorem own_d_method_4_71 : decode method_4_code 71 = .ok (.iconst 0, 1) := by decide +kernel
theorem own_d_method_4_72 : decode method_4_code 72 = .ok (.invokestatic 35, 3) := by decide +kernel
theorem own_d_method_4_75 : decode method_4_code 75 = .ok (.castore, 1) := by decide +kernel
theorem own_d_method_4_76 : decode method_4_code 76 = .ok (.dup, 1) := by decide +kernel
theorem own_d_method_4_77 : decode method_4_code 77 = .ok (.iconst 1, 1) := by decide +kernel
theorem own_d_method_4_78 : decode method_4_code 78 = .ok (.iload_n 0, 1) := by decide +kernel
theorem own_d_method_4_79 : decode method_4_code 79 = .ok (.iconst 1, 1) := by decide +kernel
theorem own_d_method_4_80 : decode method_4_code 80 = .ok (.invokestatic 35, 3) := by decide +kernel
theorem own_d_method_4_83 : decode method_4_code 83 = .ok (.castore, 1) := by decide +kernel
theorem own_d_method_4_84 : decode method_4_code 84 = .ok (.dup, 1) := by decide +kernel
theorem own_d_method_4_85 : decode method_4_code 85 = .ok (.iconst 2, 1) := by decide +kernel
theorem own_d_method_4_86 : decode method_4_code 86 = .ok (.iload_n 0, 1) := by decide +kernel
theorem own_d_method_4_87 : decode method_4_code 87 = .ok (.iconst 2, 1) := by decide +kernel
theorem own_d_method_4_88 : decode method_4_code 88 = .ok (.invokestatic 35, 3) := by decide +kernel
theorem own_d_method_4_91 : decode method_4_code 91 = .ok (.castore, 1) := by decide +kernel
theorem own_d_method_4_92 : decode method_4_code 92 = .ok (.invokespecial 32, 3) := by decide +kernel
theorem own_d_method_4_95 : decode method_4_code 95 = .ok (.areturn, 1) := by decide +kernel
set_option maxRecDepth 65536 in
set_option maxHeartbeats 40000000 in
theorem own_draw (l : Launch) (Z : State) (a0 : Array Value) (cx : Ctx Z a0) (ws : List Jvm.Cond) (x : Int32) (n : Int32) (vm0 : Vm) (h0 : Heap) (X00 : Ext Z.heap h0) (P0 : (n = 0 ∨ n = 1 ∨ n = 2 ∨ n = 3)) :
    Met l (⟨"com/example/limentinus/limentinus/core/KeyLayoutFencingKeyPinLaw", "draw", "(II)Ljava/lang/String;"⟩ : MethodName) method_4_code 2 (some (.object "java/lang/String")) ws ({ frames := 4, cells := 6, slots := 12, locals := 66 } : Room) Z consts_1 vm0 h0 #[(.int x), (.int n)] (fun rv vm h => ∃ (r : Addr), ∃ (t : Addr), rv = some (.ref r) ∧ Keep h0 h [] ∧ Str Z h r t (own_dr x n)) := by
  obtain ⟨hw, hEL, ⟨zc, Scs, hzc⟩, ⟨fm, Sfm, hfm⟩, ⟨fe, ft, tt, Sfe, Efe, Fft, Sft⟩⟩ := id cx
  have hSA := own_SA hw
  refine Met.of_walk (a0 := a0) #[.val (.int x), .val (.int n)] (plainFor_of_name own_pn287) X00 hEL (fun m => by first | (simp [entryFrame, mkF, argsToLocals, Value.category]; done) | rfl) ?_
  intro p e s m below meth c vm hx hby hml hret hnm hC0
  rcases P0 with rfl | rfl | rfl | rfl
  · refine gs (mkF m 1 #[.val (.int x), .val (.int (0 : Int32))] [(.int (0 : Int32))]) (fun _ _ A kq => XS.iloadN A hx rfl (hb hby own_d_method_4_0) rfl  kq) ?_
    refine gs (mkF m 4 #[.val (.int x), .val (.int (0 : Int32))] []) (fun _ _ A kq => XS.ifNo A hx rfl (hb hby own_d_method_4_1) rfl ((if0 _ _).trans (teq (by decide)).2) kq) ?_
    refine gnewO hx (ow hw 4 rfl) (ow hw 5 rfl) (ow hw 6 rfl) 7 (hb hby own_d_method_4_4) rfl (by decide) (by decide) ?_
    intro b1 h1 g1 E1 C1 A1 D1 n1 L1
    have z1 := C1.2.1
    have lt_b1 : h1.size > b1 := A1.lt
    have F1_coder : Fld Z h1 b1 "java/lang/String" "coder" "B" (.int (0 : Int32)) := D1 (Or.inr (ow hw 34 rfl)) (ty := .byte) (by decide)
    have F1_value : Fld Z h1 b1 "java/lang/String" "value" "[B" .null := D1 (Or.inr (ow hw 36 rfl)) (ty := (.array .byte)) (by decide)
    refine gs (mkF m 8 #[.val (.int x), .val (.int (0 : Int32))] [(.ref b1), (.ref b1)]) (fun _ _ A kq => XS.dup A hx rfl (hb hby own_d_method_4_7) rfl rfl kq) ?_
    refine gs (mkF m 9 #[.val (.int x), .val (.int (0 : Int32))] [(.int (0 : Int32)), (.ref b1), (.ref b1)]) (fun _ _ A kq => XS.iconst A hx rfl (hb hby own_d_method_4_8) kq) ?_
    refine gnewP hx (ow hw 7 rfl) (n := (0 : Int32)) (by decide) (cap := 0) (by decide) (by decide) 11 (hb hby own_d_method_4_9) rfl (by decide) (by decide) ?_
    intro b2 h2 k2 g2 E2 C2 V2 n2 L2
    have z2 := C2.2.1
    have V2 : Arv Z h2 b2 k2 .char (0 : Int32) [] (.int (0 : Int32)) := V2.pad (pad_rep [] (.int (0 : Int32)) 0)
    have lt_b2 : h2.size > b2 := V2.lt
    have f4 := (A1.ext E2)
    have f5 := (F1_value.ext E2)
    have f6 := (F1_coder.ext E2)
    have f7 := (C2.safe (show h1.size > b1 by omega) L1)
    refine ginfo fun _ _ O3 => ?_
    refine gcallI (y := (⟨"java/lang/String", "<init>", "([C)V"⟩ : MethodName)) hx rfl (ow hw 11 rfl) (ow hw 12 rfl) (ow hw 13 rfl) (by decide) (fun hZ H hEL => Pay.of_met (W := 1) (own_emp1 l Z a0 cx [] (b1) (b2) (.null) ((.int (0 : Int32))) (k2) vm h2 O3 f4 f5 f6 n1 f7 V2) (ow hw 13 rfl) (ow hw 6 rfl) (by decide) (by decide) hZ H hEL) (a := b1) 14 (argsL := [(.ref b2)]) (rest := [(.ref b1)]) (lenOf own_pd295 rfl) rfl rfl (Nat.le_of_eq rfl) (by rw [hml]; rfl) (hb hby own_d_method_4_11) rfl (by decide) (by decide) ?_
    rintro _ vm3 h3 C3 ⟨t3, rfl, K3, q3_0, q3_1⟩
    have z3 := C3.2.1
    have lt_t3 : h3.size > t3 := q3_0.tlt
    refine gat (mkF m 14 #[.val (.int x), .val (.int (0 : Int32))] [(.ref b1)]) rfl ?_
    exact gretA hx hret rfl rfl (hb hby own_d_method_4_14) (by decide) (by decide) (fun vq Cq => ⟨b1, t3, rfl, ((((Keep.refl h0 []).ext E1).ext E2).trans K3 (allS (Or.inr (by omega)) all0)), (by rw [own_dr0]; exact q3_0)⟩)
  · refine gs (mkF m 1 #[.val (.int x), .val (.int (1 : Int32))] [(.int (1 : Int32))]) (fun _ _ A kq => XS.iloadN A hx rfl (hb hby own_d_method_4_0) rfl  kq) ?_
    refine gs (mkF m 15 #[.val (.int x), .val (.int (1 : Int32))] []) (fun _ _ A kq => XS.ifYes A hx rfl (pc0 := 1) (pc' := 15) rfl (hb hby own_d_method_4_1) rfl ((if0 _ _).trans (feq (by decide)).2) (by decide) (by decide) kq) ?_
    refine gs (mkF m 16 #[.val (.int x), .val (.int (1 : Int32))] [(.int (1 : Int32))]) (fun _ _ A kq => XS.iloadN A hx rfl (hb hby own_d_method_4_15) rfl  kq) ?_
    refine gs (mkF m 17 #[.val (.int x), .val (.int (1 : Int32))] [(.int (1 : Int32)), (.int (1 : Int32))]) (fun _ _ A kq => XS.iconst A hx rfl (hb hby own_d_method_4_16) kq) ?_
    refine gs (mkF m 20 #[.val (.int x), .val (.int (1 : Int32))] []) (fun _ _ A kq => XS.icmpNo A hx rfl (hb hby own_d_method_4_17) rfl (teq (by decide)).2 kq) ?_
    refine gs (mkF m 21 #[.val (.int x), .val (.int (1 : Int32))] [(.int x)]) (fun _ _ A kq => XS.iloadN A hx rfl (hb hby own_d_method_4_20) rfl  kq) ?_
    refine gs (mkF m 22 #[.val (.int x), .val (.int (1 : Int32))] [(.int (0 : Int32)), (.int x)]) (fun _ _ A kq => XS.iconst A hx rfl (hb hby own_d_method_4_21) kq) ?_
    refine ginfo fun _ _ O9 => ?_
    refine gcallS (y := (⟨"com/example/limentinus/limentinus/core/KeyLayoutFencingKeyPinLaw", "ch", "(II)C"⟩ : MethodName)) hx (ow hw 8 rfl) (ow hw 9 rfl) (ow hw 2 rfl) (ow hw 10 rfl) (by decide) (fun hZ H hEL => Pay.of_met (W := 0) (own_chw l Z a0 cx [] (x) ((0 : Int32)) vm h0 O9 ) (ow hw 10 rfl) (ow hw 2 rfl) (by decide) (by decide) hZ H hEL) 25 (argsL := [(.int x), (.int (0 : Int32))]) (rest := []) (lenOf own_pd303 rfl) rfl rfl (Nat.le_of_eq rfl) (by rw [hml]; rfl) (hb hby own_d_method_4_22) rfl (by decide) (by decide) ?_
    rintro _ vm9 h9 C9 ⟨rfl, rfl⟩
    have z9 := C9.2.1
    refine gat (mkF m 25 #[.val (.int x), .val (.int (1 : Int32))] [(.int (own_ch x (0 : Int32)))]) rfl ?_
    refine ginfo fun _ _ O10 => ?_
    refine gcallS (y := (⟨"java/lang/String", "valueOf", "(C)Ljava/lang/String;"⟩ : MethodName)) hx (ow hw 210 rfl) (ow hw 211 rfl) (ow hw 6 rfl) (ow hw 212 rfl) (by decide) (fun hZ H hEL => Pay.of_met (W := 0) (own_valueOfC l Z a0 cx [] ((own_ch x (0 : Int32))) vm9 h0 O10 (own_chB _ _)) (ow hw 212 rfl) (ow hw 6 rfl) (by decide) (by decide) hZ H hEL) 28 (argsL := [(.int (own_ch x (0 : Int32)))]) (rest := []) (lenOf own_pd305 rfl) rfl rfl (Nat.le_of_eq rfl) (by rw [hml]; rfl) (hb hby own_d_method_4_25) rfl (by decide) (by decide) ?_
    rintro _ vm10 h10 C10 ⟨r10, t10, rfl, K10, q10_0, q10_1⟩
    have z10 := C10.2.1
    have lt_r10 : h10.size > r10 := q10_1.1.lt
    have lt_t10 : h10.size > t10 := q10_1.tlt
    refine gat (mkF m 28 #[.val (.int x), .val (.int (1 : Int32))] [(.ref r10)]) rfl ?_
    exact gretA hx hret rfl rfl (hb hby own_d_method_4_28) (by decide) (by decide) (fun vq Cq => ⟨r10, t10, rfl, ((Keep.refl h0 []).trans K10 all0), (by rw [own_dr1]; exact q10_1)⟩)
  · refine gs (mkF m 1 #[.val (.int x), .val (.int (2 : Int32))] [(.int (2 : Int32))]) (fun _ _ A kq => XS.iloadN A hx rfl (hb hby own_d_method_4_0) rfl  kq) ?_
    refine gs (mkF m 15 #[.val (.int x), .val (.int (2 : Int32))] []) (fun _ _ A kq => XS.ifYes A hx rfl (pc0 := 1) (pc' := 15) rfl (hb hby own_d_method_4_1) rfl ((if0 _ _).trans (feq (by decide)).2) (by decide) (by decide) kq) ?_
    refine gs (mkF m 16 #[.val (.int x), .val (.int (2 : Int32))] [(.int (2 : Int32))]) (fun _ _ A kq => XS.iloadN A hx rfl (hb hby own_d_method_4_15) rfl  kq) ?_
    refine gs (mkF m 17 #[.val (.int x), .val (.int (2 : Int32))] [(.int (1 : Int32)), (.int (2 : Int32))]) (fun _ _ A kq => XS.iconst A hx rfl (hb hby own_d_method_4_16) kq) ?_
    refine gs (mkF m 29 #[.val (.int x), .val (.int (2 : Int32))] []) (fun _ _ A kq => XS.icmpYes A hx rfl (pc0 := 17) (pc' := 29) rfl (hb hby own_d_method_4_17) rfl (feq (by decide)).2 (by decide) (by decide) kq) ?_
    refine gs (mkF m 30 #[.val (.int x), .val (.int (2 : Int32))] [(.int (2 : Int32))]) (fun _ _ A kq => XS.iloadN A hx rfl (hb hby own_d_method_4_29) rfl  kq) ?_
    refine gs (mkF m 31 #[.val (.int x), .val (.int (2 : Int32))] [(.int (2 : Int32)), (.int (2 : Int32))]) (fun _ _ A kq => XS.iconst A hx rfl (hb hby own_d_method_4_30) kq) ?_
    refine gs (mkF m 34 #[.val (.int x), .val (.int (2 : Int32))] []) (fun _ _ A kq => XS.icmpNo A hx rfl (hb hby own_d_method_4_31) rfl (teq (by decide)).2 kq) ?_
    refine gnewO hx (ow hw 4 rfl) (ow hw 5 rfl) (ow hw 6 rfl) 37 (hb hby own_d_method_4_34) rfl (by decide) (by decide) ?_
    intro b12 h12 g12 E12 C12 A12 D12 n12 L12
    have z12 := C12.2.1
    have lt_b12 : h12.size > b12 := A12.lt
    have F12_coder : Fld Z h12 b12 "java/lang/String" "coder" "B" (.int (0 : Int32)) := D12 (Or.inr (ow hw 34 rfl)) (ty := .byte) (by decide)
    have F12_value : Fld Z h12 b12 "java/lang/String" "value" "[B" .null := D12 (Or.inr (ow hw 36 rfl)) (ty := (.array .byte)) (by decide)
    refine gs (mkF m 38 #[.val (.int x), .val (.int (2 : Int32))] [(.ref b12), (.ref b12)]) (fun _ _ A kq => XS.dup A hx rfl (hb hby own_d_method_4_37) rfl rfl kq) ?_
    refine gs (mkF m 39 #[.val (.int x), .val (.int (2 : Int32))] [(.int (2 : Int32)), (.ref b12), (.ref b12)]) (fun _ _ A kq => XS.iconst A hx rfl (hb hby own_d_method_4_38) kq) ?_
    refine gnewP hx (ow hw 7 rfl) (n := (2 : Int32)) (by decide) (cap := 2) (by decide) (by decide) 41 (hb hby own_d_method_4_39) rfl (by decide) (by decide) ?_
    intro b13 h13 k13 g13 E13 C13 V13 n13 L13
    have z13 := C13.2.1
    have V13 : Arv Z h13 b13 k13 .char (2 : Int32) [(.int (0 : Int32)), (.int (0 : Int32))] (.int (0 : Int32)) := V13.pad (pad_rep [] (.int (0 : Int32)) 2)
    have lt_b13 : h13.size > b13 := V13.lt
    refine gs (mkF m 42 #[.val (.int x), .val (.int (2 : Int32))] [(.ref b13), (.ref b13), (.ref b12), (.ref b12)]) (fun _ _ A kq => XS.dup A hx rfl (hb hby own_d_method_4_41) rfl rfl kq) ?_
    refine gs (mkF m 43 #[.val (.int x), .val (.int (2 : Int32))] [(.int (0 : Int32)), (.ref b13), (.ref b13), (.ref b12), (.ref b12)]) (fun _ _ A kq => XS.iconst A hx rfl (hb hby own_d_method_4_42) kq) ?_
    refine gs (mkF m 44 #[.val (.int x), .val (.int (2 : Int32))] [(.int x), (.int (0 : Int32)), (.ref b13), (.ref b13), (.ref b12), (.ref b12)]) (fun _ _ A kq => XS.iloadN A hx rfl (hb hby own_d_method_4_43) rfl  kq) ?_
    refine gs (mkF m 45 #[.val (.int x), .val (.int (2 : Int32))] [(.int (0 : Int32)), (.int x), (.int (0 : Int32)), (.ref b13), (.ref b13), (.ref b12), (.ref b12)]) (fun _ _ A kq => XS.iconst A hx rfl (hb hby own_d_method_4_44) kq) ?_
    refine ginfo fun _ _ O14 => ?_
    refine gcallS (y := (⟨"com/example/limentinus/limentinus/core/KeyLayoutFencingKeyPinLaw", "ch", "(II)C"⟩ : MethodName)) hx (ow hw 8 rfl) (ow hw 9 rfl) (ow hw 2 rfl) (ow hw 10 rfl) (by decide) (fun hZ H hEL => Pay.of_met (W := 5) (own_chw l Z a0 cx [] (x) ((0 : Int32)) vm h13 O14 ) (ow hw 10 rfl) (ow hw 2 rfl) (by decide) (by decide) hZ H hEL) 48 (argsL := [(.int x), (.int (0 : Int32))]) (rest := [(.int (0 : Int32)), (.ref b13), (.ref b13), (.ref b12), (.ref b12)]) (lenOf own_pd303 rfl) rfl rfl (Nat.le_of_eq rfl) (by rw [hml]; rfl) (hb hby own_d_method_4_45) rfl (by decide) (by decide) ?_
    rintro _ vm14 h14 C14 ⟨rfl, rfl⟩
    have z14 := C14.2.1
    refine gat (mkF m 48 #[.val (.int x), .val (.int (2 : Int32))] [(.int (own_ch x (0 : Int32))), (.int (0 : Int32)), (.ref b13), (.ref b13), (.ref b12), (.ref b12)]) rfl ?_
    refine gstC hx V13 ⟨by decide, by decide⟩ (i := 0) rfl (Nat.le_of_ble_eq_true rfl) (y := (own_ch x (0 : Int32))) (own_narch _ _) n13 49 (hb hby own_d_method_4_48) rfl ?_
    intro h15 W15 C15 V15
    have z15 := C15.2.1
    replace V15 : Arv Z h15 b13 k13 .char (2 : Int32) [(.int (own_ch x (0 : Int32))), (.int (0 : Int32))] (.int (0 : Int32)) := V15
    refine gs (mkF m 50 #[.val (.int x), .val (.int (2 : Int32))] [(.ref b13), (.ref b13), (.ref b12), (.ref b12)]) (fun _ _ A kq => XS.dup A hx rfl (hb hby own_d_method_4_49) rfl rfl kq) ?_
    refine gs (mkF m 51 #[.val (.int x), .val (.int (2 : Int32))] [(.int (1 : Int32)), (.ref b13), (.ref b13), (.ref b12), (.ref b12)]) (fun _ _ A kq => XS.iconst A hx rfl (hb hby own_d_method_4_50) kq) ?_
    refine gs (mkF m 52 #[.val (.int x), .val (.int (2 : Int32))] [(.int x), (.int (1 : Int32)), (.ref b13), (.ref b13), (.ref b12), (.ref b12)]) (fun _ _ A kq => XS.iloadN A hx rfl (hb hby own_d_method_4_51) rfl  kq) ?_
    refine gs (mkF m 53 #[.val (.int x), .val (.int (2 : Int32))] [(.int (1 : Int32)), (.int x), (.int (1 : Int32)), (.ref b13), (.ref b13), (.ref b12), (.ref b12)]) (fun _ _ A kq => XS.iconst A hx rfl (hb hby own_d_method_4_52) kq) ?_
    refine ginfo fun _ _ O16 => ?_
    refine gcallS (y := (⟨"com/example/limentinus/limentinus/core/KeyLayoutFencingKeyPinLaw", "ch", "(II)C"⟩ : MethodName)) hx (ow hw 8 rfl) (ow hw 9 rfl) (ow hw 2 rfl) (ow hw 10 rfl) (by decide) (fun hZ H hEL => Pay.of_met (W := 5) (own_chw l Z a0 cx [] (x) ((1 : Int32)) vm14 h15 O16 ) (ow hw 10 rfl) (ow hw 2 rfl) (by decide) (by decide) hZ H hEL) 56 (argsL := [(.int x), (.int (1 : Int32))]) (rest := [(.int (1 : Int32)), (.ref b13), (.ref b13), (.ref b12), (.ref b12)]) (lenOf own_pd303 rfl) rfl rfl (Nat.le_of_eq rfl) (by rw [hml]; rfl) (hb hby own_d_method_4_53) rfl (by decide) (by decide) ?_
    rintro _ vm16 h16 C16 ⟨rfl, rfl⟩
    have z16 := C16.2.1
    refine gat (mkF m 56 #[.val (.int x), .val (.int (2 : Int32))] [(.int (own_ch x (1 : Int32))), (.int (1 : Int32)), (.ref b13), (.ref b13), (.ref b12), (.ref b12)]) rfl ?_
    refine gstC hx V15 ⟨by decide, by decide⟩ (i := 1) rfl (Nat.le_of_ble_eq_true rfl) (y := (own_ch x (1 : Int32))) (own_narch _ _) n13 57 (hb hby own_d_method_4_56) rfl ?_
    intro h17 W17 C17 V17
    have z17 := C17.2.1
    replace V17 : Arv Z h17 b13 k13 .char (2 : Int32) [(.int (own_ch x (0 : Int32))), (.int (own_ch x (1 : Int32)))] (.int (0 : Int32)) := V17
    have f19 := (((A12.ext E13).wr W15).wr W17)
    have f20 := (((F12_value.ext E13).other W15 (Or.inl (Nat.ne_of_lt (by omega)))).other W17 (Or.inl (Nat.ne_of_lt (by omega))))
    have f21 := (((F12_coder.ext E13).other W15 (Or.inl (Nat.ne_of_lt (by omega)))).other W17 (Or.inl (Nat.ne_of_lt (by omega))))
    have f22 := (C17.safe (show h15.size > b12 by omega) (C16.safe (show h15.size > b12 by omega) (C15.safe (show h13.size > b12 by omega) (C14.safe (show h13.size > b12 by omega) (C13.safe (show h12.size > b12 by omega) L12)))))
    refine ginfo fun _ _ O18 => ?_
    refine gcallI (y := (⟨"java/lang/String", "<init>", "([C)V"⟩ : MethodName)) hx rfl (ow hw 11 rfl) (ow hw 12 rfl) (ow hw 13 rfl) (by decide) (fun hZ H hEL => own_payNew (W := 1) (own_wNew hw) (ow hw 5 rfl) Scs hzc O18 (cs := [(own_ch x (0 : Int32)), (own_ch x (1 : Int32))]) (n := 2) n12 f19 f20 f21 V17 rfl rfl (by decide) (by decide) (bcons (own_chB _ _) (bcons (own_chB _ _) bnil)) f22 (by decide) (by decide) hZ H hEL) (a := b12) 60 (argsL := [(.ref b13)]) (rest := [(.ref b12)]) (lenOf own_pd295 rfl) rfl rfl (Nat.le_of_eq rfl) (by rw [hml]; rfl) (hb hby own_d_method_4_57) rfl (by decide) (by decide) ?_
    rintro _ vm18 h18 C18 ⟨t18, rfl, K18, g18, S18⟩
    have z18 := C18.2.1
    have lt_t18 : h18.size > t18 := S18.tlt
    refine gat (mkF m 60 #[.val (.int x), .val (.int (2 : Int32))] [(.ref b12)]) rfl ?_
    exact gretA hx hret rfl rfl (hb hby own_d_method_4_60) (by decide) (by decide) (fun vq Cq => ⟨b12, t18, rfl, ((((((Keep.refl h0 []).ext E12).ext E13).wr W15 (Or.inr (by omega))).wr W17 (Or.inr (by omega))).trans K18 (allS (Or.inr (by omega)) all0)), (by rw [own_dr2]; exact S18)⟩)
  · refine gs (mkF m 1 #[.val (.int x), .val (.int (3 : Int32))] [(.int (3 : Int32))]) (fun _ _ A kq => XS.iloadN A hx rfl (hb hby own_d_method_4_0) rfl  kq) ?_
    refine gs (mkF m 15 #[.val (.int x), .val (.int (3 : Int32))] []) (fun _ _ A kq => XS.ifYes A hx rfl (pc0 := 1) (pc' := 15) rfl (hb hby own_d_method_4_1) rfl ((if0 _ _).trans (feq (by decide)).2) (by decide) (by decide) kq) ?_
    refine gs (mkF m 16 #[.val (.int x), .val (.int (3 : Int32))] [(.int (3 : Int32))]) (fun _ _ A kq => XS.iloadN A hx rfl (hb hby own_d_method_4_15) rfl  kq) ?_
    refine gs (mkF m 17 #[.val (.int x), .val (.int (3 : Int32))] [(.int (1 : Int32)), (.int (3 : Int32))]) (fun _ _ A kq => XS.iconst A hx rfl (hb hby own_d_method_4_16) kq) ?_
    refine gs (mkF m 29 #[.val (.int x), .val (.int (3 : Int32))] []) (fun _ _ A kq => XS.icmpYes A hx rfl (pc0 := 17) (pc' := 29) rfl (hb hby own_d_method_4_17) rfl (feq (by decide)).2 (by decide) (by decide) kq) ?_
    refine gs (mkF m 30 #[.val (.int x), .val (.int (3 : Int32))] [(.int (3 : Int32))]) (fun _ _ A kq => XS.iloadN A hx rfl (hb hby own_d_method_4_29) rfl  kq) ?_
    refine gs (mkF m 31 #[.val (.int x), .val (.int (3 : Int32))] [(.int (2 : Int32)), (.int (3 : Int32))]) (fun _ _ A kq => XS.iconst A hx rfl (hb hby own_d_method_4_30) kq) ?_
    refine gs (mkF m 61 #[.val (.int x), .val (.int (3 : Int32))] []) (fun _ _ A kq => XS.icmpYes A hx rfl (pc0 := 31) (pc' := 61) rfl (hb hby own_d_method_4_31) rfl (feq (by decide)).2 (by decide) (by decide) kq) ?_
    refine gnewO hx (ow hw 4 rfl) (ow hw 5 rfl) (ow hw 6 rfl) 64 (hb hby own_d_method_4_61) rfl (by decide) (by decide) ?_
    intro b24 h24 g24 E24 C24 A24 D24 n24 L24
    have z24 := C24.2.1
    have lt_b24 : h24.size > b24 := A24.lt
    have F24_coder : Fld Z h24 b24 "java/lang/String" "coder" "B" (.int (0 : Int32)) := D24 (Or.inr (ow hw 34 rfl)) (ty := .byte) (by decide)
    have F24_value : Fld Z h24 b24 "java/lang/String" "value" "[B" .null := D24 (Or.inr (ow hw 36 rfl)) (ty := (.array .byte)) (by decide)
    refine gs (mkF m 65 #[.val (.int x), .val (.int (3 : Int32))] [(.ref b24), (.ref b24)]) (fun _ _ A kq => XS.dup A hx rfl (hb hby own_d_method_4_64) rfl rfl kq) ?_
    refine gs (mkF m 66 #[.val (.int x), .val (.int (3 : Int32))] [(.int (3 : Int32)), (.ref b24), (.ref b24)]) (fun _ _ A kq => XS.iconst A hx rfl (hb hby own_d_method_4_65) kq) ?_
    refine gnewP hx (ow hw 7 rfl) (n := (3 : Int32)) (by decide) (cap := 3) (by decide) (by decide) 68 (hb hby own_d_method_4_66) rfl (by decide) (by decide) ?_
    intro b25 h25 k25 g25 E25 C25 V25 n25 L25
    have z25 := C25.2.1
    have V25 : Arv Z h25 b25 k25 .char (3 : Int32) [(.int (0 : Int32)), (.int (0 : Int32)), (.int (0 : Int32))] (.int (0 : Int32)) := V25.pad (pad_rep [] (.int (0 : Int32)) 3)
    have lt_b25 : h25.size > b25 := V25.lt
    refine gs (mkF m 69 #[.val (.int x), .val (.int (3 : Int32))] [(.ref b25), (.ref b25), (.ref b24), (.ref b24)]) (fun _ _ A kq => XS.dup A hx rfl (hb hby own_d_method_4_68) rfl rfl kq) ?_
    refine gs (mkF m 70 #[.val (.int x), .val (.int (3 : Int32))] [(.int (0 : Int32)), (.ref b25), (.ref b25), (.ref b24), (.ref b24)]) (fun _ _ A kq => XS.iconst A hx rfl (hb hby own_d_method_4_69) kq) ?_
    refine gs (mkF m 71 #[.val (.int x), .val (.int (3 : Int32))] [(.int x), (.int (0 : Int32)), (.ref b25), (.ref b25), (.ref b24), (.ref b24)]) (fun _ _ A kq => XS.iloadN A hx rfl (hb hby own_d_method_4_70) rfl  kq) ?_
    refine gs (mkF m 72 #[.val (.int x), .val (.int (3 : Int32))] [(.int (0 : Int32)), (.int x), (.int (0 : Int32)), (.ref b25), (.ref b25), (.ref b24), (.ref b24)]) (fun _ _ A kq => XS.iconst A hx rfl (hb hby own_d_method_4_71) kq) ?_
    refine ginfo fun _ _ O26 => ?_
    refine gcallS (y := (⟨"com/example/limentinus/limentinus/core/KeyLayoutFencingKeyPinLaw", "ch", "(II)C"⟩ : MethodName)) hx (ow hw 8 rfl) (ow hw 9 rfl) (ow hw 2 rfl) (ow hw 10 rfl) (by decide) (fun hZ H hEL => Pay.of_met (W := 5) (own_chw l Z a0 cx [] (x) ((0 : Int32)) vm h25 O26 ) (ow hw 10 rfl) (ow hw 2 rfl) (by decide) (by decide) hZ H hEL) 75 (argsL := [(.int x), (.int (0 : Int32))]) (rest := [(.int (0 : Int32)), (.ref b25), (.ref b25), (.ref b24), (.ref b24)]) (lenOf own_pd303 rfl) rfl rfl (Nat.le_of_eq rfl) (by rw [hml]; rfl) (hb hby own_d_method_4_72) rfl (by decide) (by decide) ?_
    rintro _ vm26 h26 C26 ⟨rfl, rfl⟩
    have z26 := C26.2.1
    refine gat (mkF m 75 #[.val (.int x), .val (.int (3 : Int32))] [(.int (own_ch x (0 : Int32))), (.int (0 : Int32)), (.ref b25), (.ref b25), (.ref b24), (.ref b24)]) rfl ?_
    refine gstC hx V25 ⟨by decide, by decide⟩ (i := 0) rfl (Nat.le_of_ble_eq_true rfl) (y := (own_ch x (0 : Int32))) (own_narch _ _) n25 76 (hb hby own_d_method_4_75) rfl ?_
    intro h27 W27 C27 V27
    have z27 := C27.2.1
    replace V27 : Arv Z h27 b25 k25 .char (3 : Int32) [(.int (own_ch x (0 : Int32))), (.int (0 : Int32)), (.int (0 : Int32))] (.int (0 : Int32)) := V27
    refine gs (mkF m 77 #[.val (.int x), .val (.int (3 : Int32))] [(.ref b25), (.ref b25), (.ref b24), (.ref b24)]) (fun _ _ A kq => XS.dup A hx rfl (hb hby own_d_method_4_76) rfl rfl kq) ?_
    refine gs (mkF m 78 #[.val (.int x), .val (.int (3 : Int32))] [(.int (1 : Int32)), (.ref b25), (.ref b25), (.ref b24), (.ref b24)]) (fun _ _ A kq => XS.iconst A hx rfl (hb hby own_d_method_4_77) kq) ?_
    refine gs (mkF m 79 #[.val (.int x), .val (.int (3 : Int32))] [(.int x), (.int (1 : Int32)), (.ref b25), (.ref b25), (.ref b24), (.ref b24)]) (fun _ _ A kq => XS.iloadN A hx rfl (hb hby own_d_method_4_78) rfl  kq) ?_
    refine gs (mkF m 80 #[.val (.int x), .val (.int (3 : Int32))] [(.int (1 : Int32)), (.int x), (.int (1 : Int32)), (.ref b25), (.ref b25), (.ref b24), (.ref b24)]) (fun _ _ A kq => XS.iconst A hx rfl (hb hby own_d_method_4_79) kq) ?_
    refine ginfo fun _ _ O28 => ?_
    refine gcallS (y := (⟨"com/example/limentinus/limentinus/core/KeyLayoutFencingKeyPinLaw", "ch", "(II)C"⟩ : MethodName)) hx (ow hw 8 rfl) (ow hw 9 rfl) (ow hw 2 rfl) (ow hw 10 rfl) (by decide) (fun hZ H hEL => Pay.of_met (W := 5) (own_chw l Z a0 cx [] (x) ((1 : Int32)) vm26 h27 O28 ) (ow hw 10 rfl) (ow hw 2 rfl) (by decide) (by decide) hZ H hEL) 83 (argsL := [(.int x), (.int (1 : Int32))]) (rest := [(.int (1 : Int32)), (.ref b25), (.ref b25), (.ref b24), (.ref b24)]) (lenOf own_pd303 rfl) rfl rfl (Nat.le_of_eq rfl) (by rw [hml]; rfl) (hb hby own_d_method_4_80) rfl (by decide) (by decide) ?_
    rintro _ vm28 h28 C28 ⟨rfl, rfl⟩
    have z28 := C28.2.1
    refine gat (mkF m 83 #[.val (.int x), .val (.int (3 : Int32))] [(.int (own_ch x (1 : Int32))), (.int (1 : Int32)), (.ref b25), (.ref b25), (.ref b24), (.ref b24)]) rfl ?_
    refine gstC hx V27 ⟨by decide, by decide⟩ (i := 1) rfl (Nat.le_of_ble_eq_true rfl) (y := (own_ch x (1 : Int32))) (own_narch _ _) n25 84 (hb hby own_d_method_4_83) rfl ?_
    intro h29 W29 C29 V29
    have z29 := C29.2.1
    replace V29 : Arv Z h29 b25 k25 .char (3 : Int32) [(.int (own_ch x (0 : Int32))), (.int (own_ch x (1 : Int32))), (.int (0 : Int32))] (.int (0 : Int32)) := V29
    refine gs (mkF m 85 #[.val (.int x), .val (.int (3 : Int32))] [(.ref b25), (.ref b25), (.ref b24), (.ref b24)]) (fun _ _ A kq => XS.dup A hx rfl (hb hby own_d_method_4_84) rfl rfl kq) ?_
    refine gs (mkF m 86 #[.val (.int x), .val (.int (3 : Int32))] [(.int (2 : Int32)), (.ref b25), (.ref b25), (.ref b24), (.ref b24)]) (fun _ _ A kq => XS.iconst A hx rfl (hb hby own_d_method_4_85) kq) ?_
    refine gs (mkF m 87 #[.val (.int x), .val (.int (3 : Int32))] [(.int x), (.int (2 : Int32)), (.ref b25), (.ref b25), (.ref b24), (.ref b24)]) (fun _ _ A kq => XS.iloadN A hx rfl (hb hby own_d_method_4_86) rfl  kq) ?_
    refine gs (mkF m 88 #[.val (.int x), .val (.int (3 : Int32))] [(.int (2 : Int32)), (.int x), (.int (2 : Int32)), (.ref b25), (.ref b25), (.ref b24), (.ref b24)]) (fun _ _ A kq => XS.iconst A hx rfl (hb hby own_d_method_4_87) kq) ?_
    refine ginfo fun _ _ O30 => ?_
    refine gcallS (y := (⟨"com/example/limentinus/limentinus/core/KeyLayoutFencingKeyPinLaw", "ch", "(II)C"⟩ : MethodName)) hx (ow hw 8 rfl) (ow hw 9 rfl) (ow hw 2 rfl) (ow hw 10 rfl) (by decide) (fun hZ H hEL => Pay.of_met (W := 5) (own_chw l Z a0 cx [] (x) ((2 : Int32)) vm28 h29 O30 ) (ow hw 10 rfl) (ow hw 2 rfl) (by decide) (by decide) hZ H hEL) 91 (argsL := [(.int x), (.int (2 : Int32))]) (rest := [(.int (2 : Int32)), (.ref b25), (.ref b25), (.ref b24), (.ref b24)]) (lenOf own_pd303 rfl) rfl rfl (Nat.le_of_eq rfl) (by rw [hml]; rfl) (hb hby own_d_method_4_88) rfl (by decide) (by decide) ?_
    rintro _ vm30 h30 C30 ⟨rfl, rfl⟩
    have z30 := C30.2.1
    refine gat (mkF m 91 #[.val (.int x), .val (.int (3 : Int32))] [(.int (own_ch x (2 : Int32))), (.int (2 : Int32)), (.ref b25), (.ref b25), (.ref b24), (.ref b24)]) rfl ?_
    refine gstC hx V29 ⟨by decide, by decide⟩ (i := 2) rfl (Nat.le_of_ble_eq_true rfl) (y := (own_ch x (2 : Int32))) (own_narch _ _) n25 92 (hb hby own_d_method_4_91) rfl ?_
    intro h31 W31 C31 V31
    have z31 := C31.2.1
    replace V31 : Arv Z h31 b25 k25 .char (3 : Int32) [(.int (own_ch x (0 : Int32))), (.int (own_ch x (1 : Int32))), (.int (own_ch x (2 : Int32)))] (.int (0 : Int32)) := V31
    have f33 := ((((A24.ext E25).wr W27).wr W29).wr W31)
    have f34 := ((((F24_value.ext E25).other W27 (Or.inl (Nat.ne_of_lt (by omega)))).other W29 (Or.inl (Nat.ne_of_lt (by omega)))).other W31 (Or.inl (Nat.ne_of_lt (by omega))))
    have f35 := ((((F24_coder.ext E25).other W27 (Or.inl (Nat.ne_of_lt (by omega)))).other W29 (Or.inl (Nat.ne_of_lt (by omega)))).other W31 (Or.inl (Nat.ne_of_lt (by omega))))
    have f36 := (C31.safe (show h29.size > b24 by omega) (C30.safe (show h29.size > b24 by omega) (C29.safe (show h27.size > b24 by omega) (C28.safe (show h27.size > b24 by omega) (C27.safe (show h25.size > b24 by omega) (C26.safe (show h25.size > b24 by omega) (C25.safe (show h24.size > b24 by omega) L24)))))))
    refine ginfo fun _ _ O32 => ?_
    refine gcallI (y := (⟨"java/lang/String", "<init>", "([C)V"⟩ : MethodName)) hx rfl (ow hw 11 rfl) (ow hw 12 rfl) (ow hw 13 rfl) (by decide) (fun hZ H hEL => own_payNew (W := 1) (own_wNew hw) (ow hw 5 rfl) Scs hzc O32 (cs := [(own_ch x (0 : Int32)), (own_ch x (1 : Int32)), (own_ch x (2 : Int32))]) (n := 3) n24 f33 f34 f35 V31 rfl rfl (by decide) (by decide) (bcons (own_chB _ _) (bcons (own_chB _ _) (bcons (own_chB _ _) bnil))) f36 (by decide) (by decide) hZ H hEL) (a := b24) 95 (argsL := [(.ref b25)]) (rest := [(.ref b24)]) (lenOf own_pd295 rfl) rfl rfl (Nat.le_of_eq rfl) (by rw [hml]; rfl) (hb hby own_d_method_4_92) rfl (by decide) (by decide) ?_
    rintro _ vm32 h32 C32 ⟨t32, rfl, K32, g32, S32⟩
    have z32 := C32.2.1
    have lt_t32 : h32.size > t32 := S32.tlt
    refine gat (mkF m 95 #[.val (.int x), .val (.int (3 : Int32))] [(.ref b24)]) rfl ?_
    exact gretA hx hret rfl rfl (hb hby own_d_method_4_95) (by decide) (by decide) (fun vq Cq => ⟨b24, t32, rfl, (((((((Keep.refl h0 []).ext E24).ext E25).wr W27 (Or.inr (by omega))).wr W29 (Or.inr (by omega))).wr W31 (Or.inr (by omega))).trans K32 (allS (Or.inr (by omega)) all0)), (by rw [own_dr3]; exact S32)⟩)
theorem own_d_prog_19_method_1_0 : decode prog_19_method_1_code 0 = .ok (.aload_n 0, 1) := by decide +kernel
theorem own_d_prog_19_method_1_1 : decode prog_19_method_1_code 1 = .ok (.invokespecial 1, 3) := by decide +kernel
theorem own_d_prog_19_method_1_4 : decode prog_19_method_1_code 4 = .ok (.aload_n 0, 1) := by decide +kernel
theorem own_d_prog_19_method_1_5 : decode prog_19_method_1_code 5 = .ok (.aload_n 1, 1) := by decide +kernel
theorem own_d_prog_19_method_1_6 : decode prog_19_method_1_code 6 = .ok (.ldc 7, 2) := by decide +kernel
theorem own_d_prog_19_method_1_8 : decode prog_19_method_1_code 8 = .ok (.invokestatic 9, 3) := by decide +kernel
theorem own_pd358 : parseMethodDescriptor "(Ljava/lang/Object;Ljava/lang/String;)Ljava/lang/Object;" = some ⟨[(.object "java/lang/Object"), (.object "java/lang/String")], some (.object "java/lang/Object")⟩ := by decide +kernel
theorem own_d_prog_19_method_1_11 : decode prog_19_method_1_code 11 = .ok (.checkcast 15, 3) := by decide +kernel
theorem own_d_prog_19_method_1_14 : decode prog_19_method_1_code 14 = .ok (.putfield 17, 3) := by decide +kernel
theorem own_d_prog_19_method_1_17 : decode prog_19_method_1_code 17 = .ok (.return_, 1) := by decide +kernel
theorem own_pn362 : plainName "com/example/limentinus/limentinus/core/KeyLayout" = true := by first | (simp [plainName, overriddenIn]; done) | decide +kernel
set_option maxRecDepth 65536 in
set_option maxHeartbeats 40000000 in
theorem own_klinit (l : Launch) (Z : State) (a0 : Array Value) (cx : Ctx Z a0) (ws : List Jvm.Cond) (x : Addr) (y : Addr) (u : Value) (t : Addr) (cs : List Int32) (vm0 : Vm) (h0 : Heap) (X00 : Ext Z.heap h0) (P0 : Exa Z h0 x "com/example/limentinus/limentinus/core/KeyLayout") (P1 : Fld Z h0 x "com/example/limentinus/limentinus/core/KeyLayout" "prefix" "Ljava/lang/String;" u) (P2 : Z.heap.size ≤ x) (P3 : Str Z h0 y t cs) :
    Met l (⟨"com/example/limentinus/limentinus/core/KeyLayout", "<init>", "(Ljava/lang/String;)V"⟩ : MethodName) prog_19_method_1_code 2 none ws ({ frames := 1, cells := 2, slots := 28, locals := 14 } : Room) Z consts_1 vm0 h0 #[(.ref x), (.ref y)] (fun rv vm h => rv = none ∧ Keep h0 h [x] ∧ Fld Z h x "com/example/limentinus/limentinus/core/KeyLayout" "prefix" "Ljava/lang/String;" (.ref y)) := by
  obtain ⟨hw, hEL, ⟨zc, Scs, hzc⟩, ⟨fm, Sfm, hfm⟩, ⟨fe, ft, tt, Sfe, Efe, Fft, Sft⟩⟩ := id cx
  have hSA := own_SA hw
  refine Met.of_walk (a0 := a0) #[.val (.ref x), .val (.ref y)] (plainFor_of_name own_pn362) X00 hEL (fun m => by first | (simp [entryFrame, mkF, argsToLocals, Value.category]; done) | rfl) ?_
  intro p e s m below meth c vm hx hby hml hret hnm hC0
  have lt_x : h0.size > x := P0.lt
  have lt_y : h0.size > y := P3.1.lt
  have lt_t : h0.size > t := P3.tlt
  refine gs (mkF m 1 #[.val (.ref x), .val (.ref y)] [(.ref x)]) (fun _ _ A kq => XS.aloadN A hx rfl (hb hby own_d_prog_19_method_1_0) rfl rfl kq) ?_
  refine ginitO hx (ow hw 46 rfl) (ow hw 19 rfl) (ow hw 20 rfl) 4 (W := 0) (Nat.le_of_eq rfl) (by rw [hml]; rfl) (hb hby own_d_prog_19_method_1_1) rfl (by decide) (by decide) ?_
  refine gs (mkF m 5 #[.val (.ref x), .val (.ref y)] [(.ref x)]) (fun _ _ A kq => XS.aloadN A hx rfl (hb hby own_d_prog_19_method_1_4) rfl rfl kq) ?_
  refine gs (mkF m 6 #[.val (.ref x), .val (.ref y)] [(.ref y), (.ref x)]) (fun _ _ A kq => XS.aloadN A hx rfl (hb hby own_d_prog_19_method_1_5) rfl rfl kq) ?_
  refine gldcO hx (ow hw 47 rfl) hSA (n := 24) (by decide) (by decide) 8 (hb hby own_d_prog_19_method_1_6) rfl (by decide) (by decide) ?_
  intro b2 vm2 h2 E2 C2
  have z2 := C2.2.1
  refine ginfo fun _ _ O3 => ?_
  refine gcallS (y := (⟨"java/util/Objects", "requireNonNull", "(Ljava/lang/Object;Ljava/lang/String;)Ljava/lang/Object;"⟩ : MethodName)) hx (ow hw 48 rfl) (ow hw 49 rfl) (ow hw 50 rfl) (ow hw 51 rfl) (by decide) (fun hZ H hEL => Pay.of_met (W := 1) (own_require2 l Z a0 cx [] (y) (b2) vm2 h2 O3 ) (ow hw 51 rfl) (ow hw 50 rfl) (by decide) (by decide) hZ H hEL) 11 (argsL := [(.ref y), (.ref b2)]) (rest := [(.ref x)]) (lenOf own_pd358 rfl) rfl rfl (Nat.le_of_eq rfl) (by rw [hml]; rfl) (hb hby own_d_prog_19_method_1_8) rfl (by decide) (by decide) ?_
  rintro _ vm3 h3 C3 ⟨rfl, rfl⟩
  have z3 := C3.2.1
  refine gat (mkF m 11 #[.val (.ref x), .val (.ref y)] [(.ref y), (.ref x)]) rfl ?_
  refine gcast hx (ow hw 52 rfl) (Ins.self (P3.1.ext E2)) 14 (hb hby own_d_prog_19_method_1_11) rfl ?_
  have f4 := (P1.ext E2)
  have f5 := (P0.ext E2)
  refine gputF (host := "") hx (Or.inl (ow hw 53 rfl)) Via.refl f4 f5 (Or.inr ⟨(ow hw 54 rfl), rfl, hnm⟩) (ow hw 41 rfl) (ty := (.object "java/lang/String")) (by decide) rfl rfl P2 (fun al => Safe.exa al f5 (by decide) (by decide)) 17 (hb hby own_d_prog_19_method_1_14) rfl ?_
  intro h6 W6 C6
  have z6 := C6.2.1
  have F6 := f4.same W6
  exact gretV hx hret (hb hby own_d_prog_19_method_1_17) (by decide) (by decide) (fun vq Cq => ⟨rfl, (((Keep.refl h0 [x]).ext E2).wr W6 (Or.inl (List.mem_of_getElem? (i := 0) rfl))), F6⟩)
theorem own_d_prog_19_method_2_0 : decode prog_19_method_2_code 0 = .ok (.new 22, 3) := by decide +kernel
theorem own_d_prog_19_method_2_3 : decode prog_19_method_2_code 3 = .ok (.dup, 1) := by decide +kernel
theorem own_d_prog_19_method_2_4 : decode prog_19_method_2_code 4 = .ok (.invokespecial 24, 3) := by decide +kernel
theorem own_pd366 : parseMethodDescriptor "()V" = some ⟨[], none⟩ := by decide +kernel
theorem own_d_prog_19_method_2_7 : decode prog_19_method_2_code 7 = .ok (.aload_n 0, 1) := by decide +kernel
theorem own_d_prog_19_method_2_8 : decode prog_19_method_2_code 8 = .ok (.getfield 17, 3) := by decide +kernel
theorem own_d_prog_19_method_2_11 : decode prog_19_method_2_code 11 = .ok (.invokevirtual 25, 3) := by decide +kernel
theorem own_pd370 : parseMethodDescriptor "(Ljava/lang/String;)Ljava/lang/StringBuilder;" = some ⟨[(.object "java/lang/String")], some (.object "java/lang/StringBuilder")⟩ := by decide +kernel
theorem own_d_prog_19_method_2_14 : decode prog_19_method_2_code 14 = .ok (.aload_n 1, 1) := by decide +kernel
theorem own_d_prog_19_method_2_15 : decode prog_19_method_2_code 15 = .ok (.invokevirtual 25, 3) := by decide +kernel
theorem own_d_prog_19_method_2_18 : decode prog_19_method_2_code 18 = .ok (.invokevirtual 29, 3) := by decide +kernel
theorem own_pd374 : parseMethodDescriptor "()Ljava/lang/String;" = some ⟨[], some (.object "java/lang/String")⟩ := by decide +kernel
theorem own_d_prog_19_method_2_21 : decode prog_19_method_2_code 21 = .ok (.areturn, 1) := by decide +kernel
set_option maxRecDepth 65536 in
set_option maxHeartbeats 40000000 in
theorem own_key (l : Launch) (Z : State) (a0 : Array Value) (cx : Ctx Z a0) (ws : List Jvm.Cond) (x : Addr) (y : Addr) (pf : Addr) (t1 : Addr) (ca : List Int32) (t2 : Addr) (cb : List Int32) (vm0 : Vm) (h0 : Heap) (X00 : Ext Z.heap h0) (P0 : Fld Z h0 x "com/example/limentinus/limentinus/core/KeyLayout" "prefix" "Ljava/lang/String;" (.ref pf)) (P1 : Str Z h0 pf t1 ca) (P2 : Str Z h0 y t2 cb) (h1 : (ca.length ≤ 3)) (h2 : (cb.length ≤ 3)) :
    Met l (⟨"com/example/limentinus/limentinus/core/KeyLayout", "key", "(Ljava/lang/String;)Ljava/lang/String;"⟩ : MethodName) prog_19_method_2_code 2 (some (.object "java/lang/String")) ws ({ frames := 6, cells := 4, slots := 56, locals := 91 } : Room) Z consts_1 vm0 h0 #[(.ref x), (.ref y)] (fun rv vm h => ∃ (r : Addr), ∃ (t : Addr), rv = some (.ref r) ∧ Keep h0 h [] ∧ h0.size ≤ t ∧ Str Z h r t (ca ++ cb)) := by
  obtain ⟨hw, hEL, ⟨zc, Scs, hzc⟩, ⟨fm, Sfm, hfm⟩, ⟨fe, ft, tt, Sfe, Efe, Fft, Sft⟩⟩ := id cx
  have hSA := own_SA hw
  refine Met.of_walk (a0 := a0) #[.val (.ref x), .val (.ref y)] (plainFor_of_name own_pn362) X00 hEL (fun m => by first | (simp [entryFrame, mkF, argsToLocals, Value.category]; done) | rfl) ?_
  intro p e s m below meth c vm hx hby hml hret hnm hC0
  have lt_x : h0.size > x := P0.lt
  have lt_pf : h0.size > pf := P1.1.lt
  have lt_t1 : h0.size > t1 := P1.tlt
  have lt_y : h0.size > y := P2.1.lt
  have lt_t2 : h0.size > t2 := P2.tlt
  refine gnewO hx (ow hw 60 rfl) (ow hw 61 rfl) (ow hw 62 rfl) 3 (hb hby own_d_prog_19_method_2_0) rfl (by decide) (by decide) ?_
  intro b1 h1 g1 E1 C1 A1 D1 n1 L1
  have z1 := C1.2.1
  have lt_b1 : h1.size > b1 := A1.lt
  have F1_value : Fld Z h1 b1 "java/lang/AbstractStringBuilder" "value" "[B" .null := D1 (Or.inl (ow hw 75 rfl)) (ty := (.array .byte)) (by decide)
  have F1_coder : Fld Z h1 b1 "java/lang/AbstractStringBuilder" "coder" "B" (.int (0 : Int32)) := D1 (Or.inl (ow hw 77 rfl)) (ty := .byte) (by decide)
  have F1_count : Fld Z h1 b1 "java/lang/AbstractStringBuilder" "count" "I" (.int (0 : Int32)) := D1 (Or.inl (ow hw 104 rfl)) (ty := .int) (by decide)
  refine gs (mkF m 4 #[.val (.ref x), .val (.ref y)] [(.ref b1), (.ref b1)]) (fun _ _ A kq => XS.dup A hx rfl (hb hby own_d_prog_19_method_2_3) rfl rfl kq) ?_
  refine ginfo fun _ _ O2 => ?_
  refine gcallI (y := (⟨"java/lang/StringBuilder", "<init>", "()V"⟩ : MethodName)) hx rfl (ow hw 63 rfl) (ow hw 64 rfl) (ow hw 65 rfl) (by decide) (fun hZ H hEL => Pay.of_met (W := 1) (own_sbinit l Z a0 cx [] (b1) (.null) ((.int (0 : Int32))) vm h1 O2 A1 F1_value F1_coder F1_count n1) (ow hw 65 rfl) (ow hw 62 rfl) (by decide) (by decide) hZ H hEL) (a := b1) 7 (argsL := []) (rest := [(.ref b1)]) (lenOf own_pd366 rfl) rfl rfl (Nat.le_of_eq rfl) (by rw [hml]; rfl) (hb hby own_d_prog_19_method_2_4) rfl (by decide) (by decide) ?_
  rintro _ vm2 h2 C2 ⟨v2, rfl, K2, q2_0, q2_1, q2_2, q2_3⟩
  have z2 := C2.2.1
  have lt_v2 : h2.size > v2 := q2_0.vlt
  refine gat (mkF m 7 #[.val (.ref x), .val (.ref y)] [(.ref b1)]) rfl ?_
  refine gs (mkF m 8 #[.val (.ref x), .val (.ref y)] [(.ref x), (.ref b1)]) (fun _ _ A kq => XS.aloadN A hx rfl (hb hby own_d_prog_19_method_2_7) rfl rfl kq) ?_
  have f3 := ((P0.ext E1).keep K2 (ninS (Nat.ne_of_lt (by omega)) nin0))
  refine ggetF (host := "") hx (Or.inl (ow hw 53 rfl)) Via.refl f3 11 (hb hby own_d_prog_19_method_2_8) rfl ?_
  have f5 := ((P1.ext E1).keep K2 (ninS (Nat.ne_of_lt (by omega)) nin0) (ninS (Nat.ne_of_lt (by omega)) nin0))
  refine ginfo fun _ _ O4 => ?_
  have f6 := (A1.keep K2)
  refine gcallV (y := (⟨"java/lang/StringBuilder", "append", "(Ljava/lang/String;)Ljava/lang/StringBuilder;"⟩ : MethodName)) (z := (⟨"java/lang/StringBuilder", "append", "(Ljava/lang/String;)Ljava/lang/StringBuilder;"⟩ : MethodName)) hx (ow hw 83 rfl) (ow hw 84 rfl) (nfSel (ow hw 86 rfl)) (ow hw 86 rfl) (ow hw 85 rfl) (by decide) (fun hZ H hEL => Pay.of_met (W := 0) (own_sbappend l Z a0 cx [] (b1) (pf) (v2) (16) (([] : List Int32)) (t1) (ca) vm2 h2 O4 q2_0 f5 n1 q2_2 q2_3 (by simp only [List.length_nil]; omega) (Nat.ne_of_gt (by omega))) (ow hw 87 rfl) (ow hw 62 rfl) (by decide) (by decide) hZ H hEL) 14 (argsL := [(.ref pf)]) (rest := []) f6 (lenOf own_pd370 rfl) rfl rfl (Nat.le_of_eq rfl) (by rw [hml]; rfl) (hb hby own_d_prog_19_method_2_11) rfl (by decide) (by decide) ?_
  rintro _ vm4 h4 C4 ⟨rfl, K4, q4_0, q4_1⟩
  have z4 := C4.2.1
  refine gat (mkF m 14 #[.val (.ref x), .val (.ref y)] [(.ref b1)]) rfl ?_
  refine gs (mkF m 15 #[.val (.ref x), .val (.ref y)] [(.ref y), (.ref b1)]) (fun _ _ A kq => XS.aloadN A hx rfl (hb hby own_d_prog_19_method_2_14) rfl rfl kq) ?_
  have f8 := (((P2.ext E1).keep K2 (ninS (Nat.ne_of_lt (by omega)) nin0) (ninS (Nat.ne_of_lt (by omega)) nin0)).keep K4 (ninS (Nat.ne_of_lt (by omega)) (ninS (Nat.ne_of_lt (by omega)) nin0)) (ninS (Nat.ne_of_lt (by omega)) (ninS (Nat.ne_of_lt (by omega)) nin0)))
  refine ginfo fun _ _ O7 => ?_
  have f9 := (f6.keep K4)
  refine gcallV (y := (⟨"java/lang/StringBuilder", "append", "(Ljava/lang/String;)Ljava/lang/StringBuilder;"⟩ : MethodName)) (z := (⟨"java/lang/StringBuilder", "append", "(Ljava/lang/String;)Ljava/lang/StringBuilder;"⟩ : MethodName)) hx (ow hw 83 rfl) (ow hw 84 rfl) (nfSel (ow hw 86 rfl)) (ow hw 86 rfl) (ow hw 85 rfl) (by decide) (fun hZ H hEL => Pay.of_met (W := 0) (own_sbappend l Z a0 cx [] (b1) (y) (v2) (16) ((([] : List Int32) ++ ca)) (t2) (cb) vm4 h4 O7 q4_0 f8 n1 q2_2 q4_1 (by simp only [List.length_append, List.length_nil]; omega) (Nat.ne_of_gt (by omega))) (ow hw 87 rfl) (ow hw 62 rfl) (by decide) (by decide) hZ H hEL) 18 (argsL := [(.ref y)]) (rest := []) f9 (lenOf own_pd370 rfl) rfl rfl (Nat.le_of_eq rfl) (by rw [hml]; rfl) (hb hby own_d_prog_19_method_2_15) rfl (by decide) (by decide) ?_
  rintro _ vm7 h7 C7 ⟨rfl, K7, q7_0, q7_1⟩
  have z7 := C7.2.1
  refine gat (mkF m 18 #[.val (.ref x), .val (.ref y)] [(.ref b1)]) rfl ?_
  refine ginfo fun _ _ O10 => ?_
  have f11 := (f9.keep K7)
  refine gcallV (y := (⟨"java/lang/StringBuilder", "toString", "()Ljava/lang/String;"⟩ : MethodName)) (z := (⟨"java/lang/StringBuilder", "toString", "()Ljava/lang/String;"⟩ : MethodName)) hx (ow hw 130 rfl) (ow hw 131 rfl) (nfSel (ow hw 133 rfl)) (ow hw 133 rfl) (ow hw 132 rfl) (by decide) (fun hZ H hEL => Pay.of_met (W := 0) (own_sbtostring l Z a0 cx [] (b1) (v2) (16) (((([] : List Int32) ++ ca) ++ cb)) vm7 h7 O10 q7_0 (by simp only [List.length_append, List.length_nil]; omega) (by simp only [List.length_append, List.length_nil]; omega)) (ow hw 134 rfl) (ow hw 62 rfl) (by decide) (by decide) hZ H hEL) 21 (argsL := []) (rest := []) f11 (lenOf own_pd374 rfl) rfl rfl (Nat.le_of_eq rfl) (by rw [hml]; rfl) (hb hby own_d_prog_19_method_2_18) rfl (by decide) (by decide) ?_
  rintro _ vm10 h10 C10 ⟨r10, t10, rfl, K10, q10_0, q10_1, q10_2⟩
  have z10 := C10.2.1
  have lt_r10 : h10.size > r10 := q10_2.1.lt
  have lt_t10 : h10.size > t10 := q10_2.tlt
  refine gat (mkF m 21 #[.val (.ref x), .val (.ref y)] [(.ref r10)]) rfl ?_
  exact gretA hx hret rfl rfl (hb hby own_d_prog_19_method_2_21) (by decide) (by decide) (fun vq Cq => ⟨r10, t10, rfl, ((((((Keep.refl h0 []).ext E1).trans K2 (allS (Or.inr (by omega)) all0)).trans K4 (allS (Or.inr (by omega)) (allS (Or.inr (by omega)) all0))).trans K7 (allS (Or.inr (by omega)) (allS (Or.inr (by omega)) all0))).trans K10 all0), (by omega), (by have q := q10_2; rw [List.nil_append] at q; exact q)⟩)
theorem own_d_prog_19_method_3_0 : decode prog_19_method_3_code 0 = .ok (.new 22, 3) := by decide +kernel
theorem own_d_prog_19_method_3_3 : decode prog_19_method_3_code 3 = .ok (.dup, 1) := by decide +kernel
theorem own_d_prog_19_method_3_4 : decode prog_19_method_3_code 4 = .ok (.invokespecial 24, 3) := by decide +kernel
theorem own_d_prog_19_method_3_7 : decode prog_19_method_3_code 7 = .ok (.aload_n 0, 1) := by decide +kernel
theorem own_d_prog_19_method_3_8 : decode prog_19_method_3_code 8 = .ok (.aload_n 1, 1) := by decide +kernel
theorem own_d_prog_19_method_3_9 : decode prog_19_method_3_code 9 = .ok (.invokevirtual 33, 3) := by decide +kernel
theorem own_pd382 : parseMethodDescriptor "(Ljava/lang/String;)Ljava/lang/String;" = some ⟨[(.object "java/lang/String")], some (.object "java/lang/String")⟩ := by decide +kernel
theorem own_d_prog_19_method_3_12 : decode prog_19_method_3_code 12 = .ok (.invokevirtual 25, 3) := by decide +kernel
theorem own_d_prog_19_method_3_15 : decode prog_19_method_3_code 15 = .ok (.getstatic 37, 3) := by decide +kernel
theorem own_d_prog_19_method_3_18 : decode prog_19_method_3_code 18 = .ok (.getfield 43, 3) := by decide +kernel
theorem own_d_prog_19_method_3_21 : decode prog_19_method_3_code 21 = .ok (.invokevirtual 25, 3) := by decide +kernel
theorem own_d_prog_19_method_3_24 : decode prog_19_method_3_code 24 = .ok (.invokevirtual 29, 3) := by decide +kernel
theorem own_d_prog_19_method_3_27 : decode prog_19_method_3_code 27 = .ok (.areturn, 1) := by decide +kernel
set_option maxRecDepth 65536 in
set_option maxHeartbeats 40000000 in
theorem own_fencing (l : Launch) (Z : State) (a0 : Array Value) (cx : Ctx Z a0) (ws : List Jvm.Cond) (x : Addr) (y : Addr) (pf : Addr) (t1 : Addr) (ca : List Int32) (t2 : Addr) (cb : List Int32) (vm0 : Vm) (h0 : Heap) (X00 : Ext Z.heap h0) (P0 : Exa Z h0 x "com/example/limentinus/limentinus/core/KeyLayout") (P1 : Fld Z h0 x "com/example/limentinus/limentinus/core/KeyLayout" "prefix" "Ljava/lang/String;" (.ref pf)) (P2 : Str Z h0 pf t1 ca) (P3 : Str Z h0 y t2 cb) (h1 : (ca.length ≤ 3)) (h2 : (cb.length ≤ 3)) :
    Met l (⟨"com/example/limentinus/limentinus/core/KeyLayout", "fencingKey", "(Ljava/lang/String;)Ljava/lang/String;"⟩ : MethodName) prog_19_method_3_code 2 (some (.object "java/lang/String")) ws ({ frames := 7, cells := 8, slots := 112, locals := 105 } : Room) Z consts_1 vm0 h0 #[(.ref x), (.ref y)] (fun rv vm h => ∃ (r : Addr), ∃ (t : Addr), rv = some (.ref r) ∧ Keep h0 h [] ∧ Str Z h r t (ca ++ cb ++ [(58 : Int32), (102 : Int32), (101 : Int32), (110 : Int32), (99 : Int32), (101 : Int32)])) := by
  obtain ⟨hw, hEL, ⟨zc, Scs, hzc⟩, ⟨fm, Sfm, hfm⟩, ⟨fe, ft, tt, Sfe, Efe, Fft, Sft⟩⟩ := id cx
  have hSA := own_SA hw
  refine Met.of_walk (a0 := a0) #[.val (.ref x), .val (.ref y)] (plainFor_of_name own_pn362) X00 hEL (fun m => by first | (simp [entryFrame, mkF, argsToLocals, Value.category]; done) | rfl) ?_
  intro p e s m below meth c vm hx hby hml hret hnm hC0
  have lt_x : h0.size > x := P0.lt
  have lt_pf : h0.size > pf := P2.1.lt
  have lt_t1 : h0.size > t1 := P2.tlt
  have lt_y : h0.size > y := P3.1.lt
  have lt_t2 : h0.size > t2 := P3.tlt
  refine gnewO hx (ow hw 60 rfl) (ow hw 61 rfl) (ow hw 62 rfl) 3 (hb hby own_d_prog_19_method_3_0) rfl (by decide) (by decide) ?_
  intro b1 h1 g1 E1 C1 A1 D1 n1 L1
  have z1 := C1.2.1
  have lt_b1 : h1.size > b1 := A1.lt
  have F1_value : Fld Z h1 b1 "java/lang/AbstractStringBuilder" "value" "[B" .null := D1 (Or.inl (ow hw 75 rfl)) (ty := (.array .byte)) (by decide)
  have F1_coder : Fld Z h1 b1 "java/lang/AbstractStringBuilder" "coder" "B" (.int (0 : Int32)) := D1 (Or.inl (ow hw 77 rfl)) (ty := .byte) (by decide)
  have F1_count : Fld Z h1 b1 "java/lang/AbstractStringBuilder" "count" "I" (.int (0 : Int32)) := D1 (Or.inl (ow hw 104 rfl)) (ty := .int) (by decide)
  refine gs (mkF m 4 #[.val (.ref x), .val (.ref y)] [(.ref b1), (.ref b1)]) (fun _ _ A kq => XS.dup A hx rfl (hb hby own_d_prog_19_method_3_3) rfl rfl kq) ?_
  refine ginfo fun _ _ O2 => ?_
  refine gcallI (y := (⟨"java/lang/StringBuilder", "<init>", "()V"⟩ : MethodName)) hx rfl (ow hw 63 rfl) (ow hw 64 rfl) (ow hw 65 rfl) (by decide) (fun hZ H hEL => Pay.of_met (W := 1) (own_sbinit l Z a0 cx [] (b1) (.null) ((.int (0 : Int32))) vm h1 O2 A1 F1_value F1_coder F1_count n1) (ow hw 65 rfl) (ow hw 62 rfl) (by decide) (by decide) hZ H hEL) (a := b1) 7 (argsL := []) (rest := [(.ref b1)]) (lenOf own_pd366 rfl) rfl rfl (Nat.le_of_eq rfl) (by rw [hml]; rfl) (hb hby own_d_prog_19_method_3_4) rfl (by decide) (by decide) ?_
  rintro _ vm2 h2 C2 ⟨v2, rfl, K2, q2_0, q2_1, q2_2, q2_3⟩
  have z2 := C2.2.1
  have lt_v2 : h2.size > v2 := q2_0.vlt
  refine gat (mkF m 7 #[.val (.ref x), .val (.ref y)] [(.ref b1)]) rfl ?_
  refine gs (mkF m 8 #[.val (.ref x), .val (.ref y)] [(.ref x), (.ref b1)]) (fun _ _ A kq => XS.aloadN A hx rfl (hb hby own_d_prog_19_method_3_7) rfl rfl kq) ?_
  refine gs (mkF m 9 #[.val (.ref x), .val (.ref y)] [(.ref y), (.ref x), (.ref b1)]) (fun _ _ A kq => XS.aloadN A hx rfl (hb hby own_d_prog_19_method_3_8) rfl rfl kq) ?_
  have f4 := ((P1.ext E1).keep K2 (ninS (Nat.ne_of_lt (by omega)) nin0))
  have f5 := ((P2.ext E1).keep K2 (ninS (Nat.ne_of_lt (by omega)) nin0) (ninS (Nat.ne_of_lt (by omega)) nin0))
  have f6 := ((P3.ext E1).keep K2 (ninS (Nat.ne_of_lt (by omega)) nin0) (ninS (Nat.ne_of_lt (by omega)) nin0))
  refine ginfo fun _ _ O3 => ?_
  have f7 := ((P0.ext E1).keep K2)
  refine gcallV (y := (⟨"com/example/limentinus/limentinus/core/KeyLayout", "key", "(Ljava/lang/String;)Ljava/lang/String;"⟩ : MethodName)) (z := (⟨"com/example/limentinus/limentinus/core/KeyLayout", "key", "(Ljava/lang/String;)Ljava/lang/String;"⟩ : MethodName)) hx (ow hw 78 rfl) (ow hw 79 rfl) (nfSel (ow hw 81 rfl)) (ow hw 81 rfl) (ow hw 80 rfl) (by decide) (fun hZ H hEL => Pay.of_met (W := 1) (own_key l Z a0 cx [] (x) (y) (pf) (t1) (ca) (t2) (cb) vm2 h2 O3 f4 f5 f6 (by first | assumption | decide | omega) (by first | assumption | decide | omega)) (ow hw 82 rfl) (ow hw 42 rfl) (by decide) (by decide) hZ H hEL) 12 (argsL := [(.ref y)]) (rest := [(.ref b1)]) f7 (lenOf own_pd382 rfl) rfl rfl (Nat.le_of_eq rfl) (by rw [hml]; rfl) (hb hby own_d_prog_19_method_3_9) rfl (by decide) (by decide) ?_
  rintro _ vm3 h3 C3 ⟨r3, t3, rfl, K3, q3_0, q3_1⟩
  have z3 := C3.2.1
  have lt_r3 : h3.size > r3 := q3_1.1.lt
  have lt_t3 : h3.size > t3 := q3_1.tlt
  refine gat (mkF m 12 #[.val (.ref x), .val (.ref y)] [(.ref r3), (.ref b1)]) rfl ?_
  have f9 := (q2_0.keep K3 nin0 nin0)
  have f10 := (C3.safe (show h2.size > v2 by omega) q2_3)
  refine ginfo fun _ _ O8 => ?_
  have f11 := ((A1.keep K2).keep K3)
  refine gcallV (y := (⟨"java/lang/StringBuilder", "append", "(Ljava/lang/String;)Ljava/lang/StringBuilder;"⟩ : MethodName)) (z := (⟨"java/lang/StringBuilder", "append", "(Ljava/lang/String;)Ljava/lang/StringBuilder;"⟩ : MethodName)) hx (ow hw 83 rfl) (ow hw 84 rfl) (nfSel (ow hw 86 rfl)) (ow hw 86 rfl) (ow hw 85 rfl) (by decide) (fun hZ H hEL => Pay.of_met (W := 0) (own_sbappend l Z a0 cx [] (b1) (r3) (v2) (16) (([] : List Int32)) (t3) ((ca ++ cb)) vm3 h3 O8 f9 q3_1 n1 q2_2 f10 (by simp only [List.length_append, List.length_nil]; omega) (Nat.ne_of_lt (by omega))) (ow hw 87 rfl) (ow hw 62 rfl) (by decide) (by decide) hZ H hEL) 15 (argsL := [(.ref r3)]) (rest := []) f11 (lenOf own_pd370 rfl) rfl rfl (Nat.le_of_eq rfl) (by rw [hml]; rfl) (hb hby own_d_prog_19_method_3_12) rfl (by decide) (by decide) ?_
  rintro _ vm8 h8 C8 ⟨rfl, K8, q8_0, q8_1⟩
  have z8 := C8.2.1
  refine gat (mkF m 15 #[.val (.ref x), .val (.ref y)] [(.ref b1)]) rfl ?_
  refine ginfo fun _ _ O12 => ?_
  have Fx12 := Fft.ext O12
  have Sx12 := Sft.ext O12
  have lt_fe : h8.size > fe := Fx12.lt
  have lt_ft : h8.size > ft := Sx12.1.lt
  have lt_tt : h8.size > tt := Sx12.tlt
  have lo_tt : Z.heap.size > tt := Sft.tlt
  refine ggetS (host := "") hx (Or.inl (ow hw 175 rfl)) Via.refl Sfe 18 (hb hby own_d_prog_19_method_3_15) rfl ?_
  refine ggetFR hx (ow hw 178 rfl) Via.refl Fx12 21 (hb hby own_d_prog_19_method_3_18) rfl ?_
  refine ginfo fun _ _ O13 => ?_
  have f14 := (f11.keep K8)
  refine gcallV (y := (⟨"java/lang/StringBuilder", "append", "(Ljava/lang/String;)Ljava/lang/StringBuilder;"⟩ : MethodName)) (z := (⟨"java/lang/StringBuilder", "append", "(Ljava/lang/String;)Ljava/lang/StringBuilder;"⟩ : MethodName)) hx (ow hw 83 rfl) (ow hw 84 rfl) (nfSel (ow hw 86 rfl)) (ow hw 86 rfl) (ow hw 85 rfl) (by decide) (fun hZ H hEL => Pay.of_met (W := 0) (own_sbappend l Z a0 cx [] (b1) (ft) (v2) (16) ((([] : List Int32) ++ (ca ++ cb))) (tt) ([(58 : Int32), (102 : Int32), (101 : Int32), (110 : Int32), (99 : Int32), (101 : Int32)]) vm8 h8 O13 q8_0 Sx12 n1 q2_2 q8_1 (by simp only [List.length_append, List.length_nil, List.length_cons]; omega) (Nat.ne_of_gt (by omega))) (ow hw 87 rfl) (ow hw 62 rfl) (by decide) (by decide) hZ H hEL) 24 (argsL := [(.ref ft)]) (rest := []) f14 (lenOf own_pd370 rfl) rfl rfl (Nat.le_of_eq rfl) (by rw [hml]; rfl) (hb hby own_d_prog_19_method_3_21) rfl (by decide) (by decide) ?_
  rintro _ vm13 h13 C13 ⟨rfl, K13, q13_0, q13_1⟩
  have z13 := C13.2.1
  refine gat (mkF m 24 #[.val (.ref x), .val (.ref y)] [(.ref b1)]) rfl ?_
  refine ginfo fun _ _ O15 => ?_
  have f16 := (f14.keep K13)
  refine gcallV (y := (⟨"java/lang/StringBuilder", "toString", "()Ljava/lang/String;"⟩ : MethodName)) (z := (⟨"java/lang/StringBuilder", "toString", "()Ljava/lang/String;"⟩ : MethodName)) hx (ow hw 130 rfl) (ow hw 131 rfl) (nfSel (ow hw 133 rfl)) (ow hw 133 rfl) (ow hw 132 rfl) (by decide) (fun hZ H hEL => Pay.of_met (W := 0) (own_sbtostring l Z a0 cx [] (b1) (v2) (16) (((([] : List Int32) ++ (ca ++ cb)) ++ [(58 : Int32), (102 : Int32), (101 : Int32), (110 : Int32), (99 : Int32), (101 : Int32)])) vm13 h13 O15 q13_0 (by simp only [List.length_append, List.length_nil, List.length_cons]; omega) (by simp only [List.length_append, List.length_nil, List.length_cons]; omega)) (ow hw 134 rfl) (ow hw 62 rfl) (by decide) (by decide) hZ H hEL) 27 (argsL := []) (rest := []) f16 (lenOf own_pd374 rfl) rfl rfl (Nat.le_of_eq rfl) (by rw [hml]; rfl) (hb hby own_d_prog_19_method_3_24) rfl (by decide) (by decide) ?_
  rintro _ vm15 h15 C15 ⟨r15, t15, rfl, K15, q15_0, q15_1, q15_2⟩
  have z15 := C15.2.1
  have lt_r15 : h15.size > r15 := q15_2.1.lt
  have lt_t15 : h15.size > t15 := q15_2.tlt
  refine gat (mkF m 27 #[.val (.ref x), .val (.ref y)] [(.ref r15)]) rfl ?_
  exact gretA hx hret rfl rfl (hb hby own_d_prog_19_method_3_27) (by decide) (by decide) (fun vq Cq => ⟨r15, t15, rfl, (((((((Keep.refl h0 []).ext E1).trans K2 (allS (Or.inr (by omega)) all0)).trans K3 all0).trans K8 (allS (Or.inr (by omega)) (allS (Or.inr (by omega)) all0))).trans K13 (allS (Or.inr (by omega)) (allS (Or.inr (by omega)) all0))).trans K15 all0), (by have q := q15_2; rw [List.nil_append] at q; exact q)⟩)
def own_exp (i x pl y nl : Int32) : Int32 := if i < pl then own_ch x i else if i < pl + nl then own_ch y (i - pl) else ([(58 : Int32), (102 : Int32), (101 : Int32), (110 : Int32), (99 : Int32), (101 : Int32)] : List Int32).getD ((i - pl) - nl).toNatClampNeg 0
theorem own_narfen {j : Nat} (h : j < 6) : nar .char (([(58 : Int32), (102 : Int32), (101 : Int32), (110 : Int32), (99 : Int32), (101 : Int32)] : List Int32).getD j 0) = ([(58 : Int32), (102 : Int32), (101 : Int32), (110 : Int32), (99 : Int32), (101 : Int32)] : List Int32).getD j 0 := by
  rcases j with _ | _ | _ | _ | _ | _ | j
  iterate 6 decide
  omega
theorem own_and3 (z : Int32) : z &&& (3 : Int32) = 0 ∨ z &&& (3 : Int32) = 1 ∨ z &&& (3 : Int32) = 2 ∨ z &&& (3 : Int32) = 3 := by
  have h := c_mask z 3 2 (by decide) (by decide)
  have e0 : (0 : Int32).toInt = 0 := rfl
  have e1 : (1 : Int32).toInt = 1 := rfl
  have e2 : (2 : Int32).toInt = 2 := rfl
  have e3 : (3 : Int32).toInt = 3 := rfl
  simp only [← Int32.toInt_inj, e0, e1, e2, e3]
  omega
theorem own_at_0_0 (x y : Int32) {k : Nat} (h : k < 6) : (own_dr x (0 : Int32) ++ own_dr y (0 : Int32) ++ [(58 : Int32), (102 : Int32), (101 : Int32), (110 : Int32), (99 : Int32), (101 : Int32)]).getD k 0 = own_exp (Int32.ofNat k) x (0 : Int32) y (0 : Int32) ∧ (¬ Int32.ofNat k < (0 : Int32) → ¬ Int32.ofNat k < (0 : Int32) + (0 : Int32) → (k - 0 - 0 < 6 ∧ (Int32.ofNat k - (0 : Int32)) - (0 : Int32) = Int32.ofNat (k - 0 - 0))) := by
  rcases k with _ | _ | _ | _ | _ | _ | k
  · exact ⟨by rw [own_exp, if_neg (by decide), if_neg (by decide)]; rfl, fun _ _ => ⟨by decide, by decide⟩⟩
  · exact ⟨by rw [own_exp, if_neg (by decide), if_neg (by decide)]; rfl, fun _ _ => ⟨by decide, by decide⟩⟩
  · exact ⟨by rw [own_exp, if_neg (by decide), if_neg (by decide)]; rfl, fun _ _ => ⟨by decide, by decide⟩⟩
  · exact ⟨by rw [own_exp, if_neg (by decide), if_neg (by decide)]; rfl, fun _ _ => ⟨by decide, by decide⟩⟩
  · exact ⟨by rw [own_exp, if_neg (by decide), if_neg (by decide)]; rfl, fun _ _ => ⟨by decide, by decide⟩⟩
  · exact ⟨by rw [own_exp, if_neg (by decide), if_neg (by decide)]; rfl, fun _ _ => ⟨by decide, by decide⟩⟩
  · omega
theorem own_at_0_1 (x y : Int32) {k : Nat} (h : k < 7) : (own_dr x (0 : Int32) ++ own_dr y (1 : Int32) ++ [(58 : Int32), (102 : Int32), (101 : Int32), (110 : Int32), (99 : Int32), (101 : Int32)]).getD k 0 = own_exp (Int32.ofNat k) x (0 : Int32) y (1 : Int32) ∧ (¬ Int32.ofNat k < (0 : Int32) → ¬ Int32.ofNat k < (0 : Int32) + (1 : Int32) → (k - 0 - 1 < 6 ∧ (Int32.ofNat k - (0 : Int32)) - (1 : Int32) = Int32.ofNat (k - 0 - 1))) := by
  rcases k with _ | _ | _ | _ | _ | _ | _ | k
  · exact ⟨by rw [own_exp, if_neg (by decide), if_pos (by decide)]; rfl, fun _ q => absurd (by decide) q⟩
  · exact ⟨by rw [own_exp, if_neg (by decide), if_neg (by decide)]; rfl, fun _ _ => ⟨by decide, by decide⟩⟩
  · exact ⟨by rw [own_exp, if_neg (by decide), if_neg (by decide)]; rfl, fun _ _ => ⟨by decide, by decide⟩⟩
  · exact ⟨by rw [own_exp, if_neg (by decide), if_neg (by decide)]; rfl, fun _ _ => ⟨by decide, by decide⟩⟩
  · exact ⟨by rw [own_exp, if_neg (by decide), if_neg (by decide)]; rfl, fun _ _ => ⟨by decide, by decide⟩⟩
  · exact ⟨by rw [own_exp, if_neg (by decide), if_neg (by decide)]; rfl, fun _ _ => ⟨by decide, by decide⟩⟩
  · exact ⟨by rw [own_exp, if_neg (by decide), if_neg (by decide)]; rfl, fun _ _ => ⟨by decide, by decide⟩⟩
  · omega
theorem own_at_0_2 (x y : Int32) {k : Nat} (h : k < 8) : (own_dr x (0 : Int32) ++ own_dr y (2 : Int32) ++ [(58 : Int32), (102 : Int32), (101 : Int32), (110 : Int32), (99 : Int32), (101 : Int32)]).getD k 0 = own_exp (Int32.ofNat k) x (0 : Int32) y (2 : Int32) ∧ (¬ Int32.ofNat k < (0 : Int32) → ¬ Int32.ofNat k < (0 : Int32) + (2 : Int32) → (k - 0 - 2 < 6 ∧ (Int32.ofNat k - (0 : Int32)) - (2 : Int32) = Int32.ofNat (k - 0 - 2))) := by
  rcases k with _ | _ | _ | _ | _ | _ | _ | _ | k
  · exact ⟨by rw [own_exp, if_neg (by decide), if_pos (by decide)]; rfl, fun _ q => absurd (by decide) q⟩
  · exact ⟨by rw [own_exp, if_neg (by decide), if_pos (by decide)]; rfl, fun _ q => absurd (by decide) q⟩
  · exact ⟨by rw [own_exp, if_neg (by decide), if_neg (by decide)]; rfl, fun _ _ => ⟨by decide, by decide⟩⟩
  · exact ⟨by rw [own_exp, if_neg (by decide), if_neg (by decide)]; rfl, fun _ _ => ⟨by decide, by decide⟩⟩
  · exact ⟨by rw [own_exp, if_neg (by decide), if_neg (by decide)]; rfl, fun _ _ => ⟨by decide, by decide⟩⟩
  · exact ⟨by rw [own_exp, if_neg (by decide), if_neg (by decide)]; rfl, fun _ _ => ⟨by decide, by decide⟩⟩
  · exact ⟨by rw [own_exp, if_neg (by decide), if_neg (by decide)]; rfl, fun _ _ => ⟨by decide, by decide⟩⟩
  · exact ⟨by rw [own_exp, if_neg (by decide), if_neg (by decide)]; rfl, fun _ _ => ⟨by decide, by decide⟩⟩
  · omega
theorem own_at_0_3 (x y : Int32) {k : Nat} (h : k < 9) : (own_dr x (0 : Int32) ++ own_dr y (3 : Int32) ++ [(58 : Int32), (102 : Int32), (101 : Int32), (110 : Int32), (99 : Int32), (101 : Int32)]).getD k 0 = own_exp (Int32.ofNat k) x (0 : Int32) y (3 : Int32) ∧ (¬ Int32.ofNat k < (0 : Int32) → ¬ Int32.ofNat k < (0 : Int32) + (3 : Int32) → (k - 0 - 3 < 6 ∧ (Int32.ofNat k - (0 : Int32)) - (3 : Int32) = Int32.ofNat (k - 0 - 3))) := by
  rcases k with _ | _ | _ | _ | _ | _ | _ | _ | _ | k
  · exact ⟨by rw [own_exp, if_neg (by decide), if_pos (by decide)]; rfl, fun _ q => absurd (by decide) q⟩
  · exact ⟨by rw [own_exp, if_neg (by decide), if_pos (by decide)]; rfl, fun _ q => absurd (by decide) q⟩
  · exact ⟨by rw [own_exp, if_neg (by decide), if_pos (by decide)]; rfl, fun _ q => absurd (by decide) q⟩
  · exact ⟨by rw [own_exp, if_neg (by decide), if_neg (by decide)]; rfl, fun _ _ => ⟨by decide, by decide⟩⟩
  · exact ⟨by rw [own_exp, if_neg (by decide), if_neg (by decide)]; rfl, fun _ _ => ⟨by decide, by decide⟩⟩
  · exact ⟨by rw [own_exp, if_neg (by decide), if_neg (by decide)]; rfl, fun _ _ => ⟨by decide, by decide⟩⟩
  · exact ⟨by rw [own_exp, if_neg (by decide), if_neg (by decide)]; rfl, fun _ _ => ⟨by decide, by decide⟩⟩
  · exact ⟨by rw [own_exp, if_neg (by decide), if_neg (by decide)]; rfl, fun _ _ => ⟨by decide, by decide⟩⟩
  · exact ⟨by rw [own_exp, if_neg (by decide), if_neg (by decide)]; rfl, fun _ _ => ⟨by decide, by decide⟩⟩
  · omega
theorem own_at_1_0 (x y : Int32) {k : Nat} (h : k < 7) : (own_dr x (1 : Int32) ++ own_dr y (0 : Int32) ++ [(58 : Int32), (102 : Int32), (101 : Int32), (110 : Int32), (99 : Int32), (101 : Int32)]).getD k 0 = own_exp (Int32.ofNat k) x (1 : Int32) y (0 : Int32) ∧ (¬ Int32.ofNat k < (1 : Int32) → ¬ Int32.ofNat k < (1 : Int32) + (0 : Int32) → (k - 1 - 0 < 6 ∧ (Int32.ofNat k - (1 : Int32)) - (0 : Int32) = Int32.ofNat (k - 1 - 0))) := by
  rcases k with _ | _ | _ | _ | _ | _ | _ | k
  · exact ⟨by rw [own_exp, if_pos (by decide)]; rfl, fun q => absurd (by decide) q⟩
  · exact ⟨by rw [own_exp, if_neg (by decide), if_neg (by decide)]; rfl, fun _ _ => ⟨by decide, by decide⟩⟩
  · exact ⟨by rw [own_exp, if_neg (by decide), if_neg (by decide)]; rfl, fun _ _ => ⟨by decide, by decide⟩⟩
  · exact ⟨by rw [own_exp, if_neg (by decide), if_neg (by decide)]; rfl, fun _ _ => ⟨by decide, by decide⟩⟩
  · exact ⟨by rw [own_exp, if_neg (by decide), if_neg (by decide)]; rfl, fun _ _ => ⟨by decide, by decide⟩⟩
  · exact ⟨by rw [own_exp, if_neg (by decide), if_neg (by decide)]; rfl, fun _ _ => ⟨by decide, by decide⟩⟩
  · exact ⟨by rw [own_exp, if_neg (by decide), if_neg (by decide)]; rfl, fun _ _ => ⟨by decide, by decide⟩⟩
  · omega
theorem own_at_1_1 (x y : Int32) {k : Nat} (h : k < 8) : (own_dr x (1 : Int32) ++ own_dr y (1 : Int32) ++ [(58 : Int32), (102 : Int32), (101 : Int32), (110 : Int32), (99 : Int32), (101 : Int32)]).getD k 0 = own_exp (Int32.ofNat k) x (1 : Int32) y (1 : Int32) ∧ (¬ Int32.ofNat k < (1 : Int32) → ¬ Int32.ofNat k < (1 : Int32) + (1 : Int32) → (k - 1 - 1 < 6 ∧ (Int32.ofNat k - (1 : Int32)) - (1 : Int32) = Int32.ofNat (k - 1 - 1))) := by
  rcases k with _ | _ | _ | _ | _ | _ | _ | _ | k
  · exact ⟨by rw [own_exp, if_pos (by decide)]; rfl, fun q => absurd (by decide) q⟩
  · exact ⟨by rw [own_exp, if_neg (by decide), if_pos (by decide)]; rfl, fun _ q => absurd (by decide) q⟩
  · exact ⟨by rw [own_exp, if_neg (by decide), if_neg (by decide)]; rfl, fun _ _ => ⟨by decide, by decide⟩⟩
  · exact ⟨by rw [own_exp, if_neg (by decide), if_neg (by decide)]; rfl, fun _ _ => ⟨by decide, by decide⟩⟩
  · exact ⟨by rw [own_exp, if_neg (by decide), if_neg (by decide)]; rfl, fun _ _ => ⟨by decide, by decide⟩⟩
  · exact ⟨by rw [own_exp, if_neg (by decide), if_neg (by decide)]; rfl, fun _ _ => ⟨by decide, by decide⟩⟩
  · exact ⟨by rw [own_exp, if_neg (by decide), if_neg (by decide)]; rfl, fun _ _ => ⟨by decide, by decide⟩⟩
  · exact ⟨by rw [own_exp, if_neg (by decide), if_neg (by decide)]; rfl, fun _ _ => ⟨by decide, by decide⟩⟩
  · omega
theorem own_at_1_2 (x y : Int32) {k : Nat} (h : k < 9) : (own_dr x (1 : Int32) ++ own_dr y (2 : Int32) ++ [(58 : Int32), (102 : Int32), (101 : Int32), (110 : Int32), (99 : Int32), (101 : Int32)]).getD k 0 = own_exp (Int32.ofNat k) x (1 : Int32) y (2 : Int32) ∧ (¬ Int32.ofNat k < (1 : Int32) → ¬ Int32.ofNat k < (1 : Int32) + (2 : Int32) → (k - 1 - 2 < 6 ∧ (Int32.ofNat k - (1 : Int32)) - (2 : Int32) = Int32.ofNat (k - 1 - 2))) := by
  rcases k with _ | _ | _ | _ | _ | _ | _ | _ | _ | k
  · exact ⟨by rw [own_exp, if_pos (by decide)]; rfl, fun q => absurd (by decide) q⟩
  · exact ⟨by rw [own_exp, if_neg (by decide), if_pos (by decide)]; rfl, fun _ q => absurd (by decide) q⟩
  · exact ⟨by rw [own_exp, if_neg (by decide), if_pos (by decide)]; rfl, fun _ q => absurd (by decide) q⟩
  · exact ⟨by rw [own_exp, if_neg (by decide), if_neg (by decide)]; rfl, fun _ _ => ⟨by decide, by decide⟩⟩
  · exact ⟨by rw [own_exp, if_neg (by decide), if_neg (by decide)]; rfl, fun _ _ => ⟨by decide, by decide⟩⟩
  · exact ⟨by rw [own_exp, if_neg (by decide), if_neg (by decide)]; rfl, fun _ _ => ⟨by decide, by decide⟩⟩
  · exact ⟨by rw [own_exp, if_neg (by decide), if_neg (by decide)]; rfl, fun _ _ => ⟨by decide, by decide⟩⟩
  · exact ⟨by rw [own_exp, if_neg (by decide), if_neg (by decide)]; rfl, fun _ _ => ⟨by decide, by decide⟩⟩
  · exact ⟨by rw [own_exp, if_neg (by decide), if_neg (by decide)]; rfl, fun _ _ => ⟨by decide, by decide⟩⟩
  · omega
theorem own_at_1_3 (x y : Int32) {k : Nat} (h : k < 10) : (own_dr x (1 : Int32) ++ own_dr y (3 : Int32) ++ [(58 : Int32), (102 : Int32), (101 : Int32), (110 : Int32), (99 : Int32), (101 : Int32)]).getD k 0 = own_exp (Int32.ofNat k) x (1 : Int32) y (3 : Int32) ∧ (¬ Int32.ofNat k < (1 : Int32) → ¬ Int32.ofNat k < (1 : Int32) + (3 : Int32) → (k - 1 - 3 < 6 ∧ (Int32.ofNat k - (1 : Int32)) - (3 : Int32) = Int32.ofNat (k - 1 - 3))) := by
  rcases k with _ | _ | _ | _ | _ | _ | _ | _ | _ | _ | k
  · exact ⟨by rw [own_exp, if_pos (by decide)]; rfl, fun q => absurd (by decide) q⟩
  · exact ⟨by rw [own_exp, if_neg (by decide), if_pos (by decide)]; rfl, fun _ q => absurd (by decide) q⟩
  · exact ⟨by rw [own_exp, if_neg (by decide), if_pos (by decide)]; rfl, fun _ q => absurd (by decide) q⟩
  · exact ⟨by rw [own_exp, if_neg (by decide), if_pos (by decide)]; rfl, fun _ q => absurd (by decide) q⟩
  · exact ⟨by rw [own_exp, if_neg (by decide), if_neg (by decide)]; rfl, fun _ _ => ⟨by decide, by decide⟩⟩
  · exact ⟨by rw [own_exp, if_neg (by decide), if_neg (by decide)]; rfl, fun _ _ => ⟨by decide, by decide⟩⟩
  · exact ⟨by rw [own_exp, if_neg (by decide), if_neg (by decide)]; rfl, fun _ _ => ⟨by decide, by decide⟩⟩
  · exact ⟨by rw [own_exp, if_neg (by decide), if_neg (by decide)]; rfl, fun _ _ => ⟨by decide, by decide⟩⟩
  · exact ⟨by rw [own_exp, if_neg (by decide), if_neg (by decide)]; rfl, fun _ _ => ⟨by decide, by decide⟩⟩
  · exact ⟨by rw [own_exp, if_neg (by decide), if_neg (by decide)]; rfl, fun _ _ => ⟨by decide, by decide⟩⟩
  · omega
theorem own_at_2_0 (x y : Int32) {k : Nat} (h : k < 8) : (own_dr x (2 : Int32) ++ own_dr y (0 : Int32) ++ [(58 : Int32), (102 : Int32), (101 : Int32), (110 : Int32), (99 : Int32), (101 : Int32)]).getD k 0 = own_exp (Int32.ofNat k) x (2 : Int32) y (0 : Int32) ∧ (¬ Int32.ofNat k < (2 : Int32) → ¬ Int32.ofNat k < (2 : Int32) + (0 : Int32) → (k - 2 - 0 < 6 ∧ (Int32.ofNat k - (2 : Int32)) - (0 : Int32) = Int32.ofNat (k - 2 - 0))) := by
  rcases k with _ | _ | _ | _ | _ | _ | _ | _ | k
  · exact ⟨by rw [own_exp, if_pos (by decide)]; rfl, fun q => absurd (by decide) q⟩
  · exact ⟨by rw [own_exp, if_pos (by decide)]; rfl, fun q => absurd (by decide) q⟩
  · exact ⟨by rw [own_exp, if_neg (by decide), if_neg (by decide)]; rfl, fun _ _ => ⟨by decide, by decide⟩⟩
  · exact ⟨by rw [own_exp, if_neg (by decide), if_neg (by decide)]; rfl, fun _ _ => ⟨by decide, by decide⟩⟩
  · exact ⟨by rw [own_exp, if_neg (by decide), if_neg (by decide)]; rfl, fun _ _ => ⟨by decide, by decide⟩⟩
  · exact ⟨by rw [own_exp, if_neg (by decide), if_neg (by decide)]; rfl, fun _ _ => ⟨by decide, by decide⟩⟩
  · exact ⟨by rw [own_exp, if_neg (by decide), if_neg (by decide)]; rfl, fun _ _ => ⟨by decide, by decide⟩⟩
  · exact ⟨by rw [own_exp, if_neg (by decide), if_neg (by decide)]; rfl, fun _ _ => ⟨by decide, by decide⟩⟩
  · omega
theorem own_at_2_1 (x y : Int32) {k : Nat} (h : k < 9) : (own_dr x (2 : Int32) ++ own_dr y (1 : Int32) ++ [(58 : Int32), (102 : Int32), (101 : Int32), (110 : Int32), (99 : Int32), (101 : Int32)]).getD k 0 = own_exp (Int32.ofNat k) x (2 : Int32) y (1 : Int32) ∧ (¬ Int32.ofNat k < (2 : Int32) → ¬ Int32.ofNat k < (2 : Int32) + (1 : Int32) → (k - 2 - 1 < 6 ∧ (Int32.ofNat k - (2 : Int32)) - (1 : Int32) = Int32.ofNat (k - 2 - 1))) := by
  rcases k with _ | _ | _ | _ | _ | _ | _ | _ | _ | k
  · exact ⟨by rw [own_exp, if_pos (by decide)]; rfl, fun q => absurd (by decide) q⟩
  · exact ⟨by rw [own_exp, if_pos (by decide)]; rfl, fun q => absurd (by decide) q⟩
  · exact ⟨by rw [own_exp, if_neg (by decide), if_pos (by decide)]; rfl, fun _ q => absurd (by decide) q⟩
  · exact ⟨by rw [own_exp, if_neg (by decide), if_neg (by decide)]; rfl, fun _ _ => ⟨by decide, by decide⟩⟩
  · exact ⟨by rw [own_exp, if_neg (by decide), if_neg (by decide)]; rfl, fun _ _ => ⟨by decide, by decide⟩⟩
  · exact ⟨by rw [own_exp, if_neg (by decide), if_neg (by decide)]; rfl, fun _ _ => ⟨by decide, by decide⟩⟩
  · exact ⟨by rw [own_exp, if_neg (by decide), if_neg (by decide)]; rfl, fun _ _ => ⟨by decide, by decide⟩⟩
  · exact ⟨by rw [own_exp, if_neg (by decide), if_neg (by decide)]; rfl, fun _ _ => ⟨by decide, by decide⟩⟩
  · exact ⟨by rw [own_exp, if_neg (by decide), if_neg (by decide)]; rfl, fun _ _ => ⟨by decide, by decide⟩⟩
  · omega
theorem own_at_2_2 (x y : Int32) {k : Nat} (h : k < 10) : (own_dr x (2 : Int32) ++ own_dr y (2 : Int32) ++ [(58 : Int32), (102 : Int32), (101 : Int32), (110 : Int32), (99 : Int32), (101 : Int32)]).getD k 0 = own_exp (Int32.ofNat k) x (2 : Int32) y (2 : Int32) ∧ (¬ Int32.ofNat k < (2 : Int32) → ¬ Int32.ofNat k < (2 : Int32) + (2 : Int32) → (k - 2 - 2 < 6 ∧ (Int32.ofNat k - (2 : Int32)) - (2 : Int32) = Int32.ofNat (k - 2 - 2))) := by
  rcases k with _ | _ | _ | _ | _ | _ | _ | _ | _ | _ | k
  · exact ⟨by rw [own_exp, if_pos (by decide)]; rfl, fun q => absurd (by decide) q⟩
  · exact ⟨by rw [own_exp, if_pos (by decide)]; rfl, fun q => absurd (by decide) q⟩
  · exact ⟨by rw [own_exp, if_neg (by decide), if_pos (by decide)]; rfl, fun _ q => absurd (by decide) q⟩
  · exact ⟨by rw [own_exp, if_neg (by decide), if_pos (by decide)]; rfl, fun _ q => absurd (by decide) q⟩
  · exact ⟨by rw [own_exp, if_neg (by decide), if_neg (by decide)]; rfl, fun _ _ => ⟨by decide, by decide⟩⟩
  · exact ⟨by rw [own_exp, if_neg (by decide), if_neg (by decide)]; rfl, fun _ _ => ⟨by decide, by decide⟩⟩
  · exact ⟨by rw [own_exp, if_neg (by decide), if_neg (by decide)]; rfl, fun _ _ => ⟨by decide, by decide⟩⟩
  · exact ⟨by rw [own_exp, if_neg (by decide), if_neg (by decide)]; rfl, fun _ _ => ⟨by decide, by decide⟩⟩
  · exact ⟨by rw [own_exp, if_neg (by decide), if_neg (by decide)]; rfl, fun _ _ => ⟨by decide, by decide⟩⟩
  · exact ⟨by rw [own_exp, if_neg (by decide), if_neg (by decide)]; rfl, fun _ _ => ⟨by decide, by decide⟩⟩
  · omega
theorem own_at_2_3 (x y : Int32) {k : Nat} (h : k < 11) : (own_dr x (2 : Int32) ++ own_dr y (3 : Int32) ++ [(58 : Int32), (102 : Int32), (101 : Int32), (110 : Int32), (99 : Int32), (101 : Int32)]).getD k 0 = own_exp (Int32.ofNat k) x (2 : Int32) y (3 : Int32) ∧ (¬ Int32.ofNat k < (2 : Int32) → ¬ Int32.ofNat k < (2 : Int32) + (3 : Int32) → (k - 2 - 3 < 6 ∧ (Int32.ofNat k - (2 : Int32)) - (3 : Int32) = Int32.ofNat (k - 2 - 3))) := by
  rcases k with _ | _ | _ | _ | _ | _ | _ | _ | _ | _ | _ | k
  · exact ⟨by rw [own_exp, if_pos (by decide)]; rfl, fun q => absurd (by decide) q⟩
  · exact ⟨by rw [own_exp, if_pos (by decide)]; rfl, fun q => absurd (by decide) q⟩
  · exact ⟨by rw [own_exp, if_neg (by decide), if_pos (by decide)]; rfl, fun _ q => absurd (by decide) q⟩
  · exact ⟨by rw [own_exp, if_neg (by decide), if_pos (by decide)]; rfl, fun _ q => absurd (by decide) q⟩
  · exact ⟨by rw [own_exp, if_neg (by decide), if_pos (by decide)]; rfl, fun _ q => absurd (by decide) q⟩
  · exact ⟨by rw [own_exp, if_neg (by decide), if_neg (by decide)]; rfl, fun _ _ => ⟨by decide, by decide⟩⟩
  · exact ⟨by rw [own_exp, if_neg (by decide), if_neg (by decide)]; rfl, fun _ _ => ⟨by decide, by decide⟩⟩
  · exact ⟨by rw [own_exp, if_neg (by decide), if_neg (by decide)]; rfl, fun _ _ => ⟨by decide, by decide⟩⟩
  · exact ⟨by rw [own_exp, if_neg (by decide), if_neg (by decide)]; rfl, fun _ _ => ⟨by decide, by decide⟩⟩
  · exact ⟨by rw [own_exp, if_neg (by decide), if_neg (by decide)]; rfl, fun _ _ => ⟨by decide, by decide⟩⟩
  · exact ⟨by rw [own_exp, if_neg (by decide), if_neg (by decide)]; rfl, fun _ _ => ⟨by decide, by decide⟩⟩
  · omega
theorem own_at_3_0 (x y : Int32) {k : Nat} (h : k < 9) : (own_dr x (3 : Int32) ++ own_dr y (0 : Int32) ++ [(58 : Int32), (102 : Int32), (101 : Int32), (110 : Int32), (99 : Int32), (101 : Int32)]).getD k 0 = own_exp (Int32.ofNat k) x (3 : Int32) y (0 : Int32) ∧ (¬ Int32.ofNat k < (3 : Int32) → ¬ Int32.ofNat k < (3 : Int32) + (0 : Int32) → (k - 3 - 0 < 6 ∧ (Int32.ofNat k - (3 : Int32)) - (0 : Int32) = Int32.ofNat (k - 3 - 0))) := by
  rcases k with _ | _ | _ | _ | _ | _ | _ | _ | _ | k
  · exact ⟨by rw [own_exp, if_pos (by decide)]; rfl, fun q => absurd (by decide) q⟩
  · exact ⟨by rw [own_exp, if_pos (by decide)]; rfl, fun q => absurd (by decide) q⟩
  · exact ⟨by rw [own_exp, if_pos (by decide)]; rfl, fun q => absurd (by decide) q⟩
  · exact ⟨by rw [own_exp, if_neg (by decide), if_neg (by decide)]; rfl, fun _ _ => ⟨by decide, by decide⟩⟩
  · exact ⟨by rw [own_exp, if_neg (by decide), if_neg (by decide)]; rfl, fun _ _ => ⟨by decide, by decide⟩⟩
  · exact ⟨by rw [own_exp, if_neg (by decide), if_neg (by decide)]; rfl, fun _ _ => ⟨by decide, by decide⟩⟩
  · exact ⟨by rw [own_exp, if_neg (by decide), if_neg (by decide)]; rfl, fun _ _ => ⟨by decide, by decide⟩⟩
  · exact ⟨by rw [own_exp, if_neg (by decide), if_neg (by decide)]; rfl, fun _ _ => ⟨by decide, by decide⟩⟩
  · exact ⟨by rw [own_exp, if_neg (by decide), if_neg (by decide)]; rfl, fun _ _ => ⟨by decide, by decide⟩⟩
  · omega
theorem own_at_3_1 (x y : Int32) {k : Nat} (h : k < 10) : (own_dr x (3 : Int32) ++ own_dr y (1 : Int32) ++ [(58 : Int32), (102 : Int32), (101 : Int32), (110 : Int32), (99 : Int32), (101 : Int32)]).getD k 0 = own_exp (Int32.ofNat k) x (3 : Int32) y (1 : Int32) ∧ (¬ Int32.ofNat k < (3 : Int32) → ¬ Int32.ofNat k < (3 : Int32) + (1 : Int32) → (k - 3 - 1 < 6 ∧ (Int32.ofNat k - (3 : Int32)) - (1 : Int32) = Int32.ofNat (k - 3 - 1))) := by
  rcases k with _ | _ | _ | _ | _ | _ | _ | _ | _ | _ | k
  · exact ⟨by rw [own_exp, if_pos (by decide)]; rfl, fun q => absurd (by decide) q⟩
  · exact ⟨by rw [own_exp, if_pos (by decide)]; rfl, fun q => absurd (by decide) q⟩
  · exact ⟨by rw [own_exp, if_pos (by decide)]; rfl, fun q => absurd (by decide) q⟩
  · exact ⟨by rw [own_exp, if_neg (by decide), if_pos (by decide)]; rfl, fun _ q => absurd (by decide) q⟩
  · exact ⟨by rw [own_exp, if_neg (by decide), if_neg (by decide)]; rfl, fun _ _ => ⟨by decide, by decide⟩⟩
  · exact ⟨by rw [own_exp, if_neg (by decide), if_neg (by decide)]; rfl, fun _ _ => ⟨by decide, by decide⟩⟩
  · exact ⟨by rw [own_exp, if_neg (by decide), if_neg (by decide)]; rfl, fun _ _ => ⟨by decide, by decide⟩⟩
  · exact ⟨by rw [own_exp, if_neg (by decide), if_neg (by decide)]; rfl, fun _ _ => ⟨by decide, by decide⟩⟩
  · exact ⟨by rw [own_exp, if_neg (by decide), if_neg (by decide)]; rfl, fun _ _ => ⟨by decide, by decide⟩⟩
  · exact ⟨by rw [own_exp, if_neg (by decide), if_neg (by decide)]; rfl, fun _ _ => ⟨by decide, by decide⟩⟩
  · omega
theorem own_at_3_2 (x y : Int32) {k : Nat} (h : k < 11) : (own_dr x (3 : Int32) ++ own_dr y (2 : Int32) ++ [(58 : Int32), (102 : Int32), (101 : Int32), (110 : Int32), (99 : Int32), (101 : Int32)]).getD k 0 = own_exp (Int32.ofNat k) x (3 : Int32) y (2 : Int32) ∧ (¬ Int32.ofNat k < (3 : Int32) → ¬ Int32.ofNat k < (3 : Int32) + (2 : Int32) → (k - 3 - 2 < 6 ∧ (Int32.ofNat k - (3 : Int32)) - (2 : Int32) = Int32.ofNat (k - 3 - 2))) := by
  rcases k with _ | _ | _ | _ | _ | _ | _ | _ | _ | _ | _ | k
  · exact ⟨by rw [own_exp, if_pos (by decide)]; rfl, fun q => absurd (by decide) q⟩
  · exact ⟨by rw [own_exp, if_pos (by decide)]; rfl, fun q => absurd (by decide) q⟩
  · exact ⟨by rw [own_exp, if_pos (by decide)]; rfl, fun q => absurd (by decide) q⟩
  · exact ⟨by rw [own_exp, if_neg (by decide), if_pos (by decide)]; rfl, fun _ q => absurd (by decide) q⟩
  · exact ⟨by rw [own_exp, if_neg (by decide), if_pos (by decide)]; rfl, fun _ q => absurd (by decide) q⟩
  · exact ⟨by rw [own_exp, if_neg (by decide), if_neg (by decide)]; rfl, fun _ _ => ⟨by decide, by decide⟩⟩
  · exact ⟨by rw [own_exp, if_neg (by decide), if_neg (by decide)]; rfl, fun _ _ => ⟨by decide, by decide⟩⟩
  · exact ⟨by rw [own_exp, if_neg (by decide), if_neg (by decide)]; rfl, fun _ _ => ⟨by decide, by decide⟩⟩
  · exact ⟨by rw [own_exp, if_neg (by decide), if_neg (by decide)]; rfl, fun _ _ => ⟨by decide, by decide⟩⟩
  · exact ⟨by rw [own_exp, if_neg (by decide), if_neg (by decide)]; rfl, fun _ _ => ⟨by decide, by decide⟩⟩
  · exact ⟨by rw [own_exp, if_neg (by decide), if_neg (by decide)]; rfl, fun _ _ => ⟨by decide, by decide⟩⟩
  · omega
theorem own_at_3_3 (x y : Int32) {k : Nat} (h : k < 12) : (own_dr x (3 : Int32) ++ own_dr y (3 : Int32) ++ [(58 : Int32), (102 : Int32), (101 : Int32), (110 : Int32), (99 : Int32), (101 : Int32)]).getD k 0 = own_exp (Int32.ofNat k) x (3 : Int32) y (3 : Int32) ∧ (¬ Int32.ofNat k < (3 : Int32) → ¬ Int32.ofNat k < (3 : Int32) + (3 : Int32) → (k - 3 - 3 < 6 ∧ (Int32.ofNat k - (3 : Int32)) - (3 : Int32) = Int32.ofNat (k - 3 - 3))) := by
  rcases k with _ | _ | _ | _ | _ | _ | _ | _ | _ | _ | _ | _ | k
  · exact ⟨by rw [own_exp, if_pos (by decide)]; rfl, fun q => absurd (by decide) q⟩
  · exact ⟨by rw [own_exp, if_pos (by decide)]; rfl, fun q => absurd (by decide) q⟩
  · exact ⟨by rw [own_exp, if_pos (by decide)]; rfl, fun q => absurd (by decide) q⟩
  · exact ⟨by rw [own_exp, if_neg (by decide), if_pos (by decide)]; rfl, fun _ q => absurd (by decide) q⟩
  · exact ⟨by rw [own_exp, if_neg (by decide), if_pos (by decide)]; rfl, fun _ q => absurd (by decide) q⟩
  · exact ⟨by rw [own_exp, if_neg (by decide), if_pos (by decide)]; rfl, fun _ q => absurd (by decide) q⟩
  · exact ⟨by rw [own_exp, if_neg (by decide), if_neg (by decide)]; rfl, fun _ _ => ⟨by decide, by decide⟩⟩
  · exact ⟨by rw [own_exp, if_neg (by decide), if_neg (by decide)]; rfl, fun _ _ => ⟨by decide, by decide⟩⟩
  · exact ⟨by rw [own_exp, if_neg (by decide), if_neg (by decide)]; rfl, fun _ _ => ⟨by decide, by decide⟩⟩
  · exact ⟨by rw [own_exp, if_neg (by decide), if_neg (by decide)]; rfl, fun _ _ => ⟨by decide, by decide⟩⟩
  · exact ⟨by rw [own_exp, if_neg (by decide), if_neg (by decide)]; rfl, fun _ _ => ⟨by decide, by decide⟩⟩
  · exact ⟨by rw [own_exp, if_neg (by decide), if_neg (by decide)]; rfl, fun _ _ => ⟨by decide, by decide⟩⟩
  · omega
theorem own_at {x pl y nl i : Int32} {k : Nat} (hp : pl = 0 ∨ pl = 1 ∨ pl = 2 ∨ pl = 3) (hq : nl = 0 ∨ nl = 1 ∨ nl = 2 ∨ nl = 3) (hk : k ≤ 11) (hi : i = Int32.ofNat k) (e0 : i < Int32.ofNat (own_dr x pl ++ own_dr y nl ++ [(58 : Int32), (102 : Int32), (101 : Int32), (110 : Int32), (99 : Int32), (101 : Int32)]).length) : k < (own_dr x pl ++ own_dr y nl ++ [(58 : Int32), (102 : Int32), (101 : Int32), (110 : Int32), (99 : Int32), (101 : Int32)]).length ∧ (own_dr x pl ++ own_dr y nl ++ [(58 : Int32), (102 : Int32), (101 : Int32), (110 : Int32), (99 : Int32), (101 : Int32)]).getD k 0 = own_exp i x pl y nl ∧ (¬ i < pl → ¬ i < (pl + nl) → ((k - pl.toNatClampNeg - nl.toNatClampNeg) < 6 ∧ ((i - pl) - nl) = Int32.ofNat (k - pl.toNatClampNeg - nl.toNatClampNeg))) := by
  subst hi
  rcases hp with rfl | rfl | rfl | rfl
  · rcases hq with rfl | rfl | rfl | rfl
    · have h := (ltOf (b := 6) (by omega) (by omega)).mp e0
      exact ⟨h, own_at_0_0 x y h⟩
    · have h := (ltOf (b := 7) (by omega) (by omega)).mp e0
      exact ⟨h, own_at_0_1 x y h⟩
    · have h := (ltOf (b := 8) (by omega) (by omega)).mp e0
      exact ⟨h, own_at_0_2 x y h⟩
    · have h := (ltOf (b := 9) (by omega) (by omega)).mp e0
      exact ⟨h, own_at_0_3 x y h⟩
  · rcases hq with rfl | rfl | rfl | rfl
    · have h := (ltOf (b := 7) (by omega) (by omega)).mp e0
      exact ⟨h, own_at_1_0 x y h⟩
    · have h := (ltOf (b := 8) (by omega) (by omega)).mp e0
      exact ⟨h, own_at_1_1 x y h⟩
    · have h := (ltOf (b := 9) (by omega) (by omega)).mp e0
      exact ⟨h, own_at_1_2 x y h⟩
    · have h := (ltOf (b := 10) (by omega) (by omega)).mp e0
      exact ⟨h, own_at_1_3 x y h⟩
  · rcases hq with rfl | rfl | rfl | rfl
    · have h := (ltOf (b := 8) (by omega) (by omega)).mp e0
      exact ⟨h, own_at_2_0 x y h⟩
    · have h := (ltOf (b := 9) (by omega) (by omega)).mp e0
      exact ⟨h, own_at_2_1 x y h⟩
    · have h := (ltOf (b := 10) (by omega) (by omega)).mp e0
      exact ⟨h, own_at_2_2 x y h⟩
    · have h := (ltOf (b := 11) (by omega) (by omega)).mp e0
      exact ⟨h, own_at_2_3 x y h⟩
  · rcases hq with rfl | rfl | rfl | rfl
    · have h := (ltOf (b := 9) (by omega) (by omega)).mp e0
      exact ⟨h, own_at_3_0 x y h⟩
    · have h := (ltOf (b := 10) (by omega) (by omega)).mp e0
      exact ⟨h, own_at_3_1 x y h⟩
    · have h := (ltOf (b := 11) (by omega) (by omega)).mp e0
      exact ⟨h, own_at_3_2 x y h⟩
    · have h := (ltOf (b := 12) (by omega) (by omega)).mp e0
      exact ⟨h, own_at_3_3 x y h⟩
theorem own_len {x pl y nl : Int32} (hp : pl = 0 ∨ pl = 1 ∨ pl = 2 ∨ pl = 3) (hq : nl = 0 ∨ nl = 1 ∨ nl = 2 ∨ nl = 3) : Int32.ofNat (own_dr x pl ++ own_dr y nl ++ [(58 : Int32), (102 : Int32), (101 : Int32), (110 : Int32), (99 : Int32), (101 : Int32)]).length = ((pl + nl) + (6 : Int32)) := by rcases hp with rfl | rfl | rfl | rfl <;> rcases hq with rfl | rfl | rfl | rfl <;> rfl
theorem own_d_method_5_0 : decode method_5_code 0 = .ok (.iload_n 0, 1) := by decide +kernel
theorem own_d_method_5_1 : decode method_5_code 1 = .ok (.iload_n 2, 1) := by decide +kernel
theorem own_d_method_5_2 : decode method_5_code 2 = .ok (.if_icmp .ge 9, 3) := by decide +kernel
theorem own_d_method_5_5 : decode method_5_code 5 = .ok (.iload_n 1, 1) := by decide +kernel
theorem own_d_method_5_6 : decode method_5_code 6 = .ok (.iload_n 0, 1) := by decide +kernel
theorem own_d_method_5_7 : decode method_5_code 7 = .ok (.invokestatic 35, 3) := by decide +kernel
theorem own_d_method_5_10 : decode method_5_code 10 = .ok (.ireturn, 1) := by decide +kernel
theorem own_d_method_5_11 : decode method_5_code 11 = .ok (.iload_n 0, 1) := by decide +kernel
theorem own_d_method_5_12 : decode method_5_code 12 = .ok (.iload_n 2, 1) := by decide +kernel
theorem own_d_method_5_13 : decode method_5_code 13 = .ok (.iload 4, 2) := by decide +kernel
theorem own_d_method_5_15 : decode method_5_code 15 = .ok (.iadd, 1) := by decide +kernel
theorem own_d_method_5_16 : decode method_5_code 16 = .ok (.if_icmp .ge 11, 3) := by decide +kernel
theorem own_d_method_5_19 : decode method_5_code 19 = .ok (.iload_n 3, 1) := by decide +kernel
theorem own_d_method_5_20 : decode method_5_code 20 = .ok (.iload_n 0, 1) := by decide +kernel
theorem own_d_method_5_21 : decode method_5_code 21 = .ok (.iload_n 2, 1) := by decide +kernel
theorem own_d_method_5_22 : decode method_5_code 22 = .ok (.isub, 1) := by decide +kernel
theorem own_d_method_5_23 : decode method_5_code 23 = .ok (.invokestatic 35, 3) := by decide +kernel
theorem own_d_method_5_26 : decode method_5_code 26 = .ok (.ireturn, 1) := by decide +kernel
theorem own_d_method_5_27 : decode method_5_code 27 = .ok (.ldc 43, 2) := by decide +kernel
theorem own_d_method_5_29 : decode method_5_code 29 = .ok (.iload_n 0, 1) := by decide +kernel
theorem own_d_method_5_30 : decode method_5_code 30 = .ok (.iload_n 2, 1) := by decide +kernel
theorem own_d_method_5_31 : decode method_5_code 31 = .ok (.isub, 1) := by decide +kernel
theorem own_d_method_5_32 : decode method_5_code 32 = .ok (.iload 4, 2) := by decide +kernel
theorem own_d_method_5_34 : decode method_5_code 34 = .ok (.isub, 1) := by decide +kernel
theorem own_d_method_5_35 : decode method_5_code 35 = .ok (.invokevirtual 45, 3) := by decide +kernel
theorem own_pd414 : parseMethodDescriptor "(I)C" = some ⟨[.int], some .char⟩ := by decide +kernel
theorem own_d_method_5_38 : decode method_5_code 38 = .ok (.ireturn, 1) := by decide +kernel
set_option maxRecDepth 65536 in
set_option maxHeartbeats 40000000 in
theorem own_expected (l : Launch) (Z : State) (a0 : Array Value) (cx : Ctx Z a0) (ws : List Jvm.Cond) (i : Int32) (x : Int32) (pl : Int32) (y : Int32) (nl : Int32) (j : Nat) (vm0 : Vm) (h0 : Heap) (X00 : Ext Z.heap h0) (hj : (¬ i < pl → ¬ i < (pl + nl) → (j < 6 ∧ ((i - pl) - nl) = Int32.ofNat j))) :
    Met l (⟨"com/example/limentinus/limentinus/core/KeyLayoutFencingKeyPinLaw", "expected", "(IIIII)C"⟩ : MethodName) method_5_code 5 (some .char) ws ({ frames := 4, cells := 2, slots := 28, locals := 53 } : Room) Z consts_1 vm0 h0 #[(.int i), (.int x), (.int pl), (.int y), (.int nl)] (fun rv vm h => rv = some (.int (own_exp i x pl y nl)) ∧ Keep h0 h []) := by
  obtain ⟨hw, hEL, ⟨zc, Scs, hzc⟩, ⟨fm, Sfm, hfm⟩, ⟨fe, ft, tt, Sfe, Efe, Fft, Sft⟩⟩ := id cx
  have hSA := own_SA hw
  refine Met.of_walk (a0 := a0) #[.val (.int i), .val (.int x), .val (.int pl), .val (.int y), .val (.int nl)] (plainFor_of_name own_pn287) X00 hEL (fun m => by first | (simp [entryFrame, mkF, argsToLocals, Value.category]; done) | rfl) ?_
  intro p e s m below meth c vm hx hby hml hret hnm hC0
  refine gs (mkF m 1 #[.val (.int i), .val (.int x), .val (.int pl), .val (.int y), .val (.int nl)] [(.int i)]) (fun _ _ A kq => XS.iloadN A hx rfl (hb hby own_d_method_5_0) rfl  kq) ?_
  refine gs (mkF m 2 #[.val (.int i), .val (.int x), .val (.int pl), .val (.int y), .val (.int nl)] [(.int pl), (.int i)]) (fun _ _ A kq => XS.iloadN A hx rfl (hb hby own_d_method_5_1) rfl  kq) ?_
  by_cases e1 : i < pl
  · refine gs (mkF m 5 #[.val (.int i), .val (.int x), .val (.int pl), .val (.int y), .val (.int nl)] []) (fun _ _ A kq => XS.icmpNo A hx rfl (hb hby own_d_method_5_2) rfl (tlt e1).2.1 kq) ?_
    refine gs (mkF m 6 #[.val (.int i), .val (.int x), .val (.int pl), .val (.int y), .val (.int nl)] [(.int x)]) (fun _ _ A kq => XS.iloadN A hx rfl (hb hby own_d_method_5_5) rfl  kq) ?_
    refine gs (mkF m 7 #[.val (.int i), .val (.int x), .val (.int pl), .val (.int y), .val (.int nl)] [(.int i), (.int x)]) (fun _ _ A kq => XS.iloadN A hx rfl (hb hby own_d_method_5_6) rfl  kq) ?_
    refine ginfo fun _ _ O1 => ?_
    refine gcallS (y := (⟨"com/example/limentinus/limentinus/core/KeyLayoutFencingKeyPinLaw", "ch", "(II)C"⟩ : MethodName)) hx (ow hw 8 rfl) (ow hw 9 rfl) (ow hw 2 rfl) (ow hw 10 rfl) (by decide) (fun hZ H hEL => Pay.of_met (W := 0) (own_chw l Z a0 cx [] (x) (i) vm h0 O1 ) (ow hw 10 rfl) (ow hw 2 rfl) (by decide) (by decide) hZ H hEL) 10 (argsL := [(.int x), (.int i)]) (rest := []) (lenOf own_pd303 rfl) rfl rfl (Nat.le_of_eq rfl) (by rw [hml]; rfl) (hb hby own_d_method_5_7) rfl (by decide) (by decide) ?_
    rintro _ vm1 h1 C1 ⟨rfl, rfl⟩
    have z1 := C1.2.1
    refine gat (mkF m 10 #[.val (.int i), .val (.int x), .val (.int pl), .val (.int y), .val (.int nl)] [(.int (own_ch x i))]) rfl ?_
    exact gretN (t := .char) hx hret (by simp) (hb hby own_d_method_5_10) (by decide) (by decide) (fun vq Cq => ⟨(by rw [own_exp, if_pos e1]; exact congrArg (fun z => some (Value.int z)) (own_narch _ _)), (Keep.refl h0 [])⟩)
  · refine gs (mkF m 11 #[.val (.int i), .val (.int x), .val (.int pl), .val (.int y), .val (.int nl)] []) (fun _ _ A kq => XS.icmpYes A hx rfl (pc0 := 2) (pc' := 11) rfl (hb hby own_d_method_5_2) rfl (flt e1).2.1 (by decide) (by decide) kq) ?_
    refine gs (mkF m 12 #[.val (.int i), .val (.int x), .val (.int pl), .val (.int y), .val (.int nl)] [(.int i)]) (fun _ _ A kq => XS.iloadN A hx rfl (hb hby own_d_method_5_11) rfl  kq) ?_
    refine gs (mkF m 13 #[.val (.int i), .val (.int x), .val (.int pl), .val (.int y), .val (.int nl)] [(.int pl), (.int i)]) (fun _ _ A kq => XS.iloadN A hx rfl (hb hby own_d_method_5_12) rfl  kq) ?_
    refine gs (mkF m 15 #[.val (.int i), .val (.int x), .val (.int pl), .val (.int y), .val (.int nl)] [(.int nl), (.int pl), (.int i)]) (fun _ _ A kq => XS.iload A hx rfl (hb hby own_d_method_5_13) rfl  kq) ?_
    refine gs (mkF m 16 #[.val (.int i), .val (.int x), .val (.int pl), .val (.int y), .val (.int nl)] [(.int (pl + nl)), (.int i)]) (fun _ _ A kq => XS.iadd A hx rfl (hb hby own_d_method_5_15) rfl kq) ?_
    by_cases e2 : i < (pl + nl)
    · refine gs (mkF m 19 #[.val (.int i), .val (.int x), .val (.int pl), .val (.int y), .val (.int nl)] []) (fun _ _ A kq => XS.icmpNo A hx rfl (hb hby own_d_method_5_16) rfl (tlt e2).2.1 kq) ?_
      refine gs (mkF m 20 #[.val (.int i), .val (.int x), .val (.int pl), .val (.int y), .val (.int nl)] [(.int y)]) (fun _ _ A kq => XS.iloadN A hx rfl (hb hby own_d_method_5_19) rfl  kq) ?_
      refine gs (mkF m 21 #[.val (.int i), .val (.int x), .val (.int pl), .val (.int y), .val (.int nl)] [(.int i), (.int y)]) (fun _ _ A kq => XS.iloadN A hx rfl (hb hby own_d_method_5_20) rfl  kq) ?_
      refine gs (mkF m 22 #[.val (.int i), .val (.int x), .val (.int pl), .val (.int y), .val (.int nl)] [(.int pl), (.int i), (.int y)]) (fun _ _ A kq => XS.iloadN A hx rfl (hb hby own_d_method_5_21) rfl  kq) ?_
      refine gs (mkF m 23 #[.val (.int i), .val (.int x), .val (.int pl), .val (.int y), .val (.int nl)] [(.int (i - pl)), (.int y)]) (fun _ _ A kq => XS.isub A hx rfl (hb hby own_d_method_5_22) rfl kq) ?_
      refine ginfo fun _ _ O3 => ?_
      refine gcallS (y := (⟨"com/example/limentinus/limentinus/core/KeyLayoutFencingKeyPinLaw", "ch", "(II)C"⟩ : MethodName)) hx (ow hw 8 rfl) (ow hw 9 rfl) (ow hw 2 rfl) (ow hw 10 rfl) (by decide) (fun hZ H hEL => Pay.of_met (W := 0) (own_chw l Z a0 cx [] (y) ((i - pl)) vm h0 O3 ) (ow hw 10 rfl) (ow hw 2 rfl) (by decide) (by decide) hZ H hEL) 26 (argsL := [(.int y), (.int (i - pl))]) (rest := []) (lenOf own_pd303 rfl) rfl rfl (Nat.le_of_eq rfl) (by rw [hml]; rfl) (hb hby own_d_method_5_23) rfl (by decide) (by decide) ?_
      rintro _ vm3 h3 C3 ⟨rfl, rfl⟩
      have z3 := C3.2.1
      refine gat (mkF m 26 #[.val (.int i), .val (.int x), .val (.int pl), .val (.int y), .val (.int nl)] [(.int (own_ch y (i - pl)))]) rfl ?_
      exact gretN (t := .char) hx hret (by simp) (hb hby own_d_method_5_26) (by decide) (by decide) (fun vq Cq => ⟨(by rw [own_exp, if_neg e1, if_pos e2]; exact congrArg (fun z => some (Value.int z)) (own_narch _ _)), (Keep.refl h0 [])⟩)
    · refine gs (mkF m 27 #[.val (.int i), .val (.int x), .val (.int pl), .val (.int y), .val (.int nl)] []) (fun _ _ A kq => XS.icmpYes A hx rfl (pc0 := 16) (pc' := 27) rfl (hb hby own_d_method_5_16) rfl (flt e2).2.1 (by decide) (by decide) kq) ?_
      refine gldcR hx (ow hw 209 rfl) hSA (by decide) (n := 24) (by decide) (by decide) (vs := [Value.int (58 : Int32), Value.int (102 : Int32), Value.int (101 : Int32), Value.int (110 : Int32), Value.int (99 : Int32), Value.int (101 : Int32)]) (z := (6 : Int32)) (by decide +kernel) (by decide) (by decide) 29 (hb hby own_d_method_5_27) rfl (by decide) (by decide) ?_
      intro b5 t5 k5 vm5 h5 E5 C5 Q5a Q5b Q5c Q5d Q5e
      have z5 := C5.2.1
      have S5 : Str Z h5 b5 t5 [(58 : Int32), (102 : Int32), (101 : Int32), (110 : Int32), (99 : Int32), (101 : Int32)] := Str.lit Q5a Q5b Q5c Q5d (by decide) rfl rfl (by decide)
      have lt_b5 : h5.size > b5 := S5.1.lt
      have lt_t5 : h5.size > t5 := S5.tlt
      refine gs (mkF m 30 #[.val (.int i), .val (.int x), .val (.int pl), .val (.int y), .val (.int nl)] [(.int i), (.ref b5)]) (fun _ _ A kq => XS.iloadN A hx rfl (hb hby own_d_method_5_29) rfl  kq) ?_
      refine gs (mkF m 31 #[.val (.int i), .val (.int x), .val (.int pl), .val (.int y), .val (.int nl)] [(.int pl), (.int i), (.ref b5)]) (fun _ _ A kq => XS.iloadN A hx rfl (hb hby own_d_method_5_30) rfl  kq) ?_
      refine gs (mkF m 32 #[.val (.int i), .val (.int x), .val (.int pl), .val (.int y), .val (.int nl)] [(.int (i - pl)), (.ref b5)]) (fun _ _ A kq => XS.isub A hx rfl (hb hby own_d_method_5_31) rfl kq) ?_
      refine gs (mkF m 34 #[.val (.int i), .val (.int x), .val (.int pl), .val (.int y), .val (.int nl)] [(.int nl), (.int (i - pl)), (.ref b5)]) (fun _ _ A kq => XS.iload A hx rfl (hb hby own_d_method_5_32) rfl  kq) ?_
      refine gs (mkF m 35 #[.val (.int i), .val (.int x), .val (.int pl), .val (.int y), .val (.int nl)] [(.int ((i - pl) - nl)), (.ref b5)]) (fun _ _ A kq => XS.isub A hx rfl (hb hby own_d_method_5_34) rfl kq) ?_
      refine ginfo fun _ _ O6 => ?_
      refine gcallV (y := (⟨"java/lang/String", "charAt", "(I)C"⟩ : MethodName)) (z := (⟨"java/lang/String", "charAt", "(I)C"⟩ : MethodName)) hx (ow hw 184 rfl) (ow hw 185 rfl) (nfSel (ow hw 187 rfl)) (ow hw 187 rfl) (ow hw 186 rfl) (by decide) (fun hZ H hEL => own_payChN (W := 0) (own_wChN hw) (ow hw 5 rfl) Scs hzc Sfm hfm O6 (i := j) (y := (([(58 : Int32), (102 : Int32), (101 : Int32), (110 : Int32), (99 : Int32), (101 : Int32)] : List Int32).getD j 0)) S5 (hj e1 e2).1 (hj e1 e2).2 rfl (by decide) (by decide) hZ H hEL) 38 (argsL := [(.int ((i - pl) - nl))]) (rest := []) S5.1 (lenOf own_pd414 rfl) rfl rfl (Nat.le_of_eq rfl) (by rw [hml]; rfl) (hb hby own_d_method_5_35) rfl (by decide) (by decide) ?_
      rintro _ vm6 h6 C6 ⟨rfl, rfl⟩
      have z6 := C6.2.1
      refine gat (mkF m 38 #[.val (.int i), .val (.int x), .val (.int pl), .val (.int y), .val (.int nl)] [(.int (([(58 : Int32), (102 : Int32), (101 : Int32), (110 : Int32), (99 : Int32), (101 : Int32)] : List Int32).getD j 0))]) rfl ?_
      exact gretN (t := .char) hx hret (by simp) (hb hby own_d_method_5_38) (by decide) (by decide) (fun vq Cq => ⟨(by rw [own_exp, if_neg e1, if_neg e2, (hj e1 e2).2, tn (Nat.lt_trans (hj e1 e2).1 (by decide))]; exact congrArg (fun z => some (Value.int z)) (own_narfen (hj e1 e2).1)), ((Keep.refl h0 []).ext E5)⟩)
theorem own_d_method_6_0 : decode method_6_code 0 = .ok (.iload_n 1, 1) := by decide +kernel
theorem own_d_method_6_1 : decode method_6_code 1 = .ok (.aload_n 0, 1) := by decide +kernel
theorem own_d_method_6_2 : decode method_6_code 2 = .ok (.invokevirtual 22, 3) := by decide +kernel
theorem own_d_method_6_5 : decode method_6_code 5 = .ok (.if_icmp .lt 5, 3) := by decide +kernel
theorem own_d_method_6_10 : decode method_6_code 10 = .ok (.aload_n 0, 1) := by decide +kernel
theorem own_d_method_6_11 : decode method_6_code 11 = .ok (.iload_n 1, 1) := by decide +kernel
theorem own_d_method_6_12 : decode method_6_code 12 = .ok (.invokevirtual 45, 3) := by decide +kernel
theorem own_d_method_6_15 : decode method_6_code 15 = .ok (.iload_n 1, 1) := by decide +kernel
theorem own_d_method_6_16 : decode method_6_code 16 = .ok (.iload_n 2, 1) := by decide +kernel
theorem own_d_method_6_17 : decode method_6_code 17 = .ok (.iload_n 3, 1) := by decide +kernel
theorem own_d_method_6_18 : decode method_6_code 18 = .ok (.iload 4, 2) := by decide +kernel
theorem own_d_method_6_20 : decode method_6_code 20 = .ok (.iload 5, 2) := by decide +kernel
theorem own_d_method_6_22 : decode method_6_code 22 = .ok (.invokestatic 49, 3) := by decide +kernel
theorem own_pd429 : parseMethodDescriptor "(IIIII)C" = some ⟨[.int, .int, .int, .int, .int], some .char⟩ := by decide +kernel
theorem own_d_method_6_25 : decode method_6_code 25 = .ok (.if_icmp .ne 7, 3) := by decide +kernel
theorem own_d_method_6_28 : decode method_6_code 28 = .ok (.iconst 1, 1) := by decide +kernel
theorem own_d_method_6_29 : decode method_6_code 29 = .ok (.goto 4, 3) := by decide +kernel
theorem own_d_method_6_33 : decode method_6_code 33 = .ok (.ireturn, 1) := by decide +kernel
theorem own_d_method_6_8 : decode method_6_code 8 = .ok (.iconst 1, 1) := by decide +kernel
theorem own_d_method_6_9 : decode method_6_code 9 = .ok (.ireturn, 1) := by decide +kernel
set_option maxRecDepth 65536 in
set_option maxHeartbeats 40000000 in
theorem own_atw (l : Launch) (Z : State) (a0 : Array Value) (cx : Ctx Z a0) (ws : List Jvm.Cond) (r : Addr) (i : Int32) (x : Int32) (pl : Int32) (y : Int32) (nl : Int32) (t : Addr) (k : Nat) (vm0 : Vm) (h0 : Heap) (X00 : Ext Z.heap h0) (P0 : Str Z h0 r t (own_dr x pl ++ own_dr y nl ++ [(58 : Int32), (102 : Int32), (101 : Int32), (110 : Int32), (99 : Int32), (101 : Int32)])) (hp : (pl = 0 ∨ pl = 1 ∨ pl = 2 ∨ pl = 3)) (hq : (nl = 0 ∨ nl = 1 ∨ nl = 2 ∨ nl = 3)) (hk : (k ≤ 11)) (hi : (i = Int32.ofNat k)) :
    Met l (⟨"com/example/limentinus/limentinus/core/KeyLayoutFencingKeyPinLaw", "at", "(Ljava/lang/String;IIIII)Z"⟩ : MethodName) method_6_code 6 (some .boolean) ws ({ frames := 5, cells := 2, slots := 28, locals := 70 } : Room) Z consts_1 vm0 h0 #[(.ref r), (.int i), (.int x), (.int pl), (.int y), (.int nl)] (fun rv vm h => rv = some (.int (1 : Int32)) ∧ Keep h0 h []) := by
  obtain ⟨hw, hEL, ⟨zc, Scs, hzc⟩, ⟨fm, Sfm, hfm⟩, ⟨fe, ft, tt, Sfe, Efe, Fft, Sft⟩⟩ := id cx
  have hSA := own_SA hw
  refine Met.of_walk (a0 := a0) #[.val (.ref r), .val (.int i), .val (.int x), .val (.int pl), .val (.int y), .val (.int nl)] (plainFor_of_name own_pn287) X00 hEL (fun m => by first | (simp [entryFrame, mkF, argsToLocals, Value.category]; done) | rfl) ?_
  intro p e s m below meth c vm hx hby hml hret hnm hC0
  have lt_r : h0.size > r := P0.1.lt
  have lt_t : h0.size > t := P0.tlt
  refine gs (mkF m 1 #[.val (.ref r), .val (.int i), .val (.int x), .val (.int pl), .val (.int y), .val (.int nl)] [(.int i)]) (fun _ _ A kq => XS.iloadN A hx rfl (hb hby own_d_method_6_0) rfl  kq) ?_
  refine gs (mkF m 2 #[.val (.ref r), .val (.int i), .val (.int x), .val (.int pl), .val (.int y), .val (.int nl)] [(.ref r), (.int i)]) (fun _ _ A kq => XS.aloadN A hx rfl (hb hby own_d_method_6_1) rfl rfl kq) ?_
  refine ginfo fun _ _ O1 => ?_
  refine gcallV (y := (⟨"java/lang/String", "length", "()I"⟩ : MethodName)) (z := (⟨"java/lang/String", "length", "()I"⟩ : MethodName)) hx (ow hw 180 rfl) (ow hw 94 rfl) (nfSel (ow hw 96 rfl)) (ow hw 96 rfl) (ow hw 95 rfl) (by decide) (fun hZ H hEL => own_payLen (W := 1) (own_wLen hw) (ow hw 5 rfl) Scs hzc O1 (N := (Int32.ofNat ((own_dr x pl ++ own_dr y nl ++ [(58 : Int32), (102 : Int32), (101 : Int32), (110 : Int32), (99 : Int32), (101 : Int32)])).length)) P0 rfl (by decide) (by decide) hZ H hEL) 5 (argsL := []) (rest := [(.int i)]) P0.1 (lenOf own_pd148 rfl) rfl rfl (Nat.le_of_eq rfl) (by rw [hml]; rfl) (hb hby own_d_method_6_2) rfl (by decide) (by decide) ?_
  rintro _ vm1 h1 C1 ⟨rfl, rfl⟩
  have z1 := C1.2.1
  refine gat (mkF m 5 #[.val (.ref r), .val (.int i), .val (.int x), .val (.int pl), .val (.int y), .val (.int nl)] [(.int (Int32.ofNat ((own_dr x pl ++ own_dr y nl ++ [(58 : Int32), (102 : Int32), (101 : Int32), (110 : Int32), (99 : Int32), (101 : Int32)])).length)), (.int i)]) rfl ?_
  by_cases e0 : i < (Int32.ofNat ((own_dr x pl ++ own_dr y nl ++ [(58 : Int32), (102 : Int32), (101 : Int32), (110 : Int32), (99 : Int32), (101 : Int32)])).length)
  · refine gs (mkF m 10 #[.val (.ref r), .val (.int i), .val (.int x), .val (.int pl), .val (.int y), .val (.int nl)] []) (fun _ _ A kq => XS.icmpYes A hx rfl (pc0 := 5) (pc' := 10) rfl (hb hby own_d_method_6_5) rfl (tlt e0).1 (by decide) (by decide) kq) ?_
    refine gs (mkF m 11 #[.val (.ref r), .val (.int i), .val (.int x), .val (.int pl), .val (.int y), .val (.int nl)] [(.ref r)]) (fun _ _ A kq => XS.aloadN A hx rfl (hb hby own_d_method_6_10) rfl rfl kq) ?_
    refine gs (mkF m 12 #[.val (.ref r), .val (.int i), .val (.int x), .val (.int pl), .val (.int y), .val (.int nl)] [(.int i), (.ref r)]) (fun _ _ A kq => XS.iloadN A hx rfl (hb hby own_d_method_6_11) rfl  kq) ?_
    refine ginfo fun _ _ O2 => ?_
    refine gcallV (y := (⟨"java/lang/String", "charAt", "(I)C"⟩ : MethodName)) (z := (⟨"java/lang/String", "charAt", "(I)C"⟩ : MethodName)) hx (ow hw 184 rfl) (ow hw 185 rfl) (nfSel (ow hw 187 rfl)) (ow hw 187 rfl) (ow hw 186 rfl) (by decide) (fun hZ H hEL => own_payChN (W := 0) (own_wChN hw) (ow hw 5 rfl) Scs hzc Sfm hfm O2 (i := k) (y := (own_exp i x pl y nl)) P0 (own_at hp hq hk hi e0).1 hi (own_at hp hq hk hi e0).2.1 (by decide) (by decide) hZ H hEL) 15 (argsL := [(.int i)]) (rest := []) P0.1 (lenOf own_pd414 rfl) rfl rfl (Nat.le_of_eq rfl) (by rw [hml]; rfl) (hb hby own_d_method_6_12) rfl (by decide) (by decide) ?_
    rintro _ vm2 h2 C2 ⟨rfl, rfl⟩
    have z2 := C2.2.1
    refine gat (mkF m 15 #[.val (.ref r), .val (.int i), .val (.int x), .val (.int pl), .val (.int y), .val (.int nl)] [(.int (own_exp i x pl y nl))]) rfl ?_
    refine gs (mkF m 16 #[.val (.ref r), .val (.int i), .val (.int x), .val (.int pl), .val (.int y), .val (.int nl)] [(.int i), (.int (own_exp i x pl y nl))]) (fun _ _ A kq => XS.iloadN A hx rfl (hb hby own_d_method_6_15) rfl  kq) ?_
    refine gs (mkF m 17 #[.val (.ref r), .val (.int i), .val (.int x), .val (.int pl), .val (.int y), .val (.int nl)] [(.int x), (.int i), (.int (own_exp i x pl y nl))]) (fun _ _ A kq => XS.iloadN A hx rfl (hb hby own_d_method_6_16) rfl  kq) ?_
    refine gs (mkF m 18 #[.val (.ref r), .val (.int i), .val (.int x), .val (.int pl), .val (.int y), .val (.int nl)] [(.int pl), (.int x), (.int i), (.int (own_exp i x pl y nl))]) (fun _ _ A kq => XS.iloadN A hx rfl (hb hby own_d_method_6_17) rfl  kq) ?_
    refine gs (mkF m 20 #[.val (.ref r), .val (.int i), .val (.int x), .val (.int pl), .val (.int y), .val (.int nl)] [(.int y), (.int pl), (.int x), (.int i), (.int (own_exp i x pl y nl))]) (fun _ _ A kq => XS.iload A hx rfl (hb hby own_d_method_6_18) rfl  kq) ?_
    refine gs (mkF m 22 #[.val (.ref r), .val (.int i), .val (.int x), .val (.int pl), .val (.int y), .val (.int nl)] [(.int nl), (.int y), (.int pl), (.int x), (.int i), (.int (own_exp i x pl y nl))]) (fun _ _ A kq => XS.iload A hx rfl (hb hby own_d_method_6_20) rfl  kq) ?_
    refine ginfo fun _ _ O3 => ?_
    refine gcallS (y := (⟨"com/example/limentinus/limentinus/core/KeyLayoutFencingKeyPinLaw", "expected", "(IIIII)C"⟩ : MethodName)) hx (ow hw 206 rfl) (ow hw 207 rfl) (ow hw 2 rfl) (ow hw 208 rfl) (by decide) (fun hZ H hEL => Pay.of_met (W := 1) (own_expected l Z a0 cx [] (i) (x) (pl) (y) (nl) ((k - pl.toNatClampNeg - nl.toNatClampNeg)) vm2 h0 O3 (own_at hp hq hk hi e0).2.2) (ow hw 208 rfl) (ow hw 2 rfl) (by decide) (by decide) hZ H hEL) 25 (argsL := [(.int i), (.int x), (.int pl), (.int y), (.int nl)]) (rest := [(.int (own_exp i x pl y nl))]) (lenOf own_pd429 rfl) rfl rfl (Nat.le_of_eq rfl) (by rw [hml]; rfl) (hb hby own_d_method_6_22) rfl (by decide) (by decide) ?_
    rintro _ vm3 h3 C3 ⟨rfl, K3⟩
    have z3 := C3.2.1
    refine gat (mkF m 25 #[.val (.ref r), .val (.int i), .val (.int x), .val (.int pl), .val (.int y), .val (.int nl)] [(.int (own_exp i x pl y nl)), (.int (own_exp i x pl y nl))]) rfl ?_
    refine gs (mkF m 28 #[.val (.ref r), .val (.int i), .val (.int x), .val (.int pl), .val (.int y), .val (.int nl)] []) (fun _ _ A kq => XS.icmpNo A hx rfl (hb hby own_d_method_6_25) rfl (teq rfl).2 kq) ?_
    refine gs (mkF m 29 #[.val (.ref r), .val (.int i), .val (.int x), .val (.int pl), .val (.int y), .val (.int nl)] [(.int (1 : Int32))]) (fun _ _ A kq => XS.iconst A hx rfl (hb hby own_d_method_6_28) kq) ?_
    refine gs (mkF m 33 #[.val (.ref r), .val (.int i), .val (.int x), .val (.int pl), .val (.int y), .val (.int nl)] [(.int (1 : Int32))]) (fun _ _ A kq => XS.goto A hx rfl (pc0 := 29) (pc' := 33) rfl (hb hby own_d_method_6_29) (by decide) (by decide) kq) ?_
    exact gretN (t := .boolean) hx hret (by simp) (hb hby own_d_method_6_33) (by decide) (by decide) (fun vq Cq => ⟨rfl, ((Keep.refl h0 []).trans K3 all0)⟩)
  · refine gs (mkF m 8 #[.val (.ref r), .val (.int i), .val (.int x), .val (.int pl), .val (.int y), .val (.int nl)] []) (fun _ _ A kq => XS.icmpNo A hx rfl (hb hby own_d_method_6_5) rfl (flt e0).1 kq) ?_
    refine gs (mkF m 9 #[.val (.ref r), .val (.int i), .val (.int x), .val (.int pl), .val (.int y), .val (.int nl)] [(.int (1 : Int32))]) (fun _ _ A kq => XS.iconst A hx rfl (hb hby own_d_method_6_8) kq) ?_
    exact gretN (t := .boolean) hx hret (by simp) (hb hby own_d_method_6_9) (by decide) (by decide) (fun vq Cq => ⟨rfl, (Keep.refl h0 [])⟩)
theorem own_pd436 : parseMethodDescriptor "(II)Ljava/lang/String;" = some ⟨[.int, .int], some (.object "java/lang/String")⟩ := by decide +kernel
theorem own_pd437 : parseMethodDescriptor "(Ljava/lang/String;IIIII)Z" = some ⟨[(.object "java/lang/String"), .int, .int, .int, .int, .int], some .boolean⟩ := by decide +kernel
set_option maxRecDepth 65536 in
set_option maxHeartbeats 40000000 in
theorem own_law (l : Launch) (Z : State) (a0 : Array Value) (cx : Ctx Z a0) (ws : List Jvm.Cond) (x0 : Int32) (x1 : Int32) (x2 : Int32) (vm0 : Vm) (h0 : Heap) (X00 : Ext Z.heap h0)  :
    Met l x code maxLocals ret ws room_1 Z consts_1 vm0 h0 #[(.int x0), (.int x1), (.int x2)] (fun rv vm h => rv = some (.int (1 : Int32)) ∧ Keep h0 h []) := by
  obtain ⟨hw, hEL, ⟨zc, Scs, hzc⟩, ⟨fm, Sfm, hfm⟩, ⟨fe, ft, tt, Sfe, Efe, Fft, Sft⟩⟩ := id cx
  have hSA := own_SA hw
  refine Met.of_walk (a0 := a0) #[.val (.int x0), .val (.int x1), .val (.int x2), .unset, .unset, .unset, .unset, .unset, .unset, .unset] (plainFor_of_name own_pn287) X00 hEL (fun m => by first | (simp [entryFrame, mkF, argsToLocals, Value.category, maxLocals]; done) | rfl) ?_
  intro p e s m below meth c vm hx hby hml hret hnm hC0
  refine gs (mkF m 1 #[.val (.int x0), .val (.int x1), .val (.int x2), .unset, .unset, .unset, .unset, .unset, .unset, .unset] [(.int x2)]) (fun _ _ A kq => XS.iloadN A hx rfl (hb hby at_0) rfl  kq) ?_
  refine gs (mkF m 2 #[.val (.int x0), .val (.int x1), .val (.int x2), .unset, .unset, .unset, .unset, .unset, .unset, .unset] [(.int (3 : Int32)), (.int x2)]) (fun _ _ A kq => XS.iconst A hx rfl (hb hby at_1) kq) ?_
  refine gs (mkF m 3 #[.val (.int x0), .val (.int x1), .val (.int x2), .unset, .unset, .unset, .unset, .unset, .unset, .unset] [(.int (x2 &&& (3 : Int32)))]) (fun _ _ A kq => XS.iand A hx rfl (hb hby at_2) rfl kq) ?_
  refine gs (mkF m 4 #[.val (.int x0), .val (.int x1), .val (.int x2), .val (.int (x2 &&& (3 : Int32))), .unset, .unset, .unset, .unset, .unset, .unset] []) (fun _ _ A kq => XS.istoreN A hx rfl (hb hby at_3) rfl (l' := #[.val (.int x0), .val (.int x1), .val (.int x2), .val (.int (x2 &&& (3 : Int32))), .unset, .unset, .unset, .unset, .unset, .unset]) rfl kq) ?_
  refine gs (mkF m 5 #[.val (.int x0), .val (.int x1), .val (.int x2), .val (.int (x2 &&& (3 : Int32))), .unset, .unset, .unset, .unset, .unset, .unset] [(.int x2)]) (fun _ _ A kq => XS.iloadN A hx rfl (hb hby at_4) rfl  kq) ?_
  refine gs (mkF m 6 #[.val (.int x0), .val (.int x1), .val (.int x2), .val (.int (x2 &&& (3 : Int32))), .unset, .unset, .unset, .unset, .unset, .unset] [(.int (2 : Int32)), (.int x2)]) (fun _ _ A kq => XS.iconst A hx rfl (hb hby at_5) kq) ?_
  refine gs (mkF m 7 #[.val (.int x0), .val (.int x1), .val (.int x2), .val (.int (x2 &&& (3 : Int32))), .unset, .unset, .unset, .unset, .unset, .unset] [(.int ((x2.toUInt32 >>> ((2 : Int32) &&& 31).toUInt32).toInt32))]) (fun _ _ A kq => XS.iushr A hx rfl (hb hby at_6) rfl kq) ?_
  refine gs (mkF m 8 #[.val (.int x0), .val (.int x1), .val (.int x2), .val (.int (x2 &&& (3 : Int32))), .unset, .unset, .unset, .unset, .unset, .unset] [(.int (3 : Int32)), (.int ((x2.toUInt32 >>> ((2 : Int32) &&& 31).toUInt32).toInt32))]) (fun _ _ A kq => XS.iconst A hx rfl (hb hby at_7) kq) ?_
  refine gs (mkF m 9 #[.val (.int x0), .val (.int x1), .val (.int x2), .val (.int (x2 &&& (3 : Int32))), .unset, .unset, .unset, .unset, .unset, .unset] [(.int (((x2.toUInt32 >>> ((2 : Int32) &&& 31).toUInt32).toInt32) &&& (3 : Int32)))]) (fun _ _ A kq => XS.iand A hx rfl (hb hby at_8) rfl kq) ?_
  refine gs (mkF m 11 #[.val (.int x0), .val (.int x1), .val (.int x2), .val (.int (x2 &&& (3 : Int32))), .val (.int (((x2.toUInt32 >>> ((2 : Int32) &&& 31).toUInt32).toInt32) &&& (3 : Int32))), .unset, .unset, .unset, .unset, .unset] []) (fun _ _ A kq => XS.istore A hx rfl (hb hby at_9) rfl (l' := #[.val (.int x0), .val (.int x1), .val (.int x2), .val (.int (x2 &&& (3 : Int32))), .val (.int (((x2.toUInt32 >>> ((2 : Int32) &&& 31).toUInt32).toInt32) &&& (3 : Int32))), .unset, .unset, .unset, .unset, .unset]) rfl kq) ?_
  refine gs (mkF m 12 #[.val (.int x0), .val (.int x1), .val (.int x2), .val (.int (x2 &&& (3 : Int32))), .val (.int (((x2.toUInt32 >>> ((2 : Int32) &&& 31).toUInt32).toInt32) &&& (3 : Int32))), .unset, .unset, .unset, .unset, .unset] [(.int x0)]) (fun _ _ A kq => XS.iloadN A hx rfl (hb hby at_11) rfl  kq) ?_
  refine gs (mkF m 13 #[.val (.int x0), .val (.int x1), .val (.int x2), .val (.int (x2 &&& (3 : Int32))), .val (.int (((x2.toUInt32 >>> ((2 : Int32) &&& 31).toUInt32).toInt32) &&& (3 : Int32))), .unset, .unset, .unset, .unset, .unset] [(.int (x2 &&& (3 : Int32))), (.int x0)]) (fun _ _ A kq => XS.iloadN A hx rfl (hb hby at_12) rfl  kq) ?_
  refine ginfo fun _ _ O1 => ?_
  refine gcallS (y := (⟨"com/example/limentinus/limentinus/core/KeyLayoutFencingKeyPinLaw", "draw", "(II)Ljava/lang/String;"⟩ : MethodName)) hx (ow hw 0 rfl) (ow hw 1 rfl) (ow hw 2 rfl) (ow hw 3 rfl) (by decide) (fun hZ H hEL => Pay.of_met (W := 0) (own_draw l Z a0 cx [] (x0) ((x2 &&& (3 : Int32))) vm h0 O1 (own_and3 _)) (ow hw 3 rfl) (ow hw 2 rfl) (by decide) (by decide) hZ H hEL) 16 (argsL := [(.int x0), (.int (x2 &&& (3 : Int32)))]) (rest := []) (lenOf own_pd436 rfl) rfl rfl (Nat.le_of_eq rfl) (by rw [hml]; rfl) (hb hby at_13) rfl (by decide) (by decide) ?_
  rintro _ vm1 h1 C1 ⟨r1, t1, rfl, K1, q1_0⟩
  have z1 := C1.2.1
  have lt_r1 : h1.size > r1 := q1_0.1.lt
  have lt_t1 : h1.size > t1 := q1_0.tlt
  refine gat (mkF m 16 #[.val (.int x0), .val (.int x1), .val (.int x2), .val (.int (x2 &&& (3 : Int32))), .val (.int (((x2.toUInt32 >>> ((2 : Int32) &&& 31).toUInt32).toInt32) &&& (3 : Int32))), .unset, .unset, .unset, .unset, .unset] [(.ref r1)]) rfl ?_
  refine gs (mkF m 18 #[.val (.int x0), .val (.int x1), .val (.int x2), .val (.int (x2 &&& (3 : Int32))), .val (.int (((x2.toUInt32 >>> ((2 : Int32) &&& 31).toUInt32).toInt32) &&& (3 : Int32))), .val (.ref r1), .unset, .unset, .unset, .unset] []) (fun _ _ A kq => XS.astore A hx rfl (hb hby at_16) rfl rfl (l' := #[.val (.int x0), .val (.int x1), .val (.int x2), .val (.int (x2 &&& (3 : Int32))), .val (.int (((x2.toUInt32 >>> ((2 : Int32) &&& 31).toUInt32).toInt32) &&& (3 : Int32))), .val (.ref r1), .unset, .unset, .unset, .unset]) rfl kq) ?_
  refine gs (mkF m 19 #[.val (.int x0), .val (.int x1), .val (.int x2), .val (.int (x2 &&& (3 : Int32))), .val (.int (((x2.toUInt32 >>> ((2 : Int32) &&& 31).toUInt32).toInt32) &&& (3 : Int32))), .val (.ref r1), .unset, .unset, .unset, .unset] [(.int x1)]) (fun _ _ A kq => XS.iloadN A hx rfl (hb hby at_18) rfl  kq) ?_
  refine gs (mkF m 21 #[.val (.int x0), .val (.int x1), .val (.int x2), .val (.int (x2 &&& (3 : Int32))), .val (.int (((x2.toUInt32 >>> ((2 : Int32) &&& 31).toUInt32).toInt32) &&& (3 : Int32))), .val (.ref r1), .unset, .unset, .unset, .unset] [(.int (((x2.toUInt32 >>> ((2 : Int32) &&& 31).toUInt32).toInt32) &&& (3 : Int32))), (.int x1)]) (fun _ _ A kq => XS.iload A hx rfl (hb hby at_19) rfl  kq) ?_
  refine ginfo fun _ _ O2 => ?_
  refine gcallS (y := (⟨"com/example/limentinus/limentinus/core/KeyLayoutFencingKeyPinLaw", "draw", "(II)Ljava/lang/String;"⟩ : MethodName)) hx (ow hw 0 rfl) (ow hw 1 rfl) (ow hw 2 rfl) (ow hw 3 rfl) (by decide) (fun hZ H hEL => Pay.of_met (W := 0) (own_draw l Z a0 cx [] (x1) ((((x2.toUInt32 >>> ((2 : Int32) &&& 31).toUInt32).toInt32) &&& (3 : Int32))) vm1 h1 O2 (own_and3 _)) (ow hw 3 rfl) (ow hw 2 rfl) (by decide) (by decide) hZ H hEL) 24 (argsL := [(.int x1), (.int (((x2.toUInt32 >>> ((2 : Int32) &&& 31).toUInt32).toInt32) &&& (3 : Int32)))]) (rest := []) (lenOf own_pd436 rfl) rfl rfl (Nat.le_of_eq rfl) (by rw [hml]; rfl) (hb hby at_21) rfl (by decide) (by decide) ?_
  rintro _ vm2 h2 C2 ⟨r2, t2, rfl, K2, q2_0⟩
  have z2 := C2.2.1
  have lt_r2 : h2.size > r2 := q2_0.1.lt
  have lt_t2 : h2.size > t2 := q2_0.tlt
  refine gat (mkF m 24 #[.val (.int x0), .val (.int x1), .val (.int x2), .val (.int (x2 &&& (3 : Int32))), .val (.int (((x2.toUInt32 >>> ((2 : Int32) &&& 31).toUInt32).toInt32) &&& (3 : Int32))), .val (.ref r1), .unset, .unset, .unset, .unset] [(.ref r2)]) rfl ?_
  refine gs (mkF m 26 #[.val (.int x0), .val (.int x1), .val (.int x2), .val (.int (x2 &&& (3 : Int32))), .val (.int (((x2.toUInt32 >>> ((2 : Int32) &&& 31).toUInt32).toInt32) &&& (3 : Int32))), .val (.ref r1), .val (.ref r2), .unset, .unset, .unset] []) (fun _ _ A kq => XS.astore A hx rfl (hb hby at_24) rfl rfl (l' := #[.val (.int x0), .val (.int x1), .val (.int x2), .val (.int (x2 &&& (3 : Int32))), .val (.int (((x2.toUInt32 >>> ((2 : Int32) &&& 31).toUInt32).toInt32) &&& (3 : Int32))), .val (.ref r1), .val (.ref r2), .unset, .unset, .unset]) rfl kq) ?_
  refine gnewO hx (ow hw 40 rfl) (ow hw 41 rfl) (ow hw 42 rfl) 29 (hb hby at_26) rfl (by decide) (by decide) ?_
  intro b3 h3 g3 E3 C3 A3 D3 n3 L3
  have z3 := C3.2.1
  have lt_b3 : h3.size > b3 := A3.lt
  have F3_prefix : Fld Z h3 b3 "com/example/limentinus/limentinus/core/KeyLayout" "prefix" "Ljava/lang/String;" .null := D3 (Or.inr (ow hw 54 rfl)) (ty := (.object "java/lang/String")) (by decide)
  refine gs (mkF m 30 #[.val (.int x0), .val (.int x1), .val (.int x2), .val (.int (x2 &&& (3 : Int32))), .val (.int (((x2.toUInt32 >>> ((2 : Int32) &&& 31).toUInt32).toInt32) &&& (3 : Int32))), .val (.ref r1), .val (.ref r2), .unset, .unset, .unset] [(.ref b3), (.ref b3)]) (fun _ _ A kq => XS.dup A hx rfl (hb hby at_29) rfl rfl kq) ?_
  refine gs (mkF m 32 #[.val (.int x0), .val (.int x1), .val (.int x2), .val (.int (x2 &&& (3 : Int32))), .val (.int (((x2.toUInt32 >>> ((2 : Int32) &&& 31).toUInt32).toInt32) &&& (3 : Int32))), .val (.ref r1), .val (.ref r2), .unset, .unset, .unset] [(.ref r1), (.ref b3), (.ref b3)]) (fun _ _ A kq => XS.aload A hx rfl (hb hby at_30) rfl rfl kq) ?_
  have f5 := ((q1_0.keep K2 nin0 nin0).ext E3)
  refine ginfo fun _ _ O4 => ?_
  refine gcallI (y := (⟨"com/example/limentinus/limentinus/core/KeyLayout", "<init>", "(Ljava/lang/String;)V"⟩ : MethodName)) hx rfl (ow hw 43 rfl) (ow hw 44 rfl) (ow hw 45 rfl) (by decide) (fun hZ H hEL => Pay.of_met (W := 1) (own_klinit l Z a0 cx [] (b3) (r1) (.null) (t1) ((own_dr x0 (x2 &&& (3 : Int32)))) vm2 h3 O4 A3 F3_prefix n3 f5) (ow hw 45 rfl) (ow hw 42 rfl) (by decide) (by decide) hZ H hEL) (a := b3) 35 (argsL := [(.ref r1)]) (rest := [(.ref b3)]) (lenOf own_pd122 rfl) rfl rfl (Nat.le_of_eq rfl) (by rw [hml]; rfl) (hb hby at_32) rfl (by decide) (by decide) ?_
  rintro _ vm4 h4 C4 ⟨rfl, K4, q4_0⟩
  have z4 := C4.2.1
  refine gat (mkF m 35 #[.val (.int x0), .val (.int x1), .val (.int x2), .val (.int (x2 &&& (3 : Int32))), .val (.int (((x2.toUInt32 >>> ((2 : Int32) &&& 31).toUInt32).toInt32) &&& (3 : Int32))), .val (.ref r1), .val (.ref r2), .unset, .unset, .unset] [(.ref b3)]) rfl ?_
  refine gs (mkF m 37 #[.val (.int x0), .val (.int x1), .val (.int x2), .val (.int (x2 &&& (3 : Int32))), .val (.int (((x2.toUInt32 >>> ((2 : Int32) &&& 31).toUInt32).toInt32) &&& (3 : Int32))), .val (.ref r1), .val (.ref r2), .val (.ref b3), .unset, .unset] []) (fun _ _ A kq => XS.astore A hx rfl (hb hby at_35) rfl rfl (l' := #[.val (.int x0), .val (.int x1), .val (.int x2), .val (.int (x2 &&& (3 : Int32))), .val (.int (((x2.toUInt32 >>> ((2 : Int32) &&& 31).toUInt32).toInt32) &&& (3 : Int32))), .val (.ref r1), .val (.ref r2), .val (.ref b3), .unset, .unset]) rfl kq) ?_
  refine gs (mkF m 39 #[.val (.int x0), .val (.int x1), .val (.int x2), .val (.int (x2 &&& (3 : Int32))), .val (.int (((x2.toUInt32 >>> ((2 : Int32) &&& 31).toUInt32).toInt32) &&& (3 : Int32))), .val (.ref r1), .val (.ref r2), .val (.ref b3), .unset, .unset] [(.ref b3)]) (fun _ _ A kq => XS.aload A hx rfl (hb hby at_37) rfl rfl kq) ?_
  refine gs (mkF m 41 #[.val (.int x0), .val (.int x1), .val (.int x2), .val (.int (x2 &&& (3 : Int32))), .val (.int (((x2.toUInt32 >>> ((2 : Int32) &&& 31).toUInt32).toInt32) &&& (3 : Int32))), .val (.ref r1), .val (.ref r2), .val (.ref b3), .unset, .unset] [(.ref r2), (.ref b3)]) (fun _ _ A kq => XS.aload A hx rfl (hb hby at_39) rfl rfl kq) ?_
  have f7 := (A3.keep K4)
  have f8 := (f5.keep K4 (ninS (Nat.ne_of_lt (by omega)) nin0) (ninS (Nat.ne_of_lt (by omega)) nin0))
  have f9 := ((q2_0.ext E3).keep K4 (ninS (Nat.ne_of_lt (by omega)) nin0) (ninS (Nat.ne_of_lt (by omega)) nin0))
  refine ginfo fun _ _ O6 => ?_
  refine gcallV (y := (⟨"com/example/limentinus/limentinus/core/KeyLayout", "fencingKey", "(Ljava/lang/String;)Ljava/lang/String;"⟩ : MethodName)) (z := (⟨"com/example/limentinus/limentinus/core/KeyLayout", "fencingKey", "(Ljava/lang/String;)Ljava/lang/String;"⟩ : MethodName)) hx (ow hw 55 rfl) (ow hw 56 rfl) (nfSel (ow hw 58 rfl)) (ow hw 58 rfl) (ow hw 57 rfl) (by decide) (fun hZ H hEL => Pay.of_met (W := 0) (own_fencing l Z a0 cx [] (b3) (r2) (r1) (t1) ((own_dr x0 (x2 &&& (3 : Int32)))) (t2) ((own_dr x1 (((x2.toUInt32 >>> ((2 : Int32) &&& 31).toUInt32).toInt32) &&& (3 : Int32)))) vm4 h4 O6 f7 q4_0 f8 f9 (own_drL (own_and3 _)).2 (own_drL (own_and3 _)).2) (ow hw 59 rfl) (ow hw 42 rfl) (by decide) (by decide) hZ H hEL) 44 (argsL := [(.ref r2)]) (rest := []) f7 (lenOf own_pd382 rfl) rfl rfl (Nat.le_of_eq rfl) (by rw [hml]; rfl) (hb hby at_41) rfl (by decide) (by decide) ?_
  rintro _ vm6 h6 C6 ⟨r6, t6, rfl, K6, q6_0⟩
  have z6 := C6.2.1
  have lt_r6 : h6.size > r6 := q6_0.1.lt
  have lt_t6 : h6.size > t6 := q6_0.tlt
  refine gat (mkF m 44 #[.val (.int x0), .val (.int x1), .val (.int x2), .val (.int (x2 &&& (3 : Int32))), .val (.int (((x2.toUInt32 >>> ((2 : Int32) &&& 31).toUInt32).toInt32) &&& (3 : Int32))), .val (.ref r1), .val (.ref r2), .val (.ref b3), .unset, .unset] [(.ref r6)]) rfl ?_
  refine gs (mkF m 46 #[.val (.int x0), .val (.int x1), .val (.int x2), .val (.int (x2 &&& (3 : Int32))), .val (.int (((x2.toUInt32 >>> ((2 : Int32) &&& 31).toUInt32).toInt32) &&& (3 : Int32))), .val (.ref r1), .val (.ref r2), .val (.ref b3), .val (.ref r6), .unset] []) (fun _ _ A kq => XS.astore A hx rfl (hb hby at_44) rfl rfl (l' := #[.val (.int x0), .val (.int x1), .val (.int x2), .val (.int (x2 &&& (3 : Int32))), .val (.int (((x2.toUInt32 >>> ((2 : Int32) &&& 31).toUInt32).toInt32) &&& (3 : Int32))), .val (.ref r1), .val (.ref r2), .val (.ref b3), .val (.ref r6), .unset]) rfl kq) ?_
  refine gs (mkF m 48 #[.val (.int x0), .val (.int x1), .val (.int x2), .val (.int (x2 &&& (3 : Int32))), .val (.int (((x2.toUInt32 >>> ((2 : Int32) &&& 31).toUInt32).toInt32) &&& (3 : Int32))), .val (.ref r1), .val (.ref r2), .val (.ref b3), .val (.ref r6), .unset] [(.ref r6)]) (fun _ _ A kq => XS.aload A hx rfl (hb hby at_46) rfl rfl kq) ?_
  refine gs (mkF m 51 #[.val (.int x0), .val (.int x1), .val (.int x2), .val (.int (x2 &&& (3 : Int32))), .val (.int (((x2.toUInt32 >>> ((2 : Int32) &&& 31).toUInt32).toInt32) &&& (3 : Int32))), .val (.ref r1), .val (.ref r2), .val (.ref b3), .val (.ref r6), .unset] []) (fun _ _ A kq => XS.ifnullNo A hx rfl (hb hby at_48) rfl kq) ?_
  refine gs (mkF m 53 #[.val (.int x0), .val (.int x1), .val (.int x2), .val (.int (x2 &&& (3 : Int32))), .val (.int (((x2.toUInt32 >>> ((2 : Int32) &&& 31).toUInt32).toInt32) &&& (3 : Int32))), .val (.ref r1), .val (.ref r2), .val (.ref b3), .val (.ref r6), .unset] [(.ref r6)]) (fun _ _ A kq => XS.aload A hx rfl (hb hby at_51) rfl rfl kq) ?_
  refine ginfo fun _ _ O10 => ?_
  refine gcallV (y := (⟨"java/lang/String", "length", "()I"⟩ : MethodName)) (z := (⟨"java/lang/String", "length", "()I"⟩ : MethodName)) hx (ow hw 180 rfl) (ow hw 94 rfl) (nfSel (ow hw 96 rfl)) (ow hw 96 rfl) (ow hw 95 rfl) (by decide) (fun hZ H hEL => own_payLen (W := 0) (own_wLen hw) (ow hw 5 rfl) Scs hzc O10 (N := (((x2 &&& (3 : Int32)) + (((x2.toUInt32 >>> ((2 : Int32) &&& 31).toUInt32).toInt32) &&& (3 : Int32))) + (6 : Int32))) q6_0 (own_len (own_and3 _) (own_and3 _)) (by decide) (by decide) hZ H hEL) 56 (argsL := []) (rest := []) q6_0.1 (lenOf own_pd148 rfl) rfl rfl (Nat.le_of_eq rfl) (by rw [hml]; rfl) (hb hby at_53) rfl (by decide) (by decide) ?_
  rintro _ vm10 h10 C10 ⟨rfl, rfl⟩
  have z10 := C10.2.1
  refine gat (mkF m 56 #[.val (.int x0), .val (.int x1), .val (.int x2), .val (.int (x2 &&& (3 : Int32))), .val (.int (((x2.toUInt32 >>> ((2 : Int32) &&& 31).toUInt32).toInt32) &&& (3 : Int32))), .val (.ref r1), .val (.ref r2), .val (.ref b3), .val (.ref r6), .unset] [(.int (((x2 &&& (3 : Int32)) + (((x2.toUInt32 >>> ((2 : Int32) &&& 31).toUInt32).toInt32) &&& (3 : Int32))) + (6 : Int32)))]) rfl ?_
  refine gs (mkF m 57 #[.val (.int x0), .val (.int x1), .val (.int x2), .val (.int (x2 &&& (3 : Int32))), .val (.int (((x2.toUInt32 >>> ((2 : Int32) &&& 31).toUInt32).toInt32) &&& (3 : Int32))), .val (.ref r1), .val (.ref r2), .val (.ref b3), .val (.ref r6), .unset] [(.int (x2 &&& (3 : Int32))), (.int (((x2 &&& (3 : Int32)) + (((x2.toUInt32 >>> ((2 : Int32) &&& 31).toUInt32).toInt32) &&& (3 : Int32))) + (6 : Int32)))]) (fun _ _ A kq => XS.iloadN A hx rfl (hb hby at_56) rfl  kq) ?_
  refine gs (mkF m 59 #[.val (.int x0), .val (.int x1), .val (.int x2), .val (.int (x2 &&& (3 : Int32))), .val (.int (((x2.toUInt32 >>> ((2 : Int32) &&& 31).toUInt32).toInt32) &&& (3 : Int32))), .val (.ref r1), .val (.ref r2), .val (.ref b3), .val (.ref r6), .unset] [(.int (((x2.toUInt32 >>> ((2 : Int32) &&& 31).toUInt32).toInt32) &&& (3 : Int32))), (.int (x2 &&& (3 : Int32))), (.int (((x2 &&& (3 : Int32)) + (((x2.toUInt32 >>> ((2 : Int32) &&& 31).toUInt32).toInt32) &&& (3 : Int32))) + (6 : Int32)))]) (fun _ _ A kq => XS.iload A hx rfl (hb hby at_57) rfl  kq) ?_
  refine gs (mkF m 60 #[.val (.int x0), .val (.int x1), .val (.int x2), .val (.int (x2 &&& (3 : Int32))), .val (.int (((x2.toUInt32 >>> ((2 : Int32) &&& 31).toUInt32).toInt32) &&& (3 : Int32))), .val (.ref r1), .val (.ref r2), .val (.ref b3), .val (.ref r6), .unset] [(.int ((x2 &&& (3 : Int32)) + (((x2.toUInt32 >>> ((2 : Int32) &&& 31).toUInt32).toInt32) &&& (3 : Int32)))), (.int (((x2 &&& (3 : Int32)) + (((x2.toUInt32 >>> ((2 : Int32) &&& 31).toUInt32).toInt32) &&& (3 : Int32))) + (6 : Int32)))]) (fun _ _ A kq => XS.iadd A hx rfl (hb hby at_59) rfl kq) ?_
  refine gs (mkF m 62 #[.val (.int x0), .val (.int x1), .val (.int x2), .val (.int (x2 &&& (3 : Int32))), .val (.int (((x2.toUInt32 >>> ((2 : Int32) &&& 31).toUInt32).toInt32) &&& (3 : Int32))), .val (.ref r1), .val (.ref r2), .val (.ref b3), .val (.ref r6), .unset] [(.int (6 : Int32)), (.int ((x2 &&& (3 : Int32)) + (((x2.toUInt32 >>> ((2 : Int32) &&& 31).toUInt32).toInt32) &&& (3 : Int32)))), (.int (((x2 &&& (3 : Int32)) + (((x2.toUInt32 >>> ((2 : Int32) &&& 31).toUInt32).toInt32) &&& (3 : Int32))) + (6 : Int32)))]) (fun _ _ A kq => XS.bipush A hx rfl (hb hby at_60) kq) ?_
  refine gs (mkF m 63 #[.val (.int x0), .val (.int x1), .val (.int x2), .val (.int (x2 &&& (3 : Int32))), .val (.int (((x2.toUInt32 >>> ((2 : Int32) &&& 31).toUInt32).toInt32) &&& (3 : Int32))), .val (.ref r1), .val (.ref r2), .val (.ref b3), .val (.ref r6), .unset] [(.int (((x2 &&& (3 : Int32)) + (((x2.toUInt32 >>> ((2 : Int32) &&& 31).toUInt32).toInt32) &&& (3 : Int32))) + (6 : Int32))), (.int (((x2 &&& (3 : Int32)) + (((x2.toUInt32 >>> ((2 : Int32) &&& 31).toUInt32).toInt32) &&& (3 : Int32))) + (6 : Int32)))]) (fun _ _ A kq => XS.iadd A hx rfl (hb hby at_62) rfl kq) ?_
  refine gs (mkF m 68 #[.val (.int x0), .val (.int x1), .val (.int x2), .val (.int (x2 &&& (3 : Int32))), .val (.int (((x2.toUInt32 >>> ((2 : Int32) &&& 31).toUInt32).toInt32) &&& (3 : Int32))), .val (.ref r1), .val (.ref r2), .val (.ref b3), .val (.ref r6), .unset] []) (fun _ _ A kq => XS.icmpYes A hx rfl (pc0 := 63) (pc' := 68) rfl (hb hby at_63) rfl (teq rfl).1 (by decide) (by decide) kq) ?_
  refine gs (mkF m 69 #[.val (.int x0), .val (.int x1), .val (.int x2), .val (.int (x2 &&& (3 : Int32))), .val (.int (((x2.toUInt32 >>> ((2 : Int32) &&& 31).toUInt32).toInt32) &&& (3 : Int32))), .val (.ref r1), .val (.ref r2), .val (.ref b3), .val (.ref r6), .unset] [(.int (1 : Int32))]) (fun _ _ A kq => XS.iconst A hx rfl (hb hby at_68) kq) ?_
  refine gs (mkF m 71 #[.val (.int x0), .val (.int x1), .val (.int x2), .val (.int (x2 &&& (3 : Int32))), .val (.int (((x2.toUInt32 >>> ((2 : Int32) &&& 31).toUInt32).toInt32) &&& (3 : Int32))), .val (.ref r1), .val (.ref r2), .val (.ref b3), .val (.ref r6), .val (.int (1 : Int32))] []) (fun _ _ A kq => XS.istore A hx rfl (hb hby at_69) rfl (l' := #[.val (.int x0), .val (.int x1), .val (.int x2), .val (.int (x2 &&& (3 : Int32))), .val (.int (((x2.toUInt32 >>> ((2 : Int32) &&& 31).toUInt32).toInt32) &&& (3 : Int32))), .val (.ref r1), .val (.ref r2), .val (.ref b3), .val (.ref r6), .val (.int (1 : Int32))]) rfl kq) ?_
  refine gs (mkF m 73 #[.val (.int x0), .val (.int x1), .val (.int x2), .val (.int (x2 &&& (3 : Int32))), .val (.int (((x2.toUInt32 >>> ((2 : Int32) &&& 31).toUInt32).toInt32) &&& (3 : Int32))), .val (.ref r1), .val (.ref r2), .val (.ref b3), .val (.ref r6), .val (.int (1 : Int32))] [(.int (1 : Int32))]) (fun _ _ A kq => XS.iload A hx rfl (hb hby at_71) rfl  kq) ?_
  refine gs (mkF m 75 #[.val (.int x0), .val (.int x1), .val (.int x2), .val (.int (x2 &&& (3 : Int32))), .val (.int (((x2.toUInt32 >>> ((2 : Int32) &&& 31).toUInt32).toInt32) &&& (3 : Int32))), .val (.ref r1), .val (.ref r2), .val (.ref b3), .val (.ref r6), .val (.int (1 : Int32))] [(.ref r6), (.int (1 : Int32))]) (fun _ _ A kq => XS.aload A hx rfl (hb hby at_73) rfl rfl kq) ?_
  refine gs (mkF m 76 #[.val (.int x0), .val (.int x1), .val (.int x2), .val (.int (x2 &&& (3 : Int32))), .val (.int (((x2.toUInt32 >>> ((2 : Int32) &&& 31).toUInt32).toInt32) &&& (3 : Int32))), .val (.ref r1), .val (.ref r2), .val (.ref b3), .val (.ref r6), .val (.int (1 : Int32))] [(.int (0 : Int32)), (.ref r6), (.int (1 : Int32))]) (fun _ _ A kq => XS.iconst A hx rfl (hb hby at_75) kq) ?_
  refine gs (mkF m 77 #[.val (.int x0), .val (.int x1), .val (.int x2), .val (.int (x2 &&& (3 : Int32))), .val (.int (((x2.toUInt32 >>> ((2 : Int32) &&& 31).toUInt32).toInt32) &&& (3 : Int32))), .val (.ref r1), .val (.ref r2), .val (.ref b3), .val (.ref r6), .val (.int (1 : Int32))] [(.int x0), (.int (0 : Int32)), (.ref r6), (.int (1 : Int32))]) (fun _ _ A kq => XS.iloadN A hx rfl (hb hby at_76) rfl  kq) ?_
  refine gs (mkF m 78 #[.val (.int x0), .val (.int x1), .val (.int x2), .val (.int (x2 &&& (3 : Int32))), .val (.int (((x2.toUInt32 >>> ((2 : Int32) &&& 31).toUInt32).toInt32) &&& (3 : Int32))), .val (.ref r1), .val (.ref r2), .val (.ref b3), .val (.ref r6), .val (.int (1 : Int32))] [(.int (x2 &&& (3 : Int32))), (.int x0), (.int (0 : Int32)), (.ref r6), (.int (1 : Int32))]) (fun _ _ A kq => XS.iloadN A hx rfl (hb hby at_77) rfl  kq) ?_
  refine gs (mkF m 79 #[.val (.int x0), .val (.int x1), .val (.int x2), .val (.int (x2 &&& (3 : Int32))), .val (.int (((x2.toUInt32 >>> ((2 : Int32) &&& 31).toUInt32).toInt32) &&& (3 : Int32))), .val (.ref r1), .val (.ref r2), .val (.ref b3), .val (.ref r6), .val (.int (1 : Int32))] [(.int x1), (.int (x2 &&& (3 : Int32))), (.int x0), (.int (0 : Int32)), (.ref r6), (.int (1 : Int32))]) (fun _ _ A kq => XS.iloadN A hx rfl (hb hby at_78) rfl  kq) ?_
  refine gs (mkF m 81 #[.val (.int x0), .val (.int x1), .val (.int x2), .val (.int (x2 &&& (3 : Int32))), .val (.int (((x2.toUInt32 >>> ((2 : Int32) &&& 31).toUInt32).toInt32) &&& (3 : Int32))), .val (.ref r1), .val (.ref r2), .val (.ref b3), .val (.ref r6), .val (.int (1 : Int32))] [(.int (((x2.toUInt32 >>> ((2 : Int32) &&& 31).toUInt32).toInt32) &&& (3 : Int32))), (.int x1), (.int (x2 &&& (3 : Int32))), (.int x0), (.int (0 : Int32)), (.ref r6), (.int (1 : Int32))]) (fun _ _ A kq => XS.iload A hx rfl (hb hby at_79) rfl  kq) ?_
  refine ginfo fun _ _ O11 => ?_
  refine gcallS (y := (⟨"com/example/limentinus/limentinus/core/KeyLayoutFencingKeyPinLaw", "at", "(Ljava/lang/String;IIIII)Z"⟩ : MethodName)) hx (ow hw 181 rfl) (ow hw 182 rfl) (ow hw 2 rfl) (ow hw 183 rfl) (by decide) (fun hZ H hEL => Pay.of_met (W := 1) (own_atw l Z a0 cx [] (r6) ((0 : Int32)) (x0) ((x2 &&& (3 : Int32))) (x1) ((((x2.toUInt32 >>> ((2 : Int32) &&& 31).toUInt32).toInt32) &&& (3 : Int32))) (t6) (0) vm10 h6 O11 q6_0 (own_and3 _) (own_and3 _) (by decide) rfl) (ow hw 183 rfl) (ow hw 2 rfl) (by decide) (by decide) hZ H hEL) 84 (argsL := [(.ref r6), (.int (0 : Int32)), (.int x0), (.int (x2 &&& (3 : Int32))), (.int x1), (.int (((x2.toUInt32 >>> ((2 : Int32) &&& 31).toUInt32).toInt32) &&& (3 : Int32)))]) (rest := [(.int (1 : Int32))]) (lenOf own_pd437 rfl) rfl rfl (Nat.le_of_eq rfl) (by rw [hml]; rfl) (hb hby at_81) rfl (by decide) (by decide) ?_
  rintro _ vm11 h11 C11 ⟨rfl, K11⟩
  have z11 := C11.2.1
  refine gat (mkF m 84 #[.val (.int x0), .val (.int x1), .val (.int x2), .val (.int (x2 &&& (3 : Int32))), .val (.int (((x2.toUInt32 >>> ((2 : Int32) &&& 31).toUInt32).toInt32) &&& (3 : Int32))), .val (.ref r1), .val (.ref r2), .val (.ref b3), .val (.ref r6), .val (.int (1 : Int32))] [(.int (1 : Int32)), (.int (1 : Int32))]) rfl ?_
  refine gs (mkF m 85 #[.val (.int x0), .val (.int x1), .val (.int x2), .val (.int (x2 &&& (3 : Int32))), .val (.int (((x2.toUInt32 >>> ((2 : Int32) &&& 31).toUInt32).toInt32) &&& (3 : Int32))), .val (.ref r1), .val (.ref r2), .val (.ref b3), .val (.ref r6), .val (.int (1 : Int32))] [(.int (1 : Int32))]) (fun _ _ A kq => XS.iand A hx rfl (hb hby at_84) rfl kq) ?_
  refine gs (mkF m 87 #[.val (.int x0), .val (.int x1), .val (.int x2), .val (.int (x2 &&& (3 : Int32))), .val (.int (((x2.toUInt32 >>> ((2 : Int32) &&& 31).toUInt32).toInt32) &&& (3 : Int32))), .val (.ref r1), .val (.ref r2), .val (.ref b3), .val (.ref r6), .val (.int (1 : Int32))] []) (fun _ _ A kq => XS.istore A hx rfl (hb hby at_85) rfl (l' := #[.val (.int x0), .val (.int x1), .val (.int x2), .val (.int (x2 &&& (3 : Int32))), .val (.int (((x2.toUInt32 >>> ((2 : Int32) &&& 31).toUInt32).toInt32) &&& (3 : Int32))), .val (.ref r1), .val (.ref r2), .val (.ref b3), .val (.ref r6), .val (.int (1 : Int32))]) rfl kq) ?_
  refine gs (mkF m 89 #[.val (.int x0), .val (.int x1), .val (.int x2), .val (.int (x2 &&& (3 : Int32))), .val (.int (((x2.toUInt32 >>> ((2 : Int32) &&& 31).toUInt32).toInt32) &&& (3 : Int32))), .val (.ref r1), .val (.ref r2), .val (.ref b3), .val (.ref r6), .val (.int (1 : Int32))] [(.int (1 : Int32))]) (fun _ _ A kq => XS.iload A hx rfl (hb hby at_87) rfl  kq) ?_
  refine gs (mkF m 91 #[.val (.int x0), .val (.int x1), .val (.int x2), .val (.int (x2 &&& (3 : Int32))), .val (.int (((x2.toUInt32 >>> ((2 : Int32) &&& 31).toUInt32).toInt32) &&& (3 : Int32))), .val (.ref r1), .val (.ref r2), .val (.ref b3), .val (.ref r6), .val (.int (1 : Int32))] [(.ref r6), (.int (1 : Int32))]) (fun _ _ A kq => XS.aload A hx rfl (hb hby at_89) rfl rfl kq) ?_
  refine gs (mkF m 92 #[.val (.int x0), .val (.int x1), .val (.int x2), .val (.int (x2 &&& (3 : Int32))), .val (.int (((x2.toUInt32 >>> ((2 : Int32) &&& 31).toUInt32).toInt32) &&& (3 : Int32))), .val (.ref r1), .val (.ref r2), .val (.ref b3), .val (.ref r6), .val (.int (1 : Int32))] [(.int (1 : Int32)), (.ref r6), (.int (1 : Int32))]) (fun _ _ A kq => XS.iconst A hx rfl (hb hby at_91) kq) ?_
  refine gs (mkF m 93 #[.val (.int x0), .val (.int x1), .val (.int x2), .val (.int (x2 &&& (3 : Int32))), .val (.int (((x2.toUInt32 >>> ((2 : Int32) &&& 31).toUInt32).toInt32) &&& (3 : Int32))), .val (.ref r1), .val (.ref r2), .val (.ref b3), .val (.ref r6), .val (.int (1 : Int32))] [(.int x0), (.int (1 : Int32)), (.ref r6), (.int (1 : Int32))]) (fun _ _ A kq => XS.iloadN A hx rfl (hb hby at_92) rfl  kq) ?_
  refine gs (mkF m 94 #[.val (.int x0), .val (.int x1), .val (.int x2), .val (.int (x2 &&& (3 : Int32))), .val (.int (((x2.toUInt32 >>> ((2 : Int32) &&& 31).toUInt32).toInt32) &&& (3 : Int32))), .val (.ref r1), .val (.ref r2), .val (.ref b3), .val (.ref r6), .val (.int (1 : Int32))] [(.int (x2 &&& (3 : Int32))), (.int x0), (.int (1 : Int32)), (.ref r6), (.int (1 : Int32))]) (fun _ _ A kq => XS.iloadN A hx rfl (hb hby at_93) rfl  kq) ?_
  refine gs (mkF m 95 #[.val (.int x0), .val (.int x1), .val (.int x2), .val (.int (x2 &&& (3 : Int32))), .val (.int (((x2.toUInt32 >>> ((2 : Int32) &&& 31).toUInt32).toInt32) &&& (3 : Int32))), .val (.ref r1), .val (.ref r2), .val (.ref b3), .val (.ref r6), .val (.int (1 : Int32))] [(.int x1), (.int (x2 &&& (3 : Int32))), (.int x0), (.int (1 : Int32)), (.ref r6), (.int (1 : Int32))]) (fun _ _ A kq => XS.iloadN A hx rfl (hb hby at_94) rfl  kq) ?_
  refine gs (mkF m 97 #[.val (.int x0), .val (.int x1), .val (.int x2), .val (.int (x2 &&& (3 : Int32))), .val (.int (((x2.toUInt32 >>> ((2 : Int32) &&& 31).toUInt32).toInt32) &&& (3 : Int32))), .val (.ref r1), .val (.ref r2), .val (.ref b3), .val (.ref r6), .val (.int (1 : Int32))] [(.int (((x2.toUInt32 >>> ((2 : Int32) &&& 31).toUInt32).toInt32) &&& (3 : Int32))), (.int x1), (.int (x2 &&& (3 : Int32))), (.int x0), (.int (1 : Int32)), (.ref r6), (.int (1 : Int32))]) (fun _ _ A kq => XS.iload A hx rfl (hb hby at_95) rfl  kq) ?_
  have f13 := (q6_0.keep K11 nin0 nin0)
  refine ginfo fun _ _ O12 => ?_
  refine gcallS (y := (⟨"com/example/limentinus/limentinus/core/KeyLayoutFencingKeyPinLaw", "at", "(Ljava/lang/String;IIIII)Z"⟩ : MethodName)) hx (ow hw 181 rfl) (ow hw 182 rfl) (ow hw 2 rfl) (ow hw 183 rfl) (by decide) (fun hZ H hEL => Pay.of_met (W := 1) (own_atw l Z a0 cx [] (r6) ((1 : Int32)) (x0) ((x2 &&& (3 : Int32))) (x1) ((((x2.toUInt32 >>> ((2 : Int32) &&& 31).toUInt32).toInt32) &&& (3 : Int32))) (t6) (1) vm11 h11 O12 f13 (own_and3 _) (own_and3 _) (by decide) rfl) (ow hw 183 rfl) (ow hw 2 rfl) (by decide) (by decide) hZ H hEL) 100 (argsL := [(.ref r6), (.int (1 : Int32)), (.int x0), (.int (x2 &&& (3 : Int32))), (.int x1), (.int (((x2.toUInt32 >>> ((2 : Int32) &&& 31).toUInt32).toInt32) &&& (3 : Int32)))]) (rest := [(.int (1 : Int32))]) (lenOf own_pd437 rfl) rfl rfl (Nat.le_of_eq rfl) (by rw [hml]; rfl) (hb hby at_97) rfl (by decide) (by decide) ?_
  rintro _ vm12 h12 C12 ⟨rfl, K12⟩
  have z12 := C12.2.1
  refine gat (mkF m 100 #[.val (.int x0), .val (.int x1), .val (.int x2), .val (.int (x2 &&& (3 : Int32))), .val (.int (((x2.toUInt32 >>> ((2 : Int32) &&& 31).toUInt32).toInt32) &&& (3 : Int32))), .val (.ref r1), .val (.ref r2), .val (.ref b3), .val (.ref r6), .val (.int (1 : Int32))] [(.int (1 : Int32)), (.int (1 : Int32))]) rfl ?_
  refine gs (mkF m 101 #[.val (.int x0), .val (.int x1), .val (.int x2), .val (.int (x2 &&& (3 : Int32))), .val (.int (((x2.toUInt32 >>> ((2 : Int32) &&& 31).toUInt32).toInt32) &&& (3 : Int32))), .val (.ref r1), .val (.ref r2), .val (.ref b3), .val (.ref r6), .val (.int (1 : Int32))] [(.int (1 : Int32))]) (fun _ _ A kq => XS.iand A hx rfl (hb hby at_100) rfl kq) ?_
  refine gs (mkF m 103 #[.val (.int x0), .val (.int x1), .val (.int x2), .val (.int (x2 &&& (3 : Int32))), .val (.int (((x2.toUInt32 >>> ((2 : Int32) &&& 31).toUInt32).toInt32) &&& (3 : Int32))), .val (.ref r1), .val (.ref r2), .val (.ref b3), .val (.ref r6), .val (.int (1 : Int32))] []) (fun _ _ A kq => XS.istore A hx rfl (hb hby at_101) rfl (l' := #[.val (.int x0), .val (.int x1), .val (.int x2), .val (.int (x2 &&& (3 : Int32))), .val (.int (((x2.toUInt32 >>> ((2 : Int32) &&& 31).toUInt32).toInt32) &&& (3 : Int32))), .val (.ref r1), .val (.ref r2), .val (.ref b3), .val (.ref r6), .val (.int (1 : Int32))]) rfl kq) ?_
  refine gs (mkF m 105 #[.val (.int x0), .val (.int x1), .val (.int x2), .val (.int (x2 &&& (3 : Int32))), .val (.int (((x2.toUInt32 >>> ((2 : Int32) &&& 31).toUInt32).toInt32) &&& (3 : Int32))), .val (.ref r1), .val (.ref r2), .val (.ref b3), .val (.ref r6), .val (.int (1 : Int32))] [(.int (1 : Int32))]) (fun _ _ A kq => XS.iload A hx rfl (hb hby at_103) rfl  kq) ?_
  refine gs (mkF m 107 #[.val (.int x0), .val (.int x1), .val (.int x2), .val (.int (x2 &&& (3 : Int32))), .val (.int (((x2.toUInt32 >>> ((2 : Int32) &&& 31).toUInt32).toInt32) &&& (3 : Int32))), .val (.ref r1), .val (.ref r2), .val (.ref b3), .val (.ref r6), .val (.int (1 : Int32))] [(.ref r6), (.int (1 : Int32))]) (fun _ _ A kq => XS.aload A hx rfl (hb hby at_105) rfl rfl kq) ?_
  refine gs (mkF m 108 #[.val (.int x0), .val (.int x1), .val (.int x2), .val (.int (x2 &&& (3 : Int32))), .val (.int (((x2.toUInt32 >>> ((2 : Int32) &&& 31).toUInt32).toInt32) &&& (3 : Int32))), .val (.ref r1), .val (.ref r2), .val (.ref b3), .val (.ref r6), .val (.int (1 : Int32))] [(.int (2 : Int32)), (.ref r6), (.int (1 : Int32))]) (fun _ _ A kq => XS.iconst A hx rfl (hb hby at_107) kq) ?_
  refine gs (mkF m 109 #[.val (.int x0), .val (.int x1), .val (.int x2), .val (.int (x2 &&& (3 : Int32))), .val (.int (((x2.toUInt32 >>> ((2 : Int32) &&& 31).toUInt32).toInt32) &&& (3 : Int32))), .val (.ref r1), .val (.ref r2), .val (.ref b3), .val (.ref r6), .val (.int (1 : Int32))] [(.int x0), (.int (2 : Int32)), (.ref r6), (.int (1 : Int32))]) (fun _ _ A kq => XS.iloadN A hx rfl (hb hby at_108) rfl  kq) ?_
  refine gs (mkF m 110 #[.val (.int x0), .val (.int x1), .val (.int x2), .val (.int (x2 &&& (3 : Int32))), .val (.int (((x2.toUInt32 >>> ((2 : Int32) &&& 31).toUInt32).toInt32) &&& (3 : Int32))), .val (.ref r1), .val (.ref r2), .val (.ref b3), .val (.ref r6), .val (.int (1 : Int32))] [(.int (x2 &&& (3 : Int32))), (.int x0), (.int (2 : Int32)), (.ref r6), (.int (1 : Int32))]) (fun _ _ A kq => XS.iloadN A hx rfl (hb hby at_109) rfl  kq) ?_
  refine gs (mkF m 111 #[.val (.int x0), .val (.int x1), .val (.int x2), .val (.int (x2 &&& (3 : Int32))), .val (.int (((x2.toUInt32 >>> ((2 : Int32) &&& 31).toUInt32).toInt32) &&& (3 : Int32))), .val (.ref r1), .val (.ref r2), .val (.ref b3), .val (.ref r6), .val (.int (1 : Int32))] [(.int x1), (.int (x2 &&& (3 : Int32))), (.int x0), (.int (2 : Int32)), (.ref r6), (.int (1 : Int32))]) (fun _ _ A kq => XS.iloadN A hx rfl (hb hby at_110) rfl  kq) ?_
  refine gs (mkF m 113 #[.val (.int x0), .val (.int x1), .val (.int x2), .val (.int (x2 &&& (3 : Int32))), .val (.int (((x2.toUInt32 >>> ((2 : Int32) &&& 31).toUInt32).toInt32) &&& (3 : Int32))), .val (.ref r1), .val (.ref r2), .val (.ref b3), .val (.ref r6), .val (.int (1 : Int32))] [(.int (((x2.toUInt32 >>> ((2 : Int32) &&& 31).toUInt32).toInt32) &&& (3 : Int32))), (.int x1), (.int (x2 &&& (3 : Int32))), (.int x0), (.int (2 : Int32)), (.ref r6), (.int (1 : Int32))]) (fun _ _ A kq => XS.iload A hx rfl (hb hby at_111) rfl  kq) ?_
  have f15 := (f13.keep K12 nin0 nin0)
  refine ginfo fun _ _ O14 => ?_
  refine gcallS (y := (⟨"com/example/limentinus/limentinus/core/KeyLayoutFencingKeyPinLaw", "at", "(Ljava/lang/String;IIIII)Z"⟩ : MethodName)) hx (ow hw 181 rfl) (ow hw 182 rfl) (ow hw 2 rfl) (ow hw 183 rfl) (by decide) (fun hZ H hEL => Pay.of_met (W := 1) (own_atw l Z a0 cx [] (r6) ((2 : Int32)) (x0) ((x2 &&& (3 : Int32))) (x1) ((((x2.toUInt32 >>> ((2 : Int32) &&& 31).toUInt32).toInt32) &&& (3 : Int32))) (t6) (2) vm12 h12 O14 f15 (own_and3 _) (own_and3 _) (by decide) rfl) (ow hw 183 rfl) (ow hw 2 rfl) (by decide) (by decide) hZ H hEL) 116 (argsL := [(.ref r6), (.int (2 : Int32)), (.int x0), (.int (x2 &&& (3 : Int32))), (.int x1), (.int (((x2.toUInt32 >>> ((2 : Int32) &&& 31).toUInt32).toInt32) &&& (3 : Int32)))]) (rest := [(.int (1 : Int32))]) (lenOf own_pd437 rfl) rfl rfl (Nat.le_of_eq rfl) (by rw [hml]; rfl) (hb hby at_113) rfl (by decide) (by decide) ?_
  rintro _ vm14 h14 C14 ⟨rfl, K14⟩
  have z14 := C14.2.1
  refine gat (mkF m 116 #[.val (.int x0), .val (.int x1), .val (.int x2), .val (.int (x2 &&& (3 : Int32))), .val (.int (((x2.toUInt32 >>> ((2 : Int32) &&& 31).toUInt32).toInt32) &&& (3 : Int32))), .val (.ref r1), .val (.ref r2), .val (.ref b3), .val (.ref r6), .val (.int (1 : Int32))] [(.int (1 : Int32)), (.int (1 : Int32))]) rfl ?_
  refine gs (mkF m 117 #[.val (.int x0), .val (.int x1), .val (.int x2), .val (.int (x2 &&& (3 : Int32))), .val (.int (((x2.toUInt32 >>> ((2 : Int32) &&& 31).toUInt32).toInt32) &&& (3 : Int32))), .val (.ref r1), .val (.ref r2), .val (.ref b3), .val (.ref r6), .val (.int (1 : Int32))] [(.int (1 : Int32))]) (fun _ _ A kq => XS.iand A hx rfl (hb hby at_116) rfl kq) ?_
  refine gs (mkF m 119 #[.val (.int x0), .val (.int x1), .val (.int x2), .val (.int (x2 &&& (3 : Int32))), .val (.int (((x2.toUInt32 >>> ((2 : Int32) &&& 31).toUInt32).toInt32) &&& (3 : Int32))), .val (.ref r1), .val (.ref r2), .val (.ref b3), .val (.ref r6), .val (.int (1 : Int32))] []) (fun _ _ A kq => XS.istore A hx rfl (hb hby at_117) rfl (l' := #[.val (.int x0), .val (.int x1), .val (.int x2), .val (.int (x2 &&& (3 : Int32))), .val (.int (((x2.toUInt32 >>> ((2 : Int32) &&& 31).toUInt32).toInt32) &&& (3 : Int32))), .val (.ref r1), .val (.ref r2), .val (.ref b3), .val (.ref r6), .val (.int (1 : Int32))]) rfl kq) ?_
  refine gs (mkF m 121 #[.val (.int x0), .val (.int x1), .val (.int x2), .val (.int (x2 &&& (3 : Int32))), .val (.int (((x2.toUInt32 >>> ((2 : Int32) &&& 31).toUInt32).toInt32) &&& (3 : Int32))), .val (.ref r1), .val (.ref r2), .val (.ref b3), .val (.ref r6), .val (.int (1 : Int32))] [(.int (1 : Int32))]) (fun _ _ A kq => XS.iload A hx rfl (hb hby at_119) rfl  kq) ?_
  refine gs (mkF m 123 #[.val (.int x0), .val (.int x1), .val (.int x2), .val (.int (x2 &&& (3 : Int32))), .val (.int (((x2.toUInt32 >>> ((2 : Int32) &&& 31).toUInt32).toInt32) &&& (3 : Int32))), .val (.ref r1), .val (.ref r2), .val (.ref b3), .val (.ref r6), .val (.int (1 : Int32))] [(.ref r6), (.int (1 : Int32))]) (fun _ _ A kq => XS.aload A hx rfl (hb hby at_121) rfl rfl kq) ?_
  refine gs (mkF m 124 #[.val (.int x0), .val (.int x1), .val (.int x2), .val (.int (x2 &&& (3 : Int32))), .val (.int (((x2.toUInt32 >>> ((2 : Int32) &&& 31).toUInt32).toInt32) &&& (3 : Int32))), .val (.ref r1), .val (.ref r2), .val (.ref b3), .val (.ref r6), .val (.int (1 : Int32))] [(.int (3 : Int32)), (.ref r6), (.int (1 : Int32))]) (fun _ _ A kq => XS.iconst A hx rfl (hb hby at_123) kq) ?_
  refine gs (mkF m 125 #[.val (.int x0), .val (.int x1), .val (.int x2), .val (.int (x2 &&& (3 : Int32))), .val (.int (((x2.toUInt32 >>> ((2 : Int32) &&& 31).toUInt32).toInt32) &&& (3 : Int32))), .val (.ref r1), .val (.ref r2), .val (.ref b3), .val (.ref r6), .val (.int (1 : Int32))] [(.int x0), (.int (3 : Int32)), (.ref r6), (.int (1 : Int32))]) (fun _ _ A kq => XS.iloadN A hx rfl (hb hby at_124) rfl  kq) ?_
  refine gs (mkF m 126 #[.val (.int x0), .val (.int x1), .val (.int x2), .val (.int (x2 &&& (3 : Int32))), .val (.int (((x2.toUInt32 >>> ((2 : Int32) &&& 31).toUInt32).toInt32) &&& (3 : Int32))), .val (.ref r1), .val (.ref r2), .val (.ref b3), .val (.ref r6), .val (.int (1 : Int32))] [(.int (x2 &&& (3 : Int32))), (.int x0), (.int (3 : Int32)), (.ref r6), (.int (1 : Int32))]) (fun _ _ A kq => XS.iloadN A hx rfl (hb hby at_125) rfl  kq) ?_
  refine gs (mkF m 127 #[.val (.int x0), .val (.int x1), .val (.int x2), .val (.int (x2 &&& (3 : Int32))), .val (.int (((x2.toUInt32 >>> ((2 : Int32) &&& 31).toUInt32).toInt32) &&& (3 : Int32))), .val (.ref r1), .val (.ref r2), .val (.ref b3), .val (.ref r6), .val (.int (1 : Int32))] [(.int x1), (.int (x2 &&& (3 : Int32))), (.int x0), (.int (3 : Int32)), (.ref r6), (.int (1 : Int32))]) (fun _ _ A kq => XS.iloadN A hx rfl (hb hby at_126) rfl  kq) ?_
  refine gs (mkF m 129 #[.val (.int x0), .val (.int x1), .val (.int x2), .val (.int (x2 &&& (3 : Int32))), .val (.int (((x2.toUInt32 >>> ((2 : Int32) &&& 31).toUInt32).toInt32) &&& (3 : Int32))), .val (.ref r1), .val (.ref r2), .val (.ref b3), .val (.ref r6), .val (.int (1 : Int32))] [(.int (((x2.toUInt32 >>> ((2 : Int32) &&& 31).toUInt32).toInt32) &&& (3 : Int32))), (.int x1), (.int (x2 &&& (3 : Int32))), (.int x0), (.int (3 : Int32)), (.ref r6), (.int (1 : Int32))]) (fun _ _ A kq => XS.iload A hx rfl (hb hby at_127) rfl  kq) ?_
  have f17 := (f15.keep K14 nin0 nin0)
  refine ginfo fun _ _ O16 => ?_
  refine gcallS (y := (⟨"com/example/limentinus/limentinus/core/KeyLayoutFencingKeyPinLaw", "at", "(Ljava/lang/String;IIIII)Z"⟩ : MethodName)) hx (ow hw 181 rfl) (ow hw 182 rfl) (ow hw 2 rfl) (ow hw 183 rfl) (by decide) (fun hZ H hEL => Pay.of_met (W := 1) (own_atw l Z a0 cx [] (r6) ((3 : Int32)) (x0) ((x2 &&& (3 : Int32))) (x1) ((((x2.toUInt32 >>> ((2 : Int32) &&& 31).toUInt32).toInt32) &&& (3 : Int32))) (t6) (3) vm14 h14 O16 f17 (own_and3 _) (own_and3 _) (by decide) rfl) (ow hw 183 rfl) (ow hw 2 rfl) (by decide) (by decide) hZ H hEL) 132 (argsL := [(.ref r6), (.int (3 : Int32)), (.int x0), (.int (x2 &&& (3 : Int32))), (.int x1), (.int (((x2.toUInt32 >>> ((2 : Int32) &&& 31).toUInt32).toInt32) &&& (3 : Int32)))]) (rest := [(.int (1 : Int32))]) (lenOf own_pd437 rfl) rfl rfl (Nat.le_of_eq rfl) (by rw [hml]; rfl) (hb hby at_129) rfl (by decide) (by decide) ?_
  rintro _ vm16 h16 C16 ⟨rfl, K16⟩
  have z16 := C16.2.1
  refine gat (mkF m 132 #[.val (.int x0), .val (.int x1), .val (.int x2), .val (.int (x2 &&& (3 : Int32))), .val (.int (((x2.toUInt32 >>> ((2 : Int32) &&& 31).toUInt32).toInt32) &&& (3 : Int32))), .val (.ref r1), .val (.ref r2), .val (.ref b3), .val (.ref r6), .val (.int (1 : Int32))] [(.int (1 : Int32)), (.int (1 : Int32))]) rfl ?_
  refine gs (mkF m 133 #[.val (.int x0), .val (.int x1), .val (.int x2), .val (.int (x2 &&& (3 : Int32))), .val (.int (((x2.toUInt32 >>> ((2 : Int32) &&& 31).toUInt32).toInt32) &&& (3 : Int32))), .val (.ref r1), .val (.ref r2), .val (.ref b3), .val (.ref r6), .val (.int (1 : Int32))] [(.int (1 : Int32))]) (fun _ _ A kq => XS.iand A hx rfl (hb hby at_132) rfl kq) ?_
  refine gs (mkF m 135 #[.val (.int x0), .val (.int x1), .val (.int x2), .val (.int (x2 &&& (3 : Int32))), .val (.int (((x2.toUInt32 >>> ((2 : Int32) &&& 31).toUInt32).toInt32) &&& (3 : Int32))), .val (.ref r1), .val (.ref r2), .val (.ref b3), .val (.ref r6), .val (.int (1 : Int32))] []) (fun _ _ A kq => XS.istore A hx rfl (hb hby at_133) rfl (l' := #[.val (.int x0), .val (.int x1), .val (.int x2), .val (.int (x2 &&& (3 : Int32))), .val (.int (((x2.toUInt32 >>> ((2 : Int32) &&& 31).toUInt32).toInt32) &&& (3 : Int32))), .val (.ref r1), .val (.ref r2), .val (.ref b3), .val (.ref r6), .val (.int (1 : Int32))]) rfl kq) ?_
  refine gs (mkF m 137 #[.val (.int x0), .val (.int x1), .val (.int x2), .val (.int (x2 &&& (3 : Int32))), .val (.int (((x2.toUInt32 >>> ((2 : Int32) &&& 31).toUInt32).toInt32) &&& (3 : Int32))), .val (.ref r1), .val (.ref r2), .val (.ref b3), .val (.ref r6), .val (.int (1 : Int32))] [(.int (1 : Int32))]) (fun _ _ A kq => XS.iload A hx rfl (hb hby at_135) rfl  kq) ?_
  refine gs (mkF m 139 #[.val (.int x0), .val (.int x1), .val (.int x2), .val (.int (x2 &&& (3 : Int32))), .val (.int (((x2.toUInt32 >>> ((2 : Int32) &&& 31).toUInt32).toInt32) &&& (3 : Int32))), .val (.ref r1), .val (.ref r2), .val (.ref b3), .val (.ref r6), .val (.int (1 : Int32))] [(.ref r6), (.int (1 : Int32))]) (fun _ _ A kq => XS.aload A hx rfl (hb hby at_137) rfl rfl kq) ?_
  refine gs (mkF m 140 #[.val (.int x0), .val (.int x1), .val (.int x2), .val (.int (x2 &&& (3 : Int32))), .val (.int (((x2.toUInt32 >>> ((2 : Int32) &&& 31).toUInt32).toInt32) &&& (3 : Int32))), .val (.ref r1), .val (.ref r2), .val (.ref b3), .val (.ref r6), .val (.int (1 : Int32))] [(.int (4 : Int32)), (.ref r6), (.int (1 : Int32))]) (fun _ _ A kq => XS.iconst A hx rfl (hb hby at_139) kq) ?_
  refine gs (mkF m 141 #[.val (.int x0), .val (.int x1), .val (.int x2), .val (.int (x2 &&& (3 : Int32))), .val (.int (((x2.toUInt32 >>> ((2 : Int32) &&& 31).toUInt32).toInt32) &&& (3 : Int32))), .val (.ref r1), .val (.ref r2), .val (.ref b3), .val (.ref r6), .val (.int (1 : Int32))] [(.int x0), (.int (4 : Int32)), (.ref r6), (.int (1 : Int32))]) (fun _ _ A kq => XS.iloadN A hx rfl (hb hby at_140) rfl  kq) ?_
  refine gs (mkF m 142 #[.val (.int x0), .val (.int x1), .val (.int x2), .val (.int (x2 &&& (3 : Int32))), .val (.int (((x2.toUInt32 >>> ((2 : Int32) &&& 31).toUInt32).toInt32) &&& (3 : Int32))), .val (.ref r1), .val (.ref r2), .val (.ref b3), .val (.ref r6), .val (.int (1 : Int32))] [(.int (x2 &&& (3 : Int32))), (.int x0), (.int (4 : Int32)), (.ref r6), (.int (1 : Int32))]) (fun _ _ A kq => XS.iloadN A hx rfl (hb hby at_141) rfl  kq) ?_
  refine gs (mkF m 143 #[.val (.int x0), .val (.int x1), .val (.int x2), .val (.int (x2 &&& (3 : Int32))), .val (.int (((x2.toUInt32 >>> ((2 : Int32) &&& 31).toUInt32).toInt32) &&& (3 : Int32))), .val (.ref r1), .val (.ref r2), .val (.ref b3), .val (.ref r6), .val (.int (1 : Int32))] [(.int x1), (.int (x2 &&& (3 : Int32))), (.int x0), (.int (4 : Int32)), (.ref r6), (.int (1 : Int32))]) (fun _ _ A kq => XS.iloadN A hx rfl (hb hby at_142) rfl  kq) ?_
  refine gs (mkF m 145 #[.val (.int x0), .val (.int x1), .val (.int x2), .val (.int (x2 &&& (3 : Int32))), .val (.int (((x2.toUInt32 >>> ((2 : Int32) &&& 31).toUInt32).toInt32) &&& (3 : Int32))), .val (.ref r1), .val (.ref r2), .val (.ref b3), .val (.ref r6), .val (.int (1 : Int32))] [(.int (((x2.toUInt32 >>> ((2 : Int32) &&& 31).toUInt32).toInt32) &&& (3 : Int32))), (.int x1), (.int (x2 &&& (3 : Int32))), (.int x0), (.int (4 : Int32)), (.ref r6), (.int (1 : Int32))]) (fun _ _ A kq => XS.iload A hx rfl (hb hby at_143) rfl  kq) ?_
  have f19 := (f17.keep K16 nin0 nin0)
  refine ginfo fun _ _ O18 => ?_
  refine gcallS (y := (⟨"com/example/limentinus/limentinus/core/KeyLayoutFencingKeyPinLaw", "at", "(Ljava/lang/String;IIIII)Z"⟩ : MethodName)) hx (ow hw 181 rfl) (ow hw 182 rfl) (ow hw 2 rfl) (ow hw 183 rfl) (by decide) (fun hZ H hEL => Pay.of_met (W := 1) (own_atw l Z a0 cx [] (r6) ((4 : Int32)) (x0) ((x2 &&& (3 : Int32))) (x1) ((((x2.toUInt32 >>> ((2 : Int32) &&& 31).toUInt32).toInt32) &&& (3 : Int32))) (t6) (4) vm16 h16 O18 f19 (own_and3 _) (own_and3 _) (by decide) rfl) (ow hw 183 rfl) (ow hw 2 rfl) (by decide) (by decide) hZ H hEL) 148 (argsL := [(.ref r6), (.int (4 : Int32)), (.int x0), (.int (x2 &&& (3 : Int32))), (.int x1), (.int (((x2.toUInt32 >>> ((2 : Int32) &&& 31).toUInt32).toInt32) &&& (3 : Int32)))]) (rest := [(.int (1 : Int32))]) (lenOf own_pd437 rfl) rfl rfl (Nat.le_of_eq rfl) (by rw [hml]; rfl) (hb hby at_145) rfl (by decide) (by decide) ?_
  rintro _ vm18 h18 C18 ⟨rfl, K18⟩
  have z18 := C18.2.1
  refine gat (mkF m 148 #[.val (.int x0), .val (.int x1), .val (.int x2), .val (.int (x2 &&& (3 : Int32))), .val (.int (((x2.toUInt32 >>> ((2 : Int32) &&& 31).toUInt32).toInt32) &&& (3 : Int32))), .val (.ref r1), .val (.ref r2), .val (.ref b3), .val (.ref r6), .val (.int (1 : Int32))] [(.int (1 : Int32)), (.int (1 : Int32))]) rfl ?_
  refine gs (mkF m 149 #[.val (.int x0), .val (.int x1), .val (.int x2), .val (.int (x2 &&& (3 : Int32))), .val (.int (((x2.toUInt32 >>> ((2 : Int32) &&& 31).toUInt32).toInt32) &&& (3 : Int32))), .val (.ref r1), .val (.ref r2), .val (.ref b3), .val (.ref r6), .val (.int (1 : Int32))] [(.int (1 : Int32))]) (fun _ _ A kq => XS.iand A hx rfl (hb hby at_148) rfl kq) ?_
  refine gs (mkF m 151 #[.val (.int x0), .val (.int x1), .val (.int x2), .val (.int (x2 &&& (3 : Int32))), .val (.int (((x2.toUInt32 >>> ((2 : Int32) &&& 31).toUInt32).toInt32) &&& (3 : Int32))), .val (.ref r1), .val (.ref r2), .val (.ref b3), .val (.ref r6), .val (.int (1 : Int32))] []) (fun _ _ A kq => XS.istore A hx rfl (hb hby at_149) rfl (l' := #[.val (.int x0), .val (.int x1), .val (.int x2), .val (.int (x2 &&& (3 : Int32))), .val (.int (((x2.toUInt32 >>> ((2 : Int32) &&& 31).toUInt32).toInt32) &&& (3 : Int32))), .val (.ref r1), .val (.ref r2), .val (.ref b3), .val (.ref r6), .val (.int (1 : Int32))]) rfl kq) ?_
  refine gs (mkF m 153 #[.val (.int x0), .val (.int x1), .val (.int x2), .val (.int (x2 &&& (3 : Int32))), .val (.int (((x2.toUInt32 >>> ((2 : Int32) &&& 31).toUInt32).toInt32) &&& (3 : Int32))), .val (.ref r1), .val (.ref r2), .val (.ref b3), .val (.ref r6), .val (.int (1 : Int32))] [(.int (1 : Int32))]) (fun _ _ A kq => XS.iload A hx rfl (hb hby at_151) rfl  kq) ?_
  refine gs (mkF m 155 #[.val (.int x0), .val (.int x1), .val (.int x2), .val (.int (x2 &&& (3 : Int32))), .val (.int (((x2.toUInt32 >>> ((2 : Int32) &&& 31).toUInt32).toInt32) &&& (3 : Int32))), .val (.ref r1), .val (.ref r2), .val (.ref b3), .val (.ref r6), .val (.int (1 : Int32))] [(.ref r6), (.int (1 : Int32))]) (fun _ _ A kq => XS.aload A hx rfl (hb hby at_153) rfl rfl kq) ?_
  refine gs (mkF m 156 #[.val (.int x0), .val (.int x1), .val (.int x2), .val (.int (x2 &&& (3 : Int32))), .val (.int (((x2.toUInt32 >>> ((2 : Int32) &&& 31).toUInt32).toInt32) &&& (3 : Int32))), .val (.ref r1), .val (.ref r2), .val (.ref b3), .val (.ref r6), .val (.int (1 : Int32))] [(.int (5 : Int32)), (.ref r6), (.int (1 : Int32))]) (fun _ _ A kq => XS.iconst A hx rfl (hb hby at_155) kq) ?_
  refine gs (mkF m 157 #[.val (.int x0), .val (.int x1), .val (.int x2), .val (.int (x2 &&& (3 : Int32))), .val (.int (((x2.toUInt32 >>> ((2 : Int32) &&& 31).toUInt32).toInt32) &&& (3 : Int32))), .val (.ref r1), .val (.ref r2), .val (.ref b3), .val (.ref r6), .val (.int (1 : Int32))] [(.int x0), (.int (5 : Int32)), (.ref r6), (.int (1 : Int32))]) (fun _ _ A kq => XS.iloadN A hx rfl (hb hby at_156) rfl  kq) ?_
  refine gs (mkF m 158 #[.val (.int x0), .val (.int x1), .val (.int x2), .val (.int (x2 &&& (3 : Int32))), .val (.int (((x2.toUInt32 >>> ((2 : Int32) &&& 31).toUInt32).toInt32) &&& (3 : Int32))), .val (.ref r1), .val (.ref r2), .val (.ref b3), .val (.ref r6), .val (.int (1 : Int32))] [(.int (x2 &&& (3 : Int32))), (.int x0), (.int (5 : Int32)), (.ref r6), (.int (1 : Int32))]) (fun _ _ A kq => XS.iloadN A hx rfl (hb hby at_157) rfl  kq) ?_
  refine gs (mkF m 159 #[.val (.int x0), .val (.int x1), .val (.int x2), .val (.int (x2 &&& (3 : Int32))), .val (.int (((x2.toUInt32 >>> ((2 : Int32) &&& 31).toUInt32).toInt32) &&& (3 : Int32))), .val (.ref r1), .val (.ref r2), .val (.ref b3), .val (.ref r6), .val (.int (1 : Int32))] [(.int x1), (.int (x2 &&& (3 : Int32))), (.int x0), (.int (5 : Int32)), (.ref r6), (.int (1 : Int32))]) (fun _ _ A kq => XS.iloadN A hx rfl (hb hby at_158) rfl  kq) ?_
  refine gs (mkF m 161 #[.val (.int x0), .val (.int x1), .val (.int x2), .val (.int (x2 &&& (3 : Int32))), .val (.int (((x2.toUInt32 >>> ((2 : Int32) &&& 31).toUInt32).toInt32) &&& (3 : Int32))), .val (.ref r1), .val (.ref r2), .val (.ref b3), .val (.ref r6), .val (.int (1 : Int32))] [(.int (((x2.toUInt32 >>> ((2 : Int32) &&& 31).toUInt32).toInt32) &&& (3 : Int32))), (.int x1), (.int (x2 &&& (3 : Int32))), (.int x0), (.int (5 : Int32)), (.ref r6), (.int (1 : Int32))]) (fun _ _ A kq => XS.iload A hx rfl (hb hby at_159) rfl  kq) ?_
  have f21 := (f19.keep K18 nin0 nin0)
  refine ginfo fun _ _ O20 => ?_
  refine gcallS (y := (⟨"com/example/limentinus/limentinus/core/KeyLayoutFencingKeyPinLaw", "at", "(Ljava/lang/String;IIIII)Z"⟩ : MethodName)) hx (ow hw 181 rfl) (ow hw 182 rfl) (ow hw 2 rfl) (ow hw 183 rfl) (by decide) (fun hZ H hEL => Pay.of_met (W := 1) (own_atw l Z a0 cx [] (r6) ((5 : Int32)) (x0) ((x2 &&& (3 : Int32))) (x1) ((((x2.toUInt32 >>> ((2 : Int32) &&& 31).toUInt32).toInt32) &&& (3 : Int32))) (t6) (5) vm18 h18 O20 f21 (own_and3 _) (own_and3 _) (by decide) rfl) (ow hw 183 rfl) (ow hw 2 rfl) (by decide) (by decide) hZ H hEL) 164 (argsL := [(.ref r6), (.int (5 : Int32)), (.int x0), (.int (x2 &&& (3 : Int32))), (.int x1), (.int (((x2.toUInt32 >>> ((2 : Int32) &&& 31).toUInt32).toInt32) &&& (3 : Int32)))]) (rest := [(.int (1 : Int32))]) (lenOf own_pd437 rfl) rfl rfl (Nat.le_of_eq rfl) (by rw [hml]; rfl) (hb hby at_161) rfl (by decide) (by decide) ?_
  rintro _ vm20 h20 C20 ⟨rfl, K20⟩
  have z20 := C20.2.1
  refine gat (mkF m 164 #[.val (.int x0), .val (.int x1), .val (.int x2), .val (.int (x2 &&& (3 : Int32))), .val (.int (((x2.toUInt32 >>> ((2 : Int32) &&& 31).toUInt32).toInt32) &&& (3 : Int32))), .val (.ref r1), .val (.ref r2), .val (.ref b3), .val (.ref r6), .val (.int (1 : Int32))] [(.int (1 : Int32)), (.int (1 : Int32))]) rfl ?_
  refine gs (mkF m 165 #[.val (.int x0), .val (.int x1), .val (.int x2), .val (.int (x2 &&& (3 : Int32))), .val (.int (((x2.toUInt32 >>> ((2 : Int32) &&& 31).toUInt32).toInt32) &&& (3 : Int32))), .val (.ref r1), .val (.ref r2), .val (.ref b3), .val (.ref r6), .val (.int (1 : Int32))] [(.int (1 : Int32))]) (fun _ _ A kq => XS.iand A hx rfl (hb hby at_164) rfl kq) ?_
  refine gs (mkF m 167 #[.val (.int x0), .val (.int x1), .val (.int x2), .val (.int (x2 &&& (3 : Int32))), .val (.int (((x2.toUInt32 >>> ((2 : Int32) &&& 31).toUInt32).toInt32) &&& (3 : Int32))), .val (.ref r1), .val (.ref r2), .val (.ref b3), .val (.ref r6), .val (.int (1 : Int32))] []) (fun _ _ A kq => XS.istore A hx rfl (hb hby at_165) rfl (l' := #[.val (.int x0), .val (.int x1), .val (.int x2), .val (.int (x2 &&& (3 : Int32))), .val (.int (((x2.toUInt32 >>> ((2 : Int32) &&& 31).toUInt32).toInt32) &&& (3 : Int32))), .val (.ref r1), .val (.ref r2), .val (.ref b3), .val (.ref r6), .val (.int (1 : Int32))]) rfl kq) ?_
  refine gs (mkF m 169 #[.val (.int x0), .val (.int x1), .val (.int x2), .val (.int (x2 &&& (3 : Int32))), .val (.int (((x2.toUInt32 >>> ((2 : Int32) &&& 31).toUInt32).toInt32) &&& (3 : Int32))), .val (.ref r1), .val (.ref r2), .val (.ref b3), .val (.ref r6), .val (.int (1 : Int32))] [(.int (1 : Int32))]) (fun _ _ A kq => XS.iload A hx rfl (hb hby at_167) rfl  kq) ?_
  refine gs (mkF m 171 #[.val (.int x0), .val (.int x1), .val (.int x2), .val (.int (x2 &&& (3 : Int32))), .val (.int (((x2.toUInt32 >>> ((2 : Int32) &&& 31).toUInt32).toInt32) &&& (3 : Int32))), .val (.ref r1), .val (.ref r2), .val (.ref b3), .val (.ref r6), .val (.int (1 : Int32))] [(.ref r6), (.int (1 : Int32))]) (fun _ _ A kq => XS.aload A hx rfl (hb hby at_169) rfl rfl kq) ?_
  refine gs (mkF m 173 #[.val (.int x0), .val (.int x1), .val (.int x2), .val (.int (x2 &&& (3 : Int32))), .val (.int (((x2.toUInt32 >>> ((2 : Int32) &&& 31).toUInt32).toInt32) &&& (3 : Int32))), .val (.ref r1), .val (.ref r2), .val (.ref b3), .val (.ref r6), .val (.int (1 : Int32))] [(.int (6 : Int32)), (.ref r6), (.int (1 : Int32))]) (fun _ _ A kq => XS.bipush A hx rfl (hb hby at_171) kq) ?_
  refine gs (mkF m 174 #[.val (.int x0), .val (.int x1), .val (.int x2), .val (.int (x2 &&& (3 : Int32))), .val (.int (((x2.toUInt32 >>> ((2 : Int32) &&& 31).toUInt32).toInt32) &&& (3 : Int32))), .val (.ref r1), .val (.ref r2), .val (.ref b3), .val (.ref r6), .val (.int (1 : Int32))] [(.int x0), (.int (6 : Int32)), (.ref r6), (.int (1 : Int32))]) (fun _ _ A kq => XS.iloadN A hx rfl (hb hby at_173) rfl  kq) ?_
  refine gs (mkF m 175 #[.val (.int x0), .val (.int x1), .val (.int x2), .val (.int (x2 &&& (3 : Int32))), .val (.int (((x2.toUInt32 >>> ((2 : Int32) &&& 31).toUInt32).toInt32) &&& (3 : Int32))), .val (.ref r1), .val (.ref r2), .val (.ref b3), .val (.ref r6), .val (.int (1 : Int32))] [(.int (x2 &&& (3 : Int32))), (.int x0), (.int (6 : Int32)), (.ref r6), (.int (1 : Int32))]) (fun _ _ A kq => XS.iloadN A hx rfl (hb hby at_174) rfl  kq) ?_
  refine gs (mkF m 176 #[.val (.int x0), .val (.int x1), .val (.int x2), .val (.int (x2 &&& (3 : Int32))), .val (.int (((x2.toUInt32 >>> ((2 : Int32) &&& 31).toUInt32).toInt32) &&& (3 : Int32))), .val (.ref r1), .val (.ref r2), .val (.ref b3), .val (.ref r6), .val (.int (1 : Int32))] [(.int x1), (.int (x2 &&& (3 : Int32))), (.int x0), (.int (6 : Int32)), (.ref r6), (.int (1 : Int32))]) (fun _ _ A kq => XS.iloadN A hx rfl (hb hby at_175) rfl  kq) ?_
  refine gs (mkF m 178 #[.val (.int x0), .val (.int x1), .val (.int x2), .val (.int (x2 &&& (3 : Int32))), .val (.int (((x2.toUInt32 >>> ((2 : Int32) &&& 31).toUInt32).toInt32) &&& (3 : Int32))), .val (.ref r1), .val (.ref r2), .val (.ref b3), .val (.ref r6), .val (.int (1 : Int32))] [(.int (((x2.toUInt32 >>> ((2 : Int32) &&& 31).toUInt32).toInt32) &&& (3 : Int32))), (.int x1), (.int (x2 &&& (3 : Int32))), (.int x0), (.int (6 : Int32)), (.ref r6), (.int (1 : Int32))]) (fun _ _ A kq => XS.iload A hx rfl (hb hby at_176) rfl  kq) ?_
  have f23 := (f21.keep K20 nin0 nin0)
  refine ginfo fun _ _ O22 => ?_
  refine gcallS (y := (⟨"com/example/limentinus/limentinus/core/KeyLayoutFencingKeyPinLaw", "at", "(Ljava/lang/String;IIIII)Z"⟩ : MethodName)) hx (ow hw 181 rfl) (ow hw 182 rfl) (ow hw 2 rfl) (ow hw 183 rfl) (by decide) (fun hZ H hEL => Pay.of_met (W := 1) (own_atw l Z a0 cx [] (r6) ((6 : Int32)) (x0) ((x2 &&& (3 : Int32))) (x1) ((((x2.toUInt32 >>> ((2 : Int32) &&& 31).toUInt32).toInt32) &&& (3 : Int32))) (t6) (6) vm20 h20 O22 f23 (own_and3 _) (own_and3 _) (by decide) rfl) (ow hw 183 rfl) (ow hw 2 rfl) (by decide) (by decide) hZ H hEL) 181 (argsL := [(.ref r6), (.int (6 : Int32)), (.int x0), (.int (x2 &&& (3 : Int32))), (.int x1), (.int (((x2.toUInt32 >>> ((2 : Int32) &&& 31).toUInt32).toInt32) &&& (3 : Int32)))]) (rest := [(.int (1 : Int32))]) (lenOf own_pd437 rfl) rfl rfl (Nat.le_of_eq rfl) (by rw [hml]; rfl) (hb hby at_178) rfl (by decide) (by decide) ?_
  rintro _ vm22 h22 C22 ⟨rfl, K22⟩
  have z22 := C22.2.1
  refine gat (mkF m 181 #[.val (.int x0), .val (.int x1), .val (.int x2), .val (.int (x2 &&& (3 : Int32))), .val (.int (((x2.toUInt32 >>> ((2 : Int32) &&& 31).toUInt32).toInt32) &&& (3 : Int32))), .val (.ref r1), .val (.ref r2), .val (.ref b3), .val (.ref r6), .val (.int (1 : Int32))] [(.int (1 : Int32)), (.int (1 : Int32))]) rfl ?_
  refine gs (mkF m 182 #[.val (.int x0), .val (.int x1), .val (.int x2), .val (.int (x2 &&& (3 : Int32))), .val (.int (((x2.toUInt32 >>> ((2 : Int32) &&& 31).toUInt32).toInt32) &&& (3 : Int32))), .val (.ref r1), .val (.ref r2), .val (.ref b3), .val (.ref r6), .val (.int (1 : Int32))] [(.int (1 : Int32))]) (fun _ _ A kq => XS.iand A hx rfl (hb hby at_181) rfl kq) ?_
  refine gs (mkF m 184 #[.val (.int x0), .val (.int x1), .val (.int x2), .val (.int (x2 &&& (3 : Int32))), .val (.int (((x2.toUInt32 >>> ((2 : Int32) &&& 31).toUInt32).toInt32) &&& (3 : Int32))), .val (.ref r1), .val (.ref r2), .val (.ref b3), .val (.ref r6), .val (.int (1 : Int32))] []) (fun _ _ A kq => XS.istore A hx rfl (hb hby at_182) rfl (l' := #[.val (.int x0), .val (.int x1), .val (.int x2), .val (.int (x2 &&& (3 : Int32))), .val (.int (((x2.toUInt32 >>> ((2 : Int32) &&& 31).toUInt32).toInt32) &&& (3 : Int32))), .val (.ref r1), .val (.ref r2), .val (.ref b3), .val (.ref r6), .val (.int (1 : Int32))]) rfl kq) ?_
  refine gs (mkF m 186 #[.val (.int x0), .val (.int x1), .val (.int x2), .val (.int (x2 &&& (3 : Int32))), .val (.int (((x2.toUInt32 >>> ((2 : Int32) &&& 31).toUInt32).toInt32) &&& (3 : Int32))), .val (.ref r1), .val (.ref r2), .val (.ref b3), .val (.ref r6), .val (.int (1 : Int32))] [(.int (1 : Int32))]) (fun _ _ A kq => XS.iload A hx rfl (hb hby at_184) rfl  kq) ?_
  refine gs (mkF m 188 #[.val (.int x0), .val (.int x1), .val (.int x2), .val (.int (x2 &&& (3 : Int32))), .val (.int (((x2.toUInt32 >>> ((2 : Int32) &&& 31).toUInt32).toInt32) &&& (3 : Int32))), .val (.ref r1), .val (.ref r2), .val (.ref b3), .val (.ref r6), .val (.int (1 : Int32))] [(.ref r6), (.int (1 : Int32))]) (fun _ _ A kq => XS.aload A hx rfl (hb hby at_186) rfl rfl kq) ?_
  refine gs (mkF m 190 #[.val (.int x0), .val (.int x1), .val (.int x2), .val (.int (x2 &&& (3 : Int32))), .val (.int (((x2.toUInt32 >>> ((2 : Int32) &&& 31).toUInt32).toInt32) &&& (3 : Int32))), .val (.ref r1), .val (.ref r2), .val (.ref b3), .val (.ref r6), .val (.int (1 : Int32))] [(.int (7 : Int32)), (.ref r6), (.int (1 : Int32))]) (fun _ _ A kq => XS.bipush A hx rfl (hb hby at_188) kq) ?_
  refine gs (mkF m 191 #[.val (.int x0), .val (.int x1), .val (.int x2), .val (.int (x2 &&& (3 : Int32))), .val (.int (((x2.toUInt32 >>> ((2 : Int32) &&& 31).toUInt32).toInt32) &&& (3 : Int32))), .val (.ref r1), .val (.ref r2), .val (.ref b3), .val (.ref r6), .val (.int (1 : Int32))] [(.int x0), (.int (7 : Int32)), (.ref r6), (.int (1 : Int32))]) (fun _ _ A kq => XS.iloadN A hx rfl (hb hby at_190) rfl  kq) ?_
  refine gs (mkF m 192 #[.val (.int x0), .val (.int x1), .val (.int x2), .val (.int (x2 &&& (3 : Int32))), .val (.int (((x2.toUInt32 >>> ((2 : Int32) &&& 31).toUInt32).toInt32) &&& (3 : Int32))), .val (.ref r1), .val (.ref r2), .val (.ref b3), .val (.ref r6), .val (.int (1 : Int32))] [(.int (x2 &&& (3 : Int32))), (.int x0), (.int (7 : Int32)), (.ref r6), (.int (1 : Int32))]) (fun _ _ A kq => XS.iloadN A hx rfl (hb hby at_191) rfl  kq) ?_
  refine gs (mkF m 193 #[.val (.int x0), .val (.int x1), .val (.int x2), .val (.int (x2 &&& (3 : Int32))), .val (.int (((x2.toUInt32 >>> ((2 : Int32) &&& 31).toUInt32).toInt32) &&& (3 : Int32))), .val (.ref r1), .val (.ref r2), .val (.ref b3), .val (.ref r6), .val (.int (1 : Int32))] [(.int x1), (.int (x2 &&& (3 : Int32))), (.int x0), (.int (7 : Int32)), (.ref r6), (.int (1 : Int32))]) (fun _ _ A kq => XS.iloadN A hx rfl (hb hby at_192) rfl  kq) ?_
  refine gs (mkF m 195 #[.val (.int x0), .val (.int x1), .val (.int x2), .val (.int (x2 &&& (3 : Int32))), .val (.int (((x2.toUInt32 >>> ((2 : Int32) &&& 31).toUInt32).toInt32) &&& (3 : Int32))), .val (.ref r1), .val (.ref r2), .val (.ref b3), .val (.ref r6), .val (.int (1 : Int32))] [(.int (((x2.toUInt32 >>> ((2 : Int32) &&& 31).toUInt32).toInt32) &&& (3 : Int32))), (.int x1), (.int (x2 &&& (3 : Int32))), (.int x0), (.int (7 : Int32)), (.ref r6), (.int (1 : Int32))]) (fun _ _ A kq => XS.iload A hx rfl (hb hby at_193) rfl  kq) ?_
  have f25 := (f23.keep K22 nin0 nin0)
  refine ginfo fun _ _ O24 => ?_
  refine gcallS (y := (⟨"com/example/limentinus/limentinus/core/KeyLayoutFencingKeyPinLaw", "at", "(Ljava/lang/String;IIIII)Z"⟩ : MethodName)) hx (ow hw 181 rfl) (ow hw 182 rfl) (ow hw 2 rfl) (ow hw 183 rfl) (by decide) (fun hZ H hEL => Pay.of_met (W := 1) (own_atw l Z a0 cx [] (r6) ((7 : Int32)) (x0) ((x2 &&& (3 : Int32))) (x1) ((((x2.toUInt32 >>> ((2 : Int32) &&& 31).toUInt32).toInt32) &&& (3 : Int32))) (t6) (7) vm22 h22 O24 f25 (own_and3 _) (own_and3 _) (by decide) rfl) (ow hw 183 rfl) (ow hw 2 rfl) (by decide) (by decide) hZ H hEL) 198 (argsL := [(.ref r6), (.int (7 : Int32)), (.int x0), (.int (x2 &&& (3 : Int32))), (.int x1), (.int (((x2.toUInt32 >>> ((2 : Int32) &&& 31).toUInt32).toInt32) &&& (3 : Int32)))]) (rest := [(.int (1 : Int32))]) (lenOf own_pd437 rfl) rfl rfl (Nat.le_of_eq rfl) (by rw [hml]; rfl) (hb hby at_195) rfl (by decide) (by decide) ?_
  rintro _ vm24 h24 C24 ⟨rfl, K24⟩
  have z24 := C24.2.1
  refine gat (mkF m 198 #[.val (.int x0), .val (.int x1), .val (.int x2), .val (.int (x2 &&& (3 : Int32))), .val (.int (((x2.toUInt32 >>> ((2 : Int32) &&& 31).toUInt32).toInt32) &&& (3 : Int32))), .val (.ref r1), .val (.ref r2), .val (.ref b3), .val (.ref r6), .val (.int (1 : Int32))] [(.int (1 : Int32)), (.int (1 : Int32))]) rfl ?_
  refine gs (mkF m 199 #[.val (.int x0), .val (.int x1), .val (.int x2), .val (.int (x2 &&& (3 : Int32))), .val (.int (((x2.toUInt32 >>> ((2 : Int32) &&& 31).toUInt32).toInt32) &&& (3 : Int32))), .val (.ref r1), .val (.ref r2), .val (.ref b3), .val (.ref r6), .val (.int (1 : Int32))] [(.int (1 : Int32))]) (fun _ _ A kq => XS.iand A hx rfl (hb hby at_198) rfl kq) ?_
  refine gs (mkF m 201 #[.val (.int x0), .val (.int x1), .val (.int x2), .val (.int (x2 &&& (3 : Int32))), .val (.int (((x2.toUInt32 >>> ((2 : Int32) &&& 31).toUInt32).toInt32) &&& (3 : Int32))), .val (.ref r1), .val (.ref r2), .val (.ref b3), .val (.ref r6), .val (.int (1 : Int32))] []) (fun _ _ A kq => XS.istore A hx rfl (hb hby at_199) rfl (l' := #[.val (.int x0), .val (.int x1), .val (.int x2), .val (.int (x2 &&& (3 : Int32))), .val (.int (((x2.toUInt32 >>> ((2 : Int32) &&& 31).toUInt32).toInt32) &&& (3 : Int32))), .val (.ref r1), .val (.ref r2), .val (.ref b3), .val (.ref r6), .val (.int (1 : Int32))]) rfl kq) ?_
  refine gs (mkF m 203 #[.val (.int x0), .val (.int x1), .val (.int x2), .val (.int (x2 &&& (3 : Int32))), .val (.int (((x2.toUInt32 >>> ((2 : Int32) &&& 31).toUInt32).toInt32) &&& (3 : Int32))), .val (.ref r1), .val (.ref r2), .val (.ref b3), .val (.ref r6), .val (.int (1 : Int32))] [(.int (1 : Int32))]) (fun _ _ A kq => XS.iload A hx rfl (hb hby at_201) rfl  kq) ?_
  refine gs (mkF m 205 #[.val (.int x0), .val (.int x1), .val (.int x2), .val (.int (x2 &&& (3 : Int32))), .val (.int (((x2.toUInt32 >>> ((2 : Int32) &&& 31).toUInt32).toInt32) &&& (3 : Int32))), .val (.ref r1), .val (.ref r2), .val (.ref b3), .val (.ref r6), .val (.int (1 : Int32))] [(.ref r6), (.int (1 : Int32))]) (fun _ _ A kq => XS.aload A hx rfl (hb hby at_203) rfl rfl kq) ?_
  refine gs (mkF m 207 #[.val (.int x0), .val (.int x1), .val (.int x2), .val (.int (x2 &&& (3 : Int32))), .val (.int (((x2.toUInt32 >>> ((2 : Int32) &&& 31).toUInt32).toInt32) &&& (3 : Int32))), .val (.ref r1), .val (.ref r2), .val (.ref b3), .val (.ref r6), .val (.int (1 : Int32))] [(.int (8 : Int32)), (.ref r6), (.int (1 : Int32))]) (fun _ _ A kq => XS.bipush A hx rfl (hb hby at_205) kq) ?_
  refine gs (mkF m 208 #[.val (.int x0), .val (.int x1), .val (.int x2), .val (.int (x2 &&& (3 : Int32))), .val (.int (((x2.toUInt32 >>> ((2 : Int32) &&& 31).toUInt32).toInt32) &&& (3 : Int32))), .val (.ref r1), .val (.ref r2), .val (.ref b3), .val (.ref r6), .val (.int (1 : Int32))] [(.int x0), (.int (8 : Int32)), (.ref r6), (.int (1 : Int32))]) (fun _ _ A kq => XS.iloadN A hx rfl (hb hby at_207) rfl  kq) ?_
  refine gs (mkF m 209 #[.val (.int x0), .val (.int x1), .val (.int x2), .val (.int (x2 &&& (3 : Int32))), .val (.int (((x2.toUInt32 >>> ((2 : Int32) &&& 31).toUInt32).toInt32) &&& (3 : Int32))), .val (.ref r1), .val (.ref r2), .val (.ref b3), .val (.ref r6), .val (.int (1 : Int32))] [(.int (x2 &&& (3 : Int32))), (.int x0), (.int (8 : Int32)), (.ref r6), (.int (1 : Int32))]) (fun _ _ A kq => XS.iloadN A hx rfl (hb hby at_208) rfl  kq) ?_
  refine gs (mkF m 210 #[.val (.int x0), .val (.int x1), .val (.int x2), .val (.int (x2 &&& (3 : Int32))), .val (.int (((x2.toUInt32 >>> ((2 : Int32) &&& 31).toUInt32).toInt32) &&& (3 : Int32))), .val (.ref r1), .val (.ref r2), .val (.ref b3), .val (.ref r6), .val (.int (1 : Int32))] [(.int x1), (.int (x2 &&& (3 : Int32))), (.int x0), (.int (8 : Int32)), (.ref r6), (.int (1 : Int32))]) (fun _ _ A kq => XS.iloadN A hx rfl (hb hby at_209) rfl  kq) ?_
  refine gs (mkF m 212 #[.val (.int x0), .val (.int x1), .val (.int x2), .val (.int (x2 &&& (3 : Int32))), .val (.int (((x2.toUInt32 >>> ((2 : Int32) &&& 31).toUInt32).toInt32) &&& (3 : Int32))), .val (.ref r1), .val (.ref r2), .val (.ref b3), .val (.ref r6), .val (.int (1 : Int32))] [(.int (((x2.toUInt32 >>> ((2 : Int32) &&& 31).toUInt32).toInt32) &&& (3 : Int32))), (.int x1), (.int (x2 &&& (3 : Int32))), (.int x0), (.int (8 : Int32)), (.ref r6), (.int (1 : Int32))]) (fun _ _ A kq => XS.iload A hx rfl (hb hby at_210) rfl  kq) ?_
  have f27 := (f25.keep K24 nin0 nin0)
  refine ginfo fun _ _ O26 => ?_
  refine gcallS (y := (⟨"com/example/limentinus/limentinus/core/KeyLayoutFencingKeyPinLaw", "at", "(Ljava/lang/String;IIIII)Z"⟩ : MethodName)) hx (ow hw 181 rfl) (ow hw 182 rfl) (ow hw 2 rfl) (ow hw 183 rfl) (by decide) (fun hZ H hEL => Pay.of_met (W := 1) (own_atw l Z a0 cx [] (r6) ((8 : Int32)) (x0) ((x2 &&& (3 : Int32))) (x1) ((((x2.toUInt32 >>> ((2 : Int32) &&& 31).toUInt32).toInt32) &&& (3 : Int32))) (t6) (8) vm24 h24 O26 f27 (own_and3 _) (own_and3 _) (by decide) rfl) (ow hw 183 rfl) (ow hw 2 rfl) (by decide) (by decide) hZ H hEL) 215 (argsL := [(.ref r6), (.int (8 : Int32)), (.int x0), (.int (x2 &&& (3 : Int32))), (.int x1), (.int (((x2.toUInt32 >>> ((2 : Int32) &&& 31).toUInt32).toInt32) &&& (3 : Int32)))]) (rest := [(.int (1 : Int32))]) (lenOf own_pd437 rfl) rfl rfl (Nat.le_of_eq rfl) (by rw [hml]; rfl) (hb hby at_212) rfl (by decide) (by decide) ?_
  rintro _ vm26 h26 C26 ⟨rfl, K26⟩
  have z26 := C26.2.1
  refine gat (mkF m 215 #[.val (.int x0), .val (.int x1), .val (.int x2), .val (.int (x2 &&& (3 : Int32))), .val (.int (((x2.toUInt32 >>> ((2 : Int32) &&& 31).toUInt32).toInt32) &&& (3 : Int32))), .val (.ref r1), .val (.ref r2), .val (.ref b3), .val (.ref r6), .val (.int (1 : Int32))] [(.int (1 : Int32)), (.int (1 : Int32))]) rfl ?_
  refine gs (mkF m 216 #[.val (.int x0), .val (.int x1), .val (.int x2), .val (.int (x2 &&& (3 : Int32))), .val (.int (((x2.toUInt32 >>> ((2 : Int32) &&& 31).toUInt32).toInt32) &&& (3 : Int32))), .val (.ref r1), .val (.ref r2), .val (.ref b3), .val (.ref r6), .val (.int (1 : Int32))] [(.int (1 : Int32))]) (fun _ _ A kq => XS.iand A hx rfl (hb hby at_215) rfl kq) ?_
  refine gs (mkF m 218 #[.val (.int x0), .val (.int x1), .val (.int x2), .val (.int (x2 &&& (3 : Int32))), .val (.int (((x2.toUInt32 >>> ((2 : Int32) &&& 31).toUInt32).toInt32) &&& (3 : Int32))), .val (.ref r1), .val (.ref r2), .val (.ref b3), .val (.ref r6), .val (.int (1 : Int32))] []) (fun _ _ A kq => XS.istore A hx rfl (hb hby at_216) rfl (l' := #[.val (.int x0), .val (.int x1), .val (.int x2), .val (.int (x2 &&& (3 : Int32))), .val (.int (((x2.toUInt32 >>> ((2 : Int32) &&& 31).toUInt32).toInt32) &&& (3 : Int32))), .val (.ref r1), .val (.ref r2), .val (.ref b3), .val (.ref r6), .val (.int (1 : Int32))]) rfl kq) ?_
  refine gs (mkF m 220 #[.val (.int x0), .val (.int x1), .val (.int x2), .val (.int (x2 &&& (3 : Int32))), .val (.int (((x2.toUInt32 >>> ((2 : Int32) &&& 31).toUInt32).toInt32) &&& (3 : Int32))), .val (.ref r1), .val (.ref r2), .val (.ref b3), .val (.ref r6), .val (.int (1 : Int32))] [(.int (1 : Int32))]) (fun _ _ A kq => XS.iload A hx rfl (hb hby at_218) rfl  kq) ?_
  refine gs (mkF m 222 #[.val (.int x0), .val (.int x1), .val (.int x2), .val (.int (x2 &&& (3 : Int32))), .val (.int (((x2.toUInt32 >>> ((2 : Int32) &&& 31).toUInt32).toInt32) &&& (3 : Int32))), .val (.ref r1), .val (.ref r2), .val (.ref b3), .val (.ref r6), .val (.int (1 : Int32))] [(.ref r6), (.int (1 : Int32))]) (fun _ _ A kq => XS.aload A hx rfl (hb hby at_220) rfl rfl kq) ?_
  refine gs (mkF m 224 #[.val (.int x0), .val (.int x1), .val (.int x2), .val (.int (x2 &&& (3 : Int32))), .val (.int (((x2.toUInt32 >>> ((2 : Int32) &&& 31).toUInt32).toInt32) &&& (3 : Int32))), .val (.ref r1), .val (.ref r2), .val (.ref b3), .val (.ref r6), .val (.int (1 : Int32))] [(.int (9 : Int32)), (.ref r6), (.int (1 : Int32))]) (fun _ _ A kq => XS.bipush A hx rfl (hb hby at_222) kq) ?_
  refine gs (mkF m 225 #[.val (.int x0), .val (.int x1), .val (.int x2), .val (.int (x2 &&& (3 : Int32))), .val (.int (((x2.toUInt32 >>> ((2 : Int32) &&& 31).toUInt32).toInt32) &&& (3 : Int32))), .val (.ref r1), .val (.ref r2), .val (.ref b3), .val (.ref r6), .val (.int (1 : Int32))] [(.int x0), (.int (9 : Int32)), (.ref r6), (.int (1 : Int32))]) (fun _ _ A kq => XS.iloadN A hx rfl (hb hby at_224) rfl  kq) ?_
  refine gs (mkF m 226 #[.val (.int x0), .val (.int x1), .val (.int x2), .val (.int (x2 &&& (3 : Int32))), .val (.int (((x2.toUInt32 >>> ((2 : Int32) &&& 31).toUInt32).toInt32) &&& (3 : Int32))), .val (.ref r1), .val (.ref r2), .val (.ref b3), .val (.ref r6), .val (.int (1 : Int32))] [(.int (x2 &&& (3 : Int32))), (.int x0), (.int (9 : Int32)), (.ref r6), (.int (1 : Int32))]) (fun _ _ A kq => XS.iloadN A hx rfl (hb hby at_225) rfl  kq) ?_
  refine gs (mkF m 227 #[.val (.int x0), .val (.int x1), .val (.int x2), .val (.int (x2 &&& (3 : Int32))), .val (.int (((x2.toUInt32 >>> ((2 : Int32) &&& 31).toUInt32).toInt32) &&& (3 : Int32))), .val (.ref r1), .val (.ref r2), .val (.ref b3), .val (.ref r6), .val (.int (1 : Int32))] [(.int x1), (.int (x2 &&& (3 : Int32))), (.int x0), (.int (9 : Int32)), (.ref r6), (.int (1 : Int32))]) (fun _ _ A kq => XS.iloadN A hx rfl (hb hby at_226) rfl  kq) ?_
  refine gs (mkF m 229 #[.val (.int x0), .val (.int x1), .val (.int x2), .val (.int (x2 &&& (3 : Int32))), .val (.int (((x2.toUInt32 >>> ((2 : Int32) &&& 31).toUInt32).toInt32) &&& (3 : Int32))), .val (.ref r1), .val (.ref r2), .val (.ref b3), .val (.ref r6), .val (.int (1 : Int32))] [(.int (((x2.toUInt32 >>> ((2 : Int32) &&& 31).toUInt32).toInt32) &&& (3 : Int32))), (.int x1), (.int (x2 &&& (3 : Int32))), (.int x0), (.int (9 : Int32)), (.ref r6), (.int (1 : Int32))]) (fun _ _ A kq => XS.iload A hx rfl (hb hby at_227) rfl  kq) ?_
  have f29 := (f27.keep K26 nin0 nin0)
  refine ginfo fun _ _ O28 => ?_
  refine gcallS (y := (⟨"com/example/limentinus/limentinus/core/KeyLayoutFencingKeyPinLaw", "at", "(Ljava/lang/String;IIIII)Z"⟩ : MethodName)) hx (ow hw 181 rfl) (ow hw 182 rfl) (ow hw 2 rfl) (ow hw 183 rfl) (by decide) (fun hZ H hEL => Pay.of_met (W := 1) (own_atw l Z a0 cx [] (r6) ((9 : Int32)) (x0) ((x2 &&& (3 : Int32))) (x1) ((((x2.toUInt32 >>> ((2 : Int32) &&& 31).toUInt32).toInt32) &&& (3 : Int32))) (t6) (9) vm26 h26 O28 f29 (own_and3 _) (own_and3 _) (by decide) rfl) (ow hw 183 rfl) (ow hw 2 rfl) (by decide) (by decide) hZ H hEL) 232 (argsL := [(.ref r6), (.int (9 : Int32)), (.int x0), (.int (x2 &&& (3 : Int32))), (.int x1), (.int (((x2.toUInt32 >>> ((2 : Int32) &&& 31).toUInt32).toInt32) &&& (3 : Int32)))]) (rest := [(.int (1 : Int32))]) (lenOf own_pd437 rfl) rfl rfl (Nat.le_of_eq rfl) (by rw [hml]; rfl) (hb hby at_229) rfl (by decide) (by decide) ?_
  rintro _ vm28 h28 C28 ⟨rfl, K28⟩
  have z28 := C28.2.1
  refine gat (mkF m 232 #[.val (.int x0), .val (.int x1), .val (.int x2), .val (.int (x2 &&& (3 : Int32))), .val (.int (((x2.toUInt32 >>> ((2 : Int32) &&& 31).toUInt32).toInt32) &&& (3 : Int32))), .val (.ref r1), .val (.ref r2), .val (.ref b3), .val (.ref r6), .val (.int (1 : Int32))] [(.int (1 : Int32)), (.int (1 : Int32))]) rfl ?_
  refine gs (mkF m 233 #[.val (.int x0), .val (.int x1), .val (.int x2), .val (.int (x2 &&& (3 : Int32))), .val (.int (((x2.toUInt32 >>> ((2 : Int32) &&& 31).toUInt32).toInt32) &&& (3 : Int32))), .val (.ref r1), .val (.ref r2), .val (.ref b3), .val (.ref r6), .val (.int (1 : Int32))] [(.int (1 : Int32))]) (fun _ _ A kq => XS.iand A hx rfl (hb hby at_232) rfl kq) ?_
  refine gs (mkF m 235 #[.val (.int x0), .val (.int x1), .val (.int x2), .val (.int (x2 &&& (3 : Int32))), .val (.int (((x2.toUInt32 >>> ((2 : Int32) &&& 31).toUInt32).toInt32) &&& (3 : Int32))), .val (.ref r1), .val (.ref r2), .val (.ref b3), .val (.ref r6), .val (.int (1 : Int32))] []) (fun _ _ A kq => XS.istore A hx rfl (hb hby at_233) rfl (l' := #[.val (.int x0), .val (.int x1), .val (.int x2), .val (.int (x2 &&& (3 : Int32))), .val (.int (((x2.toUInt32 >>> ((2 : Int32) &&& 31).toUInt32).toInt32) &&& (3 : Int32))), .val (.ref r1), .val (.ref r2), .val (.ref b3), .val (.ref r6), .val (.int (1 : Int32))]) rfl kq) ?_
  refine gs (mkF m 237 #[.val (.int x0), .val (.int x1), .val (.int x2), .val (.int (x2 &&& (3 : Int32))), .val (.int (((x2.toUInt32 >>> ((2 : Int32) &&& 31).toUInt32).toInt32) &&& (3 : Int32))), .val (.ref r1), .val (.ref r2), .val (.ref b3), .val (.ref r6), .val (.int (1 : Int32))] [(.int (1 : Int32))]) (fun _ _ A kq => XS.iload A hx rfl (hb hby at_235) rfl  kq) ?_
  refine gs (mkF m 239 #[.val (.int x0), .val (.int x1), .val (.int x2), .val (.int (x2 &&& (3 : Int32))), .val (.int (((x2.toUInt32 >>> ((2 : Int32) &&& 31).toUInt32).toInt32) &&& (3 : Int32))), .val (.ref r1), .val (.ref r2), .val (.ref b3), .val (.ref r6), .val (.int (1 : Int32))] [(.ref r6), (.int (1 : Int32))]) (fun _ _ A kq => XS.aload A hx rfl (hb hby at_237) rfl rfl kq) ?_
  refine gs (mkF m 241 #[.val (.int x0), .val (.int x1), .val (.int x2), .val (.int (x2 &&& (3 : Int32))), .val (.int (((x2.toUInt32 >>> ((2 : Int32) &&& 31).toUInt32).toInt32) &&& (3 : Int32))), .val (.ref r1), .val (.ref r2), .val (.ref b3), .val (.ref r6), .val (.int (1 : Int32))] [(.int (10 : Int32)), (.ref r6), (.int (1 : Int32))]) (fun _ _ A kq => XS.bipush A hx rfl (hb hby at_239) kq) ?_
  refine gs (mkF m 242 #[.val (.int x0), .val (.int x1), .val (.int x2), .val (.int (x2 &&& (3 : Int32))), .val (.int (((x2.toUInt32 >>> ((2 : Int32) &&& 31).toUInt32).toInt32) &&& (3 : Int32))), .val (.ref r1), .val (.ref r2), .val (.ref b3), .val (.ref r6), .val (.int (1 : Int32))] [(.int x0), (.int (10 : Int32)), (.ref r6), (.int (1 : Int32))]) (fun _ _ A kq => XS.iloadN A hx rfl (hb hby at_241) rfl  kq) ?_
  refine gs (mkF m 243 #[.val (.int x0), .val (.int x1), .val (.int x2), .val (.int (x2 &&& (3 : Int32))), .val (.int (((x2.toUInt32 >>> ((2 : Int32) &&& 31).toUInt32).toInt32) &&& (3 : Int32))), .val (.ref r1), .val (.ref r2), .val (.ref b3), .val (.ref r6), .val (.int (1 : Int32))] [(.int (x2 &&& (3 : Int32))), (.int x0), (.int (10 : Int32)), (.ref r6), (.int (1 : Int32))]) (fun _ _ A kq => XS.iloadN A hx rfl (hb hby at_242) rfl  kq) ?_
  refine gs (mkF m 244 #[.val (.int x0), .val (.int x1), .val (.int x2), .val (.int (x2 &&& (3 : Int32))), .val (.int (((x2.toUInt32 >>> ((2 : Int32) &&& 31).toUInt32).toInt32) &&& (3 : Int32))), .val (.ref r1), .val (.ref r2), .val (.ref b3), .val (.ref r6), .val (.int (1 : Int32))] [(.int x1), (.int (x2 &&& (3 : Int32))), (.int x0), (.int (10 : Int32)), (.ref r6), (.int (1 : Int32))]) (fun _ _ A kq => XS.iloadN A hx rfl (hb hby at_243) rfl  kq) ?_
  refine gs (mkF m 246 #[.val (.int x0), .val (.int x1), .val (.int x2), .val (.int (x2 &&& (3 : Int32))), .val (.int (((x2.toUInt32 >>> ((2 : Int32) &&& 31).toUInt32).toInt32) &&& (3 : Int32))), .val (.ref r1), .val (.ref r2), .val (.ref b3), .val (.ref r6), .val (.int (1 : Int32))] [(.int (((x2.toUInt32 >>> ((2 : Int32) &&& 31).toUInt32).toInt32) &&& (3 : Int32))), (.int x1), (.int (x2 &&& (3 : Int32))), (.int x0), (.int (10 : Int32)), (.ref r6), (.int (1 : Int32))]) (fun _ _ A kq => XS.iload A hx rfl (hb hby at_244) rfl  kq) ?_
  have f31 := (f29.keep K28 nin0 nin0)
  refine ginfo fun _ _ O30 => ?_
  refine gcallS (y := (⟨"com/example/limentinus/limentinus/core/KeyLayoutFencingKeyPinLaw", "at", "(Ljava/lang/String;IIIII)Z"⟩ : MethodName)) hx (ow hw 181 rfl) (ow hw 182 rfl) (ow hw 2 rfl) (ow hw 183 rfl) (by decide) (fun hZ H hEL => Pay.of_met (W := 1) (own_atw l Z a0 cx [] (r6) ((10 : Int32)) (x0) ((x2 &&& (3 : Int32))) (x1) ((((x2.toUInt32 >>> ((2 : Int32) &&& 31).toUInt32).toInt32) &&& (3 : Int32))) (t6) (10) vm28 h28 O30 f31 (own_and3 _) (own_and3 _) (by decide) rfl) (ow hw 183 rfl) (ow hw 2 rfl) (by decide) (by decide) hZ H hEL) 249 (argsL := [(.ref r6), (.int (10 : Int32)), (.int x0), (.int (x2 &&& (3 : Int32))), (.int x1), (.int (((x2.toUInt32 >>> ((2 : Int32) &&& 31).toUInt32).toInt32) &&& (3 : Int32)))]) (rest := [(.int (1 : Int32))]) (lenOf own_pd437 rfl) rfl rfl (Nat.le_of_eq rfl) (by rw [hml]; rfl) (hb hby at_246) rfl (by decide) (by decide) ?_
  rintro _ vm30 h30 C30 ⟨rfl, K30⟩
  have z30 := C30.2.1
  refine gat (mkF m 249 #[.val (.int x0), .val (.int x1), .val (.int x2), .val (.int (x2 &&& (3 : Int32))), .val (.int (((x2.toUInt32 >>> ((2 : Int32) &&& 31).toUInt32).toInt32) &&& (3 : Int32))), .val (.ref r1), .val (.ref r2), .val (.ref b3), .val (.ref r6), .val (.int (1 : Int32))] [(.int (1 : Int32)), (.int (1 : Int32))]) rfl ?_
  refine gs (mkF m 250 #[.val (.int x0), .val (.int x1), .val (.int x2), .val (.int (x2 &&& (3 : Int32))), .val (.int (((x2.toUInt32 >>> ((2 : Int32) &&& 31).toUInt32).toInt32) &&& (3 : Int32))), .val (.ref r1), .val (.ref r2), .val (.ref b3), .val (.ref r6), .val (.int (1 : Int32))] [(.int (1 : Int32))]) (fun _ _ A kq => XS.iand A hx rfl (hb hby at_249) rfl kq) ?_
  refine gs (mkF m 252 #[.val (.int x0), .val (.int x1), .val (.int x2), .val (.int (x2 &&& (3 : Int32))), .val (.int (((x2.toUInt32 >>> ((2 : Int32) &&& 31).toUInt32).toInt32) &&& (3 : Int32))), .val (.ref r1), .val (.ref r2), .val (.ref b3), .val (.ref r6), .val (.int (1 : Int32))] []) (fun _ _ A kq => XS.istore A hx rfl (hb hby at_250) rfl (l' := #[.val (.int x0), .val (.int x1), .val (.int x2), .val (.int (x2 &&& (3 : Int32))), .val (.int (((x2.toUInt32 >>> ((2 : Int32) &&& 31).toUInt32).toInt32) &&& (3 : Int32))), .val (.ref r1), .val (.ref r2), .val (.ref b3), .val (.ref r6), .val (.int (1 : Int32))]) rfl kq) ?_
  refine gs (mkF m 254 #[.val (.int x0), .val (.int x1), .val (.int x2), .val (.int (x2 &&& (3 : Int32))), .val (.int (((x2.toUInt32 >>> ((2 : Int32) &&& 31).toUInt32).toInt32) &&& (3 : Int32))), .val (.ref r1), .val (.ref r2), .val (.ref b3), .val (.ref r6), .val (.int (1 : Int32))] [(.int (1 : Int32))]) (fun _ _ A kq => XS.iload A hx rfl (hb hby at_252) rfl  kq) ?_
  refine gs (mkF m 256 #[.val (.int x0), .val (.int x1), .val (.int x2), .val (.int (x2 &&& (3 : Int32))), .val (.int (((x2.toUInt32 >>> ((2 : Int32) &&& 31).toUInt32).toInt32) &&& (3 : Int32))), .val (.ref r1), .val (.ref r2), .val (.ref b3), .val (.ref r6), .val (.int (1 : Int32))] [(.ref r6), (.int (1 : Int32))]) (fun _ _ A kq => XS.aload A hx rfl (hb hby at_254) rfl rfl kq) ?_
  refine gs (mkF m 258 #[.val (.int x0), .val (.int x1), .val (.int x2), .val (.int (x2 &&& (3 : Int32))), .val (.int (((x2.toUInt32 >>> ((2 : Int32) &&& 31).toUInt32).toInt32) &&& (3 : Int32))), .val (.ref r1), .val (.ref r2), .val (.ref b3), .val (.ref r6), .val (.int (1 : Int32))] [(.int (11 : Int32)), (.ref r6), (.int (1 : Int32))]) (fun _ _ A kq => XS.bipush A hx rfl (hb hby at_256) kq) ?_
  refine gs (mkF m 259 #[.val (.int x0), .val (.int x1), .val (.int x2), .val (.int (x2 &&& (3 : Int32))), .val (.int (((x2.toUInt32 >>> ((2 : Int32) &&& 31).toUInt32).toInt32) &&& (3 : Int32))), .val (.ref r1), .val (.ref r2), .val (.ref b3), .val (.ref r6), .val (.int (1 : Int32))] [(.int x0), (.int (11 : Int32)), (.ref r6), (.int (1 : Int32))]) (fun _ _ A kq => XS.iloadN A hx rfl (hb hby at_258) rfl  kq) ?_
  refine gs (mkF m 260 #[.val (.int x0), .val (.int x1), .val (.int x2), .val (.int (x2 &&& (3 : Int32))), .val (.int (((x2.toUInt32 >>> ((2 : Int32) &&& 31).toUInt32).toInt32) &&& (3 : Int32))), .val (.ref r1), .val (.ref r2), .val (.ref b3), .val (.ref r6), .val (.int (1 : Int32))] [(.int (x2 &&& (3 : Int32))), (.int x0), (.int (11 : Int32)), (.ref r6), (.int (1 : Int32))]) (fun _ _ A kq => XS.iloadN A hx rfl (hb hby at_259) rfl  kq) ?_
  refine gs (mkF m 261 #[.val (.int x0), .val (.int x1), .val (.int x2), .val (.int (x2 &&& (3 : Int32))), .val (.int (((x2.toUInt32 >>> ((2 : Int32) &&& 31).toUInt32).toInt32) &&& (3 : Int32))), .val (.ref r1), .val (.ref r2), .val (.ref b3), .val (.ref r6), .val (.int (1 : Int32))] [(.int x1), (.int (x2 &&& (3 : Int32))), (.int x0), (.int (11 : Int32)), (.ref r6), (.int (1 : Int32))]) (fun _ _ A kq => XS.iloadN A hx rfl (hb hby at_260) rfl  kq) ?_
  refine gs (mkF m 263 #[.val (.int x0), .val (.int x1), .val (.int x2), .val (.int (x2 &&& (3 : Int32))), .val (.int (((x2.toUInt32 >>> ((2 : Int32) &&& 31).toUInt32).toInt32) &&& (3 : Int32))), .val (.ref r1), .val (.ref r2), .val (.ref b3), .val (.ref r6), .val (.int (1 : Int32))] [(.int (((x2.toUInt32 >>> ((2 : Int32) &&& 31).toUInt32).toInt32) &&& (3 : Int32))), (.int x1), (.int (x2 &&& (3 : Int32))), (.int x0), (.int (11 : Int32)), (.ref r6), (.int (1 : Int32))]) (fun _ _ A kq => XS.iload A hx rfl (hb hby at_261) rfl  kq) ?_
  have f33 := (f31.keep K30 nin0 nin0)
  refine ginfo fun _ _ O32 => ?_
  refine gcallS (y := (⟨"com/example/limentinus/limentinus/core/KeyLayoutFencingKeyPinLaw", "at", "(Ljava/lang/String;IIIII)Z"⟩ : MethodName)) hx (ow hw 181 rfl) (ow hw 182 rfl) (ow hw 2 rfl) (ow hw 183 rfl) (by decide) (fun hZ H hEL => Pay.of_met (W := 1) (own_atw l Z a0 cx [] (r6) ((11 : Int32)) (x0) ((x2 &&& (3 : Int32))) (x1) ((((x2.toUInt32 >>> ((2 : Int32) &&& 31).toUInt32).toInt32) &&& (3 : Int32))) (t6) (11) vm30 h30 O32 f33 (own_and3 _) (own_and3 _) (by decide) rfl) (ow hw 183 rfl) (ow hw 2 rfl) (by decide) (by decide) hZ H hEL) 266 (argsL := [(.ref r6), (.int (11 : Int32)), (.int x0), (.int (x2 &&& (3 : Int32))), (.int x1), (.int (((x2.toUInt32 >>> ((2 : Int32) &&& 31).toUInt32).toInt32) &&& (3 : Int32)))]) (rest := [(.int (1 : Int32))]) (lenOf own_pd437 rfl) rfl rfl (Nat.le_of_eq rfl) (by rw [hml]; rfl) (hb hby at_263) rfl (by decide) (by decide) ?_
  rintro _ vm32 h32 C32 ⟨rfl, K32⟩
  have z32 := C32.2.1
  refine gat (mkF m 266 #[.val (.int x0), .val (.int x1), .val (.int x2), .val (.int (x2 &&& (3 : Int32))), .val (.int (((x2.toUInt32 >>> ((2 : Int32) &&& 31).toUInt32).toInt32) &&& (3 : Int32))), .val (.ref r1), .val (.ref r2), .val (.ref b3), .val (.ref r6), .val (.int (1 : Int32))] [(.int (1 : Int32)), (.int (1 : Int32))]) rfl ?_
  refine gs (mkF m 267 #[.val (.int x0), .val (.int x1), .val (.int x2), .val (.int (x2 &&& (3 : Int32))), .val (.int (((x2.toUInt32 >>> ((2 : Int32) &&& 31).toUInt32).toInt32) &&& (3 : Int32))), .val (.ref r1), .val (.ref r2), .val (.ref b3), .val (.ref r6), .val (.int (1 : Int32))] [(.int (1 : Int32))]) (fun _ _ A kq => XS.iand A hx rfl (hb hby at_266) rfl kq) ?_
  refine gs (mkF m 269 #[.val (.int x0), .val (.int x1), .val (.int x2), .val (.int (x2 &&& (3 : Int32))), .val (.int (((x2.toUInt32 >>> ((2 : Int32) &&& 31).toUInt32).toInt32) &&& (3 : Int32))), .val (.ref r1), .val (.ref r2), .val (.ref b3), .val (.ref r6), .val (.int (1 : Int32))] []) (fun _ _ A kq => XS.istore A hx rfl (hb hby at_267) rfl (l' := #[.val (.int x0), .val (.int x1), .val (.int x2), .val (.int (x2 &&& (3 : Int32))), .val (.int (((x2.toUInt32 >>> ((2 : Int32) &&& 31).toUInt32).toInt32) &&& (3 : Int32))), .val (.ref r1), .val (.ref r2), .val (.ref b3), .val (.ref r6), .val (.int (1 : Int32))]) rfl kq) ?_
  refine gs (mkF m 271 #[.val (.int x0), .val (.int x1), .val (.int x2), .val (.int (x2 &&& (3 : Int32))), .val (.int (((x2.toUInt32 >>> ((2 : Int32) &&& 31).toUInt32).toInt32) &&& (3 : Int32))), .val (.ref r1), .val (.ref r2), .val (.ref b3), .val (.ref r6), .val (.int (1 : Int32))] [(.int (1 : Int32))]) (fun _ _ A kq => XS.iload A hx rfl (hb hby at_269) rfl  kq) ?_
  exact gretN (t := .boolean) hx hret (by simp) (hb hby at_271) (by decide) (by decide) (fun vq Cq => ⟨rfl, ((((((((((((((((((Keep.refl h0 []).trans K1 all0).trans K2 all0).ext E3).trans K4 (allS (Or.inr (by omega)) all0)).trans K6 all0).trans K11 all0).trans K12 all0).trans K14 all0).trans K16 all0).trans K18 all0).trans K20 all0).trans K22 all0).trans K24 all0).trans K26 all0).trans K28 all0).trans K30 all0).trans K32 all0)⟩)
set_option maxRecDepth 65536 in
set_option maxHeartbeats 40000000 in
theorem comes_1 {Post : Tables → Env → Array Value → State → Outcome → State → Prop} (hpost : ∀ tb e args s v u, (limb_1_1.after args s (.returned v) u = true ∧ limb_1_2.after args s (.returned v) u = true ∧ True) → ReturnedEndW s (.returned v) u (Jvm.fieldLocs frame_1_writes args s ++ Jvm.arrayLocs frame_1_arrays args s ++ Jvm.staticLocs frame_1_statics s) 48 3328 → Post tb e args s (.returned v) u) :
    ArmFor flags0 classFile x code maxLocals ret World_1 tables_1 room_1 Calls_1 rest_1 Pre_1 Post := by
  intro l hfl _ _ p e ha hc hk s m args below hf hA hF happ hP
  obtain ⟨hcalls, hrest, hpre⟩ := hP
  obtain ⟨-, -, -, hnamed, -, -, -, hat⟩ := (Spec.applies_iff hf).mp happ
  obtain ⟨hg, hn⟩ := and_e (Cond.before_iff.mp (show (Jvm.Cond.and given_1 narrow_1).before args s = true from hpre))
  obtain ⟨gc, g0⟩ := and_e hg
  obtain ⟨ga0, g1⟩ := and_e g0
  obtain ⟨ga1, g2⟩ := and_e g1
  have ga2 := g2
  obtain ⟨w0, w1, w2, rfl⟩ : ∃ w0 w1 w2 : Value, args = #[w0, w1, w2] := by
    have hs : args.size = 3 := by simpa [Cond.value, given_1] using gc
    obtain ⟨L⟩ := args
    match L, hs with
    | [w0, w1, w2], _ => exact ⟨w0, w1, w2, rfl⟩
  have hw := fun d (hd : d ∈ tables_1) => atoms_spec (ws := Jvm.Cond.code x code maxLocals ret :: tables_1) hat d (List.mem_cons_of_mem _ hd)
  have hfit : Fit s := fun {y c} hc i hi => by
    obtain ⟨ha, rfl⟩ := Array.getElem?_eq_some_iff.mp hc
    have q := List.all_eq_true.mp ((Array.all_eq_true_iff_forall_mem.mp hF) _ (Array.getElem_mem ha)) i (List.mem_range.mpr hi)
    simpa [Array.getElem?_eq_getElem hi] using q
  obtain ⟨hsets, hown0⟩ := atoms_of _ (rest_1_c_eq ▸ (show rest_1_c.before _ s = true from hrest))
  obtain ⟨i0, ei0⟩ := is_v ga0
  obtain rfl : w0 = (.int i0) := Option.some.inj ei0
  obtain ⟨i1, ei1⟩ := is_v ga1
  obtain rfl : w1 = (.int i1) := Option.some.inj ei1
  obtain ⟨i2, ei2⟩ := is_v ga2
  obtain rfl : w2 = (.int i2) := Option.some.inj ei2
  obtain ⟨zc, eG⟩ := is_v (Cond.before_iff.mp (hsets _ (List.mem_of_getElem? (i := 1) rfl)))
  have Scs := Sta.start eG (Or.inl (hsets _ (List.mem_of_getElem? (i := 0) rfl)))
  have hcw := hsets _ (List.mem_of_getElem? (i := 2) rfl)
  have hzc : ¬ zc = 0 := by
    have q := not_v (Cond.before_iff.mp hcw)
    intro z
    have q2 := eq_i (x := .int zc) (y := .int 0) eG (Term.int_eval (0)) (by rw [z])
    rw [q2] at q; cases q
  obtain ⟨fm, eF, hfm⟩ := isR_v (Cond.before_iff.mp (hsets _ (List.mem_of_getElem? (i := 8) rfl)))
  have Sfm := Sta.start eF (Or.inl (hsets _ (List.mem_of_getElem? (i := 7) rfl)))
  have hEL : EW s _ consts_1 := (EW.cons (ow hw 47 rfl) (by decide +kernel) (EW.cons (ow hw 209 rfl) (by decide +kernel) (EW.cons (ow hw 37 rfl) (by decide +kernel) EW.nil)))
  have hCH : CHv s consts_1 s.vm s.heap := CHv.start hEL (fun p hp => hcalls.1 p hp) hcw (ow hw 26 rfl) (ow hw 5 rfl)
  obtain ⟨m0, n0⟩ := and_e hn
  obtain ⟨m1, n1⟩ := and_e n0
  obtain ⟨m2, n2⟩ := and_e n1
  obtain ⟨m3, n3⟩ := and_e n2
  obtain ⟨m4, n4⟩ := and_e n3
  obtain ⟨m5, n5⟩ := and_e n4
  obtain ⟨m6, n6⟩ := and_e n5
  obtain ⟨m7, n7⟩ := and_e n6
  obtain ⟨m8, n8⟩ := and_e n7
  obtain ⟨m9, n9⟩ := and_e n8
  obtain ⟨m10, n10⟩ := and_e n9
  obtain ⟨fe, efe⟩ := exa_v m0
  have Efe := Exa.start efe m0
  have Sfe := Sta.start efe (Or.inr ⟨ow hw 176 rfl, ow hw 177 rfl⟩)
  obtain ⟨ft, eft⟩ := exa_v m1
  have Fft := Fld.start ((fld_at efe).symm.trans eft)
  obtain ⟨tt, Sft⟩ := Str.start (cs := [(58 : Int32), (102 : Int32), (101 : Int32), (110 : Int32), (99 : Int32), (101 : Int32)]) hfit eft m1 m5 m2 m4 rfl (by decide) (bcons ⟨by decide, by decide⟩ (bcons ⟨by decide, by decide⟩ (bcons ⟨by decide, by decide⟩ (bcons ⟨by decide, by decide⟩ (bcons ⟨by decide, by decide⟩ (bcons ⟨by decide, by decide⟩ bnil)))))) (fun tt cl et hc => ⟨elI et hc m6, elI et hc m7, elI et hc m8, elI et hc m9, elI et hc m10, elI et hc n10, trivial⟩)
  have cx : Ctx s _ := ⟨hw, hEL, ⟨zc, Scs, hzc⟩, ⟨fm, Sfm, hfm⟩, ⟨fe, ft, tt, Sfe, Efe, Fft, Sft⟩⟩
  obtain ⟨n, o, h1, h2, h3, _, L, rfl, ⟨N, ⟨rfl, -⟩⟩, -, hq⟩ := own_law l s _ cx tables_1 i0 i1 i2 s.vm s.heap ⟨Nat.le_refl _, fun _ _ q => q⟩ p e ha hc hk s m _ below hf ((Spec.applies_iff_loose hf).mp happ).1 ⟨rfl, State.Warmed39.refl s, rfl, CHr.refl hCH⟩ trivial
  refine ⟨n, _, h1, h2, h3, hpost _ _ _ _ _ _ ⟨Cond.after_iff.mpr rfl, Cond.after_iff.mpr (eq_i res_at (Term.int_eval (1)) rfl), trivial⟩ ⟨hq.1, hq.2.1, hq.2.2.1, (hq.2.2.2.sift fun y hy => Or.inr (N y hy)).mono (by decide) (by decide)⟩⟩
theorem main_1_1 : Claimed_1_1 := comes_1 fun _ _ _ _ _ _ h hF => ⟨h.1, hF⟩
theorem main_1_2 : Claimed_1_2 := comes_1 fun _ _ _ _ _ _ h hF => ⟨h.2.1, hF⟩
end Jvm.Pilot.@@N@@
namespace Jvm.Pilot.@@N@@
open Jvm Jvm.ClassFile Sem Op Lib Jvm.Free Jvm.Stand Jvm.Pilot.@@N@@.Jvm.D
/-! MADE BY PROGRAM (witnessworld.py) out of the Statement's table words and the real class files: 29 classes; the members and pool entries that the words name. The judged class is class 1, her method 1. -/
namespace start1
open Jvm.ClassFile
def u (s : String) : CpInfo := .utf8 (stringToUtf16 s)
/-- a pool by its gaps: so many unusable entries, then the entry; so many at the end -/
def gap : Nat → List CpInfo → List CpInfo
  | 0, r => r
  | n + 1, r => .unusable :: gap n r
def poolList (es : List (Nat × CpInfo)) (last : Nat) : List CpInfo := es.foldr (fun e r => gap e.1 (e.2 :: r)) (gap last [])
def pool (es : List (Nat × CpInfo)) (last : Nat) : Array CpInfo := ⟨poolList es last⟩
def fileOf (pool : Array CpInfo) (this : Nat) (attrs : Array Attribute := #[]) (ms : Array MethodInfo := #[]) (fl : Nat := 33) (sup : Nat := 0) (ifs : Array Nat := #[]) (fds : Array FieldInfo := #[]) : ClassFile where
  minorVersion := 0
  majorVersion := 65
  constantPool := pool
  accessFlags := fl
  thisClass := this
  superClass := sup
  interfaces := ifs
  fields := fds
  methods := ms
  attributes := attrs
def plain (name : String) (sup : Option ClassId) : Class where
  name := name
  kind := .ordinary
  loader := none
  accessFlags := 33
  super := sup
  interfaces := #[]
  cf := none
  fields := #[]
  methods := #[]
  instanceTypes := #[]
  staticTypes := #[]
  resolved := #[]
  callSites := []
  init := .initialized
  statics := none
  mirror := none

def pool0 : Array CpInfo := pool [(5, u "<init>"), (0, u "()V"), (1, .class_ 10), (1, u "java/lang/Object")] 113

def k0c0 : Code := { maxStack := 0, maxLocals := 1, code := object_method_1_code, exceptionTable := #[], attributes := #[] }
def k0m0 : Method := { name := "<init>", desc := "()V", sig := { parameters := [], returnType := none }, accessFlags := 1, code := some k0c0 }
/-- java/lang/Object -/
def k0 : Class := { plain "java/lang/Object" none with
  accessFlags := 33
  interfaces := #[]
  cf := some (fileOf pool0 8 #[] #[{ accessFlags := 1, nameIndex := 5, descriptorIndex := 6, attributes := #[] }] 33 0 #[] #[])
  fields := #[]
  methods := #[k0m0]
  instanceTypes := #[]
  staticTypes := #[]
  resolved := Array.replicate 124 none
  statics := none }

def pool1 : Array CpInfo := pool [(2, .class_ 4), (1, u "java/lang/Object"), (0, u "<init>"), (0, u "()V"), (0, .methodref 8 9), (0, .class_ 10), (0, .nameAndType 11 12), (0, u "com/example/limentinus/limentinus/core/KeyLayoutFencingKeyPinLaw"), (0, u "draw"), (0, u "(II)Ljava/lang/String;"), (0, .class_ 14), (0, u "com/example/limentinus/limentinus/core/KeyLayout"), (0, .methodref 13 16), (0, .nameAndType 5 17), (0, u "(Ljava/lang/String;)V"), (0, .methodref 13 19), (0, .nameAndType 20 21), (0, u "fencingKey"), (0, u "(Ljava/lang/String;)Ljava/lang/String;"), (0, .methodref 23 24), (0, .class_ 25), (0, .nameAndType 26 27), (0, u "java/lang/String"), (0, u "length"), (0, u "()I"), (0, .methodref 8 29), (0, .nameAndType 30 31), (0, u "at"), (0, u "(Ljava/lang/String;IIIII)Z"), (0, .methodref 23 33), (0, .nameAndType 5 34), (0, u "([C)V"), (0, .methodref 8 36), (0, .nameAndType 37 38), (0, u "ch"), (0, u "(II)C"), (0, .methodref 23 40), (0, .nameAndType 41 42), (0, u "valueOf"), (0, u "(C)Ljava/lang/String;"), (0, .string 44), (0, u ":fence"), (0, .methodref 23 46), (0, .nameAndType 47 48), (0, u "charAt"), (0, u "(I)C"), (0, .methodref 8 50), (0, .nameAndType 51 52), (0, u "expected"), (0, u "(IIIII)C"), (2, u "law"), (0, u "(III)Z")] 3

def k1m0 : Method := { name := "<init>", desc := "()V", sig := { parameters := [], returnType := none }, accessFlags := 1, code := none }
def k1c1 : Code := { maxStack := 7, maxLocals := 10, code := code, exceptionTable := #[], attributes := #[] }
def k1m1 : Method := { name := "law", desc := "(III)Z", sig := { parameters := [.int, .int, .int], returnType := some .boolean }, accessFlags := 9, code := some k1c1 }
def k1c2 : Code := { maxStack := 3, maxLocals := 2, code := method_3_code, exceptionTable := #[], attributes := #[] }
def k1m2 : Method := { name := "ch", desc := "(II)C", sig := { parameters := [.int, .int], returnType := some .char }, accessFlags := 10, code := some k1c2 }
def k1c3 : Code := { maxStack := 7, maxLocals := 2, code := method_4_code, exceptionTable := #[], attributes := #[] }
def k1m3 : Method := { name := "draw", desc := "(II)Ljava/lang/String;", sig := { parameters := [.int, .int], returnType := some (.object "java/lang/String") }, accessFlags := 10, code := some k1c3 }
def k1c4 : Code := { maxStack := 3, maxLocals := 5, code := method_5_code, exceptionTable := #[], attributes := #[] }
def k1m4 : Method := { name := "expected", desc := "(IIIII)C", sig := { parameters := [.int, .int, .int, .int, .int], returnType := some .char }, accessFlags := 10, code := some k1c4 }
def k1c5 : Code := { maxStack := 6, maxLocals := 6, code := method_6_code, exceptionTable := #[], attributes := #[] }
def k1m5 : Method := { name := "at", desc := "(Ljava/lang/String;IIIII)Z", sig := { parameters := [(.object "java/lang/String"), .int, .int, .int, .int, .int], returnType := some .boolean }, accessFlags := 10, code := some k1c5 }
/-- com/example/limentinus/limentinus/core/KeyLayoutFencingKeyPinLaw -/
def k1 : Class := { plain "com/example/limentinus/limentinus/core/KeyLayoutFencingKeyPinLaw" (some 0) with
  accessFlags := 49
  interfaces := #[]
  cf := some (fileOf pool1 8 #[] #[{ accessFlags := 1, nameIndex := 5, descriptorIndex := 6, attributes := #[] }, { accessFlags := 9, nameIndex := 55, descriptorIndex := 56, attributes := #[] }, { accessFlags := 10, nameIndex := 37, descriptorIndex := 38, attributes := #[] }, { accessFlags := 10, nameIndex := 11, descriptorIndex := 12, attributes := #[] }, { accessFlags := 10, nameIndex := 51, descriptorIndex := 52, attributes := #[] }, { accessFlags := 10, nameIndex := 30, descriptorIndex := 31, attributes := #[] }] 49 2 #[] #[])
  fields := #[]
  methods := #[k1m0, k1m1, k1m2, k1m3, k1m4, k1m5]
  instanceTypes := #[]
  staticTypes := #[]
  resolved := Array.replicate 60 none
  statics := none }

def pool2 : Array CpInfo := pool [(1, .class_ 2), (0, u "java/io/Serializable"), (0, .class_ 4), (0, u "java/lang/Object")] 2

/-- java/io/Serializable -/
def k2 : Class := { plain "java/io/Serializable" (some 0) with
  accessFlags := 1537
  interfaces := #[]
  cf := some (fileOf pool2 1 #[] #[] 1537 3 #[] #[])
  fields := #[]
  methods := #[]
  instanceTypes := #[]
  staticTypes := #[]
  resolved := Array.replicate 7 none
  statics := none }

def pool3 : Array CpInfo := pool [(1, .class_ 2), (0, u "java/lang/Comparable"), (0, .class_ 4), (0, u "java/lang/Object")] 7

/-- java/lang/Comparable -/
def k3 : Class := { plain "java/lang/Comparable" (some 0) with
  accessFlags := 1537
  interfaces := #[]
  cf := some (fileOf pool3 1 #[] #[] 1537 3 #[] #[])
  fields := #[]
  methods := #[]
  instanceTypes := #[]
  staticTypes := #[]
  resolved := Array.replicate 12 none
  statics := none }

def pool4 : Array CpInfo := pool [(2, .class_ 4), (1, u "java/lang/CharSequence"), (42, .class_ 48), (0, u "java/lang/CharSequence$1CodePointIterator"), (10, .class_ 60), (0, u "java/lang/CharSequence$1CharIterator"), (5, .class_ 67), (0, u "java/lang/Object")] 63

/-- java/lang/CharSequence -/
def k4 : Class := { plain "java/lang/CharSequence" (some 0) with
  accessFlags := 1537
  interfaces := #[]
  cf := some (fileOf pool4 2 #[.nestMembers #[47, 59]] #[] 1537 66 #[] #[])
  fields := #[]
  methods := #[]
  instanceTypes := #[]
  staticTypes := #[]
  resolved := Array.replicate 131 none
  statics := none }

def pool5 : Array CpInfo := pool [(1, .class_ 2), (0, u "java/lang/constant/Constable"), (0, .class_ 4), (0, u "java/lang/Object")] 6

/-- java/lang/constant/Constable -/
def k5 : Class := { plain "java/lang/constant/Constable" (some 0) with
  accessFlags := 1537
  interfaces := #[]
  cf := some (fileOf pool5 1 #[] #[] 1537 3 #[] #[])
  fields := #[]
  methods := #[]
  instanceTypes := #[]
  staticTypes := #[]
  resolved := Array.replicate 11 none
  statics := none }

def pool6 : Array CpInfo := pool [(1, .class_ 2), (0, u "java/lang/constant/ConstantDesc"), (0, .class_ 4), (0, u "java/lang/Object")] 32

/-- java/lang/constant/ConstantDesc -/
def k6 : Class := { plain "java/lang/constant/ConstantDesc" (some 0) with
  accessFlags := 1537
  interfaces := #[]
  cf := some (fileOf pool6 1 #[] #[] 1537 3 #[] #[])
  fields := #[]
  methods := #[]
  instanceTypes := #[]
  staticTypes := #[]
  resolved := Array.replicate 37 none
  statics := none }

def pool7 : Array CpInfo := pool [(1, .methodref 2 3), (0, .class_ 4), (0, .nameAndType 5 6), (0, u "java/lang/Object"), (0, u "<init>"), (0, u "()V"), (0, .string 8), (0, u ""), (0, .fieldref 10 11), (0, .class_ 12), (0, .nameAndType 13 14), (0, u "java/lang/String"), (0, u "value"), (0, u "[B"), (0, .fieldref 10 16), (0, .nameAndType 17 18), (0, u "coder"), (0, u "B"), (2, u "hash"), (0, u "I"), (2, u "hashIsZero"), (0, u "Z"), (0, .methodref 10 28), (0, .nameAndType 5 29), (0, u "([CIILjava/lang/Void;)V"), (8, .fieldref 10 39), (0, .nameAndType 40 26), (0, u "COMPACT_STRINGS"), (1, .class_ 44), (1, u "java/lang/StringUTF16"), (0, u "compress"), (1, .methodref 42 48), (0, .nameAndType 49 50), (0, u "coderFromArrayLen"), (0, u "([BI)B"), (2, u "toBytes"), (0, .methodref 55 56), (0, .class_ 57), (0, .nameAndType 58 59), (0, u "java/util/Arrays"), (0, u "copyOfRange"), (0, u "([BII)[B"), (47, .class_ 109), (1, u "java/lang/StringLatin1"), (32, u "()Z"), (34, .methodref 42 178), (0, .nameAndType 45 179), (0, u "([CII)[B"), (13, .class_ 195), (1, u "java/lang/System"), (13, .methodref 10 210), (0, .nameAndType 5 211), (0, u "([BB)V"), (0, .methodref 193 213), (0, .nameAndType 214 215), (0, u "arraycopy"), (0, u "(Ljava/lang/Object;ILjava/lang/Object;II)V"), (118, u "()I"), (0, .methodref 10 336), (0, .nameAndType 17 337), (0, u "()B"), (2, u "()[B"), (22, u "([BI)C"), (5, u "(C)Z"), (21, u "(II)V"), (35, u "(I)C"), (61, .methodref 10 490), (0, .nameAndType 5 491), (0, u "(Ljava/lang/AbstractStringBuilder;Ljava/lang/Void;)V"), (0, .methodref 10 493), (0, .nameAndType 494 142), (0, u "isLatin1"), (0, .methodref 107 496), (0, .nameAndType 497 363), (0, u "charAt"), (3, u "checkIndex"), (4, .nameAndType 507 334), (0, u "length"), (24, u "getBytes"), (16, .methodref 550 506), (0, .class_ 551), (0, u "java/lang/AbstractStringBuilder"), (0, .methodref 550 553), (0, .nameAndType 554 340), (0, u "getValue"), (20, .class_ 576), (0, u "java/lang/CharSequence"), (22, u "CASE_INSENSITIVE_ORDER"), (0, u "Ljava/util/Comparator;"), (181, u "valueOf"), (0, u "(C)Ljava/lang/String;"), (37, u "([BIB)V"), (188, u "([C)V"), (4, .methodref 107 1016), (0, .nameAndType 1017 369), (0, u "canEncode"), (0, .methodref 107 1019), (0, .nameAndType 53 1020), (0, u "(C)[B"), (26, .methodref 550 493), (5, .fieldref 1054 1055), (0, .class_ 1056), (0, .nameAndType 1057 1058), (0, u "jdk/internal/util/Preconditions"), (0, u "SIOOBE_FORMATTER"), (0, u "Ljava/util/function/BiFunction;"), (0, .methodref 1054 1060), (0, .nameAndType 501 1061), (0, u "(IILjava/util/function/BiFunction;)I"), (39, u "serialPersistentFields"), (0, u "[Ljava/io/ObjectStreamField;"), (0, .class_ 1104), (0, u "java/lang/String$CaseInsensitiveComparator"), (1, .class_ 1107), (0, u "java/io/Serializable"), (0, .class_ 1109), (0, u "java/lang/Comparable"), (0, .class_ 1111), (0, u "java/lang/constant/Constable"), (0, .class_ 1113), (0, u "java/lang/constant/ConstantDesc"), (2, u "serialVersionUID"), (0, u "J"), (3, u "REPL"), (0, u "C"), (2, u "LATIN1"), (1, u "UTF16"), (105, u "(Ljava/lang/StringBuilder;)V")] 217

def k7m0 : Method := { name := "<init>", desc := "()V", sig := { parameters := [], returnType := none }, accessFlags := 1, code := none }
def k7c1 : Code := { maxStack := 5, maxLocals := 2, code := jdk_42_method_3_code, exceptionTable := #[], attributes := #[] }
def k7m1 : Method := { name := "<init>", desc := "([C)V", sig := { parameters := [(.array .char)], returnType := none }, accessFlags := 1, code := some k7c1 }
def k7c2 : Code := { maxStack := 3, maxLocals := 2, code := jdk_42_method_53_code, exceptionTable := #[], attributes := #[] }
def k7m2 : Method := { name := "<init>", desc := "(Ljava/lang/StringBuilder;)V", sig := { parameters := [(.object "java/lang/StringBuilder")], returnType := none }, accessFlags := 1, code := some k7c2 }
def k7c3 : Code := { maxStack := 2, maxLocals := 1, code := jdk_42_method_54_code, exceptionTable := #[], attributes := #[] }
def k7m3 : Method := { name := "length", desc := "()I", sig := { parameters := [], returnType := some .int }, accessFlags := 1, code := some k7c3 }
def k7c4 : Code := { maxStack := 2, maxLocals := 2, code := jdk_42_method_56_code, exceptionTable := #[], attributes := #[] }
def k7m4 : Method := { name := "charAt", desc := "(I)C", sig := { parameters := [.int], returnType := some .char }, accessFlags := 1, code := some k7c4 }
def k7c5 : Code := { maxStack := 4, maxLocals := 1, code := jdk_42_method_139_code, exceptionTable := #[], attributes := #[] }
def k7m5 : Method := { name := "valueOf", desc := "(C)Ljava/lang/String;", sig := { parameters := [.char], returnType := some (.object "java/lang/String") }, accessFlags := 9, code := some k7c5 }
def k7c6 : Code := { maxStack := 5, maxLocals := 4, code := jdk_42_method_147_code, exceptionTable := #[], attributes := #[] }
def k7m6 : Method := { name := "getBytes", desc := "([BIB)V", sig := { parameters := [(.array .byte), .int, .byte], returnType := none }, accessFlags := 0, code := some k7c6 }
def k7c7 : Code := { maxStack := 4, maxLocals := 6, code := jdk_42_method_149_code, exceptionTable := #[], attributes := #[] }
def k7m7 : Method := { name := "<init>", desc := "([CIILjava/lang/Void;)V", sig := { parameters := [(.array .char), .int, .int, (.object "java/lang/Void")], returnType := none }, accessFlags := 2, code := some k7c7 }
def k7c8 : Code := { maxStack := 5, maxLocals := 5, code := jdk_42_method_150_code, exceptionTable := #[], attributes := #[] }
def k7m8 : Method := { name := "<init>", desc := "(Ljava/lang/AbstractStringBuilder;Ljava/lang/Void;)V", sig := { parameters := [(.object "java/lang/AbstractStringBuilder"), (.object "java/lang/Void")], returnType := none }, accessFlags := 0, code := some k7c8 }
def k7c9 : Code := { maxStack := 2, maxLocals := 3, code := jdk_42_method_151_code, exceptionTable := #[], attributes := #[] }
def k7m9 : Method := { name := "<init>", desc := "([BB)V", sig := { parameters := [(.array .byte), .byte], returnType := none }, accessFlags := 0, code := some k7c9 }
def k7c10 : Code := { maxStack := 1, maxLocals := 1, code := jdk_42_method_152_code, exceptionTable := #[], attributes := #[] }
def k7m10 : Method := { name := "coder", desc := "()B", sig := { parameters := [], returnType := some .byte }, accessFlags := 0, code := some k7c10 }
def k7c11 : Code := { maxStack := 1, maxLocals := 1, code := jdk_42_method_154_code, exceptionTable := #[], attributes := #[] }
def k7m11 : Method := { name := "isLatin1", desc := "()Z", sig := { parameters := [], returnType := some .boolean }, accessFlags := 0, code := some k7c11 }
def k7c12 : Code := { maxStack := 3, maxLocals := 2, code := jdk_42_method_155_code, exceptionTable := #[], attributes := #[] }
def k7m12 : Method := { name := "checkIndex", desc := "(II)V", sig := { parameters := [.int, .int], returnType := none }, accessFlags := 8, code := some k7c12 }
/-- java/lang/String -/
def k7 : Class := { plain "java/lang/String" (some 0) with
  accessFlags := 49
  interfaces := #[2, 3, 4, 5, 6]
  cf := some (fileOf pool7 10 #[.nestMembers #[1103]] #[{ accessFlags := 1, nameIndex := 5, descriptorIndex := 6, attributes := #[] }, { accessFlags := 1, nameIndex := 5, descriptorIndex := 1010, attributes := #[] }, { accessFlags := 1, nameIndex := 5, descriptorIndex := 1233, attributes := #[] }, { accessFlags := 1, nameIndex := 507, descriptorIndex := 334, attributes := #[] }, { accessFlags := 1, nameIndex := 497, descriptorIndex := 427, attributes := #[] }, { accessFlags := 9, nameIndex := 782, descriptorIndex := 783, attributes := #[] }, { accessFlags := 0, nameIndex := 532, descriptorIndex := 821, attributes := #[] }, { accessFlags := 2, nameIndex := 5, descriptorIndex := 29, attributes := #[] }, { accessFlags := 0, nameIndex := 5, descriptorIndex := 491, attributes := #[] }, { accessFlags := 0, nameIndex := 5, descriptorIndex := 211, attributes := #[] }, { accessFlags := 0, nameIndex := 17, descriptorIndex := 337, attributes := #[] }, { accessFlags := 0, nameIndex := 494, descriptorIndex := 142, attributes := #[] }, { accessFlags := 8, nameIndex := 501, descriptorIndex := 391, attributes := #[] }] 49 2 #[1106, 1108, 575, 1110, 1112] #[{ accessFlags := 18, nameIndex := 13, descriptorIndex := 14, attributes := #[] }, { accessFlags := 18, nameIndex := 17, descriptorIndex := 18, attributes := #[] }, { accessFlags := 2, nameIndex := 21, descriptorIndex := 22, attributes := #[] }, { accessFlags := 2, nameIndex := 25, descriptorIndex := 26, attributes := #[] }, { accessFlags := 26, nameIndex := 1116, descriptorIndex := 1117, attributes := #[] }, { accessFlags := 24, nameIndex := 40, descriptorIndex := 26, attributes := #[] }, { accessFlags := 26, nameIndex := 1101, descriptorIndex := 1102, attributes := #[] }, { accessFlags := 26, nameIndex := 1121, descriptorIndex := 1122, attributes := #[] }, { accessFlags := 25, nameIndex := 599, descriptorIndex := 600, attributes := #[] }, { accessFlags := 24, nameIndex := 1125, descriptorIndex := 18, attributes := #[] }, { accessFlags := 24, nameIndex := 1127, descriptorIndex := 18, attributes := #[] }])
  fields := #[{ name := "value", type := (.array .byte), accessFlags := 18, slot := 0, constantValue := 0 }, { name := "coder", type := .byte, accessFlags := 18, slot := 1, constantValue := 0 }, { name := "hash", type := .int, accessFlags := 2, slot := 2, constantValue := 0 }, { name := "hashIsZero", type := .boolean, accessFlags := 2, slot := 3, constantValue := 0 }, { name := "serialVersionUID", type := .long, accessFlags := 26, slot := 0, constantValue := 0 }, { name := "COMPACT_STRINGS", type := .boolean, accessFlags := 24, slot := 1, constantValue := 0 }, { name := "serialPersistentFields", type := (.array (.object "java/io/ObjectStreamField")), accessFlags := 26, slot := 2, constantValue := 0 }, { name := "REPL", type := .char, accessFlags := 26, slot := 3, constantValue := 0 }, { name := "CASE_INSENSITIVE_ORDER", type := (.object "java/util/Comparator"), accessFlags := 25, slot := 4, constantValue := 0 }, { name := "LATIN1", type := .byte, accessFlags := 24, slot := 5, constantValue := 0 }, { name := "UTF16", type := .byte, accessFlags := 24, slot := 6, constantValue := 0 }]
  methods := #[k7m0, k7m1, k7m2, k7m3, k7m4, k7m5, k7m6, k7m7, k7m8, k7m9, k7m10, k7m11, k7m12]
  instanceTypes := #[(.array .byte), .byte, .int, .boolean]
  staticTypes := #[.long, .boolean, (.array (.object "java/io/ObjectStreamField")), .char, (.object "java/util/Comparator"), .byte, .byte]
  resolved := Array.replicate 1451 none
  statics := some 0 }

def pool8 : Array CpInfo := pool [(6, .class_ 8), (1, u "java/lang/Object"), (0, u "<init>"), (0, u "()V"), (1, .class_ 14), (1, u "java/lang/StringUTF16"), (31, u "$assertionsDisabled"), (0, u "Z"), (13, u "HI_BYTE_SHIFT"), (0, u "I"), (2, u "LO_BYTE_SHIFT"), (49, .methodref 12 116), (0, .nameAndType 117 118), (0, u "compress"), (0, u "([CI[BII)I"), (3, u "([CII)[B"), (138, u "coderFromArrayLen"), (0, u "([BI)B"), (106, .class_ 371), (1, u "java/lang/StringUTF16$LinesSpliterator"), (58, u "MAX_LENGTH"), (196, .class_ 628), (0, u "java/lang/StringUTF16$CodePointsSpliterator"), (0, .class_ 630), (0, u "java/lang/StringUTF16$CharsSpliterator")] 4

def k8m0 : Method := { name := "<init>", desc := "()V", sig := { parameters := [], returnType := none }, accessFlags := 0, code := none }
def k8c1 : Code := { maxStack := 2, maxLocals := 2, code := jdk_52_method_15_code, exceptionTable := #[], attributes := #[] }
def k8m1 : Method := { name := "coderFromArrayLen", desc := "([BI)B", sig := { parameters := [(.array .byte), .int], returnType := some .byte }, accessFlags := 8, code := some k8c1 }
def k8c2 : Code := { maxStack := 5, maxLocals := 6, code := jdk_52_method_16_code, exceptionTable := #[], attributes := #[] }
def k8m2 : Method := { name := "compress", desc := "([CII)[B", sig := { parameters := [(.array .char), .int, .int], returnType := some (.array .byte) }, accessFlags := 9, code := some k8c2 }
def k8c3 : Code := { maxStack := 3, maxLocals := 7, code := jdk_52_method_21_code, exceptionTable := #[], attributes := #[] }
def k8m3 : Method := { name := "compress", desc := "([CI[BII)I", sig := { parameters := [(.array .char), .int, (.array .byte), .int, .int], returnType := some .int }, accessFlags := 9, code := some k8c3 }
/-- java/lang/StringUTF16 -/
def k8 : Class := { plain "java/lang/StringUTF16" (some 0) with
  accessFlags := 48
  interfaces := #[]
  cf := some (fileOf pool8 12 #[.nestMembers #[627, 629, 369]] #[{ accessFlags := 0, nameIndex := 9, descriptorIndex := 10, attributes := #[] }, { accessFlags := 8, nameIndex := 261, descriptorIndex := 262, attributes := #[] }, { accessFlags := 9, nameIndex := 117, descriptorIndex := 122, attributes := #[] }, { accessFlags := 9, nameIndex := 117, descriptorIndex := 118, attributes := #[] }] 48 6 #[] #[{ accessFlags := 26, nameIndex := 61, descriptorIndex := 62, attributes := #[] }, { accessFlags := 26, nameIndex := 65, descriptorIndex := 62, attributes := #[] }, { accessFlags := 24, nameIndex := 430, descriptorIndex := 62, attributes := #[] }, { accessFlags := 4120, nameIndex := 46, descriptorIndex := 47, attributes := #[] }])
  fields := #[{ name := "HI_BYTE_SHIFT", type := .int, accessFlags := 26, slot := 0, constantValue := 0 }, { name := "LO_BYTE_SHIFT", type := .int, accessFlags := 26, slot := 1, constantValue := 0 }, { name := "MAX_LENGTH", type := .int, accessFlags := 24, slot := 2, constantValue := 0 }, { name := "$assertionsDisabled", type := .boolean, accessFlags := 4120, slot := 3, constantValue := 0 }]
  methods := #[k8m0, k8m1, k8m2, k8m3]
  instanceTypes := #[]
  staticTypes := #[.int, .int, .int, .boolean]
  resolved := Array.replicate 635 none
  statics := none }

def pool9 : Array CpInfo := pool [(1, .methodref 2 3), (0, .class_ 4), (0, .nameAndType 5 6), (0, u "java/lang/Object"), (0, u "<init>"), (0, u "()V"), (0, .string 8), (0, u "prefix"), (0, .methodref 10 11), (0, .class_ 12), (0, .nameAndType 13 14), (0, u "java/util/Objects"), (0, u "requireNonNull"), (0, u "(Ljava/lang/Object;Ljava/lang/String;)Ljava/lang/Object;"), (0, .class_ 16), (0, u "java/lang/String"), (0, .fieldref 18 19), (0, .class_ 20), (0, .nameAndType 8 21), (0, u "com/example/limentinus/limentinus/core/KeyLayout"), (0, u "Ljava/lang/String;"), (0, .class_ 23), (0, u "java/lang/StringBuilder"), (0, .methodref 22 3), (0, .methodref 22 26), (0, .nameAndType 27 28), (0, u "append"), (0, u "(Ljava/lang/String;)Ljava/lang/StringBuilder;"), (0, .methodref 22 30), (0, .nameAndType 31 32), (0, u "toString"), (0, u "()Ljava/lang/String;"), (0, .methodref 18 34), (0, .nameAndType 35 36), (0, u "key"), (0, u "(Ljava/lang/String;)Ljava/lang/String;"), (0, .fieldref 38 39), (0, .class_ 40), (0, .nameAndType 41 42), (0, u "com/example/limentinus/limentinus/core/KeyLayout$Suffix"), (0, u "FENCE"), (0, u "Lcom/example/limentinus/limentinus/core/KeyLayout$Suffix;"), (0, .fieldref 38 44), (0, .nameAndType 45 21), (0, u "text"), (49, u "(Ljava/lang/String;)V"), (2, u "fencingKey")] 11

def k9c0 : Code := { maxStack := 3, maxLocals := 2, code := prog_19_method_1_code, exceptionTable := #[], attributes := #[] }
def k9m0 : Method := { name := "<init>", desc := "(Ljava/lang/String;)V", sig := { parameters := [(.object "java/lang/String")], returnType := none }, accessFlags := 0, code := some k9c0 }
def k9c1 : Code := { maxStack := 2, maxLocals := 2, code := prog_19_method_2_code, exceptionTable := #[], attributes := #[] }
def k9m1 : Method := { name := "key", desc := "(Ljava/lang/String;)Ljava/lang/String;", sig := { parameters := [(.object "java/lang/String")], returnType := some (.object "java/lang/String") }, accessFlags := 0, code := some k9c1 }
def k9c2 : Code := { maxStack := 3, maxLocals := 2, code := prog_19_method_3_code, exceptionTable := #[], attributes := #[] }
def k9m2 : Method := { name := "fencingKey", desc := "(Ljava/lang/String;)Ljava/lang/String;", sig := { parameters := [(.object "java/lang/String")], returnType := some (.object "java/lang/String") }, accessFlags := 0, code := some k9c2 }
/-- com/example/limentinus/limentinus/core/KeyLayout -/
def k9 : Class := { plain "com/example/limentinus/limentinus/core/KeyLayout" (some 0) with
  accessFlags := 32
  interfaces := #[]
  cf := some (fileOf pool9 18 #[.nestMembers #[38]] #[{ accessFlags := 0, nameIndex := 5, descriptorIndex := 95, attributes := #[] }, { accessFlags := 0, nameIndex := 35, descriptorIndex := 36, attributes := #[] }, { accessFlags := 0, nameIndex := 98, descriptorIndex := 36, attributes := #[] }] 32 2 #[] #[{ accessFlags := 18, nameIndex := 8, descriptorIndex := 21, attributes := #[] }])
  fields := #[{ name := "prefix", type := (.object "java/lang/String"), accessFlags := 18, slot := 0, constantValue := 0 }]
  methods := #[k9m0, k9m1, k9m2]
  instanceTypes := #[(.object "java/lang/String")]
  staticTypes := #[]
  resolved := (List.replicate 43 none ++ [some (Resolved.field 18 2)] ++ List.replicate 66 none).toArray
  statics := none }

def pool10 : Array CpInfo := pool [(2, .class_ 4), (1, u "java/lang/Object"), (0, u "<init>"), (0, u "()V"), (35, .class_ 44), (1, u "java/util/Objects"), (0, u "requireNonNull"), (48, u "(Ljava/lang/Object;Ljava/lang/String;)Ljava/lang/Object;")] 89

def k10m0 : Method := { name := "<init>", desc := "()V", sig := { parameters := [], returnType := none }, accessFlags := 2, code := none }
def k10c1 : Code := { maxStack := 3, maxLocals := 2, code := jdk_31_method_11_code, exceptionTable := #[], attributes := #[] }
def k10m1 : Method := { name := "requireNonNull", desc := "(Ljava/lang/Object;Ljava/lang/String;)Ljava/lang/Object;", sig := { parameters := [(.object "java/lang/Object"), (.object "java/lang/String")], returnType := some (.object "java/lang/Object") }, accessFlags := 9, code := some k10c1 }
/-- java/util/Objects -/
def k10 : Class := { plain "java/util/Objects" (some 0) with
  accessFlags := 49
  interfaces := #[]
  cf := some (fileOf pool10 42 #[] #[{ accessFlags := 2, nameIndex := 5, descriptorIndex := 6, attributes := #[] }, { accessFlags := 9, nameIndex := 45, descriptorIndex := 94, attributes := #[] }] 49 2 #[] #[])
  fields := #[]
  methods := #[k10m0, k10m1]
  instanceTypes := #[]
  staticTypes := #[]
  resolved := Array.replicate 184 none
  statics := none }

def pool11 : Array CpInfo := pool [(1, .class_ 2), (0, u "java/lang/Appendable"), (0, .class_ 4), (0, u "java/lang/Object")] 9

/-- java/lang/Appendable -/
def k11 : Class := { plain "java/lang/Appendable" (some 0) with
  accessFlags := 1537
  interfaces := #[]
  cf := some (fileOf pool11 1 #[] #[] 1537 3 #[] #[])
  fields := #[]
  methods := #[]
  instanceTypes := #[]
  staticTypes := #[]
  resolved := Array.replicate 14 none
  statics := none }

def pool12 : Array CpInfo := pool [(1, .class_ 2), (0, u "java/lang/String"), (0, .methodref 4 5), (0, .class_ 6), (0, .nameAndType 7 8), (0, u "java/lang/Object"), (0, u "<init>"), (0, u "()V"), (1, .class_ 12), (1, u "java/lang/AbstractStringBuilder"), (0, u "EMPTYVALUE"), (0, u "[B"), (0, .fieldref 10 16), (0, .nameAndType 17 14), (0, u "value"), (0, .fieldref 1 19), (0, .nameAndType 20 21), (0, u "COMPACT_STRINGS"), (0, u "Z"), (0, .fieldref 10 23), (0, .nameAndType 24 25), (0, u "coder"), (0, u "B"), (6, .methodref 1 33), (0, .nameAndType 34 35), (0, u "length"), (0, u "()I"), (4, .methodref 1 41), (0, .nameAndType 24 42), (0, u "()B"), (2, u "append"), (0, u "(Ljava/lang/String;)Ljava/lang/AbstractStringBuilder;"), (1, .class_ 49), (0, u "java/lang/CharSequence"), (19, u "(Ljava/lang/String;)V"), (5, u "maybeLatin1"), (3, .fieldref 10 80), (0, .nameAndType 81 82), (0, u "count"), (0, u "I"), (2, u "isLatin1"), (0, u "()Z"), (13, .methodref 10 101), (0, .nameAndType 102 103), (0, u "ensureCapacityInternal"), (0, u "(I)V"), (104, .methodref 10 209), (0, .nameAndType 210 211), (0, u "putStringAt"), (0, u "(ILjava/lang/String;)V"), (5, u "inflateIfNeededFor"), (2, .nameAndType 221 222), (0, u "getBytes"), (0, u "([BIB)V"), (174, .methodref 10 398), (0, .nameAndType 217 69), (0, .methodref 1 220), (3, u "()[B"), (40, .class_ 445), (0, u "java/lang/Appendable"), (106, u "getValue")] 56

def k12m0 : Method := { name := "<init>", desc := "()V", sig := { parameters := [], returnType := none }, accessFlags := 0, code := none }
def k12c1 : Code := { maxStack := 2, maxLocals := 2, code := jdk_68_method_2_code, exceptionTable := #[], attributes := #[] }
def k12m1 : Method := { name := "<init>", desc := "(I)V", sig := { parameters := [.int], returnType := none }, accessFlags := 0, code := some k12c1 }
def k12c2 : Code := { maxStack := 1, maxLocals := 1, code := jdk_68_method_6_code, exceptionTable := #[], attributes := #[] }
def k12m2 : Method := { name := "length", desc := "()I", sig := { parameters := [], returnType := some .int }, accessFlags := 1, code := some k12c2 }
def k12c3 : Code := { maxStack := 4, maxLocals := 3, code := jdk_68_method_9_code, exceptionTable := #[], attributes := #[] }
def k12m3 : Method := { name := "ensureCapacityInternal", desc := "(I)V", sig := { parameters := [.int], returnType := none }, accessFlags := 2, code := some k12c3 }
def k12c4 : Code := { maxStack := 3, maxLocals := 3, code := jdk_68_method_22_code, exceptionTable := #[], attributes := #[] }
def k12m4 : Method := { name := "append", desc := "(Ljava/lang/String;)Ljava/lang/AbstractStringBuilder;", sig := { parameters := [(.object "java/lang/String")], returnType := some (.object "java/lang/AbstractStringBuilder") }, accessFlags := 1, code := some k12c4 }
def k12c5 : Code := { maxStack := 1, maxLocals := 1, code := jdk_68_method_64_code, exceptionTable := #[], attributes := #[] }
def k12m5 : Method := { name := "getValue", desc := "()[B", sig := { parameters := [], returnType := some (.array .byte) }, accessFlags := 16, code := some k12c5 }
def k12c6 : Code := { maxStack := 1, maxLocals := 1, code := jdk_68_method_68_code, exceptionTable := #[], attributes := #[] }
def k12m6 : Method := { name := "isLatin1", desc := "()Z", sig := { parameters := [], returnType := some .boolean }, accessFlags := 16, code := some k12c6 }
def k12c7 : Code := { maxStack := 2, maxLocals := 2, code := jdk_68_method_71_code, exceptionTable := #[], attributes := #[] }
def k12m7 : Method := { name := "inflateIfNeededFor", desc := "(Ljava/lang/String;)V", sig := { parameters := [(.object "java/lang/String")], returnType := none }, accessFlags := 2, code := some k12c7 }
def k12c8 : Code := { maxStack := 4, maxLocals := 3, code := jdk_68_method_73_code, exceptionTable := #[], attributes := #[] }
def k12m8 : Method := { name := "putStringAt", desc := "(ILjava/lang/String;)V", sig := { parameters := [.int, (.object "java/lang/String")], returnType := none }, accessFlags := 2, code := some k12c8 }
/-- java/lang/AbstractStringBuilder -/
def k12 : Class := { plain "java/lang/AbstractStringBuilder" (some 0) with
  accessFlags := 1056
  interfaces := #[11, 4]
  cf := some (fileOf pool12 10 #[] #[{ accessFlags := 0, nameIndex := 7, descriptorIndex := 8, attributes := #[] }, { accessFlags := 0, nameIndex := 7, descriptorIndex := 103, attributes := #[] }, { accessFlags := 1, nameIndex := 34, descriptorIndex := 35, attributes := #[] }, { accessFlags := 2, nameIndex := 102, descriptorIndex := 103, attributes := #[] }, { accessFlags := 1, nameIndex := 45, descriptorIndex := 46, attributes := #[] }, { accessFlags := 16, nameIndex := 552, descriptorIndex := 403, attributes := #[] }, { accessFlags := 16, nameIndex := 85, descriptorIndex := 86, attributes := #[] }, { accessFlags := 2, nameIndex := 217, descriptorIndex := 69, attributes := #[] }, { accessFlags := 2, nameIndex := 210, descriptorIndex := 211, attributes := #[] }] 1056 4 #[444, 48] #[{ accessFlags := 0, nameIndex := 17, descriptorIndex := 14, attributes := #[] }, { accessFlags := 0, nameIndex := 24, descriptorIndex := 25, attributes := #[] }, { accessFlags := 0, nameIndex := 75, descriptorIndex := 21, attributes := #[] }, { accessFlags := 0, nameIndex := 81, descriptorIndex := 82, attributes := #[] }, { accessFlags := 26, nameIndex := 13, descriptorIndex := 14, attributes := #[] }])
  fields := #[{ name := "value", type := (.array .byte), accessFlags := 0, slot := 0, constantValue := 0 }, { name := "coder", type := .byte, accessFlags := 0, slot := 1, constantValue := 0 }, { name := "maybeLatin1", type := .boolean, accessFlags := 0, slot := 2, constantValue := 0 }, { name := "count", type := .int, accessFlags := 0, slot := 3, constantValue := 0 }, { name := "EMPTYVALUE", type := (.array .byte), accessFlags := 26, slot := 0, constantValue := 0 }]
  methods := #[k12m0, k12m1, k12m2, k12m3, k12m4, k12m5, k12m6, k12m7, k12m8]
  instanceTypes := #[(.array .byte), .byte, .boolean, .int]
  staticTypes := #[(.array .byte)]
  resolved := Array.replicate 609 none
  statics := none }

def pool13 : Array CpInfo := pool [(1, .methodref 2 3), (0, .class_ 4), (0, .nameAndType 5 6), (0, u "java/lang/AbstractStringBuilder"), (0, u "<init>"), (0, u "(I)V"), (11, .class_ 20), (1, u "java/lang/String"), (3, .class_ 26), (1, u "java/lang/StringBuilder"), (0, u "append"), (0, u "(Ljava/lang/String;)Ljava/lang/StringBuilder;"), (0, .methodref 2 30), (0, .nameAndType 27 31), (0, u "(Ljava/lang/String;)Ljava/lang/AbstractStringBuilder;"), (105, .methodref 18 138), (0, .nameAndType 5 139), (0, u "(Ljava/lang/StringBuilder;)V"), (5, u "()V"), (10, u "()I"), (186, .methodref 2 344), (0, .nameAndType 345 156), (0, u "length"), (3, .class_ 350), (0, u "java/lang/Appendable"), (0, .class_ 352), (0, u "java/io/Serializable"), (0, .class_ 354), (0, u "java/lang/Comparable"), (0, .class_ 356), (0, u "java/lang/CharSequence"), (0, u "serialVersionUID"), (0, u "J"), (40, u "toString"), (0, u "()Ljava/lang/String;")] 21

def k13c0 : Code := { maxStack := 2, maxLocals := 1, code := jdk_67_method_1_code, exceptionTable := #[], attributes := #[] }
def k13m0 : Method := { name := "<init>", desc := "()V", sig := { parameters := [], returnType := none }, accessFlags := 1, code := some k13c0 }
def k13c1 : Code := { maxStack := 2, maxLocals := 2, code := jdk_67_method_7_code, exceptionTable := #[], attributes := #[] }
def k13m1 : Method := { name := "append", desc := "(Ljava/lang/String;)Ljava/lang/StringBuilder;", sig := { parameters := [(.object "java/lang/String")], returnType := some (.object "java/lang/StringBuilder") }, accessFlags := 1, code := some k13c1 }
def k13c2 : Code := { maxStack := 3, maxLocals := 1, code := jdk_67_method_42_code, exceptionTable := #[], attributes := #[] }
def k13m2 : Method := { name := "toString", desc := "()Ljava/lang/String;", sig := { parameters := [], returnType := some (.object "java/lang/String") }, accessFlags := 1, code := some k13c2 }
def k13c3 : Code := { maxStack := 1, maxLocals := 1, code := jdk_67_method_93_code, exceptionTable := #[], attributes := #[] }
def k13m3 : Method := { name := "length", desc := "()I", sig := { parameters := [], returnType := some .int }, accessFlags := 4161, code := some k13c3 }
/-- java/lang/StringBuilder -/
def k13 : Class := { plain "java/lang/StringBuilder" (some 12) with
  accessFlags := 49
  interfaces := #[11, 2, 3, 4]
  cf := some (fileOf pool13 24 #[] #[{ accessFlags := 1, nameIndex := 5, descriptorIndex := 145, attributes := #[] }, { accessFlags := 1, nameIndex := 27, descriptorIndex := 28, attributes := #[] }, { accessFlags := 1, nameIndex := 399, descriptorIndex := 400, attributes := #[] }, { accessFlags := 4161, nameIndex := 345, descriptorIndex := 156, attributes := #[] }] 49 2 #[349, 351, 353, 355] #[{ accessFlags := 24, nameIndex := 357, descriptorIndex := 358, attributes := #[] }])
  fields := #[{ name := "serialVersionUID", type := .long, accessFlags := 24, slot := 0, constantValue := 0 }]
  methods := #[k13m0, k13m1, k13m2, k13m3]
  instanceTypes := #[(.array .byte), .byte, .boolean, .int]
  staticTypes := #[.long]
  resolved := Array.replicate 422 none
  statics := none }

def pool14 : Array CpInfo := pool [(2, .class_ 4), (1, u "java/lang/Object"), (0, u "<init>"), (0, u "()V"), (1, .class_ 10), (1, u "java/lang/System"), (0, u "allowSecurityManager"), (0, u "I"), (16, u "cons"), (0, u "Ljava/io/Console;"), (77, .class_ 110), (1, u "java/lang/System$CallersHolder"), (43, u "initialErrStream"), (0, u "Ljava/io/PrintStream;"), (19, u "security"), (0, u "Ljava/lang/SecurityManager;"), (31, .class_ 209), (0, u "java/lang/System$1"), (7, u "props"), (0, u "Ljava/util/Properties;"), (2, u "lineSeparator"), (0, u "Ljava/lang/String;"), (96, .class_ 321), (1, u "java/lang/System$LoggerFinder"), (5, .class_ 328), (0, u "java/lang/System$Logger"), (67, u "err"), (2, u "out"), (91, u "notSupportedJnuEncoding"), (15, u "in"), (17, u "initialIn"), (0, u "Ljava/io/InputStream;"), (35, u "bootLayer"), (0, u "Ljava/lang/ModuleLayer;"), (99, .class_ 664), (0, u "java/lang/System$2"), (9, u "NEVER"), (2, u "MAYBE"), (49, u "arraycopy"), (0, u "(Ljava/lang/Object;ILjava/lang/Object;II)V"), (72, .class_ 802), (0, u "java/lang/System$Logger$Level")] 31

def k14m0 : Method := { name := "<init>", desc := "()V", sig := { parameters := [], returnType := none }, accessFlags := 2, code := none }
def k14m1 : Method := { name := "arraycopy", desc := "(Ljava/lang/Object;ILjava/lang/Object;II)V", sig := { parameters := [(.object "java/lang/Object"), .int, (.object "java/lang/Object"), .int, .int], returnType := none }, accessFlags := 265, code := none }
/-- java/lang/System -/
def k14 : Class := { plain "java/lang/System" (some 0) with
  accessFlags := 49
  interfaces := #[]
  cf := some (fileOf pool14 8 #[.nestMembers #[319, 327, 801, 108, 663, 208]] #[{ accessFlags := 2, nameIndex := 5, descriptorIndex := 6, attributes := #[] }, { accessFlags := 265, nameIndex := 727, descriptorIndex := 728, attributes := #[] }] 49 2 #[] #[{ accessFlags := 25, nameIndex := 507, descriptorIndex := 526, attributes := #[] }, { accessFlags := 25, nameIndex := 399, descriptorIndex := 155, attributes := #[] }, { accessFlags := 25, nameIndex := 396, descriptorIndex := 155, attributes := #[] }, { accessFlags := 10, nameIndex := 525, descriptorIndex := 526, attributes := #[] }, { accessFlags := 26, nameIndex := 674, descriptorIndex := 12, attributes := #[] }, { accessFlags := 26, nameIndex := 677, descriptorIndex := 12, attributes := #[] }, { accessFlags := 10, nameIndex := 11, descriptorIndex := 12, attributes := #[] }, { accessFlags := 74, nameIndex := 175, descriptorIndex := 176, attributes := #[] }, { accessFlags := 10, nameIndex := 491, descriptorIndex := 222, attributes := #[] }, { accessFlags := 74, nameIndex := 29, descriptorIndex := 30, attributes := #[] }, { accessFlags := 74, nameIndex := 154, descriptorIndex := 155, attributes := #[] }, { accessFlags := 10, nameIndex := 217, descriptorIndex := 218, attributes := #[] }, { accessFlags := 10, nameIndex := 221, descriptorIndex := 222, attributes := #[] }, { accessFlags := 8, nameIndex := 562, descriptorIndex := 563, attributes := #[] }])
  fields := #[{ name := "in", type := (.object "java/io/InputStream"), accessFlags := 25, slot := 0, constantValue := 0 }, { name := "out", type := (.object "java/io/PrintStream"), accessFlags := 25, slot := 1, constantValue := 0 }, { name := "err", type := (.object "java/io/PrintStream"), accessFlags := 25, slot := 2, constantValue := 0 }, { name := "initialIn", type := (.object "java/io/InputStream"), accessFlags := 10, slot := 3, constantValue := 0 }, { name := "NEVER", type := .int, accessFlags := 26, slot := 4, constantValue := 0 }, { name := "MAYBE", type := .int, accessFlags := 26, slot := 5, constantValue := 0 }, { name := "allowSecurityManager", type := .int, accessFlags := 10, slot := 6, constantValue := 0 }, { name := "security", type := (.object "java/lang/SecurityManager"), accessFlags := 74, slot := 7, constantValue := 0 }, { name := "notSupportedJnuEncoding", type := (.object "java/lang/String"), accessFlags := 10, slot := 8, constantValue := 0 }, { name := "cons", type := (.object "java/io/Console"), accessFlags := 74, slot := 9, constantValue := 0 }, { name := "initialErrStream", type := (.object "java/io/PrintStream"), accessFlags := 74, slot := 10, constantValue := 0 }, { name := "props", type := (.object "java/util/Properties"), accessFlags := 10, slot := 11, constantValue := 0 }, { name := "lineSeparator", type := (.object "java/lang/String"), accessFlags := 10, slot := 12, constantValue := 0 }, { name := "bootLayer", type := (.object "java/lang/ModuleLayer"), accessFlags := 8, slot := 13, constantValue := 0 }]
  methods := #[k14m0, k14m1]
  instanceTypes := #[]
  staticTypes := #[(.object "java/io/InputStream"), (.object "java/io/PrintStream"), (.object "java/io/PrintStream"), (.object "java/io/InputStream"), .int, .int, .int, (.object "java/lang/SecurityManager"), (.object "java/lang/String"), (.object "java/io/Console"), (.object "java/io/PrintStream"), (.object "java/util/Properties"), (.object "java/lang/String"), (.object "java/lang/ModuleLayer")]
  resolved := Array.replicate 834 none
  statics := none }

def pool15 : Array CpInfo := pool [(2, .class_ 4), (1, u "java/lang/Object"), (0, u "<init>"), (0, u "()V"), (7, .class_ 16), (1, u "java/util/Arrays"), (57, .class_ 76), (1, u "java/util/Arrays$NaturalOrder"), (36, .class_ 115), (1, u "java/util/Arrays$LegacyMergeSort"), (1, u "Z"), (21, u "copyOfRange"), (10, .methodref 151 152), (0, .class_ 153), (0, .nameAndType 154 155), (0, u "java/lang/System"), (0, u "arraycopy"), (0, u "(Ljava/lang/Object;ILjava/lang/Object;II)V"), (148, .methodref 305 306), (0, .class_ 307), (0, .nameAndType 308 309), (0, u "java/lang/Math"), (0, u "min"), (0, u "(II)I"), (29, .methodref 14 340), (0, .nameAndType 341 342), (0, u "copyOfRangeByte"), (0, u "([BII)[B"), (0, .methodref 14 344), (0, .nameAndType 345 346), (0, u "checkLength"), (0, u "(II)V"), (28, .class_ 376), (0, u "java/util/Arrays$ArrayList"), (68, u "$assertionsDisabled"), (269, u "MIN_ARRAY_SORT_GRAN"), (0, u "I"), (2, u "INSERTIONSORT_THRESHOLD"), (255, .class_ 976), (0, u "java/util/Arrays$ArrayItr")] 52

def k15m0 : Method := { name := "<init>", desc := "()V", sig := { parameters := [], returnType := none }, accessFlags := 2, code := none }
def k15c1 : Code := { maxStack := 4, maxLocals := 2, code := jdk_65_method_131_code, exceptionTable := #[], attributes := #[] }
def k15m1 : Method := { name := "checkLength", desc := "(II)V", sig := { parameters := [.int, .int], returnType := none }, accessFlags := 10, code := some k15c1 }
def k15c2 : Code := { maxStack := 3, maxLocals := 3, code := jdk_65_method_132_code, exceptionTable := #[], attributes := #[] }
def k15m2 : Method := { name := "copyOfRange", desc := "([BII)[B", sig := { parameters := [(.array .byte), .int, .int], returnType := some (.array .byte) }, accessFlags := 9, code := some k15c2 }
def k15c3 : Code := { maxStack := 6, maxLocals := 5, code := jdk_65_method_133_code, exceptionTable := #[], attributes := #[] }
def k15m3 : Method := { name := "copyOfRangeByte", desc := "([BII)[B", sig := { parameters := [(.array .byte), .int, .int], returnType := some (.array .byte) }, accessFlags := 10, code := some k15c3 }
/-- java/util/Arrays -/
def k15 : Class := { plain "java/util/Arrays" (some 0) with
  accessFlags := 49
  interfaces := #[]
  cf := some (fileOf pool15 14 #[.nestMembers #[975, 375, 113, 74]] #[{ accessFlags := 2, nameIndex := 5, descriptorIndex := 6, attributes := #[] }, { accessFlags := 10, nameIndex := 345, descriptorIndex := 346, attributes := #[] }, { accessFlags := 9, nameIndex := 139, descriptorIndex := 342, attributes := #[] }, { accessFlags := 10, nameIndex := 341, descriptorIndex := 342, attributes := #[] }] 49 2 #[] #[{ accessFlags := 26, nameIndex := 715, descriptorIndex := 716, attributes := #[] }, { accessFlags := 26, nameIndex := 719, descriptorIndex := 716, attributes := #[] }, { accessFlags := 4120, nameIndex := 445, descriptorIndex := 117, attributes := #[] }])
  fields := #[{ name := "MIN_ARRAY_SORT_GRAN", type := .int, accessFlags := 26, slot := 0, constantValue := 0 }, { name := "INSERTIONSORT_THRESHOLD", type := .int, accessFlags := 26, slot := 1, constantValue := 0 }, { name := "$assertionsDisabled", type := .boolean, accessFlags := 4120, slot := 2, constantValue := 0 }]
  methods := #[k15m0, k15m1, k15m2, k15m3]
  instanceTypes := #[]
  staticTypes := #[.int, .int, .boolean]
  resolved := Array.replicate 1029 none
  statics := none }

def pool16 : Array CpInfo := pool [(1, .class_ 2), (0, u "java/lang/Math"), (1, .class_ 6), (1, u "java/lang/Object"), (0, u "<init>"), (0, u "()V"), (89, .class_ 100), (1, u "java/lang/Math$RandomNumberGeneratorHolder"), (71, u "negativeZeroFloatBits"), (0, u "J"), (2, u "negativeZeroDoubleBits"), (24, u "min"), (43, u "$assertionsDisabled"), (0, u "Z"), (88, u "(II)I"), (2, u "twoToTheDoubleScaleDown"), (0, u "D"), (4, u "twoToTheDoubleScaleUp"), (9, u "E"), (3, u "PI"), (2, u "TAU"), (2, u "DEGREES_TO_RADIANS"), (0, u "RADIANS_TO_DEGREES")] 94

def k16m0 : Method := { name := "<init>", desc := "()V", sig := { parameters := [], returnType := none }, accessFlags := 2, code := none }
def k16c1 : Code := { maxStack := 2, maxLocals := 2, code := jdk_29_method_69_code, exceptionTable := #[], attributes := #[] }
def k16m1 : Method := { name := "min", desc := "(II)I", sig := { parameters := [.int, .int], returnType := some .int }, accessFlags := 9, code := some k16c1 }
/-- java/lang/Math -/
def k16 : Class := { plain "java/lang/Math" (some 0) with
  accessFlags := 49
  interfaces := #[]
  cf := some (fileOf pool16 1 #[.nestMembers #[98]] #[{ accessFlags := 2, nameIndex := 7, descriptorIndex := 8, attributes := #[] }, { accessFlags := 9, nameIndex := 201, descriptorIndex := 335, attributes := #[] }] 49 4 #[] #[{ accessFlags := 25, nameIndex := 354, descriptorIndex := 339, attributes := #[] }, { accessFlags := 25, nameIndex := 358, descriptorIndex := 339, attributes := #[] }, { accessFlags := 25, nameIndex := 361, descriptorIndex := 339, attributes := #[] }, { accessFlags := 26, nameIndex := 364, descriptorIndex := 339, attributes := #[] }, { accessFlags := 26, nameIndex := 365, descriptorIndex := 339, attributes := #[] }, { accessFlags := 26, nameIndex := 172, descriptorIndex := 173, attributes := #[] }, { accessFlags := 26, nameIndex := 176, descriptorIndex := 173, attributes := #[] }, { accessFlags := 8, nameIndex := 344, descriptorIndex := 339, attributes := #[] }, { accessFlags := 8, nameIndex := 338, descriptorIndex := 339, attributes := #[] }, { accessFlags := 4120, nameIndex := 245, descriptorIndex := 246, attributes := #[] }])
  fields := #[{ name := "E", type := .double, accessFlags := 25, slot := 0, constantValue := 0 }, { name := "PI", type := .double, accessFlags := 25, slot := 1, constantValue := 0 }, { name := "TAU", type := .double, accessFlags := 25, slot := 2, constantValue := 0 }, { name := "DEGREES_TO_RADIANS", type := .double, accessFlags := 26, slot := 3, constantValue := 0 }, { name := "RADIANS_TO_DEGREES", type := .double, accessFlags := 26, slot := 4, constantValue := 0 }, { name := "negativeZeroFloatBits", type := .long, accessFlags := 26, slot := 5, constantValue := 0 }, { name := "negativeZeroDoubleBits", type := .long, accessFlags := 26, slot := 6, constantValue := 0 }, { name := "twoToTheDoubleScaleUp", type := .double, accessFlags := 8, slot := 7, constantValue := 0 }, { name := "twoToTheDoubleScaleDown", type := .double, accessFlags := 8, slot := 8, constantValue := 0 }, { name := "$assertionsDisabled", type := .boolean, accessFlags := 4120, slot := 9, constantValue := 0 }]
  methods := #[k16m0, k16m1]
  instanceTypes := #[]
  staticTypes := #[.double, .double, .double, .double, .double, .long, .long, .double, .double, .boolean]
  resolved := Array.replicate 460 none
  statics := none }

def pool17 : Array CpInfo := pool [(2, .class_ 4), (1, u "java/lang/Enum"), (0, u "name"), (0, u "Ljava/lang/String;"), (2, u "ordinal"), (0, u "I"), (1, .class_ 14), (1, u "java/lang/Object"), (4, u "hash"), (86, .class_ 108), (1, u "java/lang/Enum$EnumDesc"), (2, .class_ 112), (0, u "java/lang/constant/Constable"), (0, .class_ 114), (0, u "java/lang/Comparable"), (0, .class_ 116), (0, u "java/io/Serializable")] 87

/-- java/lang/Enum -/
def k17 : Class := { plain "java/lang/Enum" (some 0) with
  accessFlags := 1057
  interfaces := #[5, 3, 2]
  cf := some (fileOf pool17 2 #[.nestMembers #[106]] #[] 1057 12 #[111, 113, 115] #[{ accessFlags := 18, nameIndex := 5, descriptorIndex := 6, attributes := #[] }, { accessFlags := 18, nameIndex := 9, descriptorIndex := 10, attributes := #[] }, { accessFlags := 2, nameIndex := 19, descriptorIndex := 10, attributes := #[] }])
  fields := #[{ name := "name", type := (.object "java/lang/String"), accessFlags := 18, slot := 0, constantValue := 0 }, { name := "ordinal", type := .int, accessFlags := 18, slot := 1, constantValue := 0 }, { name := "hash", type := .int, accessFlags := 2, slot := 2, constantValue := 0 }]
  methods := #[]
  instanceTypes := #[(.object "java/lang/String"), .int, .int]
  staticTypes := #[]
  resolved := Array.replicate 204 none
  statics := none }

def pool18 : Array CpInfo := pool [(1, .class_ 2), (0, u "com/example/limentinus/limentinus/core/KeyLayout$Suffix"), (2, u "FENCE"), (0, u "Lcom/example/limentinus/limentinus/core/KeyLayout$Suffix;"), (2, u "PERMIT"), (2, u "$VALUES"), (0, u "[Lcom/example/limentinus/limentinus/core/KeyLayout$Suffix;"), (6, .class_ 22), (1, u "java/lang/Enum"), (8, u "text"), (0, u "Ljava/lang/String;"), (31, u "ending"), (0, u "Ljava/util/regex/Pattern;"), (6, u "described"), (28, .class_ 102), (0, u "com/example/limentinus/limentinus/core/KeyLayout")] 2

/-- com/example/limentinus/limentinus/core/KeyLayout$Suffix -/
def k18 : Class := { plain "com/example/limentinus/limentinus/core/KeyLayout$Suffix" (some 17) with
  accessFlags := 16432
  interfaces := #[]
  cf := some (fileOf pool18 1 #[.nestHost 101] #[] 16432 20 #[] #[{ accessFlags := 16409, nameIndex := 5, descriptorIndex := 6, attributes := #[] }, { accessFlags := 16409, nameIndex := 9, descriptorIndex := 6, attributes := #[] }, { accessFlags := 18, nameIndex := 31, descriptorIndex := 32, attributes := #[] }, { accessFlags := 18, nameIndex := 64, descriptorIndex := 65, attributes := #[] }, { accessFlags := 18, nameIndex := 72, descriptorIndex := 32, attributes := #[] }, { accessFlags := 4122, nameIndex := 12, descriptorIndex := 13, attributes := #[] }])
  fields := #[{ name := "FENCE", type := (.object "com/example/limentinus/limentinus/core/KeyLayout$Suffix"), accessFlags := 16409, slot := 0, constantValue := 0 }, { name := "PERMIT", type := (.object "com/example/limentinus/limentinus/core/KeyLayout$Suffix"), accessFlags := 16409, slot := 1, constantValue := 0 }, { name := "text", type := (.object "java/lang/String"), accessFlags := 18, slot := 3, constantValue := 0 }, { name := "ending", type := (.object "java/util/regex/Pattern"), accessFlags := 18, slot := 4, constantValue := 0 }, { name := "described", type := (.object "java/lang/String"), accessFlags := 18, slot := 5, constantValue := 0 }, { name := "$VALUES", type := (.array (.object "com/example/limentinus/limentinus/core/KeyLayout$Suffix")), accessFlags := 4122, slot := 2, constantValue := 0 }]
  methods := #[]
  instanceTypes := #[(.object "java/lang/String"), .int, .int, (.object "java/lang/String"), (.object "java/util/regex/Pattern"), (.object "java/lang/String")]
  staticTypes := #[(.object "com/example/limentinus/limentinus/core/KeyLayout$Suffix"), (.object "com/example/limentinus/limentinus/core/KeyLayout$Suffix"), (.array (.object "com/example/limentinus/limentinus/core/KeyLayout$Suffix"))]
  resolved := Array.replicate 105 none
  statics := some 1 }

def pool19 : Array CpInfo := pool [(1, .class_ 2), (0, u "java/lang/String"), (1, .class_ 6), (1, u "java/lang/Object"), (0, u "<init>"), (0, u "()V"), (0, .methodref 1 10), (0, .nameAndType 11 12), (0, u "checkIndex"), (0, u "(II)V"), (1, .class_ 16), (1, u "java/lang/StringLatin1"), (36, u "([BI)C"), (36, u "canEncode"), (14, u "(C)Z"), (15, u "$assertionsDisabled"), (0, u "Z"), (98, .class_ 223), (1, u "java/lang/StringLatin1$LinesSpliterator"), (28, u "charAt"), (127, u "toBytes"), (1, u "(C)[B"), (7, .class_ 391), (0, u "java/lang/StringLatin1$CharsSpliterator")] 3

def k19m0 : Method := { name := "<init>", desc := "()V", sig := { parameters := [], returnType := none }, accessFlags := 0, code := none }
def k19c1 : Code := { maxStack := 2, maxLocals := 2, code := jdk_43_method_2_code, exceptionTable := #[], attributes := #[] }
def k19m1 : Method := { name := "charAt", desc := "([BI)C", sig := { parameters := [(.array .byte), .int], returnType := some .char }, accessFlags := 9, code := some k19c1 }
def k19c2 : Code := { maxStack := 2, maxLocals := 1, code := jdk_43_method_3_code, exceptionTable := #[], attributes := #[] }
def k19m2 : Method := { name := "canEncode", desc := "(C)Z", sig := { parameters := [.char], returnType := some .boolean }, accessFlags := 9, code := some k19c2 }
def k19c3 : Code := { maxStack := 4, maxLocals := 1, code := jdk_43_method_46_code, exceptionTable := #[], attributes := #[] }
def k19m3 : Method := { name := "toBytes", desc := "(C)[B", sig := { parameters := [.char], returnType := some (.array .byte) }, accessFlags := 9, code := some k19c3 }
/-- java/lang/StringLatin1 -/
def k19 : Class := { plain "java/lang/StringLatin1" (some 0) with
  accessFlags := 48
  interfaces := #[]
  cf := some (fileOf pool19 14 #[.nestMembers #[390, 221]] #[{ accessFlags := 0, nameIndex := 7, descriptorIndex := 8, attributes := #[] }, { accessFlags := 9, nameIndex := 252, descriptorIndex := 53, attributes := #[] }, { accessFlags := 9, nameIndex := 90, descriptorIndex := 105, attributes := #[] }, { accessFlags := 9, nameIndex := 380, descriptorIndex := 382, attributes := #[] }] 48 4 #[] #[{ accessFlags := 4120, nameIndex := 121, descriptorIndex := 122, attributes := #[] }])
  fields := #[{ name := "$assertionsDisabled", type := .boolean, accessFlags := 4120, slot := 0, constantValue := 0 }]
  methods := #[k19m0, k19m1, k19m2, k19m3]
  instanceTypes := #[]
  staticTypes := #[.boolean]
  resolved := Array.replicate 395 none
  statics := none }

def pool20 : Array CpInfo := pool [(2, .class_ 4), (1, u "java/lang/Object"), (0, u "<init>"), (0, u "()V"), (17, .class_ 26), (1, u "jdk/internal/util/Preconditions"), (6, u "checkIndex"), (21, .class_ 56), (0, u "jdk/internal/util/Preconditions$4"), (57, .class_ 115), (0, u "jdk/internal/util/Preconditions$1"), (7, u "SIOOBE_FORMATTER"), (0, u "Ljava/util/function/BiFunction;"), (0, .class_ 126), (0, u "jdk/internal/util/Preconditions$2"), (3, u "AIOOBE_FORMATTER"), (0, .class_ 132), (0, u "jdk/internal/util/Preconditions$3"), (3, u "IOOBE_FORMATTER"), (41, u "(IILjava/util/function/BiFunction;)I")] 15

def k20m0 : Method := { name := "<init>", desc := "()V", sig := { parameters := [], returnType := none }, accessFlags := 1, code := none }
def k20c1 : Code := { maxStack := 3, maxLocals := 3, code := jdk_41_method_11_code, exceptionTable := #[], attributes := #[] }
def k20m1 : Method := { name := "checkIndex", desc := "(IILjava/util/function/BiFunction;)I", sig := { parameters := [.int, .int, (.object "java/util/function/BiFunction")], returnType := some .int }, accessFlags := 9, code := some k20c1 }
/-- jdk/internal/util/Preconditions -/
def k20 : Class := { plain "jdk/internal/util/Preconditions" (some 0) with
  accessFlags := 33
  interfaces := #[]
  cf := some (fileOf pool20 24 #[.nestMembers #[55, 131, 125, 114]] #[{ accessFlags := 1, nameIndex := 5, descriptorIndex := 6, attributes := #[] }, { accessFlags := 9, nameIndex := 33, descriptorIndex := 178, attributes := #[] }] 33 2 #[] #[{ accessFlags := 25, nameIndex := 123, descriptorIndex := 124, attributes := #[] }, { accessFlags := 25, nameIndex := 130, descriptorIndex := 124, attributes := #[] }, { accessFlags := 25, nameIndex := 136, descriptorIndex := 124, attributes := #[] }])
  fields := #[{ name := "SIOOBE_FORMATTER", type := (.object "java/util/function/BiFunction"), accessFlags := 25, slot := 0, constantValue := 0 }, { name := "AIOOBE_FORMATTER", type := (.object "java/util/function/BiFunction"), accessFlags := 25, slot := 1, constantValue := 0 }, { name := "IOOBE_FORMATTER", type := (.object "java/util/function/BiFunction"), accessFlags := 25, slot := 2, constantValue := 0 }]
  methods := #[k20m0, k20m1]
  instanceTypes := #[]
  staticTypes := #[(.object "java/util/function/BiFunction"), (.object "java/util/function/BiFunction"), (.object "java/util/function/BiFunction")]
  resolved := Array.replicate 194 none
  statics := some 2 }

def pool21 : Array CpInfo := pool [(9, u "<init>"), (6, .class_ 18), (1, u "java/lang/Object"), (0, u "()V"), (1, .class_ 23), (1, u "jdk/internal/util/ArraysSupport"), (0, u "LOG2_ARRAY_LONG_INDEX_SCALE"), (0, u "I"), (2, u "U"), (0, u "Ljdk/internal/misc/Unsafe;"), (8, u "BIG_ENDIAN"), (0, u "Z"), (8, u "LOG2_BYTE_BIT_SIZE"), (4, u "LOG2_ARRAY_INT_INDEX_SCALE"), (54, u "JLA"), (0, u "Ljdk/internal/access/JavaLangAccess;"), (11, u "LOG2_ARRAY_BOOLEAN_INDEX_SCALE"), (9, u "LOG2_ARRAY_BYTE_INDEX_SCALE"), (5, u "LOG2_ARRAY_CHAR_INDEX_SCALE"), (5, u "LOG2_ARRAY_SHORT_INDEX_SCALE"), (18, u "LOG2_ARRAY_FLOAT_INDEX_SCALE"), (24, u "LOG2_ARRAY_DOUBLE_INDEX_SCALE"), (89, u "T_BOOLEAN"), (2, u "T_CHAR"), (1, u "T_FLOAT"), (1, u "T_DOUBLE"), (1, u "T_BYTE"), (1, u "T_SHORT"), (1, u "T_INT"), (1, u "T_LONG"), (1, u "SOFT_MAX_ARRAY_LENGTH")] 83

def k21m0 : Method := { name := "<init>", desc := "()V", sig := { parameters := [], returnType := none }, accessFlags := 2, code := none }
/-- jdk/internal/util/ArraysSupport -/
def k21 : Class := { plain "jdk/internal/util/ArraysSupport" (some 0) with
  accessFlags := 33
  interfaces := #[]
  cf := some (fileOf pool21 21 #[] #[{ accessFlags := 2, nameIndex := 9, descriptorIndex := 19, attributes := #[] }] 33 16 #[] #[{ accessFlags := 24, nameIndex := 28, descriptorIndex := 29, attributes := #[] }, { accessFlags := 26, nameIndex := 38, descriptorIndex := 39, attributes := #[] }, { accessFlags := 25, nameIndex := 121, descriptorIndex := 25, attributes := #[] }, { accessFlags := 25, nameIndex := 131, descriptorIndex := 25, attributes := #[] }, { accessFlags := 25, nameIndex := 137, descriptorIndex := 25, attributes := #[] }, { accessFlags := 25, nameIndex := 143, descriptorIndex := 25, attributes := #[] }, { accessFlags := 25, nameIndex := 53, descriptorIndex := 25, attributes := #[] }, { accessFlags := 25, nameIndex := 24, descriptorIndex := 25, attributes := #[] }, { accessFlags := 25, nameIndex := 162, descriptorIndex := 25, attributes := #[] }, { accessFlags := 25, nameIndex := 187, descriptorIndex := 25, attributes := #[] }, { accessFlags := 26, nameIndex := 48, descriptorIndex := 25, attributes := #[] }, { accessFlags := 25, nameIndex := 277, descriptorIndex := 25, attributes := #[] }, { accessFlags := 25, nameIndex := 280, descriptorIndex := 25, attributes := #[] }, { accessFlags := 25, nameIndex := 282, descriptorIndex := 25, attributes := #[] }, { accessFlags := 25, nameIndex := 284, descriptorIndex := 25, attributes := #[] }, { accessFlags := 25, nameIndex := 286, descriptorIndex := 25, attributes := #[] }, { accessFlags := 25, nameIndex := 288, descriptorIndex := 25, attributes := #[] }, { accessFlags := 25, nameIndex := 290, descriptorIndex := 25, attributes := #[] }, { accessFlags := 25, nameIndex := 292, descriptorIndex := 25, attributes := #[] }, { accessFlags := 26, nameIndex := 108, descriptorIndex := 109, attributes := #[] }, { accessFlags := 25, nameIndex := 294, descriptorIndex := 25, attributes := #[] }])
  fields := #[{ name := "U", type := (.object "jdk/internal/misc/Unsafe"), accessFlags := 24, slot := 0, constantValue := 0 }, { name := "BIG_ENDIAN", type := .boolean, accessFlags := 26, slot := 1, constantValue := 0 }, { name := "LOG2_ARRAY_BOOLEAN_INDEX_SCALE", type := .int, accessFlags := 25, slot := 2, constantValue := 0 }, { name := "LOG2_ARRAY_BYTE_INDEX_SCALE", type := .int, accessFlags := 25, slot := 3, constantValue := 0 }, { name := "LOG2_ARRAY_CHAR_INDEX_SCALE", type := .int, accessFlags := 25, slot := 4, constantValue := 0 }, { name := "LOG2_ARRAY_SHORT_INDEX_SCALE", type := .int, accessFlags := 25, slot := 5, constantValue := 0 }, { name := "LOG2_ARRAY_INT_INDEX_SCALE", type := .int, accessFlags := 25, slot := 6, constantValue := 0 }, { name := "LOG2_ARRAY_LONG_INDEX_SCALE", type := .int, accessFlags := 25, slot := 7, constantValue := 0 }, { name := "LOG2_ARRAY_FLOAT_INDEX_SCALE", type := .int, accessFlags := 25, slot := 8, constantValue := 0 }, { name := "LOG2_ARRAY_DOUBLE_INDEX_SCALE", type := .int, accessFlags := 25, slot := 9, constantValue := 0 }, { name := "LOG2_BYTE_BIT_SIZE", type := .int, accessFlags := 26, slot := 10, constantValue := 0 }, { name := "T_BOOLEAN", type := .int, accessFlags := 25, slot := 11, constantValue := 0 }, { name := "T_CHAR", type := .int, accessFlags := 25, slot := 12, constantValue := 0 }, { name := "T_FLOAT", type := .int, accessFlags := 25, slot := 13, constantValue := 0 }, { name := "T_DOUBLE", type := .int, accessFlags := 25, slot := 14, constantValue := 0 }, { name := "T_BYTE", type := .int, accessFlags := 25, slot := 15, constantValue := 0 }, { name := "T_SHORT", type := .int, accessFlags := 25, slot := 16, constantValue := 0 }, { name := "T_INT", type := .int, accessFlags := 25, slot := 17, constantValue := 0 }, { name := "T_LONG", type := .int, accessFlags := 25, slot := 18, constantValue := 0 }, { name := "JLA", type := (.object "jdk/internal/access/JavaLangAccess"), accessFlags := 26, slot := 19, constantValue := 0 }, { name := "SOFT_MAX_ARRAY_LENGTH", type := .int, accessFlags := 25, slot := 20, constantValue := 0 }]
  methods := #[k21m0]
  instanceTypes := #[]
  staticTypes := #[(.object "jdk/internal/misc/Unsafe"), .boolean, .int, .int, .int, .int, .int, .int, .int, .int, .int, .int, .int, .int, .int, .int, .int, .int, .int, (.object "jdk/internal/access/JavaLangAccess"), .int]
  resolved := Array.replicate 378 none
  statics := none }

def pool22 : Array CpInfo := pool [(1, u "java/lang/Cloneable"), (0, .class_ 1), (0, u "java/lang/Object"), (0, .class_ 3)] 3

/-- java/lang/Cloneable -/
def k22 : Class := { plain "java/lang/Cloneable" (some 0) with
  accessFlags := 1537
  interfaces := #[]
  cf := some (fileOf pool22 2 #[] #[] 1537 4 #[] #[])
  fields := #[]
  methods := #[]
  instanceTypes := #[]
  staticTypes := #[]
  resolved := Array.replicate 8 none
  statics := none }

/-- the primitive byte -/
def k23 : Class := { plain "byte" none with kind := .primitive 'B', accessFlags := 0x411 }
/-- [B -/
def k24 : Class := { plain "[B" (some 0) with kind := .array 23 .byte, interfaces := #[22, 2], accessFlags := 1041 }

/-- the primitive char -/
def k25 : Class := { plain "char" none with kind := .primitive 'C', accessFlags := 0x411 }
/-- [C -/
def k26 : Class := { plain "[C" (some 0) with kind := .array 25 .char, interfaces := #[22, 2], accessFlags := 1041 }

/-- the primitive int -/
def k27 : Class := { plain "int" none with kind := .primitive 'I', accessFlags := 0x411 }
/-- [I -/
def k28 : Class := { plain "[I" (some 0) with kind := .array 27 .int, interfaces := #[22, 2], accessFlags := 1041 }

def heap : Heap := #[{ cls := 7, slots := #[.long 0, .int 1, .null, .int 0, .null, .int 0, .int 0], vm := .statics 7 },
  { cls := 18, slots := #[.ref 3, .null, .null], vm := .statics 18 },
  { cls := 20, slots := #[.null, .null, .null], vm := .statics 20 },
  { cls := 18, slots := #[.null, .int 0, .int 0, .ref 4, .null, .null], vm := .none },
  { cls := 7, slots := #[.ref 5, .int 0, .int 0, .int 0], vm := .none },
  { cls := 24, slots := #[.int 58, .int 102, .int 101, .int 110, .int 99, .int 101], vm := .none }]
def classes : Array Class := #[k0, k1, k2, k3, k4, k5, k6, k7, k8, k9, k10, k11, k12, k13, k14, k15, k16, k17, k18, k19, k20, k21, k22, k23, k24, k25, k26, k27, k28]
def interned : List (Array UInt16 × Addr) := []
def slotsUsed : Nat := 29
def theMethod : MethodId := ⟨1, 1⟩
def args0 : Array Value := #[.int 65, .int 66, .int 5]
def aboutOver (below : List Frame) : State where
  vm := { classes := classes, interned := interned.toArray }
  heap := heap
  slotsUsed := slotsUsed
  threads := #[{ frames := .invoking theMethod args0 :: below }]
def below0 : List Frame := [.native { method := ⟨0, 0⟩, args := #[] }]
def about1 : State := aboutOver below0
def p0 : Program := .bare "" "" ""
def e0 : Env := launch0.env 0 0 0
theorem w_frames : about1.frames = Frame.invoking theMethod args0 :: below0 := rfl
set_option maxRecDepth 65536 in
theorem w_args : argsFit about1.vm theMethod args0 = true := by decide +kernel
set_option maxRecDepth 65536 in
theorem w_heap : heapFits about1 = true := by decide +kernel
set_option maxRecDepth 65536 in
theorem w_runnable : about1.curStatus? = some .runnable := by decide +kernel
set_option maxRecDepth 65536 in
theorem w_alone : about1.alone = true := by decide +kernel
set_option maxRecDepth 65536 in
theorem w_named : about1.methodNamed? x = some theMethod := by decide +kernel
set_option maxRecDepth 65536 in
theorem w_hears : about1.hears theMethod below0 = true := by decide +kernel
set_option maxRecDepth 65536 in
theorem w_ripe : about1.ripe theMethod args0 below0 = true := by decide +kernel
theorem w_running : about1.status = .running := rfl
set_option maxRecDepth 65536 in
theorem w_room : about1.hasRoom e0.platform room_1 = true :=
  launch0.hasRoom_least _ room_1 (by decide +kernel) (by decide +kernel) (by decide +kernel) (by decide +kernel) (by decide +kernel) (by decide +kernel)
theorem allAtoms_all (ts : List Jvm.Cond) (a : Array Jvm.Value) (st : Jvm.State) : (allAtoms ts).before a st = ts.all (fun c => c.before a st) := by
  induction ts with
  | nil => rfl
  | cons c t ih =>
    show (Jvm.Cond.and c (allAtoms t)).before a st = _
    rw [Jvm.Cond.before_and, ih, List.all_cons]
def words1 : List Jvm.Cond := Jvm.Cond.code x code maxLocals ret :: tables_1
/-- a 'code' word, met by the world's own term for the bytes: nothing is compared byte by byte -/
theorem code_word {y : MethodName} {bytes : ByteArray} {mx : Nat} {rt : Option FieldType} {a : Array Value} {s : State} {m : MethodId} {meth : Method} {c : Code} (h1 : s.methodNamed? y = some m) (h2 : s.vm.method? m = some meth) (h3 : meth.code = some c) (h4 : c.code = bytes)
    (h5 : (c.maxLocals == mx && c.exceptionTable.isEmpty && decide (c.maxStack ≤ mostOperands) && decide (meth.sig.returnType = rt) && !meth.locks && decide (parseMethodDescriptor y.desc = some meth.sig)) = true) : (Jvm.Cond.code y bytes mx rt).before a s = true := by
  simp only [Bool.and_eq_true, beq_iff_eq, Bool.not_eq_true', decide_eq_true_eq] at h5
  obtain ⟨⟨⟨⟨⟨g1, g2⟩, g3⟩, g4⟩, g5⟩, g6⟩ := h5
  simp [Cond.before, Cond.holds, Cond.value, h1, h2, h3, h4, g1, g2, g3, g4, g5, g6]
def isCode : Jvm.Cond → Bool
  | .code _ _ _ _ => true
  | _ => false
theorem all_split {L : List Jvm.Cond} {P : Jvm.Cond → Bool} (h1 : L.all (fun c => isCode c || P c) = true) (h2 : ∀ c ∈ L.filter isCode, P c = true) : L.all P = true := by
  refine List.all_eq_true.mpr fun c hc => ?_
  have h := List.all_eq_true.mp h1 c hc
  rcases Bool.eq_false_or_eq_true (isCode c) with hi | hi
  · exact h2 c (List.mem_filter.mpr ⟨hc, hi⟩)
  · simpa [hi] using h
set_option maxRecDepth 65536 in
theorem w_c0 : (Jvm.Cond.code x code maxLocals ret).before args0 about1 = true := code_word (m := ⟨1, 1⟩) (meth := k1m1) (c := k1c1) (by decide +kernel) rfl rfl rfl (by decide +kernel)
set_option maxRecDepth 65536 in
theorem w_c1 : (Jvm.Cond.code ({ cls := "com/example/limentinus/limentinus/core/KeyLayoutFencingKeyPinLaw", name := "draw", desc := "(II)Ljava/lang/String;" } : Jvm.MethodName) method_4_code (2 : Nat) (Option.some (Jvm.ClassFile.FieldType.object "java/lang/String"))).before args0 about1 = true := code_word (m := ⟨1, 3⟩) (meth := k1m3) (c := k1c3) (by decide +kernel) rfl rfl rfl (by decide +kernel)
set_option maxRecDepth 65536 in
theorem w_c2 : (Jvm.Cond.code ({ cls := "com/example/limentinus/limentinus/core/KeyLayoutFencingKeyPinLaw", name := "ch", desc := "(II)C" } : Jvm.MethodName) method_3_code (2 : Nat) (Option.some Jvm.ClassFile.FieldType.char)).before args0 about1 = true := code_word (m := ⟨1, 2⟩) (meth := k1m2) (c := k1c2) (by decide +kernel) rfl rfl rfl (by decide +kernel)
set_option maxRecDepth 65536 in
theorem w_c3 : (Jvm.Cond.code ({ cls := "java/lang/String", name := "<init>", desc := "([C)V" } : Jvm.MethodName) jdk_42_method_3_code (2 : Nat) (Option.none : Option Jvm.ClassFile.FieldType)).before args0 about1 = true := code_word (m := ⟨7, 1⟩) (meth := k7m1) (c := k7c1) (by decide +kernel) rfl rfl rfl (by decide +kernel)
set_option maxRecDepth 65536 in
theorem w_c4 : (Jvm.Cond.code ({ cls := "java/lang/String", name := "<init>", desc := "([CIILjava/lang/Void;)V" } : Jvm.MethodName) jdk_42_method_149_code (6 : Nat) (Option.none : Option Jvm.ClassFile.FieldType)).before args0 about1 = true := code_word (m := ⟨7, 7⟩) (meth := k7m7) (c := k7c7) (by decide +kernel) rfl rfl rfl (by decide +kernel)
set_option maxRecDepth 65536 in
theorem w_c5 : (Jvm.Cond.code ({ cls := "java/lang/Object", name := "<init>", desc := "()V" } : Jvm.MethodName) object_method_1_code (1 : Nat) (Option.none : Option Jvm.ClassFile.FieldType)).before args0 about1 = true := code_word (m := ⟨0, 0⟩) (meth := k0m0) (c := k0c0) (by decide +kernel) rfl rfl rfl (by decide +kernel)
set_option maxRecDepth 65536 in
theorem w_c6 : (Jvm.Cond.code ({ cls := "java/lang/StringUTF16", name := "compress", desc := "([CII)[B" } : Jvm.MethodName) jdk_52_method_16_code (6 : Nat) (Option.some (Jvm.ClassFile.FieldType.array Jvm.ClassFile.FieldType.byte))).before args0 about1 = true := code_word (m := ⟨8, 2⟩) (meth := k8m2) (c := k8c2) (by decide +kernel) rfl rfl rfl (by decide +kernel)
set_option maxRecDepth 65536 in
theorem w_c7 : (Jvm.Cond.code ({ cls := "java/lang/StringUTF16", name := "compress", desc := "([CI[BII)I" } : Jvm.MethodName) jdk_52_method_21_code (7 : Nat) (Option.some Jvm.ClassFile.FieldType.int)).before args0 about1 = true := code_word (m := ⟨8, 3⟩) (meth := k8m3) (c := k8c3) (by decide +kernel) rfl rfl rfl (by decide +kernel)
set_option maxRecDepth 65536 in
theorem w_c8 : (Jvm.Cond.code ({ cls := "java/lang/StringUTF16", name := "coderFromArrayLen", desc := "([BI)B" } : Jvm.MethodName) jdk_52_method_15_code (2 : Nat) (Option.some Jvm.ClassFile.FieldType.byte)).before args0 about1 = true := code_word (m := ⟨8, 1⟩) (meth := k8m1) (c := k8c1) (by decide +kernel) rfl rfl rfl (by decide +kernel)
set_option maxRecDepth 65536 in
theorem w_c9 : (Jvm.Cond.code ({ cls := "com/example/limentinus/limentinus/core/KeyLayout", name := "<init>", desc := "(Ljava/lang/String;)V" } : Jvm.MethodName) prog_19_method_1_code (2 : Nat) (Option.none : Option Jvm.ClassFile.FieldType)).before args0 about1 = true := code_word (m := ⟨9, 0⟩) (meth := k9m0) (c := k9c0) (by decide +kernel) rfl rfl rfl (by decide +kernel)
set_option maxRecDepth 65536 in
theorem w_c10 : (Jvm.Cond.code ({ cls := "java/util/Objects", name := "requireNonNull", desc := "(Ljava/lang/Object;Ljava/lang/String;)Ljava/lang/Object;" } : Jvm.MethodName) jdk_31_method_11_code (2 : Nat) (Option.some (Jvm.ClassFile.FieldType.object "java/lang/Object"))).before args0 about1 = true := code_word (m := ⟨10, 1⟩) (meth := k10m1) (c := k10c1) (by decide +kernel) rfl rfl rfl (by decide +kernel)
set_option maxRecDepth 65536 in
theorem w_c11 : (Jvm.Cond.code ({ cls := "com/example/limentinus/limentinus/core/KeyLayout", name := "fencingKey", desc := "(Ljava/lang/String;)Ljava/lang/String;" } : Jvm.MethodName) prog_19_method_3_code (2 : Nat) (Option.some (Jvm.ClassFile.FieldType.object "java/lang/String"))).before args0 about1 = true := code_word (m := ⟨9, 2⟩) (meth := k9m2) (c := k9c2) (by decide +kernel) rfl rfl rfl (by decide +kernel)
set_option maxRecDepth 65536 in
theorem w_c12 : (Jvm.Cond.code ({ cls := "java/lang/StringBuilder", name := "<init>", desc := "()V" } : Jvm.MethodName) jdk_67_method_1_code (1 : Nat) (Option.none : Option Jvm.ClassFile.FieldType)).before args0 about1 = true := code_word (m := ⟨13, 0⟩) (meth := k13m0) (c := k13c0) (by decide +kernel) rfl rfl rfl (by decide +kernel)
set_option maxRecDepth 65536 in
theorem w_c13 : (Jvm.Cond.code ({ cls := "java/lang/AbstractStringBuilder", name := "<init>", desc := "(I)V" } : Jvm.MethodName) jdk_68_method_2_code (2 : Nat) (Option.none : Option Jvm.ClassFile.FieldType)).before args0 about1 = true := code_word (m := ⟨12, 1⟩) (meth := k12m1) (c := k12c1) (by decide +kernel) rfl rfl rfl (by decide +kernel)
set_option maxRecDepth 65536 in
theorem w_c14 : (Jvm.Cond.code ({ cls := "com/example/limentinus/limentinus/core/KeyLayout", name := "key", desc := "(Ljava/lang/String;)Ljava/lang/String;" } : Jvm.MethodName) prog_19_method_2_code (2 : Nat) (Option.some (Jvm.ClassFile.FieldType.object "java/lang/String"))).before args0 about1 = true := code_word (m := ⟨9, 1⟩) (meth := k9m1) (c := k9c1) (by decide +kernel) rfl rfl rfl (by decide +kernel)
set_option maxRecDepth 65536 in
theorem w_c15 : (Jvm.Cond.code ({ cls := "java/lang/StringBuilder", name := "append", desc := "(Ljava/lang/String;)Ljava/lang/StringBuilder;" } : Jvm.MethodName) jdk_67_method_7_code (2 : Nat) (Option.some (Jvm.ClassFile.FieldType.object "java/lang/StringBuilder"))).before args0 about1 = true := code_word (m := ⟨13, 1⟩) (meth := k13m1) (c := k13c1) (by decide +kernel) rfl rfl rfl (by decide +kernel)
set_option maxRecDepth 65536 in
theorem w_c16 : (Jvm.Cond.code ({ cls := "java/lang/AbstractStringBuilder", name := "append", desc := "(Ljava/lang/String;)Ljava/lang/AbstractStringBuilder;" } : Jvm.MethodName) jdk_68_method_22_code (3 : Nat) (Option.some (Jvm.ClassFile.FieldType.object "java/lang/AbstractStringBuilder"))).before args0 about1 = true := code_word (m := ⟨12, 4⟩) (meth := k12m4) (c := k12c4) (by decide +kernel) rfl rfl rfl (by decide +kernel)
set_option maxRecDepth 65536 in
theorem w_c17 : (Jvm.Cond.code ({ cls := "java/lang/String", name := "length", desc := "()I" } : Jvm.MethodName) jdk_42_method_54_code (1 : Nat) (Option.some Jvm.ClassFile.FieldType.int)).before args0 about1 = true := code_word (m := ⟨7, 3⟩) (meth := k7m3) (c := k7c3) (by decide +kernel) rfl rfl rfl (by decide +kernel)
set_option maxRecDepth 65536 in
theorem w_c18 : (Jvm.Cond.code ({ cls := "java/lang/String", name := "coder", desc := "()B" } : Jvm.MethodName) jdk_42_method_152_code (1 : Nat) (Option.some Jvm.ClassFile.FieldType.byte)).before args0 about1 = true := code_word (m := ⟨7, 10⟩) (meth := k7m10) (c := k7c10) (by decide +kernel) rfl rfl rfl (by decide +kernel)
set_option maxRecDepth 65536 in
theorem w_c19 : (Jvm.Cond.code ({ cls := "java/lang/AbstractStringBuilder", name := "ensureCapacityInternal", desc := "(I)V" } : Jvm.MethodName) jdk_68_method_9_code (3 : Nat) (Option.none : Option Jvm.ClassFile.FieldType)).before args0 about1 = true := code_word (m := ⟨12, 3⟩) (meth := k12m3) (c := k12c3) (by decide +kernel) rfl rfl rfl (by decide +kernel)
set_option maxRecDepth 65536 in
theorem w_c20 : (Jvm.Cond.code ({ cls := "java/lang/AbstractStringBuilder", name := "putStringAt", desc := "(ILjava/lang/String;)V" } : Jvm.MethodName) jdk_68_method_73_code (3 : Nat) (Option.none : Option Jvm.ClassFile.FieldType)).before args0 about1 = true := code_word (m := ⟨12, 8⟩) (meth := k12m8) (c := k12c8) (by decide +kernel) rfl rfl rfl (by decide +kernel)
set_option maxRecDepth 65536 in
theorem w_c21 : (Jvm.Cond.code ({ cls := "java/lang/AbstractStringBuilder", name := "inflateIfNeededFor", desc := "(Ljava/lang/String;)V" } : Jvm.MethodName) jdk_68_method_71_code (2 : Nat) (Option.none : Option Jvm.ClassFile.FieldType)).before args0 about1 = true := code_word (m := ⟨12, 7⟩) (meth := k12m7) (c := k12c7) (by decide +kernel) rfl rfl rfl (by decide +kernel)
set_option maxRecDepth 65536 in
theorem w_c22 : (Jvm.Cond.code ({ cls := "java/lang/String", name := "getBytes", desc := "([BIB)V" } : Jvm.MethodName) jdk_42_method_147_code (4 : Nat) (Option.none : Option Jvm.ClassFile.FieldType)).before args0 about1 = true := code_word (m := ⟨7, 6⟩) (meth := k7m6) (c := k7c6) (by decide +kernel) rfl rfl rfl (by decide +kernel)
set_option maxRecDepth 65536 in
theorem w_c23 : (Jvm.Cond.code ({ cls := "java/lang/StringBuilder", name := "toString", desc := "()Ljava/lang/String;" } : Jvm.MethodName) jdk_67_method_42_code (1 : Nat) (Option.some (Jvm.ClassFile.FieldType.object "java/lang/String"))).before args0 about1 = true := code_word (m := ⟨13, 2⟩) (meth := k13m2) (c := k13c2) (by decide +kernel) rfl rfl rfl (by decide +kernel)
set_option maxRecDepth 65536 in
theorem w_c24 : (Jvm.Cond.code ({ cls := "java/lang/String", name := "<init>", desc := "(Ljava/lang/StringBuilder;)V" } : Jvm.MethodName) jdk_42_method_53_code (2 : Nat) (Option.none : Option Jvm.ClassFile.FieldType)).before args0 about1 = true := code_word (m := ⟨7, 2⟩) (meth := k7m2) (c := k7c2) (by decide +kernel) rfl rfl rfl (by decide +kernel)
set_option maxRecDepth 65536 in
theorem w_c25 : (Jvm.Cond.code ({ cls := "java/lang/String", name := "<init>", desc := "(Ljava/lang/AbstractStringBuilder;Ljava/lang/Void;)V" } : Jvm.MethodName) jdk_42_method_150_code (5 : Nat) (Option.none : Option Jvm.ClassFile.FieldType)).before args0 about1 = true := code_word (m := ⟨7, 8⟩) (meth := k7m8) (c := k7c8) (by decide +kernel) rfl rfl rfl (by decide +kernel)
set_option maxRecDepth 65536 in
theorem w_c26 : (Jvm.Cond.code ({ cls := "java/lang/AbstractStringBuilder", name := "getValue", desc := "()[B" } : Jvm.MethodName) jdk_68_method_64_code (1 : Nat) (Option.some (Jvm.ClassFile.FieldType.array Jvm.ClassFile.FieldType.byte))).before args0 about1 = true := code_word (m := ⟨12, 5⟩) (meth := k12m5) (c := k12c5) (by decide +kernel) rfl rfl rfl (by decide +kernel)
set_option maxRecDepth 65536 in
theorem w_c27 : (Jvm.Cond.code ({ cls := "java/lang/StringBuilder", name := "length", desc := "()I" } : Jvm.MethodName) jdk_67_method_93_code (1 : Nat) (Option.some Jvm.ClassFile.FieldType.int)).before args0 about1 = true := code_word (m := ⟨13, 3⟩) (meth := k13m3) (c := k13c3) (by decide +kernel) rfl rfl rfl (by decide +kernel)
set_option maxRecDepth 65536 in
theorem w_c28 : (Jvm.Cond.code ({ cls := "java/lang/AbstractStringBuilder", name := "length", desc := "()I" } : Jvm.MethodName) jdk_68_method_6_code (1 : Nat) (Option.some Jvm.ClassFile.FieldType.int)).before args0 about1 = true := code_word (m := ⟨12, 2⟩) (meth := k12m2) (c := k12c2) (by decide +kernel) rfl rfl rfl (by decide +kernel)
set_option maxRecDepth 65536 in
theorem w_c29 : (Jvm.Cond.code ({ cls := "java/lang/AbstractStringBuilder", name := "isLatin1", desc := "()Z" } : Jvm.MethodName) jdk_68_method_68_code (1 : Nat) (Option.some Jvm.ClassFile.FieldType.boolean)).before args0 about1 = true := code_word (m := ⟨12, 6⟩) (meth := k12m6) (c := k12c6) (by decide +kernel) rfl rfl rfl (by decide +kernel)
set_option maxRecDepth 65536 in
theorem w_c30 : (Jvm.Cond.code ({ cls := "java/util/Arrays", name := "copyOfRange", desc := "([BII)[B" } : Jvm.MethodName) jdk_65_method_132_code (3 : Nat) (Option.some (Jvm.ClassFile.FieldType.array Jvm.ClassFile.FieldType.byte))).before args0 about1 = true := code_word (m := ⟨15, 2⟩) (meth := k15m2) (c := k15c2) (by decide +kernel) rfl rfl rfl (by decide +kernel)
set_option maxRecDepth 65536 in
theorem w_c31 : (Jvm.Cond.code ({ cls := "java/util/Arrays", name := "copyOfRangeByte", desc := "([BII)[B" } : Jvm.MethodName) jdk_65_method_133_code (5 : Nat) (Option.some (Jvm.ClassFile.FieldType.array Jvm.ClassFile.FieldType.byte))).before args0 about1 = true := code_word (m := ⟨15, 3⟩) (meth := k15m3) (c := k15c3) (by decide +kernel) rfl rfl rfl (by decide +kernel)
set_option maxRecDepth 65536 in
theorem w_c32 : (Jvm.Cond.code ({ cls := "java/util/Arrays", name := "checkLength", desc := "(II)V" } : Jvm.MethodName) jdk_65_method_131_code (2 : Nat) (Option.none : Option Jvm.ClassFile.FieldType)).before args0 about1 = true := code_word (m := ⟨15, 1⟩) (meth := k15m1) (c := k15c1) (by decide +kernel) rfl rfl rfl (by decide +kernel)
set_option maxRecDepth 65536 in
theorem w_c33 : (Jvm.Cond.code ({ cls := "java/lang/Math", name := "min", desc := "(II)I" } : Jvm.MethodName) jdk_29_method_69_code (2 : Nat) (Option.some Jvm.ClassFile.FieldType.int)).before args0 about1 = true := code_word (m := ⟨16, 1⟩) (meth := k16m1) (c := k16c1) (by decide +kernel) rfl rfl rfl (by decide +kernel)
set_option maxRecDepth 65536 in
theorem w_c34 : (Jvm.Cond.code ({ cls := "com/example/limentinus/limentinus/core/KeyLayoutFencingKeyPinLaw", name := "at", desc := "(Ljava/lang/String;IIIII)Z" } : Jvm.MethodName) method_6_code (6 : Nat) (Option.some Jvm.ClassFile.FieldType.boolean)).before args0 about1 = true := code_word (m := ⟨1, 5⟩) (meth := k1m5) (c := k1c5) (by decide +kernel) rfl rfl rfl (by decide +kernel)
set_option maxRecDepth 65536 in
theorem w_c35 : (Jvm.Cond.code ({ cls := "java/lang/String", name := "charAt", desc := "(I)C" } : Jvm.MethodName) jdk_42_method_56_code (2 : Nat) (Option.some Jvm.ClassFile.FieldType.char)).before args0 about1 = true := code_word (m := ⟨7, 4⟩) (meth := k7m4) (c := k7c4) (by decide +kernel) rfl rfl rfl (by decide +kernel)
set_option maxRecDepth 65536 in
theorem w_c36 : (Jvm.Cond.code ({ cls := "java/lang/String", name := "isLatin1", desc := "()Z" } : Jvm.MethodName) jdk_42_method_154_code (1 : Nat) (Option.some Jvm.ClassFile.FieldType.boolean)).before args0 about1 = true := code_word (m := ⟨7, 11⟩) (meth := k7m11) (c := k7c11) (by decide +kernel) rfl rfl rfl (by decide +kernel)
set_option maxRecDepth 65536 in
theorem w_c37 : (Jvm.Cond.code ({ cls := "java/lang/StringLatin1", name := "charAt", desc := "([BI)C" } : Jvm.MethodName) jdk_43_method_2_code (2 : Nat) (Option.some Jvm.ClassFile.FieldType.char)).before args0 about1 = true := code_word (m := ⟨19, 1⟩) (meth := k19m1) (c := k19c1) (by decide +kernel) rfl rfl rfl (by decide +kernel)
set_option maxRecDepth 65536 in
theorem w_c38 : (Jvm.Cond.code ({ cls := "java/lang/String", name := "checkIndex", desc := "(II)V" } : Jvm.MethodName) jdk_42_method_155_code (2 : Nat) (Option.none : Option Jvm.ClassFile.FieldType)).before args0 about1 = true := code_word (m := ⟨7, 12⟩) (meth := k7m12) (c := k7c12) (by decide +kernel) rfl rfl rfl (by decide +kernel)
set_option maxRecDepth 65536 in
theorem w_c39 : (Jvm.Cond.code ({ cls := "jdk/internal/util/Preconditions", name := "checkIndex", desc := "(IILjava/util/function/BiFunction;)I" } : Jvm.MethodName) jdk_41_method_11_code (3 : Nat) (Option.some Jvm.ClassFile.FieldType.int)).before args0 about1 = true := code_word (m := ⟨20, 1⟩) (meth := k20m1) (c := k20c1) (by decide +kernel) rfl rfl rfl (by decide +kernel)
set_option maxRecDepth 65536 in
theorem w_c40 : (Jvm.Cond.code ({ cls := "com/example/limentinus/limentinus/core/KeyLayoutFencingKeyPinLaw", name := "expected", desc := "(IIIII)C" } : Jvm.MethodName) method_5_code (5 : Nat) (Option.some Jvm.ClassFile.FieldType.char)).before args0 about1 = true := code_word (m := ⟨1, 4⟩) (meth := k1m4) (c := k1c4) (by decide +kernel) rfl rfl rfl (by decide +kernel)
set_option maxRecDepth 65536 in
theorem w_c41 : (Jvm.Cond.code ({ cls := "java/lang/String", name := "valueOf", desc := "(C)Ljava/lang/String;" } : Jvm.MethodName) jdk_42_method_139_code (1 : Nat) (Option.some (Jvm.ClassFile.FieldType.object "java/lang/String"))).before args0 about1 = true := code_word (m := ⟨7, 5⟩) (meth := k7m5) (c := k7c5) (by decide +kernel) rfl rfl rfl (by decide +kernel)
set_option maxRecDepth 65536 in
theorem w_c42 : (Jvm.Cond.code ({ cls := "java/lang/StringLatin1", name := "canEncode", desc := "(C)Z" } : Jvm.MethodName) jdk_43_method_3_code (1 : Nat) (Option.some Jvm.ClassFile.FieldType.boolean)).before args0 about1 = true := code_word (m := ⟨19, 2⟩) (meth := k19m2) (c := k19c2) (by decide +kernel) rfl rfl rfl (by decide +kernel)
set_option maxRecDepth 65536 in
theorem w_c43 : (Jvm.Cond.code ({ cls := "java/lang/StringLatin1", name := "toBytes", desc := "(C)[B" } : Jvm.MethodName) jdk_43_method_46_code (1 : Nat) (Option.some (Jvm.ClassFile.FieldType.array Jvm.ClassFile.FieldType.byte))).before args0 about1 = true := code_word (m := ⟨19, 3⟩) (meth := k19m3) (c := k19c3) (by decide +kernel) rfl rfl rfl (by decide +kernel)
set_option maxRecDepth 65536 in
theorem w_c44 : (Jvm.Cond.code ({ cls := "java/lang/String", name := "<init>", desc := "([BB)V" } : Jvm.MethodName) jdk_42_method_151_code (3 : Nat) (Option.none : Option Jvm.ClassFile.FieldType)).before args0 about1 = true := code_word (m := ⟨7, 9⟩) (meth := k7m9) (c := k7c9) (by decide +kernel) rfl rfl rfl (by decide +kernel)
def codes1 : List Jvm.Cond := [Jvm.Cond.code x code maxLocals ret, Jvm.Cond.code ({ cls := "com/example/limentinus/limentinus/core/KeyLayoutFencingKeyPinLaw", name := "draw", desc := "(II)Ljava/lang/String;" } : Jvm.MethodName) method_4_code (2 : Nat) (Option.some (Jvm.ClassFile.FieldType.object "java/lang/String")), Jvm.Cond.code ({ cls := "com/example/limentinus/limentinus/core/KeyLayoutFencingKeyPinLaw", name := "ch", desc := "(II)C" } : Jvm.MethodName) method_3_code (2 : Nat) (Option.some Jvm.ClassFile.FieldType.char), Jvm.Cond.code ({ cls := "java/lang/String", name := "<init>", desc := "([C)V" } : Jvm.MethodName) jdk_42_method_3_code (2 : Nat) (Option.none : Option Jvm.ClassFile.FieldType), Jvm.Cond.code ({ cls := "java/lang/String", name := "<init>", desc := "([CIILjava/lang/Void;)V" } : Jvm.MethodName) jdk_42_method_149_code (6 : Nat) (Option.none : Option Jvm.ClassFile.FieldType), Jvm.Cond.code ({ cls := "java/lang/Object", name := "<init>", desc := "()V" } : Jvm.MethodName) object_method_1_code (1 : Nat) (Option.none : Option Jvm.ClassFile.FieldType), Jvm.Cond.code ({ cls := "java/lang/StringUTF16", name := "compress", desc := "([CII)[B" } : Jvm.MethodName) jdk_52_method_16_code (6 : Nat) (Option.some (Jvm.ClassFile.FieldType.array Jvm.ClassFile.FieldType.byte)), Jvm.Cond.code ({ cls := "java/lang/StringUTF16", name := "compress", desc := "([CI[BII)I" } : Jvm.MethodName) jdk_52_method_21_code (7 : Nat) (Option.some Jvm.ClassFile.FieldType.int), Jvm.Cond.code ({ cls := "java/lang/StringUTF16", name := "coderFromArrayLen", desc := "([BI)B" } : Jvm.MethodName) jdk_52_method_15_code (2 : Nat) (Option.some Jvm.ClassFile.FieldType.byte), Jvm.Cond.code ({ cls := "com/example/limentinus/limentinus/core/KeyLayout", name := "<init>", desc := "(Ljava/lang/String;)V" } : Jvm.MethodName) prog_19_method_1_code (2 : Nat) (Option.none : Option Jvm.ClassFile.FieldType), Jvm.Cond.code ({ cls := "java/util/Objects", name := "requireNonNull", desc := "(Ljava/lang/Object;Ljava/lang/String;)Ljava/lang/Object;" } : Jvm.MethodName) jdk_31_method_11_code (2 : Nat) (Option.some (Jvm.ClassFile.FieldType.object "java/lang/Object")), Jvm.Cond.code ({ cls := "com/example/limentinus/limentinus/core/KeyLayout", name := "fencingKey", desc := "(Ljava/lang/String;)Ljava/lang/String;" } : Jvm.MethodName) prog_19_method_3_code (2 : Nat) (Option.some (Jvm.ClassFile.FieldType.object "java/lang/String")), Jvm.Cond.code ({ cls := "java/lang/StringBuilder", name := "<init>", desc := "()V" } : Jvm.MethodName) jdk_67_method_1_code (1 : Nat) (Option.none : Option Jvm.ClassFile.FieldType), Jvm.Cond.code ({ cls := "java/lang/AbstractStringBuilder", name := "<init>", desc := "(I)V" } : Jvm.MethodName) jdk_68_method_2_code (2 : Nat) (Option.none : Option Jvm.ClassFile.FieldType), Jvm.Cond.code ({ cls := "com/example/limentinus/limentinus/core/KeyLayout", name := "key", desc := "(Ljava/lang/String;)Ljava/lang/String;" } : Jvm.MethodName) prog_19_method_2_code (2 : Nat) (Option.some (Jvm.ClassFile.FieldType.object "java/lang/String")), Jvm.Cond.code ({ cls := "java/lang/StringBuilder", name := "append", desc := "(Ljava/lang/String;)Ljava/lang/StringBuilder;" } : Jvm.MethodName) jdk_67_method_7_code (2 : Nat) (Option.some (Jvm.ClassFile.FieldType.object "java/lang/StringBuilder")), Jvm.Cond.code ({ cls := "java/lang/AbstractStringBuilder", name := "append", desc := "(Ljava/lang/String;)Ljava/lang/AbstractStringBuilder;" } : Jvm.MethodName) jdk_68_method_22_code (3 : Nat) (Option.some (Jvm.ClassFile.FieldType.object "java/lang/AbstractStringBuilder")), Jvm.Cond.code ({ cls := "java/lang/String", name := "length", desc := "()I" } : Jvm.MethodName) jdk_42_method_54_code (1 : Nat) (Option.some Jvm.ClassFile.FieldType.int), Jvm.Cond.code ({ cls := "java/lang/String", name := "coder", desc := "()B" } : Jvm.MethodName) jdk_42_method_152_code (1 : Nat) (Option.some Jvm.ClassFile.FieldType.byte), Jvm.Cond.code ({ cls := "java/lang/AbstractStringBuilder", name := "ensureCapacityInternal", desc := "(I)V" } : Jvm.MethodName) jdk_68_method_9_code (3 : Nat) (Option.none : Option Jvm.ClassFile.FieldType), Jvm.Cond.code ({ cls := "java/lang/AbstractStringBuilder", name := "putStringAt", desc := "(ILjava/lang/String;)V" } : Jvm.MethodName) jdk_68_method_73_code (3 : Nat) (Option.none : Option Jvm.ClassFile.FieldType), Jvm.Cond.code ({ cls := "java/lang/AbstractStringBuilder", name := "inflateIfNeededFor", desc := "(Ljava/lang/String;)V" } : Jvm.MethodName) jdk_68_method_71_code (2 : Nat) (Option.none : Option Jvm.ClassFile.FieldType), Jvm.Cond.code ({ cls := "java/lang/String", name := "getBytes", desc := "([BIB)V" } : Jvm.MethodName) jdk_42_method_147_code (4 : Nat) (Option.none : Option Jvm.ClassFile.FieldType), Jvm.Cond.code ({ cls := "java/lang/StringBuilder", name := "toString", desc := "()Ljava/lang/String;" } : Jvm.MethodName) jdk_67_method_42_code (1 : Nat) (Option.some (Jvm.ClassFile.FieldType.object "java/lang/String")), Jvm.Cond.code ({ cls := "java/lang/String", name := "<init>", desc := "(Ljava/lang/StringBuilder;)V" } : Jvm.MethodName) jdk_42_method_53_code (2 : Nat) (Option.none : Option Jvm.ClassFile.FieldType), Jvm.Cond.code ({ cls := "java/lang/String", name := "<init>", desc := "(Ljava/lang/AbstractStringBuilder;Ljava/lang/Void;)V" } : Jvm.MethodName) jdk_42_method_150_code (5 : Nat) (Option.none : Option Jvm.ClassFile.FieldType), Jvm.Cond.code ({ cls := "java/lang/AbstractStringBuilder", name := "getValue", desc := "()[B" } : Jvm.MethodName) jdk_68_method_64_code (1 : Nat) (Option.some (Jvm.ClassFile.FieldType.array Jvm.ClassFile.FieldType.byte)), Jvm.Cond.code ({ cls := "java/lang/StringBuilder", name := "length", desc := "()I" } : Jvm.MethodName) jdk_67_method_93_code (1 : Nat) (Option.some Jvm.ClassFile.FieldType.int), Jvm.Cond.code ({ cls := "java/lang/AbstractStringBuilder", name := "length", desc := "()I" } : Jvm.MethodName) jdk_68_method_6_code (1 : Nat) (Option.some Jvm.ClassFile.FieldType.int), Jvm.Cond.code ({ cls := "java/lang/AbstractStringBuilder", name := "isLatin1", desc := "()Z" } : Jvm.MethodName) jdk_68_method_68_code (1 : Nat) (Option.some Jvm.ClassFile.FieldType.boolean), Jvm.Cond.code ({ cls := "java/util/Arrays", name := "copyOfRange", desc := "([BII)[B" } : Jvm.MethodName) jdk_65_method_132_code (3 : Nat) (Option.some (Jvm.ClassFile.FieldType.array Jvm.ClassFile.FieldType.byte)), Jvm.Cond.code ({ cls := "java/util/Arrays", name := "copyOfRangeByte", desc := "([BII)[B" } : Jvm.MethodName) jdk_65_method_133_code (5 : Nat) (Option.some (Jvm.ClassFile.FieldType.array Jvm.ClassFile.FieldType.byte)), Jvm.Cond.code ({ cls := "java/util/Arrays", name := "checkLength", desc := "(II)V" } : Jvm.MethodName) jdk_65_method_131_code (2 : Nat) (Option.none : Option Jvm.ClassFile.FieldType), Jvm.Cond.code ({ cls := "java/lang/Math", name := "min", desc := "(II)I" } : Jvm.MethodName) jdk_29_method_69_code (2 : Nat) (Option.some Jvm.ClassFile.FieldType.int), Jvm.Cond.code ({ cls := "com/example/limentinus/limentinus/core/KeyLayoutFencingKeyPinLaw", name := "at", desc := "(Ljava/lang/String;IIIII)Z" } : Jvm.MethodName) method_6_code (6 : Nat) (Option.some Jvm.ClassFile.FieldType.boolean), Jvm.Cond.code ({ cls := "java/lang/String", name := "charAt", desc := "(I)C" } : Jvm.MethodName) jdk_42_method_56_code (2 : Nat) (Option.some Jvm.ClassFile.FieldType.char), Jvm.Cond.code ({ cls := "java/lang/String", name := "isLatin1", desc := "()Z" } : Jvm.MethodName) jdk_42_method_154_code (1 : Nat) (Option.some Jvm.ClassFile.FieldType.boolean), Jvm.Cond.code ({ cls := "java/lang/StringLatin1", name := "charAt", desc := "([BI)C" } : Jvm.MethodName) jdk_43_method_2_code (2 : Nat) (Option.some Jvm.ClassFile.FieldType.char), Jvm.Cond.code ({ cls := "java/lang/String", name := "checkIndex", desc := "(II)V" } : Jvm.MethodName) jdk_42_method_155_code (2 : Nat) (Option.none : Option Jvm.ClassFile.FieldType), Jvm.Cond.code ({ cls := "jdk/internal/util/Preconditions", name := "checkIndex", desc := "(IILjava/util/function/BiFunction;)I" } : Jvm.MethodName) jdk_41_method_11_code (3 : Nat) (Option.some Jvm.ClassFile.FieldType.int), Jvm.Cond.code ({ cls := "com/example/limentinus/limentinus/core/KeyLayoutFencingKeyPinLaw", name := "expected", desc := "(IIIII)C" } : Jvm.MethodName) method_5_code (5 : Nat) (Option.some Jvm.ClassFile.FieldType.char), Jvm.Cond.code ({ cls := "java/lang/String", name := "valueOf", desc := "(C)Ljava/lang/String;" } : Jvm.MethodName) jdk_42_method_139_code (1 : Nat) (Option.some (Jvm.ClassFile.FieldType.object "java/lang/String")), Jvm.Cond.code ({ cls := "java/lang/StringLatin1", name := "canEncode", desc := "(C)Z" } : Jvm.MethodName) jdk_43_method_3_code (1 : Nat) (Option.some Jvm.ClassFile.FieldType.boolean), Jvm.Cond.code ({ cls := "java/lang/StringLatin1", name := "toBytes", desc := "(C)[B" } : Jvm.MethodName) jdk_43_method_46_code (1 : Nat) (Option.some (Jvm.ClassFile.FieldType.array Jvm.ClassFile.FieldType.byte)), Jvm.Cond.code ({ cls := "java/lang/String", name := "<init>", desc := "([BB)V" } : Jvm.MethodName) jdk_42_method_151_code (3 : Nat) (Option.none : Option Jvm.ClassFile.FieldType)]
set_option maxRecDepth 65536 in
theorem codes_eq : words1.filter isCode = codes1 := rfl
theorem w_codes : ∀ c ∈ words1.filter isCode, c.before args0 about1 = true := by
  rw [codes_eq]
  intro c hc
  simp only [codes1, List.mem_cons, List.not_mem_nil, or_false] at hc
  rcases hc with rfl | rfl | rfl | rfl | rfl | rfl | rfl | rfl | rfl | rfl | rfl | rfl | rfl | rfl | rfl | rfl | rfl | rfl | rfl | rfl | rfl | rfl | rfl | rfl | rfl | rfl | rfl | rfl | rfl | rfl | rfl | rfl | rfl | rfl | rfl | rfl | rfl | rfl | rfl | rfl | rfl | rfl | rfl | rfl | rfl
  · exact w_c0
  · exact w_c1
  · exact w_c2
  · exact w_c3
  · exact w_c4
  · exact w_c5
  · exact w_c6
  · exact w_c7
  · exact w_c8
  · exact w_c9
  · exact w_c10
  · exact w_c11
  · exact w_c12
  · exact w_c13
  · exact w_c14
  · exact w_c15
  · exact w_c16
  · exact w_c17
  · exact w_c18
  · exact w_c19
  · exact w_c20
  · exact w_c21
  · exact w_c22
  · exact w_c23
  · exact w_c24
  · exact w_c25
  · exact w_c26
  · exact w_c27
  · exact w_c28
  · exact w_c29
  · exact w_c30
  · exact w_c31
  · exact w_c32
  · exact w_c33
  · exact w_c34
  · exact w_c35
  · exact w_c36
  · exact w_c37
  · exact w_c38
  · exact w_c39
  · exact w_c40
  · exact w_c41
  · exact w_c42
  · exact w_c43
  · exact w_c44
set_option maxRecDepth 65536 in
theorem w_t1 : (words1.take 24).all (fun c => isCode c || c.before args0 about1) = true := by decide +kernel
set_option maxRecDepth 65536 in
theorem w_t2 : ((words1.drop 24).take 24).all (fun c => isCode c || c.before args0 about1) = true := by decide +kernel
set_option maxRecDepth 65536 in
theorem w_t3 : (((words1.drop 24).drop 24).take 24).all (fun c => isCode c || c.before args0 about1) = true := by decide +kernel
set_option maxRecDepth 65536 in
theorem w_t4 : ((((words1.drop 24).drop 24).drop 24).take 24).all (fun c => isCode c || c.before args0 about1) = true := by decide +kernel
set_option maxRecDepth 65536 in
theorem w_t5 : (((((words1.drop 24).drop 24).drop 24).drop 24).take 24).all (fun c => isCode c || c.before args0 about1) = true := by decide +kernel
set_option maxRecDepth 65536 in
theorem w_t6 : ((((((words1.drop 24).drop 24).drop 24).drop 24).drop 24).take 24).all (fun c => isCode c || c.before args0 about1) = true := by decide +kernel
set_option maxRecDepth 65536 in
theorem w_t7 : (((((((words1.drop 24).drop 24).drop 24).drop 24).drop 24).drop 24).take 24).all (fun c => isCode c || c.before args0 about1) = true := by decide +kernel
set_option maxRecDepth 65536 in
theorem w_t8 : ((((((((words1.drop 24).drop 24).drop 24).drop 24).drop 24).drop 24).drop 24).take 24).all (fun c => isCode c || c.before args0 about1) = true := by decide +kernel
set_option maxRecDepth 65536 in
theorem w_t9 : (((((((((words1.drop 24).drop 24).drop 24).drop 24).drop 24).drop 24).drop 24).drop 24).take 24).all (fun c => isCode c || c.before args0 about1) = true := by decide +kernel
set_option maxRecDepth 65536 in
theorem w_t10 : (((((((((words1.drop 24).drop 24).drop 24).drop 24).drop 24).drop 24).drop 24).drop 24).drop 24).all (fun c => isCode c || c.before args0 about1) = true := by decide +kernel
theorem w_tables : (allAtoms (Jvm.Cond.code x code maxLocals ret :: tables_1)).before args0 about1 = true := by
  rw [allAtoms_all]
  show words1.all (fun c => c.before args0 about1) = true
  refine all_split ?_ w_codes
  rw [← List.take_append_drop 24 words1, List.all_append, w_t1, ← List.take_append_drop 24 (words1.drop 24), List.all_append, w_t2, ← List.take_append_drop 24 ((words1.drop 24).drop 24), List.all_append, w_t3, ← List.take_append_drop 24 (((words1.drop 24).drop 24).drop 24), List.all_append, w_t4, ← List.take_append_drop 24 ((((words1.drop 24).drop 24).drop 24).drop 24), List.all_append, w_t5, ← List.take_append_drop 24 (((((words1.drop 24).drop 24).drop 24).drop 24).drop 24), List.all_append, w_t6, ← List.take_append_drop 24 ((((((words1.drop 24).drop 24).drop 24).drop 24).drop 24).drop 24), List.all_append, w_t7, ← List.take_append_drop 24 (((((((words1.drop 24).drop 24).drop 24).drop 24).drop 24).drop 24).drop 24), List.all_append, w_t8, ← List.take_append_drop 24 ((((((((words1.drop 24).drop 24).drop 24).drop 24).drop 24).drop 24).drop 24).drop 24), List.all_append, w_t9, w_t10]
  rfl
set_option maxRecDepth 65536 in
theorem w_rest : rest_1_c.before args0 about1 = true := by decide +kernel
set_option maxRecDepth 65536 in
theorem w_case : (Jvm.Cond.and given_1 narrow_1).before args0 about1 = true := by decide +kernel
set_option maxRecDepth 65536 in
theorem w_consts : constsHeld consts_1 about1 := Jvm.Lit.constsHeldB_iff.mp (by decide +kernel)
theorem w_applies : (headSpec (Jvm.Cond.code x code maxLocals ret :: tables_1) room_1).applies x e0.platform about1 = true :=
  (Spec.applies_iff w_frames).mpr ⟨w_running, w_runnable, w_alone, w_named, w_hears, w_ripe, w_room, w_tables⟩
theorem atStart : AtStart classFile x code maxLocals ret World_1 tables_1 room_1 Calls_1 rest_1 Pre_1 launch0 p0 e0 about1 theMethod args0 below0 :=
  ⟨lists_1, trivial, launch0.admits_env _ _ _, launch0.least_env, fairChoices_fair.cas, fairChoices_fair.clock, w_frames, w_args, w_heap, w_applies, ⟨w_consts, trivial⟩, w_rest, w_case⟩
end start1
theorem witness_1 : WitnessClaimed_1 := ⟨start1.p0, start1.e0, start1.about1, start1.theMethod, start1.args0, start1.below0, start1.atStart⟩
end Jvm.Pilot.@@N@@
