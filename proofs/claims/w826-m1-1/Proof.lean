import JvmDerived
import JvmDerived.Pilot.@@N@@Statement
import JvmDerived.Pilot.@@N@@Code
set_option linter.unusedVariables false
set_option linter.unusedSimpArgs false
namespace Jvm.OwnKit
open Sem ClassFile Op Lib Bundle Jvm.Stand Jvm.Free Jvm.LawKit Jvm.RoadKit
section Kit
variable {p : Program} {l : Launch} {e : Env} {R : Room} {s : State} {m : MethodId} {args : Array Value} {below : List Frame} {meth : Method} {c : Code} {Z : State} {a0 : Array Value} {EL : List (String × Nat)} {own : String} {Q : Option Value → Vm → Heap → Prop} {vm : Vm} {h : Heap} {cells slots : Nat} {g : JFrame}
/-- the k-th word -/
theorem ow {L : List Jvm.Cond} (hw : ∀ d ∈ L, d.before a0 Z = true) (k : Nat) {d : Jvm.Cond} (q : L[k]? = some d) : d.before a0 Z = true := hw _ (List.mem_of_getElem? q)
/-- a standing place of a walk that may have interned: tables vm, heap h, usage -/
def St (p : Program) (l : Launch) (e : Env) (R : Room) (s : State) (m : MethodId) (args : Array Value) (below : List Frame) (meth : Method) (c : Code) (Z : State) (a0 : Array Value) (EL : List (String × Nat)) (own : String) (vm : Vm) (T : State) (h : Heap) (cells slots : Nat) : Prop :=
  ∃ (locs : List Loc) (k0 : Nat), Stand p l e R (s.setVm vm) m args below meth c T locs cells slots ∧ T.heap = h ∧ Z.Warmed39 vm ∧ vm.findClass own = some m.cls ∧ s.Since vm k0 ∧ k0 ≤ h.size ∧ Fr Z.heap.size locs ∧ CHr Z EL s.vm s.heap vm h ∧ Ext Z.heap s.heap ∧ EW Z a0 EL ∧ p.tables.exec = Jvm.exec ∧ meth.locks = false
/-- from every such place with this frame the method ends as Q says -/
def Go (p : Program) (l : Launch) (e : Env) (R : Room) (s : State) (m : MethodId) (args : Array Value) (below : List Frame) (meth : Method) (c : Code) (Z : State) (a0 : Array Value) (EL : List (String × Nat)) (own : String) (Q : Option Value → Vm → Heap → Prop) (vm : Vm) (h : Heap) (cells slots : Nat) (g : JFrame) : Prop :=
  ∀ T, St p l e R s m args below meth c Z a0 EL own vm T h cells slots → ∃ s₂ o, Steps p.tables e below (T.setTop g) s₂ ∧ s₂.status = .running ∧ Ended s₂ below o ∧
    ∃ v L, o = .returned v ∧ (Fr Z.heap.size L ∧ Q v s₂.vm s₂.heap) ∧ CHr Z EL s.vm s.heap s₂.vm s₂.heap ∧ ReturnedEndW s o s₂ L R.cells R.slots
/-- a plain step -/
theorem gs (g' : JFrame) (st : ∀ T target, At T m c below → Steps p.tables e below (T.setTop g') target → Steps p.tables e below (T.setTop g) target)
    (k : Go p l e R s m args below meth c Z a0 EL own Q vm h cells slots g') : Go p l e R s m args below meth c Z a0 EL own Q vm h cells slots g := fun T X => by
  obtain ⟨s2, o, q1, q2⟩ := k T X
  obtain ⟨locs, k0, X', -⟩ := X
  exact ⟨s2, o, st _ _ X'.here q1, q2⟩
theorem gat (g' : JFrame) (q : g = g') (k : Go p l e R s m args below meth c Z a0 EL own Q vm h cells slots g') : Go p l e R s m args below meth c Z a0 EL own Q vm h cells slots g := q ▸ k
/-- a step that asks the standing place -/
theorem gx (g' : JFrame) (st : ∀ T locs, Stand p l e R (s.setVm vm) m args below meth c T locs cells slots → Z.Warmed39 vm → vm.findClass own = some m.cls → T.heap = h → ∀ target, Steps p.tables e below (T.setTop g') target → Steps p.tables e below (T.setTop g) target)
    (k : Go p l e R s m args below meth c Z a0 EL own Q vm h cells slots g') : Go p l e R s m args below meth c Z a0 EL own Q vm h cells slots g := fun T X => by
  obtain ⟨s2, o, q1, q2⟩ := k T X
  obtain ⟨locs, k0, X', eT, hZ, hown, -⟩ := X
  exact ⟨s2, o, st _ _ X' hZ hown eT _ q1, q2⟩
/-- a step to another state, the heap as it was -/
theorem gy (g' : JFrame) (st : ∀ T locs, Stand p l e R (s.setVm vm) m args below meth c T locs cells slots → Z.Warmed39 vm → vm.findClass own = some m.cls → T.heap = h → ∃ T', Stand p l e R (s.setVm vm) m args below meth c T' locs cells slots ∧ T'.heap = h ∧ ∀ target, Steps p.tables e below (T'.setTop g') target → Steps p.tables e below (T.setTop g) target)
    (k : Go p l e R s m args below meth c Z a0 EL own Q vm h cells slots g') : Go p l e R s m args below meth c Z a0 EL own Q vm h cells slots g := fun T X => by
  obtain ⟨locs, k0, X', eT, hZ, hown, r⟩ := X
  obtain ⟨T', X1, e1, s1⟩ := st T locs X' hZ hown eT
  obtain ⟨s2, o, q1, q2⟩ := k T' ⟨locs, k0, X1, e1, hZ, hown, r⟩
  exact ⟨s2, o, s1 _ q1, q2⟩
/-- what the standing place knows -/
theorem ginfo (k : Z.Warmed39 vm → CHv Z EL vm h → Ext Z.heap h → Go p l e R s m args below meth c Z a0 EL own Q vm h cells slots g) : Go p l e R s m args below meth c Z a0 EL own Q vm h cells slots g := fun T X => by
  have X0 := X
  obtain ⟨locs, k0, X', eT, hZ, hown, hS, hk, N, H, E0, r⟩ := X
  refine k hZ H.1 ⟨?_, ?_⟩ T X0
  · exact Nat.le_trans E0.1 H.2.1
  · intro b cl hcl
    have hb := (Array.getElem?_eq_some_iff.mp hcl).1
    obtain ⟨c', h1, h2, -, h4⟩ := X'.same.2.2.2.2.2 b cl (show s.heap[b]? = some cl from E0.2 b cl hcl)
    have hsl : c'.slots = cl.slots := Array.ext_getElem? fun i => h4 i fun hm => absurd (N _ hm) (Nat.not_le.mpr hb)
    have hcc : c' = cl := by rw [h2, hsl]
    have h1' : T.heap[b]? = some c' := h1
    rw [← eT, ← hcc]; exact h1'
theorem gmono {cells' slots' : Nat} (hc : cells ≤ cells') (hs : slots ≤ slots') (k : Go p l e R s m args below meth c Z a0 EL own Q vm h cells' slots' g) : Go p l e R s m args below meth c Z a0 EL own Q vm h cells slots g := fun T X => by
  obtain ⟨locs, k0, X', r⟩ := X
  exact k T ⟨locs, k0, { X' with same := X'.same.mono hc hs }, r⟩
/-- the heap grows at its end -/
theorem gnew {cells' slots' : Nat} {P : Heap → Prop} (g' : Heap → JFrame)
    (st : ∀ T locs, Stand p l e R (s.setVm vm) m args below meth c T locs cells slots → Z.Warmed39 vm → vm.findClass own = some m.cls → T.heap = h → ∃ T' h', Stand p l e R (s.setVm vm) m args below meth c T' locs cells' slots' ∧ T'.heap = h' ∧ Ext h h' ∧ P h' ∧ ∀ target, Steps p.tables e below (T'.setTop (g' h')) target → Steps p.tables e below (T.setTop g) target)
    (k : ∀ h', Ext h h' → CHr Z EL vm h vm h' → P h' → Z.heap.size ≤ h.size → Safe Z EL vm h' h.size → Go p l e R s m args below meth c Z a0 EL own Q vm h' cells' slots' (g' h')) : Go p l e R s m args below meth c Z a0 EL own Q vm h cells slots g := fun T X => by
  obtain ⟨locs, k0, X', eT, hZ, hown, hS, hk, N, H, E0, r⟩ := X
  obtain ⟨T', h', X1, e1, E, hP, s1⟩ := st T locs X' hZ hown eT
  obtain ⟨s2, o, q1, q2⟩ := k h' E (CHr.ext E H.1) hP (Nat.le_trans E0.1 H.2.1) (Safe.ext E H.1 (Safe.new (Nat.le_refl _))) T' ⟨locs, k0, X1, e1, hZ, hown, hS, Nat.le_trans hk E.1, N, H.trans (CHr.ext E H.1), E0, r⟩
  exact ⟨s2, o, s1 _ q1, q2⟩
/-- one place is written -/
theorem gwr (g' : JFrame) {a : Addr} {sl : Nat} {v : Value} (ha : Z.heap.size ≤ a) (hs : Z.vm.Alike vm → Safe Z EL vm h a)
    (st : ∀ T locs, Stand p l e R (s.setVm vm) m args below meth c T locs cells slots → Z.Warmed39 vm → vm.findClass own = some m.cls → T.heap = h → ∃ T' h', Stand p l e R (s.setVm vm) m args below meth c T' (locs ++ [⟨a, sl⟩]) cells slots ∧ T'.heap = h' ∧ Wr h h' a sl v ∧ ∀ target, Steps p.tables e below (T'.setTop g') target → Steps p.tables e below (T.setTop g) target)
    (k : ∀ h', Wr h h' a sl v → CHr Z EL vm h vm h' → Go p l e R s m args below meth c Z a0 EL own Q vm h' cells slots g') : Go p l e R s m args below meth c Z a0 EL own Q vm h cells slots g := fun T X => by
  obtain ⟨locs, k0, X', eT, hZ, hown, hS, hk, N, H, E0, r⟩ := X
  obtain ⟨T', h', X1, e1, W, s1⟩ := st T locs X' hZ hown eT
  obtain ⟨s2, o, q1, q2⟩ := k h' W (CHr.wr W (hs hZ.alike) H.1) T' ⟨_, k0, X1, e1, hZ, hown, hS, by rw [W.size]; exact hk, Fr.snoc X1 N ha, H.trans (CHr.wr W (hs hZ.alike) H.1), E0, r⟩
  exact ⟨s2, o, s1 _ q1, q2⟩
/-- the end -/
theorem gret {v : Option Value} (hv : meth.sig.returnType = none → v = none) (hc : cells ≤ R.cells) (hs : slots ≤ R.slots)
    (st : ∀ T locs fs, Stand p l e R (s.setVm vm) m args below meth c T locs cells slots → (∀ (f : JFrame) (acts : List Action), f.method = m → f.locked = none → f.entered = [] → (doReturn e (T.setTop f) acts v).1 = T.setFrames fs) → Steps p.tables e below (T.setTop g) (T.setFrames fs))
    (hq : ∀ vm', CHr Z EL vm h vm' h → Q v vm' h) : Go p l e R s m args below meth c Z a0 EL own Q vm h cells slots g := fun T X => by
  obtain ⟨locs, k0, X', eT, hZ, hown, hS, hk, N, H, E0, hw, hx, hlk⟩ := X
  obtain ⟨fs, hr, hrun, hend, hW⟩ := X'.leaveW hS (by rw [eT]; exact hk) hv hlk
  have C1 : CHr Z EL vm h T.vm h := CHv.at X' hZ hw H.1
  refine ⟨_, _, st T locs fs X' hr, hrun, hend, v, locs, rfl, ⟨N, ?_⟩, ?_, ?_⟩
  · show Q v T.vm T.heap
    rw [eT]; exact hq _ C1
  · show CHr Z EL s.vm s.heap T.vm T.heap
    rw [eT]; exact H.trans C1
  · exact ⟨hW.1, hW.2.1, hW.2.2.1, hW.2.2.2.mono hc hs⟩
theorem gretI {pc : Nat} {Ls : Array Slot} {z : Int32} {rest : List Value} (hx : p.tables.exec = Jvm.exec) (hret : meth.sig.returnType = some .int) (hd : decode c.code pc = .ok (.ireturn, 1)) (hc : cells ≤ R.cells) (hs : slots ≤ R.slots)
    (hq : ∀ vm', CHr Z EL vm h vm' h → Q (some (.int z)) vm' h) : Go p l e R s m args below meth c Z a0 EL own Q vm h cells slots (mkF m pc Ls (.int z :: rest)) :=
  gret (v := some (.int z)) (fun q => by rw [hret] at q; cases q) hc hs (fun T locs fs X hr => retOut X hx hret rfl (Or.inl ⟨rfl, Or.inl rfl, z, rfl⟩) hd hr) hq
theorem gretN {t : FieldType} {pc : Nat} {Ls : Array Slot} {z : Int32} {rest : List Value} (hx : p.tables.exec = Jvm.exec) (hret : meth.sig.returnType = some t) (ht : t = .boolean ∨ t = .byte ∨ t = .char ∨ t = .short) (hd : decode c.code pc = .ok (.ireturn, 1)) (hc : cells ≤ R.cells) (hs : slots ≤ R.slots)
    (hq : ∀ vm', CHr Z EL vm h vm' h → Q (some (.int (nar t z))) vm' h) : Go p l e R s m args below meth c Z a0 EL own Q vm h cells slots (mkF m pc Ls (.int z :: rest)) :=
  gret (v := some (.int (nar t z))) (fun q => by rw [hret] at q; cases q) hc hs (fun T locs fs X hr => retN X hx hret ht hd hr) hq
theorem gretJ {pc : Nat} {Ls : Array Slot} {z : Int64} {rest : List Value} (hx : p.tables.exec = Jvm.exec) (hret : meth.sig.returnType = some .long) (hd : decode c.code pc = .ok (.lreturn, 1)) (hc : cells ≤ R.cells) (hs : slots ≤ R.slots)
    (hq : ∀ vm', CHr Z EL vm h vm' h → Q (some (.long z)) vm' h) : Go p l e R s m args below meth c Z a0 EL own Q vm h cells slots (mkF m pc Ls (.long z :: rest)) :=
  gret (v := some (.long z)) (fun q => by rw [hret] at q; cases q) hc hs (fun T locs fs X hr => retOut X hx hret rfl (Or.inr (Or.inl ⟨rfl, rfl, z, rfl⟩)) hd hr) hq
theorem gretA {t : FieldType} {pc : Nat} {Ls : Array Slot} {v : Value} {rest : List Value} (hx : p.tables.exec = Jvm.exec) (hret : meth.sig.returnType = some t) (ht : t.isReference = true) (hv : v.isRef = true) (hd : decode c.code pc = .ok (.areturn, 1)) (hc : cells ≤ R.cells) (hs : slots ≤ R.slots)
    (hq : ∀ vm', CHr Z EL vm h vm' h → Q (some v) vm' h) : Go p l e R s m args below meth c Z a0 EL own Q vm h cells slots (mkF m pc Ls (v :: rest)) :=
  gret (v := some v) (fun q => by rw [hret] at q; cases q) hc hs (fun T locs fs X hr => retOut X hx hret (by cases t <;> first | (cases ht; done) | (cases v <;> first | rfl | (cases hv; done))) (Or.inr (Or.inr (Or.inr (Or.inr ⟨rfl, ht, hv⟩)))) hd hr) hq
theorem gretV {pc : Nat} {Ls : Array Slot} (hx : p.tables.exec = Jvm.exec) (hret : meth.sig.returnType = none) (hd : decode c.code pc = .ok (.return_, 1)) (hc : cells ≤ R.cells) (hs : slots ≤ R.slots)
    (hq : ∀ vm', CHr Z EL vm h vm' h → Q none vm' h) : Go p l e R s m args below meth c Z a0 EL own Q vm h cells slots (mkF m pc Ls []) :=
  gret (v := none) (fun _ => rfl) hc hs (fun T locs fs X hr => X.returnOut hx hret hd hr) hq
/-! contracts -/
def Met (l : Launch) (y : MethodName) (bytes : ByteArray) (maxL : Nat) (ret : Option FieldType) (ws : List Jvm.Cond) (rm : Room) (Z : State) (EL : List (String × Nat)) (vm0 : Vm) (h0 : Heap) (as' : Array Value) (Q : Option Value → Vm → Heap → Prop) : Prop :=
  MetFree l y (head1 (Jvm.Cond.code y bytes maxL ret :: ws) rm) (fun a U => a = as' ∧ Z.Warmed39 U.vm ∧ U.heap = h0 ∧ CHr Z EL vm0 h0 U.vm h0) (fun _ _ _ _ _ => True)
    (fun _ U o U' => ∃ v L, o = .returned v ∧ (Fr Z.heap.size L ∧ Q v U'.vm U'.heap) ∧ CHr Z EL U.vm U.heap U'.vm U'.heap ∧ ReturnedEndW U o U' L rm.cells rm.slots)
theorem Met.of_walk {y : MethodName} {bytes : ByteArray} {maxL : Nat} {ret : Option FieldType} {ws : List Jvm.Cond} {rm : Room} {vm0 : Vm} {h0 : Heap} {as' : Array Value} (L0 : Array Slot) (hpn : plainFor y = true) (X00 : Ext Z.heap h0) (hEL : EW Z a0 EL)
    (hef : ∀ m, entryFrame m as' maxL = mkF m 0 L0 [])
    (walk : ∀ (p : Program) (e : Env) (s : State) (m : MethodId) (below : List Frame) (meth : Method) (c : Code) (vm : Vm), p.tables.exec = Jvm.exec → c.code = bytes → c.maxLocals = maxL → meth.sig.returnType = ret → meth.name = y.name → CHr Z EL vm0 h0 vm h0 →
      Go p l e rm s m as' below meth c Z a0 EL y.cls Q vm h0 0 0 (mkF m 0 L0 [])) : Met l y bytes maxL ret ws rm Z EL vm0 h0 as' Q := by
  refine MetFree.of_bodySF hpn hisR ?_
  intro p e s m args below meth c s₁ Bd hml0 hP hK
  obtain ⟨rfl, hZ, hh, hC⟩ := hP
  have X0 : Stand p l e rm s m args below meth c s₁ [] 0 0 := Stand.of_body Bd
  have e0 : s₁.heap = h0 := by rw [← hh, Bd.state]; rfl
  obtain ⟨s2, o, q1, q2⟩ := walk p e s m below meth c s.vm Bd.exec Bd.bytes hml0 Bd.returns (name_of_methodNamed Bd.named Bd.method).1 hC s₁
    ⟨[], 0, X0, e0, hZ, findClass_of_methodNamed Bd.named, (State.WarmedH.refl s).since 0, Nat.zero_le _, Fr.nil _, by rw [hh]; exact CHr.refl hC.1, by rw [hh]; exact X00, hEL, Bd.exec, Bd.notSynchronized⟩
  exact ⟨s2, o, by rw [hef]; exact q1, q2⟩
def Pay (l : Launch) (R : Room) (p : Program) (e : Env) (below : List Frame) (s : State) (args : Array Value) (Z : State) (EL : List (String × Nat)) (vm : Vm) (h : Heap) (y : MethodName) (len W : Nat) (as' : Array Value) (rc rs : Nat) (Q : Option Value → Vm → Heap → Prop) : Prop :=
  BackS l R p e below (s.setVm vm) args y len W (fun A a => a = as' ∧ A.U.heap = h ∧ A.cells + rc ≤ R.cells ∧ A.slots + rs ≤ R.slots)
    (fun A _ v B => ∃ L, (Fr Z.heap.size L ∧ Q v B.U.vm B.U.heap) ∧ B.locs = A.locs ++ L ∧ B.cells = A.cells + rc ∧ B.slots = A.slots + rs ∧ CHr Z EL vm h B.U.vm B.U.heap)
theorem Pay.of_met {y : MethodName} {bytes : ByteArray} {maxL : Nat} {ret : Option FieldType} {rm : Room} {len W : Nat} {as' : Array Value} (hM : Met l y bytes maxL ret [] rm Z EL vm h as' Q)
    (wc : (Jvm.Cond.code y bytes maxL ret).before a0 Z = true) (wz : (Jvm.Cond.initialized y.cls).before a0 Z = true) (hf : rm.frames + 1 ≤ R.frames) (hl : W + (maxL + 11) + rm.locals ≤ R.locals) (hZ : Z.Warmed39 vm) (H : CHv Z EL vm h) (hEL : EW Z a0 EL) :
    Pay l R p e below s args Z EL vm h y len W as' rm.cells rm.slots Q :=
  BackS.of_freeW (bytes := bytes) (maxL := maxL) (ret := ret) (E := fun _ first o t L k n => k = rm.cells ∧ n = rm.slots ∧ (∃ v, o = .returned v ∧ (Fr Z.heap.size L ∧ Q v t.vm t.heap)) ∧ CHr Z EL first.vm first.heap t.vm t.heap) hM hf hl
    (fun m meth c A a Y hp => have hU : Z.Warmed39 A.U.vm := wtrans (s := s.setVm vm) hZ Y.warmed
      ⟨by show (Jvm.Cond.and _ .tt).before a A.U = true; rw [Cond.before_and, mv hU wc]; rfl, mv hU wc, mv hU wz, hp.2.2.1, hp.2.2.2⟩)
    (fun m meth c A a g mk Y hp => ⟨hp.1, wtrans (s := s.setVm vm) hZ Y.warmed, hp.2.1, (show CHr Z EL vm h A.U.vm h from CHv.at Y hZ hEL H)⟩) (fun _ _ _ _ _ _ _ _ _ => trivial)
    (fun _ _ _ _ ⟨v, L, h1, h2, h3, h4⟩ => ⟨L, _, _, h4, rfl, rfl, ⟨v, h1, h2⟩, h3⟩)
    (fun m meth c A a g mk v t L k n Y hp _ _ ⟨e1, e2, ⟨v', e3, e4⟩, e5⟩ => by
      cases e3; subst e1 e2
      refine ⟨L, e4, rfl, rfl, rfl, (CHv.at Y hZ hEL H).trans ?_⟩
      rw [← hp.2.1]; exact e5)
theorem Pay.of_back {y : MethodName} {len W : Nat} {as' : Array Value} {rc rs : Nat} {Q0 : Option Value → Heap → List Loc → Prop}
    (hK : Back l R p e below (s.setVm vm) args y len W (fun A a => a = as' ∧ A.U.heap = h ∧ A.cells + rc ≤ R.cells ∧ A.slots + rs ≤ R.slots) (fun A _ v B => ∃ L, Q0 v B.U.heap L ∧ B.locs = A.locs ++ L ∧ B.cells = A.cells + rc ∧ B.slots = A.slots + rs))
    (hZ : Z.Warmed39 vm) (H : CHv Z EL vm h) (hEL : EW Z a0 EL)
    (hq : ∀ v h' L, Q0 v h' L → Fr Z.heap.size L ∧ (∃ ws, Keep h h' ws ∧ ∀ x ∈ ws, Safe Z EL vm h x) ∧ ∀ vm', CHr Z EL vm h vm' h' → Q v vm' h') : Pay l R p e below s args Z EL vm h y len W as' rc rs Q := by
  intro m meth c A g ig mk a X hg hsize hdg hW hn hp
  obtain ⟨v, B, X', ⟨L, q0, q1, q2, q3⟩, hsteps⟩ := hK m meth c A g ig mk a X hg hsize hdg hW hn hp
  obtain ⟨hF, ⟨ws, K, hs⟩, hQ⟩ := hq _ _ _ q0
  have C1 : CHr Z EL vm h vm B.U.heap := CHr.keep K hs H
  have C2 : CHr Z EL vm h B.U.vm B.U.heap := C1.trans (CHv.at X' hZ hEL C1.1)
  exact ⟨v, B, X'.retabled X'.warmed.wide, X'.warmed.since _, by rw [hp.2.1]; exact K.1, ⟨L, ⟨hF, hQ _ C2⟩, q1, q2, q3, C2⟩, hsteps⟩
theorem Pay.mono {y : MethodName} {len W rc rs : Nat} {as' : Array Value} {Q' : Option Value → Vm → Heap → Prop} (hP : Pay l R p e below s args Z EL vm h y len W as' rc rs Q) (hq : ∀ v vm' h', Q v vm' h' → Q' v vm' h') : Pay l R p e below s args Z EL vm h y len W as' rc rs Q' := by
  intro m meth c A g ig mk a X hg hsize hdg hW hn hp
  obtain ⟨v, B, X', h1, h2, ⟨L, ⟨q1, q2⟩, r⟩, st⟩ := hP m meth c A g ig mk a X hg hsize hdg hW hn hp
  exact ⟨v, B, X', h1, h2, ⟨L, ⟨q1, hq _ _ _ q2⟩, r⟩, st⟩
/-- behind any call -/
theorem gback {y : MethodName} {rc rs : Nat} {as' : Array Value} {Q' : Option Value → Vm → Heap → Prop} {rest : List Value} {pc' : Nat} {L : Array Slot}
    (st : ∀ T locs, Stand p l e R (s.setVm vm) m args below meth c T locs cells slots → Z.Warmed39 vm → vm.findClass own = some m.cls → T.heap = h → CHv Z EL vm h → EW Z a0 EL →
      ∃ (v : Option Value) (vm₁ : Vm) (B : Pt), (s.setVm vm).WarmedH vm₁ ∧ Stand p l e R ((s.setVm vm).setVm B.U.vm) m args below meth c B.U B.locs B.cells B.slots ∧ (s.setVm vm).Since B.U.vm B.U.heap.size ∧ T.heap.size ≤ B.U.heap.size ∧
        (∃ L, (Fr Z.heap.size L ∧ Q' v B.U.vm B.U.heap) ∧ B.locs = locs ++ L ∧ B.cells = cells + rc ∧ B.slots = slots + rs ∧ CHr Z EL vm h B.U.vm B.U.heap) ∧ Steps p.tables e below (T.setTop g) (B.U.setTop (mkF m pc' L (v.toList ++ rest))))
    (k : ∀ v vm' h', CHr Z EL vm h vm' h' → Q' v vm' h' → Go p l e R s m args below meth c Z a0 EL own Q vm' h' (cells + rc) (slots + rs) (mkF m pc' L (v.toList ++ rest))) : Go p l e R s m args below meth c Z a0 EL own Q vm h cells slots g := fun T X => by
  obtain ⟨locs, k0, X', eT, hZ, hown, hS, hk, N, H, E0, hEL, hx, hlk⟩ := X
  obtain ⟨v, vm1, ⟨U, Lx, cx, sx⟩, hW1, X1, hS1, hgr, ⟨L1, ⟨hF, hQ⟩, hl, hc, hs, hC⟩, s1⟩ := st T locs X' hZ hown eT H.1 hEL
  dsimp only [Pt.U, Pt.locs, Pt.cells, Pt.slots] at X1 hS1 hgr hF hQ hl hc hs hC s1
  subst hl hc hs
  obtain ⟨s2, o, q1, q2⟩ := k v U.vm U.heap hC hQ U ⟨_, U.heap.size, X1, rfl, State.Warmed39.trans (t := s.setVm vm) hZ hS1.1, (hS1.1.alike.findClass _ _).trans hown, hS.trans hS1 (Nat.le_trans hk (by rw [← eT]; exact hgr)), Nat.le_refl _, Fr.app N hF, H.trans hC, E0, hEL, hx, hlk⟩
  exact ⟨s2, o, s1.trans q1, q2⟩
end Kit
end Jvm.OwnKit
namespace Jvm.OwnKit
open Sem ClassFile Op Lib Bundle Jvm.Stand Jvm.Free Jvm.LawKit Jvm.RoadKit
section Kit2
variable {p : Program} {l : Launch} {e : Env} {R : Room} {s : State} {m : MethodId} {args : Array Value} {below : List Frame} {meth : Method} {c : Code} {Z : State} {a0 : Array Value} {EL : List (String × Nat)} {own : String} {Q : Option Value → Vm → Heap → Prop} {vm : Vm} {h : Heap} {cells slots : Nat} {g : JFrame}
/-! calls -/
theorem gcallS {index : Nat} {y : MethodName} {bytes : ByteArray} {maxL : Nat} {ret : Option FieldType} (hx : p.tables.exec = Jvm.exec) (wl : (Cond.methodLink own index y).before a0 Z = true) (wst : (Cond.static y).before a0 Z = true) (wz : (Cond.initialized y.cls).before a0 Z = true) (wc : (Cond.code y bytes maxL ret).before a0 Z = true)
    (hy : y.cls ≠ "java/lang/invoke/MethodHandle" ∧ y.cls ≠ "java/lang/invoke/VarHandle") {W rc rs : Nat} {as' : Array Value} {Q' : Option Value → Vm → Heap → Prop} (hP : Z.Warmed39 vm → CHv Z EL vm h → EW Z a0 EL → Pay l R p e below s args Z EL vm h y 3 W as' rc rs Q')
    {pc : Nat} (pc' : Nat) {L : Array Slot} {S argsL rest : List Value} (hlen : ∀ sig, parseMethodDescriptor y.desc = some sig → argsL.length = sig.parameters.length) (has : argsL.toArray = as') (hstk : S = argsL.reverse ++ rest) (hW : (rest.map fun v => v.category).sum ≤ W) (hml : L.size = c.maxLocals)
    (hd : decode c.code pc = .ok (.invokestatic index, 3)) (hp : pc + 3 = pc') (hc : cells + rc ≤ R.cells) (hs : slots + rs ≤ R.slots)
    (k : ∀ v vm' h', CHr Z EL vm h vm' h' → Q' v vm' h' → Go p l e R s m args below meth c Z a0 EL own Q vm' h' (cells + rc) (slots + rs) (mkF m pc' L (v.toList ++ rest))) : Go p l e R s m args below meth c Z a0 EL own Q vm h cells slots (mkF m pc L S) :=
  gback (y := y) (as' := as') (fun T locs X hZ hown eT H hEL => by
    subst has hp hstk
    exact callSS (s := s.setVm vm) X hx hown (mvT hZ wl) (mvT hZ wst) (mvT hZ wz) (mvT hZ wc) hy (hP hZ H hEL) (g := mkF m pc L _) rfl hml hlen rfl (by show 2 * 0 + _ ≤ _; omega) hd (fun _ _ => ⟨rfl, eT, hc, hs⟩)) k
theorem gcallI {index : Nat} {y : MethodName} {bytes : ByteArray} {maxL : Nat} (hx : p.tables.exec = Jvm.exec) (hyi : y.name = "<init>") (wl : (Cond.methodLink own index y).before a0 Z = true) (wi : (Cond.instanceMethod y).before a0 Z = true) (wc : (Cond.code y bytes maxL none).before a0 Z = true)
    (hy : y.cls ≠ "java/lang/invoke/MethodHandle" ∧ y.cls ≠ "java/lang/invoke/VarHandle") {W rc rs : Nat} {as' : Array Value} {Q' : Option Value → Vm → Heap → Prop} (hP : Z.Warmed39 vm → CHv Z EL vm h → EW Z a0 EL → Pay l R p e below s args Z EL vm h y 3 W as' rc rs Q')
    {pc : Nat} (pc' : Nat) {L : Array Slot} {S argsL rest : List Value} {a : Addr} (hlen : ∀ sig, parseMethodDescriptor y.desc = some sig → argsL.length = sig.parameters.length) (has : (.ref a :: argsL).toArray = as') (hstk : S = argsL.reverse ++ .ref a :: rest) (hW : (rest.map fun v => v.category).sum ≤ W) (hml : L.size = c.maxLocals)
    (hd : decode c.code pc = .ok (.invokespecial index, 3)) (hp : pc + 3 = pc') (hc : cells + rc ≤ R.cells) (hs : slots + rs ≤ R.slots)
    (k : ∀ v vm' h', CHr Z EL vm h vm' h' → Q' v vm' h' → Go p l e R s m args below meth c Z a0 EL own Q vm' h' (cells + rc) (slots + rs) (mkF m pc' L (v.toList ++ rest))) : Go p l e R s m args below meth c Z a0 EL own Q vm h cells slots (mkF m pc L S) :=
  gback (y := y) (as' := as') (fun T locs X hZ hown eT H hEL => by
    subst has hp hstk
    exact X.specialBackS (s := s.setVm vm) hx hyi hown (mvT hZ wl) (mvT hZ wi) (mvT hZ wc) hy (hP hZ H hEL) (g := mkF m pc L _) rfl hml (Steps.refl _) hlen rfl (by show 2 * 0 + _ ≤ _; omega) hd (fun _ _ => ⟨rfl, eT, hc, hs⟩)) k
theorem gcallV {index : Nat} {C : String} {y z : MethodName} (hx : p.tables.exec = Jvm.exec) (wl : (Cond.methodLink own index y).before a0 Z = true) (wd : (Cond.declares y).before a0 Z = true) (nf : ∀ (U : State), Z.Warmed39 U.vm → NotFace U y) (wsel : (Cond.selects C y z).before a0 Z = true) (wi : (Cond.instanceMethod z).before a0 Z = true)
    (hy : y.cls ≠ "java/lang/invoke/MethodHandle" ∧ y.cls ≠ "java/lang/invoke/VarHandle") {W rc rs : Nat} {as' : Array Value} {Q' : Option Value → Vm → Heap → Prop} (hP : Z.Warmed39 vm → CHv Z EL vm h → EW Z a0 EL → Pay l R p e below s args Z EL vm h z 3 W as' rc rs Q')
    {pc : Nat} (pc' : Nat) {L : Array Slot} {S argsL rest : List Value} {a : Addr} (E : Exa Z h a C) (hlen : ∀ sig, parseMethodDescriptor y.desc = some sig → argsL.length = sig.parameters.length) (has : (.ref a :: argsL).toArray = as') (hstk : S = argsL.reverse ++ .ref a :: rest) (hW : (rest.map fun v => v.category).sum ≤ W) (hml : L.size = c.maxLocals)
    (hd : decode c.code pc = .ok (.invokevirtual index, 3)) (hp : pc + 3 = pc') (hc : cells + rc ≤ R.cells) (hs : slots + rs ≤ R.slots)
    (k : ∀ v vm' h', CHr Z EL vm h vm' h' → Q' v vm' h' → Go p l e R s m args below meth c Z a0 EL own Q vm' h' (cells + rc) (slots + rs) (mkF m pc' L (v.toList ++ rest))) : Go p l e R s m args below meth c Z a0 EL own Q vm h cells slots (mkF m pc L S) :=
  gback (y := z) (as' := as') (fun T locs X hZ hown eT H hEL => by
    subst has hp hstk
    obtain ⟨cB, kB, h1, h2, h3⟩ := isOf (s := s.setVm vm) hZ eT E
    exact X.virtualBackS (s := s.setVm vm) hx hown (mvT hZ wl) (mvT hZ wd) (nf _ hZ) (mvT hZ wsel) (mvT hZ wi) hy (hP hZ H hEL) h1 h3 (g := mkF m pc L _) rfl hml (Steps.refl _) hlen rfl (by show 2 * 0 + _ ≤ _; omega) hd (fun _ _ => ⟨rfl, eT, hc, hs⟩)) k
theorem nfSel {C : String} {y : MethodName} (w : (Cond.selects C y y).before a0 Z = true) : ∀ (U : State), Z.Warmed39 U.vm → NotFace U y := fun U hU => notFace_of_selects (args := #[]) (mvT hU w)
theorem nfSup {S : String} {y : MethodName} (w : (Cond.superclass y.cls S).before a0 Z = true) : ∀ (U : State), Z.Warmed39 U.vm → NotFace U y := fun U hU => nf_super (args := #[]) (mvT hU w)
theorem nfTop {y : MethodName} (w : (Cond.noSuperclass y.cls).before a0 Z = true) : ∀ (U : State), Z.Warmed39 U.vm → NotFace U y := fun U hU => nf_top (args := #[]) (mvT hU w)
theorem gcallF {index count : Nat} {C : String} {xi y : MethodName} (hx : p.tables.exec = Jvm.exec) (wl : (Cond.methodLink own index xi).before a0 Z = true) (wd : (Cond.declares xi).before a0 Z = true) (wf : ∀ (U : State) (aa : Array Value), Z.Warmed39 U.vm → (Cond.interfaceMethod xi.cls xi.cls xi.name xi.desc).before aa U = true) (wsel : (Cond.selects C xi y).before a0 Z = true) (wi : (Cond.instanceMethod y).before a0 Z = true)
    (wp : (Cond.publicMethod y).before a0 Z = true) (wu : (Cond.unhidden C xi.name xi.desc).before a0 Z = true) (wca : (Cond.castable C xi.cls).before a0 Z = true)
    (hy : xi.cls ≠ "java/lang/invoke/MethodHandle" ∧ xi.cls ≠ "java/lang/invoke/VarHandle") {W rc rs : Nat} {as' : Array Value} {Q' : Option Value → Vm → Heap → Prop} (hP : Z.Warmed39 vm → CHv Z EL vm h → EW Z a0 EL → Pay l R p e below s args Z EL vm h y 5 W as' rc rs Q')
    {pc : Nat} (pc' : Nat) {L : Array Slot} {S argsL rest : List Value} {a : Addr} (E : Exa Z h a C) (hlen : ∀ sig, parseMethodDescriptor xi.desc = some sig → argsL.length = sig.parameters.length) (has : (.ref a :: argsL).toArray = as') (hstk : S = argsL.reverse ++ .ref a :: rest) (hW : (rest.map fun v => v.category).sum ≤ W) (hml : L.size = c.maxLocals)
    (hd : decode c.code pc = .ok (.invokeinterface index count, 5)) (hp : pc + 5 = pc') (hc : cells + rc ≤ R.cells) (hs : slots + rs ≤ R.slots)
    (k : ∀ v vm' h', CHr Z EL vm h vm' h' → Q' v vm' h' → Go p l e R s m args below meth c Z a0 EL own Q vm' h' (cells + rc) (slots + rs) (mkF m pc' L (v.toList ++ rest))) : Go p l e R s m args below meth c Z a0 EL own Q vm h cells slots (mkF m pc L S) :=
  gback (y := y) (as' := as') (fun T locs X hZ hown eT H hEL => by
    subst has hp hstk
    obtain ⟨cB, kB, h1, h2, h3⟩ := isOf (s := s.setVm vm) hZ eT E
    exact X.interfaceBackS (s := s.setVm vm) hx hown (mvT hZ wl) (mvT hZ wd) (wf _ _ hZ) (mvT hZ wsel) (mvT hZ wi) (mvT hZ wp) (mvT hZ wu) (mvT hZ wca) hy (hP hZ H hEL) h1 h2 h3 (g := mkF m pc L _) rfl hml (Steps.refl _) hlen rfl (by show 2 * 0 + _ ≤ _; omega) hd (fun _ _ => ⟨rfl, eT, hc, hs⟩)) k
theorem gcallU {index : Nat} {K : String} {y : MethodName} {bytes : ByteArray} {maxL : Nat} {ret : Option FieldType} (hx : p.tables.exec = Jvm.exec) (wl : (Cond.methodLink own index y).before a0 Z = true) (wsm : (Cond.sameMethod y.cls y.cls y.name y.desc).before a0 Z = true) (wi : (Cond.instanceMethod y).before a0 Z = true) (wsu : (Cond.superclass own y.cls).before a0 Z = true) (hn : y.name ≠ "<init>") (wc : (Cond.code y bytes maxL ret).before a0 Z = true)
    {W rc rs : Nat} {as' : Array Value} {Q' : Option Value → Vm → Heap → Prop} (hP : Z.Warmed39 vm → CHv Z EL vm h → EW Z a0 EL → Pay l R p e below s args Z EL vm h y 3 W as' rc rs Q')
    {pc : Nat} (pc' : Nat) {L : Array Slot} {S argsL rest : List Value} {a : Addr} (I : Ins Z h a K true) (hlen : ∀ sig, parseMethodDescriptor y.desc = some sig → argsL.length = sig.parameters.length) (has : (.ref a :: argsL).toArray = as') (hstk : S = argsL.reverse ++ .ref a :: rest) (hW : (rest.map fun v => v.category).sum ≤ W) (hml : L.size = c.maxLocals)
    (hd : decode c.code pc = .ok (.invokespecial index, 3)) (hp : pc + 3 = pc') (hc : cells + rc ≤ R.cells) (hs : slots + rs ≤ R.slots)
    (k : ∀ v vm' h', CHr Z EL vm h vm' h' → Q' v vm' h' → Go p l e R s m args below meth c Z a0 EL own Q vm' h' (cells + rc) (slots + rs) (mkF m pc' L (v.toList ++ rest))) : Go p l e R s m args below meth c Z a0 EL own Q vm h cells slots (mkF m pc L S) :=
  gback (y := y) (as' := as') (fun T locs X hZ hown eT H hEL => by
    subst has hp hstk
    exact superBackS (s := s.setVm vm) X hx hZ hown wl wsm wi wsu hn (hP hZ H hEL) eT I (g := mkF m pc L _) rfl hml wc hlen rfl (by show 2 * 0 + _ ≤ _; omega) hd (fun _ _ => ⟨rfl, eT, hc, hs⟩)) k
theorem gcallP {index : Nat} {y : MethodName} {bytes : ByteArray} {maxL : Nat} {ret : Option FieldType} (hx : p.tables.exec = Jvm.exec) (wl : (Cond.methodLink own index y).before a0 Z = true) (wi : (Cond.instanceMethod y).before a0 Z = true) (wsel : (Cond.selects y.cls y y).before a0 Z = true) (wp : (Cond.privateMethod y).before a0 Z = true) (wc : (Cond.code y bytes maxL ret).before a0 Z = true)
    (hy : y.cls ≠ "java/lang/invoke/MethodHandle" ∧ y.cls ≠ "java/lang/invoke/VarHandle") {W rc rs : Nat} {as' : Array Value} {Q' : Option Value → Vm → Heap → Prop} (hP : Z.Warmed39 vm → CHv Z EL vm h → EW Z a0 EL → Pay l R p e below s args Z EL vm h y 3 W as' rc rs Q')
    {pc : Nat} (pc' : Nat) {L : Array Slot} {S argsL rest : List Value} {a : Addr} {K : String} (E : Exa Z h a K) (hlen : ∀ sig, parseMethodDescriptor y.desc = some sig → argsL.length = sig.parameters.length) (has : (.ref a :: argsL).toArray = as') (hstk : S = argsL.reverse ++ .ref a :: rest) (hW : (rest.map fun v => v.category).sum ≤ W) (hml : L.size = c.maxLocals)
    (hd : decode c.code pc = .ok (.invokevirtual index, 3)) (hp : pc + 3 = pc') (hc : cells + rc ≤ R.cells) (hs : slots + rs ≤ R.slots)
    (k : ∀ v vm' h', CHr Z EL vm h vm' h' → Q' v vm' h' → Go p l e R s m args below meth c Z a0 EL own Q vm' h' (cells + rc) (slots + rs) (mkF m pc' L (v.toList ++ rest))) : Go p l e R s m args below meth c Z a0 EL own Q vm h cells slots (mkF m pc L S) :=
  gback (y := y) (as' := as') (fun T locs X hZ hown eT H hEL => by
    subst has hp hstk
    obtain ⟨cq, q1, q2⟩ := E.cell
    exact X.privateBackS (s := s.setVm vm) hx hown (mvT hZ wl) (mvT hZ wi) (mvT hZ wsel) (Cond.privateMethod_at (mvP (s := s.setVm vm) hZ wp (args := #[]))) (mvT hZ wc) hy (hP hZ H hEL) (g := mkF m pc L _) rfl hml (Steps.refl _) (by rw [eT]; exact q1) q2 hlen rfl (by show 2 * 0 + _ ≤ _; omega) hd (fun _ _ => ⟨rfl, eT, hc, hs⟩)) k
/-- Object.<init> -/
theorem ginitO {idx : Nat} (hx : p.tables.exec = Jvm.exec) (w1 : (Cond.methodLink own idx Lib.objectInit).before a0 Z = true) (w2 : (Cond.instanceMethod Lib.objectInit).before a0 Z = true) (w3 : (Cond.code Lib.objectInit ⟨#[0xb1]⟩ 1 none).before a0 Z = true)
    {pc : Nat} (pc' : Nat) {L : Array Slot} {rest : List Value} {a : Addr} {W : Nat} (hW : (rest.map fun v => v.category).sum ≤ W) (hml : L.size = c.maxLocals) (hd : decode c.code pc = .ok (.invokespecial idx, 3)) (hp : pc + 3 = pc') (hf : 1 ≤ R.frames) (hl : W + 12 ≤ R.locals)
    (k : Go p l e R s m args below meth c Z a0 EL own Q vm h cells slots (mkF m pc' L rest)) : Go p l e R s m args below meth c Z a0 EL own Q vm h cells slots (mkF m pc L (.ref a :: rest)) :=
  gy _ (fun T locs X hZ hown eT => by
    subst hp
    exact initO (s := s.setVm vm) X hx hZ hown w1 w2 w3 eT (g := mkF m pc L (.ref a :: rest)) rfl hml rfl hd hf (W := W) (by show 2 * 0 + _ ≤ _; omega) hl) k
/-! fields -/
theorem ggetF {R0 O n d host : String} {index : Nat} (hx : p.tables.exec = Jvm.exec) (w : (Cond.fieldLink own index R0 n d).before a0 Z = true ∨ (Cond.fieldLinkNest own index R0 n d host).before a0 Z = true) (via : Via Z R0 O n d) {a : Addr} {v : Value} (F : Fld Z h a O n d v)
    {pc : Nat} (pc' : Nat) {L : Array Slot} {rest : List Value} (hd : decode c.code pc = .ok (.getfield index, 3)) (hp : pc + 3 = pc')
    (k : Go p l e R s m args below meth c Z a0 EL own Q vm h cells slots (mkF m pc' L (v :: rest))) : Go p l e R s m args below meth c Z a0 EL own Q vm h cells slots (mkF m pc L (.ref a :: rest)) :=
  gy _ (fun T locs X hZ hown eT => by
    subst hp
    exact getF (s := s.setVm vm) X hx hZ hown (host := host) w via eT F (g := mkF m pc L (.ref a :: rest)) rfl rfl hd) k
theorem ggetS {R0 O n d host : String} {index : Nat} (hx : p.tables.exec = Jvm.exec) (w : (Cond.fieldLink own index R0 n d).before a0 Z = true ∨ (Cond.fieldLinkNest own index R0 n d host).before a0 Z = true) (via : Via Z R0 O n d) {v : Value} (F : Sta Z Z.heap O n d v)
    {pc : Nat} (pc' : Nat) {L : Array Slot} {S : List Value} (hd : decode c.code pc = .ok (.getstatic index, 3)) (hp : pc + 3 = pc')
    (k : Go p l e R s m args below meth c Z a0 EL own Q vm h cells slots (mkF m pc' L (v :: S))) : Go p l e R s m args below meth c Z a0 EL own Q vm h cells slots (mkF m pc L S) :=
  ginfo fun _ _ E => gy _ (fun T locs X hZ hown eT => by
    subst hp
    exact getS2 (s := s.setVm vm) X hx hZ hown (host := host) w via eT (F.ext E) (g := mkF m pc L S) rfl hd) k
theorem gputF {R0 O n d host C : String} {index kk : Nat} {ty : FieldType} (hx : p.tables.exec = Jvm.exec) (w : (Cond.fieldLink own index R0 n d).before a0 Z = true ∨ (Cond.fieldLinkNest own index R0 n d host).before a0 Z = true) (via : Via Z R0 O n d) {a : Addr} {v old : Value} (F : Fld Z h a O n d old) (E : Exa Z h a C)
    (Lw : (Cond.lays C O n d).before a0 Z = true ∨ ((Cond.laysFinal C O n d).before a0 Z = true ∧ own = O ∧ meth.name = "<init>")) (wi : (Cond.instantiable C kk).before a0 Z = true) (hty : parseFieldDescriptor d = some ty) (hn : narrow ty v = v) (hf : fits ty v = true) (ha : Z.heap.size ≤ a) (hs : Z.vm.Alike vm → Safe Z EL vm h a)
    {pc : Nat} (pc' : Nat) {L : Array Slot} {rest : List Value} (hd : decode c.code pc = .ok (.putfield index, 3)) (hp : pc + 3 = pc')
    (k : ∀ h', Wr h h' a (Jvm.RoadKit.slotOf Z O n d) v → CHr Z EL vm h vm h' → Go p l e R s m args below meth c Z a0 EL own Q vm h' cells slots (mkF m pc' L rest)) : Go p l e R s m args below meth c Z a0 EL own Q vm h cells slots (mkF m pc L (v :: .ref a :: rest)) :=
  gwr _ ha hs (fun T locs X hZ hown eT => by
    subst hp
    exact putF (s := s.setVm vm) X hx hZ hown (host := host) w via eT F E Lw wi hty hn hf (g := mkF m pc L (v :: .ref a :: rest)) rfl rfl hd) k
/-! objects and arrays are made -/
theorem gnewO {C : String} {index n : Nat} (hx : p.tables.exec = Jvm.exec) (w : (Cond.classLink own index C).before a0 Z = true) (wi : (Cond.instantiable C n).before a0 Z = true) (wz : (Cond.initialized C).before a0 Z = true)
    {pc : Nat} (pc' : Nat) {L : Array Slot} {S : List Value} (hd : decode c.code pc = .ok (.new index, 3)) (hp : pc + 3 = pc') (hc : cells + 1 ≤ R.cells) (hl : slots + n ≤ R.slots)
    (k : ∀ (b : Addr) (h' : Heap), h.size = b → Ext h h' → CHr Z EL vm h vm h' → Exa Z h' b C → (∀ {O nm d : String} {ty : FieldType}, Laid Z a0 C O nm d → parseFieldDescriptor d = some ty → Fld Z h' b O nm d (defaultValue ty)) → Z.heap.size ≤ b → Safe Z EL vm h' b → Go p l e R s m args below meth c Z a0 EL own Q vm h' (cells + 1) (slots + n) (mkF m pc' L (.ref b :: S))) :
    Go p l e R s m args below meth c Z a0 EL own Q vm h cells slots (mkF m pc L S) :=
  gnew (P := fun h' => Exa Z h' h.size C ∧ ∀ (O nm d : String) (ty : FieldType), Laid Z a0 C O nm d → parseFieldDescriptor d = some ty → Fld Z h' h.size O nm d (defaultValue ty)) (fun _ => mkF m pc' L (.ref h.size :: S))
    (fun T locs X hZ hown eT => by
      subst hp
      obtain ⟨T', h', X', e', E, A, D, -, st⟩ := newO (s := s.setVm vm) X hx hZ hown w wi wz eT (g := mkF m pc L S) rfl hd hc hl
      exact ⟨T', h', X', e', E, ⟨A, fun _ _ _ _ q r => D q r⟩, st⟩)
    (fun h' E hC hP hz hs => k _ h' rfl E hC hP.1 (fun q r => hP.2 _ _ _ _ q r) hz hs)
theorem gnewP {aty : ArrayType} (hx : p.tables.exec = Jvm.exec) (w : (Cond.arrayClass (newarray.typeOf aty)).before a0 Z = true) {n : Int32} (hn : ¬ n < 0) {cap : Nat} (hcap : n.toNatClampNeg ≤ cap) (hb : cap * 8 ≤ 536870912)
    {pc : Nat} (pc' : Nat) {L : Array Slot} {S : List Value} (hd : decode c.code pc = .ok (.newarray aty, 2)) (hp : pc + 2 = pc') (hc : cells + 1 ≤ R.cells) (hl : slots + cap ≤ R.slots)
    (k : ∀ (b : Addr) (h' : Heap) (cA : ClassId), h.size = b → Ext h h' → CHr Z EL vm h vm h' → Arv Z h' b cA (newarray.typeOf aty) n [] (defaultValue (newarray.typeOf aty)) → Z.heap.size ≤ b → Safe Z EL vm h' b → Go p l e R s m args below meth c Z a0 EL own Q vm h' (cells + 1) (slots + cap) (mkF m pc' L (.ref b :: S))) :
    Go p l e R s m args below meth c Z a0 EL own Q vm h cells slots (mkF m pc L (.int n :: S)) :=
  gnew (P := fun h' => ∃ cA, Arv Z h' h.size cA (newarray.typeOf aty) n [] (defaultValue (newarray.typeOf aty))) (fun _ => mkF m pc' L (.ref h.size :: S))
    (fun T locs X hZ hown eT => by
      subst hp
      obtain ⟨T', h', cA, X', e', E, A, st⟩ := newP (s := s.setVm vm) X hx hZ w eT (g := mkF m pc L (.int n :: S)) rfl hd rfl hn hcap hb hc hl
      exact ⟨T', h', X', e', E, ⟨cA, Arv.new A hn⟩, st⟩)
    (fun h' E hC hP hz hs => by obtain ⟨cA, V⟩ := hP; exact k _ h' cA rfl E hC V hz hs)
theorem gnewR {C : String} {index : Nat} (hx : p.tables.exec = Jvm.exec) (w1 : (Cond.classLink own index C).before a0 Z = true) (w2 : (Cond.arrayOver (.object C)).before a0 Z = true) {n : Int32} (hn : ¬ n < 0) {cap : Nat} (hcap : n.toNatClampNeg ≤ cap) (hb : cap * 8 ≤ 536870912) {ad : String} (had : "[" ++ (FieldType.object C).toString = ad)
    {pc : Nat} (pc' : Nat) {L : Array Slot} {S : List Value} (hd : decode c.code pc = .ok (.anewarray index, 3)) (hp : pc + 3 = pc') (hc : cells + 1 ≤ R.cells) (hl : slots + cap ≤ R.slots)
    (k : ∀ (b : Addr) (h' : Heap) (cA : ClassId), h.size = b → Ext h h' → CHr Z EL vm h vm h' → Arv Z h' b cA (.object C) n [] .null → Exa Z h' b ad → Ovr Z cA C → Z.heap.size ≤ b → Safe Z EL vm h' b → Go p l e R s m args below meth c Z a0 EL own Q vm h' (cells + 1) (slots + cap) (mkF m pc' L (.ref b :: S))) :
    Go p l e R s m args below meth c Z a0 EL own Q vm h cells slots (mkF m pc L (.int n :: S)) :=
  gnew (P := fun h' => ∃ cA, Arv Z h' h.size cA (.object C) n [] .null ∧ Exa Z h' h.size ad ∧ Ovr Z cA C) (fun _ => mkF m pc' L (.ref h.size :: S))
    (fun T locs X hZ hown eT => by
      subst hp
      obtain ⟨T', h', cA, X', e', E, A, X1, O, st⟩ := newRE (s := s.setVm vm) X hx hZ hown w1 w2 eT (g := mkF m pc L (.int n :: S)) rfl hd rfl hn hcap hb hc hl had
      exact ⟨T', h', X', e', E, ⟨cA, Arv.new A hn, X1, O⟩, st⟩)
    (fun h' E hC hP hz hs => by obtain ⟨cA, V, X1, O⟩ := hP; exact k _ h' cA rfl E hC V X1 O hz hs)
/-! arrays are written and read -/
theorem gstC {a : Addr} {kc : ClassId} {n : Int32} {vs : List Value} {d : Value} {j x y : Int32} {i : Nat} (hx : p.tables.exec = Jvm.exec) (F : Arv Z h a kc .char n vs d) (hin : ¬ j < 0 ∧ j < n) (hj : j.toNatClampNeg = i) (hi : i < vs.length) (hy : nar .char x = y) (ha : Z.heap.size ≤ a)
    {pc : Nat} (pc' : Nat) {L : Array Slot} {rest : List Value} (hd : decode c.code pc = .ok (.castore, 1)) (hp : pc + 1 = pc')
    (k : ∀ h', Wr h h' a i (.int y) → CHr Z EL vm h vm h' → Arv Z h' a kc .char n (vs.set i (.int y)) d → Go p l e R s m args below meth c Z a0 EL own Q vm h' cells slots (mkF m pc' L rest)) : Go p l e R s m args below meth c Z a0 EL own Q vm h cells slots (mkF m pc L (.int x :: .int j :: .ref a :: rest)) := by
  subst hy hj hp
  obtain ⟨cl, Ar, q1, q2, q3, q4, q5⟩ := F
  exact gwr _ ha (fun al => Safe.arr al Ar (by decide)) (fun T locs X hZ hown eT => stC (s := s.setVm vm) X hx hZ eT Ar (j := j) (inb_of q2 hin) (g := mkF m pc L (.int x :: .int j :: .ref a :: rest)) rfl rfl hd) fun h' W hC => k h' W hC (Arv.set Ar q1 q2 q3 q4 q5 (fits_nar_char _) W _ rfl hi)
theorem gstB {a : Addr} {kc : ClassId} {n : Int32} {vs : List Value} {d : Value} {j x y : Int32} {i : Nat} (hx : p.tables.exec = Jvm.exec) (F : Arv Z h a kc .byte n vs d) (hin : ¬ j < 0 ∧ j < n) (hj : j.toNatClampNeg = i) (hi : i < vs.length) (hy : nar .byte x = y) (ha : Z.heap.size ≤ a) (hs : Z.vm.Alike vm → Safe Z EL vm h a)
    {pc : Nat} (pc' : Nat) {L : Array Slot} {rest : List Value} (hd : decode c.code pc = .ok (.bastore, 1)) (hp : pc + 1 = pc')
    (k : ∀ h', Wr h h' a i (.int y) → CHr Z EL vm h vm h' → Arv Z h' a kc .byte n (vs.set i (.int y)) d → Go p l e R s m args below meth c Z a0 EL own Q vm h' cells slots (mkF m pc' L rest)) : Go p l e R s m args below meth c Z a0 EL own Q vm h cells slots (mkF m pc L (.int x :: .int j :: .ref a :: rest)) := by
  subst hy hj hp
  obtain ⟨cl, Ar, q1, q2, q3, q4, q5⟩ := F
  exact gwr _ ha hs (fun T locs X hZ hown eT => stB (s := s.setVm vm) X hx hZ eT Ar (j := j) (inb_of q2 hin) (g := mkF m pc L (.int x :: .int j :: .ref a :: rest)) rfl rfl hd) fun h' W hC => k h' W hC (Arv.set Ar q1 q2 q3 q4 q5 (fits_nar_byte _) W _ rfl hi)
theorem gstR {a : Addr} {kc : ClassId} {C : String} {n : Int32} {vs : List Value} {d v : Value} {j : Int32} {i : Nat} (hx : p.tables.exec = Jvm.exec) (F : Arv Z h a kc (.object C) n vs d) (hin : ¬ j < 0 ∧ j < n) (hj : j.toNatClampNeg = i) (hi : i < vs.length) (S : Sto Z h a v) (hv : v.isRef = true) (ha : Z.heap.size ≤ a)
    {pc : Nat} (pc' : Nat) {L : Array Slot} {rest : List Value} (hd : decode c.code pc = .ok (.aastore, 1)) (hp : pc + 1 = pc')
    (k : ∀ h', Wr h h' a i v → CHr Z EL vm h vm h' → Arv Z h' a kc (.object C) n (vs.set i v) d → Go p l e R s m args below meth c Z a0 EL own Q vm h' cells slots (mkF m pc' L rest)) : Go p l e R s m args below meth c Z a0 EL own Q vm h cells slots (mkF m pc L (v :: .int j :: .ref a :: rest)) := by
  subst hj hp
  obtain ⟨cl, Ar, q1, q2, q3, q4, q5⟩ := F
  exact gwr _ ha (fun al => Safe.arr al Ar nofun) (fun T locs X hZ hown eT => stR (s := s.setVm vm) X hx hZ eT Ar (j := j) (inb_of q2 hin) rfl S (g := mkF m pc L (v :: .int j :: .ref a :: rest)) rfl rfl hd) fun h' W hC => k h' W hC (Arv.set Ar q1 q2 q3 q4 q5 (by cases v <;> first | rfl | (cases hv; done)) W _ rfl hi)
theorem gldC {a : Addr} {kc : ClassId} {n : Int32} {vs : List Value} {d v : Value} {j : Int32} {i : Nat} (hx : p.tables.exec = Jvm.exec) (F : Arv Z h a kc .char n vs d) (hin : ¬ j < 0 ∧ j < n) (hj : j.toNatClampNeg = i) (hv : vs.getD i d = v)
    {pc : Nat} (pc' : Nat) {L : Array Slot} {rest : List Value} (hd : decode c.code pc = .ok (.caload, 1)) (hp : pc + 1 = pc')
    (k : Go p l e R s m args below meth c Z a0 EL own Q vm h cells slots (mkF m pc' L (v :: rest))) : Go p l e R s m args below meth c Z a0 EL own Q vm h cells slots (mkF m pc L (.int j :: .ref a :: rest)) := by
  subst hj hp
  obtain ⟨cl, Ar, q1, q2, q3, q4, q5⟩ := F
  exact gx _ (fun T locs X hZ hown eT => X.caload (s := s.setVm vm) hx (by rw [eT]; exact Ar.1) (State.isArrayOf_alike hZ.alike Ar.2.1) Ar.2.2 (inb_of q2 hin) (q4.at (inb_of q2 hin) hv) (g := mkF m pc L (.int j :: .ref a :: rest)) rfl rfl hd) k
theorem gldB {a : Addr} {kc : ClassId} {n : Int32} {vs : List Value} {d v : Value} {j : Int32} {i : Nat} (hx : p.tables.exec = Jvm.exec) (F : Arv Z h a kc .byte n vs d) (hin : ¬ j < 0 ∧ j < n) (hj : j.toNatClampNeg = i) (hv : vs.getD i d = v)
    {pc : Nat} (pc' : Nat) {L : Array Slot} {rest : List Value} (hd : decode c.code pc = .ok (.baload, 1)) (hp : pc + 1 = pc')
    (k : Go p l e R s m args below meth c Z a0 EL own Q vm h cells slots (mkF m pc' L (v :: rest))) : Go p l e R s m args below meth c Z a0 EL own Q vm h cells slots (mkF m pc L (.int j :: .ref a :: rest)) := by
  subst hj hp
  obtain ⟨cl, Ar, q1, q2, q3, q4, q5⟩ := F
  exact gx _ (fun T locs X hZ hown eT => X.baloadBytes (s := s.setVm vm) hx (by rw [eT]; exact Ar.1) (State.isArrayOf_alike hZ.alike Ar.2.1) Ar.2.2 (inb_of q2 hin) (q4.at (inb_of q2 hin) hv) (g := mkF m pc L (.int j :: .ref a :: rest)) rfl rfl hd) k
theorem gldI {a : Addr} {kc : ClassId} {n : Int32} {vs : List Value} {d v : Value} {j : Int32} {i : Nat} (hx : p.tables.exec = Jvm.exec) (F : Arv Z h a kc .int n vs d) (hin : ¬ j < 0 ∧ j < n) (hj : j.toNatClampNeg = i) (hv : vs.getD i d = v)
    {pc : Nat} (pc' : Nat) {L : Array Slot} {rest : List Value} (hd : decode c.code pc = .ok (.iaload, 1)) (hp : pc + 1 = pc')
    (k : Go p l e R s m args below meth c Z a0 EL own Q vm h cells slots (mkF m pc' L (v :: rest))) : Go p l e R s m args below meth c Z a0 EL own Q vm h cells slots (mkF m pc L (.int j :: .ref a :: rest)) := by
  subst hj hp
  obtain ⟨cl, Ar, q1, q2, q3, q4, q5⟩ := F
  exact gx _ (fun T locs X hZ hown eT => X.iaload (s := s.setVm vm) hx (by rw [eT]; exact Ar.1) (State.isArrayOf_alike hZ.alike Ar.2.1) Ar.2.2 (inb_of q2 hin) (q4.at (inb_of q2 hin) hv) (g := mkF m pc L (.int j :: .ref a :: rest)) rfl rfl hd) k
theorem gldR {a : Addr} {kc : ClassId} {C : String} {n : Int32} {vs : List Value} {d v : Value} {j : Int32} {i : Nat} (hx : p.tables.exec = Jvm.exec) (F : Arv Z h a kc (.object C) n vs d) (hin : ¬ j < 0 ∧ j < n) (hj : j.toNatClampNeg = i) (hv : vs.getD i d = v)
    {pc : Nat} (pc' : Nat) {L : Array Slot} {rest : List Value} (hd : decode c.code pc = .ok (.aaload, 1)) (hp : pc + 1 = pc')
    (k : Go p l e R s m args below meth c Z a0 EL own Q vm h cells slots (mkF m pc' L (v :: rest))) : Go p l e R s m args below meth c Z a0 EL own Q vm h cells slots (mkF m pc L (.int j :: .ref a :: rest)) := by
  subst hj hp
  obtain ⟨cl, Ar, q1, q2, q3, q4, q5⟩ := F
  exact gx _ (fun T locs X hZ hown eT => X.aaload (s := s.setVm vm) hx (by rw [eT]; exact Ar.1) (State.isArrayOf_alike hZ.alike Ar.2.1) rfl Ar.2.2 (inb_of q2 hin) (q4.at (inb_of q2 hin) hv) (g := mkF m pc L (.int j :: .ref a :: rest)) rfl rfl hd) k
theorem glen {a : Addr} {kc : ClassId} {ty : FieldType} {n : Int32} {vs : List Value} {d : Value} (hx : p.tables.exec = Jvm.exec) (F : Arv Z h a kc ty n vs d)
    {pc : Nat} (pc' : Nat) {L : Array Slot} {rest : List Value} (hd : decode c.code pc = .ok (.arraylength, 1)) (hp : pc + 1 = pc')
    (k : Go p l e R s m args below meth c Z a0 EL own Q vm h cells slots (mkF m pc' L (.int n :: rest))) : Go p l e R s m args below meth c Z a0 EL own Q vm h cells slots (mkF m pc L (.ref a :: rest)) := by
  subst hp
  obtain ⟨cl, Ar, q1, q2, q3, q4, q5⟩ := F
  exact gx _ (fun T locs X hZ hown eT t kk => X.arraylength (s := s.setVm vm) hx (by rw [eT]; exact Ar.1) (State.isArrayOf_alike hZ.alike Ar.2.1) (g := mkF m pc L (.ref a :: rest)) rfl rfl hd t (by rw [len_of q2 q3]; exact kk)) k
/-! casts, constants -/
theorem gcast {K : String} {index : Nat} (hx : p.tables.exec = Jvm.exec) (w : (Cond.classLink own index K).before a0 Z = true) {a : Addr} (F : Ins Z h a K true) {pc : Nat} (pc' : Nat) {L : Array Slot} {rest : List Value} (hd : decode c.code pc = .ok (.checkcast index, 3)) (hp : pc + 3 = pc')
    (k : Go p l e R s m args below meth c Z a0 EL own Q vm h cells slots (mkF m pc' L (.ref a :: rest))) : Go p l e R s m args below meth c Z a0 EL own Q vm h cells slots (mkF m pc L (.ref a :: rest)) :=
  gy _ (fun T locs X hZ hown eT => by
    subst hp
    exact castY (s := s.setVm vm) X hx hZ hown w eT F (g := mkF m pc L (.ref a :: rest)) rfl rfl hd) k
theorem ginstY {K : String} {index : Nat} (hx : p.tables.exec = Jvm.exec) (w : (Cond.classLink own index K).before a0 Z = true) {a : Addr} (F : Ins Z h a K true) {pc : Nat} (pc' : Nat) {L : Array Slot} {rest : List Value} (hd : decode c.code pc = .ok (.instanceof index, 3)) (hp : pc + 3 = pc')
    (k : Go p l e R s m args below meth c Z a0 EL own Q vm h cells slots (mkF m pc' L (.int 1 :: rest))) : Go p l e R s m args below meth c Z a0 EL own Q vm h cells slots (mkF m pc L (.ref a :: rest)) :=
  gy _ (fun T locs X hZ hown eT => by
    subst hp
    exact instY (s := s.setVm vm) X hx hZ hown w eT F (g := mkF m pc L (.ref a :: rest)) rfl rfl hd) k
theorem ginstN {K C : String} {index : Nat} (hx : p.tables.exec = Jvm.exec) (w : (Cond.classLink own index K).before a0 Z = true) {a : Addr} (E : Exa Z h a C) (F : ∃ c t, Z.vm.findClass C = some c ∧ Z.vm.findClass K = some t ∧ Z.vm.assignable c t = false) {pc : Nat} (pc' : Nat) {L : Array Slot} {rest : List Value} (hd : decode c.code pc = .ok (.instanceof index, 3)) (hp : pc + 3 = pc')
    (k : Go p l e R s m args below meth c Z a0 EL own Q vm h cells slots (mkF m pc' L (.int 0 :: rest))) : Go p l e R s m args below meth c Z a0 EL own Q vm h cells slots (mkF m pc L (.ref a :: rest)) :=
  gy _ (fun T locs X hZ hown eT => by
    subst hp
    exact instNo (s := s.setVm vm) X hx hZ hown w eT E F (g := mkF m pc L (.ref a :: rest)) rfl rfl hd) k
theorem gldcI {index : Nat} {v : Int32} (hx : p.tables.exec = Jvm.exec) (w : (Cond.constant own index v).before a0 Z = true) {pc : Nat} (pc' : Nat) {L : Array Slot} {S : List Value} (hd : decode c.code pc = .ok (.ldc index, 2)) (hp : pc + 2 = pc')
    (k : Go p l e R s m args below meth c Z a0 EL own Q vm h cells slots (mkF m pc' L (.int v :: S))) : Go p l e R s m args below meth c Z a0 EL own Q vm h cells slots (mkF m pc L S) :=
  gx _ (fun T locs X hZ hown eT => by
    subst hp
    exact X.ldcInt (s := s.setVm vm) hx hown (mvT hZ w) (g := mkF m pc L S) rfl hd) k
theorem gldcJ {index : Nat} {v : Int64} (hx : p.tables.exec = Jvm.exec) (w : (Cond.constantLong own index v).before a0 Z = true) {pc : Nat} (pc' : Nat) {L : Array Slot} {S : List Value} (hd : decode c.code pc = .ok (.ldc2_w index, 3)) (hp : pc + 3 = pc')
    (k : Go p l e R s m args below meth c Z a0 EL own Q vm h cells slots (mkF m pc' L (.long v :: S))) : Go p l e R s m args below meth c Z a0 EL own Q vm h cells slots (mkF m pc L S) :=
  gx _ (fun T locs X hZ hown eT => by
    subst hp
    exact X.ldc2Long (s := s.setVm vm) hx hown (mvT hZ w) (g := mkF m pc L S) rfl hd) k
/-- ldc of a String constant whose text isn't read -/
theorem gldcO {index : Nat} {text : String} (hx : p.tables.exec = Jvm.exec) (w : (Cond.stringLink own index text).before a0 Z = true) (wS : ∀ a ∈ Bundle.stringAtoms, a.before a0 Z = true) {n : Nat} (hn : 4 * text.toList.length ≤ n) (hbig : n ≤ 536870912)
    {pc : Nat} (pc' : Nat) {L : Array Slot} {S : List Value} (hd : decode c.code pc = .ok (.ldc index, 2)) (hp : pc + 2 = pc') (hc : cells + 2 ≤ R.cells) (hl : slots + (n + 4) ≤ R.slots)
    (k : ∀ (a : Addr) (vm' : Vm) (h' : Heap), Ext h h' → CHr Z EL vm h vm' h' → Go p l e R s m args below meth c Z a0 EL own Q vm' h' (cells + 2) (slots + (n + 4)) (mkF m pc' L (.ref a :: S))) : Go p l e R s m args below meth c Z a0 EL own Q vm h cells slots (mkF m pc L S) := fun T X => by
  subst hp
  obtain ⟨locs, k0, X', eT, hZ, hown, hS, hk, N, H, E0, hEL, hx', hlk⟩ := X
  obtain ⟨a, T', h', k1, X1, e1, E, hS1, hk1, hZ1, ho1, hC, -, st⟩ := ldcOH X' hx hZ hown w wS eT hS hk hEL H.1 (g := mkF m pc L S) rfl hd hn hbig hc hl
  obtain ⟨s2, o, q1, q2⟩ := k a T'.vm h' E hC T' ⟨locs, k1, X1, e1, hZ1, ho1, hS1, hk1, N, H.trans hC, E0, hEL, hx', hlk⟩
  exact ⟨s2, o, st _ q1, q2⟩
/-- ldc of a String constant of EL, read -/
theorem gldcR {index : Nat} {text : String} (hx : p.tables.exec = Jvm.exec) (w : (Cond.stringLink own index text).before a0 Z = true) (wS : ∀ a ∈ Bundle.stringAtoms, a.before a0 Z = true) (hmem : (own, index) ∈ EL) {n : Nat} (hn : 4 * text.toList.length ≤ n) (hbig : n ≤ 536870912)
    {vs : List Value} {z : Int32} (ht : (∀ c ∈ text.toList, c.toNat < 256) ∧ text.toList.map (fun c => Value.int (Jvm.Lit.byteI c.toNat.toUInt16)) = vs) (hz : ¬ z < 0) (hlz : z.toNatClampNeg = vs.length)
    {pc : Nat} (pc' : Nat) {L : Array Slot} {S : List Value} (hd : decode c.code pc = .ok (.ldc index, 2)) (hp : pc + 2 = pc') (hc : cells + 2 ≤ R.cells) (hl : slots + (n + 4) ≤ R.slots)
    (k : ∀ (a b : Addr) (kb : ClassId) (vm' : Vm) (h' : Heap), Ext h h' → CHr Z EL vm h vm' h' → Exa Z h' a "java/lang/String" → Fld Z h' a "java/lang/String" "coder" "B" (.int 0) → Fld Z h' a "java/lang/String" "value" "[B" (.ref b) → Arv Z h' b kb .byte z vs (.int 0) → (∀ x, Safe Z EL vm' h' x → x ≠ a ∧ x ≠ b) →
      Go p l e R s m args below meth c Z a0 EL own Q vm' h' (cells + 2) (slots + (n + 4)) (mkF m pc' L (.ref a :: S))) : Go p l e R s m args below meth c Z a0 EL own Q vm h cells slots (mkF m pc L S) := fun T X => by
  subst hp
  obtain ⟨locs, k0, X', eT, hZ, hown, hS, hk, N, H, E0, hEL, hx', hlk⟩ := X
  obtain ⟨a, T', h', k1, b, kb, X1, e1, E, hS1, hk1, hZ1, ho1, F1, F2, F3, F4, -, -, hC, -, F5, st⟩ := ldcCH X' hx hZ hown w wS eT hS hk hEL hmem H.1 ht hz hlz (g := mkF m pc L S) rfl hd hn hbig hc hl
  obtain ⟨s2, o, q1, q2⟩ := k a b kb T'.vm h' E hC F1 F2 F3 F4 F5 T' ⟨locs, k1, X1, e1, hZ1, ho1, hS1, hk1, N, H.trans hC, E0, hEL, hx', hlk⟩
  exact ⟨s2, o, st _ q1, q2⟩
end Kit2
end Jvm.OwnKit
namespace Jvm.OwnKit
open Sem ClassFile Op Lib Bundle Jvm.Stand Jvm.Free Jvm.LawKit Jvm.RoadKit
section Kit3
variable {p : Program} {l : Launch} {e : Env} {R : Room} {s : State} {m : MethodId} {args : Array Value} {below : List Frame} {meth : Method} {c : Code} {Z : State} {a0 : Array Value} {EL : List (String × Nat)} {own : String} {Q : Option Value → Vm → Heap → Prop} {vm : Vm} {h h' : Heap} {cells slots : Nat} {g : JFrame}
theorem gi2c {x y : Int32} (hx : p.tables.exec = Jvm.exec) (hy : x.toUInt32.toUInt16.toUInt32.toInt32 = y) {pc : Nat} (pc' : Nat) {L : Array Slot} {rest : List Value} (hd : decode c.code pc = .ok (.i2c, 1)) (hp : pc + 1 = pc')
    (k : Go p l e R s m args below meth c Z a0 EL own Q vm h cells slots (mkF m pc' L (.int y :: rest))) : Go p l e R s m args below meth c Z a0 EL own Q vm h cells slots (mkF m pc L (.int x :: rest)) := by
  subst hy hp
  exact gs _ (fun _ _ A k => XS.i2c A hx rfl hd rfl k) k
theorem narC (x : Int32) : nar .char (x &&& 255) = x &&& 255 := i2c_mask x
theorem narC2 (x : Int32) : nar .char (x.toUInt32.toUInt16.toUInt32.toInt32) = x.toUInt32.toUInt16.toUInt32.toInt32 := by
  show (x.toUInt32.toUInt16.toUInt32.toInt32).toUInt32.toUInt16.toUInt32.toInt32 = _
  simp only [UInt32.toUInt32_toInt32, UInt16.toUInt16_toUInt32]
/-- a char of 0 to 255 -/
def B8 (c : Int32) : Prop := ¬ c < 0 ∧ ¬ (255 : Int32) < c
theorem b255 (x : Int32) : B8 (x &&& 255) := by
  have h := c_mask x 255 8 (by decide) (by decide)
  have e1 : (0 : Int32).toInt = 0 := rfl
  have e2 : (255 : Int32).toInt = 255 := rfl
  refine ⟨?_, ?_⟩
  · rw [Int32.lt_iff_toInt_lt, h, e1]; omega
  · rw [Int32.lt_iff_toInt_lt, h, e2]; omega
theorem bnil : ∀ c ∈ ([] : List Int32), B8 c := fun _ q => nomatch q
theorem bcons {a : Int32} {L : List Int32} (q : B8 a) (r : ∀ c ∈ L, B8 c) : ∀ c ∈ a :: L, B8 c := fun c z => (List.mem_cons.mp z).elim (fun u => u ▸ q) (r c)
/-- an ordinary Latin-1 String and its bytes -/
def Str (Z : State) (h : Heap) (a t : Addr) (cs : List Int32) : Prop := Exa Z h a "java/lang/String" ∧ Fld Z h a "java/lang/String" "coder" "B" (.int 0) ∧ Fld Z h a "java/lang/String" "value" "[B" (.ref t) ∧
  (∃ kb, Arv Z h t kb .byte (Int32.ofNat cs.length) ((cs.map fun c => c.toInt8.toInt32).map Value.int) (.int 0)) ∧ (∀ c ∈ cs, B8 c) ∧ cs.length ≤ 4000
variable {a t o : Addr} {cs : List Int32} {ws : List Addr} {sl : Nat} {v : Value}
theorem Str.ext (F : Str Z h a t cs) (E : Ext h h') : Str Z h' a t cs := by
  obtain ⟨f1, f2, f3, ⟨kb, f4⟩, f5⟩ := F
  exact ⟨f1.ext E, f2.ext E, f3.ext E, ⟨kb, f4.ext E⟩, f5⟩
theorem Str.keep (F : Str Z h a t cs) (K : Keep h h' ws) (q : a ∉ ws) (r : t ∉ ws) : Str Z h' a t cs := by
  obtain ⟨f1, f2, f3, ⟨kb, f4⟩, f5⟩ := F
  exact ⟨f1.keep K, f2.keep K q, f3.keep K q, ⟨kb, f4.keep K r⟩, f5⟩
theorem Str.other (F : Str Z h a t cs) (W : Wr h h' o sl v) (q : a ≠ o) (r : t ≠ o) : Str Z h' a t cs := by
  obtain ⟨f1, f2, f3, ⟨kb, f4⟩, f5⟩ := F
  exact ⟨f1.wr W, f2.other W (Or.inl q), f3.other W (Or.inl q), ⟨kb, f4.other W r⟩, f5⟩
theorem Str.tlt (F : Str Z h a t cs) : t < h.size := by
  obtain ⟨f1, f2, f3, ⟨kb, f4⟩, f5⟩ := F
  exact f4.lt
theorem Str.neT (F : Str Z h a t cs) {x : Addr} {C : String} {n : Nat} (E : Exa Z h x C) (w : (Cond.instantiable C n).before a0 Z = true) : x ≠ t := by
  obtain ⟨f1, f2, f3, ⟨kb, f4⟩, f5⟩ := F
  exact Exa.neArv E f4 w
theorem Str.neq {b u : Addr} {ds : List Int32} (F : Str Z h a t cs) (G : Str Z h b u ds) (q : cs ≠ ds) : a ≠ b := fun e => by
  subst e
  obtain ⟨-, -, f3, ⟨kb, A, f4, -, f6, -, f8, -⟩, f9, f10⟩ := F
  obtain ⟨-, -, g3, ⟨kb', A', g4, -, g6, -, g8, -⟩, g9, g10⟩ := G
  have e1 : t = u := by
    obtain ⟨cell, cf, k, i, f, h1, h2, -, -, -, -, h7⟩ := f3
    obtain ⟨cell', cf', k', i', f', h1', h2', -, -, -, -, h7'⟩ := g3
    cases h1.symm.trans h1'
    cases h2.symm.trans h2'
    have := Option.some.inj (h7.symm.trans h7')
    cases this; rfl
  subst e1
  cases f4.1.symm.trans g4.1
  have e2 : cs.length = ds.length := by
    rw [f6] at g6
    have r : ∀ n : Nat, n ≤ 4000 → (Int32.ofNat n).toNatClampNeg = n := fun n hn => by
      have := (back32 (n := Int32.ofNat n) (by rw [Int32.lt_iff_toInt_lt, Int32.toInt_ofNat_of_lt (by omega)]; simp)).1
      rw [Int32.toNatClampNeg, Int32.toInt_ofNat_of_lt (by omega)]; rfl
    rw [r _ f10, r _ g10] at g6; exact g6
  apply q
  apply List.ext_getElem e2
  intro i h1 h2
  have sz : i < A.slots.size := by
    rw [f6, Int32.toNatClampNeg, Int32.toInt_ofNat_of_lt (by omega)]; exact h1
  have w1 := f8 i sz
  have w2 := g8 i sz
  rw [w1] at w2
  have w3 := Option.some.inj w2
  simp only [List.map_map, List.getD_eq_getElem?_getD, List.getElem?_map, List.getElem?_eq_getElem h1, List.getElem?_eq_getElem h2, Option.map_some, Option.getD_some, Function.comp] at w3
  have w4 := Value.int.inj w3
  have b1 := f9 _ (List.getElem_mem h1)
  have b2 := g9 _ (List.getElem_mem h2)
  generalize cs[i] = x at *
  generalize ds[i] = y at *
  obtain ⟨b1a, b1b⟩ := b1
  obtain ⟨b2a, b2b⟩ := b2
  have c1 := c_i2b x
  have c2 := c_i2b y
  rw [w4] at c1
  rw [Int32.lt_iff_toInt_lt] at b1a b1b b2a b2b
  have e0 : (0 : Int32).toInt = 0 := rfl
  have e255 : (255 : Int32).toInt = 255 := rfl
  rw [e0] at b1a b2a
  rw [e255] at b1b b2b
  apply Int32.toInt_inj.mp
  omega
theorem Str.lit {kb : ClassId} {z : Int32} {vs : List Value} (E : Exa Z h a "java/lang/String") (C : Fld Z h a "java/lang/String" "coder" "B" (.int 0)) (V : Fld Z h a "java/lang/String" "value" "[B" (.ref t)) (A : Arv Z h t kb .byte z vs (.int 0)) (hb : ∀ c ∈ cs, ¬ c < 0 ∧ ¬ (255 : Int32) < c)
    (hz : z = Int32.ofNat cs.length) (hv : vs = (cs.map fun c => c.toInt8.toInt32).map Value.int) (hl : cs.length ≤ 4000) : Str Z h a t cs := ⟨E, C, V, ⟨kb, by rw [← hz, ← hv]; exact A⟩, hb, hl⟩
theorem Arv.sto {kc : ClassId} {C : String} {n : Int32} {vs : List Value} {d : Value} {y : Addr} (F : Arv Z h a kc (.object C) n vs d) (O : Ovr Z kc C) (I : Ins Z h y C true) : Sto Z h a (.ref y) := by
  obtain ⟨cl, Ar, q1, -⟩ := F
  exact Sto.ofV Ar q1 O I
end Kit3
end Jvm.OwnKit
namespace Jvm.OwnKit
open Sem ClassFile Op Lib Bundle Jvm.Stand Jvm.Free Jvm.LawKit Jvm.RoadKit
section Kit4
variable {p : Program} {l : Launch} {e : Env} {R : Room} {s : State} {m : MethodId} {args : Array Value} {below : List Frame} {meth : Method} {c : Code} {Z : State} {a0 : Array Value} {EL : List (String × Nat)} {own : String} {Q : Option Value → Vm → Heap → Prop} {vm : Vm} {h h' : Heap} {cells slots : Nat} {g : JFrame}
theorem Pay.weaken {y : MethodName} {len W rc rs rc' rs' : Nat} {as' : Array Value} (hP : Pay l R p e below s args Z EL vm h y len W as' rc rs Q) (hc : rc ≤ rc') (hs : rs ≤ rs') : Pay l R p e below s args Z EL vm h y len W as' rc' rs' Q := by
  intro m meth c A g ig mk a X hg hsize hdg hW hn hp
  obtain ⟨v, ⟨U, Lx, cx, sx⟩, X', h1, h2, ⟨L, q1, q2, q3, q4, q5⟩, st⟩ := hP m meth c A g ig mk a X hg hsize hdg hW hn ⟨hp.1, hp.2.1, by have := hp.2.2.1; omega, by have := hp.2.2.2; omega⟩
  dsimp only [Pt.U, Pt.locs, Pt.cells, Pt.slots] at X' h1 h2 q1 q2 q3 q4 q5 st
  subst q2 q3 q4
  exact ⟨v, ⟨U, _, A.cells + rc', A.slots + rs'⟩, { X' with same := X'.same.mono (by show A.cells + rc ≤ A.cells + rc'; omega) (by show A.slots + rs ≤ A.slots + rs'; omega) }, h1, h2, ⟨L, q1, rfl, rfl, rfl, q5⟩, st⟩
/-- roads that meet -/
theorem gjoin (P : Vm → Heap → JFrame → Prop) (cells' slots' : Nat) (k1 : ∀ vm' h' g', P vm' h' g' → Go p l e R s m args below meth c Z a0 EL own Q vm' h' cells' slots' g')
    (k2 : (∀ vm' h' g', P vm' h' g' → Go p l e R s m args below meth c Z a0 EL own Q vm' h' cells' slots' g') → Go p l e R s m args below meth c Z a0 EL own Q vm h cells slots g) : Go p l e R s m args below meth c Z a0 EL own Q vm h cells slots g := k2 k1
/-- C's chain of superclasses doesn't meet an instantiable K -/
theorem NSroot {O K : String} {n : Nat} (w : (Cond.noSuperclass O).before a0 Z = true) (wk : (Cond.instantiable K n).before a0 Z = true) (hn : O ≠ K) : NS Z O K := by
  obtain ⟨c, k, h1, h2, h3, -, -⟩ := Cond.noSuperclass_spec w
  obtain ⟨t, k', g1, g2, g3, g4, -⟩ := Cond.instantiable_spec wk
  have ne := ids_ne h1 g1 hn
  refine ⟨c, t, h1, g1, fun fuel => ?_⟩
  cases fuel with
  | zero => rfl
  | succ f => simp [Vm.isSubclassAux, ne, h2, h3]
theorem NSno {C S K : String} {n : Nat} (w : (Cond.superclass C S).before a0 Z = true) (wk : (Cond.instantiable K n).before a0 Z = true) (nn : NS Z C K) (hn : C ≠ K) : ∃ c t, Z.vm.findClass C = some c ∧ Z.vm.findClass K = some t ∧ Z.vm.assignable c t = false := by
  obtain ⟨c, t, h0, g0, n3⟩ := nn
  obtain ⟨p, k, kp, h1, h2, h3, h4, h5, -, h7⟩ := Cond.superclass_spec h0 w
  obtain ⟨t', k', g1, g2, g3, g4, -⟩ := Cond.instantiable_spec wk
  cases g0.symm.trans g1
  have ne := ids_ne h0 g0 hn
  have g5 : k'.isInterface = false := by cases hq : k'.isInterface <;> simp [hq] at g4 ⊢
  refine ⟨c, t, h0, g0, ?_⟩
  show Z.vm.assignableAux (255 + 1) c t = false
  simp [Vm.assignableAux, ne, h2, g2, h5, g3, g5, Vm.isSubclass, n3]
/-- a char[] of Latin-1 signs -/
def ChA (Z : State) (h : Heap) (b : Addr) (cs : List Int32) : Prop := ∃ kc, Arv Z h b kc .char (Int32.ofNat cs.length) (cs.map Value.int) (.int 0) ∧ (∀ c ∈ cs, B8 c) ∧ cs.length ≤ 4000
variable {b : Addr} {cs : List Int32} {ws : List Addr} {sl : Nat} {v : Value} {o : Addr}
theorem ChA.ext (F : ChA Z h b cs) (E : Ext h h') : ChA Z h' b cs := by obtain ⟨k, f, r⟩ := F; exact ⟨k, f.ext E, r⟩
theorem ChA.keep (F : ChA Z h b cs) (K : Keep h h' ws) (q : b ∉ ws) : ChA Z h' b cs := by obtain ⟨k, f, r⟩ := F; exact ⟨k, f.keep K q, r⟩
theorem ChA.wr (F : ChA Z h b cs) (W : Wr h h' o sl v) (q : b ≠ o) : ChA Z h' b cs := by obtain ⟨k, f, r⟩ := F; exact ⟨k, f.other W q, r⟩
theorem ChA.lt (F : ChA Z h b cs) : b < h.size := by obtain ⟨k, f, r⟩ := F; exact f.lt
/-! out of the case's words -/
theorem eqI {t : Term} {x y : Int32} {idx : List Nat} (h1 : t.eval args s none idx s = some (.int x)) (h2 : (Cond.eq t (Term.int y)).value args s none s idx = some true) : x = y := by simpa [Cond.value, Term.eval, h1] using h2
theorem lenlt {t : Term} {v : Value} {aa : Addr} {cl : Cell} (h : (Term.length t).eval args s none [] s = some v) (ht : t.eval args s none [] s = some (.ref aa)) (hA : s.arrayAt? aa = some cl) : cl.slots.size < 2 ^ 31 := by
  apply Decidable.byContradiction
  intro hb
  simp [Term.eval, ht, hA, hb] at h
theorem lenI {t : Term} {n : Int32} {aa : Addr} {cl : Cell} (w : (Cond.eq (Term.length t) (Term.int n)).value args s none s [] = some true) (ht : t.eval args s none [] s = some (.ref aa)) (hA : s.arrayAt? aa = some cl) : cl.slots.size < 2 ^ 31 ∧ cl.slots.size.toInt32 = n := by
  obtain ⟨x, y, f1, f2, -, -⟩ := cmp_v (Or.inl w)
  have hb := lenlt f1 ht hA
  exact ⟨hb, eqI (len_f ht hA hb) w⟩
theorem elI {t : Term} {aa : Addr} {cl : Cell} {j y : Int32} (ht : t.eval args s none [] s = some (.ref aa)) (hc : s.heap[aa]? = some cl) (w : (Cond.eq (Term.elem t (Term.int j)) (Term.int y)).value args s none s [] = some true) : cl.slots[j.toNatClampNeg]? = some (.int y) := by
  obtain ⟨x, y', e1, e2, k1, k2⟩ := cmp_v (Or.inl w)
  cases (Option.some.inj e2 : Value.int y = y')
  obtain ⟨z, rfl⟩ := k2
  have := eqI e1 w
  subst this
  exact (elem_in e1 ht rfl hc).2
theorem fldI {t : Term} {aa : Addr} {C n d : String} {y : Int32} (ht : t.eval args s none [] s = some (.ref aa)) (w : (Cond.eq (Term.field t C n d) (Term.int y)).value args s none s [] = some true) : Fld s s.heap aa C n d (.int y) := by
  obtain ⟨x, y', e1, e2, k1, k2⟩ := cmp_v (Or.inl w)
  cases (Option.some.inj e2 : Value.int y = y')
  obtain ⟨z, rfl⟩ := k2
  have := eqI e1 w
  subst this
  exact Fld.start ((fld_at ht).symm.trans e1)
theorem Str.start {t : Term} {cs : List Int32} {n : Int32} {aa : Addr} (hf : Fit s) (ev : t.eval args s none [] s = some (.ref aa)) (wE : (Cond.exactly t "java/lang/String").value args s none s [] = some true) (wC : (Cond.eq (Term.field t "java/lang/String" "coder" "B") (Term.int 0)).value args s none s [] = some true)
    (wA : (Cond.arrayOf (Term.field t "java/lang/String" "value" "[B") .byte).value args s none s [] = some true) (wL : (Cond.eq (Term.length (Term.field t "java/lang/String" "value" "[B")) (Term.int n)).value args s none s [] = some true) (hn : n = Int32.ofNat cs.length) (hl : cs.length ≤ 4000) (hb : ∀ c ∈ cs, B8 c)
    (H : ∀ (tt : Addr) (cl : Cell), (Term.field t "java/lang/String" "value" "[B").eval args s none [] s = some (.ref tt) → s.heap[tt]? = some cl → HasL cl 0 ((cs.map fun c => c.toInt8.toInt32).map Value.int)) : ∃ tt, Str s s.heap aa tt cs := by
  obtain ⟨tt, et⟩ := arr_v wA
  obtain ⟨cl, Ar⟩ := Arr.start et wA
  have hA : s.arrayAt? tt = some cl := Ar.fin (Vm.Alike.refl _)
  obtain ⟨h1, h2⟩ := lenI wL et hA
  have hz : ¬ n < 0 := by rw [hn, Int32.lt_iff_toInt_lt, Int32.toInt_ofNat_of_lt (by omega)]; simp
  have hz2 : n.toNatClampNeg = cs.length := by rw [hn, Int32.toNatClampNeg, Int32.toInt_ofNat_of_lt (by omega)]; rfl
  refine ⟨tt, Exa.start ev wE, fldI ev wC, Fld.start ((fld_at ev).symm.trans et), ⟨cl.cls, ?_⟩, hb, hl⟩
  rw [← hn]
  exact Arv.start hf Ar h1 h2 hz (by rw [hz2]; simp) (H tt cl et Ar.1)
end Kit4
end Jvm.OwnKit
/- laws to paste: Road.backV, Road.eqW, Road.codOf (cut by pick.py; bodies as the Statement names them) -/
namespace Jvm.Pilot.@@N@@
namespace StrChars
open Jvm Sem ClassFile Op Lib Jvm.Stand Jvm.Free.XT Jvm.Free.ALB Jvm.Free.JM Jvm.Free
open Jvm.Lib.Cold (StaticIs)
/-- a char array whose places are chars -/
def Ch (a : Addr) (A : Cell) (U : State) : Prop := Arr .char a A U ∧ Typed .char A
theorem Ch.mv {a : Addr} {A : Cell} {U U' : State} (h : Ch a A U) (hal : U.vm.Alike U'.vm) (hh : U'.heap = U.heap) : Ch a A U' := ⟨h.1.mv hal hh, h.2⟩
theorem Ch.keep {a : Addr} {A : Cell} {U U' : State} (h : Ch a A U) (hal : U.vm.Alike U'.vm) (hk : U'.heap[a]? = some A) : Ch a A U' := ⟨h.1.keep hal hk, h.2⟩
/-- what place i of a char[]'s cell holds -/
def cv (A : Cell) (i : Nat) : Int32 := match A.slots[i]? with | some (.int x) => x | _ => 0
theorem Ch.get {a : Addr} {A : Cell} {U : State} (h : Ch a A U) {i : Nat} (hi : i < A.slots.size) : A.slots[i]? = some (.int (cv A i)) := by
  have e := Array.getElem?_eq_getElem hi
  have f := h.2 i _ e
  unfold cv; rw [e]
  generalize A.slots[i] = v at f
  cases v <;> simp [fits] at f ⊢
/-- the byte that i2b leaves of a char -/
def lo8 (x : Int32) : Int32 := x.toInt8.toInt32
theorem fits_lo8 (y : Int32) : fits .byte (.int (lo8 y)) = true := by
  have h1 := y.toInt8.le_toInt
  have h2 := y.toInt8.toInt_lt
  simp only [lo8, fits, Bool.and_eq_true, decide_eq_true_eq, Int32.le_iff_toInt_le, Int8.toInt_toInt32, show (-128 : Int32).toInt = -128 from by decide, show (127 : Int32).toInt = 127 from by decide]
  omega
/-- A' is A but that each place j of lo .. hi - 1 holds f j -/
def Laid (A A' : Cell) (lo hi : Nat) (f : Nat → Value) : Prop := A'.cls = A.cls ∧ A'.vm = A.vm ∧ A'.slots.size = A.slots.size ∧ ∀ i, A'.slots[i]? = if lo ≤ i ∧ i < hi then some (f i) else A.slots[i]?
theorem Laid.zero (A : Cell) (lo : Nat) (f : Nat → Value) : Laid A A lo (lo + 0) f := ⟨rfl, rfl, rfl, fun i => by rw [if_neg (by omega)]⟩
theorem Laid.step {A Ak : Cell} {lo k : Nat} {f : Nat → Value} {v : Value} (h : Laid A Ak lo k f) (hlo : lo ≤ k) (hk : k < Ak.slots.size) (hv : v = f k) : Laid A (Ak.setSlot k v) lo (k + 1) f := by
  refine ⟨h.1, h.2.1, by simpa [Cell.setSlot] using h.2.2.1, fun i => ?_⟩
  by_cases e : k = i
  · subst e; rw [Cell.slots_setSlot_self v hk, if_pos (by omega), hv]
  · rw [Cell.slots_setSlot_ne v e, h.2.2.2 i]
    by_cases q : lo ≤ i ∧ i < k
    · rw [if_pos q, if_pos (by omega)]
    · rw [if_neg q, if_neg (by omega)]
def U16 : String := "java/lang/StringUTF16"
namespace Cmp5
def yN : MethodName := ⟨"java/lang/StringUTF16", "compress", "([CI[BII)I"⟩
abbrev yB : ByteArray := jdk_52_method_21_code
theorem d0 : decode yB 0 = .ok (.iconst 0, 1) := by decide +kernel
theorem d1 : decode yB 1 = .ok (.istore 5, 2) := by decide +kernel
theorem d3 : decode yB 3 = .ok (.iload 5, 2) := by decide +kernel
theorem d5 : decode yB 5 = .ok (.iload 4, 2) := by decide +kernel
theorem d7 : decode yB 7 = .ok (.if_icmp (.ge) 37, 3) := by decide +kernel
theorem d10 : decode yB 10 = .ok (.aload_n 0, 1) := by decide +kernel
theorem d11 : decode yB 11 = .ok (.iload_n 1, 1) := by decide +kernel
theorem d12 : decode yB 12 = .ok (.caload, 1) := by decide +kernel
theorem d13 : decode yB 13 = .ok (.istore 6, 2) := by decide +kernel
theorem d15 : decode yB 15 = .ok (.iload 6, 2) := by decide +kernel
theorem d17 : decode yB 17 = .ok (.sipush 255, 3) := by decide +kernel
theorem d20 : decode yB 20 = .ok (.if_icmp (.le) 6, 3) := by decide +kernel
theorem d26 : decode yB 26 = .ok (.aload_n 2, 1) := by decide +kernel
theorem d27 : decode yB 27 = .ok (.iload_n 3, 1) := by decide +kernel
theorem d28 : decode yB 28 = .ok (.iload 6, 2) := by decide +kernel
theorem d30 : decode yB 30 = .ok (.i2b, 1) := by decide +kernel
theorem d31 : decode yB 31 = .ok (.bastore, 1) := by decide +kernel
theorem d32 : decode yB 32 = .ok (.iinc 1 1, 3) := by decide +kernel
theorem d35 : decode yB 35 = .ok (.iinc 3 1, 3) := by decide +kernel
theorem d38 : decode yB 38 = .ok (.iinc 5 1, 3) := by decide +kernel
theorem d41 : decode yB 41 = .ok (.goto (-38), 3) := by decide +kernel
theorem d44 : decode yB 44 = .ok (.iload 4, 2) := by decide +kernel
theorem d46 : decode yB 46 = .ok (.ireturn, 1) := by decide +kernel
def site : List Cond := []
def tab : Cond := tabOf yN yB 7 (some .int) site
def P (b : Addr) (A : Cell) (d : Addr) (B : Cell) (o q len : Nat) (args : Array Value) (s : State) : Prop := args = #[.ref b, .int (Int32.ofNat o), .ref d, .int (Int32.ofNat q), .int (Int32.ofNat len)] ∧ Ch b A s ∧ Arr .byte d B s ∧ b ≠ d ∧ o + len ≤ A.slots.size ∧ q + len ≤ B.slots.size ∧ ∀ i, i < len → ¬ 255 < cv A (o + i)
def E (b : Addr) (A : Cell) (d : Addr) (B : Cell) (o q len : Nat) (r : Option Value) (s u : State) : Prop := r = some (.int (Int32.ofNat len)) ∧ ∃ B', Put d B' s u ∧ Laid B B' q (q + len) (fun j => Value.int (lo8 (cv A (o + (j - q)))))
/-- no char of the range above 255: len; the places written hold each char's low byte -/
theorem law (l : Launch) (b : Addr) (A : Cell) (d : Addr) (B : Cell) (o q len : Nat) : Law l yN 5 5 0 0 yB 7 (some .int) site (P b A d B o q len) (E b A d B o q len) (copyLocs d q len) 0 0 := by
  refine Law.of_walk (plainFor_of_name (by decide +kernel)) (by decide +kernel) (by decide +kernel) (by decide) (fun _ _ h => by rw [h.1]; rfl) (fun _ U U' hal hh h => ⟨h.1, h.2.1.mv hal hh, h.2.2.1.mv hal hh, h.2.2.2⟩) (fun r U U' V V' h1 hal h2 h => ⟨h.1, h.2.elim fun B' q => ⟨B', q.1.mv h1 h2, q.2⟩⟩) ?_
  intro p e s m args below meth c s₁ X0 hexec hbytes hml hret hlk hnm hown hh0 W hP
  obtain ⟨rfl, hA, hB, hne, l1, l2, hp⟩ := hP
  have c1 : Steps p.tables e below (s₁.setTop (entryFrame m #[.ref b, .int (Int32.ofNat o), .ref d, .int (Int32.ofNat q), .int (Int32.ofNat len)] 7)) (s₁.setTop (mkF m 0 #[.val (.ref b), .val (.int (Int32.ofNat o)), .val (.ref d), .val (.int (Int32.ofNat q)), .val (.int (Int32.ofNat len)), .unset, .unset] [])) := entry rfl
  have hA0 := hA.1.mv X0.warmed.alike hh0
  have hB0 := hB.mv X0.warmed.alike hh0
  have a31 := hA.1.2.2.2
  have c2 : Steps p.tables e below (s₁.setTop (entryFrame m #[.ref b, .int (Int32.ofNat o), .ref d, .int (Int32.ofNat q), .int (Int32.ofNat len)] 7)) (s₁.setTop (mkF m 3 #[.val (.ref b), .val (.int (Int32.ofNat o)), .val (.ref d), .val (.int (Int32.ofNat q)), .val (.int (Int32.ofNat len)), .val (.int 0), .unset] [])) := c1.trans (by
    refine iconstV X0.here hexec rfl 0 (hb hbytes d0) (by decide) ?_
    refine XS.istore X0.here hexec rfl (hb hbytes d1) rfl rfl ?_
    exact Steps.refl _)
  have loop : ∀ (r i : Nat), i + r = len → ∀ (z : Slot), (z = .unset ∨ ∃ w, z = .val w ∧ w.category = 1) → ∀ (Tl : State) (Bk : Cell), Stand p l e { frames := 0, locals := 0, cells := 0, slots := 0 } s m #[.ref b, .int (Int32.ofNat o), .ref d, .int (Int32.ofNat q), .int (Int32.ofNat len)] below meth c Tl ([] ++ copyLocs d q i) 0 0 → Put d Bk s₁ Tl → Laid B Bk q (q + i) (fun j => Value.int (lo8 (cv A (o + (j - q))))) →
      Steps p.tables e below (s₁.setTop (entryFrame m #[.ref b, .int (Int32.ofNat o), .ref d, .int (Int32.ofNat q), .int (Int32.ofNat len)] 7)) (Tl.setTop (mkF m 3 #[.val (.ref b), .val (.int (Int32.ofNat (o + i))), .val (.ref d), .val (.int (Int32.ofNat (q + i))), .val (.int (Int32.ofNat len)), .val (.int (Int32.ofNat i)), z] [])) → ∃ (T' : State) (B' : Cell) (z' : Slot), Stand p l e { frames := 0, locals := 0, cells := 0, slots := 0 } s m #[.ref b, .int (Int32.ofNat o), .ref d, .int (Int32.ofNat q), .int (Int32.ofNat len)] below meth c T' ([] ++ copyLocs d q len) 0 0 ∧ Put d B' s₁ T' ∧ Laid B B' q (q + len) (fun j => Value.int (lo8 (cv A (o + (j - q))))) ∧
      Steps p.tables e below (s₁.setTop (entryFrame m #[.ref b, .int (Int32.ofNat o), .ref d, .int (Int32.ofNat q), .int (Int32.ofNat len)] 7)) (T'.setTop (mkF m 3 #[.val (.ref b), .val (.int (Int32.ofNat (o + len))), .val (.ref d), .val (.int (Int32.ofNat (q + len))), .val (.int (Int32.ofNat len)), .val (.int (Int32.ofNat len)), z'] [])) := by
    intro r
    induction r with
    | zero =>
      intro i hi z hz Tl Bk Xl pl fl cl
      have hil : i = len := by omega
      rw [hil] at Xl fl cl
      exact ⟨Tl, Bk, z, Xl, pl, fl, cl⟩
    | succ r ih =>
      intro i hi z hz Tl Bk Xl pl fl cl
      have all := X0.warmed.alike.symm.trans Xl.warmed.alike
      have hAl := hA0.keep all (pl.other hne hA0.1)
      have hBk := hB0.like all pl.1 fl.1 fl.2.1 fl.2.2.1
      have hlt : q + i < Bk.slots.size := by rw [fl.2.2.1]; omega
      have c3 : Steps p.tables e below (s₁.setTop (entryFrame m #[.ref b, .int (Int32.ofNat o), .ref d, .int (Int32.ofNat q), .int (Int32.ofNat len)] 7)) (Tl.setTop (mkF m 12 #[.val (.ref b), .val (.int (Int32.ofNat (o + i))), .val (.ref d), .val (.int (Int32.ofNat (q + i))), .val (.int (Int32.ofNat len)), .val (.int (Int32.ofNat i)), z] [.int (Int32.ofNat (o + i)), .ref b])) := cl.trans (by
        refine XS.iload Xl.here hexec rfl (hb hbytes d3) rfl ?_
        refine XS.iload Xl.here hexec rfl (hb hbytes d5) rfl ?_
        refine XS.icmpNo Xl.here hexec rfl (hb hbytes d7) rfl (ii_ge_f (lt32 (by omega) (by omega))) ?_
        refine XS.aloadN Xl.here hexec rfl (hb hbytes d10) rfl rfl ?_
        refine XS.iloadN Xl.here hexec rfl (hb hbytes d11) rfl ?_
        exact Steps.refl _)
      have c4 : Steps p.tables e below (s₁.setTop (entryFrame m #[.ref b, .int (Int32.ofNat o), .ref d, .int (Int32.ofNat q), .int (Int32.ofNat len)] 7)) (Tl.setTop (mkF m 13 #[.val (.ref b), .val (.int (Int32.ofNat (o + i))), .val (.ref d), .val (.int (Int32.ofNat (q + i))), .val (.int (Int32.ofNat len)), .val (.int (Int32.ofNat i)), z] [.int (cv A (o + i))])) := c3.trans (by
        refine Xl.aget hexec hAl rfl (hA.get (i := o + i) (by omega)) rfl rfl (hb hbytes d12) ?_
        exact Steps.refl _)
      have c5 : Steps p.tables e below (s₁.setTop (entryFrame m #[.ref b, .int (Int32.ofNat o), .ref d, .int (Int32.ofNat q), .int (Int32.ofNat len)] 7)) (Tl.setTop (mkF m 15 #[.val (.ref b), .val (.int (Int32.ofNat (o + i))), .val (.ref d), .val (.int (Int32.ofNat (q + i))), .val (.int (Int32.ofNat len)), .val (.int (Int32.ofNat i)), .val (.int (cv A (o + i)))] [])) := c4.trans (by
        refine XS.istoreS Xl.here hexec rfl (hb hbytes d13) rfl rfl hz ?_
        exact Steps.refl _)
      have c6 : Steps p.tables e below (s₁.setTop (entryFrame m #[.ref b, .int (Int32.ofNat o), .ref d, .int (Int32.ofNat q), .int (Int32.ofNat len)] 7)) (Tl.setTop (mkF m 31 #[.val (.ref b), .val (.int (Int32.ofNat (o + i))), .val (.ref d), .val (.int (Int32.ofNat (q + i))), .val (.int (Int32.ofNat len)), .val (.int (Int32.ofNat i)), .val (.int (cv A (o + i)))] [.int (lo8 (cv A (o + i))), .int (Int32.ofNat (q + i)), .ref d])) := c5.trans (by
        refine XS.iload Xl.here hexec rfl (hb hbytes d15) rfl ?_
        refine sipushV Xl.here hexec rfl 255 (hb hbytes d17) (by decide) ?_
        refine XS.icmpYes Xl.here hexec rfl (pc0 := 20) rfl (hb hbytes d20) rfl (ii_le_t (hp i (by omega))) (by decide) rfl ?_
        refine XS.aloadN Xl.here hexec rfl (hb hbytes d26) rfl rfl ?_
        refine XS.iloadN Xl.here hexec rfl (hb hbytes d27) rfl ?_
        refine XS.iload Xl.here hexec rfl (hb hbytes d28) rfl ?_
        refine i2b Xl.here hexec rfl (hb hbytes d30) rfl ?_
        exact Steps.refl _)
      obtain ⟨T7, X7, p7, st7⟩ := Xl.aput hexec hBk rfl hlt rfl (fits_lo8 (cv A (o + i))) (g := (mkF m 31 #[.val (.ref b), .val (.int (Int32.ofNat (o + i))), .val (.ref d), .val (.int (Int32.ofNat (q + i))), .val (.int (Int32.ofNat len)), .val (.int (Int32.ofNat i)), .val (.int (cv A (o + i)))] [.int (lo8 (cv A (o + i))), .int (Int32.ofNat (q + i)), .ref d])) rfl (rest := []) rfl (hb hbytes d31)
      have c8 : Steps p.tables e below (s₁.setTop (entryFrame m #[.ref b, .int (Int32.ofNat o), .ref d, .int (Int32.ofNat q), .int (Int32.ofNat len)] 7)) (T7.setTop (mkF m 32 #[.val (.ref b), .val (.int (Int32.ofNat (o + i))), .val (.ref d), .val (.int (Int32.ofNat (q + i))), .val (.int (Int32.ofNat len)), .val (.int (Int32.ofNat i)), .val (.int (cv A (o + i)))] [])) := c6.trans (st7 _ (Steps.refl _))
      have c9 : Steps p.tables e below (s₁.setTop (entryFrame m #[.ref b, .int (Int32.ofNat o), .ref d, .int (Int32.ofNat q), .int (Int32.ofNat len)] 7)) (T7.setTop (mkF m 3 #[.val (.ref b), .val (.int (Int32.ofNat (o + i) + 1)), .val (.ref d), .val (.int (Int32.ofNat (q + i) + 1)), .val (.int (Int32.ofNat len)), .val (.int (Int32.ofNat i + 1)), .val (.int (cv A (o + i)))] [])) := c8.trans (by
        refine iincV X7.here hexec rfl 1 (hb hbytes d32) (by decide) rfl rfl ?_
        refine iincV X7.here hexec rfl 1 (hb hbytes d35) (by decide) rfl rfl ?_
        refine iincV X7.here hexec rfl 1 (hb hbytes d38) (by decide) rfl rfl ?_
        refine XS.goto X7.here hexec rfl (pc0 := 41) rfl (hb hbytes d41) (by decide) rfl ?_
        exact Steps.refl _)
      have c10 : Steps p.tables e below (s₁.setTop (entryFrame m #[.ref b, .int (Int32.ofNat o), .ref d, .int (Int32.ofNat q), .int (Int32.ofNat len)] 7)) (T7.setTop (mkF m 3 #[.val (.ref b), .val (.int (Int32.ofNat (o + (i + 1)))), .val (.ref d), .val (.int (Int32.ofNat (q + (i + 1)))), .val (.int (Int32.ofNat len)), .val (.int (Int32.ofNat (i + 1))), .val (.int (cv A (o + i)))] [])) := by
        have := c9
        rw [succ32, succ32, succ32] at this
        exact this
      exact ih (i + 1) (by omega) _ (Or.inr ⟨_, rfl, rfl⟩) T7 _ (by rw [copyLocs_step, ← List.append_assoc]; exact X7) (pl.trans p7) (fl.step (by omega) hlt (by simp)) c10
  obtain ⟨T9, B9, z9, X9, p9, f9, g9⟩ := loop len 0 (by omega) .unset (Or.inl rfl) s₁ B (by simpa [copyLocs] using X0) ⟨hB0.1, fun _ _ => rfl, rfl⟩ (Laid.zero _ _ _) c2
  have c11 : Steps p.tables e below (s₁.setTop (entryFrame m #[.ref b, .int (Int32.ofNat o), .ref d, .int (Int32.ofNat q), .int (Int32.ofNat len)] 7)) (T9.setTop (mkF m 46 #[.val (.ref b), .val (.int (Int32.ofNat (o + len))), .val (.ref d), .val (.int (Int32.ofNat (q + len))), .val (.int (Int32.ofNat len)), .val (.int (Int32.ofNat len)), z9] [.int (Int32.ofNat len)])) := g9.trans (by
    refine XS.iload X9.here hexec rfl (hb hbytes d3) rfl ?_
    refine XS.iload X9.here hexec rfl (hb hbytes d5) rfl ?_
    refine XS.icmpYes X9.here hexec rfl (pc0 := 7) rfl (hb hbytes d7) rfl (ii_ge_t (nlt32 (by omega) (Nat.le_refl _))) (by decide) rfl ?_
    refine XS.iload X9.here hexec rfl (hb hbytes d44) rfl ?_
    exact Steps.refl _)
  exact ⟨T9, some (.int (Int32.ofNat len)), _, _, _, X9, by simp, rfl, rfl, (fun h => by cases h), ⟨rfl, B9, p9.from hh0, f9⟩, fun fs hl => c11.trans (X9.ireturnOut hexec hret rfl (Or.inl rfl) (hb hbytes d46) hl)⟩
end Cmp5
namespace Cmp3
def yN : MethodName := ⟨"java/lang/StringUTF16", "compress", "([CII)[B"⟩
abbrev yB : ByteArray := jdk_52_method_16_code
theorem d0 : decode yB 0 = .ok (.iload_n 2, 1) := by decide +kernel
theorem d1 : decode yB 1 = .ok (.newarray .byte, 2) := by decide +kernel
theorem d3 : decode yB 3 = .ok (.astore_n 3, 1) := by decide +kernel
theorem d4 : decode yB 4 = .ok (.aload_n 0, 1) := by decide +kernel
theorem d5 : decode yB 5 = .ok (.iload_n 1, 1) := by decide +kernel
theorem d6 : decode yB 6 = .ok (.aload_n 3, 1) := by decide +kernel
theorem d7 : decode yB 7 = .ok (.iconst 0, 1) := by decide +kernel
theorem d8 : decode yB 8 = .ok (.iload_n 2, 1) := by decide +kernel
theorem d9 : decode yB 9 = .ok (.invokestatic 115, 3) := by decide +kernel
theorem d12 : decode yB 12 = .ok (.istore 4, 2) := by decide +kernel
theorem d14 : decode yB 14 = .ok (.iload 4, 2) := by decide +kernel
theorem d16 : decode yB 16 = .ok (.iload_n 2, 1) := by decide +kernel
theorem d17 : decode yB 17 = .ok (.if_icmp (.eq) 40, 3) := by decide +kernel
theorem d57 : decode yB 57 = .ok (.aload_n 3, 1) := by decide +kernel
theorem d58 : decode yB 58 = .ok (.areturn, 1) := by decide +kernel
def site : List Cond := [.arrayClass .byte, Cmp5.tab] ++ staticW U16 115 Cmp5.yN
def tab : Cond := tabOf yN yB 6 (some (.array .byte)) site
def P (b : Addr) (A : Cell) (o len : Nat) (args : Array Value) (s : State) : Prop := args = #[.ref b, .int (Int32.ofNat o), .int (Int32.ofNat len)] ∧ Ch b A s ∧ o + len ≤ A.slots.size ∧ len ≤ 536870912 ∧ ∀ i, i < len → ¬ 255 < cv A (o + i)
def E (b : Addr) (A : Cell) (o len : Nat) (r : Option Value) (s u : State) : Prop := NewArr .byte "[B" len (fun j => .int (lo8 (cv A (o + j)))) r s u ∧ u.heap.size = s.heap.size + 1
/-- no char of the range above 255: a new byte[] of their low bytes -/
theorem law (l : Launch) (b : Addr) (A : Cell) (o len : Nat) : Law l yN 3 3 1 18 yB 6 (some (.array .byte)) site (P b A o len) (E b A o len) [] 1 len := by
  refine Law.of_walk (plainFor_of_name (by decide +kernel)) (by decide +kernel) (by decide +kernel) (by decide) (fun _ _ h => by rw [h.1]; rfl) (fun _ U U' hal hh h => ⟨h.1, h.2.1.mv hal hh, h.2.2⟩) (fun r U U' V V' h1 hal h2 h => ⟨NewArr.mv r U U' V V' h1 hal h2 h.1, by rw [h1, h2]; exact h.2⟩) ?_
  intro p e s m args below meth c s₁ X0 hexec hbytes hml hret hlk hnm hown hh0 W hP
  obtain ⟨rfl, hA, l1, l2, hp⟩ := hP
  have a31 := hA.1.2.2.2
  have c1 : Steps p.tables e below (s₁.setTop (entryFrame m #[.ref b, .int (Int32.ofNat o), .int (Int32.ofNat len)] 6)) (s₁.setTop (mkF m 0 #[.val (.ref b), .val (.int (Int32.ofNat o)), .val (.int (Int32.ofNat len)), .unset, .unset, .unset] [])) := entry rfl
  have c2 : Steps p.tables e below (s₁.setTop (entryFrame m #[.ref b, .int (Int32.ofNat o), .int (Int32.ofNat len)] 6)) (s₁.setTop (mkF m 1 #[.val (.ref b), .val (.int (Int32.ofNat o)), .val (.int (Int32.ofNat len)), .unset, .unset, .unset] [.int (Int32.ofNat len)])) := c1.trans (by
    refine XS.iloadN X0.here hexec rfl (hb hbytes d0) rfl ?_
    exact Steps.refl _)
  obtain ⟨T3, B3, X3, ba3, bs3, bv3, bh3, bf3, st3⟩ := X0.anew hexec (atype := .byte) (wk W (.arrayClass .byte)) rfl (by show len * 1 ≤ _; omega) (by omega) (g := (mkF m 1 #[.val (.ref b), .val (.int (Int32.ofNat o)), .val (.int (Int32.ofNat len)), .unset, .unset, .unset] [.int (Int32.ofNat len)])) rfl (hb hbytes d1) (rest := []) rfl (Nat.le_refl _) (by show 0 + len ≤ len; omega)
  rw [hh0] at ba3 st3
  have kp3 : XT.Kept s T3 := (XT.Kept.of_eq hh0).push bh3
  have hA3 := hA.keep X3.warmed.alike (kp3 _ _ hA.1.1)
  have hne : b ≠ s.heap.size := hA.1.ne
  have c4 : Steps p.tables e below (s₁.setTop (entryFrame m #[.ref b, .int (Int32.ofNat o), .int (Int32.ofNat len)] 6)) (T3.setTop (mkF m 3 #[.val (.ref b), .val (.int (Int32.ofNat o)), .val (.int (Int32.ofNat len)), .unset, .unset, .unset] [.ref s.heap.size])) := c2.trans (st3 _ (Steps.refl _))
  have c5 : Steps p.tables e below (s₁.setTop (entryFrame m #[.ref b, .int (Int32.ofNat o), .int (Int32.ofNat len)] 6)) (T3.setTop (mkF m 9 #[.val (.ref b), .val (.int (Int32.ofNat o)), .val (.int (Int32.ofNat len)), .val (.ref s.heap.size), .unset, .unset] [.int (Int32.ofNat len), .int 0, .ref s.heap.size, .int (Int32.ofNat o), .ref b])) := c4.trans (by
    refine XS.astoreN X3.here hexec rfl (hb hbytes d3) rfl rfl rfl ?_
    refine XS.aloadN X3.here hexec rfl (hb hbytes d4) rfl rfl ?_
    refine XS.iloadN X3.here hexec rfl (hb hbytes d5) rfl ?_
    refine XS.aloadN X3.here hexec rfl (hb hbytes d6) rfl rfl ?_
    refine iconstV X3.here hexec rfl 0 (hb hbytes d7) (by decide) ?_
    refine XS.iloadN X3.here hexec rfl (hb hbytes d8) rfl ?_
    exact Steps.refl _)
  obtain ⟨v6, T6, X6, E6, g6⟩ := X3.callS hexec (Cmp5.law l b A s.heap.size B3 o 0 len) hown (wks W (staticW U16 115 Cmp5.yN)) (wk W Cmp5.tab) (W := 0) (Nat.le_of_ble_eq_true rfl) (Nat.le_of_ble_eq_true rfl) (Nat.le_refl _) (by show 0 + len + 0 ≤ len; omega) (g := (mkF m 9 #[.val (.ref b), .val (.int (Int32.ofNat o)), .val (.int (Int32.ofNat len)), .val (.ref s.heap.size), .unset, .unset] [.int (Int32.ofNat len), .int (Int32.ofNat 0), .ref s.heap.size, .int (Int32.ofNat o), .ref b])) rfl (by rw [hml]; rfl) c5 (argsL := [.ref b, .int (Int32.ofNat o), .ref s.heap.size, .int (Int32.ofNat 0), .int (Int32.ofNat len)]) (rest := []) rfl rfl (by show 2 * 0 + 0 ≤ _; decide) (hb hbytes d9) (⟨rfl, hA3, ba3, hne, l1, by rw [bs3]; simp, hp⟩)
  obtain ⟨rfl, B6, p6, f6⟩ := E6
  have c7 : Steps p.tables e below (s₁.setTop (entryFrame m #[.ref b, .int (Int32.ofNat o), .int (Int32.ofNat len)] 6)) (T6.setTop (mkF m 12 #[.val (.ref b), .val (.int (Int32.ofNat o)), .val (.int (Int32.ofNat len)), .val (.ref s.heap.size), .unset, .unset] [.int (Int32.ofNat len)])) := g6
  have c8 : Steps p.tables e below (s₁.setTop (entryFrame m #[.ref b, .int (Int32.ofNat o), .int (Int32.ofNat len)] 6)) (T6.setTop (mkF m 58 #[.val (.ref b), .val (.int (Int32.ofNat o)), .val (.int (Int32.ofNat len)), .val (.ref s.heap.size), .val (.int (Int32.ofNat len)), .unset] [.ref s.heap.size])) := c7.trans (by
    refine XS.istore X6.here hexec rfl (hb hbytes d12) rfl rfl ?_
    refine XS.iload X6.here hexec rfl (hb hbytes d14) rfl ?_
    refine XS.iloadN X6.here hexec rfl (hb hbytes d16) rfl ?_
    refine XS.icmpYes X6.here hexec rfl (pc0 := 17) rfl (hb hbytes d17) rfl (ii_eq_t rfl) (by decide) rfl ?_
    refine XS.aloadN X6.here hexec rfl (hb hbytes d57) rfl rfl ?_
    exact Steps.refl _)
  have X8 := X6.wide (L' := []) (cells' := 1) (slots' := len) (fun x hx hlt => by
    simp only [List.nil_append, copyLocs, List.mem_map, List.mem_range] at hx
    obtain ⟨i, -, rfl⟩ := hx
    exact absurd hlt (Nat.lt_irrefl _)) (Nat.le_refl _) (by omega)
  exact ⟨T6, some (.ref s.heap.size), _, _, _, X8, rfl, rfl, rfl, (fun h => by cases h), ⟨⟨rfl, B6, ba3.like (X3.warmed.alike.symm.trans X6.warmed.alike) p6.1 f6.1 f6.2.1 f6.2.2.1, f6.2.1.trans bv3, by rw [X6.warmed.alike.findClass, f6.1]; exact bf3, by rw [f6.2.2.1, bs3]; simp, fun j hj => by rw [f6.2.2.2 j, if_pos (by omega)]; rfl, kp3.put p6 (Nat.le_refl _)⟩, by rw [p6.2.2, bh3, hh0]; simp⟩, fun fs hl => c8.trans (X8.areturnOut hexec rfl hret rfl (hb hbytes d58) hl)⟩
end Cmp3
namespace CodL
def yN : MethodName := ⟨"java/lang/StringUTF16", "coderFromArrayLen", "([BI)B"⟩
abbrev yB : ByteArray := jdk_52_method_15_code
theorem d0 : decode yB 0 = .ok (.iload_n 1, 1) := by decide +kernel
theorem d1 : decode yB 1 = .ok (.aload_n 0, 1) := by decide +kernel
theorem d2 : decode yB 2 = .ok (.arraylength, 1) := by decide +kernel
theorem d3 : decode yB 3 = .ok (.isub, 1) := by decide +kernel
theorem d4 : decode yB 4 = .ok (.bipush 31, 2) := by decide +kernel
theorem d6 : decode yB 6 = .ok (.iushr, 1) := by decide +kernel
theorem d7 : decode yB 7 = .ok (.i2b, 1) := by decide +kernel
theorem d8 : decode yB 8 = .ok (.ireturn, 1) := by decide +kernel
def site : List Cond := []
def tab : Cond := tabOf yN yB 2 (some .byte) site
def P (d : Addr) (B : Cell) (args : Array Value) (s : State) : Prop := args = #[.ref d, .int (Int32.ofNat B.slots.size)] ∧ Arr .byte d B s
def E (r : Option Value) (s u : State) : Prop := XT.PureE (some (.int 0)) r s u
/-- an array as long as the number of chars: LATIN1 -/
theorem law (l : Launch) (d : Addr) (B : Cell) : Law l yN 2 2 0 0 yB 2 (some .byte) site (P d B) E [] 0 0 := by
  refine Law.of_walk (plainFor_of_name (by decide +kernel)) (by decide +kernel) (by decide +kernel) (by decide) (fun _ _ h => by rw [h.1]; rfl) (fun _ U U' hal hh h => ⟨h.1, h.2.mv hal hh⟩) (fun r U U' V V' h1 hal h2 h => XT.PureE.mv r U U' V V' h1 hal h2 h) ?_
  intro p e s m args below meth c s₁ X0 hexec hbytes hml hret hlk hnm hown hh0 W hP
  obtain ⟨rfl, hB⟩ := hP
  have hB0 := hB.mv X0.warmed.alike hh0
  have c1 : Steps p.tables e below (s₁.setTop (entryFrame m #[.ref d, .int (Int32.ofNat B.slots.size)] 2)) (s₁.setTop (mkF m 0 #[.val (.ref d), .val (.int (Int32.ofNat B.slots.size))] [])) := entry rfl
  have c2 : Steps p.tables e below (s₁.setTop (entryFrame m #[.ref d, .int (Int32.ofNat B.slots.size)] 2)) (s₁.setTop (mkF m 2 #[.val (.ref d), .val (.int (Int32.ofNat B.slots.size))] [.ref d, .int (Int32.ofNat B.slots.size)])) := c1.trans (by
    refine XS.iloadN X0.here hexec rfl (hb hbytes d0) rfl ?_
    refine XS.aloadN X0.here hexec rfl (hb hbytes d1) rfl rfl ?_
    exact Steps.refl _)
  have c3 : Steps p.tables e below (s₁.setTop (entryFrame m #[.ref d, .int (Int32.ofNat B.slots.size)] 2)) (s₁.setTop (mkF m 8 #[.val (.ref d), .val (.int (Int32.ofNat B.slots.size))] [.int (lo8 (ushr (Int32.ofNat B.slots.size - Int32.ofNat B.slots.size) 31))])) := c2.trans (by
    refine X0.alen hexec hB0 rfl rfl (hb hbytes d2) ?_
    refine XS.isub X0.here hexec rfl (hb hbytes d3) rfl ?_
    refine bipushV X0.here hexec rfl 31 (hb hbytes d4) (by decide) ?_
    refine iushr X0.here hexec rfl (hb hbytes d6) rfl ?_
    refine i2b X0.here hexec rfl (hb hbytes d7) rfl ?_
    exact Steps.refl _)
  have e0 : lo8 (ushr (Int32.ofNat B.slots.size - Int32.ofNat B.slots.size) 31) = 0 := by rw [Int32.sub_self]; decide
  rw [e0] at c3
  exact ⟨s₁, some (.int 0), _, _, _, X0, rfl, rfl, rfl, (fun h => by cases h), ⟨rfl, hh0⟩, fun fs hl => c3.trans (X0.ireturnOut hexec hret rfl (Or.inr (Or.inr (Or.inl rfl))) (hb hbytes d8) hl)⟩
end CodL
/-- the String at a is Latin-1 over a new byte[] (the heap's one new cell): the low bytes of the len chars of A from o on; every cell but a is kept -/
def Got (a : Addr) (D : Cell) (fV fC : Field) (A : Cell) (o len : Nat) (r : Option Value) (s u : State) : Prop := r = none ∧ ∃ D' V : Cell, Blank "java/lang/String" a D' u ∧ Same D D' [fV.slot, fC.slot] ∧ D'.slots[fV.slot]? = some (.ref s.heap.size) ∧ D'.slots[fC.slot]? = some (.int 0) ∧ Arr .byte s.heap.size V u ∧ V.vm = .none ∧ u.vm.findClass "[B" = some V.cls ∧ V.slots.size = len ∧ (∀ j, j < len → V.slots[j]? = some (.int (lo8 (cv A (o + j))))) ∧ (∀ (y : Addr) (c : Cell), y ≠ a → s.heap[y]? = some c → u.heap[y]? = some c) ∧ u.heap.size = s.heap.size + 1
theorem Got.mv {a : Addr} {D A : Cell} {fV fC : Field} {o len : Nat} : ∀ r (U U' V V' : State), U'.heap = U.heap → V.vm.Alike V'.vm → V'.heap = V.heap → Got a D fV fC A o len r U V → Got a D fV fC A o len r U' V' :=
  fun r U U' V V' h1 hal h2 ⟨e0, D', X, a1, a2, a3, a4, a5, a6, a7, a8, a9, a10, a11⟩ => ⟨e0, D', X, a1.mv hal h2, a2, by rw [h1]; exact a3, a4, by rw [h1]; exact a5.mv hal h2, a6, by rw [hal.findClass]; exact a7, a8, a9, by rw [h1, h2]; exact a10, by rw [h1, h2]; exact a11⟩
namespace New4
def yN : MethodName := ⟨"java/lang/String", "<init>", "([CIILjava/lang/Void;)V"⟩
abbrev yB : ByteArray := jdk_42_method_149_code
theorem d0 : decode yB 0 = .ok (.aload_n 0, 1) := by decide +kernel
theorem d1 : decode yB 1 = .ok (.invokespecial 1, 3) := by decide +kernel
theorem d4 : decode yB 4 = .ok (.iload_n 3, 1) := by decide +kernel
theorem d5 : decode yB 5 = .ok (.ifCond (.ne) 22, 3) := by decide +kernel
theorem d27 : decode yB 27 = .ok (.getstatic 38, 3) := by decide +kernel
theorem d30 : decode yB 30 = .ok (.ifCond (.eq) 28, 3) := by decide +kernel
theorem d33 : decode yB 33 = .ok (.aload_n 1, 1) := by decide +kernel
theorem d34 : decode yB 34 = .ok (.iload_n 2, 1) := by decide +kernel
theorem d35 : decode yB 35 = .ok (.iload_n 3, 1) := by decide +kernel
theorem d36 : decode yB 36 = .ok (.invokestatic 177, 3) := by decide +kernel
theorem d39 : decode yB 39 = .ok (.astore 5, 2) := by decide +kernel
theorem d41 : decode yB 41 = .ok (.aload_n 0, 1) := by decide +kernel
theorem d42 : decode yB 42 = .ok (.aload 5, 2) := by decide +kernel
theorem d44 : decode yB 44 = .ok (.iload_n 3, 1) := by decide +kernel
theorem d45 : decode yB 45 = .ok (.invokestatic 47, 3) := by decide +kernel
theorem d48 : decode yB 48 = .ok (.putfield 15, 3) := by decide +kernel
theorem d51 : decode yB 51 = .ok (.aload_n 0, 1) := by decide +kernel
theorem d52 : decode yB 52 = .ok (.aload 5, 2) := by decide +kernel
theorem d54 : decode yB 54 = .ok (.putfield 9, 3) := by decide +kernel
theorem d57 : decode yB 57 = .ok (.return_, 1) := by decide +kernel
def site : List Cond := [.fieldLink "java/lang/String" 38 "java/lang/String" "COMPACT_STRINGS" "Z", Cmp3.tab, CodL.tab, .laysFinal "java/lang/String" "java/lang/String" "value" "[B", .fieldLink "java/lang/String" 9 "java/lang/String" "value" "[B", .laysFinal "java/lang/String" "java/lang/String" "coder" "B", .fieldLink "java/lang/String" 15 "java/lang/String" "coder" "B"] ++ objW "java/lang/String" 1 ++ staticW "java/lang/String" 177 Cmp3.yN ++ staticW "java/lang/String" 47 CodL.yN
def tab : Cond := tabOf yN yB 6 none site
def P (a : Addr) (D : Cell) (fV fC : Field) (b : Addr) (A : Cell) (z : Int32) (o len : Nat) (args : Array Value) (s : State) : Prop := args = #[.ref a, .ref b, .int (Int32.ofNat o), .int (Int32.ofNat len), .null] ∧ Blank "java/lang/String" a D s ∧ Found "java/lang/String" "value" "[B" fV s ∧ Found "java/lang/String" "coder" "B" fC s ∧ Ch b A s ∧ StaticIs s "java/lang/String" "COMPACT_STRINGS" "Z" (.int z) ∧ ¬ z = 0 ∧ 0 < len ∧ o + len ≤ A.slots.size ∧ len ≤ 536870912 ∧ ∀ i, i < len → ¬ 255 < cv A (o + i)
def E (a : Addr) (D : Cell) (fV fC : Field) (A : Cell) (o len : Nat) (r : Option Value) (s u : State) : Prop := Got a D fV fC A o len r s u
/-- len > 0, no char of the range above 255: a Latin-1 String of their low bytes -/
theorem law (l : Launch) (a : Addr) (D : Cell) (fV fC : Field) (b : Addr) (A : Cell) (z : Int32) (o len : Nat) : Law l yN 5 4 2 35 yB 6 none site (P a D fV fC b A z o len) (E a D fV fC A o len) [⟨a, fC.slot⟩, ⟨a, fV.slot⟩] 1 len := by
  refine Law.of_walk (plainFor_of_name (by decide +kernel)) (by decide +kernel) (by decide +kernel) (by decide) (fun _ _ h => by rw [h.1]; rfl) (fun _ U U' hal hh h => ⟨h.1, h.2.1.mv hal hh, h.2.2.1.al hal, h.2.2.2.1.al hal, h.2.2.2.2.1.mv hal hh, h.2.2.2.2.2.1.there hal hh, h.2.2.2.2.2.2⟩) (fun r U U' V V' h1 hal h2 h => Got.mv r U U' V V' h1 hal h2 h) ?_
  intro p e s m args below meth c s₁ X0 hexec hbytes hml hret hlk hnm hown hh0 W hP
  obtain ⟨rfl, hB, f1, f2, hA, s1, hz, l0, l1, l2, hp⟩ := hP
  have a31 := hA.1.2.2.2
  have c1 : Steps p.tables e below (s₁.setTop (entryFrame m #[.ref a, .ref b, .int (Int32.ofNat o), .int (Int32.ofNat len), .null] 6)) (s₁.setTop (mkF m 0 #[.val (.ref a), .val (.ref b), .val (.int (Int32.ofNat o)), .val (.int (Int32.ofNat len)), .val .null, .unset] [])) := entry rfl
  have c2 : Steps p.tables e below (s₁.setTop (entryFrame m #[.ref a, .ref b, .int (Int32.ofNat o), .int (Int32.ofNat len), .null] 6)) (s₁.setTop (mkF m 1 #[.val (.ref a), .val (.ref b), .val (.int (Int32.ofNat o)), .val (.int (Int32.ofNat len)), .val .null, .unset] [.ref a])) := c1.trans (by
    refine XS.aloadN X0.here hexec rfl (hb hbytes d0) rfl rfl ?_
    exact Steps.refl _)
  obtain ⟨T3, X3, q3, st3⟩ := X0.oinit hexec hown (wks W (objW "java/lang/String" 1)) (g := (mkF m 1 #[.val (.ref a), .val (.ref b), .val (.int (Int32.ofNat o)), .val (.int (Int32.ofNat len)), .val .null, .unset] [.ref a])) rfl (by rw [hml]; rfl) (rest := []) rfl (hb hbytes d1) (W := 0) (by show 2 * 0 + 0 ≤ _; decide) (Nat.le_of_ble_eq_true rfl) (Nat.le_of_ble_eq_true rfl)
  have hh3 := q3.trans hh0
  have c4 : Steps p.tables e below (s₁.setTop (entryFrame m #[.ref a, .ref b, .int (Int32.ofNat o), .int (Int32.ofNat len), .null] 6)) (T3.setTop (mkF m 27 #[.val (.ref a), .val (.ref b), .val (.int (Int32.ofNat o)), .val (.int (Int32.ofNat len)), .val .null, .unset] [])) := (c2.trans (st3 _ (Steps.refl _))).trans (by
    refine XS.iloadN X3.here hexec rfl (hb hbytes d4) rfl ?_
    refine XS.ifYes X3.here hexec rfl (pc0 := 5) rfl (hb hbytes d5) rfl (i0_ne_t (nz32 (by omega) l0)) (by decide) rfl ?_
    exact Steps.refl _)
  obtain ⟨T5, X5, q5, st5⟩ := X3.sget hexec hown (wk W (.fieldLink "java/lang/String" 38 "java/lang/String" "COMPACT_STRINGS" "Z")) s1 (fun _ _ h => by rw [hh3]; exact h) (g := (mkF m 27 #[.val (.ref a), .val (.ref b), .val (.int (Int32.ofNat o)), .val (.int (Int32.ofNat len)), .val .null, .unset] [])) rfl (hb hbytes d27)
  have hh5 := q5.trans hh3
  have c6 : Steps p.tables e below (s₁.setTop (entryFrame m #[.ref a, .ref b, .int (Int32.ofNat o), .int (Int32.ofNat len), .null] 6)) (T5.setTop (mkF m 30 #[.val (.ref a), .val (.ref b), .val (.int (Int32.ofNat o)), .val (.int (Int32.ofNat len)), .val .null, .unset] [.int z])) := c4.trans (st5 _ (Steps.refl _))
  have c7 : Steps p.tables e below (s₁.setTop (entryFrame m #[.ref a, .ref b, .int (Int32.ofNat o), .int (Int32.ofNat len), .null] 6)) (T5.setTop (mkF m 36 #[.val (.ref a), .val (.ref b), .val (.int (Int32.ofNat o)), .val (.int (Int32.ofNat len)), .val .null, .unset] [.int (Int32.ofNat len), .int (Int32.ofNat o), .ref b])) := c6.trans (by
    refine XS.ifNo X5.here hexec rfl (hb hbytes d30) rfl (i0_eq_f hz) ?_
    refine XS.aloadN X5.here hexec rfl (hb hbytes d33) rfl rfl ?_
    refine XS.iloadN X5.here hexec rfl (hb hbytes d34) rfl ?_
    refine XS.iloadN X5.here hexec rfl (hb hbytes d35) rfl ?_
    exact Steps.refl _)
  obtain ⟨v8, T8, X8, E8, g8⟩ := X5.callS hexec (Cmp3.law l b A o len) hown (wks W (staticW "java/lang/String" 177 Cmp3.yN)) (wk W Cmp3.tab) (W := 0) (Nat.le_of_ble_eq_true rfl) (Nat.le_of_ble_eq_true rfl) (Nat.le_refl _) (by show 0 + len ≤ len; omega) (g := (mkF m 36 #[.val (.ref a), .val (.ref b), .val (.int (Int32.ofNat o)), .val (.int (Int32.ofNat len)), .val .null, .unset] [.int (Int32.ofNat len), .int (Int32.ofNat o), .ref b])) rfl (by rw [hml]; rfl) c7 (argsL := [.ref b, .int (Int32.ofNat o), .int (Int32.ofNat len)]) (rest := []) rfl rfl (by show 2 * 0 + 0 ≤ _; decide) (hb hbytes d36) (⟨rfl, hA.mv X5.warmed.alike hh5, l1, l2, hp⟩)
  obtain ⟨e8, z8⟩ := E8
  obtain ⟨rfl, N, n1, n2, n3, n4, n5, n6⟩ := NewArr.mv _ T5 s _ _ hh5.symm (Vm.Alike.refl _) rfl e8
  rw [hh5] at z8
  have hB1 := hB.keep X8.warmed.alike (n6 _ _ hB.1)
  have hne : s.heap.size ≠ a := (Nat.ne_of_lt (Array.getElem?_eq_some_iff.mp hB.1).1).symm
  have c9 : Steps p.tables e below (s₁.setTop (entryFrame m #[.ref a, .ref b, .int (Int32.ofNat o), .int (Int32.ofNat len), .null] 6)) (T8.setTop (mkF m 39 #[.val (.ref a), .val (.ref b), .val (.int (Int32.ofNat o)), .val (.int (Int32.ofNat len)), .val .null, .unset] [.ref s.heap.size])) := g8
  have c10 : Steps p.tables e below (s₁.setTop (entryFrame m #[.ref a, .ref b, .int (Int32.ofNat o), .int (Int32.ofNat len), .null] 6)) (T8.setTop (mkF m 45 #[.val (.ref a), .val (.ref b), .val (.int (Int32.ofNat o)), .val (.int (Int32.ofNat len)), .val .null, .val (.ref s.heap.size)] [.int (Int32.ofNat N.slots.size), .ref s.heap.size, .ref a])) := by
    have hc : Steps p.tables e below (s₁.setTop (entryFrame m #[.ref a, .ref b, .int (Int32.ofNat o), .int (Int32.ofNat len), .null] 6)) (T8.setTop (mkF m 45 #[.val (.ref a), .val (.ref b), .val (.int (Int32.ofNat o)), .val (.int (Int32.ofNat len)), .val .null, .val (.ref s.heap.size)] [.int (Int32.ofNat len), .ref s.heap.size, .ref a])) := c9.trans (by
      refine XS.astore X8.here hexec rfl (hb hbytes d39) rfl rfl rfl ?_
      refine XS.aloadN X8.here hexec rfl (hb hbytes d41) rfl rfl ?_
      refine XS.aload X8.here hexec rfl (hb hbytes d42) rfl rfl ?_
      refine XS.iloadN X8.here hexec rfl (hb hbytes d44) rfl ?_
      exact Steps.refl _)
    rw [n4]; exact hc
  obtain ⟨v11, T11, X11, E11, g11⟩ := X8.callS hexec (CodL.law l s.heap.size N) hown (wks W (staticW "java/lang/String" 47 CodL.yN)) (wk W CodL.tab) (W := 1) (Nat.le_of_ble_eq_true rfl) (Nat.le_of_ble_eq_true rfl) (Nat.le_refl _) (by show 0 + len + 0 ≤ len; omega) (g := (mkF m 45 #[.val (.ref a), .val (.ref b), .val (.int (Int32.ofNat o)), .val (.int (Int32.ofNat len)), .val .null, .val (.ref s.heap.size)] [.int (Int32.ofNat N.slots.size), .ref s.heap.size, .ref a])) rfl (by rw [hml]; rfl) c10 (argsL := [.ref s.heap.size, .int (Int32.ofNat N.slots.size)]) (rest := [.ref a]) rfl rfl (by show 2 * 0 + (1 + 0) ≤ _; decide) (hb hbytes d45) (⟨rfl, n1⟩)
  obtain ⟨rfl, q11⟩ := E11
  have hB11 := hB1.mv (X8.warmed.alike.symm.trans X11.warmed.alike) q11
  have c12 : Steps p.tables e below (s₁.setTop (entryFrame m #[.ref a, .ref b, .int (Int32.ofNat o), .int (Int32.ofNat len), .null] 6)) (T11.setTop (mkF m 48 #[.val (.ref a), .val (.ref b), .val (.int (Int32.ofNat o)), .val (.int (Int32.ofNat len)), .val .null, .val (.ref s.heap.size)] [.int 0, .ref a])) := g11
  obtain ⟨T13, X13, p13, bl13, sl13, st13⟩ := X11.finit hexec hown (wk W (.fieldLink "java/lang/String" 15 "java/lang/String" "coder" "B")) (Or.inr ⟨_, (wk W (.laysFinal "java/lang/String" "java/lang/String" "coder" "B"))⟩) (Or.inl ⟨rfl, hnm⟩) f2 (Or.inl rfl) hB11 (t := .byte) (by decide +kernel) rfl (g := (mkF m 48 #[.val (.ref a), .val (.ref b), .val (.int (Int32.ofNat o)), .val (.int (Int32.ofNat len)), .val .null, .val (.ref s.heap.size)] [.int 0, .ref a])) rfl (rest := []) rfl (hb hbytes d48)
  have c14 : Steps p.tables e below (s₁.setTop (entryFrame m #[.ref a, .ref b, .int (Int32.ofNat o), .int (Int32.ofNat len), .null] 6)) (T13.setTop (mkF m 54 #[.val (.ref a), .val (.ref b), .val (.int (Int32.ofNat o)), .val (.int (Int32.ofNat len)), .val .null, .val (.ref s.heap.size)] [.ref s.heap.size, .ref a])) := (c12.trans (st13 _ (Steps.refl _))).trans (by
    refine XS.aloadN X13.here hexec rfl (hb hbytes d51) rfl rfl ?_
    refine XS.aload X13.here hexec rfl (hb hbytes d52) rfl rfl ?_
    exact Steps.refl _)
  obtain ⟨T15, X15, p15, bl15, sl15, st15⟩ := X13.finit hexec hown (wk W (.fieldLink "java/lang/String" 9 "java/lang/String" "value" "[B")) (Or.inr ⟨_, (wk W (.laysFinal "java/lang/String" "java/lang/String" "value" "[B"))⟩) (Or.inl ⟨rfl, hnm⟩) f1 (Or.inl rfl) bl13 (t := (.array .byte)) (by decide +kernel) rfl (g := (mkF m 54 #[.val (.ref a), .val (.ref b), .val (.int (Int32.ofNat o)), .val (.int (Int32.ofNat len)), .val .null, .val (.ref s.heap.size)] [.ref s.heap.size, .ref a])) rfl (rest := []) rfl (hb hbytes d54)
  have c16 : Steps p.tables e below (s₁.setTop (entryFrame m #[.ref a, .ref b, .int (Int32.ofNat o), .int (Int32.ofNat len), .null] 6)) (T15.setTop (mkF m 57 #[.val (.ref a), .val (.ref b), .val (.int (Int32.ofNat o)), .val (.int (Int32.ofNat len)), .val .null, .val (.ref s.heap.size)] [])) := c14.trans (st15 _ (Steps.refl _))
  have ap := apart (Or.inr ⟨_, (wk W (.laysFinal "java/lang/String" "java/lang/String" "value" "[B"))⟩) (Or.inr ⟨_, (wk W (.laysFinal "java/lang/String" "java/lang/String" "coder" "B"))⟩) f1 f2 (t₁ := .array .byte) (t₂ := .byte) (by decide +kernel) (by decide +kernel) (by decide)
  have al := X8.warmed.alike.symm.trans X15.warmed.alike
  have n7 : T11.heap[s.heap.size]? = some N := by rw [q11]; exact n1.1
  exact ⟨T15, none, _, _, _, X15, by simp, rfl, by omega, (fun _ => rfl), ⟨rfl, _, N, bl15, ((Same.refl D _).set _ (by simp)).set _ (by simp), sl15, (Cell.slots_setSlot_ne _ ap).trans sl13, n1.keep al (p15.other hne (p13.other hne n7)), n2, by rw [al.findClass]; exact n3, n4, n5, fun y c h1 h2 => p15.other h1 (p13.other h1 (by rw [q11]; exact n6 y c h2)), by rw [p15.2.2, p13.2.2, q11]; exact z8⟩, fun fs hl => c16.trans (X15.returnOut hexec hret (hb hbytes d57) hl)⟩
end New4
namespace New1
def yN : MethodName := ⟨"java/lang/String", "<init>", "([C)V"⟩
abbrev yB : ByteArray := jdk_42_method_3_code
theorem d0 : decode yB 0 = .ok (.aload_n 0, 1) := by decide +kernel
theorem d1 : decode yB 1 = .ok (.aload_n 1, 1) := by decide +kernel
theorem d2 : decode yB 2 = .ok (.iconst 0, 1) := by decide +kernel
theorem d3 : decode yB 3 = .ok (.aload_n 1, 1) := by decide +kernel
theorem d4 : decode yB 4 = .ok (.arraylength, 1) := by decide +kernel
theorem d5 : decode yB 5 = .ok (.aconst_null, 1) := by decide +kernel
theorem d6 : decode yB 6 = .ok (.invokespecial 27, 3) := by decide +kernel
theorem d9 : decode yB 9 = .ok (.return_, 1) := by decide +kernel
def site : List Cond := [New4.tab] ++ initW "java/lang/String" 27 New4.yN
def tab : Cond := tabOf yN yB 2 none site
def P (a : Addr) (D : Cell) (fV fC : Field) (b : Addr) (A : Cell) (z : Int32) (args : Array Value) (s : State) : Prop := args = #[.ref a, .ref b] ∧ Blank "java/lang/String" a D s ∧ Found "java/lang/String" "value" "[B" fV s ∧ Found "java/lang/String" "coder" "B" fC s ∧ Ch b A s ∧ StaticIs s "java/lang/String" "COMPACT_STRINGS" "Z" (.int z) ∧ ¬ z = 0 ∧ 0 < A.slots.size ∧ A.slots.size ≤ 536870912 ∧ ∀ i, i < A.slots.size → ¬ 255 < cv A i
def E (a : Addr) (D : Cell) (fV fC : Field) (A : Cell) (r : Option Value) (s u : State) : Prop := Got a D fV fC A 0 A.slots.size r s u
/-- new String(chars), not empty, no char above 255: a Latin-1 String of their low bytes -/
theorem law (l : Launch) (a : Addr) (D : Cell) (fV fC : Field) (b : Addr) (A : Cell) (z : Int32) : Law l yN 2 1 3 52 yB 2 none site (P a D fV fC b A z) (E a D fV fC A) [⟨a, fC.slot⟩, ⟨a, fV.slot⟩] 1 A.slots.size := by
  refine Law.of_walk (plainFor_of_name (by decide +kernel)) (by decide +kernel) (by decide +kernel) (by decide) (fun _ _ h => by rw [h.1]; rfl) (fun _ U U' hal hh h => ⟨h.1, h.2.1.mv hal hh, h.2.2.1.al hal, h.2.2.2.1.al hal, h.2.2.2.2.1.mv hal hh, h.2.2.2.2.2.1.there hal hh, h.2.2.2.2.2.2⟩) (fun r U U' V V' h1 hal h2 h => Got.mv r U U' V V' h1 hal h2 h) ?_
  intro p e s m args below meth c s₁ X0 hexec hbytes hml hret hlk hnm hown hh0 W hP
  obtain ⟨rfl, hB, f1, f2, hA, s1, hz, l0, l2, hp⟩ := hP
  have c1 : Steps p.tables e below (s₁.setTop (entryFrame m #[.ref a, .ref b] 2)) (s₁.setTop (mkF m 0 #[.val (.ref a), .val (.ref b)] [])) := entry rfl
  have c2 : Steps p.tables e below (s₁.setTop (entryFrame m #[.ref a, .ref b] 2)) (s₁.setTop (mkF m 6 #[.val (.ref a), .val (.ref b)] [.null, .int (Int32.ofNat A.slots.size), .int 0, .ref b, .ref a])) := c1.trans (by
    refine XS.aloadN X0.here hexec rfl (hb hbytes d0) rfl rfl ?_
    refine XS.aloadN X0.here hexec rfl (hb hbytes d1) rfl rfl ?_
    refine iconstV X0.here hexec rfl 0 (hb hbytes d2) (by decide) ?_
    refine XS.aloadN X0.here hexec rfl (hb hbytes d3) rfl rfl ?_
    refine X0.alen hexec (hA.1.mv X0.warmed.alike hh0) rfl rfl (hb hbytes d4) ?_
    refine XS.aconstNull X0.here hexec rfl (hb hbytes d5) ?_
    exact Steps.refl _)
  obtain ⟨v3, T3, X3, E3, g3⟩ := X0.callN hexec (New4.law l a D fV fC b A z 0 A.slots.size) rfl hown (wks W (initW "java/lang/String" 27 New4.yN)) (W New4.tab (by simp only [site, List.mem_cons, List.mem_append, true_or, or_true])) (W := 0) (Nat.le_of_ble_eq_true rfl) (Nat.le_of_ble_eq_true rfl) (Nat.le_refl _) (by show 0 + A.slots.size ≤ A.slots.size; omega) (g := (mkF m 6 #[.val (.ref a), .val (.ref b)] [.null, .int (Int32.ofNat A.slots.size), .int (Int32.ofNat 0), .ref b, .ref a])) rfl (by rw [hml]; rfl) c2 (argsL := [.ref b, .int (Int32.ofNat 0), .int (Int32.ofNat A.slots.size), .null]) (rest := []) rfl rfl (by show 2 * 0 + 0 ≤ _; decide) (hb hbytes d6) (⟨rfl, hB.mv X0.warmed.alike hh0, f1.al X0.warmed.alike, f2.al X0.warmed.alike, hA.mv X0.warmed.alike hh0, s1.there X0.warmed.alike hh0, hz, l0, by omega, l2, fun i hi => by rw [Nat.zero_add]; exact hp i hi⟩)
  have e0 := Got.mv _ s₁ s _ _ hh0.symm (Vm.Alike.refl _) rfl E3
  obtain rfl := e0.1
  have c4 : Steps p.tables e below (s₁.setTop (entryFrame m #[.ref a, .ref b] 2)) (T3.setTop (mkF m 9 #[.val (.ref a), .val (.ref b)] [])) := g3
  exact ⟨T3, none, _, _, _, X3, by simp, rfl, by omega, (fun _ => rfl), e0, fun fs hl => c4.trans (X3.returnOut hexec hret (hb hbytes d9) hl)⟩
theorem pays {l : Launch} {R : Room} {p : Program} {e : Env} {below : List Frame} {s : State} {sargs : Array Value} {len W : Nat} (a : Addr) (D : Cell) (fV fC : Field) (b : Addr) (A : Cell) (z : Int32) (htab : tab.before sargs s = true) (hfr : 4 ≤ R.frames) (hlo : W + 65 ≤ R.locals) :
    Back l R p e below s sargs yN len W (fun A₁ a₁ => A₁.cells + 1 ≤ R.cells ∧ A₁.slots + A.slots.size ≤ R.slots ∧ P a D fV fC b A z a₁ A₁.U) (fun A₁ _ v₁ B₁ => E a D fV fC A v₁ A₁.U B₁.U ∧ B₁.locs = A₁.locs ++ [⟨a, fC.slot⟩, ⟨a, fV.slot⟩] ∧ B₁.cells = A₁.cells + 1 ∧ B₁.slots = A₁.slots + A.slots.size) :=
  (law l a D fV fC b A z).pays htab hfr (by omega)
end New1
/-- the byte, read back as charAt reads it, is the char -/
theorem lo8_mask {x : Int32} (h0 : ¬ x < 0) (h1 : ¬ 255 < x) : lo8 x &&& 255 = x := by
  have t : ∀ k : Fin 256, lo8 (Int32.ofNat k.val) &&& 255 = Int32.ofNat k.val := by decide +kernel
  rw [Int32.lt_iff_toInt_lt] at h0 h1
  have e0 : (0 : Int32).toInt = 0 := rfl
  have e1 : (255 : Int32).toInt = 255 := rfl
  obtain ⟨k, hk⟩ : ∃ k : Nat, x.toInt = k := ⟨x.toInt.toNat, by omega⟩
  have hx : x = Int32.ofNat k := Int32.toInt_inj.mp (by rw [hk, Int32.toInt_ofNat_small (by omega)])
  rw [hx]
  exact t ⟨k, by omega⟩
end StrChars
namespace StrChars.Road
open Jvm Sem ClassFile Op Lib Jvm.Stand Jvm.Free Jvm.Free.XT
open Jvm.Lib.Cold (StaticIs)
abbrev ST : String := "java/lang/String"
/-- every table word that New1's law asks, flat -/
abbrev words : List Jvm.Cond := [.code New1.yN New1.yB 2 none, .initialized ST, .methodLink ST 27 New4.yN, .instanceMethod New4.yN,
  .code New4.yN New4.yB 6 none, .fieldLink ST 38 ST "COMPACT_STRINGS" "Z", .laysFinal ST ST "value" "[B", .fieldLink ST 9 ST "value" "[B", .laysFinal ST ST "coder" "B", .fieldLink ST 15 ST "coder" "B",
  .methodLink ST 1 Lib.objectInit, .instanceMethod Lib.objectInit, .code Lib.objectInit ⟨#[0xb1]⟩ 1 none, .methodLink ST 177 Cmp3.yN, .static Cmp3.yN, .methodLink ST 47 CodL.yN, .static CodL.yN,
  .code Cmp3.yN Cmp3.yB 6 (some (.array .byte)), .initialized U16, .arrayClass .byte, .methodLink U16 115 Cmp5.yN, .static Cmp5.yN, .code Cmp5.yN Cmp5.yB 7 (some .int), .code CodL.yN CodL.yB 2 (some .byte)]
theorem tab_of {a : Array Value} {s : State} (h : ∀ w ∈ words, w.before a s = true) : New1.tab.before a s = true := by
  have h5 : Cmp5.tab.before a s = true := unparts (wk h (.code Cmp5.yN Cmp5.yB 7 (some .int))) (wks h (.initialized Cmp5.yN.cls :: Cmp5.site))
  have hc : CodL.tab.before a s = true := unparts (wk h (.code CodL.yN CodL.yB 2 (some .byte))) (wks h (.initialized CodL.yN.cls :: CodL.site))
  have q5 : ∀ w ∈ Cmp5.tab :: words, w.before a s = true := fun w hw => (List.mem_cons.mp hw).elim (fun e => e ▸ h5) (h w)
  have h3 : Cmp3.tab.before a s = true := unparts (wk q5 (.code Cmp3.yN Cmp3.yB 6 (some (.array .byte)))) (wks q5 (.initialized Cmp3.yN.cls :: Cmp3.site))
  have q3 : ∀ w ∈ Cmp3.tab :: CodL.tab :: words, w.before a s = true := fun w hw => (List.mem_cons.mp hw).elim (fun e => e ▸ h3) fun hw => (List.mem_cons.mp hw).elim (fun e => e ▸ hc) (h w)
  have h4 : New4.tab.before a s = true := unparts (wk q3 (.code New4.yN New4.yB 6 none)) (wks q3 (.initialized New4.yN.cls :: New4.site))
  have q4 : ∀ w ∈ New4.tab :: words, w.before a s = true := fun w hw => (List.mem_cons.mp hw).elim (fun e => e ▸ h4) (h w)
  exact unparts (wk q4 (.code New1.yN New1.yB 2 none)) (wks q4 (.initialized New1.yN.cls :: New1.site))
/-- the words ride from the start Z to the walk's own state -/
theorem moved {Z s : State} {a0 args : Array Value} (hZ : Z.Warmed39 s.vm) (hw : ∀ d ∈ words, d.before a0 Z = true) : ∀ d ∈ words, d.before args s = true := fun d hd => by
  have q := hw d hd
  have t : ∀ d ∈ words, d = .arrayClass .byte ∨ (d.onTables && d.keepsFace) = true := by decide +kernel
  rcases t d hd with rfl | t
  · exact RoadKit.mvA hZ q
  · exact RoadKit.mv hZ q t
/-- WHAT COMES BACK, over the tables of the start Z: h the heap at the call, h' behind it -/
def Q (Z : State) (x : Addr) (A : Cell) (h : Heap) (v : Option Value) (h' : Heap) (L : List Loc) : Prop := v = none ∧ (∀ y ∈ L, y.base = x) ∧ RoadKit.Keep h h' [x] ∧ h'.size = h.size + 1 ∧ RoadKit.Exa Z h' x ST ∧ RoadKit.Fld Z h' x ST "value" "[B" (.ref h.size) ∧ RoadKit.Fld Z h' x ST "coder" "B" (.int 0) ∧
  (∃ V : Cell, RoadKit.Arr Z h' h.size V .byte ∧ V.vm = .none ∧ Z.vm.findClass "[B" = some V.cls ∧ V.slots.size = A.slots.size ∧ ∀ j, j < A.slots.size → V.slots[j]? = some (.int (lo8 (cv A j)))) ∧
  ∀ (O n d : String) (w : Value), RoadKit.Fld Z h x O n d w → RoadKit.slotOf Z O n d ≠ RoadKit.slotOf Z ST "value" "[B" → RoadKit.slotOf Z O n d ≠ RoadKit.slotOf Z ST "coder" "B" → RoadKit.Fld Z h' x O n d w
/-- **new String(chars) AT A CALL, IN THE ROAD'S FORM**: for specialBack behind newO: x the fresh String, b the char[] with the cell A -/
theorem back {p : Program} {l : Launch} {e : Env} {R : Room} {s : State} {args : Array Value} {below : List Frame} {len W : Nat} {Z : State} {a0 : Array Value} {h : Heap} (hZ : Z.Warmed39 s.vm) (hw : ∀ d ∈ words, d.before a0 Z = true) {kI : Nat} (wi : (Jvm.Cond.instantiable ST kI).before a0 Z = true)
    {x b : Addr} {A : Cell} {z : Int32} {v0 c0 : Value} (E : RoadKit.Exa Z h x ST) (V : RoadKit.Fld Z h x ST "value" "[B" v0) (C : RoadKit.Fld Z h x ST "coder" "B" c0) (K : RoadKit.Arr Z h b A .char) (hty : Typed .char A) (S : RoadKit.Sta Z h ST "COMPACT_STRINGS" "Z" (.int z)) (hz : ¬ z = 0)
    (l0 : 0 < A.slots.size) (l2 : A.slots.size ≤ 536870912) (hp : ∀ i, i < A.slots.size → ¬ 255 < cv A i) (hfr : 4 ≤ R.frames) (hlo : W + 65 ≤ R.locals) :
    Back l R p e below s args New1.yN len W (fun P a => a = #[.ref x, .ref b] ∧ P.U.heap = h ∧ P.cells + 1 ≤ R.cells ∧ P.slots + A.slots.size ≤ R.slots)
      (fun P _ v B => ∃ L, Q Z x A h v B.U.heap L ∧ B.locs = P.locs ++ L ∧ B.cells = P.cells + 1 ∧ B.slots = P.slots + A.slots.size) := by
  intro m meth c P g ig mk a X hg hsize hdg hW hn hp'
  obtain ⟨rfl, rfl, r1, r2⟩ := hp'
  have al : Z.vm.Alike P.U.vm := hZ.alike.trans X.warmed.alike
  obtain ⟨D, cfV, kV, iV, fV, hD, gV, stV, knV, obV, asV, slV⟩ := id V
  obtain ⟨D', cfC, kC, iC, fC, hD', gC, stC, -, -, asC, slC⟩ := id C
  cases hD.symm.trans hD'
  obtain ⟨D2, kD, e1, e2, e3, e4, e5⟩ := id E
  cases hD.symm.trans e1
  obtain ⟨c2, k2, i1, i2, i3, -⟩ := Cond.instantiable_spec wi
  cases e2.symm.trans i1
  cases e3.symm.trans i2
  obtain ⟨kU, u1, u2⟩ := al.2.2 _ _ e3
  have hB : Blank ST x D P.U := ⟨hD, ⟨knV, fun q hq => by rw [hq] at obV; cases obV⟩, by rw [al.findClass]; exact e2, kU, u1, by rw [u2]; exact i3, by rw [u2]; exact e5 i3⟩
  have F1 : Found ST "value" "[B" fV P.U := ⟨SBG.found_only al ⟨cfV, kV, iV, gV⟩, stV⟩
  have F2 : Found ST "coder" "B" fC P.U := ⟨SBG.found_only al ⟨cfC, kC, iC, gC⟩, stC⟩
  have hA : Ch b A P.U := ⟨⟨K.1, State.isArrayOf_alike al K.2.1, K.2.2, by omega⟩, hty⟩
  have hS : StaticIs P.U ST "COMPACT_STRINGS" "Z" (.int z) := by
    obtain ⟨cfS, iS, kS, fS, st, cS, t1, t2, t3, t4, t5, t6, t7⟩ := S
    exact StaticIs.there (s := { Z with heap := P.U.heap }) ⟨cfS, iS, kS, fS, st, cS, t1, t2, t3, t4, t5, (fun q => by rw [q] at t6; cases t6), t7⟩ al rfl
  obtain ⟨v, B, X', ⟨⟨hv, E', V', q1, q2, q3, q4, q5, q6, q7, q8, q9, q10, q11⟩, hl, hc, hs⟩, st⟩ := New1.pays x D fV fC b A z (tab_of (moved hZ hw)) hfr hlo m meth c P g ig mk _ X hg hsize hdg hW hn ⟨r1, r2, rfl, hB, F1, F2, hA, hS, hz, l0, l2, hp⟩
  have al' : Z.vm.Alike B.U.vm := hZ.alike.trans X'.warmed.alike
  have hsz : E'.slots.size = D.slots.size := by
    obtain ⟨-, -, -, kB, w1, w2, w3⟩ := q1
    obtain ⟨kB', y1, y2⟩ := al'.2.2 _ _ e3
    rw [q2.2.1] at w1
    cases w1.symm.trans y1
    rw [w3, e5 i3, y2]
  refine ⟨v, B, X', ⟨_, ⟨hv, ?_, ⟨by omega, fun y cy hy hn' => q10 y cy (by simpa using hn') hy, fun y cy hy => ?_⟩, q11, ⟨E', _, q1.1, by rw [q2.2.1]; exact e2, by rw [q2.2.1]; exact e3, by rw [q2.1]; exact obV, fun _ => by rw [hsz]; exact e5 i3⟩,
    ⟨E', cfV, kV, iV, fV, q1.1, gV, stV, by rw [q2.1]; exact knV, by rw [q2.1]; exact obV, by rw [q2.2.1]; exact asV, q3⟩, ⟨E', cfC, kC, iC, fC, q1.1, gC, stC, by rw [q2.1]; exact knV, by rw [q2.1]; exact obV, by rw [q2.2.1]; exact asC, q4⟩,
    ⟨V', ⟨q5.1, State.isArrayOf_alike al'.symm q5.2.1, q5.2.2.1⟩, q6, by rw [← al'.findClass]; exact q7, q8, fun j hj => by have := q9 j hj; rwa [Nat.zero_add] at this⟩, fun O n d w F n1 n2 => ?_⟩, hl, hc, hs⟩, st⟩
  · intro y hy
    simp only [List.mem_cons, List.not_mem_nil, or_false] at hy
    rcases hy with rfl | rfl <;> rfl
  · by_cases q : y = x
    · subst q
      cases hD.symm.trans hy
      exact ⟨E', q1.1, q2.2.1, q2.1, hsz⟩
    · exact ⟨cy, q10 y cy q hy, rfl, rfl, rfl⟩
  · obtain ⟨D3, cf, k, i, f, g1, g2, g3, g4, g5, g6, g7⟩ := F
    cases hD.symm.trans g1
    simp only [RoadKit.slotOf, g2, gV, gC, Option.map_some, Option.getD_some] at n1 n2
    exact ⟨E', cf, k, i, f, q1.1, g2, g3, by rw [q2.1]; exact g4, by rw [q2.1]; exact g5, by rw [q2.2.1]; exact g6, by rw [q2.2.2 f.slot (by simp [n1, n2])]; exact g7⟩
end StrChars.Road
namespace StrChars.Road
open Jvm Sem ClassFile Op Lib Jvm.Stand Jvm.Free Jvm.Free.XT
/-- WHAT COMES BACK, the byte[] as a list of values -/
def QA (Z : State) (x : Addr) (zn : Int32) (cs : List Int32) (h : Heap) (v : Option Value) (h' : Heap) (L : List Loc) : Prop := v = none ∧ (∀ y ∈ L, y.base = x) ∧ RoadKit.Keep h h' [x] ∧ h'.size = h.size + 1 ∧ RoadKit.Exa Z h' x ST ∧ RoadKit.Fld Z h' x ST "value" "[B" (.ref h.size) ∧ RoadKit.Fld Z h' x ST "coder" "B" (.int 0) ∧
  (∃ kb, Z.vm.findClass "[B" = some kb ∧ RoadKit.Arv Z h' h.size kb .byte zn (cs.map fun c => .int (lo8 c)) (.int 0)) ∧
  ∀ (O n d : String) (w : Value), RoadKit.Fld Z h x O n d w → RoadKit.slotOf Z O n d ≠ RoadKit.slotOf Z ST "value" "[B" → RoadKit.slotOf Z O n d ≠ RoadKit.slotOf Z ST "coder" "B" → RoadKit.Fld Z h' x O n d w
/-- **new String(chars) AT A CALL, THE ARRAYS AS LISTS**: the char[] at b holds cs, not empty, no char above 255 -/
theorem backArv {p : Program} {l : Launch} {e : Env} {R : Room} {s : State} {args : Array Value} {below : List Frame} {len W : Nat} {Z : State} {a0 : Array Value} {h : Heap} (hZ : Z.Warmed39 s.vm) (hw : ∀ d ∈ words, d.before a0 Z = true) {kI : Nat} (wi : (Jvm.Cond.instantiable ST kI).before a0 Z = true)
    {x b : Addr} {k : ClassId} {zn z : Int32} {cs : List Int32} {dv v0 c0 : Value} (E : RoadKit.Exa Z h x ST) (V : RoadKit.Fld Z h x ST "value" "[B" v0) (C : RoadKit.Fld Z h x ST "coder" "B" c0) (K : RoadKit.Arv Z h b k .char zn (cs.map Value.int) dv) (S : RoadKit.Sta Z h ST "COMPACT_STRINGS" "Z" (.int z)) (hz : ¬ z = 0)
    (hlen : zn.toNatClampNeg = cs.length) (h0 : 0 < cs.length) (hbig : cs.length ≤ 536870912) (hall : ∀ c ∈ cs, ¬ 255 < c) (hfr : 4 ≤ R.frames) (hlo : W + 65 ≤ R.locals) :
    Back l R p e below s args New1.yN len W (fun P a => a = #[.ref x, .ref b] ∧ P.U.heap = h ∧ P.cells + 1 ≤ R.cells ∧ P.slots + cs.length ≤ R.slots)
      (fun P _ v B => ∃ L, QA Z x zn cs h v B.U.heap L ∧ B.locs = P.locs ++ L ∧ B.cells = P.cells + 1 ∧ B.slots = P.slots + cs.length) := by
  obtain ⟨A, K1, K2, K3, K4, K5, K6⟩ := K
  have e : A.slots.size = cs.length := K3.trans hlen
  have hat : ∀ (i : Nat) (hi : i < cs.length), A.slots[i]? = some (.int cs[i]) := fun i hi => by rw [K5 i (by omega)]; simp [List.getD_eq_getElem?_getD, hi]
  have hcv : ∀ (i : Nat) (hi : i < cs.length), cv A i = cs[i] := fun i hi => by unfold cv; rw [hat i hi]
  have hty : Typed .char A := fun i v hv => by
    have hi : i < A.slots.size := (Array.getElem?_eq_some_iff.mp hv).1
    have q := K5 i hi
    rw [hv] at q
    rw [Option.some.inj q]
    exact K6 i hi
  refine Back.mono (back hZ hw wi E V C K1 hty S hz (by omega) (by omega) (fun i hi => by rw [hcv i (by omega)]; exact hall _ (List.getElem_mem _)) hfr hlo) (fun P a hp => ⟨hp.1, hp.2.1, hp.2.2.1, by rw [e]; exact hp.2.2.2⟩) (fun P a v B hp hq => ?_)
  obtain ⟨L, ⟨q1, q2, q3, q4, q5, q6, q7, ⟨V', v1, v2, v3, v4, v5⟩, q9⟩, hl, hc, hs⟩ := hq
  refine ⟨L, ⟨q1, q2, q3, q4, q5, q6, q7, ⟨V'.cls, v3, V', v1, rfl, by rw [v4, e, hlen], K4, fun i hi => ?_, fun i hi => ?_⟩, q9⟩, hl, hc, by rw [hs, e]⟩
  · have hi' : i < cs.length := by omega
    rw [v5 i (by omega), hcv i hi']; simp [List.getD_eq_getElem?_getD, hi']
  · have hi' : i < cs.length := by omega
    simp only [List.getD_eq_getElem?_getD, List.getElem?_map, List.getElem?_eq_getElem hi', Option.map_some, Option.getD_some]
    exact fits_lo8 _
end StrChars.Road
namespace StrChars.Road
open Jvm Sem ClassFile Op Lib Jvm.Stand Jvm.Free Jvm.Free.XT
/-- WHAT COMES BACK, in the writer's own shape -/
def QV (Z : State) (x : Addr) (N : Int32) (bs : List Int32) (h : Heap) (n0 : Nat) (v : Option Value) (h' : Heap) (L : List Loc) : Prop := v = none ∧ RoadKit.Fr n0 L ∧ RoadKit.Keep h h' [x] ∧ RoadKit.Exa Z h' x ST ∧ RoadKit.Fld Z h' x ST "coder" "B" (.int 0) ∧
  ∃ (t : Addr) (kb : ClassId), n0 ≤ t ∧ h.size ≤ t ∧ ¬ t = x ∧ RoadKit.Fld Z h' x ST "value" "[B" (.ref t) ∧ RoadKit.Arv Z h' t kb .byte N (bs.map Value.int) (.int 0)
/-- **new String(chars) AT A CALL, FOR THE WRITER**: a char[] of n known ints, each 0 to 255 -/
theorem backV {p : Program} {l : Launch} {e : Env} {R : Room} {s : State} {args : Array Value} {below : List Frame} {len W : Nat} {Z : State} {a0 : Array Value} {h : Heap} (hZ : Z.Warmed39 s.vm) (hw : ∀ d ∈ words, d.before a0 Z = true) {kI : Nat} (wi : (Jvm.Cond.instantiable ST kI).before a0 Z = true)
    {x b : Addr} {kC : ClassId} {cs bs : List Int32} {d v0 c0 : Value} {z N : Int32} {n n0 : Nat} (hx0 : n0 ≤ x) (hh0 : n0 ≤ h.size) (E : RoadKit.Exa Z h x ST) (V : RoadKit.Fld Z h x ST "value" "[B" v0) (C : RoadKit.Fld Z h x ST "coder" "B" c0) (K : RoadKit.Arv Z h b kC .char N (cs.map Value.int) d) (S : RoadKit.Sta Z h ST "COMPACT_STRINGS" "Z" (.int z)) (hz : ¬ z = 0)
    (hn : cs.length = n) (hN : N = Int32.ofNat n) (l0 : 0 < n) (l2 : n ≤ 4000) (hp : ∀ c ∈ cs, ¬ c < 0 ∧ ¬ (255 : Int32) < c) (hb : bs = cs.map (fun c => c.toInt8.toInt32)) (hfr : 4 ≤ R.frames) (hlo : W + 65 ≤ R.locals) :
    Back l R p e below s args (⟨"java/lang/String", "<init>", "([C)V"⟩ : MethodName) len W (fun P a => a = #[.ref x, .ref b] ∧ P.U.heap = h ∧ P.cells + 1 ≤ R.cells ∧ P.slots + n ≤ R.slots)
      (fun P _ v B => ∃ L, QV Z x N bs h n0 v B.U.heap L ∧ B.locs = P.locs ++ L ∧ B.cells = P.cells + 1 ∧ B.slots = P.slots + n) := by
  subst hn hN hb
  refine Back.mono (backArv hZ hw wi E V C K S hz (n32 (by omega)) l0 (by omega) (fun c hc => (hp c hc).2) hfr hlo) (fun P a hp => hp) (fun P a v B hp hq => ?_)
  obtain ⟨L, ⟨q1, q2, q3, q4, q5, q6, q7, ⟨kb, v1, v2⟩, q9⟩, hl, hc, hs⟩ := hq
  exact ⟨L, ⟨q1, fun y hy => by rw [q2 y hy]; exact hx0, q3, q5, q7, h.size, kb, hh0, Nat.le_refl _, Nat.ne_of_gt E.lt, q6, by rw [List.map_map]; exact v2⟩, hl, hc, hs⟩
end StrChars.Road
namespace StrChars
open Jvm Sem ClassFile Op Lib Jvm.Stand Jvm.Free.XT Jvm.Free.ALB Jvm.Free.JM Jvm.Free
open Jvm.Lib.Cold (StaticIs)
def hi8 (x : Int32) : Int32 := lo8 (x >>> ((8 : Int32) &&& 31))
/-- what StringUTF16.getChar makes of two bytes -/
def pairCh (u v : Int32) : Int32 := (((u &&& 255) <<< ((0 : Int32) &&& 31)) ||| ((v &&& 255) <<< ((8 : Int32) &&& 31))).toUInt32.toUInt16.toUInt32.toInt32
theorem lo8_and (x : Int32) : (lo8 x &&& 255).toBitVec.toNat = x.toBitVec.toNat % 256 := by
  have h : (lo8 x).toBitVec = (x.toBitVec.signExtend 8).signExtend 32 := by rw [lo8, Int8.toBitVec_toInt32, Int32.toBitVec_toInt8]
  rw [Int32.toBitVec_and, BitVec.toNat_and, h]
  have e : ((x.toBitVec.signExtend 8).signExtend 32).toNat % 256 = x.toBitVec.toNat % 256 := by
    rw [BitVec.toNat_signExtend]
    have hlt := x.toBitVec.isLt
    simp only [BitVec.toNat_setWidth, BitVec.toNat_signExtend]
    split <;> split <;> omega
  rw [← e]
  exact Nat.and_two_pow_sub_one_eq_mod _ 8
theorem pair_says {c : Int32} (h0 : ¬ c < 0) (h1 : ¬ 65535 < c) : pairCh (lo8 c) (hi8 c) = c := by
  rw [Int32.lt_iff_toInt_lt] at h0 h1
  have e0 : (0 : Int32).toInt = 0 := rfl
  have e1 : (65535 : Int32).toInt = 65535 := rfl
  have hc : c.toInt = c.toBitVec.toNat := by
    have := c.toBitVec.isLt
    have e : c.toInt = c.toBitVec.toInt := rfl
    rw [e] at h0 h1
    rw [e]
    rw [BitVec.toInt_eq_toNat_cond] at h0 h1 ⊢
    split at h0 <;> split <;> omega
  have hn : c.toBitVec.toNat < 65536 := by omega
  have a1 := lo8_and c
  have a2 : (hi8 c &&& 255).toBitVec.toNat = c.toBitVec.toNat / 256 := by
    rw [hi8, lo8_and]
    have e : ((8 : Int32) &&& 31) = 8 := by decide
    rw [e, Int32.toBitVec_shiftRight]
    have e2 : ((8 : Int32).toBitVec.smod 32) = 8#32 := by decide
    rw [e2, BitVec.sshiftRight_eq', BitVec.toNat_sshiftRight_of_msb_false (by rw [BitVec.msb_eq_false_iff_two_mul_lt]; omega)]
    show c.toBitVec.toNat >>> 8 % 256 = _
    rw [Nat.shiftRight_eq_div_pow]
    omega
  unfold pairCh
  apply Int32.toBitVec_inj.mp
  apply BitVec.eq_of_toNat_eq
  have f0 : ((0 : Int32) &&& 31) = 0 := by decide
  have f8 : ((8 : Int32) &&& 31) = 8 := by decide
  rw [f0, f8]
  have g : (((lo8 c &&& 255) <<< (0 : Int32)) ||| ((hi8 c &&& 255) <<< (8 : Int32))).toBitVec.toNat = c.toBitVec.toNat := by
    rw [Int32.toBitVec_or, Int32.toBitVec_shiftLeft, Int32.toBitVec_shiftLeft]
    have s0 : ((0 : Int32).toBitVec.smod 32) = 0#32 := by decide
    have s8 : ((8 : Int32).toBitVec.smod 32) = 8#32 := by decide
    rw [s0, s8, BitVec.toNat_or]
    simp only [BitVec.shiftLeft_eq', BitVec.toNat_shiftLeft, a1, a2]
    show (c.toBitVec.toNat % 256) <<< 0 % 2 ^ 32 ||| (c.toBitVec.toNat / 256) <<< 8 % 2 ^ 32 = _
    rw [Nat.shiftLeft_zero, Nat.mod_eq_of_lt (show c.toBitVec.toNat % 256 < 2 ^ 32 by omega), Nat.mod_eq_of_lt (show (c.toBitVec.toNat / 256) <<< 8 < 2 ^ 32 by rw [Nat.shiftLeft_eq]; omega), Nat.or_comm, ← Nat.shiftLeft_add_eq_or_of_lt (by omega), Nat.shiftLeft_eq]
    omega
  show BitVec.toNat (((((lo8 c &&& 255) <<< (0 : Int32)) ||| ((hi8 c &&& 255) <<< (8 : Int32))).toBitVec.setWidth 16).setWidth 32) = _
  rw [BitVec.toNat_setWidth, BitVec.toNat_setWidth, g]
  omega
end StrChars
namespace StrChars
open Jvm Sem ClassFile Op Lib Jvm.Stand Jvm.Free.XT Jvm.Free.ALB Jvm.Free.JM Jvm.Free
open Jvm.Lib.Cold (StaticIs)
/-- the array's cell V codes the n chars f 0 .. f (n - 1) by the coder cd, as the JDK does: coder 1 just where some char is above 255 -/
def Cod (cd : Int32) (n : Nat) (f : Nat → Int32) (V : Cell) : Prop := (cd = 0 ∧ V.slots.size = n ∧ ∀ j, j < n → V.slots[j]? = some (.int (lo8 (f j))) ∧ ¬ 255 < f j) ∨ (cd = 1 ∧ V.slots.size = 2 * n ∧ (∀ j, j < n → V.slots[2 * j]? = some (.int (lo8 (f j))) ∧ V.slots[2 * j + 1]? = some (.int (hi8 (f j)))) ∧ ∃ j, j < n ∧ 255 < f j)
/-- **x is a String of the n chars f 0 .. f (n - 1)**, Latin-1 or UTF-16; its array at t has the cell V -/
def Txt (x t : Addr) (V : Cell) (cd : Int32) (n : Nat) (f : Nat → Int32) (U : State) : Prop := Exact "java/lang/String" x U ∧ Has x "java/lang/String" "value" "[B" (.ref t) U ∧ Has x "java/lang/String" "coder" "B" (.int cd) U ∧ XT.Arr .byte t V U ∧ Cod cd n f V ∧ ∀ j, j < n → ¬ f j < 0 ∧ ¬ 65535 < f j
theorem Txt.mv {x t : Addr} {V : Cell} {cd : Int32} {n : Nat} {f : Nat → Int32} {U U' : State} (h : Txt x t V cd n f U) (hal : U.vm.Alike U'.vm) (hh : U'.heap = U.heap) : Txt x t V cd n f U' := ⟨h.1.mv hal hh, h.2.1.mv hal hh, h.2.2.1.mv hal hh, h.2.2.2.1.mv hal hh, h.2.2.2.2⟩
end StrChars
namespace StrChars.Road
open Jvm Sem ClassFile Op Lib Jvm.Stand Jvm.Free Jvm.Free.XT
open Jvm.Lib.Cold (StaticIs)
theorem consq {a : Array Value} {s : State} {c : Jvm.Cond} {L : List Jvm.Cond} (h0 : c.before a s = true) (h : ∀ w ∈ L, w.before a s = true) : ∀ w ∈ c :: L, w.before a s = true := fun w hw => (List.mem_cons.mp hw).elim (fun e => e ▸ h0) (h w)
/-- the bytes of the chars cs, low before high -/
def wideBytes : List Int32 → List Value
  | [] => []
  | c :: cs => .int (lo8 c) :: .int (hi8 c) :: wideBytes cs
theorem wide_lo (d : Value) : ∀ (cs : List Int32) (j : Nat), j < cs.length → (wideBytes cs).getD (2 * j) d = .int (lo8 (cs.getD j 0))
  | [], j, h => absurd h (Nat.not_lt_zero j)
  | c :: cs, 0, _ => rfl
  | c :: cs, j + 1, h => by
    have q := wide_lo d cs j (by simpa using h)
    rw [show 2 * (j + 1) = 2 * j + 1 + 1 from by omega]
    simpa [wideBytes] using q
theorem wide_hi (d : Value) : ∀ (cs : List Int32) (j : Nat), j < cs.length → (wideBytes cs).getD (2 * j + 1) d = .int (hi8 (cs.getD j 0))
  | [], j, h => absurd h (Nat.not_lt_zero j)
  | c :: cs, 0, _ => rfl
  | c :: cs, j + 1, h => by
    have q := wide_hi d cs j (by simpa using h)
    rw [show 2 * (j + 1) + 1 = 2 * j + 1 + 1 + 1 from by omega]
    simpa [wideBytes] using q
theorem low_at (d : Value) (cs : List Int32) (j : Nat) (h : j < cs.length) : (cs.map fun c => Value.int (lo8 c)).getD j d = .int (lo8 (cs.getD j 0)) := by
  simp [List.getD_eq_getElem?_getD, h]
/-- an array of N2 bytes vs codes the chars cs by the coder cd -/
def CodA (cs : List Int32) (cd N2 : Int32) (vs : List Value) : Prop := (cd = 0 ∧ N2 = Int32.ofNat cs.length ∧ vs = (cs.map fun c => Value.int (lo8 c)) ∧ ∀ c ∈ cs, ¬ 255 < c) ∨ (cd = 1 ∧ N2 = Int32.ofNat (2 * cs.length) ∧ vs = wideBytes cs ∧ ∃ c ∈ cs, 255 < c)
theorem CodA.cod {cs : List Int32} {cd N2 : Int32} {vs : List Value} {V : Cell} (h : CodA cs cd N2 vs) (hn : 2 * cs.length < 2 ^ 31) (hs : V.slots.size = N2.toNatClampNeg) (hv : RoadKit.Has V vs (.int 0)) : Cod cd cs.length (fun j => cs.getD j 0) V := by
  rcases h with ⟨rfl, rfl, rfl, h⟩ | ⟨rfl, rfl, rfl, c, hc, hw⟩
  · rw [n32 (by omega)] at hs
    exact Or.inl ⟨rfl, hs, fun j hj => ⟨by rw [hv j (by omega), low_at _ _ _ hj], by
      have e : cs.getD j 0 = cs[j] := by simp [List.getD_eq_getElem?_getD, hj]
      show ¬ 255 < cs.getD j 0
      rw [e]; exact h _ (List.getElem_mem _)⟩⟩
  · rw [n32 (by omega)] at hs
    obtain ⟨j, hj, rfl⟩ := List.getElem_of_mem hc
    exact Or.inr ⟨rfl, hs, fun j hj => ⟨by rw [hv _ (by omega), wide_lo _ _ _ hj], by rw [hv _ (by omega), wide_hi _ _ _ hj]⟩, j, hj, by
      have e : cs.getD j 0 = cs[j] := by simp [List.getD_eq_getElem?_getD, hj]
      show 255 < cs.getD j 0
      rw [e]; exact hw⟩
/-- an object of exactly java/lang/String, its two fields found: as the laws ask it -/
theorem strObj {Z U : State} {a0 : Array Value} {kI : Nat} (wi : (Jvm.Cond.instantiable ST kI).before a0 Z = true) (al : Z.vm.Alike U.vm) {x : Addr} {v0 c0 : Value} (E : RoadKit.Exa Z U.heap x ST) (V : RoadKit.Fld Z U.heap x ST "value" "[B" v0) (C : RoadKit.Fld Z U.heap x ST "coder" "B" c0) :
    ∃ (D : Cell) (fV fC : Field), Blank ST x D U ∧ Found ST "value" "[B" fV U ∧ Found ST "coder" "B" fC U ∧ D.slots[fV.slot]? = some v0 ∧ D.slots[fC.slot]? = some c0 ∧ RoadKit.slotOf Z ST "value" "[B" = fV.slot ∧ RoadKit.slotOf Z ST "coder" "B" = fC.slot := by
  obtain ⟨D, cfV, kV, iV, fV, hD, gV, stV, knV, obV, asV, slV⟩ := V
  obtain ⟨D', cfC, kC, iC, fC, hD', gC, stC, -, -, asC, slC⟩ := C
  cases hD.symm.trans hD'
  obtain ⟨D2, kD, e1, e2, e3, e4, e5⟩ := E
  cases hD.symm.trans e1
  obtain ⟨c2, k2, i1, i2, i3, -⟩ := Cond.instantiable_spec wi
  cases e2.symm.trans i1
  cases e3.symm.trans i2
  obtain ⟨kU, u1, u2⟩ := al.2.2 _ _ e3
  exact ⟨D, fV, fC, ⟨hD, ⟨knV, fun q hq => by rw [hq] at obV; cases obV⟩, by rw [al.findClass]; exact e2, kU, u1, by rw [u2]; exact i3, by rw [u2]; exact e5 i3⟩, ⟨SBG.found_only al ⟨cfV, kV, iV, gV⟩, stV⟩, ⟨SBG.found_only al ⟨cfC, kC, iC, gC⟩, stC⟩, slV, slC, by simp [RoadKit.slotOf, gV], by simp [RoadKit.slotOf, gC]⟩
theorem sta_is {Z U : State} (al : Z.vm.Alike U.vm) {C n d : String} {v : Value} (S : RoadKit.Sta Z U.heap C n d v) : StaticIs U C n d v := by
  obtain ⟨cfS, iS, kS, fS, st, cS, t1, t2, t3, t4, t5, t6, t7⟩ := S
  exact StaticIs.there (s := { Z with heap := U.heap }) ⟨cfS, iS, kS, fS, st, cS, t1, t2, t3, t4, t5, (fun q => by rw [q] at t6; cases t6), t7⟩ al rfl
end StrChars.Road
namespace StrChars
open Jvm Sem ClassFile Op Lib Jvm.Stand Jvm.Free.XT Jvm.Free.ALB Jvm.Free.JM Jvm.Free
open Jvm.Lib.Cold (StaticIs)
/-- what place i of a byte[]'s cell holds -/
def yv (A : Cell) (i : Nat) : Int32 := match A.slots[i]? with | some (.int x) => x | _ => 0
theorem yv_get {a : Addr} {A : Cell} {U : State} (h : XT.Arr .byte a A U) (ht : Typed .byte A) {i : Nat} (hi : i < A.slots.size) : A.slots[i]? = some (.int (yv A i)) := by
  have e := Array.getElem?_eq_getElem hi
  have f := ht i _ e
  unfold yv; rw [e]
  generalize A.slots[i] = v at f
  cases v <;> simp [fits] at f ⊢
/-- the two arrays are equal, place for place -/
def EqC (A B : Cell) : Prop := A.slots.size = B.slots.size ∧ ∀ i, i < A.slots.size → yv A i = yv B i
/-- a boolean that says whether p -/
def Says01 (q : Prop) (r : Option Value) (s u : State) : Prop := ∃ v : Int32, r = some (.int v) ∧ u.heap = s.heap ∧ ((v = 1 ∧ q) ∨ (v = 0 ∧ ¬ q))
theorem Says01.mv {q : Prop} : ∀ r (U U' V V' : State), U'.heap = U.heap → V.vm.Alike V'.vm → V'.heap = V.heap → Says01 q r U V → Says01 q r U' V' :=
  fun r U U' V V' h1 _ h2 ⟨v, a, b, c⟩ => ⟨v, a, by rw [h1, h2]; exact b, c⟩
namespace LEq
def yN : MethodName := ⟨"java/lang/StringLatin1", "equals", "([B[B)Z"⟩
abbrev yB : ByteArray := jdk_43_method_13_code
theorem d0 : decode yB 0 = .ok (.aload_n 0, 1) := by decide +kernel
theorem d1 : decode yB 1 = .ok (.arraylength, 1) := by decide +kernel
theorem d2 : decode yB 2 = .ok (.aload_n 1, 1) := by decide +kernel
theorem d3 : decode yB 3 = .ok (.arraylength, 1) := by decide +kernel
theorem d4 : decode yB 4 = .ok (.if_icmp (.ne) 30, 3) := by decide +kernel
theorem d7 : decode yB 7 = .ok (.iconst 0, 1) := by decide +kernel
theorem d8 : decode yB 8 = .ok (.istore_n 2, 1) := by decide +kernel
theorem d9 : decode yB 9 = .ok (.iload_n 2, 1) := by decide +kernel
theorem d10 : decode yB 10 = .ok (.aload_n 0, 1) := by decide +kernel
theorem d11 : decode yB 11 = .ok (.arraylength, 1) := by decide +kernel
theorem d12 : decode yB 12 = .ok (.if_icmp (.ge) 20, 3) := by decide +kernel
theorem d15 : decode yB 15 = .ok (.aload_n 0, 1) := by decide +kernel
theorem d16 : decode yB 16 = .ok (.iload_n 2, 1) := by decide +kernel
theorem d17 : decode yB 17 = .ok (.baload, 1) := by decide +kernel
theorem d18 : decode yB 18 = .ok (.aload_n 1, 1) := by decide +kernel
theorem d19 : decode yB 19 = .ok (.iload_n 2, 1) := by decide +kernel
theorem d20 : decode yB 20 = .ok (.baload, 1) := by decide +kernel
theorem d21 : decode yB 21 = .ok (.if_icmp (.eq) 5, 3) := by decide +kernel
theorem d24 : decode yB 24 = .ok (.iconst 0, 1) := by decide +kernel
theorem d25 : decode yB 25 = .ok (.ireturn, 1) := by decide +kernel
theorem d26 : decode yB 26 = .ok (.iinc 2 1, 3) := by decide +kernel
theorem d29 : decode yB 29 = .ok (.goto (-20), 3) := by decide +kernel
theorem d32 : decode yB 32 = .ok (.iconst 1, 1) := by decide +kernel
theorem d33 : decode yB 33 = .ok (.ireturn, 1) := by decide +kernel
theorem d34 : decode yB 34 = .ok (.iconst 0, 1) := by decide +kernel
theorem d35 : decode yB 35 = .ok (.ireturn, 1) := by decide +kernel
def site : List Cond := []
def tab : Cond := tabOf yN yB 3 (some .boolean) site
def P (a : Addr) (A : Cell) (b : Addr) (B : Cell) (args : Array Value) (s : State) : Prop := args = #[.ref a, .ref b] ∧ XT.Arr .byte a A s ∧ Typed .byte A ∧ XT.Arr .byte b B s ∧ Typed .byte B
/-- whether two byte[] are equal, place for place -/
theorem law (l : Launch) (a : Addr) (A : Cell) (b : Addr) (B : Cell) : Law l yN 2 2 0 0 yB 3 (some .boolean) site (P a A b B) (Says01 (EqC A B)) [] 0 0 := by
  refine Law.of_walk (plainFor_of_name (by decide +kernel)) (by decide +kernel) (by decide +kernel) (by decide) (fun _ _ h => by rw [h.1]; rfl) (fun _ U U' hal hh h => ⟨h.1, h.2.1.mv hal hh, h.2.2.1, h.2.2.2.1.mv hal hh, h.2.2.2.2⟩) (fun r U U' V V' h1 hal h2 h => Says01.mv r U U' V V' h1 hal h2 h) ?_
  intro p e s m args below meth c s₁ X0 hexec hbytes hml hret hlk hnm hown hh0 W hP
  obtain ⟨rfl, hA, tA, hB, tB⟩ := hP
  have a31 := hA.2.2.2
  have b31 := hB.2.2.2
  have hA0 := hA.mv X0.warmed.alike hh0
  have hB0 := hB.mv X0.warmed.alike hh0
  have c1 : Steps p.tables e below (s₁.setTop (entryFrame m #[.ref a, .ref b] 3)) (s₁.setTop (mkF m 0 #[.val (.ref a), .val (.ref b), .unset] [])) := entry rfl
  have c2 : Steps p.tables e below (s₁.setTop (entryFrame m #[.ref a, .ref b] 3)) (s₁.setTop (mkF m 4 #[.val (.ref a), .val (.ref b), .unset] [.int (Int32.ofNat B.slots.size), .int (Int32.ofNat A.slots.size)])) := c1.trans (by
    refine XS.aloadN X0.here hexec rfl (hb hbytes d0) rfl rfl ?_
    refine X0.alen hexec hA0 rfl rfl (hb hbytes d1) ?_
    refine XS.aloadN X0.here hexec rfl (hb hbytes d2) rfl rfl ?_
    refine X0.alen hexec hB0 rfl rfl (hb hbytes d3) ?_
    exact Steps.refl _)
  by_cases hs : A.slots.size = B.slots.size
  · have c3 : Steps p.tables e below (s₁.setTop (entryFrame m #[.ref a, .ref b] 3)) (s₁.setTop (mkF m 9 #[.val (.ref a), .val (.ref b), .val (.int 0)] [])) := c2.trans (by
      refine XS.icmpNo X0.here hexec rfl (hb hbytes d4) rfl (ii_ne_f (by rw [hs])) ?_
      refine iconstV X0.here hexec rfl 0 (hb hbytes d7) (by decide) ?_
      refine XS.istoreN X0.here hexec rfl (hb hbytes d8) rfl rfl ?_
      exact Steps.refl _)
    have loop : ∀ (r i : Nat), i + r = A.slots.size → (∀ j, j < i → yv A j = yv B j) → Steps p.tables e below (s₁.setTop (entryFrame m #[.ref a, .ref b] 3)) (s₁.setTop (mkF m 9 #[.val (.ref a), .val (.ref b), .val (.int (Int32.ofNat i))] [])) → ∃ (pc : Nat) (Ls : Array Slot) (v : Int32), (pc = 25 ∨ pc = 33) ∧ ((v = 1 ∧ EqC A B) ∨ (v = 0 ∧ ¬ EqC A B)) ∧ Steps p.tables e below (s₁.setTop (entryFrame m #[.ref a, .ref b] 3)) (s₁.setTop (mkF m pc Ls [.int v])) := by
      intro r
      induction r with
      | zero =>
        intro i hi he cl
        exact ⟨33, _, 1, Or.inr rfl, Or.inl ⟨rfl, hs, fun j hj => he j (by omega)⟩, cl.trans (by
          refine XS.iloadN X0.here hexec rfl (hb hbytes d9) rfl ?_
          refine XS.aloadN X0.here hexec rfl (hb hbytes d10) rfl rfl ?_
          refine X0.alen hexec hA0 rfl rfl (hb hbytes d11) ?_
          refine XS.icmpYes X0.here hexec rfl (pc0 := 12) rfl (hb hbytes d12) rfl (ii_ge_t (nlt32 (by omega) (by omega))) (by decide) rfl ?_
          refine iconstV X0.here hexec rfl 1 (hb hbytes d32) (by decide) ?_
          exact Steps.refl _)⟩
      | succ r ih =>
        intro i hi he cl
        have c4 : Steps p.tables e below (s₁.setTop (entryFrame m #[.ref a, .ref b] 3)) (s₁.setTop (mkF m 21 #[.val (.ref a), .val (.ref b), .val (.int (Int32.ofNat i))] [.int (yv B i), .int (yv A i)])) := cl.trans (by
          refine XS.iloadN X0.here hexec rfl (hb hbytes d9) rfl ?_
          refine XS.aloadN X0.here hexec rfl (hb hbytes d10) rfl rfl ?_
          refine X0.alen hexec hA0 rfl rfl (hb hbytes d11) ?_
          refine XS.icmpNo X0.here hexec rfl (hb hbytes d12) rfl (ii_ge_f (lt32 (by omega) (by omega))) ?_
          refine XS.aloadN X0.here hexec rfl (hb hbytes d15) rfl rfl ?_
          refine XS.iloadN X0.here hexec rfl (hb hbytes d16) rfl ?_
          refine X0.aget hexec hA0 rfl (yv_get hA tA (i := i) (by omega)) rfl rfl (hb hbytes d17) ?_
          refine XS.aloadN X0.here hexec rfl (hb hbytes d18) rfl rfl ?_
          refine XS.iloadN X0.here hexec rfl (hb hbytes d19) rfl ?_
          refine X0.aget hexec hB0 rfl (yv_get hB tB (i := i) (by omega)) rfl rfl (hb hbytes d20) ?_
          exact Steps.refl _)
        by_cases hv : yv A i = yv B i
        · have c5 : Steps p.tables e below (s₁.setTop (entryFrame m #[.ref a, .ref b] 3)) (s₁.setTop (mkF m 9 #[.val (.ref a), .val (.ref b), .val (.int (Int32.ofNat i + 1))] [])) := c4.trans (by
            refine XS.icmpYes X0.here hexec rfl (pc0 := 21) rfl (hb hbytes d21) rfl (ii_eq_t hv) (by decide) rfl ?_
            refine iincV X0.here hexec rfl 1 (hb hbytes d26) (by decide) rfl rfl ?_
            refine XS.goto X0.here hexec rfl (pc0 := 29) rfl (hb hbytes d29) (by decide) rfl ?_
            exact Steps.refl _)
          rw [succ32] at c5
          exact ih (i + 1) (by omega) (fun j hj => by
            by_cases e : j = i
            · rw [e]; exact hv
            · exact he j (by omega)) c5
        · exact ⟨25, _, 0, Or.inl rfl, Or.inr ⟨rfl, fun q => hv (q.2 i (by omega))⟩, c4.trans (by
            refine XS.icmpNo X0.here hexec rfl (hb hbytes d21) rfl (ii_eq_f hv) ?_
            refine iconstV X0.here hexec rfl 0 (hb hbytes d24) (by decide) ?_
            exact Steps.refl _)⟩
    obtain ⟨pc, Ls, v, hpc, hv, cz⟩ := loop A.slots.size 0 (by omega) (fun j hj => absurd hj (Nat.not_lt_zero j)) c3
    have nv : narrow .boolean (.int v) = .int v := by rcases hv with ⟨rfl, -⟩ | ⟨rfl, -⟩ <;> rfl
    rcases hpc with rfl | rfl
    · exact ⟨s₁, some (.int v), _, _, _, X0, rfl, rfl, rfl, (fun h => by cases h), ⟨v, rfl, hh0, hv⟩, fun fs hl => cz.trans (X0.ireturnOut hexec hret nv (Or.inr (Or.inl rfl)) (hb hbytes d25) hl)⟩
    · exact ⟨s₁, some (.int v), _, _, _, X0, rfl, rfl, rfl, (fun h => by cases h), ⟨v, rfl, hh0, hv⟩, fun fs hl => cz.trans (X0.ireturnOut hexec hret nv (Or.inr (Or.inl rfl)) (hb hbytes d33) hl)⟩
  · have c3 : Steps p.tables e below (s₁.setTop (entryFrame m #[.ref a, .ref b] 3)) (s₁.setTop (mkF m 35 #[.val (.ref a), .val (.ref b), .unset] [.int 0])) := c2.trans (by
      refine XS.icmpYes X0.here hexec rfl (pc0 := 4) rfl (hb hbytes d4) rfl (ii_ne_t (ne32 a31 b31 hs)) (by decide) rfl ?_
      refine iconstV X0.here hexec rfl 0 (hb hbytes d34) (by decide) ?_
      exact Steps.refl _)
    exact ⟨s₁, some (.int 0), _, _, _, X0, rfl, rfl, rfl, (fun h => by cases h), ⟨0, rfl, hh0, Or.inr ⟨rfl, fun q => hs q.1⟩⟩, fun fs hl => c3.trans (X0.ireturnOut hexec hret rfl (Or.inr (Or.inl rfl)) (hb hbytes d35) hl)⟩
end LEq
theorem Cod.ty {cd : Int32} {n : Nat} {f : Nat → Int32} {V : Cell} (h : Cod cd n f V) : Typed .byte V := fun i v hv => by
  have hi : i < V.slots.size := (Array.getElem?_eq_some_iff.mp hv).1
  rcases h with ⟨-, k1, k2⟩ | ⟨-, k1, k2, -⟩
  · rw [(k2 i (by omega)).1] at hv; cases hv; exact fits_lo8 _
  · rcases Nat.mod_two_eq_zero_or_one i with e | e
    · obtain ⟨j, rfl⟩ : ∃ j, i = 2 * j := ⟨i / 2, by omega⟩
      rw [(k2 j (by omega)).1] at hv; cases hv; exact fits_lo8 _
    · obtain ⟨j, rfl⟩ : ∃ j, i = 2 * j + 1 := ⟨i / 2, by omega⟩
      rw [(k2 j (by omega)).2] at hv; cases hv; exact fits_lo8 _
/-- the same text -/
def SameT (n : Nat) (f : Nat → Int32) (k : Nat) (g : Nat → Int32) : Prop := n = k ∧ ∀ j, j < n → f j = g j
theorem lo8_inj {x y : Int32} (h0 : ¬ x < 0) (h1 : ¬ 255 < x) (k0 : ¬ y < 0) (k1 : ¬ 255 < y) (h : lo8 x = lo8 y) : x = y := by
  rw [← lo8_mask h0 h1, ← lo8_mask k0 k1, h]
/-- arrays coded by one coder are equal just where the texts are -/
theorem Cod.eqv {cd : Int32} {n k : Nat} {f g : Nat → Int32} {V V' : Cell} (h : Cod cd n f V) (h' : Cod cd k g V') (hf : ∀ j, j < n → ¬ f j < 0 ∧ ¬ 65535 < f j) (hg : ∀ j, j < k → ¬ g j < 0 ∧ ¬ 65535 < g j) : EqC V V' ↔ SameT n f k g := by
  have yvv : ∀ {W : Cell} {i : Nat} {x : Int32}, W.slots[i]? = some (.int x) → yv W i = x := fun q => by unfold yv; rw [q]
  rcases h with ⟨rfl, k1, k2⟩ | ⟨rfl, k1, k2, -⟩
  · rcases h' with ⟨-, m1, m2⟩ | ⟨e, -⟩
    · constructor
      · rintro ⟨e1, e2⟩
        refine ⟨by omega, fun j hj => ?_⟩
        have q := e2 j (by omega)
        rw [yvv (k2 j hj).1, yvv (m2 j (by omega)).1] at q
        exact lo8_inj (hf j hj).1 (k2 j hj).2 (hg j (by omega)).1 (m2 j (by omega)).2 q
      · rintro ⟨rfl, e2⟩
        refine ⟨by omega, fun j hj => ?_⟩
        rw [yvv (k2 j (by omega)).1, yvv (m2 j (by omega)).1, e2 j (by omega)]
    · exact absurd e (by decide)
  · rcases h' with ⟨e, -⟩ | ⟨-, m1, m2, -⟩
    · exact absurd e (by decide)
    · constructor
      · rintro ⟨e1, e2⟩
        refine ⟨by omega, fun j hj => ?_⟩
        have q1 := e2 (2 * j) (by omega)
        have q2 := e2 (2 * j + 1) (by omega)
        rw [yvv (k2 j hj).1, yvv (m2 j (by omega)).1] at q1
        rw [yvv (k2 j hj).2, yvv (m2 j (by omega)).2] at q2
        rw [← pair_says (hf j hj).1 (hf j hj).2, ← pair_says (hg j (by omega)).1 (hg j (by omega)).2, q1, q2]
      · rintro ⟨rfl, e2⟩
        refine ⟨by omega, fun i hi => ?_⟩
        rcases Nat.mod_two_eq_zero_or_one i with e | e
        · obtain ⟨j, rfl⟩ : ∃ j, i = 2 * j := ⟨i / 2, by omega⟩
          rw [yvv (k2 j (by omega)).1, yvv (m2 j (by omega)).1, e2 j (by omega)]
        · obtain ⟨j, rfl⟩ : ∃ j, i = 2 * j + 1 := ⟨i / 2, by omega⟩
          rw [yvv (k2 j (by omega)).2, yvv (m2 j (by omega)).2, e2 j (by omega)]
/-- two codings differ: so do the texts -/
theorem Cod.dif {cd cd' : Int32} {n k : Nat} {f g : Nat → Int32} {V V' : Cell} (h : Cod cd n f V) (h' : Cod cd' k g V') (hne : ¬ cd = cd') : ¬ SameT n f k g := by
  rintro ⟨rfl, e⟩
  rcases h with ⟨rfl, -, k2⟩ | ⟨rfl, -, -, j, hj, hw⟩
  · rcases h' with ⟨rfl, -⟩ | ⟨-, -, -, j, hj, hw⟩
    · exact hne rfl
    · exact (k2 j hj).2 (by rw [e j hj]; exact hw)
  · rcases h' with ⟨-, -, m2⟩ | ⟨rfl, -⟩
    · exact (m2 j hj).2 (by rw [← e j hj]; exact hw)
    · exact hne rfl
/-- an object of exactly C is an instance of C -/
theorem cinst {p : Program} {l : Launch} {e : Env} {R : Room} {s : State} {m : MethodId} {args : Array Value} {below : List Frame} {meth : Method} {c : Code} {T : State} {locs : List Loc} {cells slots : Nat} (X : Stand p l e R s m args below meth c T locs cells slots) (hexec : p.tables.exec = Jvm.exec) {own C : String} {index : Nat} (hown : s.vm.findClass own = some m.cls) (hlink : (Cond.classLink own index C).before args s = true) {a : Addr} (hE : Exact C a T)
    {g : JFrame} (hg : g.method = m) {rest : List Value} (hstack : g.stack = .ref a :: rest) (hdg : decode c.code g.pc = .ok (.instanceof index, 3)) :
    ∃ T', Stand p l e R s m args below meth c T' locs cells slots ∧ T'.heap = T.heap ∧ ∀ target, Steps p.tables e below (T'.setTop { g with pc := g.pc + 3, stack := .int 1 :: rest }) target → Steps p.tables e below (T.setTop g) target := by
  obtain ⟨cB, h1, D, h2, h3, h4⟩ := hE
  have h1' : s.vm.findClass C = some cB := by rw [← X.warmed.alike.findClass]; exact h1
  obtain ⟨vm', X', st⟩ := X.instanceofYes hexec hown hlink h2 h4 h1' (by rw [h3]; exact Jvm.Free.SB.assignable_self _ _) hg hstack hdg
  exact ⟨_, X', rfl, st⟩
theorem cself {p : Program} {l : Launch} {e : Env} {R : Room} {s : State} {m : MethodId} {args : Array Value} {below : List Frame} {meth : Method} {c : Code} {T : State} {locs : List Loc} {cells slots : Nat} (X : Stand p l e R s m args below meth c T locs cells slots) (hexec : p.tables.exec = Jvm.exec) {own C : String} {index : Nat} (hown : s.vm.findClass own = some m.cls) (hlink : (Cond.classLink own index C).before args s = true) {a : Addr} (hE : Exact C a T)
    {g : JFrame} (hg : g.method = m) {rest : List Value} (hstack : g.stack = .ref a :: rest) (hdg : decode c.code g.pc = .ok (.checkcast index, 3)) :
    ∃ T', Stand p l e R s m args below meth c T' locs cells slots ∧ T'.heap = T.heap ∧ ∀ target, Steps p.tables e below (T'.setTop { g with pc := g.pc + 3, stack := .ref a :: rest }) target → Steps p.tables e below (T.setTop g) target := by
  obtain ⟨cB, h1, D, h2, h3, h4⟩ := hE
  have h1' : s.vm.findClass C = some cB := by rw [← X.warmed.alike.findClass]; exact h1
  obtain ⟨vm', X', st⟩ := X.checkcastYes hexec hown hlink h2 h4 h1' (by rw [h3]; exact Jvm.Free.SB.assignable_self _ _) hg hstack hdg
  exact ⟨_, X', rfl, fun t h => st t (by rw [← hstack] at h; exact h)⟩
namespace SEq
def yN : MethodName := ⟨"java/lang/String", "equals", "(Ljava/lang/Object;)Z"⟩
abbrev yB : ByteArray := jdk_42_method_66_code
theorem d0 : decode yB 0 = .ok (.aload_n 0, 1) := by decide +kernel
theorem d1 : decode yB 1 = .ok (.aload_n 1, 1) := by decide +kernel
theorem d2 : decode yB 2 = .ok (.if_acmp (.ne) 5, 3) := by decide +kernel
theorem d5 : decode yB 5 = .ok (.iconst 1, 1) := by decide +kernel
theorem d6 : decode yB 6 = .ok (.ireturn, 1) := by decide +kernel
theorem d7 : decode yB 7 = .ok (.aload_n 1, 1) := by decide +kernel
theorem d8 : decode yB 8 = .ok (.instanceof 10, 3) := by decide +kernel
theorem d11 : decode yB 11 = .ok (.ifCond (.eq) 43, 3) := by decide +kernel
theorem d14 : decode yB 14 = .ok (.aload_n 1, 1) := by decide +kernel
theorem d15 : decode yB 15 = .ok (.checkcast 10, 3) := by decide +kernel
theorem d18 : decode yB 18 = .ok (.astore_n 2, 1) := by decide +kernel
theorem d19 : decode yB 19 = .ok (.getstatic 38, 3) := by decide +kernel
theorem d22 : decode yB 22 = .ok (.ifCond (.eq) 14, 3) := by decide +kernel
theorem d25 : decode yB 25 = .ok (.aload_n 0, 1) := by decide +kernel
theorem d26 : decode yB 26 = .ok (.getfield 15, 3) := by decide +kernel
theorem d29 : decode yB 29 = .ok (.aload_n 2, 1) := by decide +kernel
theorem d30 : decode yB 30 = .ok (.getfield 15, 3) := by decide +kernel
theorem d33 : decode yB 33 = .ok (.if_icmp (.ne) 21, 3) := by decide +kernel
theorem d36 : decode yB 36 = .ok (.aload_n 0, 1) := by decide +kernel
theorem d37 : decode yB 37 = .ok (.getfield 9, 3) := by decide +kernel
theorem d40 : decode yB 40 = .ok (.aload_n 2, 1) := by decide +kernel
theorem d41 : decode yB 41 = .ok (.getfield 9, 3) := by decide +kernel
theorem d44 : decode yB 44 = .ok (.invokestatic 541, 3) := by decide +kernel
theorem d47 : decode yB 47 = .ok (.ifCond (.eq) 7, 3) := by decide +kernel
theorem d50 : decode yB 50 = .ok (.iconst 1, 1) := by decide +kernel
theorem d51 : decode yB 51 = .ok (.goto 4, 3) := by decide +kernel
theorem d54 : decode yB 54 = .ok (.iconst 0, 1) := by decide +kernel
theorem d55 : decode yB 55 = .ok (.ireturn, 1) := by decide +kernel
def site : List Cond := [.classLink "java/lang/String" 10 "java/lang/String", .fieldLink "java/lang/String" 38 "java/lang/String" "COMPACT_STRINGS" "Z", .fieldLink "java/lang/String" 15 "java/lang/String" "coder" "B", .fieldLink "java/lang/String" 9 "java/lang/String" "value" "[B", LEq.tab] ++ staticW "java/lang/String" 541 LEq.yN
def tab : Cond := tabOf yN yB 3 (some .boolean) site
def P (x t : Addr) (V : Cell) (cd : Int32) (n : Nat) (f : Nat → Int32) (y t' : Addr) (V' : Cell) (cd' : Int32) (k : Nat) (g : Nat → Int32) (z : Int32) (args : Array Value) (s : State) : Prop := args = #[.ref x, .ref y] ∧ Txt x t V cd n f s ∧ Txt y t' V' cd' k g s ∧ StaticIs s "java/lang/String" "COMPACT_STRINGS" "Z" (.int z) ∧ ¬ z = 0
/-- equals(Object) of two Strings: whether the texts are the same -/
theorem law (l : Launch) (x t : Addr) (V : Cell) (cd : Int32) (n : Nat) (f : Nat → Int32) (y t' : Addr) (V' : Cell) (cd' : Int32) (k : Nat) (g : Nat → Int32) (z : Int32) : Law l yN 2 1 1 14 yB 3 (some .boolean) site (P x t V cd n f y t' V' cd' k g z) (Says01 (SameT n f k g)) [] 0 0 := by
  refine Law.of_walk (plainFor_of_name (by decide +kernel)) (by decide +kernel) (by decide +kernel) (by decide) (fun _ _ h => by rw [h.1]; rfl) (fun _ U U' hal hh h => ⟨h.1, h.2.1.mv hal hh, h.2.2.1.mv hal hh, h.2.2.2.1.there hal hh, h.2.2.2.2⟩) (fun r U U' V V' h1 hal h2 h => Says01.mv r U U' V V' h1 hal h2 h) ?_
  intro p e s m args below meth c s₁ X0 hexec hbytes hml hret hlk hnm hown hh0 W hP
  obtain ⟨rfl, hx, hy, s1, hz⟩ := hP
  have c1 : Steps p.tables e below (s₁.setTop (entryFrame m #[.ref x, .ref y] 3)) (s₁.setTop (mkF m 2 #[.val (.ref x), .val (.ref y), .unset] [.ref y, .ref x])) := Steps.trans (entry rfl) (by
    show Steps p.tables e below (s₁.setTop (mkF m 0 #[.val (.ref x), .val (.ref y), .unset] [])) _
    refine XS.aloadN X0.here hexec rfl (hb hbytes d0) rfl rfl ?_
    refine XS.aloadN X0.here hexec rfl (hb hbytes d1) rfl rfl ?_
    exact Steps.refl _)
  by_cases hxy : x = y
  · have c2 : Steps p.tables e below (s₁.setTop (entryFrame m #[.ref x, .ref y] 3)) (s₁.setTop (mkF m 6 #[.val (.ref x), .val (.ref y), .unset] [.int 1])) := c1.trans (by
      refine acmpNo X0.here hexec rfl (hb hbytes d2) rfl rfl rfl (by simp [acmp, hxy]) ?_
      refine iconstV X0.here hexec rfl 1 (hb hbytes d5) (by decide) ?_
      exact Steps.refl _)
    subst hxy
    have ec : cd = cd' := by
      obtain ⟨D, fd, a1, a2, a3⟩ := hx.2.2.1
      obtain ⟨D', fd', b1, b2, b3⟩ := hy.2.2.1
      cases a1.symm.trans b1
      obtain ⟨q1, q2, q3, q4⟩ := a2.1
      obtain ⟨r1, r2, r3, r4⟩ := b2.1
      cases q4.symm.trans r4
      cases a3.symm.trans b3; rfl
    have et : t = t' := by
      obtain ⟨D, fd, a1, a2, a3⟩ := hx.2.1
      obtain ⟨D', fd', b1, b2, b3⟩ := hy.2.1
      cases a1.symm.trans b1
      obtain ⟨q1, q2, q3, q4⟩ := a2.1
      obtain ⟨r1, r2, r3, r4⟩ := b2.1
      cases q4.symm.trans r4
      cases a3.symm.trans b3; rfl
    subst ec et
    have ev : V = V' := by cases hx.2.2.2.1.1.symm.trans hy.2.2.2.1.1; rfl
    subst ev
    have hs : SameT n f k g := (Cod.eqv hx.2.2.2.2.1 hy.2.2.2.2.1 hx.2.2.2.2.2 hy.2.2.2.2.2).mp ⟨rfl, fun _ _ => rfl⟩
    exact ⟨s₁, some (.int 1), _, _, _, X0, rfl, rfl, rfl, (fun h => by cases h), ⟨1, rfl, hh0, Or.inl ⟨rfl, hs⟩⟩, fun fs hl => c2.trans (X0.ireturnOut hexec hret rfl (Or.inr (Or.inl rfl)) (hb hbytes d6) hl)⟩
  · have c2 : Steps p.tables e below (s₁.setTop (entryFrame m #[.ref x, .ref y] 3)) (s₁.setTop (mkF m 8 #[.val (.ref x), .val (.ref y), .unset] [.ref y])) := c1.trans (by
      refine acmpYes X0.here hexec rfl (pc0 := 2) rfl (hb hbytes d2) rfl rfl rfl (by simp [acmp, hxy]) (by decide) rfl ?_
      refine XS.aloadN X0.here hexec rfl (hb hbytes d7) rfl rfl ?_
      exact Steps.refl _)
    obtain ⟨T3, X3, q3, st3⟩ := cinst X0 hexec hown (wk W (.classLink "java/lang/String" 10 "java/lang/String")) (hy.mv X0.warmed.alike hh0).1 (g := (mkF m 8 #[.val (.ref x), .val (.ref y), .unset] [.ref y])) rfl (rest := []) rfl (hb hbytes d8)
    have hh3 := q3.trans hh0
    have c4 : Steps p.tables e below (s₁.setTop (entryFrame m #[.ref x, .ref y] 3)) (T3.setTop (mkF m 15 #[.val (.ref x), .val (.ref y), .unset] [.ref y])) := (c2.trans (st3 _ (Steps.refl _))).trans (by
      refine XS.ifNo X3.here hexec rfl (hb hbytes d11) rfl (i0_eq_f (by decide)) ?_
      refine XS.aloadN X3.here hexec rfl (hb hbytes d14) rfl rfl ?_
      exact Steps.refl _)
    obtain ⟨T5, X5, q5, st5⟩ := cself X3 hexec hown (wk W (.classLink "java/lang/String" 10 "java/lang/String")) (hy.mv X3.warmed.alike hh3).1 (g := (mkF m 15 #[.val (.ref x), .val (.ref y), .unset] [.ref y])) rfl (rest := []) rfl (hb hbytes d15)
    have hh5 := q5.trans hh3
    have c6 : Steps p.tables e below (s₁.setTop (entryFrame m #[.ref x, .ref y] 3)) (T5.setTop (mkF m 19 #[.val (.ref x), .val (.ref y), .val (.ref y)] [])) := (c4.trans (st5 _ (Steps.refl _))).trans (by
      refine XS.astoreN X5.here hexec rfl (hb hbytes d18) rfl rfl rfl ?_
      exact Steps.refl _)
    obtain ⟨T7, X7, q7, st7⟩ := X5.sget hexec hown (wk W (.fieldLink "java/lang/String" 38 "java/lang/String" "COMPACT_STRINGS" "Z")) s1 (fun _ _ h => by rw [hh5]; exact h) (g := (mkF m 19 #[.val (.ref x), .val (.ref y), .val (.ref y)] [])) rfl (hb hbytes d19)
    have hh7 := q7.trans hh5
    have c8 : Steps p.tables e below (s₁.setTop (entryFrame m #[.ref x, .ref y] 3)) (T7.setTop (mkF m 26 #[.val (.ref x), .val (.ref y), .val (.ref y)] [.ref x])) := (c6.trans (st7 _ (Steps.refl _))).trans (by
      refine XS.ifNo X7.here hexec rfl (hb hbytes d22) rfl (i0_eq_f hz) ?_
      refine XS.aloadN X7.here hexec rfl (hb hbytes d25) rfl rfl ?_
      exact Steps.refl _)
    obtain ⟨T9, X9, q9, st9⟩ := X7.hget hexec hown (wk W (.fieldLink "java/lang/String" 15 "java/lang/String" "coder" "B")) (hx.mv X7.warmed.alike hh7).2.2.1 (g := (mkF m 26 #[.val (.ref x), .val (.ref y), .val (.ref y)] [.ref x])) rfl (rest := []) rfl (hb hbytes d26)
    have hh9 := q9.trans hh7
    have c10 : Steps p.tables e below (s₁.setTop (entryFrame m #[.ref x, .ref y] 3)) (T9.setTop (mkF m 30 #[.val (.ref x), .val (.ref y), .val (.ref y)] [.ref y, .int cd])) := (c8.trans (st9 _ (Steps.refl _))).trans (by
      refine XS.aloadN X9.here hexec rfl (hb hbytes d29) rfl rfl ?_
      exact Steps.refl _)
    obtain ⟨T11, X11, q11, st11⟩ := X9.hget hexec hown (wk W (.fieldLink "java/lang/String" 15 "java/lang/String" "coder" "B")) (hy.mv X9.warmed.alike hh9).2.2.1 (g := (mkF m 30 #[.val (.ref x), .val (.ref y), .val (.ref y)] [.ref y, .int cd])) rfl (rest := [.int cd]) rfl (hb hbytes d30)
    have hh11 := q11.trans hh9
    have c12 : Steps p.tables e below (s₁.setTop (entryFrame m #[.ref x, .ref y] 3)) (T11.setTop (mkF m 33 #[.val (.ref x), .val (.ref y), .val (.ref y)] [.int cd', .int cd])) := c10.trans (st11 _ (Steps.refl _))
    by_cases hcd : cd = cd'
    · subst hcd
      have c13 : Steps p.tables e below (s₁.setTop (entryFrame m #[.ref x, .ref y] 3)) (T11.setTop (mkF m 37 #[.val (.ref x), .val (.ref y), .val (.ref y)] [.ref x])) := c12.trans (by
        refine XS.icmpNo X11.here hexec rfl (hb hbytes d33) rfl (ii_ne_f rfl) ?_
        refine XS.aloadN X11.here hexec rfl (hb hbytes d36) rfl rfl ?_
        exact Steps.refl _)
      obtain ⟨T14, X14, q14, st14⟩ := X11.hget hexec hown (wk W (.fieldLink "java/lang/String" 9 "java/lang/String" "value" "[B")) (hx.mv X11.warmed.alike hh11).2.1 (g := (mkF m 37 #[.val (.ref x), .val (.ref y), .val (.ref y)] [.ref x])) rfl (rest := []) rfl (hb hbytes d37)
      have hh14 := q14.trans hh11
      have c15 : Steps p.tables e below (s₁.setTop (entryFrame m #[.ref x, .ref y] 3)) (T14.setTop (mkF m 41 #[.val (.ref x), .val (.ref y), .val (.ref y)] [.ref y, .ref t])) := (c13.trans (st14 _ (Steps.refl _))).trans (by
        refine XS.aloadN X14.here hexec rfl (hb hbytes d40) rfl rfl ?_
        exact Steps.refl _)
      obtain ⟨T16, X16, q16, st16⟩ := X14.hget hexec hown (wk W (.fieldLink "java/lang/String" 9 "java/lang/String" "value" "[B")) (hy.mv X14.warmed.alike hh14).2.1 (g := (mkF m 41 #[.val (.ref x), .val (.ref y), .val (.ref y)] [.ref y, .ref t])) rfl (rest := [.ref t]) rfl (hb hbytes d41)
      have hh16 := q16.trans hh14
      have c17 : Steps p.tables e below (s₁.setTop (entryFrame m #[.ref x, .ref y] 3)) (T16.setTop (mkF m 44 #[.val (.ref x), .val (.ref y), .val (.ref y)] [.ref t', .ref t])) := c15.trans (st16 _ (Steps.refl _))
      obtain ⟨v18, T18, X18, E18, g18⟩ := X16.callS hexec (LEq.law l t V t' V') hown (wks W (staticW "java/lang/String" 541 LEq.yN)) (wk W LEq.tab) (W := 0) (Nat.le_of_ble_eq_true rfl) (Nat.le_of_ble_eq_true rfl) (Nat.le_refl _) (Nat.le_refl _) (g := (mkF m 44 #[.val (.ref x), .val (.ref y), .val (.ref y)] [.ref t', .ref t])) rfl (by rw [hml]; rfl) c17 (argsL := [.ref t, .ref t']) (rest := []) rfl rfl (by show 2 * 0 + 0 ≤ _; decide) (hb hbytes d44) (⟨rfl, hx.2.2.2.1.mv X16.warmed.alike hh16, hx.2.2.2.2.1.ty, hy.2.2.2.1.mv X16.warmed.alike hh16, hy.2.2.2.2.1.ty⟩)
      obtain ⟨v, rfl, q18, hv⟩ := E18
      have iff := Cod.eqv hx.2.2.2.2.1 hy.2.2.2.2.1 hx.2.2.2.2.2 hy.2.2.2.2.2
      rcases hv with ⟨rfl, he⟩ | ⟨rfl, he⟩
      · have c19 : Steps p.tables e below (s₁.setTop (entryFrame m #[.ref x, .ref y] 3)) (T18.setTop (mkF m 55 #[.val (.ref x), .val (.ref y), .val (.ref y)] [.int 1])) := Steps.trans g18 (by
          refine XS.ifNo X18.here hexec rfl (hb hbytes d47) rfl (i0_eq_f (by decide)) ?_
          refine iconstV X18.here hexec rfl 1 (hb hbytes d50) (by decide) ?_
          refine XS.goto X18.here hexec rfl (pc0 := 51) rfl (hb hbytes d51) (by decide) rfl ?_
          exact Steps.refl _)
        exact ⟨T18, some (.int 1), _, _, _, X18, rfl, rfl, rfl, (fun h => by cases h), ⟨1, rfl, q18.trans hh16, Or.inl ⟨rfl, iff.mp he⟩⟩, fun fs hl => c19.trans (X18.ireturnOut hexec hret rfl (Or.inr (Or.inl rfl)) (hb hbytes d55) hl)⟩
      · have c19 : Steps p.tables e below (s₁.setTop (entryFrame m #[.ref x, .ref y] 3)) (T18.setTop (mkF m 55 #[.val (.ref x), .val (.ref y), .val (.ref y)] [.int 0])) := Steps.trans g18 (by
          refine XS.ifYes X18.here hexec rfl (pc0 := 47) rfl (hb hbytes d47) rfl (i0_eq_t rfl) (by decide) rfl ?_
          refine iconstV X18.here hexec rfl 0 (hb hbytes d54) (by decide) ?_
          exact Steps.refl _)
        exact ⟨T18, some (.int 0), _, _, _, X18, rfl, rfl, rfl, (fun h => by cases h), ⟨0, rfl, q18.trans hh16, Or.inr ⟨rfl, fun q => he (iff.mpr q)⟩⟩, fun fs hl => c19.trans (X18.ireturnOut hexec hret rfl (Or.inr (Or.inl rfl)) (hb hbytes d55) hl)⟩
    · have c13 : Steps p.tables e below (s₁.setTop (entryFrame m #[.ref x, .ref y] 3)) (T11.setTop (mkF m 55 #[.val (.ref x), .val (.ref y), .val (.ref y)] [.int 0])) := c12.trans (by
        refine XS.icmpYes X11.here hexec rfl (pc0 := 33) rfl (hb hbytes d33) rfl (ii_ne_t hcd) (by decide) rfl ?_
        refine iconstV X11.here hexec rfl 0 (hb hbytes d54) (by decide) ?_
        exact Steps.refl _)
      exact ⟨T11, some (.int 0), _, _, _, X11, rfl, rfl, rfl, (fun h => by cases h), ⟨0, rfl, hh11, Or.inr ⟨rfl, Cod.dif hx.2.2.2.2.1 hy.2.2.2.2.1 hcd⟩⟩, fun fs hl => c13.trans (X11.ireturnOut hexec hret rfl (Or.inr (Or.inl rfl)) (hb hbytes d55) hl)⟩
theorem pays {l : Launch} {R : Room} {p : Program} {e : Env} {below : List Frame} {s : State} {sargs : Array Value} {len W : Nat} (x t : Addr) (V : Cell) (cd : Int32) (n : Nat) (f : Nat → Int32) (y t' : Addr) (V' : Cell) (cd' : Int32) (k : Nat) (g : Nat → Int32) (z : Int32) (htab : tab.before sargs s = true) (hfr : 2 ≤ R.frames) (hlo : W + 28 ≤ R.locals) :
    Back l R p e below s sargs yN len W (fun A₁ a₁ => A₁.cells + 0 ≤ R.cells ∧ A₁.slots + 0 ≤ R.slots ∧ P x t V cd n f y t' V' cd' k g z a₁ A₁.U) (fun A₁ _ v₁ B₁ => Says01 (SameT n f k g) v₁ A₁.U B₁.U ∧ B₁.locs = A₁.locs ++ [] ∧ B₁.cells = A₁.cells + 0 ∧ B₁.slots = A₁.slots + 0) :=
  (law l x t V cd n f y t' V' cd' k g z).pays htab hfr (by omega)
end SEq
end StrChars
namespace StrChars.Road
open Jvm Sem ClassFile Op Lib Jvm.Stand Jvm.Free Jvm.Free.XT
open Jvm.Lib.Cold (StaticIs)
/-- the words of String.equals(Object) -/
abbrev wordsEq : List Jvm.Cond := [.code SEq.yN SEq.yB 3 (some .boolean), .initialized ST, .classLink ST 10 ST, .fieldLink ST 38 ST "COMPACT_STRINGS" "Z", .fieldLink ST 15 ST "coder" "B", .fieldLink ST 9 ST "value" "[B", .methodLink ST 541 LEq.yN, .static LEq.yN, .code LEq.yN LEq.yB 3 (some .boolean), .initialized "java/lang/StringLatin1"]
theorem tabEq_of {a : Array Value} {s : State} (h : ∀ w ∈ wordsEq, w.before a s = true) : SEq.tab.before a s = true := by
  have hl : LEq.tab.before a s = true := unparts (wk h (.code LEq.yN LEq.yB 3 (some .boolean))) (wks h (.initialized LEq.yN.cls :: LEq.site))
  have q := consq hl h
  exact unparts (wk q (.code SEq.yN SEq.yB 3 (some .boolean))) (wks q (.initialized SEq.yN.cls :: SEq.site))
theorem movedEq {Z s : State} {a0 args : Array Value} (hZ : Z.Warmed39 s.vm) (hw : ∀ d ∈ wordsEq, d.before a0 Z = true) : ∀ d ∈ wordsEq, d.before args s = true := fun d hd => by
  have t : ∀ d ∈ wordsEq, (d.onTables && d.keepsFace) = true := by decide +kernel
  exact RoadKit.mv hZ (hw d hd) (t d hd)
/-- the road's facts of a String, as the laws ask it -/
theorem txt_of {Z U : State} {a0 : Array Value} {kI : Nat} (wi : (Jvm.Cond.instantiable ST kI).before a0 Z = true) (al : Z.vm.Alike U.vm) {x t : Addr} {kb : ClassId} {cs : List Int32} {cd N2 : Int32} {vs : List Value} (E : RoadKit.Exa Z U.heap x ST) (V : RoadKit.Fld Z U.heap x ST "value" "[B" (.ref t)) (C : RoadKit.Fld Z U.heap x ST "coder" "B" (.int cd)) (K : RoadKit.Arv Z U.heap t kb .byte N2 vs (.int 0)) (hc : CodA cs cd N2 vs) (hb : ∀ c ∈ cs, ¬ c < 0 ∧ ¬ (65535 : Int32) < c) (l2 : cs.length ≤ 4000) :
    ∃ A, Txt x t A cd cs.length (fun j => cs.getD j 0) U := by
  obtain ⟨A, K1, K2, K3, K4, K5, K6⟩ := K
  have hcod := hc.cod (by omega) K3 K5
  obtain ⟨D, fV, fC, hB, F1, F2, g1, g2, -, -⟩ := strObj wi al E V C
  exact ⟨A, ⟨_, hB.2.2.1, D, hB.1, rfl, by cases q : D.vm <;> first | rfl | exact absurd q (hB.2.1.2 _)⟩, Has.of hB F1 g1, Has.of hB F2 g2, ⟨K1.1, State.isArrayOf_alike al K1.2.1, K1.2.2, by rcases hcod with ⟨-, q, -⟩ | ⟨-, q, -⟩ <;> omega⟩, hcod, fun j hj => by
    have e : cs.getD j 0 = cs[j] := by simp [List.getD_eq_getElem?_getD, hj]
    show ¬ cs.getD j 0 < 0 ∧ ¬ 65535 < cs.getD j 0
    rw [e]; exact hb _ (List.getElem_mem _)⟩
theorem same_list (cs ds : List Int32) : SameT cs.length (fun j => cs.getD j 0) ds.length (fun j => ds.getD j 0) ↔ cs = ds := by
  constructor
  · rintro ⟨e, q⟩
    refine List.ext_getElem e fun j h1 h2 => ?_
    have := q j h1
    simpa [List.getD_eq_getElem?_getD, h1, h2] using this
  · rintro rfl
    exact ⟨rfl, fun _ _ => rfl⟩
/-- **equals(Object) OF TWO SUCH STRINGS**: 1 just where the chars are the same -/
theorem eqW {p : Program} {l : Launch} {e : Env} {R : Room} {s : State} {args : Array Value} {below : List Frame} {len W : Nat} {Z : State} {a0 : Array Value} {h : Heap} (hZ : Z.Warmed39 s.vm) (hw : ∀ d ∈ wordsEq, d.before a0 Z = true) {kI : Nat} (wi : (Jvm.Cond.instantiable ST kI).before a0 Z = true)
    {x t : Addr} {kb : ClassId} {cs : List Int32} {cd N2 : Int32} {vs : List Value} (E : RoadKit.Exa Z h x ST) (V : RoadKit.Fld Z h x ST "value" "[B" (.ref t)) (C : RoadKit.Fld Z h x ST "coder" "B" (.int cd)) (K : RoadKit.Arv Z h t kb .byte N2 vs (.int 0)) (hc : CodA cs cd N2 vs) (hb : ∀ c ∈ cs, ¬ c < 0 ∧ ¬ (65535 : Int32) < c) (l2 : cs.length ≤ 4000)
    {y t' : Addr} {kb' : ClassId} {ds : List Int32} {cd' N2' : Int32} {vs' : List Value} (E' : RoadKit.Exa Z h y ST) (V' : RoadKit.Fld Z h y ST "value" "[B" (.ref t')) (C' : RoadKit.Fld Z h y ST "coder" "B" (.int cd')) (K' : RoadKit.Arv Z h t' kb' .byte N2' vs' (.int 0)) (hc' : CodA ds cd' N2' vs') (hb' : ∀ c ∈ ds, ¬ c < 0 ∧ ¬ (65535 : Int32) < c) (l2' : ds.length ≤ 4000)
    {z : Int32} (S : RoadKit.Sta Z h ST "COMPACT_STRINGS" "Z" (.int z)) (hz : ¬ z = 0) (hfr : 2 ≤ R.frames) (hlo : W + 28 ≤ R.locals) :
    Back l R p e below s args (⟨"java/lang/String", "equals", "(Ljava/lang/Object;)Z"⟩ : MethodName) len W (fun P a => a = #[.ref x, .ref y] ∧ P.U.heap = h ∧ P.cells + 0 ≤ R.cells ∧ P.slots + 0 ≤ R.slots)
      (fun P _ v B => ∃ L, (((v = some (.int 1) ∧ cs = ds) ∨ (v = some (.int 0) ∧ ¬ cs = ds)) ∧ L = [] ∧ B.U.heap = h) ∧ B.locs = P.locs ++ L ∧ B.cells = P.cells + 0 ∧ B.slots = P.slots + 0) := by
  intro m meth c P g ig mk a X hg hsize hdg hW hn hp'
  obtain ⟨rfl, rfl, r1, r2⟩ := hp'
  have al : Z.vm.Alike P.U.vm := hZ.alike.trans X.warmed.alike
  obtain ⟨A, hx⟩ := txt_of wi al E V C K hc hb l2
  obtain ⟨A', hy⟩ := txt_of wi al E' V' C' K' hc' hb' l2'
  obtain ⟨v, B, X', ⟨⟨w, hv, hh, hq⟩, hl, hk, hs⟩, st⟩ := SEq.pays x t A cd cs.length (fun j => cs.getD j 0) y t' A' cd' ds.length (fun j => ds.getD j 0) z (tabEq_of (movedEq hZ hw)) hfr hlo m meth c P g ig mk _ X hg hsize hdg hW hn ⟨r1, r2, rfl, hx, hy, sta_is al S, hz⟩
  refine ⟨v, B, X', ⟨[], ⟨?_, rfl, hh⟩, hl, hk, hs⟩, st⟩
  rcases hq with ⟨rfl, q⟩ | ⟨rfl, q⟩
  · exact Or.inl ⟨hv, (same_list cs ds).mp q⟩
  · exact Or.inr ⟨hv, fun e => q ((same_list cs ds).mpr e)⟩
end StrChars.Road
namespace StrChars.Road
open Jvm Sem ClassFile Op Lib Jvm.Stand Jvm.Free Jvm.Free.XT
open Jvm.Lib.Cold (StaticIs)
/-- what backV says of its String, as the contracts of this text ask it: cs's low bytes, coder 0 -/
theorem codOf {cs : List Int32} {n : Nat} (hn : cs.length = n) (hb : ∀ c ∈ cs, ¬ 255 < c) : CodA cs 0 (Int32.ofNat n) ((cs.map lo8).map Value.int) := Or.inl ⟨rfl, by rw [hn], by simp [List.map_map, Function.comp_def], hb⟩
end StrChars.Road
end Jvm.Pilot.@@N@@
namespace Jvm.Pilot.@@N@@
open Jvm Jvm.ClassFile Sem Op Lib Jvm.Free Jvm.Stand Jvm.LawKit Jvm.RoadKit Bundle Jvm.Pilot.@@N@@.Jvm.D Jvm.OwnKit
section OwnStr
variable {p : Program} {l : Launch} {e : Env} {R : Room} {s : State} {args : Array Value} {below : List Frame} {Z : State} {a0 : Array Value} {EL : List (String × Nat)} {vm : Vm} {h : Heap} {len W : Nat}
theorem own_up {cs : List Int32} (h : ∀ c ∈ cs, B8 c) : ∀ c ∈ cs, ¬ c < 0 ∧ ¬ (65535 : Int32) < c := fun c hc => ⟨(h c hc).1, fun q => (h c hc).2 (by rw [Int32.lt_iff_toInt_lt] at q ⊢; have e1 : (65535 : Int32).toInt = 65535 := rfl; have e2 : (255 : Int32).toInt = 255 := rfl; omega)⟩
theorem own_payNew {zc : Int32} (hws : ∀ d ∈ StrChars.Road.words, d.before a0 Z = true) (wi : (Jvm.Cond.instantiable "java/lang/String" 4).before a0 Z = true) (Scs : Sta Z Z.heap "java/lang/String" "COMPACT_STRINGS" "Z" (.int zc)) (hzc : ¬ zc = 0) (O : Ext Z.heap h)
    {x b : Addr} {kC : ClassId} {cs : List Int32} {d v0 c0 : Value} {N : Int32} {n : Nat} (gx0 : Z.heap.size ≤ x) (E : Exa Z h x "java/lang/String") (V : Fld Z h x "java/lang/String" "value" "[B" v0) (C : Fld Z h x "java/lang/String" "coder" "B" c0) (K : Arv Z h b kC .char N (cs.map Value.int) d)
    (hn : cs.length = n) (hN : N = Int32.ofNat n) (l0 : 0 < n) (l2 : n ≤ 4000) (hp : ∀ c ∈ cs, B8 c) (Sf : Safe Z EL vm h x) (hfr : 4 ≤ R.frames) (hlo : W + 65 ≤ R.locals) (hZ : Z.Warmed39 vm) (H : CHv Z EL vm h) (hEL : EW Z a0 EL) :
    Pay l R p e below s args Z EL vm h (⟨"java/lang/String", "<init>", "([C)V"⟩ : MethodName) len W #[.ref x, .ref b] 1 n (fun v _ h' => ∃ (t : Addr), v = none ∧ Keep h h' [x] ∧ h.size ≤ t ∧ Str Z h' x t cs) := by
  have hx : x < h.size := E.lt
  refine Pay.of_back (a0 := a0) (Q0 := StrChars.Road.QV Z x N (cs.map fun c => c.toInt8.toInt32) h Z.heap.size) (StrChars.Road.backV (s := s.setVm vm) hZ hws (kI := 4) wi (cs := cs) (bs := cs.map fun c => c.toInt8.toInt32) (n := n) gx0 O.1 E V C K (Scs.ext O) hzc hn hN l0 l2 hp rfl hfr hlo) hZ H hEL ?_
  rintro v h' L ⟨rfl, q1, q2, q3, q4, t, kb, q5, q6, q7, q8, q9⟩
  exact ⟨q1, ⟨[x], q2, allS Sf all0⟩, fun vm' _ => ⟨t, rfl, q2, q6, q3, q4, q8, ⟨kb, by rw [hn, ← hN]; exact q9⟩, hp, by rw [hn]; exact l2⟩⟩
theorem own_payEq {zc : Int32} (hws : ∀ d ∈ StrChars.Road.wordsEq, d.before a0 Z = true) (wi : (Jvm.Cond.instantiable "java/lang/String" 4).before a0 Z = true) (Scs : Sta Z Z.heap "java/lang/String" "COMPACT_STRINGS" "Z" (.int zc)) (hzc : ¬ zc = 0) (O : Ext Z.heap h)
    {x t y u : Addr} {cs ds : List Int32} (F : Str Z h x t cs) (G : Str Z h y u ds) (hfr : 2 ≤ R.frames) (hlo : W + 28 ≤ R.locals) (hZ : Z.Warmed39 vm) (H : CHv Z EL vm h) (hEL : EW Z a0 EL) :
    Pay l R p e below s args Z EL vm h (⟨"java/lang/String", "equals", "(Ljava/lang/Object;)Z"⟩ : MethodName) len W #[.ref x, .ref y] 0 0 (fun v _ h' => ∃ (z : Int32), v = some (.int z) ∧ h = h' ∧ ((z = 1 ∧ cs = ds) ∨ (z = 0 ∧ ¬ cs = ds))) := by
  obtain ⟨f1, f2, f3, ⟨kb, f4⟩, f5, f6⟩ := F
  obtain ⟨g1, g2, g3, ⟨kb', g4⟩, g5, g6⟩ := G
  refine Pay.of_back (a0 := a0) (Q0 := fun v h' L => ((v = some (.int 1) ∧ cs = ds) ∨ (v = some (.int 0) ∧ ¬ cs = ds)) ∧ L = [] ∧ h' = h) (StrChars.Road.eqW (s := s.setVm vm) hZ hws (kI := 4) wi (cs := cs) (ds := ds) f1 f3 f2 f4 (StrChars.Road.codOf (n := cs.length) rfl (fun c hc => (f5 c hc).2)) (own_up f5) f6 g1 g3 g2 g4 (StrChars.Road.codOf (n := ds.length) rfl (fun c hc => (g5 c hc).2)) (own_up g5) g6 (Scs.ext O) hzc hfr hlo) hZ H hEL ?_
  rintro v h' L ⟨q, rfl, rfl⟩
  refine ⟨Fr.nil _, ⟨[], Keep.refl _ _, all0⟩, fun _ _ => ?_⟩
  rcases q with ⟨rfl, q⟩ | ⟨rfl, q⟩
  · exact ⟨1, rfl, rfl, Or.inl ⟨rfl, q⟩⟩
  · exact ⟨0, rfl, rfl, Or.inr ⟨rfl, q⟩⟩
theorem own_payEqT {zc : Int32} (hws : ∀ d ∈ StrChars.Road.wordsEq, d.before a0 Z = true) (wi : (Jvm.Cond.instantiable "java/lang/String" 4).before a0 Z = true) (Scs : Sta Z Z.heap "java/lang/String" "COMPACT_STRINGS" "Z" (.int zc)) (hzc : ¬ zc = 0) (O : Ext Z.heap h)
    {x t y u : Addr} {cs ds : List Int32} (F : Str Z h x t cs) (G : Str Z h y u ds) (q : cs = ds) (hfr : 2 ≤ R.frames) (hlo : W + 28 ≤ R.locals) (hZ : Z.Warmed39 vm) (H : CHv Z EL vm h) (hEL : EW Z a0 EL) :
    Pay l R p e below s args Z EL vm h (⟨"java/lang/String", "equals", "(Ljava/lang/Object;)Z"⟩ : MethodName) len W #[.ref x, .ref y] 0 0 (fun v _ h' => v = some (.int (1 : Int32)) ∧ h = h') :=
  (own_payEq hws wi Scs hzc O F G hfr hlo hZ H hEL).mono fun v vm' h' r => by
    obtain ⟨z, rfl, rfl, ⟨rfl, -⟩ | ⟨-, w⟩⟩ := r
    · exact ⟨rfl, rfl⟩
    · exact absurd q w
theorem own_payEqF {zc : Int32} (hws : ∀ d ∈ StrChars.Road.wordsEq, d.before a0 Z = true) (wi : (Jvm.Cond.instantiable "java/lang/String" 4).before a0 Z = true) (Scs : Sta Z Z.heap "java/lang/String" "COMPACT_STRINGS" "Z" (.int zc)) (hzc : ¬ zc = 0) (O : Ext Z.heap h)
    {x t y u : Addr} {cs ds : List Int32} (F : Str Z h x t cs) (G : Str Z h y u ds) (q : ¬ cs = ds) (hfr : 2 ≤ R.frames) (hlo : W + 28 ≤ R.locals) (hZ : Z.Warmed39 vm) (H : CHv Z EL vm h) (hEL : EW Z a0 EL) :
    Pay l R p e below s args Z EL vm h (⟨"java/lang/String", "equals", "(Ljava/lang/Object;)Z"⟩ : MethodName) len W #[.ref x, .ref y] 0 0 (fun v _ h' => v = some (.int (0 : Int32)) ∧ h = h') :=
  (own_payEq hws wi Scs hzc O F G hfr hlo hZ H hEL).mono fun v vm' h' r => by
    obtain ⟨z, rfl, rfl, ⟨-, w⟩ | ⟨rfl, -⟩⟩ := r
    · exact absurd w q
    · exact ⟨rfl, rfl⟩
end OwnStr
end Jvm.Pilot.@@N@@
namespace Jvm.Pilot.@@N@@
open Jvm Jvm.ClassFile Sem Op Lib Jvm.Free Jvm.Stand Jvm.LawKit Jvm.RoadKit Bundle Jvm.Pilot.@@N@@.Jvm.D Jvm.OwnKit
def Ctx (Z : State) (a0 : Array Value) : Prop := (∀ d ∈ tables_1, d.before a0 Z = true) ∧ EW Z a0 consts_1 ∧ (∃ zc : Int32, Sta Z Z.heap "java/lang/String" "COMPACT_STRINGS" "Z" (.int zc) ∧ ¬ zc = 0) ∧ (∃ fm : Value, Sta Z Z.heap "jdk/internal/util/Preconditions" "SIOOBE_FORMATTER" "Ljava/util/function/BiFunction;" fm ∧ fm.isRef = true) ∧ (∃ (ca : Addr) (cl : Cell), Sta Z Z.heap "java/lang/Integer$IntegerCache" "high" "I" (.int 127) ∧ Sta Z Z.heap "java/lang/Integer$IntegerCache" "cache" "[Ljava/lang/Integer;" (.ref ca) ∧ Arr Z Z.heap ca cl (.object "java/lang/Integer") ∧ cl.slots.size = 256 ∧ ∀ i, i < 256 → ∃ el : Addr, cl.slots[i]? = some (.ref el) ∧ Exa Z Z.heap el "java/lang/Integer")
theorem own_SA {Z : State} {a0 : Array Value} (hw : ∀ d ∈ tables_1, d.before a0 Z = true) : ∀ a ∈ Bundle.stringAtoms, a.before a0 Z = true := fun d hd => hw d ((by decide +kernel : ∀ d ∈ Bundle.stringAtoms, d ∈ tables_1) d hd)
theorem own_wNew {Z : State} {a0 : Array Value} (hw : ∀ d ∈ tables_1, d.before a0 Z = true) : ∀ d ∈ StrChars.Road.words, d.before a0 Z = true := fun d hd => hw d ((by decide +kernel : ∀ d ∈ StrChars.Road.words, d ∈ tables_1) d hd)
theorem own_wEq {Z : State} {a0 : Array Value} (hw : ∀ d ∈ tables_1, d.before a0 Z = true) : ∀ d ∈ StrChars.Road.wordsEq, d.before a0 Z = true := fun d hd => hw d ((by decide +kernel : ∀ d ∈ StrChars.Road.wordsEq, d ∈ tables_1) d hd)
theorem own_all {args : Array Value} {first s : State} {o : Option Outcome} {idx : List Nat} {t : Term} {c : Jvm.Cond} {a : Addr} {cell : Cell} (ht : t.eval args first o idx s = some (.ref a)) (hc : s.arrayAt? a = some cell) (h : (Jvm.Cond.all t c).value args first o s idx = some true) (i : Nat) (hi : i < cell.slots.size) : c.value args first o s (i :: idx) = some true := by
  simp only [Cond.value, ht, hc] at h
  have key : ∀ (l : List Nat) (b : Option Bool), l.foldl (fun acc i => match acc with | some true => c.value args first o s (i :: idx) | x => x) b = some true → b = some true ∧ (i ∈ l → c.value args first o s (i :: idx) = some true) := by
    intro l
    induction l with
    | nil => exact fun b hb => ⟨hb, fun q => nomatch q⟩
    | cons y r ih =>
      intro b hb
      obtain ⟨q1, q2⟩ := ih _ hb
      have hb' : b = some true := by
        cases b with
        | none => cases q1
        | some b => cases b with
          | false => cases q1
          | true => rfl
      subst hb'
      refine ⟨rfl, fun hm => ?_⟩
      cases hm with
      | head => exact q1
      | tail _ hm => exact q2 hm
  exact (key _ _ h).2 (List.mem_range.mpr hi)
theorem own_cache {s : State} {args : Array Value} (hw : ∀ d ∈ tables_1, d.before args s = true) (hsets : ∀ w ∈ jdkStatics_1, w.before args s = true) : ∃ (ca : Addr) (cl : Cell), Sta s s.heap "java/lang/Integer$IntegerCache" "high" "I" (.int 127) ∧ Sta s s.heap "java/lang/Integer$IntegerCache" "cache" "[Ljava/lang/Integer;" (.ref ca) ∧ Arr s s.heap ca cl (.object "java/lang/Integer") ∧ cl.slots.size = 256 ∧ ∀ i, i < 256 → ∃ el : Addr, cl.slots[i]? = some (.ref el) ∧ Exa s s.heap el "java/lang/Integer" := by
  have w12 := Cond.before_iff.mp (hsets _ (List.mem_of_getElem? (i := 12) rfl))
  have w13 := Cond.before_iff.mp (hsets _ (List.mem_of_getElem? (i := 13) rfl))
  have w15 := Cond.before_iff.mp (hsets _ (List.mem_of_getElem? (i := 15) rfl))
  have w16 := Cond.before_iff.mp (hsets _ (List.mem_of_getElem? (i := 16) rfl))
  obtain ⟨x, y, e1, e2, k1, k2⟩ := cmp_v (Or.inl w12)
  cases (Option.some.inj e2 : Value.int 127 = y)
  obtain ⟨z, rfl⟩ := k2
  have e3 := eqI e1 w12
  subst e3
  obtain ⟨ca, eca⟩ := arr_v w13
  obtain ⟨cl, Ar⟩ := Arr.start eca w13
  have hA : s.arrayAt? ca = some cl := Ar.fin (Vm.Alike.refl _)
  obtain ⟨f1, f2⟩ := lenI w15 eca hA
  have hsz : cl.slots.size = 256 := by
    have f5 := len_toInt f1
    rw [f2] at f5
    have : (256 : Int32).toInt = 256 := rfl
    omega
  refine ⟨ca, cl, Sta.start e1 (Or.inl (hsets _ (List.mem_of_getElem? (i := 10) rfl))), Sta.start eca (Or.inr ⟨ow hw 101 rfl, hsets _ (List.mem_of_getElem? (i := 11) rfl)⟩), Ar, hsz, fun i hi => ?_⟩
  have hv := own_all eca hA w16 i (by omega)
  obtain ⟨hv1, -⟩ := and_e hv
  obtain ⟨el, hel⟩ := exa_v hv1
  have Eel := exa_at hel hv1
  have hn : ¬ (Int32.ofNat i) < 0 := by rw [Int32.lt_iff_toInt_lt, Int32.toInt_ofNat_of_lt (by omega)]; simp
  have hc : (Int32.ofNat i).toNatClampNeg = i := by rw [Int32.toNatClampNeg, Int32.toInt_ofNat_of_lt (by omega)]; rfl
  have hj := idx_at (first := s) (o := none) (s := s) (args := args) hn
  rw [hc] at hj
  have q := elem_in hel (by simpa only [Term.eval] using eca) hj Ar.1
  rw [hc] at q
  exact ⟨el, q.2, Eel⟩
theorem own_d_jdk_42_method_149_0 : decode jdk_42_method_149_code 0 = .ok (.aload_n 0, 1) := by decide +kernel
theorem own_d_jdk_42_method_149_1 : decode jdk_42_method_149_code 1 = .ok (.invokespecial 1, 3) := by decide +kernel
theorem own_d_jdk_42_method_149_4 : decode jdk_42_method_149_code 4 = .ok (.iload_n 3, 1) := by decide +kernel
theorem own_d_jdk_42_method_149_5 : decode jdk_42_method_149_code 5 = .ok (.ifCond .ne 22, 3) := by decide +kernel
theorem own_d_jdk_42_method_149_8 : decode jdk_42_method_149_code 8 = .ok (.aload_n 0, 1) := by decide +kernel
theorem own_d_jdk_42_method_149_9 : decode jdk_42_method_149_code 9 = .ok (.ldc 7, 2) := by decide +kernel
theorem own_d_jdk_42_method_149_11 : decode jdk_42_method_149_code 11 = .ok (.getfield 9, 3) := by decide +kernel
theorem own_d_jdk_42_method_149_14 : decode jdk_42_method_149_code 14 = .ok (.putfield 9, 3) := by decide +kernel
theorem own_d_jdk_42_method_149_17 : decode jdk_42_method_149_code 17 = .ok (.aload_n 0, 1) := by decide +kernel
theorem own_d_jdk_42_method_149_18 : decode jdk_42_method_149_code 18 = .ok (.ldc 7, 2) := by decide +kernel
theorem own_d_jdk_42_method_149_20 : decode jdk_42_method_149_code 20 = .ok (.getfield 15, 3) := by decide +kernel
theorem own_d_jdk_42_method_149_23 : decode jdk_42_method_149_code 23 = .ok (.putfield 15, 3) := by decide +kernel
theorem own_d_jdk_42_method_149_26 : decode jdk_42_method_149_code 26 = .ok (.return_, 1) := by decide +kernel
theorem own_pn13 : plainName "java/lang/String" = true := by first | (simp [plainName, overriddenIn]; done) | decide +kernel
set_option maxRecDepth 65536 in
set_option maxHeartbeats 40000000 in
theorem own_emp4 (l : Launch) (Z : State) (a0 : Array Value) (cx : Ctx Z a0) (ws : List Jvm.Cond) (x : Addr) (b : Addr) (v0 : Value) (c0 : Value) (vm0 : Vm) (h0 : Heap) (X00 : Ext Z.heap h0) (P0 : Exa Z h0 x "java/lang/String") (P1 : Fld Z h0 x "java/lang/String" "value" "[B" v0) (P2 : Fld Z h0 x "java/lang/String" "coder" "B" c0) (P3 : Z.heap.size ≤ x) (P4 : Safe Z consts_1 vm0 h0 x) :
    Met l (⟨"java/lang/String", "<init>", "([CIILjava/lang/Void;)V"⟩ : MethodName) jdk_42_method_149_code 6 none ws ({ frames := 1, cells := 4, slots := 8, locals := 12 } : Room) Z consts_1 vm0 h0 #[(.ref x), (.ref b), (.int (0 : Int32)), (.int (0 : Int32)), .null] (fun v vm h => ∃ (t : Addr), v = none ∧ Keep h0 h [x] ∧ Str Z h x t ([] : List Int32) ∧ Safe Z consts_1 vm h x) := by
  obtain ⟨hw, hEL, ⟨zc, Scs, hzc⟩, ⟨fm, Sfm, hfm⟩, ⟨cach, ccl, Shi, Sca, Aca, zca, hca⟩⟩ := id cx
  have hSA := own_SA hw
  refine Met.of_walk (a0 := a0) #[.val (.ref x), .val (.ref b), .val (.int (0 : Int32)), .val (.int (0 : Int32)), .val .null, .unset] (plainFor_of_name own_pn13) X00 hEL (fun m => by first | (simp [entryFrame, mkF, argsToLocals, Value.category]; done) | rfl) ?_
  intro p e s m below meth c vm hx hby hml hret hnm hC0
  have lt_x : h0.size > x := P0.lt
  have L4 := hC0.safe lt_x P4
  refine gs (mkF m 1 #[.val (.ref x), .val (.ref b), .val (.int (0 : Int32)), .val (.int (0 : Int32)), .val .null, .unset] [(.ref x)]) (fun _ _ A k => XS.aloadN A hx rfl (hb hby own_d_jdk_42_method_149_0) rfl rfl k) ?_
  refine ginitO hx (ow hw 18 rfl) (ow hw 19 rfl) (ow hw 20 rfl) 4 (W := 0) (Nat.le_of_eq rfl) (by rw [hml]; rfl) (hb hby own_d_jdk_42_method_149_1) rfl (by decide) (by decide) ?_
  refine gs (mkF m 5 #[.val (.ref x), .val (.ref b), .val (.int (0 : Int32)), .val (.int (0 : Int32)), .val .null, .unset] [(.int (0 : Int32))]) (fun _ _ A k => XS.iloadN A hx rfl (hb hby own_d_jdk_42_method_149_4) rfl  k) ?_
  refine gs (mkF m 8 #[.val (.ref x), .val (.ref b), .val (.int (0 : Int32)), .val (.int (0 : Int32)), .val .null, .unset] []) (fun _ _ A k => XS.ifNo A hx rfl (hb hby own_d_jdk_42_method_149_5) rfl ((if0 _ _).trans (teq (by decide)).2) k) ?_
  refine gs (mkF m 9 #[.val (.ref x), .val (.ref b), .val (.int (0 : Int32)), .val (.int (0 : Int32)), .val .null, .unset] [(.ref x)]) (fun _ _ A k => XS.aloadN A hx rfl (hb hby own_d_jdk_42_method_149_8) rfl rfl k) ?_
  refine gldcR hx (ow hw 21 rfl) hSA (by decide) (n := 0) (by decide) (by decide) (vs := []) (z := (0 : Int32)) (by decide +kernel) (by decide) (by decide) 11 (hb hby own_d_jdk_42_method_149_9) rfl (by decide) (by decide) ?_
  intro b2 t2 k2 vm2 h2 E2 C2 Q2a Q2b Q2c Q2d Q2e
  have z2 := C2.2.1
  have S2 : Str Z h2 b2 t2 ([] : List Int32) := Str.lit Q2a Q2b Q2c Q2d (by decide) rfl rfl (by decide)
  have lt_b2 : h2.size > b2 := S2.1.lt
  have lt_t2 : h2.size > t2 := S2.tlt
  have f3 := (C2.safe (show h0.size > x by omega) L4)
  have ne2_x := Q2e x f3
  refine ggetF (host := "") hx (Or.inl (ow hw 27 rfl)) Via.refl S2.2.2.1 14 (hb hby own_d_jdk_42_method_149_11) rfl ?_
  have f4 := (P1.ext E2)
  have f5 := (P0.ext E2)
  refine gputF (host := "") hx (Or.inl (ow hw 27 rfl)) Via.refl f4 f5 (Or.inr ⟨(ow hw 23 rfl), rfl, hnm⟩) (ow hw 8 rfl) (ty := (.array .byte)) (by decide) rfl rfl P3 (fun _ => f3) 17 (hb hby own_d_jdk_42_method_149_14) rfl ?_
  intro h6 W6 C6
  have z6 := C6.2.1
  have F6 := f4.same W6
  refine gs (mkF m 18 #[.val (.ref x), .val (.ref b), .val (.int (0 : Int32)), .val (.int (0 : Int32)), .val .null, .unset] [(.ref x)]) (fun _ _ A k => XS.aloadN A hx rfl (hb hby own_d_jdk_42_method_149_17) rfl rfl k) ?_
  refine gldcR hx (ow hw 21 rfl) hSA (by decide) (n := 0) (by decide) (by decide) (vs := []) (z := (0 : Int32)) (by decide +kernel) (by decide) (by decide) 20 (hb hby own_d_jdk_42_method_149_18) rfl (by decide) (by decide) ?_
  intro b7 t7 k7 vm7 h7 E7 C7 Q7a Q7b Q7c Q7d Q7e
  have z7 := C7.2.1
  have S7 : Str Z h7 b7 t7 ([] : List Int32) := Str.lit Q7a Q7b Q7c Q7d (by decide) rfl rfl (by decide)
  have lt_b7 : h7.size > b7 := S7.1.lt
  have lt_t7 : h7.size > t7 := S7.tlt
  have f8 := (C7.safe (show h6.size > x by omega) (C6.safe (show h2.size > x by omega) f3))
  have ne7_x := Q7e x f8
  refine ggetF (host := "") hx (Or.inl (ow hw 28 rfl)) Via.refl S7.2.1 23 (hb hby own_d_jdk_42_method_149_20) rfl ?_
  have f9 := (((P2.ext E2).other W6 (Or.inr (slot_ne (Or.inr (ow hw 24 rfl)) (Or.inr (ow hw 23 rfl)) (by decide) (t := .byte) (t' := (.array .byte)) (by decide) (by decide)))).ext E7)
  have f10 := ((f5.wr W6).ext E7)
  refine gputF (host := "") hx (Or.inl (ow hw 28 rfl)) Via.refl f9 f10 (Or.inr ⟨(ow hw 24 rfl), rfl, hnm⟩) (ow hw 8 rfl) (ty := .byte) (by decide) rfl rfl P3 (fun _ => f8) 26 (hb hby own_d_jdk_42_method_149_23) rfl ?_
  intro h11 W11 C11
  have z11 := C11.2.1
  have F11 := f9.same W11
  have f13 := (((S2.other W6 (Ne.symm ne2_x.1) (Ne.symm ne2_x.2)).ext E7).other W11 (Ne.symm ne2_x.1) (Ne.symm ne2_x.2))
  have f15 := (f10.wr W11)
  have f16 := ((F6.ext E7).other W11 (Or.inr (slot_ne (Or.inr (ow hw 23 rfl)) (Or.inr (ow hw 24 rfl)) (by decide) (t := (.array .byte)) (t' := .byte) (by decide) (by decide))))
  have S14 : Str Z h11 x t2 ([] : List Int32) := ⟨f15, F11, f16, f13.2.2.2⟩
  have f17 := (C11.safe (show h7.size > x by omega) f8)
  exact gretV hx hret (hb hby own_d_jdk_42_method_149_26) (by decide) (by decide) (fun vq Cq => ⟨t2, rfl, (((((Keep.refl h0 [x]).ext E2).wr W6 (Or.inl (List.mem_of_getElem? (i := 0) rfl))).ext E7).wr W11 (Or.inl (List.mem_of_getElem? (i := 0) rfl))), S14, (Cq.safe (show h11.size > x by omega) f17)⟩)
theorem own_d_jdk_42_method_3_0 : decode jdk_42_method_3_code 0 = .ok (.aload_n 0, 1) := by decide +kernel
theorem own_d_jdk_42_method_3_1 : decode jdk_42_method_3_code 1 = .ok (.aload_n 1, 1) := by decide +kernel
theorem own_d_jdk_42_method_3_2 : decode jdk_42_method_3_code 2 = .ok (.iconst 0, 1) := by decide +kernel
theorem own_d_jdk_42_method_3_3 : decode jdk_42_method_3_code 3 = .ok (.aload_n 1, 1) := by decide +kernel
theorem own_d_jdk_42_method_3_4 : decode jdk_42_method_3_code 4 = .ok (.arraylength, 1) := by decide +kernel
theorem own_d_jdk_42_method_3_5 : decode jdk_42_method_3_code 5 = .ok (.aconst_null, 1) := by decide +kernel
theorem own_d_jdk_42_method_3_6 : decode jdk_42_method_3_code 6 = .ok (.invokespecial 27, 3) := by decide +kernel
theorem own_pd21 : parseMethodDescriptor "([CIILjava/lang/Void;)V" = some ⟨[(.array .char), .int, .int, (.object "java/lang/Void")], none⟩ := by decide +kernel
theorem own_d_jdk_42_method_3_9 : decode jdk_42_method_3_code 9 = .ok (.return_, 1) := by decide +kernel
set_option maxRecDepth 65536 in
set_option maxHeartbeats 40000000 in
theorem own_emp1 (l : Launch) (Z : State) (a0 : Array Value) (cx : Ctx Z a0) (ws : List Jvm.Cond) (x : Addr) (b : Addr) (v0 : Value) (c0 : Value) (kc : ClassId) (vm0 : Vm) (h0 : Heap) (X00 : Ext Z.heap h0) (P0 : Exa Z h0 x "java/lang/String") (P1 : Fld Z h0 x "java/lang/String" "value" "[B" v0) (P2 : Fld Z h0 x "java/lang/String" "coder" "B" c0) (P3 : Z.heap.size ≤ x) (P4 : Safe Z consts_1 vm0 h0 x) (P5 : Arv Z h0 b kc .char (0 : Int32) [] (.int (0 : Int32))) :
    Met l (⟨"java/lang/String", "<init>", "([C)V"⟩ : MethodName) jdk_42_method_3_code 2 none ws ({ frames := 2, cells := 4, slots := 8, locals := 29 } : Room) Z consts_1 vm0 h0 #[(.ref x), (.ref b)] (fun v vm h => ∃ (t : Addr), v = none ∧ Keep h0 h [x] ∧ Str Z h x t ([] : List Int32) ∧ Safe Z consts_1 vm h x) := by
  obtain ⟨hw, hEL, ⟨zc, Scs, hzc⟩, ⟨fm, Sfm, hfm⟩, ⟨cach, ccl, Shi, Sca, Aca, zca, hca⟩⟩ := id cx
  have hSA := own_SA hw
  refine Met.of_walk (a0 := a0) #[.val (.ref x), .val (.ref b)] (plainFor_of_name own_pn13) X00 hEL (fun m => by first | (simp [entryFrame, mkF, argsToLocals, Value.category]; done) | rfl) ?_
  intro p e s m below meth c vm hx hby hml hret hnm hC0
  have lt_x : h0.size > x := P0.lt
  have L4 := hC0.safe lt_x P4
  have lt_b : h0.size > b := P5.lt
  refine gs (mkF m 1 #[.val (.ref x), .val (.ref b)] [(.ref x)]) (fun _ _ A k => XS.aloadN A hx rfl (hb hby own_d_jdk_42_method_3_0) rfl rfl k) ?_
  refine gs (mkF m 2 #[.val (.ref x), .val (.ref b)] [(.ref b), (.ref x)]) (fun _ _ A k => XS.aloadN A hx rfl (hb hby own_d_jdk_42_method_3_1) rfl rfl k) ?_
  refine gs (mkF m 3 #[.val (.ref x), .val (.ref b)] [(.int (0 : Int32)), (.ref b), (.ref x)]) (fun _ _ A k => XS.iconst A hx rfl (hb hby own_d_jdk_42_method_3_2) k) ?_
  refine gs (mkF m 4 #[.val (.ref x), .val (.ref b)] [(.ref b), (.int (0 : Int32)), (.ref b), (.ref x)]) (fun _ _ A k => XS.aloadN A hx rfl (hb hby own_d_jdk_42_method_3_3) rfl rfl k) ?_
  refine glen hx P5 5 (hb hby own_d_jdk_42_method_3_4) rfl ?_
  refine gs (mkF m 6 #[.val (.ref x), .val (.ref b)] [.null, (.int (0 : Int32)), (.int (0 : Int32)), (.ref b), (.ref x)]) (fun _ _ A k => XS.aconstNull A hx rfl (hb hby own_d_jdk_42_method_3_5) k) ?_
  refine ginfo fun _ _ O1 => ?_
  refine gcallI (y := (⟨"java/lang/String", "<init>", "([CIILjava/lang/Void;)V"⟩ : MethodName)) hx rfl (ow hw 14 rfl) (ow hw 15 rfl) (ow hw 17 rfl) (by decide) (fun hZ H hEL => Pay.of_met (W := 0) (own_emp4 l Z a0 cx [] (x) (b) (v0) (c0) vm h0 O1 P0 P1 P2 P3 L4) (ow hw 17 rfl) (ow hw 9 rfl) (by decide) (by decide) hZ H hEL) (a := x) 9 (argsL := [(.ref b), (.int (0 : Int32)), (.int (0 : Int32)), .null]) (rest := []) (lenOf own_pd21 rfl) rfl rfl (Nat.le_of_eq rfl) (by rw [hml]; rfl) (hb hby own_d_jdk_42_method_3_6) rfl (by decide) (by decide) ?_
  rintro _ vm1 h1 C1 ⟨t1, rfl, K1, q1_0, q1_1⟩
  have z1 := C1.2.1
  have lt_t1 : h1.size > t1 := q1_0.tlt
  refine gat (mkF m 9 #[.val (.ref x), .val (.ref b)] []) rfl ?_
  exact gretV hx hret (hb hby own_d_jdk_42_method_3_9) (by decide) (by decide) (fun vq Cq => ⟨t1, rfl, ((Keep.refl h0 [x]).trans K1 (allS (Or.inl (List.mem_of_getElem? (i := 0) rfl)) all0)), q1_0, (Cq.safe (show h1.size > x by omega) q1_1)⟩)
theorem own_d_jdk_31_method_11_0 : decode jdk_31_method_11_code 0 = .ok (.aload_n 0, 1) := by decide +kernel
theorem own_d_jdk_31_method_11_1 : decode jdk_31_method_11_code 1 = .ok (.ifnonnull 12, 3) := by decide +kernel
theorem own_d_jdk_31_method_11_13 : decode jdk_31_method_11_code 13 = .ok (.aload_n 0, 1) := by decide +kernel
theorem own_d_jdk_31_method_11_14 : decode jdk_31_method_11_code 14 = .ok (.areturn, 1) := by decide +kernel
theorem own_pn27 : plainName "java/util/Objects" = true := by first | (simp [plainName, overriddenIn]; done) | decide +kernel
set_option maxRecDepth 65536 in
set_option maxHeartbeats 40000000 in
theorem own_require2 (l : Launch) (Z : State) (a0 : Array Value) (cx : Ctx Z a0) (ws : List Jvm.Cond) (x : Addr) (b : Addr) (vm0 : Vm) (h0 : Heap) (X00 : Ext Z.heap h0)  :
    Met l (⟨"java/util/Objects", "requireNonNull", "(Ljava/lang/Object;Ljava/lang/String;)Ljava/lang/Object;"⟩ : MethodName) jdk_31_method_11_code 2 (some (.object "java/lang/Object")) ws ({ frames := 0, cells := 0, slots := 0, locals := 0 } : Room) Z consts_1 vm0 h0 #[(.ref x), (.ref b)] (fun v vm h => v = some (.ref x) ∧ h0 = h) := by
  obtain ⟨hw, hEL, ⟨zc, Scs, hzc⟩, ⟨fm, Sfm, hfm⟩, ⟨cach, ccl, Shi, Sca, Aca, zca, hca⟩⟩ := id cx
  have hSA := own_SA hw
  refine Met.of_walk (a0 := a0) #[.val (.ref x), .val (.ref b)] (plainFor_of_name own_pn27) X00 hEL (fun m => by first | (simp [entryFrame, mkF, argsToLocals, Value.category]; done) | rfl) ?_
  intro p e s m below meth c vm hx hby hml hret hnm hC0
  refine gs (mkF m 1 #[.val (.ref x), .val (.ref b)] [(.ref x)]) (fun _ _ A k => XS.aloadN A hx rfl (hb hby own_d_jdk_31_method_11_0) rfl rfl k) ?_
  refine gs (mkF m 13 #[.val (.ref x), .val (.ref b)] []) (fun _ _ A k => XS.ifnonnullYes A hx rfl (pc0 := 1) (pc' := 13) rfl (hb hby own_d_jdk_31_method_11_1) rfl (by decide) (by decide) k) ?_
  refine gs (mkF m 14 #[.val (.ref x), .val (.ref b)] [(.ref x)]) (fun _ _ A k => XS.aloadN A hx rfl (hb hby own_d_jdk_31_method_11_13) rfl rfl k) ?_
  exact gretA hx hret rfl rfl (hb hby own_d_jdk_31_method_11_14) (by decide) (by decide) (fun vq Cq => ⟨rfl, rfl⟩)
theorem own_len3 (x : Int32) : ((((x.toUInt32 >>> ((16 : Int32) &&& 31).toUInt32).toInt32) &&& (3 : Int32)) % (3 : Int32)) = (0 : Int32) ∨ ((((x.toUInt32 >>> ((16 : Int32) &&& 31).toUInt32).toInt32) &&& (3 : Int32)) % (3 : Int32)) = (1 : Int32) ∨ ((((x.toUInt32 >>> ((16 : Int32) &&& 31).toUInt32).toInt32) &&& (3 : Int32)) % (3 : Int32)) = (2 : Int32) := by
  have h1 := c_mask ((x.toUInt32 >>> ((16 : Int32) &&& 31).toUInt32).toInt32) 3 2 (by decide) (by decide)
  generalize (((x.toUInt32 >>> ((16 : Int32) &&& 31).toUInt32).toInt32) &&& (3 : Int32)) = y at *
  have h2 := c_irem y 3 3 rfl
  have h0 : (0 : Int32).toInt = 0 := rfl
  have e1 : (1 : Int32).toInt = 1 := rfl
  have e2 : (2 : Int32).toInt = 2 := rfl
  rw [← Int32.toInt_inj, ← Int32.toInt_inj, ← Int32.toInt_inj, h0, e1, e2]
  have h3 : 0 ≤ y.toInt := by rw [h1]; omega
  have h4 := h2.1 h3
  omega
def own_cs (x : Int32) : List Int32 := if ((((x.toUInt32 >>> ((16 : Int32) &&& 31).toUInt32).toInt32) &&& (3 : Int32)) % (3 : Int32)) = (0 : Int32) then [] else if ((((x.toUInt32 >>> ((16 : Int32) &&& 31).toUInt32).toInt32) &&& (3 : Int32)) % (3 : Int32)) = (1 : Int32) then [(x &&& (255 : Int32))] else [(x &&& (255 : Int32)), (((x.toUInt32 >>> ((8 : Int32) &&& 31).toUInt32).toInt32) &&& (255 : Int32))]
theorem own_cs0 {x : Int32} (h : ((((x.toUInt32 >>> ((16 : Int32) &&& 31).toUInt32).toInt32) &&& (3 : Int32)) % (3 : Int32)) = (0 : Int32)) : own_cs x = [] := by rw [own_cs, if_pos h]
theorem own_cs1 {x : Int32} (h : ((((x.toUInt32 >>> ((16 : Int32) &&& 31).toUInt32).toInt32) &&& (3 : Int32)) % (3 : Int32)) = (1 : Int32)) : own_cs x = [(x &&& (255 : Int32))] := by rw [own_cs, if_neg (by rw [h]; decide), if_pos h]
theorem own_cs2 {x : Int32} (h : ((((x.toUInt32 >>> ((16 : Int32) &&& 31).toUInt32).toInt32) &&& (3 : Int32)) % (3 : Int32)) = (2 : Int32)) : own_cs x = [(x &&& (255 : Int32)), (((x.toUInt32 >>> ((8 : Int32) &&& 31).toUInt32).toInt32) &&& (255 : Int32))] := by rw [own_cs, if_neg (by rw [h]; decide), if_neg (by rw [h]; decide)]
theorem own_d_method_2_0 : decode method_2_code 0 = .ok (.iload_n 0, 1) := by decide +kernel
theorem own_d_method_2_1 : decode method_2_code 1 = .ok (.bipush 16, 2) := by decide +kernel
theorem own_d_method_2_3 : decode method_2_code 3 = .ok (.iushr, 1) := by decide +kernel
theorem own_d_method_2_4 : decode method_2_code 4 = .ok (.iconst 3, 1) := by decide +kernel
theorem own_d_method_2_5 : decode method_2_code 5 = .ok (.iand, 1) := by decide +kernel
theorem own_d_method_2_6 : decode method_2_code 6 = .ok (.iconst 3, 1) := by decide +kernel
theorem own_d_method_2_7 : decode method_2_code 7 = .ok (.irem, 1) := by decide +kernel
theorem own_d_method_2_8 : decode method_2_code 8 = .ok (.ireturn, 1) := by decide +kernel
theorem own_pn36 : plainName "com/example/tasks_to_members/taskstomembers/core/TaskEqualsPinLaw" = true := by first | (simp [plainName, overriddenIn]; done) | decide +kernel
set_option maxRecDepth 65536 in
set_option maxHeartbeats 40000000 in
theorem own_len (l : Launch) (Z : State) (a0 : Array Value) (cx : Ctx Z a0) (ws : List Jvm.Cond) (x : Int32) (vm0 : Vm) (h0 : Heap) (X00 : Ext Z.heap h0)  :
    Met l (⟨"com/example/tasks_to_members/taskstomembers/core/TaskEqualsPinLaw", "len", "(I)I"⟩ : MethodName) method_2_code 1 (some .int) ws ({ frames := 0, cells := 0, slots := 0, locals := 0 } : Room) Z consts_1 vm0 h0 #[(.int x)] (fun v vm h => v = some (.int ((((x.toUInt32 >>> ((16 : Int32) &&& 31).toUInt32).toInt32) &&& (3 : Int32)) % (3 : Int32))) ∧ h0 = h) := by
  obtain ⟨hw, hEL, ⟨zc, Scs, hzc⟩, ⟨fm, Sfm, hfm⟩, ⟨cach, ccl, Shi, Sca, Aca, zca, hca⟩⟩ := id cx
  have hSA := own_SA hw
  refine Met.of_walk (a0 := a0) #[.val (.int x)] (plainFor_of_name own_pn36) X00 hEL (fun m => by first | (simp [entryFrame, mkF, argsToLocals, Value.category]; done) | rfl) ?_
  intro p e s m below meth c vm hx hby hml hret hnm hC0
  refine gs (mkF m 1 #[.val (.int x)] [(.int x)]) (fun _ _ A k => XS.iloadN A hx rfl (hb hby own_d_method_2_0) rfl  k) ?_
  refine gs (mkF m 3 #[.val (.int x)] [(.int (16 : Int32)), (.int x)]) (fun _ _ A k => XS.bipush A hx rfl (hb hby own_d_method_2_1) k) ?_
  refine gs (mkF m 4 #[.val (.int x)] [(.int ((x.toUInt32 >>> ((16 : Int32) &&& 31).toUInt32).toInt32))]) (fun _ _ A k => XS.iushr A hx rfl (hb hby own_d_method_2_3) rfl k) ?_
  refine gs (mkF m 5 #[.val (.int x)] [(.int (3 : Int32)), (.int ((x.toUInt32 >>> ((16 : Int32) &&& 31).toUInt32).toInt32))]) (fun _ _ A k => XS.iconst A hx rfl (hb hby own_d_method_2_4) k) ?_
  refine gs (mkF m 6 #[.val (.int x)] [(.int (((x.toUInt32 >>> ((16 : Int32) &&& 31).toUInt32).toInt32) &&& (3 : Int32)))]) (fun _ _ A k => XS.iand A hx rfl (hb hby own_d_method_2_5) rfl k) ?_
  refine gs (mkF m 7 #[.val (.int x)] [(.int (3 : Int32)), (.int (((x.toUInt32 >>> ((16 : Int32) &&& 31).toUInt32).toInt32) &&& (3 : Int32)))]) (fun _ _ A k => XS.iconst A hx rfl (hb hby own_d_method_2_6) k) ?_
  refine gx (mkF m 8 #[.val (.int x)] [(.int ((((x.toUInt32 >>> ((16 : Int32) &&& 31).toUInt32).toInt32) &&& (3 : Int32)) % (3 : Int32)))]) (fun T locs X _ _ _ _ k => iremM X hx rfl (hb hby own_d_method_2_7) rfl (by decide) k) ?_
  exact gretI hx hret (hb hby own_d_method_2_8) (by decide) (by decide) (fun vq Cq => ⟨rfl, rfl⟩)
theorem own_d_method_3_0 : decode method_3_code 0 = .ok (.iload_n 0, 1) := by decide +kernel
theorem own_d_method_3_1 : decode method_3_code 1 = .ok (.invokestatic 7, 3) := by decide +kernel
theorem own_pd39 : parseMethodDescriptor "(I)I" = some ⟨[.int], some .int⟩ := by decide +kernel
theorem own_d_method_3_4 : decode method_3_code 4 = .ok (.istore_n 1, 1) := by decide +kernel
theorem own_d_method_3_5 : decode method_3_code 5 = .ok (.iload_n 0, 1) := by decide +kernel
theorem own_d_method_3_6 : decode method_3_code 6 = .ok (.sipush 255, 3) := by decide +kernel
theorem own_d_method_3_9 : decode method_3_code 9 = .ok (.iand, 1) := by decide +kernel
theorem own_d_method_3_10 : decode method_3_code 10 = .ok (.i2c, 1) := by decide +kernel
theorem own_d_method_3_11 : decode method_3_code 11 = .ok (.istore_n 2, 1) := by decide +kernel
theorem own_d_method_3_12 : decode method_3_code 12 = .ok (.iload_n 0, 1) := by decide +kernel
theorem own_d_method_3_13 : decode method_3_code 13 = .ok (.bipush 8, 2) := by decide +kernel
theorem own_d_method_3_15 : decode method_3_code 15 = .ok (.iushr, 1) := by decide +kernel
theorem own_d_method_3_16 : decode method_3_code 16 = .ok (.sipush 255, 3) := by decide +kernel
theorem own_d_method_3_19 : decode method_3_code 19 = .ok (.iand, 1) := by decide +kernel
theorem own_d_method_3_20 : decode method_3_code 20 = .ok (.i2c, 1) := by decide +kernel
theorem own_d_method_3_21 : decode method_3_code 21 = .ok (.istore_n 3, 1) := by decide +kernel
theorem own_d_method_3_22 : decode method_3_code 22 = .ok (.iload_n 1, 1) := by decide +kernel
theorem own_d_method_3_23 : decode method_3_code 23 = .ok (.ifCond .ne 14, 3) := by decide +kernel
theorem own_d_method_3_26 : decode method_3_code 26 = .ok (.new 13, 3) := by decide +kernel
theorem own_d_method_3_29 : decode method_3_code 29 = .ok (.dup, 1) := by decide +kernel
theorem own_d_method_3_30 : decode method_3_code 30 = .ok (.iconst 0, 1) := by decide +kernel
theorem own_d_method_3_31 : decode method_3_code 31 = .ok (.newarray .char, 2) := by decide +kernel
theorem own_d_method_3_33 : decode method_3_code 33 = .ok (.invokespecial 15, 3) := by decide +kernel
theorem own_pd60 : parseMethodDescriptor "([C)V" = some ⟨[(.array .char)], none⟩ := by decide +kernel
theorem own_d_method_3_36 : decode method_3_code 36 = .ok (.areturn, 1) := by decide +kernel
theorem own_d_method_3_37 : decode method_3_code 37 = .ok (.iload_n 1, 1) := by decide +kernel
theorem own_d_method_3_38 : decode method_3_code 38 = .ok (.iconst 1, 1) := by decide +kernel
theorem own_d_method_3_39 : decode method_3_code 39 = .ok (.if_icmp .ne 23, 3) := by decide +kernel
theorem own_d_method_3_42 : decode method_3_code 42 = .ok (.iconst 1, 1) := by decide +kernel
theorem own_d_method_3_43 : decode method_3_code 43 = .ok (.newarray .char, 2) := by decide +kernel
theorem own_d_method_3_45 : decode method_3_code 45 = .ok (.astore 4, 2) := by decide +kernel
theorem own_d_method_3_47 : decode method_3_code 47 = .ok (.aload 4, 2) := by decide +kernel
theorem own_d_method_3_49 : decode method_3_code 49 = .ok (.iconst 0, 1) := by decide +kernel
theorem own_d_method_3_50 : decode method_3_code 50 = .ok (.iload_n 2, 1) := by decide +kernel
theorem own_d_method_3_51 : decode method_3_code 51 = .ok (.castore, 1) := by decide +kernel
theorem own_d_method_3_52 : decode method_3_code 52 = .ok (.new 13, 3) := by decide +kernel
theorem own_d_method_3_55 : decode method_3_code 55 = .ok (.dup, 1) := by decide +kernel
theorem own_d_method_3_56 : decode method_3_code 56 = .ok (.aload 4, 2) := by decide +kernel
theorem own_d_method_3_58 : decode method_3_code 58 = .ok (.invokespecial 15, 3) := by decide +kernel
theorem own_d_method_3_61 : decode method_3_code 61 = .ok (.areturn, 1) := by decide +kernel
theorem own_d_method_3_62 : decode method_3_code 62 = .ok (.iconst 2, 1) := by decide +kernel
theorem own_d_method_3_63 : decode method_3_code 63 = .ok (.newarray .char, 2) := by decide +kernel
theorem own_d_method_3_65 : decode method_3_code 65 = .ok (.astore 4, 2) := by decide +kernel
theorem own_d_method_3_67 : decode method_3_code 67 = .ok (.aload 4, 2) := by decide +kernel
theorem own_d_method_3_69 : decode method_3_code 69 = .ok (.iconst 0, 1) := by decide +kernel
theorem own_d_method_3_70 : decode method_3_code 70 = .ok (.iload_n 2, 1) := by decide +kernel
theorem own_d_method_3_71 : decode method_3_code 71 = .ok (.castore, 1) := by decide +kernel
theorem own_d_method_3_72 : decode method_3_code 72 = .ok (.aload 4, 2) := by decide +kernel
theorem own_d_method_3_74 : decode method_3_code 74 = .ok (.iconst 1, 1) := by decide +kernel
theorem own_d_method_3_75 : decode method_3_code 75 = .ok (.iload_n 3, 1) := by decide +kernel
theorem own_d_method_3_76 : decode method_3_code 76 = .ok (.castore, 1) := by decide +kernel
theorem own_d_method_3_77 : decode method_3_code 77 = .ok (.new 13, 3) := by decide +kernel
theorem own_d_method_3_80 : decode method_3_code 80 = .ok (.dup, 1) := by decide +kernel
theorem own_d_method_3_81 : decode method_3_code 81 = .ok (.aload 4, 2) := by decide +kernel
theorem own_d_method_3_83 : decode method_3_code 83 = .ok (.invokespecial 15, 3) := by decide +kernel
theorem own_d_method_3_86 : decode method_3_code 86 = .ok (.areturn, 1) := by decide +kernel
set_option maxRecDepth 65536 in
set_option maxHeartbeats 40000000 in
theorem own_mk (l : Launch) (Z : State) (a0 : Array Value) (cx : Ctx Z a0) (ws : List Jvm.Cond) (x : Int32) (vm0 : Vm) (h0 : Heap) (X00 : Ext Z.heap h0)  :
    Met l (⟨"com/example/tasks_to_members/taskstomembers/core/TaskEqualsPinLaw", "mk", "(I)Ljava/lang/String;"⟩ : MethodName) method_3_code 5 (some (.object "java/lang/String")) ws ({ frames := 4, cells := 6, slots := 12, locals := 66 } : Room) Z consts_1 vm0 h0 #[(.int x)] (fun v vm h => ∃ (r : Addr), ∃ (t : Addr), v = some (.ref r) ∧ Keep h0 h [] ∧ Str Z h r t (own_cs x)) := by
  obtain ⟨hw, hEL, ⟨zc, Scs, hzc⟩, ⟨fm, Sfm, hfm⟩, ⟨cach, ccl, Shi, Sca, Aca, zca, hca⟩⟩ := id cx
  have hSA := own_SA hw
  refine Met.of_walk (a0 := a0) #[.val (.int x), .unset, .unset, .unset, .unset] (plainFor_of_name own_pn36) X00 hEL (fun m => by first | (simp [entryFrame, mkF, argsToLocals, Value.category]; done) | rfl) ?_
  intro p e s m below meth c vm hx hby hml hret hnm hC0
  refine gs (mkF m 1 #[.val (.int x), .unset, .unset, .unset, .unset] [(.int x)]) (fun _ _ A k => XS.iloadN A hx rfl (hb hby own_d_method_3_0) rfl  k) ?_
  refine ginfo fun _ _ O1 => ?_
  refine gcallS (y := (⟨"com/example/tasks_to_members/taskstomembers/core/TaskEqualsPinLaw", "len", "(I)I"⟩ : MethodName)) hx (ow hw 4 rfl) (ow hw 5 rfl) (ow hw 2 rfl) (ow hw 6 rfl) (by decide) (fun hZ H hEL => Pay.of_met (W := 0) (own_len l Z a0 cx [] (x) vm h0 O1 ) (ow hw 6 rfl) (ow hw 2 rfl) (by decide) (by decide) hZ H hEL) 4 (argsL := [(.int x)]) (rest := []) (lenOf own_pd39 rfl) rfl rfl (Nat.le_of_eq rfl) (by rw [hml]; rfl) (hb hby own_d_method_3_1) rfl (by decide) (by decide) ?_
  rintro _ vm1 h1 C1 ⟨rfl, rfl⟩
  have z1 := C1.2.1
  refine gat (mkF m 4 #[.val (.int x), .unset, .unset, .unset, .unset] [(.int ((((x.toUInt32 >>> ((16 : Int32) &&& 31).toUInt32).toInt32) &&& (3 : Int32)) % (3 : Int32)))]) rfl ?_
  refine gs (mkF m 5 #[.val (.int x), .val (.int ((((x.toUInt32 >>> ((16 : Int32) &&& 31).toUInt32).toInt32) &&& (3 : Int32)) % (3 : Int32))), .unset, .unset, .unset] []) (fun _ _ A k => XS.istoreN A hx rfl (hb hby own_d_method_3_4) rfl (l' := #[.val (.int x), .val (.int ((((x.toUInt32 >>> ((16 : Int32) &&& 31).toUInt32).toInt32) &&& (3 : Int32)) % (3 : Int32))), .unset, .unset, .unset]) rfl k) ?_
  refine gs (mkF m 6 #[.val (.int x), .val (.int ((((x.toUInt32 >>> ((16 : Int32) &&& 31).toUInt32).toInt32) &&& (3 : Int32)) % (3 : Int32))), .unset, .unset, .unset] [(.int x)]) (fun _ _ A k => XS.iloadN A hx rfl (hb hby own_d_method_3_5) rfl  k) ?_
  refine gs (mkF m 9 #[.val (.int x), .val (.int ((((x.toUInt32 >>> ((16 : Int32) &&& 31).toUInt32).toInt32) &&& (3 : Int32)) % (3 : Int32))), .unset, .unset, .unset] [(.int (255 : Int32)), (.int x)]) (fun _ _ A k => XS.sipush A hx rfl (hb hby own_d_method_3_6) k) ?_
  refine gs (mkF m 10 #[.val (.int x), .val (.int ((((x.toUInt32 >>> ((16 : Int32) &&& 31).toUInt32).toInt32) &&& (3 : Int32)) % (3 : Int32))), .unset, .unset, .unset] [(.int (x &&& (255 : Int32)))]) (fun _ _ A k => XS.iand A hx rfl (hb hby own_d_method_3_9) rfl k) ?_
  refine gi2c hx (i2c_mask _) 11 (hb hby own_d_method_3_10) rfl ?_
  refine gs (mkF m 12 #[.val (.int x), .val (.int ((((x.toUInt32 >>> ((16 : Int32) &&& 31).toUInt32).toInt32) &&& (3 : Int32)) % (3 : Int32))), .val (.int (x &&& (255 : Int32))), .unset, .unset] []) (fun _ _ A k => XS.istoreN A hx rfl (hb hby own_d_method_3_11) rfl (l' := #[.val (.int x), .val (.int ((((x.toUInt32 >>> ((16 : Int32) &&& 31).toUInt32).toInt32) &&& (3 : Int32)) % (3 : Int32))), .val (.int (x &&& (255 : Int32))), .unset, .unset]) rfl k) ?_
  refine gs (mkF m 13 #[.val (.int x), .val (.int ((((x.toUInt32 >>> ((16 : Int32) &&& 31).toUInt32).toInt32) &&& (3 : Int32)) % (3 : Int32))), .val (.int (x &&& (255 : Int32))), .unset, .unset] [(.int x)]) (fun _ _ A k => XS.iloadN A hx rfl (hb hby own_d_method_3_12) rfl  k) ?_
  refine gs (mkF m 15 #[.val (.int x), .val (.int ((((x.toUInt32 >>> ((16 : Int32) &&& 31).toUInt32).toInt32) &&& (3 : Int32)) % (3 : Int32))), .val (.int (x &&& (255 : Int32))), .unset, .unset] [(.int (8 : Int32)), (.int x)]) (fun _ _ A k => XS.bipush A hx rfl (hb hby own_d_method_3_13) k) ?_
  refine gs (mkF m 16 #[.val (.int x), .val (.int ((((x.toUInt32 >>> ((16 : Int32) &&& 31).toUInt32).toInt32) &&& (3 : Int32)) % (3 : Int32))), .val (.int (x &&& (255 : Int32))), .unset, .unset] [(.int ((x.toUInt32 >>> ((8 : Int32) &&& 31).toUInt32).toInt32))]) (fun _ _ A k => XS.iushr A hx rfl (hb hby own_d_method_3_15) rfl k) ?_
  refine gs (mkF m 19 #[.val (.int x), .val (.int ((((x.toUInt32 >>> ((16 : Int32) &&& 31).toUInt32).toInt32) &&& (3 : Int32)) % (3 : Int32))), .val (.int (x &&& (255 : Int32))), .unset, .unset] [(.int (255 : Int32)), (.int ((x.toUInt32 >>> ((8 : Int32) &&& 31).toUInt32).toInt32))]) (fun _ _ A k => XS.sipush A hx rfl (hb hby own_d_method_3_16) k) ?_
  refine gs (mkF m 20 #[.val (.int x), .val (.int ((((x.toUInt32 >>> ((16 : Int32) &&& 31).toUInt32).toInt32) &&& (3 : Int32)) % (3 : Int32))), .val (.int (x &&& (255 : Int32))), .unset, .unset] [(.int (((x.toUInt32 >>> ((8 : Int32) &&& 31).toUInt32).toInt32) &&& (255 : Int32)))]) (fun _ _ A k => XS.iand A hx rfl (hb hby own_d_method_3_19) rfl k) ?_
  refine gi2c hx (i2c_mask _) 21 (hb hby own_d_method_3_20) rfl ?_
  refine gs (mkF m 22 #[.val (.int x), .val (.int ((((x.toUInt32 >>> ((16 : Int32) &&& 31).toUInt32).toInt32) &&& (3 : Int32)) % (3 : Int32))), .val (.int (x &&& (255 : Int32))), .val (.int (((x.toUInt32 >>> ((8 : Int32) &&& 31).toUInt32).toInt32) &&& (255 : Int32))), .unset] []) (fun _ _ A k => XS.istoreN A hx rfl (hb hby own_d_method_3_21) rfl (l' := #[.val (.int x), .val (.int ((((x.toUInt32 >>> ((16 : Int32) &&& 31).toUInt32).toInt32) &&& (3 : Int32)) % (3 : Int32))), .val (.int (x &&& (255 : Int32))), .val (.int (((x.toUInt32 >>> ((8 : Int32) &&& 31).toUInt32).toInt32) &&& (255 : Int32))), .unset]) rfl k) ?_
  rcases own_len3 x with q | q | q
  · rw [q]
    refine gs (mkF m 23 #[.val (.int x), .val (.int (0 : Int32)), .val (.int (x &&& (255 : Int32))), .val (.int (((x.toUInt32 >>> ((8 : Int32) &&& 31).toUInt32).toInt32) &&& (255 : Int32))), .unset] [(.int (0 : Int32))]) (fun _ _ A k => XS.iloadN A hx rfl (hb hby own_d_method_3_22) rfl  k) ?_
    refine gs (mkF m 26 #[.val (.int x), .val (.int (0 : Int32)), .val (.int (x &&& (255 : Int32))), .val (.int (((x.toUInt32 >>> ((8 : Int32) &&& 31).toUInt32).toInt32) &&& (255 : Int32))), .unset] []) (fun _ _ A k => XS.ifNo A hx rfl (hb hby own_d_method_3_23) rfl ((if0 _ _).trans (teq (by decide)).2) k) ?_
    refine gnewO hx (ow hw 7 rfl) (ow hw 8 rfl) (ow hw 9 rfl) 29 (hb hby own_d_method_3_26) rfl (by decide) (by decide) ?_
    intro b2 h2 g2 E2 C2 A2 D2 n2 L2
    have z2 := C2.2.1
    have lt_b2 : h2.size > b2 := A2.lt
    have F2_value : Fld Z h2 b2 "java/lang/String" "value" "[B" .null := D2 (Or.inr (ow hw 23 rfl)) (ty := (.array .byte)) (by decide)
    have F2_coder : Fld Z h2 b2 "java/lang/String" "coder" "B" (.int (0 : Int32)) := D2 (Or.inr (ow hw 24 rfl)) (ty := .byte) (by decide)
    refine gs (mkF m 30 #[.val (.int x), .val (.int (0 : Int32)), .val (.int (x &&& (255 : Int32))), .val (.int (((x.toUInt32 >>> ((8 : Int32) &&& 31).toUInt32).toInt32) &&& (255 : Int32))), .unset] [(.ref b2), (.ref b2)]) (fun _ _ A k => XS.dup A hx rfl (hb hby own_d_method_3_29) rfl rfl k) ?_
    refine gs (mkF m 31 #[.val (.int x), .val (.int (0 : Int32)), .val (.int (x &&& (255 : Int32))), .val (.int (((x.toUInt32 >>> ((8 : Int32) &&& 31).toUInt32).toInt32) &&& (255 : Int32))), .unset] [(.int (0 : Int32)), (.ref b2), (.ref b2)]) (fun _ _ A k => XS.iconst A hx rfl (hb hby own_d_method_3_30) k) ?_
    refine gnewP hx (ow hw 10 rfl) (n := (0 : Int32)) (by decide) (cap := 0) (by decide) (by decide) 33 (hb hby own_d_method_3_31) rfl (by decide) (by decide) ?_
    intro b3 h3 k3 g3 E3 C3 V3 n3 L3
    have z3 := C3.2.1
    have V3 : Arv Z h3 b3 k3 .char (0 : Int32) [] (.int (0 : Int32)) := V3.pad (pad_rep [] (.int (0 : Int32)) 0)
    have lt_b3 : h3.size > b3 := V3.lt
    have f5 := (A2.ext E3)
    have f6 := (F2_value.ext E3)
    have f7 := (F2_coder.ext E3)
    have f8 := (C3.safe (show h2.size > b2 by omega) L2)
    refine ginfo fun _ _ O4 => ?_
    refine gcallI (y := (⟨"java/lang/String", "<init>", "([C)V"⟩ : MethodName)) hx rfl (ow hw 11 rfl) (ow hw 12 rfl) (ow hw 13 rfl) (by decide) (fun hZ H hEL => Pay.of_met (W := 1) (own_emp1 l Z a0 cx [] (b2) (b3) (.null) ((.int (0 : Int32))) (k3) vm1 h3 O4 f5 f6 f7 n2 f8 V3) (ow hw 13 rfl) (ow hw 9 rfl) (by decide) (by decide) hZ H hEL) (a := b2) 36 (argsL := [(.ref b3)]) (rest := [(.ref b2)]) (lenOf own_pd60 rfl) rfl rfl (Nat.le_of_eq rfl) (by rw [hml]; rfl) (hb hby own_d_method_3_33) rfl (by decide) (by decide) ?_
    rintro _ vm4 h4 C4 ⟨t4, rfl, K4, q4_0, q4_1⟩
    have z4 := C4.2.1
    have lt_t4 : h4.size > t4 := q4_0.tlt
    refine gat (mkF m 36 #[.val (.int x), .val (.int (0 : Int32)), .val (.int (x &&& (255 : Int32))), .val (.int (((x.toUInt32 >>> ((8 : Int32) &&& 31).toUInt32).toInt32) &&& (255 : Int32))), .unset] [(.ref b2)]) rfl ?_
    exact gretA hx hret rfl rfl (hb hby own_d_method_3_36) (by decide) (by decide) (fun vq Cq => ⟨b2, t4, rfl, ((((Keep.refl h0 []).ext E2).ext E3).trans K4 (allS (Or.inr (by omega)) all0)), (by rw [own_cs0 q]; exact q4_0)⟩)
  · rw [q]
    refine gs (mkF m 23 #[.val (.int x), .val (.int (1 : Int32)), .val (.int (x &&& (255 : Int32))), .val (.int (((x.toUInt32 >>> ((8 : Int32) &&& 31).toUInt32).toInt32) &&& (255 : Int32))), .unset] [(.int (1 : Int32))]) (fun _ _ A k => XS.iloadN A hx rfl (hb hby own_d_method_3_22) rfl  k) ?_
    refine gs (mkF m 37 #[.val (.int x), .val (.int (1 : Int32)), .val (.int (x &&& (255 : Int32))), .val (.int (((x.toUInt32 >>> ((8 : Int32) &&& 31).toUInt32).toInt32) &&& (255 : Int32))), .unset] []) (fun _ _ A k => XS.ifYes A hx rfl (pc0 := 23) (pc' := 37) rfl (hb hby own_d_method_3_23) rfl ((if0 _ _).trans (feq (by decide)).2) (by decide) (by decide) k) ?_
    refine gs (mkF m 38 #[.val (.int x), .val (.int (1 : Int32)), .val (.int (x &&& (255 : Int32))), .val (.int (((x.toUInt32 >>> ((8 : Int32) &&& 31).toUInt32).toInt32) &&& (255 : Int32))), .unset] [(.int (1 : Int32))]) (fun _ _ A k => XS.iloadN A hx rfl (hb hby own_d_method_3_37) rfl  k) ?_
    refine gs (mkF m 39 #[.val (.int x), .val (.int (1 : Int32)), .val (.int (x &&& (255 : Int32))), .val (.int (((x.toUInt32 >>> ((8 : Int32) &&& 31).toUInt32).toInt32) &&& (255 : Int32))), .unset] [(.int (1 : Int32)), (.int (1 : Int32))]) (fun _ _ A k => XS.iconst A hx rfl (hb hby own_d_method_3_38) k) ?_
    refine gs (mkF m 42 #[.val (.int x), .val (.int (1 : Int32)), .val (.int (x &&& (255 : Int32))), .val (.int (((x.toUInt32 >>> ((8 : Int32) &&& 31).toUInt32).toInt32) &&& (255 : Int32))), .unset] []) (fun _ _ A k => XS.icmpNo A hx rfl (hb hby own_d_method_3_39) rfl (teq (by decide)).2 k) ?_
    refine gs (mkF m 43 #[.val (.int x), .val (.int (1 : Int32)), .val (.int (x &&& (255 : Int32))), .val (.int (((x.toUInt32 >>> ((8 : Int32) &&& 31).toUInt32).toInt32) &&& (255 : Int32))), .unset] [(.int (1 : Int32))]) (fun _ _ A k => XS.iconst A hx rfl (hb hby own_d_method_3_42) k) ?_
    refine gnewP hx (ow hw 10 rfl) (n := (1 : Int32)) (by decide) (cap := 1) (by decide) (by decide) 45 (hb hby own_d_method_3_43) rfl (by decide) (by decide) ?_
    intro b10 h10 k10 g10 E10 C10 V10 n10 L10
    have z10 := C10.2.1
    have V10 : Arv Z h10 b10 k10 .char (1 : Int32) [(.int (0 : Int32))] (.int (0 : Int32)) := V10.pad (pad_rep [] (.int (0 : Int32)) 1)
    have lt_b10 : h10.size > b10 := V10.lt
    refine gs (mkF m 47 #[.val (.int x), .val (.int (1 : Int32)), .val (.int (x &&& (255 : Int32))), .val (.int (((x.toUInt32 >>> ((8 : Int32) &&& 31).toUInt32).toInt32) &&& (255 : Int32))), .val (.ref b10)] []) (fun _ _ A k => XS.astore A hx rfl (hb hby own_d_method_3_45) rfl rfl (l' := #[.val (.int x), .val (.int (1 : Int32)), .val (.int (x &&& (255 : Int32))), .val (.int (((x.toUInt32 >>> ((8 : Int32) &&& 31).toUInt32).toInt32) &&& (255 : Int32))), .val (.ref b10)]) rfl k) ?_
    refine gs (mkF m 49 #[.val (.int x), .val (.int (1 : Int32)), .val (.int (x &&& (255 : Int32))), .val (.int (((x.toUInt32 >>> ((8 : Int32) &&& 31).toUInt32).toInt32) &&& (255 : Int32))), .val (.ref b10)] [(.ref b10)]) (fun _ _ A k => XS.aload A hx rfl (hb hby own_d_method_3_47) rfl rfl k) ?_
    refine gs (mkF m 50 #[.val (.int x), .val (.int (1 : Int32)), .val (.int (x &&& (255 : Int32))), .val (.int (((x.toUInt32 >>> ((8 : Int32) &&& 31).toUInt32).toInt32) &&& (255 : Int32))), .val (.ref b10)] [(.int (0 : Int32)), (.ref b10)]) (fun _ _ A k => XS.iconst A hx rfl (hb hby own_d_method_3_49) k) ?_
    refine gs (mkF m 51 #[.val (.int x), .val (.int (1 : Int32)), .val (.int (x &&& (255 : Int32))), .val (.int (((x.toUInt32 >>> ((8 : Int32) &&& 31).toUInt32).toInt32) &&& (255 : Int32))), .val (.ref b10)] [(.int (x &&& (255 : Int32))), (.int (0 : Int32)), (.ref b10)]) (fun _ _ A k => XS.iloadN A hx rfl (hb hby own_d_method_3_50) rfl  k) ?_
    refine gstC hx V10 ⟨by decide, by decide⟩ (i := 0) rfl (Nat.le_of_ble_eq_true rfl) (y := (x &&& (255 : Int32))) (narC _) n10 52 (hb hby own_d_method_3_51) rfl ?_
    intro h11 W11 C11 V11
    have z11 := C11.2.1
    replace V11 : Arv Z h11 b10 k10 .char (1 : Int32) [(.int (x &&& (255 : Int32)))] (.int (0 : Int32)) := V11
    refine gnewO hx (ow hw 7 rfl) (ow hw 8 rfl) (ow hw 9 rfl) 55 (hb hby own_d_method_3_52) rfl (by decide) (by decide) ?_
    intro b12 h12 g12 E12 C12 A12 D12 n12 L12
    have z12 := C12.2.1
    have lt_b12 : h12.size > b12 := A12.lt
    have F12_value : Fld Z h12 b12 "java/lang/String" "value" "[B" .null := D12 (Or.inr (ow hw 23 rfl)) (ty := (.array .byte)) (by decide)
    have F12_coder : Fld Z h12 b12 "java/lang/String" "coder" "B" (.int (0 : Int32)) := D12 (Or.inr (ow hw 24 rfl)) (ty := .byte) (by decide)
    refine gs (mkF m 56 #[.val (.int x), .val (.int (1 : Int32)), .val (.int (x &&& (255 : Int32))), .val (.int (((x.toUInt32 >>> ((8 : Int32) &&& 31).toUInt32).toInt32) &&& (255 : Int32))), .val (.ref b10)] [(.ref b12), (.ref b12)]) (fun _ _ A k => XS.dup A hx rfl (hb hby own_d_method_3_55) rfl rfl k) ?_
    refine gs (mkF m 58 #[.val (.int x), .val (.int (1 : Int32)), .val (.int (x &&& (255 : Int32))), .val (.int (((x.toUInt32 >>> ((8 : Int32) &&& 31).toUInt32).toInt32) &&& (255 : Int32))), .val (.ref b10)] [(.ref b10), (.ref b12), (.ref b12)]) (fun _ _ A k => XS.aload A hx rfl (hb hby own_d_method_3_56) rfl rfl k) ?_
    have f14 := (V11.ext E12)
    refine ginfo fun _ _ O13 => ?_
    refine gcallI (y := (⟨"java/lang/String", "<init>", "([C)V"⟩ : MethodName)) hx rfl (ow hw 11 rfl) (ow hw 12 rfl) (ow hw 13 rfl) (by decide) (fun hZ H hEL => own_payNew (W := 1) (own_wNew hw) (ow hw 8 rfl) Scs hzc O13 (cs := [(x &&& (255 : Int32))]) (n := 1) n12 A12 F12_value F12_coder f14 rfl rfl (by decide) (by decide) (bcons (b255 _) bnil) L12 (by decide) (by decide) hZ H hEL) (a := b12) 61 (argsL := [(.ref b10)]) (rest := [(.ref b12)]) (lenOf own_pd60 rfl) rfl rfl (Nat.le_of_eq rfl) (by rw [hml]; rfl) (hb hby own_d_method_3_58) rfl (by decide) (by decide) ?_
    rintro _ vm13 h13 C13 ⟨t13, rfl, K13, g13, S13⟩
    have z13 := C13.2.1
    have lt_t13 : h13.size > t13 := S13.tlt
    refine gat (mkF m 61 #[.val (.int x), .val (.int (1 : Int32)), .val (.int (x &&& (255 : Int32))), .val (.int (((x.toUInt32 >>> ((8 : Int32) &&& 31).toUInt32).toInt32) &&& (255 : Int32))), .val (.ref b10)] [(.ref b12)]) rfl ?_
    exact gretA hx hret rfl rfl (hb hby own_d_method_3_61) (by decide) (by decide) (fun vq Cq => ⟨b12, t13, rfl, (((((Keep.refl h0 []).ext E10).wr W11 (Or.inr (by omega))).ext E12).trans K13 (allS (Or.inr (by omega)) all0)), (by rw [own_cs1 q]; exact S13)⟩)
  · rw [q]
    refine gs (mkF m 23 #[.val (.int x), .val (.int (2 : Int32)), .val (.int (x &&& (255 : Int32))), .val (.int (((x.toUInt32 >>> ((8 : Int32) &&& 31).toUInt32).toInt32) &&& (255 : Int32))), .unset] [(.int (2 : Int32))]) (fun _ _ A k => XS.iloadN A hx rfl (hb hby own_d_method_3_22) rfl  k) ?_
    refine gs (mkF m 37 #[.val (.int x), .val (.int (2 : Int32)), .val (.int (x &&& (255 : Int32))), .val (.int (((x.toUInt32 >>> ((8 : Int32) &&& 31).toUInt32).toInt32) &&& (255 : Int32))), .unset] []) (fun _ _ A k => XS.ifYes A hx rfl (pc0 := 23) (pc' := 37) rfl (hb hby own_d_method_3_23) rfl ((if0 _ _).trans (feq (by decide)).2) (by decide) (by decide) k) ?_
    refine gs (mkF m 38 #[.val (.int x), .val (.int (2 : Int32)), .val (.int (x &&& (255 : Int32))), .val (.int (((x.toUInt32 >>> ((8 : Int32) &&& 31).toUInt32).toInt32) &&& (255 : Int32))), .unset] [(.int (2 : Int32))]) (fun _ _ A k => XS.iloadN A hx rfl (hb hby own_d_method_3_37) rfl  k) ?_
    refine gs (mkF m 39 #[.val (.int x), .val (.int (2 : Int32)), .val (.int (x &&& (255 : Int32))), .val (.int (((x.toUInt32 >>> ((8 : Int32) &&& 31).toUInt32).toInt32) &&& (255 : Int32))), .unset] [(.int (1 : Int32)), (.int (2 : Int32))]) (fun _ _ A k => XS.iconst A hx rfl (hb hby own_d_method_3_38) k) ?_
    refine gs (mkF m 62 #[.val (.int x), .val (.int (2 : Int32)), .val (.int (x &&& (255 : Int32))), .val (.int (((x.toUInt32 >>> ((8 : Int32) &&& 31).toUInt32).toInt32) &&& (255 : Int32))), .unset] []) (fun _ _ A k => XS.icmpYes A hx rfl (pc0 := 39) (pc' := 62) rfl (hb hby own_d_method_3_39) rfl (feq (by decide)).2 (by decide) (by decide) k) ?_
    refine gs (mkF m 63 #[.val (.int x), .val (.int (2 : Int32)), .val (.int (x &&& (255 : Int32))), .val (.int (((x.toUInt32 >>> ((8 : Int32) &&& 31).toUInt32).toInt32) &&& (255 : Int32))), .unset] [(.int (2 : Int32))]) (fun _ _ A k => XS.iconst A hx rfl (hb hby own_d_method_3_62) k) ?_
    refine gnewP hx (ow hw 10 rfl) (n := (2 : Int32)) (by decide) (cap := 2) (by decide) (by decide) 65 (hb hby own_d_method_3_63) rfl (by decide) (by decide) ?_
    intro b16 h16 k16 g16 E16 C16 V16 n16 L16
    have z16 := C16.2.1
    have V16 : Arv Z h16 b16 k16 .char (2 : Int32) [(.int (0 : Int32)), (.int (0 : Int32))] (.int (0 : Int32)) := V16.pad (pad_rep [] (.int (0 : Int32)) 2)
    have lt_b16 : h16.size > b16 := V16.lt
    refine gs (mkF m 67 #[.val (.int x), .val (.int (2 : Int32)), .val (.int (x &&& (255 : Int32))), .val (.int (((x.toUInt32 >>> ((8 : Int32) &&& 31).toUInt32).toInt32) &&& (255 : Int32))), .val (.ref b16)] []) (fun _ _ A k => XS.astore A hx rfl (hb hby own_d_method_3_65) rfl rfl (l' := #[.val (.int x), .val (.int (2 : Int32)), .val (.int (x &&& (255 : Int32))), .val (.int (((x.toUInt32 >>> ((8 : Int32) &&& 31).toUInt32).toInt32) &&& (255 : Int32))), .val (.ref b16)]) rfl k) ?_
    refine gs (mkF m 69 #[.val (.int x), .val (.int (2 : Int32)), .val (.int (x &&& (255 : Int32))), .val (.int (((x.toUInt32 >>> ((8 : Int32) &&& 31).toUInt32).toInt32) &&& (255 : Int32))), .val (.ref b16)] [(.ref b16)]) (fun _ _ A k => XS.aload A hx rfl (hb hby own_d_method_3_67) rfl rfl k) ?_
    refine gs (mkF m 70 #[.val (.int x), .val (.int (2 : Int32)), .val (.int (x &&& (255 : Int32))), .val (.int (((x.toUInt32 >>> ((8 : Int32) &&& 31).toUInt32).toInt32) &&& (255 : Int32))), .val (.ref b16)] [(.int (0 : Int32)), (.ref b16)]) (fun _ _ A k => XS.iconst A hx rfl (hb hby own_d_method_3_69) k) ?_
    refine gs (mkF m 71 #[.val (.int x), .val (.int (2 : Int32)), .val (.int (x &&& (255 : Int32))), .val (.int (((x.toUInt32 >>> ((8 : Int32) &&& 31).toUInt32).toInt32) &&& (255 : Int32))), .val (.ref b16)] [(.int (x &&& (255 : Int32))), (.int (0 : Int32)), (.ref b16)]) (fun _ _ A k => XS.iloadN A hx rfl (hb hby own_d_method_3_70) rfl  k) ?_
    refine gstC hx V16 ⟨by decide, by decide⟩ (i := 0) rfl (Nat.le_of_ble_eq_true rfl) (y := (x &&& (255 : Int32))) (narC _) n16 72 (hb hby own_d_method_3_71) rfl ?_
    intro h17 W17 C17 V17
    have z17 := C17.2.1
    replace V17 : Arv Z h17 b16 k16 .char (2 : Int32) [(.int (x &&& (255 : Int32))), (.int (0 : Int32))] (.int (0 : Int32)) := V17
    refine gs (mkF m 74 #[.val (.int x), .val (.int (2 : Int32)), .val (.int (x &&& (255 : Int32))), .val (.int (((x.toUInt32 >>> ((8 : Int32) &&& 31).toUInt32).toInt32) &&& (255 : Int32))), .val (.ref b16)] [(.ref b16)]) (fun _ _ A k => XS.aload A hx rfl (hb hby own_d_method_3_72) rfl rfl k) ?_
    refine gs (mkF m 75 #[.val (.int x), .val (.int (2 : Int32)), .val (.int (x &&& (255 : Int32))), .val (.int (((x.toUInt32 >>> ((8 : Int32) &&& 31).toUInt32).toInt32) &&& (255 : Int32))), .val (.ref b16)] [(.int (1 : Int32)), (.ref b16)]) (fun _ _ A k => XS.iconst A hx rfl (hb hby own_d_method_3_74) k) ?_
    refine gs (mkF m 76 #[.val (.int x), .val (.int (2 : Int32)), .val (.int (x &&& (255 : Int32))), .val (.int (((x.toUInt32 >>> ((8 : Int32) &&& 31).toUInt32).toInt32) &&& (255 : Int32))), .val (.ref b16)] [(.int (((x.toUInt32 >>> ((8 : Int32) &&& 31).toUInt32).toInt32) &&& (255 : Int32))), (.int (1 : Int32)), (.ref b16)]) (fun _ _ A k => XS.iloadN A hx rfl (hb hby own_d_method_3_75) rfl  k) ?_
    refine gstC hx V17 ⟨by decide, by decide⟩ (i := 1) rfl (Nat.le_of_ble_eq_true rfl) (y := (((x.toUInt32 >>> ((8 : Int32) &&& 31).toUInt32).toInt32) &&& (255 : Int32))) (narC _) n16 77 (hb hby own_d_method_3_76) rfl ?_
    intro h18 W18 C18 V18
    have z18 := C18.2.1
    replace V18 : Arv Z h18 b16 k16 .char (2 : Int32) [(.int (x &&& (255 : Int32))), (.int (((x.toUInt32 >>> ((8 : Int32) &&& 31).toUInt32).toInt32) &&& (255 : Int32)))] (.int (0 : Int32)) := V18
    refine gnewO hx (ow hw 7 rfl) (ow hw 8 rfl) (ow hw 9 rfl) 80 (hb hby own_d_method_3_77) rfl (by decide) (by decide) ?_
    intro b19 h19 g19 E19 C19 A19 D19 n19 L19
    have z19 := C19.2.1
    have lt_b19 : h19.size > b19 := A19.lt
    have F19_value : Fld Z h19 b19 "java/lang/String" "value" "[B" .null := D19 (Or.inr (ow hw 23 rfl)) (ty := (.array .byte)) (by decide)
    have F19_coder : Fld Z h19 b19 "java/lang/String" "coder" "B" (.int (0 : Int32)) := D19 (Or.inr (ow hw 24 rfl)) (ty := .byte) (by decide)
    refine gs (mkF m 81 #[.val (.int x), .val (.int (2 : Int32)), .val (.int (x &&& (255 : Int32))), .val (.int (((x.toUInt32 >>> ((8 : Int32) &&& 31).toUInt32).toInt32) &&& (255 : Int32))), .val (.ref b16)] [(.ref b19), (.ref b19)]) (fun _ _ A k => XS.dup A hx rfl (hb hby own_d_method_3_80) rfl rfl k) ?_
    refine gs (mkF m 83 #[.val (.int x), .val (.int (2 : Int32)), .val (.int (x &&& (255 : Int32))), .val (.int (((x.toUInt32 >>> ((8 : Int32) &&& 31).toUInt32).toInt32) &&& (255 : Int32))), .val (.ref b16)] [(.ref b16), (.ref b19), (.ref b19)]) (fun _ _ A k => XS.aload A hx rfl (hb hby own_d_method_3_81) rfl rfl k) ?_
    have f21 := (V18.ext E19)
    refine ginfo fun _ _ O20 => ?_
    refine gcallI (y := (⟨"java/lang/String", "<init>", "([C)V"⟩ : MethodName)) hx rfl (ow hw 11 rfl) (ow hw 12 rfl) (ow hw 13 rfl) (by decide) (fun hZ H hEL => own_payNew (W := 1) (own_wNew hw) (ow hw 8 rfl) Scs hzc O20 (cs := [(x &&& (255 : Int32)), (((x.toUInt32 >>> ((8 : Int32) &&& 31).toUInt32).toInt32) &&& (255 : Int32))]) (n := 2) n19 A19 F19_value F19_coder f21 rfl rfl (by decide) (by decide) (bcons (b255 _) (bcons (b255 _) bnil)) L19 (by decide) (by decide) hZ H hEL) (a := b19) 86 (argsL := [(.ref b16)]) (rest := [(.ref b19)]) (lenOf own_pd60 rfl) rfl rfl (Nat.le_of_eq rfl) (by rw [hml]; rfl) (hb hby own_d_method_3_83) rfl (by decide) (by decide) ?_
    rintro _ vm20 h20 C20 ⟨t20, rfl, K20, g20, S20⟩
    have z20 := C20.2.1
    have lt_t20 : h20.size > t20 := S20.tlt
    refine gat (mkF m 86 #[.val (.int x), .val (.int (2 : Int32)), .val (.int (x &&& (255 : Int32))), .val (.int (((x.toUInt32 >>> ((8 : Int32) &&& 31).toUInt32).toInt32) &&& (255 : Int32))), .val (.ref b16)] [(.ref b19)]) rfl ?_
    exact gretA hx hret rfl rfl (hb hby own_d_method_3_86) (by decide) (by decide) (fun vq Cq => ⟨b19, t20, rfl, ((((((Keep.refl h0 []).ext E16).wr W17 (Or.inr (by omega))).wr W18 (Or.inr (by omega))).ext E19).trans K20 (allS (Or.inr (by omega)) all0)), (by rw [own_cs2 q]; exact S20)⟩)
theorem own_d_method_4_0 : decode method_4_code 0 = .ok (.iload_n 0, 1) := by decide +kernel
theorem own_d_method_4_1 : decode method_4_code 1 = .ok (.invokestatic 7, 3) := by decide +kernel
theorem own_d_method_4_4 : decode method_4_code 4 = .ok (.istore_n 2, 1) := by decide +kernel
theorem own_d_method_4_5 : decode method_4_code 5 = .ok (.iload_n 1, 1) := by decide +kernel
theorem own_d_method_4_6 : decode method_4_code 6 = .ok (.invokestatic 7, 3) := by decide +kernel
theorem own_d_method_4_9 : decode method_4_code 9 = .ok (.istore_n 3, 1) := by decide +kernel
theorem own_d_method_4_10 : decode method_4_code 10 = .ok (.iload_n 2, 1) := by decide +kernel
theorem own_d_method_4_11 : decode method_4_code 11 = .ok (.iload_n 3, 1) := by decide +kernel
theorem own_d_method_4_12 : decode method_4_code 12 = .ok (.if_icmp .eq 5, 3) := by decide +kernel
theorem own_d_method_4_17 : decode method_4_code 17 = .ok (.iload_n 2, 1) := by decide +kernel
theorem own_d_method_4_18 : decode method_4_code 18 = .ok (.iconst 1, 1) := by decide +kernel
theorem own_d_method_4_19 : decode method_4_code 19 = .ok (.if_icmp .lt 18, 3) := by decide +kernel
theorem own_d_method_4_37 : decode method_4_code 37 = .ok (.iload_n 2, 1) := by decide +kernel
theorem own_d_method_4_38 : decode method_4_code 38 = .ok (.iconst 2, 1) := by decide +kernel
theorem own_d_method_4_39 : decode method_4_code 39 = .ok (.if_icmp .lt 24, 3) := by decide +kernel
theorem own_d_method_4_63 : decode method_4_code 63 = .ok (.iconst 1, 1) := by decide +kernel
theorem own_d_method_4_64 : decode method_4_code 64 = .ok (.ireturn, 1) := by decide +kernel
theorem own_d_method_4_15 : decode method_4_code 15 = .ok (.iconst 0, 1) := by decide +kernel
theorem own_d_method_4_16 : decode method_4_code 16 = .ok (.ireturn, 1) := by decide +kernel
theorem own_d_method_4_22 : decode method_4_code 22 = .ok (.iload_n 0, 1) := by decide +kernel
theorem own_d_method_4_23 : decode method_4_code 23 = .ok (.sipush 255, 3) := by decide +kernel
theorem own_d_method_4_26 : decode method_4_code 26 = .ok (.iand, 1) := by decide +kernel
theorem own_d_method_4_27 : decode method_4_code 27 = .ok (.iload_n 1, 1) := by decide +kernel
theorem own_d_method_4_28 : decode method_4_code 28 = .ok (.sipush 255, 3) := by decide +kernel
theorem own_d_method_4_31 : decode method_4_code 31 = .ok (.iand, 1) := by decide +kernel
theorem own_d_method_4_32 : decode method_4_code 32 = .ok (.if_icmp .eq 5, 3) := by decide +kernel
theorem own_d_method_4_35 : decode method_4_code 35 = .ok (.iconst 0, 1) := by decide +kernel
theorem own_d_method_4_36 : decode method_4_code 36 = .ok (.ireturn, 1) := by decide +kernel
theorem own_d_method_4_42 : decode method_4_code 42 = .ok (.iload_n 0, 1) := by decide +kernel
theorem own_d_method_4_43 : decode method_4_code 43 = .ok (.bipush 8, 2) := by decide +kernel
theorem own_d_method_4_45 : decode method_4_code 45 = .ok (.iushr, 1) := by decide +kernel
theorem own_d_method_4_46 : decode method_4_code 46 = .ok (.sipush 255, 3) := by decide +kernel
theorem own_d_method_4_49 : decode method_4_code 49 = .ok (.iand, 1) := by decide +kernel
theorem own_d_method_4_50 : decode method_4_code 50 = .ok (.iload_n 1, 1) := by decide +kernel
theorem own_d_method_4_51 : decode method_4_code 51 = .ok (.bipush 8, 2) := by decide +kernel
theorem own_d_method_4_53 : decode method_4_code 53 = .ok (.iushr, 1) := by decide +kernel
theorem own_d_method_4_54 : decode method_4_code 54 = .ok (.sipush 255, 3) := by decide +kernel
theorem own_d_method_4_57 : decode method_4_code 57 = .ok (.iand, 1) := by decide +kernel
theorem own_d_method_4_58 : decode method_4_code 58 = .ok (.if_icmp .eq 5, 3) := by decide +kernel
theorem own_d_method_4_61 : decode method_4_code 61 = .ok (.iconst 0, 1) := by decide +kernel
theorem own_d_method_4_62 : decode method_4_code 62 = .ok (.ireturn, 1) := by decide +kernel
set_option maxRecDepth 65536 in
set_option maxHeartbeats 40000000 in
theorem own_sameId (l : Launch) (Z : State) (a0 : Array Value) (cx : Ctx Z a0) (ws : List Jvm.Cond) (x : Int32) (y : Int32) (z : Int32) (vm0 : Vm) (h0 : Heap) (X00 : Ext Z.heap h0) (P0 : (own_cs x = own_cs y → z = 1) ∧ (¬ own_cs x = own_cs y → z = 0)) :
    Met l (⟨"com/example/tasks_to_members/taskstomembers/core/TaskEqualsPinLaw", "sameId", "(II)Z"⟩ : MethodName) method_4_code 4 (some .boolean) ws ({ frames := 1, cells := 0, slots := 0, locals := 12 } : Room) Z consts_1 vm0 h0 #[(.int x), (.int y)] (fun v vm h => v = some (.int z) ∧ h0 = h) := by
  obtain ⟨hw, hEL, ⟨zc, Scs, hzc⟩, ⟨fm, Sfm, hfm⟩, ⟨cach, ccl, Shi, Sca, Aca, zca, hca⟩⟩ := id cx
  have hSA := own_SA hw
  refine Met.of_walk (a0 := a0) #[.val (.int x), .val (.int y), .unset, .unset] (plainFor_of_name own_pn36) X00 hEL (fun m => by first | (simp [entryFrame, mkF, argsToLocals, Value.category]; done) | rfl) ?_
  intro p e s m below meth c vm hx hby hml hret hnm hC0
  refine gs (mkF m 1 #[.val (.int x), .val (.int y), .unset, .unset] [(.int x)]) (fun _ _ A k => XS.iloadN A hx rfl (hb hby own_d_method_4_0) rfl  k) ?_
  refine ginfo fun _ _ O1 => ?_
  refine gcallS (y := (⟨"com/example/tasks_to_members/taskstomembers/core/TaskEqualsPinLaw", "len", "(I)I"⟩ : MethodName)) hx (ow hw 4 rfl) (ow hw 5 rfl) (ow hw 2 rfl) (ow hw 6 rfl) (by decide) (fun hZ H hEL => Pay.of_met (W := 0) (own_len l Z a0 cx [] (x) vm h0 O1 ) (ow hw 6 rfl) (ow hw 2 rfl) (by decide) (by decide) hZ H hEL) 4 (argsL := [(.int x)]) (rest := []) (lenOf own_pd39 rfl) rfl rfl (Nat.le_of_eq rfl) (by rw [hml]; rfl) (hb hby own_d_method_4_1) rfl (by decide) (by decide) ?_
  rintro _ vm1 h1 C1 ⟨rfl, rfl⟩
  have z1 := C1.2.1
  refine gat (mkF m 4 #[.val (.int x), .val (.int y), .unset, .unset] [(.int ((((x.toUInt32 >>> ((16 : Int32) &&& 31).toUInt32).toInt32) &&& (3 : Int32)) % (3 : Int32)))]) rfl ?_
  refine gs (mkF m 5 #[.val (.int x), .val (.int y), .val (.int ((((x.toUInt32 >>> ((16 : Int32) &&& 31).toUInt32).toInt32) &&& (3 : Int32)) % (3 : Int32))), .unset] []) (fun _ _ A k => XS.istoreN A hx rfl (hb hby own_d_method_4_4) rfl (l' := #[.val (.int x), .val (.int y), .val (.int ((((x.toUInt32 >>> ((16 : Int32) &&& 31).toUInt32).toInt32) &&& (3 : Int32)) % (3 : Int32))), .unset]) rfl k) ?_
  refine gs (mkF m 6 #[.val (.int x), .val (.int y), .val (.int ((((x.toUInt32 >>> ((16 : Int32) &&& 31).toUInt32).toInt32) &&& (3 : Int32)) % (3 : Int32))), .unset] [(.int y)]) (fun _ _ A k => XS.iloadN A hx rfl (hb hby own_d_method_4_5) rfl  k) ?_
  refine ginfo fun _ _ O2 => ?_
  refine gcallS (y := (⟨"com/example/tasks_to_members/taskstomembers/core/TaskEqualsPinLaw", "len", "(I)I"⟩ : MethodName)) hx (ow hw 4 rfl) (ow hw 5 rfl) (ow hw 2 rfl) (ow hw 6 rfl) (by decide) (fun hZ H hEL => Pay.of_met (W := 0) (own_len l Z a0 cx [] (y) vm1 h0 O2 ) (ow hw 6 rfl) (ow hw 2 rfl) (by decide) (by decide) hZ H hEL) 9 (argsL := [(.int y)]) (rest := []) (lenOf own_pd39 rfl) rfl rfl (Nat.le_of_eq rfl) (by rw [hml]; rfl) (hb hby own_d_method_4_6) rfl (by decide) (by decide) ?_
  rintro _ vm2 h2 C2 ⟨rfl, rfl⟩
  have z2 := C2.2.1
  refine gat (mkF m 9 #[.val (.int x), .val (.int y), .val (.int ((((x.toUInt32 >>> ((16 : Int32) &&& 31).toUInt32).toInt32) &&& (3 : Int32)) % (3 : Int32))), .unset] [(.int ((((y.toUInt32 >>> ((16 : Int32) &&& 31).toUInt32).toInt32) &&& (3 : Int32)) % (3 : Int32)))]) rfl ?_
  refine gs (mkF m 10 #[.val (.int x), .val (.int y), .val (.int ((((x.toUInt32 >>> ((16 : Int32) &&& 31).toUInt32).toInt32) &&& (3 : Int32)) % (3 : Int32))), .val (.int ((((y.toUInt32 >>> ((16 : Int32) &&& 31).toUInt32).toInt32) &&& (3 : Int32)) % (3 : Int32)))] []) (fun _ _ A k => XS.istoreN A hx rfl (hb hby own_d_method_4_9) rfl (l' := #[.val (.int x), .val (.int y), .val (.int ((((x.toUInt32 >>> ((16 : Int32) &&& 31).toUInt32).toInt32) &&& (3 : Int32)) % (3 : Int32))), .val (.int ((((y.toUInt32 >>> ((16 : Int32) &&& 31).toUInt32).toInt32) &&& (3 : Int32)) % (3 : Int32)))]) rfl k) ?_
  rcases own_len3 x with q | q | q
  · rw [q]
    rcases own_len3 y with w | w | w
    · rw [w]
      rw [own_cs0 q, own_cs0 w] at P0
      refine gs (mkF m 11 #[.val (.int x), .val (.int y), .val (.int (0 : Int32)), .val (.int (0 : Int32))] [(.int (0 : Int32))]) (fun _ _ A k => XS.iloadN A hx rfl (hb hby own_d_method_4_10) rfl  k) ?_
      refine gs (mkF m 12 #[.val (.int x), .val (.int y), .val (.int (0 : Int32)), .val (.int (0 : Int32))] [(.int (0 : Int32)), (.int (0 : Int32))]) (fun _ _ A k => XS.iloadN A hx rfl (hb hby own_d_method_4_11) rfl  k) ?_
      refine gs (mkF m 17 #[.val (.int x), .val (.int y), .val (.int (0 : Int32)), .val (.int (0 : Int32))] []) (fun _ _ A k => XS.icmpYes A hx rfl (pc0 := 12) (pc' := 17) rfl (hb hby own_d_method_4_12) rfl (teq (by decide)).1 (by decide) (by decide) k) ?_
      refine gs (mkF m 18 #[.val (.int x), .val (.int y), .val (.int (0 : Int32)), .val (.int (0 : Int32))] [(.int (0 : Int32))]) (fun _ _ A k => XS.iloadN A hx rfl (hb hby own_d_method_4_17) rfl  k) ?_
      refine gs (mkF m 19 #[.val (.int x), .val (.int y), .val (.int (0 : Int32)), .val (.int (0 : Int32))] [(.int (1 : Int32)), (.int (0 : Int32))]) (fun _ _ A k => XS.iconst A hx rfl (hb hby own_d_method_4_18) k) ?_
      refine gs (mkF m 37 #[.val (.int x), .val (.int y), .val (.int (0 : Int32)), .val (.int (0 : Int32))] []) (fun _ _ A k => XS.icmpYes A hx rfl (pc0 := 19) (pc' := 37) rfl (hb hby own_d_method_4_19) rfl (tlt (by decide)).1 (by decide) (by decide) k) ?_
      refine gs (mkF m 38 #[.val (.int x), .val (.int y), .val (.int (0 : Int32)), .val (.int (0 : Int32))] [(.int (0 : Int32))]) (fun _ _ A k => XS.iloadN A hx rfl (hb hby own_d_method_4_37) rfl  k) ?_
      refine gs (mkF m 39 #[.val (.int x), .val (.int y), .val (.int (0 : Int32)), .val (.int (0 : Int32))] [(.int (2 : Int32)), (.int (0 : Int32))]) (fun _ _ A k => XS.iconst A hx rfl (hb hby own_d_method_4_38) k) ?_
      refine gs (mkF m 63 #[.val (.int x), .val (.int y), .val (.int (0 : Int32)), .val (.int (0 : Int32))] []) (fun _ _ A k => XS.icmpYes A hx rfl (pc0 := 39) (pc' := 63) rfl (hb hby own_d_method_4_39) rfl (tlt (by decide)).1 (by decide) (by decide) k) ?_
      refine gs (mkF m 64 #[.val (.int x), .val (.int y), .val (.int (0 : Int32)), .val (.int (0 : Int32))] [(.int (1 : Int32))]) (fun _ _ A k => XS.iconst A hx rfl (hb hby own_d_method_4_63) k) ?_
      exact gretN (t := .boolean) hx hret (by simp) (hb hby own_d_method_4_64) (by decide) (by decide) (fun vq Cq => ⟨(by rw [(P0.1 rfl)]; rfl), rfl⟩)
    · rw [w]
      rw [own_cs0 q, own_cs1 w] at P0
      refine gs (mkF m 11 #[.val (.int x), .val (.int y), .val (.int (0 : Int32)), .val (.int (1 : Int32))] [(.int (0 : Int32))]) (fun _ _ A k => XS.iloadN A hx rfl (hb hby own_d_method_4_10) rfl  k) ?_
      refine gs (mkF m 12 #[.val (.int x), .val (.int y), .val (.int (0 : Int32)), .val (.int (1 : Int32))] [(.int (1 : Int32)), (.int (0 : Int32))]) (fun _ _ A k => XS.iloadN A hx rfl (hb hby own_d_method_4_11) rfl  k) ?_
      refine gs (mkF m 15 #[.val (.int x), .val (.int y), .val (.int (0 : Int32)), .val (.int (1 : Int32))] []) (fun _ _ A k => XS.icmpNo A hx rfl (hb hby own_d_method_4_12) rfl (feq (by decide)).1 k) ?_
      refine gs (mkF m 16 #[.val (.int x), .val (.int y), .val (.int (0 : Int32)), .val (.int (1 : Int32))] [(.int (0 : Int32))]) (fun _ _ A k => XS.iconst A hx rfl (hb hby own_d_method_4_15) k) ?_
      exact gretN (t := .boolean) hx hret (by simp) (hb hby own_d_method_4_16) (by decide) (by decide) (fun vq Cq => ⟨(by rw [(P0.2 (fun q => absurd (congrArg List.length q) (by simp)))]; rfl), rfl⟩)
    · rw [w]
      rw [own_cs0 q, own_cs2 w] at P0
      refine gs (mkF m 11 #[.val (.int x), .val (.int y), .val (.int (0 : Int32)), .val (.int (2 : Int32))] [(.int (0 : Int32))]) (fun _ _ A k => XS.iloadN A hx rfl (hb hby own_d_method_4_10) rfl  k) ?_
      refine gs (mkF m 12 #[.val (.int x), .val (.int y), .val (.int (0 : Int32)), .val (.int (2 : Int32))] [(.int (2 : Int32)), (.int (0 : Int32))]) (fun _ _ A k => XS.iloadN A hx rfl (hb hby own_d_method_4_11) rfl  k) ?_
      refine gs (mkF m 15 #[.val (.int x), .val (.int y), .val (.int (0 : Int32)), .val (.int (2 : Int32))] []) (fun _ _ A k => XS.icmpNo A hx rfl (hb hby own_d_method_4_12) rfl (feq (by decide)).1 k) ?_
      refine gs (mkF m 16 #[.val (.int x), .val (.int y), .val (.int (0 : Int32)), .val (.int (2 : Int32))] [(.int (0 : Int32))]) (fun _ _ A k => XS.iconst A hx rfl (hb hby own_d_method_4_15) k) ?_
      exact gretN (t := .boolean) hx hret (by simp) (hb hby own_d_method_4_16) (by decide) (by decide) (fun vq Cq => ⟨(by rw [(P0.2 (fun q => absurd (congrArg List.length q) (by simp)))]; rfl), rfl⟩)
  · rw [q]
    rcases own_len3 y with w | w | w
    · rw [w]
      rw [own_cs1 q, own_cs0 w] at P0
      refine gs (mkF m 11 #[.val (.int x), .val (.int y), .val (.int (1 : Int32)), .val (.int (0 : Int32))] [(.int (1 : Int32))]) (fun _ _ A k => XS.iloadN A hx rfl (hb hby own_d_method_4_10) rfl  k) ?_
      refine gs (mkF m 12 #[.val (.int x), .val (.int y), .val (.int (1 : Int32)), .val (.int (0 : Int32))] [(.int (0 : Int32)), (.int (1 : Int32))]) (fun _ _ A k => XS.iloadN A hx rfl (hb hby own_d_method_4_11) rfl  k) ?_
      refine gs (mkF m 15 #[.val (.int x), .val (.int y), .val (.int (1 : Int32)), .val (.int (0 : Int32))] []) (fun _ _ A k => XS.icmpNo A hx rfl (hb hby own_d_method_4_12) rfl (feq (by decide)).1 k) ?_
      refine gs (mkF m 16 #[.val (.int x), .val (.int y), .val (.int (1 : Int32)), .val (.int (0 : Int32))] [(.int (0 : Int32))]) (fun _ _ A k => XS.iconst A hx rfl (hb hby own_d_method_4_15) k) ?_
      exact gretN (t := .boolean) hx hret (by simp) (hb hby own_d_method_4_16) (by decide) (by decide) (fun vq Cq => ⟨(by rw [(P0.2 (fun q => absurd (congrArg List.length q) (by simp)))]; rfl), rfl⟩)
    · rw [w]
      rw [own_cs1 q, own_cs1 w] at P0
      refine gs (mkF m 11 #[.val (.int x), .val (.int y), .val (.int (1 : Int32)), .val (.int (1 : Int32))] [(.int (1 : Int32))]) (fun _ _ A k => XS.iloadN A hx rfl (hb hby own_d_method_4_10) rfl  k) ?_
      refine gs (mkF m 12 #[.val (.int x), .val (.int y), .val (.int (1 : Int32)), .val (.int (1 : Int32))] [(.int (1 : Int32)), (.int (1 : Int32))]) (fun _ _ A k => XS.iloadN A hx rfl (hb hby own_d_method_4_11) rfl  k) ?_
      refine gs (mkF m 17 #[.val (.int x), .val (.int y), .val (.int (1 : Int32)), .val (.int (1 : Int32))] []) (fun _ _ A k => XS.icmpYes A hx rfl (pc0 := 12) (pc' := 17) rfl (hb hby own_d_method_4_12) rfl (teq (by decide)).1 (by decide) (by decide) k) ?_
      refine gs (mkF m 18 #[.val (.int x), .val (.int y), .val (.int (1 : Int32)), .val (.int (1 : Int32))] [(.int (1 : Int32))]) (fun _ _ A k => XS.iloadN A hx rfl (hb hby own_d_method_4_17) rfl  k) ?_
      refine gs (mkF m 19 #[.val (.int x), .val (.int y), .val (.int (1 : Int32)), .val (.int (1 : Int32))] [(.int (1 : Int32)), (.int (1 : Int32))]) (fun _ _ A k => XS.iconst A hx rfl (hb hby own_d_method_4_18) k) ?_
      refine gs (mkF m 22 #[.val (.int x), .val (.int y), .val (.int (1 : Int32)), .val (.int (1 : Int32))] []) (fun _ _ A k => XS.icmpNo A hx rfl (hb hby own_d_method_4_19) rfl (flt (by decide)).1 k) ?_
      refine gs (mkF m 23 #[.val (.int x), .val (.int y), .val (.int (1 : Int32)), .val (.int (1 : Int32))] [(.int x)]) (fun _ _ A k => XS.iloadN A hx rfl (hb hby own_d_method_4_22) rfl  k) ?_
      refine gs (mkF m 26 #[.val (.int x), .val (.int y), .val (.int (1 : Int32)), .val (.int (1 : Int32))] [(.int (255 : Int32)), (.int x)]) (fun _ _ A k => XS.sipush A hx rfl (hb hby own_d_method_4_23) k) ?_
      refine gs (mkF m 27 #[.val (.int x), .val (.int y), .val (.int (1 : Int32)), .val (.int (1 : Int32))] [(.int (x &&& (255 : Int32)))]) (fun _ _ A k => XS.iand A hx rfl (hb hby own_d_method_4_26) rfl k) ?_
      refine gs (mkF m 28 #[.val (.int x), .val (.int y), .val (.int (1 : Int32)), .val (.int (1 : Int32))] [(.int y), (.int (x &&& (255 : Int32)))]) (fun _ _ A k => XS.iloadN A hx rfl (hb hby own_d_method_4_27) rfl  k) ?_
      refine gs (mkF m 31 #[.val (.int x), .val (.int y), .val (.int (1 : Int32)), .val (.int (1 : Int32))] [(.int (255 : Int32)), (.int y), (.int (x &&& (255 : Int32)))]) (fun _ _ A k => XS.sipush A hx rfl (hb hby own_d_method_4_28) k) ?_
      refine gs (mkF m 32 #[.val (.int x), .val (.int y), .val (.int (1 : Int32)), .val (.int (1 : Int32))] [(.int (y &&& (255 : Int32))), (.int (x &&& (255 : Int32)))]) (fun _ _ A k => XS.iand A hx rfl (hb hby own_d_method_4_31) rfl k) ?_
      by_cases c0 : (x &&& (255 : Int32)) = (y &&& (255 : Int32))
      · refine gs (mkF m 37 #[.val (.int x), .val (.int y), .val (.int (1 : Int32)), .val (.int (1 : Int32))] []) (fun _ _ A k => XS.icmpYes A hx rfl (pc0 := 32) (pc' := 37) rfl (hb hby own_d_method_4_32) rfl (teq c0).1 (by decide) (by decide) k) ?_
        refine gs (mkF m 38 #[.val (.int x), .val (.int y), .val (.int (1 : Int32)), .val (.int (1 : Int32))] [(.int (1 : Int32))]) (fun _ _ A k => XS.iloadN A hx rfl (hb hby own_d_method_4_37) rfl  k) ?_
        refine gs (mkF m 39 #[.val (.int x), .val (.int y), .val (.int (1 : Int32)), .val (.int (1 : Int32))] [(.int (2 : Int32)), (.int (1 : Int32))]) (fun _ _ A k => XS.iconst A hx rfl (hb hby own_d_method_4_38) k) ?_
        refine gs (mkF m 63 #[.val (.int x), .val (.int y), .val (.int (1 : Int32)), .val (.int (1 : Int32))] []) (fun _ _ A k => XS.icmpYes A hx rfl (pc0 := 39) (pc' := 63) rfl (hb hby own_d_method_4_39) rfl (tlt (by decide)).1 (by decide) (by decide) k) ?_
        refine gs (mkF m 64 #[.val (.int x), .val (.int y), .val (.int (1 : Int32)), .val (.int (1 : Int32))] [(.int (1 : Int32))]) (fun _ _ A k => XS.iconst A hx rfl (hb hby own_d_method_4_63) k) ?_
        exact gretN (t := .boolean) hx hret (by simp) (hb hby own_d_method_4_64) (by decide) (by decide) (fun vq Cq => ⟨(by rw [(P0.1 (by rw [c0]))]; rfl), rfl⟩)
      · refine gs (mkF m 35 #[.val (.int x), .val (.int y), .val (.int (1 : Int32)), .val (.int (1 : Int32))] []) (fun _ _ A k => XS.icmpNo A hx rfl (hb hby own_d_method_4_32) rfl (feq c0).1 k) ?_
        refine gs (mkF m 36 #[.val (.int x), .val (.int y), .val (.int (1 : Int32)), .val (.int (1 : Int32))] [(.int (0 : Int32))]) (fun _ _ A k => XS.iconst A hx rfl (hb hby own_d_method_4_35) k) ?_
        exact gretN (t := .boolean) hx hret (by simp) (hb hby own_d_method_4_36) (by decide) (by decide) (fun vq Cq => ⟨(by rw [(P0.2 (fun q => absurd (List.cons.inj q).1 c0))]; rfl), rfl⟩)
    · rw [w]
      rw [own_cs1 q, own_cs2 w] at P0
      refine gs (mkF m 11 #[.val (.int x), .val (.int y), .val (.int (1 : Int32)), .val (.int (2 : Int32))] [(.int (1 : Int32))]) (fun _ _ A k => XS.iloadN A hx rfl (hb hby own_d_method_4_10) rfl  k) ?_
      refine gs (mkF m 12 #[.val (.int x), .val (.int y), .val (.int (1 : Int32)), .val (.int (2 : Int32))] [(.int (2 : Int32)), (.int (1 : Int32))]) (fun _ _ A k => XS.iloadN A hx rfl (hb hby own_d_method_4_11) rfl  k) ?_
      refine gs (mkF m 15 #[.val (.int x), .val (.int y), .val (.int (1 : Int32)), .val (.int (2 : Int32))] []) (fun _ _ A k => XS.icmpNo A hx rfl (hb hby own_d_method_4_12) rfl (feq (by decide)).1 k) ?_
      refine gs (mkF m 16 #[.val (.int x), .val (.int y), .val (.int (1 : Int32)), .val (.int (2 : Int32))] [(.int (0 : Int32))]) (fun _ _ A k => XS.iconst A hx rfl (hb hby own_d_method_4_15) k) ?_
      exact gretN (t := .boolean) hx hret (by simp) (hb hby own_d_method_4_16) (by decide) (by decide) (fun vq Cq => ⟨(by rw [(P0.2 (fun q => absurd (congrArg List.length q) (by simp)))]; rfl), rfl⟩)
  · rw [q]
    rcases own_len3 y with w | w | w
    · rw [w]
      rw [own_cs2 q, own_cs0 w] at P0
      refine gs (mkF m 11 #[.val (.int x), .val (.int y), .val (.int (2 : Int32)), .val (.int (0 : Int32))] [(.int (2 : Int32))]) (fun _ _ A k => XS.iloadN A hx rfl (hb hby own_d_method_4_10) rfl  k) ?_
      refine gs (mkF m 12 #[.val (.int x), .val (.int y), .val (.int (2 : Int32)), .val (.int (0 : Int32))] [(.int (0 : Int32)), (.int (2 : Int32))]) (fun _ _ A k => XS.iloadN A hx rfl (hb hby own_d_method_4_11) rfl  k) ?_
      refine gs (mkF m 15 #[.val (.int x), .val (.int y), .val (.int (2 : Int32)), .val (.int (0 : Int32))] []) (fun _ _ A k => XS.icmpNo A hx rfl (hb hby own_d_method_4_12) rfl (feq (by decide)).1 k) ?_
      refine gs (mkF m 16 #[.val (.int x), .val (.int y), .val (.int (2 : Int32)), .val (.int (0 : Int32))] [(.int (0 : Int32))]) (fun _ _ A k => XS.iconst A hx rfl (hb hby own_d_method_4_15) k) ?_
      exact gretN (t := .boolean) hx hret (by simp) (hb hby own_d_method_4_16) (by decide) (by decide) (fun vq Cq => ⟨(by rw [(P0.2 (fun q => absurd (congrArg List.length q) (by simp)))]; rfl), rfl⟩)
    · rw [w]
      rw [own_cs2 q, own_cs1 w] at P0
      refine gs (mkF m 11 #[.val (.int x), .val (.int y), .val (.int (2 : Int32)), .val (.int (1 : Int32))] [(.int (2 : Int32))]) (fun _ _ A k => XS.iloadN A hx rfl (hb hby own_d_method_4_10) rfl  k) ?_
      refine gs (mkF m 12 #[.val (.int x), .val (.int y), .val (.int (2 : Int32)), .val (.int (1 : Int32))] [(.int (1 : Int32)), (.int (2 : Int32))]) (fun _ _ A k => XS.iloadN A hx rfl (hb hby own_d_method_4_11) rfl  k) ?_
      refine gs (mkF m 15 #[.val (.int x), .val (.int y), .val (.int (2 : Int32)), .val (.int (1 : Int32))] []) (fun _ _ A k => XS.icmpNo A hx rfl (hb hby own_d_method_4_12) rfl (feq (by decide)).1 k) ?_
      refine gs (mkF m 16 #[.val (.int x), .val (.int y), .val (.int (2 : Int32)), .val (.int (1 : Int32))] [(.int (0 : Int32))]) (fun _ _ A k => XS.iconst A hx rfl (hb hby own_d_method_4_15) k) ?_
      exact gretN (t := .boolean) hx hret (by simp) (hb hby own_d_method_4_16) (by decide) (by decide) (fun vq Cq => ⟨(by rw [(P0.2 (fun q => absurd (congrArg List.length q) (by simp)))]; rfl), rfl⟩)
    · rw [w]
      rw [own_cs2 q, own_cs2 w] at P0
      refine gs (mkF m 11 #[.val (.int x), .val (.int y), .val (.int (2 : Int32)), .val (.int (2 : Int32))] [(.int (2 : Int32))]) (fun _ _ A k => XS.iloadN A hx rfl (hb hby own_d_method_4_10) rfl  k) ?_
      refine gs (mkF m 12 #[.val (.int x), .val (.int y), .val (.int (2 : Int32)), .val (.int (2 : Int32))] [(.int (2 : Int32)), (.int (2 : Int32))]) (fun _ _ A k => XS.iloadN A hx rfl (hb hby own_d_method_4_11) rfl  k) ?_
      refine gs (mkF m 17 #[.val (.int x), .val (.int y), .val (.int (2 : Int32)), .val (.int (2 : Int32))] []) (fun _ _ A k => XS.icmpYes A hx rfl (pc0 := 12) (pc' := 17) rfl (hb hby own_d_method_4_12) rfl (teq (by decide)).1 (by decide) (by decide) k) ?_
      refine gs (mkF m 18 #[.val (.int x), .val (.int y), .val (.int (2 : Int32)), .val (.int (2 : Int32))] [(.int (2 : Int32))]) (fun _ _ A k => XS.iloadN A hx rfl (hb hby own_d_method_4_17) rfl  k) ?_
      refine gs (mkF m 19 #[.val (.int x), .val (.int y), .val (.int (2 : Int32)), .val (.int (2 : Int32))] [(.int (1 : Int32)), (.int (2 : Int32))]) (fun _ _ A k => XS.iconst A hx rfl (hb hby own_d_method_4_18) k) ?_
      refine gs (mkF m 22 #[.val (.int x), .val (.int y), .val (.int (2 : Int32)), .val (.int (2 : Int32))] []) (fun _ _ A k => XS.icmpNo A hx rfl (hb hby own_d_method_4_19) rfl (flt (by decide)).1 k) ?_
      refine gs (mkF m 23 #[.val (.int x), .val (.int y), .val (.int (2 : Int32)), .val (.int (2 : Int32))] [(.int x)]) (fun _ _ A k => XS.iloadN A hx rfl (hb hby own_d_method_4_22) rfl  k) ?_
      refine gs (mkF m 26 #[.val (.int x), .val (.int y), .val (.int (2 : Int32)), .val (.int (2 : Int32))] [(.int (255 : Int32)), (.int x)]) (fun _ _ A k => XS.sipush A hx rfl (hb hby own_d_method_4_23) k) ?_
      refine gs (mkF m 27 #[.val (.int x), .val (.int y), .val (.int (2 : Int32)), .val (.int (2 : Int32))] [(.int (x &&& (255 : Int32)))]) (fun _ _ A k => XS.iand A hx rfl (hb hby own_d_method_4_26) rfl k) ?_
      refine gs (mkF m 28 #[.val (.int x), .val (.int y), .val (.int (2 : Int32)), .val (.int (2 : Int32))] [(.int y), (.int (x &&& (255 : Int32)))]) (fun _ _ A k => XS.iloadN A hx rfl (hb hby own_d_method_4_27) rfl  k) ?_
      refine gs (mkF m 31 #[.val (.int x), .val (.int y), .val (.int (2 : Int32)), .val (.int (2 : Int32))] [(.int (255 : Int32)), (.int y), (.int (x &&& (255 : Int32)))]) (fun _ _ A k => XS.sipush A hx rfl (hb hby own_d_method_4_28) k) ?_
      refine gs (mkF m 32 #[.val (.int x), .val (.int y), .val (.int (2 : Int32)), .val (.int (2 : Int32))] [(.int (y &&& (255 : Int32))), (.int (x &&& (255 : Int32)))]) (fun _ _ A k => XS.iand A hx rfl (hb hby own_d_method_4_31) rfl k) ?_
      by_cases c0 : (x &&& (255 : Int32)) = (y &&& (255 : Int32))
      · refine gs (mkF m 37 #[.val (.int x), .val (.int y), .val (.int (2 : Int32)), .val (.int (2 : Int32))] []) (fun _ _ A k => XS.icmpYes A hx rfl (pc0 := 32) (pc' := 37) rfl (hb hby own_d_method_4_32) rfl (teq c0).1 (by decide) (by decide) k) ?_
        refine gs (mkF m 38 #[.val (.int x), .val (.int y), .val (.int (2 : Int32)), .val (.int (2 : Int32))] [(.int (2 : Int32))]) (fun _ _ A k => XS.iloadN A hx rfl (hb hby own_d_method_4_37) rfl  k) ?_
        refine gs (mkF m 39 #[.val (.int x), .val (.int y), .val (.int (2 : Int32)), .val (.int (2 : Int32))] [(.int (2 : Int32)), (.int (2 : Int32))]) (fun _ _ A k => XS.iconst A hx rfl (hb hby own_d_method_4_38) k) ?_
        refine gs (mkF m 42 #[.val (.int x), .val (.int y), .val (.int (2 : Int32)), .val (.int (2 : Int32))] []) (fun _ _ A k => XS.icmpNo A hx rfl (hb hby own_d_method_4_39) rfl (flt (by decide)).1 k) ?_
        refine gs (mkF m 43 #[.val (.int x), .val (.int y), .val (.int (2 : Int32)), .val (.int (2 : Int32))] [(.int x)]) (fun _ _ A k => XS.iloadN A hx rfl (hb hby own_d_method_4_42) rfl  k) ?_
        refine gs (mkF m 45 #[.val (.int x), .val (.int y), .val (.int (2 : Int32)), .val (.int (2 : Int32))] [(.int (8 : Int32)), (.int x)]) (fun _ _ A k => XS.bipush A hx rfl (hb hby own_d_method_4_43) k) ?_
        refine gs (mkF m 46 #[.val (.int x), .val (.int y), .val (.int (2 : Int32)), .val (.int (2 : Int32))] [(.int ((x.toUInt32 >>> ((8 : Int32) &&& 31).toUInt32).toInt32))]) (fun _ _ A k => XS.iushr A hx rfl (hb hby own_d_method_4_45) rfl k) ?_
        refine gs (mkF m 49 #[.val (.int x), .val (.int y), .val (.int (2 : Int32)), .val (.int (2 : Int32))] [(.int (255 : Int32)), (.int ((x.toUInt32 >>> ((8 : Int32) &&& 31).toUInt32).toInt32))]) (fun _ _ A k => XS.sipush A hx rfl (hb hby own_d_method_4_46) k) ?_
        refine gs (mkF m 50 #[.val (.int x), .val (.int y), .val (.int (2 : Int32)), .val (.int (2 : Int32))] [(.int (((x.toUInt32 >>> ((8 : Int32) &&& 31).toUInt32).toInt32) &&& (255 : Int32)))]) (fun _ _ A k => XS.iand A hx rfl (hb hby own_d_method_4_49) rfl k) ?_
        refine gs (mkF m 51 #[.val (.int x), .val (.int y), .val (.int (2 : Int32)), .val (.int (2 : Int32))] [(.int y), (.int (((x.toUInt32 >>> ((8 : Int32) &&& 31).toUInt32).toInt32) &&& (255 : Int32)))]) (fun _ _ A k => XS.iloadN A hx rfl (hb hby own_d_method_4_50) rfl  k) ?_
        refine gs (mkF m 53 #[.val (.int x), .val (.int y), .val (.int (2 : Int32)), .val (.int (2 : Int32))] [(.int (8 : Int32)), (.int y), (.int (((x.toUInt32 >>> ((8 : Int32) &&& 31).toUInt32).toInt32) &&& (255 : Int32)))]) (fun _ _ A k => XS.bipush A hx rfl (hb hby own_d_method_4_51) k) ?_
        refine gs (mkF m 54 #[.val (.int x), .val (.int y), .val (.int (2 : Int32)), .val (.int (2 : Int32))] [(.int ((y.toUInt32 >>> ((8 : Int32) &&& 31).toUInt32).toInt32)), (.int (((x.toUInt32 >>> ((8 : Int32) &&& 31).toUInt32).toInt32) &&& (255 : Int32)))]) (fun _ _ A k => XS.iushr A hx rfl (hb hby own_d_method_4_53) rfl k) ?_
        refine gs (mkF m 57 #[.val (.int x), .val (.int y), .val (.int (2 : Int32)), .val (.int (2 : Int32))] [(.int (255 : Int32)), (.int ((y.toUInt32 >>> ((8 : Int32) &&& 31).toUInt32).toInt32)), (.int (((x.toUInt32 >>> ((8 : Int32) &&& 31).toUInt32).toInt32) &&& (255 : Int32)))]) (fun _ _ A k => XS.sipush A hx rfl (hb hby own_d_method_4_54) k) ?_
        refine gs (mkF m 58 #[.val (.int x), .val (.int y), .val (.int (2 : Int32)), .val (.int (2 : Int32))] [(.int (((y.toUInt32 >>> ((8 : Int32) &&& 31).toUInt32).toInt32) &&& (255 : Int32))), (.int (((x.toUInt32 >>> ((8 : Int32) &&& 31).toUInt32).toInt32) &&& (255 : Int32)))]) (fun _ _ A k => XS.iand A hx rfl (hb hby own_d_method_4_57) rfl k) ?_
        by_cases c1 : (((x.toUInt32 >>> ((8 : Int32) &&& 31).toUInt32).toInt32) &&& (255 : Int32)) = (((y.toUInt32 >>> ((8 : Int32) &&& 31).toUInt32).toInt32) &&& (255 : Int32))
        · refine gs (mkF m 63 #[.val (.int x), .val (.int y), .val (.int (2 : Int32)), .val (.int (2 : Int32))] []) (fun _ _ A k => XS.icmpYes A hx rfl (pc0 := 58) (pc' := 63) rfl (hb hby own_d_method_4_58) rfl (teq c1).1 (by decide) (by decide) k) ?_
          refine gs (mkF m 64 #[.val (.int x), .val (.int y), .val (.int (2 : Int32)), .val (.int (2 : Int32))] [(.int (1 : Int32))]) (fun _ _ A k => XS.iconst A hx rfl (hb hby own_d_method_4_63) k) ?_
          exact gretN (t := .boolean) hx hret (by simp) (hb hby own_d_method_4_64) (by decide) (by decide) (fun vq Cq => ⟨(by rw [(P0.1 (by rw [c0, c1]))]; rfl), rfl⟩)
        · refine gs (mkF m 61 #[.val (.int x), .val (.int y), .val (.int (2 : Int32)), .val (.int (2 : Int32))] []) (fun _ _ A k => XS.icmpNo A hx rfl (hb hby own_d_method_4_58) rfl (feq c1).1 k) ?_
          refine gs (mkF m 62 #[.val (.int x), .val (.int y), .val (.int (2 : Int32)), .val (.int (2 : Int32))] [(.int (0 : Int32))]) (fun _ _ A k => XS.iconst A hx rfl (hb hby own_d_method_4_61) k) ?_
          exact gretN (t := .boolean) hx hret (by simp) (hb hby own_d_method_4_62) (by decide) (by decide) (fun vq Cq => ⟨(by rw [(P0.2 (fun q => absurd (List.cons.inj (List.cons.inj q).2).1 c1))]; rfl), rfl⟩)
      · refine gs (mkF m 35 #[.val (.int x), .val (.int y), .val (.int (2 : Int32)), .val (.int (2 : Int32))] []) (fun _ _ A k => XS.icmpNo A hx rfl (hb hby own_d_method_4_32) rfl (feq c0).1 k) ?_
        refine gs (mkF m 36 #[.val (.int x), .val (.int y), .val (.int (2 : Int32)), .val (.int (2 : Int32))] [(.int (0 : Int32))]) (fun _ _ A k => XS.iconst A hx rfl (hb hby own_d_method_4_35) k) ?_
        exact gretN (t := .boolean) hx hret (by simp) (hb hby own_d_method_4_36) (by decide) (by decide) (fun vq Cq => ⟨(by rw [(P0.2 (fun q => absurd (List.cons.inj q).1 c0))]; rfl), rfl⟩)
theorem own_d_prog_6_method_1_0 : decode prog_6_method_1_code 0 = .ok (.aload_n 0, 1) := by decide +kernel
theorem own_d_prog_6_method_1_1 : decode prog_6_method_1_code 1 = .ok (.invokespecial 1, 3) := by decide +kernel
theorem own_d_prog_6_method_1_4 : decode prog_6_method_1_code 4 = .ok (.aload_n 0, 1) := by decide +kernel
theorem own_d_prog_6_method_1_5 : decode prog_6_method_1_code 5 = .ok (.aload_n 1, 1) := by decide +kernel
theorem own_d_prog_6_method_1_6 : decode prog_6_method_1_code 6 = .ok (.ldc 7, 2) := by decide +kernel
theorem own_d_prog_6_method_1_8 : decode prog_6_method_1_code 8 = .ok (.invokestatic 9, 3) := by decide +kernel
theorem own_pd140 : parseMethodDescriptor "(Ljava/lang/Object;Ljava/lang/String;)Ljava/lang/Object;" = some ⟨[(.object "java/lang/Object"), (.object "java/lang/String")], some (.object "java/lang/Object")⟩ := by decide +kernel
theorem own_d_prog_6_method_1_11 : decode prog_6_method_1_code 11 = .ok (.checkcast 15, 3) := by decide +kernel
theorem own_d_prog_6_method_1_14 : decode prog_6_method_1_code 14 = .ok (.putfield 17, 3) := by decide +kernel
theorem own_d_prog_6_method_1_17 : decode prog_6_method_1_code 17 = .ok (.aload_n 0, 1) := by decide +kernel
theorem own_d_prog_6_method_1_18 : decode prog_6_method_1_code 18 = .ok (.iload_n 2, 1) := by decide +kernel
theorem own_d_prog_6_method_1_19 : decode prog_6_method_1_code 19 = .ok (.putfield 23, 3) := by decide +kernel
theorem own_d_prog_6_method_1_22 : decode prog_6_method_1_code 22 = .ok (.return_, 1) := by decide +kernel
theorem own_pn147 : plainName "com/example/tasks_to_members/taskstomembers/core/Task" = true := by first | (simp [plainName, overriddenIn]; done) | decide +kernel
set_option maxRecDepth 65536 in
set_option maxHeartbeats 40000000 in
theorem own_tinit (l : Launch) (Z : State) (a0 : Array Value) (cx : Ctx Z a0) (ws : List Jvm.Cond) (x : Addr) (s1 : Addr) (n : Int32) (u1 : Value) (u2 : Value) (t1 : Addr) (c1 : List Int32) (vm0 : Vm) (h0 : Heap) (X00 : Ext Z.heap h0) (P0 : Exa Z h0 x "com/example/tasks_to_members/taskstomembers/core/Task") (P1 : Fld Z h0 x "com/example/tasks_to_members/taskstomembers/core/Task" "subtopologyId" "Ljava/lang/String;" u1) (P2 : Fld Z h0 x "com/example/tasks_to_members/taskstomembers/core/Task" "partition" "I" u2) (P3 : Z.heap.size ≤ x) (P4 : Str Z h0 s1 t1 c1) :
    Met l (⟨"com/example/tasks_to_members/taskstomembers/core/Task", "<init>", "(Ljava/lang/String;I)V"⟩ : MethodName) prog_6_method_1_code 3 none ws ({ frames := 1, cells := 2, slots := 60, locals := 14 } : Room) Z consts_1 vm0 h0 #[(.ref x), (.ref s1), (.int n)] (fun v vm h => v = none ∧ Keep h0 h [x] ∧ Fld Z h x "com/example/tasks_to_members/taskstomembers/core/Task" "subtopologyId" "Ljava/lang/String;" (.ref s1) ∧ Fld Z h x "com/example/tasks_to_members/taskstomembers/core/Task" "partition" "I" (.int n)) := by
  obtain ⟨hw, hEL, ⟨zc, Scs, hzc⟩, ⟨fm, Sfm, hfm⟩, ⟨cach, ccl, Shi, Sca, Aca, zca, hca⟩⟩ := id cx
  have hSA := own_SA hw
  refine Met.of_walk (a0 := a0) #[.val (.ref x), .val (.ref s1), .val (.int n)] (plainFor_of_name own_pn147) X00 hEL (fun m => by first | (simp [entryFrame, mkF, argsToLocals, Value.category]; done) | rfl) ?_
  intro p e s m below meth c vm hx hby hml hret hnm hC0
  have lt_x : h0.size > x := P0.lt
  have lt_s1 : h0.size > s1 := P4.1.lt
  have lt_t1 : h0.size > t1 := P4.tlt
  refine gs (mkF m 1 #[.val (.ref x), .val (.ref s1), .val (.int n)] [(.ref x)]) (fun _ _ A k => XS.aloadN A hx rfl (hb hby own_d_prog_6_method_1_0) rfl rfl k) ?_
  refine ginitO hx (ow hw 35 rfl) (ow hw 19 rfl) (ow hw 20 rfl) 4 (W := 0) (Nat.le_of_eq rfl) (by rw [hml]; rfl) (hb hby own_d_prog_6_method_1_1) rfl (by decide) (by decide) ?_
  refine gs (mkF m 5 #[.val (.ref x), .val (.ref s1), .val (.int n)] [(.ref x)]) (fun _ _ A k => XS.aloadN A hx rfl (hb hby own_d_prog_6_method_1_4) rfl rfl k) ?_
  refine gs (mkF m 6 #[.val (.ref x), .val (.ref s1), .val (.int n)] [(.ref s1), (.ref x)]) (fun _ _ A k => XS.aloadN A hx rfl (hb hby own_d_prog_6_method_1_5) rfl rfl k) ?_
  refine gldcO hx (ow hw 36 rfl) hSA (n := 56) (by decide) (by decide) 8 (hb hby own_d_prog_6_method_1_6) rfl (by decide) (by decide) ?_
  intro b2 vm2 h2 E2 C2
  have z2 := C2.2.1
  refine ginfo fun _ _ O3 => ?_
  refine gcallS (y := (⟨"java/util/Objects", "requireNonNull", "(Ljava/lang/Object;Ljava/lang/String;)Ljava/lang/Object;"⟩ : MethodName)) hx (ow hw 37 rfl) (ow hw 38 rfl) (ow hw 39 rfl) (ow hw 40 rfl) (by decide) (fun hZ H hEL => Pay.of_met (W := 1) (own_require2 l Z a0 cx [] (s1) (b2) vm2 h2 O3 ) (ow hw 40 rfl) (ow hw 39 rfl) (by decide) (by decide) hZ H hEL) 11 (argsL := [(.ref s1), (.ref b2)]) (rest := [(.ref x)]) (lenOf own_pd140 rfl) rfl rfl (Nat.le_of_eq rfl) (by rw [hml]; rfl) (hb hby own_d_prog_6_method_1_8) rfl (by decide) (by decide) ?_
  rintro _ vm3 h3 C3 ⟨rfl, rfl⟩
  have z3 := C3.2.1
  refine gat (mkF m 11 #[.val (.ref x), .val (.ref s1), .val (.int n)] [(.ref s1), (.ref x)]) rfl ?_
  have f4 := (P4.ext E2)
  refine gcast hx (ow hw 41 rfl) (Ins.self f4.1) 14 (hb hby own_d_prog_6_method_1_11) rfl ?_
  have f5 := (P1.ext E2)
  have f6 := (P0.ext E2)
  refine gputF (host := "") hx (Or.inl (ow hw 42 rfl)) Via.refl f5 f6 (Or.inr ⟨(ow hw 43 rfl), rfl, hnm⟩) (ow hw 30 rfl) (ty := (.object "java/lang/String")) (by decide) rfl rfl P3 (fun al => Safe.exa al f6 (by decide) (by decide)) 17 (hb hby own_d_prog_6_method_1_14) rfl ?_
  intro h7 W7 C7
  have z7 := C7.2.1
  have F7 := f5.same W7
  refine gs (mkF m 18 #[.val (.ref x), .val (.ref s1), .val (.int n)] [(.ref x)]) (fun _ _ A k => XS.aloadN A hx rfl (hb hby own_d_prog_6_method_1_17) rfl rfl k) ?_
  refine gs (mkF m 19 #[.val (.ref x), .val (.ref s1), .val (.int n)] [(.int n), (.ref x)]) (fun _ _ A k => XS.iloadN A hx rfl (hb hby own_d_prog_6_method_1_18) rfl  k) ?_
  have f8 := ((P2.ext E2).other W7 (Or.inr (slot_ne (Or.inr (ow hw 45 rfl)) (Or.inr (ow hw 43 rfl)) (by decide) (t := .int) (t' := (.object "java/lang/String")) (by decide) (by decide))))
  have f9 := (f6.wr W7)
  refine gputF (host := "") hx (Or.inl (ow hw 44 rfl)) Via.refl f8 f9 (Or.inr ⟨(ow hw 45 rfl), rfl, hnm⟩) (ow hw 30 rfl) (ty := .int) (by decide) rfl rfl P3 (fun al => Safe.exa al f9 (by decide) (by decide)) 22 (hb hby own_d_prog_6_method_1_19) rfl ?_
  intro h10 W10 C10
  have z10 := C10.2.1
  have F10 := f8.same W10
  have f12 := (F7.other W10 (Or.inr (slot_ne (Or.inr (ow hw 43 rfl)) (Or.inr (ow hw 45 rfl)) (by decide) (t := (.object "java/lang/String")) (t' := .int) (by decide) (by decide))))
  exact gretV hx hret (hb hby own_d_prog_6_method_1_22) (by decide) (by decide) (fun vq Cq => ⟨rfl, ((((Keep.refl h0 [x]).ext E2).wr W7 (Or.inl (List.mem_of_getElem? (i := 0) rfl))).wr W10 (Or.inl (List.mem_of_getElem? (i := 0) rfl))), f12, F10⟩)
theorem own_d_prog_6_method_5_0 : decode prog_6_method_5_code 0 = .ok (.aload_n 1, 1) := by decide +kernel
theorem own_d_prog_6_method_5_1 : decode prog_6_method_5_code 1 = .ok (.instanceof 18, 3) := by decide +kernel
theorem own_d_prog_6_method_5_4 : decode prog_6_method_5_code 4 = .ok (.ifCond .eq 38, 3) := by decide +kernel
theorem own_d_prog_6_method_5_7 : decode prog_6_method_5_code 7 = .ok (.aload_n 0, 1) := by decide +kernel
theorem own_d_prog_6_method_5_8 : decode prog_6_method_5_code 8 = .ok (.getfield 17, 3) := by decide +kernel
theorem own_d_prog_6_method_5_11 : decode prog_6_method_5_code 11 = .ok (.aload_n 1, 1) := by decide +kernel
theorem own_d_prog_6_method_5_12 : decode prog_6_method_5_code 12 = .ok (.checkcast 18, 3) := by decide +kernel
theorem own_d_prog_6_method_5_15 : decode prog_6_method_5_code 15 = .ok (.getfield 17, 3) := by decide +kernel
theorem own_d_prog_6_method_5_18 : decode prog_6_method_5_code 18 = .ok (.invokevirtual 37, 3) := by decide +kernel
theorem own_pd157 : parseMethodDescriptor "(Ljava/lang/Object;)Z" = some ⟨[(.object "java/lang/Object")], some .boolean⟩ := by decide +kernel
theorem own_d_prog_6_method_5_21 : decode prog_6_method_5_code 21 = .ok (.ifCond .eq 21, 3) := by decide +kernel
theorem own_d_prog_6_method_5_24 : decode prog_6_method_5_code 24 = .ok (.aload_n 0, 1) := by decide +kernel
theorem own_d_prog_6_method_5_25 : decode prog_6_method_5_code 25 = .ok (.getfield 23, 3) := by decide +kernel
theorem own_d_prog_6_method_5_28 : decode prog_6_method_5_code 28 = .ok (.aload_n 1, 1) := by decide +kernel
theorem own_d_prog_6_method_5_29 : decode prog_6_method_5_code 29 = .ok (.checkcast 18, 3) := by decide +kernel
theorem own_d_prog_6_method_5_32 : decode prog_6_method_5_code 32 = .ok (.getfield 23, 3) := by decide +kernel
theorem own_d_prog_6_method_5_35 : decode prog_6_method_5_code 35 = .ok (.if_icmp .ne 7, 3) := by decide +kernel
theorem own_d_prog_6_method_5_38 : decode prog_6_method_5_code 38 = .ok (.iconst 1, 1) := by decide +kernel
theorem own_d_prog_6_method_5_39 : decode prog_6_method_5_code 39 = .ok (.goto 4, 3) := by decide +kernel
theorem own_d_prog_6_method_5_43 : decode prog_6_method_5_code 43 = .ok (.ireturn, 1) := by decide +kernel
theorem own_d_prog_6_method_5_42 : decode prog_6_method_5_code 42 = .ok (.iconst 0, 1) := by decide +kernel
set_option maxRecDepth 65536 in
set_option maxHeartbeats 40000000 in
theorem own_teq (l : Launch) (Z : State) (a0 : Array Value) (cx : Ctx Z a0) (ws : List Jvm.Cond) (x : Addr) (y : Addr) (s1 : Addr) (s2 : Addr) (n1 : Int32) (n2 : Int32) (t1 : Addr) (t2 : Addr) (ca : List Int32) (cb : List Int32) (z : Int32) (vm0 : Vm) (h0 : Heap) (X00 : Ext Z.heap h0) (P0 : Exa Z h0 y "com/example/tasks_to_members/taskstomembers/core/Task") (P1 : Fld Z h0 x "com/example/tasks_to_members/taskstomembers/core/Task" "subtopologyId" "Ljava/lang/String;" (.ref s1)) (P2 : Fld Z h0 x "com/example/tasks_to_members/taskstomembers/core/Task" "partition" "I" (.int n1)) (P3 : Fld Z h0 y "com/example/tasks_to_members/taskstomembers/core/Task" "subtopologyId" "Ljava/lang/String;" (.ref s2)) (P4 : Fld Z h0 y "com/example/tasks_to_members/taskstomembers/core/Task" "partition" "I" (.int n2)) (P5 : Str Z h0 s1 t1 ca) (P6 : Str Z h0 s2 t2 cb) (P7 : (ca = cb ∧ n1 = n2 → z = 1) ∧ (¬ (ca = cb ∧ n1 = n2) → z = 0)) :
    Met l (⟨"com/example/tasks_to_members/taskstomembers/core/Task", "equals", "(Ljava/lang/Object;)Z"⟩ : MethodName) prog_6_method_5_code 2 (some .boolean) ws ({ frames := 2, cells := 0, slots := 0, locals := 28 } : Room) Z consts_1 vm0 h0 #[(.ref x), (.ref y)] (fun v vm h => v = some (.int z) ∧ h0 = h) := by
  obtain ⟨hw, hEL, ⟨zc, Scs, hzc⟩, ⟨fm, Sfm, hfm⟩, ⟨cach, ccl, Shi, Sca, Aca, zca, hca⟩⟩ := id cx
  have hSA := own_SA hw
  refine Met.of_walk (a0 := a0) #[.val (.ref x), .val (.ref y)] (plainFor_of_name own_pn147) X00 hEL (fun m => by first | (simp [entryFrame, mkF, argsToLocals, Value.category]; done) | rfl) ?_
  intro p e s m below meth c vm hx hby hml hret hnm hC0
  have lt_y : h0.size > y := P0.lt
  have lt_x : h0.size > x := P1.lt
  have lt_s1 : h0.size > s1 := P5.1.lt
  have lt_t1 : h0.size > t1 := P5.tlt
  have lt_s2 : h0.size > s2 := P6.1.lt
  have lt_t2 : h0.size > t2 := P6.tlt
  refine gs (mkF m 1 #[.val (.ref x), .val (.ref y)] [(.ref y)]) (fun _ _ A k => XS.aloadN A hx rfl (hb hby own_d_prog_6_method_5_0) rfl rfl k) ?_
  refine ginstY hx (ow hw 54 rfl) (Ins.self P0) 4 (hb hby own_d_prog_6_method_5_1) rfl ?_
  refine gs (mkF m 7 #[.val (.ref x), .val (.ref y)] []) (fun _ _ A k => XS.ifNo A hx rfl (hb hby own_d_prog_6_method_5_4) rfl ((if0 _ _).trans (feq (by decide)).1) k) ?_
  by_cases e1 : ca = cb
  · refine gs (mkF m 8 #[.val (.ref x), .val (.ref y)] [(.ref x)]) (fun _ _ A k => XS.aloadN A hx rfl (hb hby own_d_prog_6_method_5_7) rfl rfl k) ?_
    refine ggetF (host := "") hx (Or.inl (ow hw 42 rfl)) Via.refl P1 11 (hb hby own_d_prog_6_method_5_8) rfl ?_
    refine gs (mkF m 12 #[.val (.ref x), .val (.ref y)] [(.ref y), (.ref s1)]) (fun _ _ A k => XS.aloadN A hx rfl (hb hby own_d_prog_6_method_5_11) rfl rfl k) ?_
    refine gcast hx (ow hw 54 rfl) (Ins.self P0) 15 (hb hby own_d_prog_6_method_5_12) rfl ?_
    refine ggetF (host := "") hx (Or.inl (ow hw 42 rfl)) Via.refl P3 18 (hb hby own_d_prog_6_method_5_15) rfl ?_
    refine ginfo fun _ _ O1 => ?_
    refine gcallV (y := (⟨"java/lang/String", "equals", "(Ljava/lang/Object;)Z"⟩ : MethodName)) (z := (⟨"java/lang/String", "equals", "(Ljava/lang/Object;)Z"⟩ : MethodName)) hx (ow hw 56 rfl) (ow hw 57 rfl) (nfSel (ow hw 59 rfl)) (ow hw 59 rfl) (ow hw 58 rfl) (by decide) (fun hZ H hEL => own_payEqT (W := 0) (own_wEq hw) (ow hw 8 rfl) Scs hzc O1 P5 P6 e1 (by decide) (by decide) hZ H hEL) 21 (argsL := [(.ref s2)]) (rest := []) P5.1 (lenOf own_pd157 rfl) rfl rfl (Nat.le_of_eq rfl) (by rw [hml]; rfl) (hb hby own_d_prog_6_method_5_18) rfl (by decide) (by decide) ?_
    rintro _ vm1 h1 C1 ⟨rfl, rfl⟩
    have z1 := C1.2.1
    refine gat (mkF m 21 #[.val (.ref x), .val (.ref y)] [(.int (1 : Int32))]) rfl ?_
    refine gs (mkF m 24 #[.val (.ref x), .val (.ref y)] []) (fun _ _ A k => XS.ifNo A hx rfl (hb hby own_d_prog_6_method_5_21) rfl ((if0 _ _).trans (feq (by decide)).1) k) ?_
    refine gs (mkF m 25 #[.val (.ref x), .val (.ref y)] [(.ref x)]) (fun _ _ A k => XS.aloadN A hx rfl (hb hby own_d_prog_6_method_5_24) rfl rfl k) ?_
    refine ggetF (host := "") hx (Or.inl (ow hw 44 rfl)) Via.refl P2 28 (hb hby own_d_prog_6_method_5_25) rfl ?_
    refine gs (mkF m 29 #[.val (.ref x), .val (.ref y)] [(.ref y), (.int n1)]) (fun _ _ A k => XS.aloadN A hx rfl (hb hby own_d_prog_6_method_5_28) rfl rfl k) ?_
    refine gcast hx (ow hw 54 rfl) (Ins.self P0) 32 (hb hby own_d_prog_6_method_5_29) rfl ?_
    refine ggetF (host := "") hx (Or.inl (ow hw 44 rfl)) Via.refl P4 35 (hb hby own_d_prog_6_method_5_32) rfl ?_
    by_cases e2 : n1 = n2
    · refine gs (mkF m 38 #[.val (.ref x), .val (.ref y)] []) (fun _ _ A k => XS.icmpNo A hx rfl (hb hby own_d_prog_6_method_5_35) rfl (teq e2).2 k) ?_
      refine gs (mkF m 39 #[.val (.ref x), .val (.ref y)] [(.int (1 : Int32))]) (fun _ _ A k => XS.iconst A hx rfl (hb hby own_d_prog_6_method_5_38) k) ?_
      refine gs (mkF m 43 #[.val (.ref x), .val (.ref y)] [(.int (1 : Int32))]) (fun _ _ A k => XS.goto A hx rfl (pc0 := 39) (pc' := 43) rfl (hb hby own_d_prog_6_method_5_39) (by decide) (by decide) k) ?_
      exact gretN (t := .boolean) hx hret (by simp) (hb hby own_d_prog_6_method_5_43) (by decide) (by decide) (fun vq Cq => ⟨(by rw [(P7.1 ⟨e1, e2⟩)]; rfl), rfl⟩)
    · refine gs (mkF m 42 #[.val (.ref x), .val (.ref y)] []) (fun _ _ A k => XS.icmpYes A hx rfl (pc0 := 35) (pc' := 42) rfl (hb hby own_d_prog_6_method_5_35) rfl (feq e2).2 (by decide) (by decide) k) ?_
      refine gs (mkF m 43 #[.val (.ref x), .val (.ref y)] [(.int (0 : Int32))]) (fun _ _ A k => XS.iconst A hx rfl (hb hby own_d_prog_6_method_5_42) k) ?_
      exact gretN (t := .boolean) hx hret (by simp) (hb hby own_d_prog_6_method_5_43) (by decide) (by decide) (fun vq Cq => ⟨(by rw [(P7.2 (fun q => e2 q.2))]; rfl), rfl⟩)
  · refine gs (mkF m 8 #[.val (.ref x), .val (.ref y)] [(.ref x)]) (fun _ _ A k => XS.aloadN A hx rfl (hb hby own_d_prog_6_method_5_7) rfl rfl k) ?_
    refine ggetF (host := "") hx (Or.inl (ow hw 42 rfl)) Via.refl P1 11 (hb hby own_d_prog_6_method_5_8) rfl ?_
    refine gs (mkF m 12 #[.val (.ref x), .val (.ref y)] [(.ref y), (.ref s1)]) (fun _ _ A k => XS.aloadN A hx rfl (hb hby own_d_prog_6_method_5_11) rfl rfl k) ?_
    refine gcast hx (ow hw 54 rfl) (Ins.self P0) 15 (hb hby own_d_prog_6_method_5_12) rfl ?_
    refine ggetF (host := "") hx (Or.inl (ow hw 42 rfl)) Via.refl P3 18 (hb hby own_d_prog_6_method_5_15) rfl ?_
    refine ginfo fun _ _ O4 => ?_
    refine gcallV (y := (⟨"java/lang/String", "equals", "(Ljava/lang/Object;)Z"⟩ : MethodName)) (z := (⟨"java/lang/String", "equals", "(Ljava/lang/Object;)Z"⟩ : MethodName)) hx (ow hw 56 rfl) (ow hw 57 rfl) (nfSel (ow hw 59 rfl)) (ow hw 59 rfl) (ow hw 58 rfl) (by decide) (fun hZ H hEL => own_payEqF (W := 0) (own_wEq hw) (ow hw 8 rfl) Scs hzc O4 P5 P6 e1 (by decide) (by decide) hZ H hEL) 21 (argsL := [(.ref s2)]) (rest := []) P5.1 (lenOf own_pd157 rfl) rfl rfl (Nat.le_of_eq rfl) (by rw [hml]; rfl) (hb hby own_d_prog_6_method_5_18) rfl (by decide) (by decide) ?_
    rintro _ vm4 h4 C4 ⟨rfl, rfl⟩
    have z4 := C4.2.1
    refine gat (mkF m 21 #[.val (.ref x), .val (.ref y)] [(.int (0 : Int32))]) rfl ?_
    refine gs (mkF m 42 #[.val (.ref x), .val (.ref y)] []) (fun _ _ A k => XS.ifYes A hx rfl (pc0 := 21) (pc' := 42) rfl (hb hby own_d_prog_6_method_5_21) rfl ((if0 _ _).trans (teq (by decide)).1) (by decide) (by decide) k) ?_
    refine gs (mkF m 43 #[.val (.ref x), .val (.ref y)] [(.int (0 : Int32))]) (fun _ _ A k => XS.iconst A hx rfl (hb hby own_d_prog_6_method_5_42) k) ?_
    exact gretN (t := .boolean) hx hret (by simp) (hb hby own_d_prog_6_method_5_43) (by decide) (by decide) (fun vq Cq => ⟨(by rw [(P7.2 (fun q => e1 q.1))]; rfl), rfl⟩)
set_option maxRecDepth 65536 in
set_option maxHeartbeats 40000000 in
theorem own_teqN (l : Launch) (Z : State) (a0 : Array Value) (cx : Ctx Z a0) (ws : List Jvm.Cond) (x : Addr) (vm0 : Vm) (h0 : Heap) (X00 : Ext Z.heap h0)  :
    Met l (⟨"com/example/tasks_to_members/taskstomembers/core/Task", "equals", "(Ljava/lang/Object;)Z"⟩ : MethodName) prog_6_method_5_code 2 (some .boolean) ws ({ frames := 0, cells := 0, slots := 0, locals := 0 } : Room) Z consts_1 vm0 h0 #[(.ref x), .null] (fun v vm h => v = some (.int (0 : Int32)) ∧ h0 = h) := by
  obtain ⟨hw, hEL, ⟨zc, Scs, hzc⟩, ⟨fm, Sfm, hfm⟩, ⟨cach, ccl, Shi, Sca, Aca, zca, hca⟩⟩ := id cx
  have hSA := own_SA hw
  refine Met.of_walk (a0 := a0) #[.val (.ref x), .val .null] (plainFor_of_name own_pn147) X00 hEL (fun m => by first | (simp [entryFrame, mkF, argsToLocals, Value.category]; done) | rfl) ?_
  intro p e s m below meth c vm hx hby hml hret hnm hC0
  refine gs (mkF m 1 #[.val (.ref x), .val .null] [.null]) (fun _ _ A k => XS.aloadN A hx rfl (hb hby own_d_prog_6_method_5_0) rfl rfl k) ?_
  refine gx (mkF m 4 #[.val (.ref x), .val .null] [(.int (0 : Int32))]) (fun T locs X _ _ _ => X.instanceofNull hx (g := (mkF m 1 #[.val (.ref x), .val .null] [.null])) rfl rfl (hb hby own_d_prog_6_method_5_1)) ?_
  refine gs (mkF m 42 #[.val (.ref x), .val .null] []) (fun _ _ A k => XS.ifYes A hx rfl (pc0 := 4) (pc' := 42) rfl (hb hby own_d_prog_6_method_5_4) rfl ((if0 _ _).trans (teq (by decide)).1) (by decide) (by decide) k) ?_
  refine gs (mkF m 43 #[.val (.ref x), .val .null] [(.int (0 : Int32))]) (fun _ _ A k => XS.iconst A hx rfl (hb hby own_d_prog_6_method_5_42) k) ?_
  exact gretN (t := .boolean) hx hret (by simp) (hb hby own_d_prog_6_method_5_43) (by decide) (by decide) (fun vq Cq => ⟨rfl, rfl⟩)
set_option maxRecDepth 65536 in
set_option maxHeartbeats 40000000 in
theorem own_teqS (l : Launch) (Z : State) (a0 : Array Value) (cx : Ctx Z a0) (ws : List Jvm.Cond) (x : Addr) (y : Addr) (vm0 : Vm) (h0 : Heap) (X00 : Ext Z.heap h0) (P0 : Exa Z h0 y "java/lang/String") :
    Met l (⟨"com/example/tasks_to_members/taskstomembers/core/Task", "equals", "(Ljava/lang/Object;)Z"⟩ : MethodName) prog_6_method_5_code 2 (some .boolean) ws ({ frames := 0, cells := 0, slots := 0, locals := 0 } : Room) Z consts_1 vm0 h0 #[(.ref x), (.ref y)] (fun v vm h => v = some (.int (0 : Int32)) ∧ h0 = h) := by
  obtain ⟨hw, hEL, ⟨zc, Scs, hzc⟩, ⟨fm, Sfm, hfm⟩, ⟨cach, ccl, Shi, Sca, Aca, zca, hca⟩⟩ := id cx
  have hSA := own_SA hw
  refine Met.of_walk (a0 := a0) #[.val (.ref x), .val (.ref y)] (plainFor_of_name own_pn147) X00 hEL (fun m => by first | (simp [entryFrame, mkF, argsToLocals, Value.category]; done) | rfl) ?_
  intro p e s m below meth c vm hx hby hml hret hnm hC0
  have lt_y : h0.size > y := P0.lt
  refine gs (mkF m 1 #[.val (.ref x), .val (.ref y)] [(.ref y)]) (fun _ _ A k => XS.aloadN A hx rfl (hb hby own_d_prog_6_method_5_0) rfl rfl k) ?_
  refine ginstN hx (ow hw 54 rfl) P0 (NSno (ow hw 89 rfl) (ow hw 30 rfl) (NS.step (ow hw 89 rfl) (NSroot (ow hw 88 rfl) (ow hw 30 rfl) (by decide)) (by decide)) (by decide)) 4 (hb hby own_d_prog_6_method_5_1) rfl ?_
  refine gs (mkF m 42 #[.val (.ref x), .val (.ref y)] []) (fun _ _ A k => XS.ifYes A hx rfl (pc0 := 4) (pc' := 42) rfl (hb hby own_d_prog_6_method_5_4) rfl ((if0 _ _).trans (teq (by decide)).1) (by decide) (by decide) k) ?_
  refine gs (mkF m 43 #[.val (.ref x), .val (.ref y)] [(.int (0 : Int32))]) (fun _ _ A k => XS.iconst A hx rfl (hb hby own_d_prog_6_method_5_42) k) ?_
  exact gretN (t := .boolean) hx hret (by simp) (hb hby own_d_prog_6_method_5_43) (by decide) (by decide) (fun vq Cq => ⟨rfl, rfl⟩)
set_option maxRecDepth 65536 in
set_option maxHeartbeats 40000000 in
theorem own_teqI (l : Launch) (Z : State) (a0 : Array Value) (cx : Ctx Z a0) (ws : List Jvm.Cond) (x : Addr) (y : Addr) (vm0 : Vm) (h0 : Heap) (X00 : Ext Z.heap h0) (P0 : Exa Z h0 y "java/lang/Integer") :
    Met l (⟨"com/example/tasks_to_members/taskstomembers/core/Task", "equals", "(Ljava/lang/Object;)Z"⟩ : MethodName) prog_6_method_5_code 2 (some .boolean) ws ({ frames := 0, cells := 0, slots := 0, locals := 0 } : Room) Z consts_1 vm0 h0 #[(.ref x), (.ref y)] (fun v vm h => v = some (.int (0 : Int32)) ∧ h0 = h) := by
  obtain ⟨hw, hEL, ⟨zc, Scs, hzc⟩, ⟨fm, Sfm, hfm⟩, ⟨cach, ccl, Shi, Sca, Aca, zca, hca⟩⟩ := id cx
  have hSA := own_SA hw
  refine Met.of_walk (a0 := a0) #[.val (.ref x), .val (.ref y)] (plainFor_of_name own_pn147) X00 hEL (fun m => by first | (simp [entryFrame, mkF, argsToLocals, Value.category]; done) | rfl) ?_
  intro p e s m below meth c vm hx hby hml hret hnm hC0
  have lt_y : h0.size > y := P0.lt
  refine gs (mkF m 1 #[.val (.ref x), .val (.ref y)] [(.ref y)]) (fun _ _ A k => XS.aloadN A hx rfl (hb hby own_d_prog_6_method_5_0) rfl rfl k) ?_
  refine ginstN hx (ow hw 54 rfl) P0 (NSno (ow hw 86 rfl) (ow hw 30 rfl) (NS.step (ow hw 86 rfl) (NS.step (ow hw 87 rfl) (NSroot (ow hw 88 rfl) (ow hw 30 rfl) (by decide)) (by decide)) (by decide)) (by decide)) 4 (hb hby own_d_prog_6_method_5_1) rfl ?_
  refine gs (mkF m 42 #[.val (.ref x), .val (.ref y)] []) (fun _ _ A k => XS.ifYes A hx rfl (pc0 := 4) (pc' := 42) rfl (hb hby own_d_prog_6_method_5_4) rfl ((if0 _ _).trans (teq (by decide)).1) (by decide) (by decide) k) ?_
  refine gs (mkF m 43 #[.val (.ref x), .val (.ref y)] [(.int (0 : Int32))]) (fun _ _ A k => XS.iconst A hx rfl (hb hby own_d_prog_6_method_5_42) k) ?_
  exact gretN (t := .boolean) hx hret (by simp) (hb hby own_d_prog_6_method_5_43) (by decide) (by decide) (fun vq Cq => ⟨rfl, rfl⟩)
theorem own_d_jdk_18_method_1_0 : decode jdk_18_method_1_code 0 = .ok (.aload_n 0, 1) := by decide +kernel
theorem own_d_jdk_18_method_1_1 : decode jdk_18_method_1_code 1 = .ok (.invokespecial 1, 3) := by decide +kernel
theorem own_d_jdk_18_method_1_4 : decode jdk_18_method_1_code 4 = .ok (.return_, 1) := by decide +kernel
theorem own_pn172 : plainName "java/lang/Number" = true := by first | (simp [plainName, overriddenIn]; done) | decide +kernel
set_option maxRecDepth 65536 in
set_option maxHeartbeats 40000000 in
theorem own_number (l : Launch) (Z : State) (a0 : Array Value) (cx : Ctx Z a0) (ws : List Jvm.Cond) (x : Addr) (vm0 : Vm) (h0 : Heap) (X00 : Ext Z.heap h0)  :
    Met l (⟨"java/lang/Number", "<init>", "()V"⟩ : MethodName) jdk_18_method_1_code 1 none ws ({ frames := 1, cells := 0, slots := 0, locals := 12 } : Room) Z consts_1 vm0 h0 #[(.ref x)] (fun v vm h => v = none ∧ h0 = h) := by
  obtain ⟨hw, hEL, ⟨zc, Scs, hzc⟩, ⟨fm, Sfm, hfm⟩, ⟨cach, ccl, Shi, Sca, Aca, zca, hca⟩⟩ := id cx
  have hSA := own_SA hw
  refine Met.of_walk (a0 := a0) #[.val (.ref x)] (plainFor_of_name own_pn172) X00 hEL (fun m => by first | (simp [entryFrame, mkF, argsToLocals, Value.category]; done) | rfl) ?_
  intro p e s m below meth c vm hx hby hml hret hnm hC0
  refine gs (mkF m 1 #[.val (.ref x)] [(.ref x)]) (fun _ _ A k => XS.aloadN A hx rfl (hb hby own_d_jdk_18_method_1_0) rfl rfl k) ?_
  refine ginitO hx (ow hw 83 rfl) (ow hw 19 rfl) (ow hw 20 rfl) 4 (W := 0) (Nat.le_of_eq rfl) (by rw [hml]; rfl) (hb hby own_d_jdk_18_method_1_1) rfl (by decide) (by decide) ?_
  exact gretV hx hret (hb hby own_d_jdk_18_method_1_4) (by decide) (by decide) (fun vq Cq => ⟨rfl, rfl⟩)
theorem own_d_jdk_33_method_23_0 : decode jdk_33_method_23_code 0 = .ok (.aload_n 0, 1) := by decide +kernel
theorem own_d_jdk_33_method_23_1 : decode jdk_33_method_23_code 1 = .ok (.invokespecial 202, 3) := by decide +kernel
theorem own_pd175 : parseMethodDescriptor "()V" = some ⟨[], none⟩ := by decide +kernel
theorem own_d_jdk_33_method_23_4 : decode jdk_33_method_23_code 4 = .ok (.aload_n 0, 1) := by decide +kernel
theorem own_d_jdk_33_method_23_5 : decode jdk_33_method_23_code 5 = .ok (.iload_n 1, 1) := by decide +kernel
theorem own_d_jdk_33_method_23_6 : decode jdk_33_method_23_code 6 = .ok (.putfield 205, 3) := by decide +kernel
theorem own_d_jdk_33_method_23_9 : decode jdk_33_method_23_code 9 = .ok (.return_, 1) := by decide +kernel
theorem own_pn180 : plainName "java/lang/Integer" = true := by first | (simp [plainName, overriddenIn]; done) | decide +kernel
set_option maxRecDepth 65536 in
set_option maxHeartbeats 40000000 in
theorem own_iinit (l : Launch) (Z : State) (a0 : Array Value) (cx : Ctx Z a0) (ws : List Jvm.Cond) (x : Addr) (n : Int32) (u1 : Value) (vm0 : Vm) (h0 : Heap) (X00 : Ext Z.heap h0) (P0 : Exa Z h0 x "java/lang/Integer") (P1 : Fld Z h0 x "java/lang/Integer" "value" "I" u1) (P2 : Z.heap.size ≤ x) :
    Met l (⟨"java/lang/Integer", "<init>", "(I)V"⟩ : MethodName) jdk_33_method_23_code 2 none ws ({ frames := 2, cells := 0, slots := 0, locals := 24 } : Room) Z consts_1 vm0 h0 #[(.ref x), (.int n)] (fun v vm h => v = none ∧ Keep h0 h [x]) := by
  obtain ⟨hw, hEL, ⟨zc, Scs, hzc⟩, ⟨fm, Sfm, hfm⟩, ⟨cach, ccl, Shi, Sca, Aca, zca, hca⟩⟩ := id cx
  have hSA := own_SA hw
  refine Met.of_walk (a0 := a0) #[.val (.ref x), .val (.int n)] (plainFor_of_name own_pn180) X00 hEL (fun m => by first | (simp [entryFrame, mkF, argsToLocals, Value.category]; done) | rfl) ?_
  intro p e s m below meth c vm hx hby hml hret hnm hC0
  have lt_x : h0.size > x := P0.lt
  refine gs (mkF m 1 #[.val (.ref x), .val (.int n)] [(.ref x)]) (fun _ _ A k => XS.aloadN A hx rfl (hb hby own_d_jdk_33_method_23_0) rfl rfl k) ?_
  refine ginfo fun _ _ O1 => ?_
  refine gcallI (y := (⟨"java/lang/Number", "<init>", "()V"⟩ : MethodName)) hx rfl (ow hw 77 rfl) (ow hw 78 rfl) (ow hw 82 rfl) (by decide) (fun hZ H hEL => Pay.of_met (W := 0) (own_number l Z a0 cx [] (x) vm h0 O1 ) (ow hw 82 rfl) (ow hw 81 rfl) (by decide) (by decide) hZ H hEL) (a := x) 4 (argsL := []) (rest := []) (lenOf own_pd175 rfl) rfl rfl (Nat.le_of_eq rfl) (by rw [hml]; rfl) (hb hby own_d_jdk_33_method_23_1) rfl (by decide) (by decide) ?_
  rintro _ vm1 h1 C1 ⟨rfl, rfl⟩
  have z1 := C1.2.1
  refine gat (mkF m 4 #[.val (.ref x), .val (.int n)] []) rfl ?_
  refine gs (mkF m 5 #[.val (.ref x), .val (.int n)] [(.ref x)]) (fun _ _ A k => XS.aloadN A hx rfl (hb hby own_d_jdk_33_method_23_4) rfl rfl k) ?_
  refine gs (mkF m 6 #[.val (.ref x), .val (.int n)] [(.int n), (.ref x)]) (fun _ _ A k => XS.iloadN A hx rfl (hb hby own_d_jdk_33_method_23_5) rfl  k) ?_
  refine gputF (host := "") hx (Or.inl (ow hw 84 rfl)) Via.refl P1 P0 (Or.inr ⟨(ow hw 85 rfl), rfl, hnm⟩) (ow hw 72 rfl) (ty := .int) (by decide) rfl rfl P2 (fun al => Safe.exa al P0 (by decide) (by decide)) 9 (hb hby own_d_jdk_33_method_23_6) rfl ?_
  intro h2 W2 C2
  have z2 := C2.2.1
  have F2 := P1.same W2
  exact gretV hx hret (hb hby own_d_jdk_33_method_23_9) (by decide) (by decide) (fun vq Cq => ⟨rfl, ((Keep.refl h0 [x]).wr W2 (Or.inl (List.mem_of_getElem? (i := 0) rfl)))⟩)
theorem own_ix {n : Int32} (h1 : ¬ n < (-128 : Int32)) (h2 : ¬ (127 : Int32) < n) : ¬ (n + (128 : Int32)) < 0 ∧ ¬ ((n + (128 : Int32)) < 0 ∨ 256 ≤ (n + (128 : Int32)).toNatClampNeg) ∧ (n + (128 : Int32)).toNatClampNeg < 256 := by
  rw [Int32.lt_iff_toInt_lt] at h1 h2
  have e1 : (-128 : Int32).toInt = -128 := rfl
  have e2 : (127 : Int32).toInt = 127 := rfl
  have e3 : (128 : Int32).toInt = 128 := rfl
  have e0 : (0 : Int32).toInt = 0 := rfl
  rw [e1] at h1; rw [e2] at h2
  have h3 := c_iadd n 128
  have h4 := rng32 (n + 128)
  rw [e3] at h3
  have h5 : ¬ (n + (128 : Int32)) < 0 := by rw [Int32.lt_iff_toInt_lt, e0]; omega
  have h6 : (n + (128 : Int32)).toNatClampNeg < 256 := by rw [Int32.toNatClampNeg]; omega
  exact ⟨h5, fun q => q.elim h5 (by omega), h6⟩
theorem own_d_jdk_33_method_22_0 : decode jdk_33_method_22_code 0 = .ok (.iload_n 0, 1) := by decide +kernel
theorem own_d_jdk_33_method_22_1 : decode jdk_33_method_22_code 1 = .ok (.bipush (-128), 2) := by decide +kernel
theorem own_d_jdk_33_method_22_3 : decode jdk_33_method_22_code 3 = .ok (.if_icmp .lt 20, 3) := by decide +kernel
theorem own_d_jdk_33_method_22_23 : decode jdk_33_method_22_code 23 = .ok (.new 1, 3) := by decide +kernel
theorem own_d_jdk_33_method_22_26 : decode jdk_33_method_22_code 26 = .ok (.dup, 1) := by decide +kernel
theorem own_d_jdk_33_method_22_27 : decode jdk_33_method_22_code 27 = .ok (.iload_n 0, 1) := by decide +kernel
theorem own_d_jdk_33_method_22_28 : decode jdk_33_method_22_code 28 = .ok (.invokespecial 199, 3) := by decide +kernel
theorem own_pd188 : parseMethodDescriptor "(I)V" = some ⟨[.int], none⟩ := by decide +kernel
theorem own_d_jdk_33_method_22_31 : decode jdk_33_method_22_code 31 = .ok (.areturn, 1) := by decide +kernel
theorem own_d_jdk_33_method_22_6 : decode jdk_33_method_22_code 6 = .ok (.iload_n 0, 1) := by decide +kernel
theorem own_d_jdk_33_method_22_7 : decode jdk_33_method_22_code 7 = .ok (.getstatic 191, 3) := by decide +kernel
theorem own_d_jdk_33_method_22_10 : decode jdk_33_method_22_code 10 = .ok (.if_icmp .gt 13, 3) := by decide +kernel
theorem own_d_jdk_33_method_22_13 : decode jdk_33_method_22_code 13 = .ok (.getstatic 195, 3) := by decide +kernel
theorem own_d_jdk_33_method_22_16 : decode jdk_33_method_22_code 16 = .ok (.iload_n 0, 1) := by decide +kernel
theorem own_d_jdk_33_method_22_17 : decode jdk_33_method_22_code 17 = .ok (.sipush 128, 3) := by decide +kernel
theorem own_d_jdk_33_method_22_20 : decode jdk_33_method_22_code 20 = .ok (.iadd, 1) := by decide +kernel
theorem own_d_jdk_33_method_22_21 : decode jdk_33_method_22_code 21 = .ok (.aaload, 1) := by decide +kernel
theorem own_d_jdk_33_method_22_22 : decode jdk_33_method_22_code 22 = .ok (.areturn, 1) := by decide +kernel
set_option maxRecDepth 65536 in
set_option maxHeartbeats 40000000 in
theorem own_valueOf (l : Launch) (Z : State) (a0 : Array Value) (cx : Ctx Z a0) (ws : List Jvm.Cond) (n : Int32) (vm0 : Vm) (h0 : Heap) (X00 : Ext Z.heap h0)  :
    Met l (⟨"java/lang/Integer", "valueOf", "(I)Ljava/lang/Integer;"⟩ : MethodName) jdk_33_method_22_code 1 (some (.object "java/lang/Integer")) ws ({ frames := 3, cells := 1, slots := 1, locals := 38 } : Room) Z consts_1 vm0 h0 #[(.int n)] (fun v vm h => ∃ (r : Addr), v = some (.ref r) ∧ Keep h0 h [] ∧ Exa Z h r "java/lang/Integer") := by
  obtain ⟨hw, hEL, ⟨zc, Scs, hzc⟩, ⟨fm, Sfm, hfm⟩, ⟨cach, ccl, Shi, Sca, Aca, zca, hca⟩⟩ := id cx
  have hSA := own_SA hw
  refine Met.of_walk (a0 := a0) #[.val (.int n)] (plainFor_of_name own_pn180) X00 hEL (fun m => by first | (simp [entryFrame, mkF, argsToLocals, Value.category]; done) | rfl) ?_
  intro p e s m below meth c vm hx hby hml hret hnm hC0
  refine gs (mkF m 1 #[.val (.int n)] [(.int n)]) (fun _ _ A k => XS.iloadN A hx rfl (hb hby own_d_jdk_33_method_22_0) rfl  k) ?_
  refine gs (mkF m 3 #[.val (.int n)] [(.int (-128 : Int32)), (.int n)]) (fun _ _ A k => XS.bipush A hx rfl (hb hby own_d_jdk_33_method_22_1) k) ?_
  by_cases c1 : n < (-128 : Int32)
  · refine gs (mkF m 23 #[.val (.int n)] []) (fun _ _ A k => XS.icmpYes A hx rfl (pc0 := 3) (pc' := 23) rfl (hb hby own_d_jdk_33_method_22_3) rfl (tlt c1).1 (by decide) (by decide) k) ?_
    refine gnewO hx (ow hw 71 rfl) (ow hw 72 rfl) (ow hw 69 rfl) 26 (hb hby own_d_jdk_33_method_22_23) rfl (by decide) (by decide) ?_
    intro b1 h1 g1 E1 C1 A1 D1 n1 L1
    have z1 := C1.2.1
    have lt_b1 : h1.size > b1 := A1.lt
    have F1_value : Fld Z h1 b1 "java/lang/Integer" "value" "I" (.int (0 : Int32)) := D1 (Or.inr (ow hw 85 rfl)) (ty := .int) (by decide)
    refine gs (mkF m 27 #[.val (.int n)] [(.ref b1), (.ref b1)]) (fun _ _ A k => XS.dup A hx rfl (hb hby own_d_jdk_33_method_22_26) rfl rfl k) ?_
    refine gs (mkF m 28 #[.val (.int n)] [(.int n), (.ref b1), (.ref b1)]) (fun _ _ A k => XS.iloadN A hx rfl (hb hby own_d_jdk_33_method_22_27) rfl  k) ?_
    refine ginfo fun _ _ O2 => ?_
    refine gcallI (y := (⟨"java/lang/Integer", "<init>", "(I)V"⟩ : MethodName)) hx rfl (ow hw 73 rfl) (ow hw 74 rfl) (ow hw 76 rfl) (by decide) (fun hZ H hEL => Pay.of_met (W := 1) (own_iinit l Z a0 cx [] (b1) (n) ((.int (0 : Int32))) vm h1 O2 A1 F1_value n1) (ow hw 76 rfl) (ow hw 69 rfl) (by decide) (by decide) hZ H hEL) (a := b1) 31 (argsL := [(.int n)]) (rest := [(.ref b1)]) (lenOf own_pd188 rfl) rfl rfl (Nat.le_of_eq rfl) (by rw [hml]; rfl) (hb hby own_d_jdk_33_method_22_28) rfl (by decide) (by decide) ?_
    rintro _ vm2 h2 C2 ⟨rfl, K2⟩
    have z2 := C2.2.1
    refine gat (mkF m 31 #[.val (.int n)] [(.ref b1)]) rfl ?_
    have f4 := (A1.keep K2)
    exact gretA hx hret rfl rfl (hb hby own_d_jdk_33_method_22_31) (by decide) (by decide) (fun vq Cq => ⟨b1, rfl, (((Keep.refl h0 []).ext E1).trans K2 (allS (Or.inr (by omega)) all0)), f4⟩)
  · refine gs (mkF m 6 #[.val (.int n)] []) (fun _ _ A k => XS.icmpNo A hx rfl (hb hby own_d_jdk_33_method_22_3) rfl (flt c1).1 k) ?_
    refine gs (mkF m 7 #[.val (.int n)] [(.int n)]) (fun _ _ A k => XS.iloadN A hx rfl (hb hby own_d_jdk_33_method_22_6) rfl  k) ?_
    refine ggetS (host := "") hx (Or.inl (ow hw 100 rfl)) Via.refl Shi 10 (hb hby own_d_jdk_33_method_22_7) rfl ?_
    by_cases c2 : (127 : Int32) < n
    · refine gs (mkF m 23 #[.val (.int n)] []) (fun _ _ A k => XS.icmpYes A hx rfl (pc0 := 10) (pc' := 23) rfl (hb hby own_d_jdk_33_method_22_10) rfl (tlt c2).2.2.1 (by decide) (by decide) k) ?_
      refine gnewO hx (ow hw 71 rfl) (ow hw 72 rfl) (ow hw 69 rfl) 26 (hb hby own_d_jdk_33_method_22_23) rfl (by decide) (by decide) ?_
      intro b5 h5 g5 E5 C5 A5 D5 n5 L5
      have z5 := C5.2.1
      have lt_b5 : h5.size > b5 := A5.lt
      have F5_value : Fld Z h5 b5 "java/lang/Integer" "value" "I" (.int (0 : Int32)) := D5 (Or.inr (ow hw 85 rfl)) (ty := .int) (by decide)
      refine gs (mkF m 27 #[.val (.int n)] [(.ref b5), (.ref b5)]) (fun _ _ A k => XS.dup A hx rfl (hb hby own_d_jdk_33_method_22_26) rfl rfl k) ?_
      refine gs (mkF m 28 #[.val (.int n)] [(.int n), (.ref b5), (.ref b5)]) (fun _ _ A k => XS.iloadN A hx rfl (hb hby own_d_jdk_33_method_22_27) rfl  k) ?_
      refine ginfo fun _ _ O6 => ?_
      refine gcallI (y := (⟨"java/lang/Integer", "<init>", "(I)V"⟩ : MethodName)) hx rfl (ow hw 73 rfl) (ow hw 74 rfl) (ow hw 76 rfl) (by decide) (fun hZ H hEL => Pay.of_met (W := 1) (own_iinit l Z a0 cx [] (b5) (n) ((.int (0 : Int32))) vm h5 O6 A5 F5_value n5) (ow hw 76 rfl) (ow hw 69 rfl) (by decide) (by decide) hZ H hEL) (a := b5) 31 (argsL := [(.int n)]) (rest := [(.ref b5)]) (lenOf own_pd188 rfl) rfl rfl (Nat.le_of_eq rfl) (by rw [hml]; rfl) (hb hby own_d_jdk_33_method_22_28) rfl (by decide) (by decide) ?_
      rintro _ vm6 h6 C6 ⟨rfl, K6⟩
      have z6 := C6.2.1
      refine gat (mkF m 31 #[.val (.int n)] [(.ref b5)]) rfl ?_
      have f8 := (A5.keep K6)
      exact gretA hx hret rfl rfl (hb hby own_d_jdk_33_method_22_31) (by decide) (by decide) (fun vq Cq => ⟨b5, rfl, (((Keep.refl h0 []).ext E5).trans K6 (allS (Or.inr (by omega)) all0)), f8⟩)
    · refine gs (mkF m 13 #[.val (.int n)] []) (fun _ _ A k => XS.icmpNo A hx rfl (hb hby own_d_jdk_33_method_22_10) rfl (flt c2).2.2.1 k) ?_
      refine ggetS (host := "") hx (Or.inl (ow hw 102 rfl)) Via.refl Sca 16 (hb hby own_d_jdk_33_method_22_13) rfl ?_
      refine gs (mkF m 17 #[.val (.int n)] [(.int n), (.ref cach)]) (fun _ _ A k => XS.iloadN A hx rfl (hb hby own_d_jdk_33_method_22_16) rfl  k) ?_
      refine gs (mkF m 20 #[.val (.int n)] [(.int (128 : Int32)), (.int n), (.ref cach)]) (fun _ _ A k => XS.sipush A hx rfl (hb hby own_d_jdk_33_method_22_17) k) ?_
      refine gs (mkF m 21 #[.val (.int n)] [(.int (n + (128 : Int32))), (.ref cach)]) (fun _ _ A k => XS.iadd A hx rfl (hb hby own_d_jdk_33_method_22_20) rfl k) ?_
      refine ginfo fun _ _ O9 => ?_
      obtain ⟨hj1, hj2, hj3⟩ := own_ix c1 c2
      obtain ⟨el, hel, Eel⟩ := hca _ hj3
      refine gx (mkF m 22 #[.val (.int n)] [(.ref el)]) (fun T locs X hZ hown eT => X.aaload hx (by rw [eT]; exact O9.2 _ _ Aca.1) (State.isArrayOf_alike hZ.alike Aca.2.1) rfl Aca.2.2 (by rw [zca]; exact hj2) hel (g := (mkF m 21 #[.val (.int n)] [(.int (n + (128 : Int32))), (.ref cach)])) rfl rfl (hb hby own_d_jdk_33_method_22_21)) ?_
      have Ee := Eel.ext O9
      have lt_el : h0.size > el := Ee.lt
      exact gretA hx hret rfl rfl (hb hby own_d_jdk_33_method_22_22) (by decide) (by decide) (fun vq Cq => ⟨el, rfl, (Keep.refl h0 []), Ee⟩)
theorem own_pd199 : parseMethodDescriptor "(I)Ljava/lang/String;" = some ⟨[.int], some (.object "java/lang/String")⟩ := by decide +kernel
theorem own_pd200 : parseMethodDescriptor "(Ljava/lang/String;I)V" = some ⟨[(.object "java/lang/String"), .int], none⟩ := by decide +kernel
theorem own_pd201 : parseMethodDescriptor "(II)Z" = some ⟨[.int, .int], some .boolean⟩ := by decide +kernel
theorem own_pd202 : parseMethodDescriptor "(I)Ljava/lang/Integer;" = some ⟨[.int], some (.object "java/lang/Integer")⟩ := by decide +kernel
set_option maxRecDepth 65536 in
set_option maxHeartbeats 40000000 in
theorem own_law (l : Launch) (Z : State) (a0 : Array Value) (cx : Ctx Z a0) (ws : List Jvm.Cond) (x0 : Int32) (x1 : Int32) (x2 : Int32) (x3 : Int32) (x4 : Int32) (vm0 : Vm) (h0 : Heap) (X00 : Ext Z.heap h0)  :
    Met l x code maxLocals ret ws room_1 Z consts_1 vm0 h0 #[(.int x0), (.int x1), (.int x2), (.int x3), (.int x4)] (fun v vm h => v = some (.int (1 : Int32)) ∧ Keep h0 h []) := by
  obtain ⟨hw, hEL, ⟨zc, Scs, hzc⟩, ⟨fm, Sfm, hfm⟩, ⟨cach, ccl, Shi, Sca, Aca, zca, hca⟩⟩ := id cx
  have hSA := own_SA hw
  refine Met.of_walk (a0 := a0) #[.val (.int x0), .val (.int x1), .val (.int x2), .val (.int x3), .val (.int x4), .unset, .unset, .unset, .unset, .unset, .unset, .unset, .unset] (plainFor_of_name own_pn36) X00 hEL (fun m => by first | (simp [entryFrame, mkF, argsToLocals, Value.category, maxLocals]; done) | rfl) ?_
  intro p e s m below meth c vm hx hby hml hret hnm hC0
  refine gs (mkF m 2 #[.val (.int x0), .val (.int x1), .val (.int x2), .val (.int x3), .val (.int x4), .unset, .unset, .unset, .unset, .unset, .unset, .unset, .unset] [(.int x4)]) (fun _ _ A k => XS.iload A hx rfl (hb hby at_0) rfl  k) ?_
  refine gs (mkF m 3 #[.val (.int x0), .val (.int x1), .val (.int x2), .val (.int x3), .val (.int x4), .unset, .unset, .unset, .unset, .unset, .unset, .unset, .unset] [(.int (1 : Int32)), (.int x4)]) (fun _ _ A k => XS.iconst A hx rfl (hb hby at_2) k) ?_
  refine gs (mkF m 4 #[.val (.int x0), .val (.int x1), .val (.int x2), .val (.int x3), .val (.int x4), .unset, .unset, .unset, .unset, .unset, .unset, .unset, .unset] [(.int (x4 &&& (1 : Int32)))]) (fun _ _ A k => XS.iand A hx rfl (hb hby at_3) rfl k) ?_
  by_cases s1 : (x4 &&& (1 : Int32)) = (0 : Int32)
  · refine gs (mkF m 11 #[.val (.int x0), .val (.int x1), .val (.int x2), .val (.int x3), .val (.int x4), .unset, .unset, .unset, .unset, .unset, .unset, .unset, .unset] []) (fun _ _ A k => XS.ifYes A hx rfl (pc0 := 4) (pc' := 11) rfl (hb hby at_4) rfl ((if0 _ _).trans (teq s1).1) (by decide) (by decide) k) ?_
    refine gs (mkF m 12 #[.val (.int x0), .val (.int x1), .val (.int x2), .val (.int x3), .val (.int x4), .unset, .unset, .unset, .unset, .unset, .unset, .unset, .unset] [(.int x1)]) (fun _ _ A k => XS.iloadN A hx rfl (hb hby at_11) rfl  k) ?_
    refine gs (mkF m 14 #[.val (.int x0), .val (.int x1), .val (.int x2), .val (.int x3), .val (.int x4), .val (.int x1), .unset, .unset, .unset, .unset, .unset, .unset, .unset] []) (fun _ _ A k => XS.istore A hx rfl (hb hby at_12) rfl (l' := #[.val (.int x0), .val (.int x1), .val (.int x2), .val (.int x3), .val (.int x4), .val (.int x1), .unset, .unset, .unset, .unset, .unset, .unset, .unset]) rfl k) ?_
    refine gs (mkF m 16 #[.val (.int x0), .val (.int x1), .val (.int x2), .val (.int x3), .val (.int x4), .val (.int x1), .unset, .unset, .unset, .unset, .unset, .unset, .unset] [(.int x4)]) (fun _ _ A k => XS.iload A hx rfl (hb hby at_14) rfl  k) ?_
    refine gs (mkF m 17 #[.val (.int x0), .val (.int x1), .val (.int x2), .val (.int x3), .val (.int x4), .val (.int x1), .unset, .unset, .unset, .unset, .unset, .unset, .unset] [(.int (2 : Int32)), (.int x4)]) (fun _ _ A k => XS.iconst A hx rfl (hb hby at_16) k) ?_
    refine gs (mkF m 18 #[.val (.int x0), .val (.int x1), .val (.int x2), .val (.int x3), .val (.int x4), .val (.int x1), .unset, .unset, .unset, .unset, .unset, .unset, .unset] [(.int (x4 &&& (2 : Int32)))]) (fun _ _ A k => XS.iand A hx rfl (hb hby at_17) rfl k) ?_
    by_cases s2 : (x4 &&& (2 : Int32)) = (0 : Int32)
    · refine gs (mkF m 25 #[.val (.int x0), .val (.int x1), .val (.int x2), .val (.int x3), .val (.int x4), .val (.int x1), .unset, .unset, .unset, .unset, .unset, .unset, .unset] []) (fun _ _ A k => XS.ifYes A hx rfl (pc0 := 18) (pc' := 25) rfl (hb hby at_18) rfl ((if0 _ _).trans (teq s2).1) (by decide) (by decide) k) ?_
      refine gs (mkF m 26 #[.val (.int x0), .val (.int x1), .val (.int x2), .val (.int x3), .val (.int x4), .val (.int x1), .unset, .unset, .unset, .unset, .unset, .unset, .unset] [(.int x3)]) (fun _ _ A k => XS.iloadN A hx rfl (hb hby at_25) rfl  k) ?_
      refine gs (mkF m 28 #[.val (.int x0), .val (.int x1), .val (.int x2), .val (.int x3), .val (.int x4), .val (.int x1), .val (.int x3), .unset, .unset, .unset, .unset, .unset, .unset] []) (fun _ _ A k => XS.istore A hx rfl (hb hby at_26) rfl (l' := #[.val (.int x0), .val (.int x1), .val (.int x2), .val (.int x3), .val (.int x4), .val (.int x1), .val (.int x3), .unset, .unset, .unset, .unset, .unset, .unset]) rfl k) ?_
      refine gs (mkF m 29 #[.val (.int x0), .val (.int x1), .val (.int x2), .val (.int x3), .val (.int x4), .val (.int x1), .val (.int x3), .unset, .unset, .unset, .unset, .unset, .unset] [(.int x0)]) (fun _ _ A k => XS.iloadN A hx rfl (hb hby at_28) rfl  k) ?_
      refine ginfo fun _ _ O1 => ?_
      refine gcallS (y := (⟨"com/example/tasks_to_members/taskstomembers/core/TaskEqualsPinLaw", "mk", "(I)Ljava/lang/String;"⟩ : MethodName)) hx (ow hw 0 rfl) (ow hw 1 rfl) (ow hw 2 rfl) (ow hw 3 rfl) (by decide) (fun hZ H hEL => Pay.of_met (W := 0) (own_mk l Z a0 cx [] (x0) vm h0 O1 ) (ow hw 3 rfl) (ow hw 2 rfl) (by decide) (by decide) hZ H hEL) 32 (argsL := [(.int x0)]) (rest := []) (lenOf own_pd199 rfl) rfl rfl (Nat.le_of_eq rfl) (by rw [hml]; rfl) (hb hby at_29) rfl (by decide) (by decide) ?_
      rintro _ vm1 h1 C1 ⟨r1, t1, rfl, K1, q1_0⟩
      have z1 := C1.2.1
      have lt_r1 : h1.size > r1 := q1_0.1.lt
      have lt_t1 : h1.size > t1 := q1_0.tlt
      refine gat (mkF m 32 #[.val (.int x0), .val (.int x1), .val (.int x2), .val (.int x3), .val (.int x4), .val (.int x1), .val (.int x3), .unset, .unset, .unset, .unset, .unset, .unset] [(.ref r1)]) rfl ?_
      refine gs (mkF m 34 #[.val (.int x0), .val (.int x1), .val (.int x2), .val (.int x3), .val (.int x4), .val (.int x1), .val (.int x3), .val (.ref r1), .unset, .unset, .unset, .unset, .unset] []) (fun _ _ A k => XS.astore A hx rfl (hb hby at_32) rfl rfl (l' := #[.val (.int x0), .val (.int x1), .val (.int x2), .val (.int x3), .val (.int x4), .val (.int x1), .val (.int x3), .val (.ref r1), .unset, .unset, .unset, .unset, .unset]) rfl k) ?_
      refine gs (mkF m 36 #[.val (.int x0), .val (.int x1), .val (.int x2), .val (.int x3), .val (.int x4), .val (.int x1), .val (.int x3), .val (.ref r1), .unset, .unset, .unset, .unset, .unset] [(.int x1)]) (fun _ _ A k => XS.iload A hx rfl (hb hby at_34) rfl  k) ?_
      refine ginfo fun _ _ O2 => ?_
      refine gcallS (y := (⟨"com/example/tasks_to_members/taskstomembers/core/TaskEqualsPinLaw", "mk", "(I)Ljava/lang/String;"⟩ : MethodName)) hx (ow hw 0 rfl) (ow hw 1 rfl) (ow hw 2 rfl) (ow hw 3 rfl) (by decide) (fun hZ H hEL => Pay.of_met (W := 0) (own_mk l Z a0 cx [] (x1) vm1 h1 O2 ) (ow hw 3 rfl) (ow hw 2 rfl) (by decide) (by decide) hZ H hEL) 39 (argsL := [(.int x1)]) (rest := []) (lenOf own_pd199 rfl) rfl rfl (Nat.le_of_eq rfl) (by rw [hml]; rfl) (hb hby at_36) rfl (by decide) (by decide) ?_
      rintro _ vm2 h2 C2 ⟨r2, t2, rfl, K2, q2_0⟩
      have z2 := C2.2.1
      have lt_r2 : h2.size > r2 := q2_0.1.lt
      have lt_t2 : h2.size > t2 := q2_0.tlt
      refine gat (mkF m 39 #[.val (.int x0), .val (.int x1), .val (.int x2), .val (.int x3), .val (.int x4), .val (.int x1), .val (.int x3), .val (.ref r1), .unset, .unset, .unset, .unset, .unset] [(.ref r2)]) rfl ?_
      refine gs (mkF m 41 #[.val (.int x0), .val (.int x1), .val (.int x2), .val (.int x3), .val (.int x4), .val (.int x1), .val (.int x3), .val (.ref r1), .val (.ref r2), .unset, .unset, .unset, .unset] []) (fun _ _ A k => XS.astore A hx rfl (hb hby at_39) rfl rfl (l' := #[.val (.int x0), .val (.int x1), .val (.int x2), .val (.int x3), .val (.int x4), .val (.int x1), .val (.int x3), .val (.ref r1), .val (.ref r2), .unset, .unset, .unset, .unset]) rfl k) ?_
      refine gnewO hx (ow hw 29 rfl) (ow hw 30 rfl) (ow hw 31 rfl) 44 (hb hby at_41) rfl (by decide) (by decide) ?_
      intro b3 h3 g3 E3 C3 A3 D3 n3 L3
      have z3 := C3.2.1
      have lt_b3 : h3.size > b3 := A3.lt
      have F3_subtopologyId : Fld Z h3 b3 "com/example/tasks_to_members/taskstomembers/core/Task" "subtopologyId" "Ljava/lang/String;" .null := D3 (Or.inr (ow hw 43 rfl)) (ty := (.object "java/lang/String")) (by decide)
      have F3_partition : Fld Z h3 b3 "com/example/tasks_to_members/taskstomembers/core/Task" "partition" "I" (.int (0 : Int32)) := D3 (Or.inr (ow hw 45 rfl)) (ty := .int) (by decide)
      refine gs (mkF m 45 #[.val (.int x0), .val (.int x1), .val (.int x2), .val (.int x3), .val (.int x4), .val (.int x1), .val (.int x3), .val (.ref r1), .val (.ref r2), .unset, .unset, .unset, .unset] [(.ref b3), (.ref b3)]) (fun _ _ A k => XS.dup A hx rfl (hb hby at_44) rfl rfl k) ?_
      refine gs (mkF m 47 #[.val (.int x0), .val (.int x1), .val (.int x2), .val (.int x3), .val (.int x4), .val (.int x1), .val (.int x3), .val (.ref r1), .val (.ref r2), .unset, .unset, .unset, .unset] [(.ref r1), (.ref b3), (.ref b3)]) (fun _ _ A k => XS.aload A hx rfl (hb hby at_45) rfl rfl k) ?_
      refine gs (mkF m 48 #[.val (.int x0), .val (.int x1), .val (.int x2), .val (.int x3), .val (.int x4), .val (.int x1), .val (.int x3), .val (.ref r1), .val (.ref r2), .unset, .unset, .unset, .unset] [(.int x2), (.ref r1), (.ref b3), (.ref b3)]) (fun _ _ A k => XS.iloadN A hx rfl (hb hby at_47) rfl  k) ?_
      have f5 := ((q1_0.keep K2 nin0 nin0).ext E3)
      refine ginfo fun _ _ O4 => ?_
      refine gcallI (y := (⟨"com/example/tasks_to_members/taskstomembers/core/Task", "<init>", "(Ljava/lang/String;I)V"⟩ : MethodName)) hx rfl (ow hw 32 rfl) (ow hw 33 rfl) (ow hw 34 rfl) (by decide) (fun hZ H hEL => Pay.of_met (W := 1) (own_tinit l Z a0 cx [] (b3) (r1) (x2) (.null) ((.int (0 : Int32))) (t1) ((own_cs x0)) vm2 h3 O4 A3 F3_subtopologyId F3_partition n3 f5) (ow hw 34 rfl) (ow hw 31 rfl) (by decide) (by decide) hZ H hEL) (a := b3) 51 (argsL := [(.ref r1), (.int x2)]) (rest := [(.ref b3)]) (lenOf own_pd200 rfl) rfl rfl (Nat.le_of_eq rfl) (by rw [hml]; rfl) (hb hby at_48) rfl (by decide) (by decide) ?_
      rintro _ vm4 h4 C4 ⟨rfl, K4, q4_0, q4_1⟩
      have z4 := C4.2.1
      refine gat (mkF m 51 #[.val (.int x0), .val (.int x1), .val (.int x2), .val (.int x3), .val (.int x4), .val (.int x1), .val (.int x3), .val (.ref r1), .val (.ref r2), .unset, .unset, .unset, .unset] [(.ref b3)]) rfl ?_
      refine gs (mkF m 53 #[.val (.int x0), .val (.int x1), .val (.int x2), .val (.int x3), .val (.int x4), .val (.int x1), .val (.int x3), .val (.ref r1), .val (.ref r2), .val (.ref b3), .unset, .unset, .unset] []) (fun _ _ A k => XS.astore A hx rfl (hb hby at_51) rfl rfl (l' := #[.val (.int x0), .val (.int x1), .val (.int x2), .val (.int x3), .val (.int x4), .val (.int x1), .val (.int x3), .val (.ref r1), .val (.ref r2), .val (.ref b3), .unset, .unset, .unset]) rfl k) ?_
      refine gnewO hx (ow hw 29 rfl) (ow hw 30 rfl) (ow hw 31 rfl) 56 (hb hby at_53) rfl (by decide) (by decide) ?_
      intro b6 h6 g6 E6 C6 A6 D6 n6 L6
      have z6 := C6.2.1
      have lt_b6 : h6.size > b6 := A6.lt
      have F6_subtopologyId : Fld Z h6 b6 "com/example/tasks_to_members/taskstomembers/core/Task" "subtopologyId" "Ljava/lang/String;" .null := D6 (Or.inr (ow hw 43 rfl)) (ty := (.object "java/lang/String")) (by decide)
      have F6_partition : Fld Z h6 b6 "com/example/tasks_to_members/taskstomembers/core/Task" "partition" "I" (.int (0 : Int32)) := D6 (Or.inr (ow hw 45 rfl)) (ty := .int) (by decide)
      refine gs (mkF m 57 #[.val (.int x0), .val (.int x1), .val (.int x2), .val (.int x3), .val (.int x4), .val (.int x1), .val (.int x3), .val (.ref r1), .val (.ref r2), .val (.ref b3), .unset, .unset, .unset] [(.ref b6), (.ref b6)]) (fun _ _ A k => XS.dup A hx rfl (hb hby at_56) rfl rfl k) ?_
      refine gs (mkF m 59 #[.val (.int x0), .val (.int x1), .val (.int x2), .val (.int x3), .val (.int x4), .val (.int x1), .val (.int x3), .val (.ref r1), .val (.ref r2), .val (.ref b3), .unset, .unset, .unset] [(.ref r2), (.ref b6), (.ref b6)]) (fun _ _ A k => XS.aload A hx rfl (hb hby at_57) rfl rfl k) ?_
      refine gs (mkF m 61 #[.val (.int x0), .val (.int x1), .val (.int x2), .val (.int x3), .val (.int x4), .val (.int x1), .val (.int x3), .val (.ref r1), .val (.ref r2), .val (.ref b3), .unset, .unset, .unset] [(.int x3), (.ref r2), (.ref b6), (.ref b6)]) (fun _ _ A k => XS.iload A hx rfl (hb hby at_59) rfl  k) ?_
      have f8 := (((q2_0.ext E3).keep K4 (ninS (Nat.ne_of_lt (by omega)) nin0) (ninS (Nat.ne_of_lt (by omega)) nin0)).ext E6)
      refine ginfo fun _ _ O7 => ?_
      refine gcallI (y := (⟨"com/example/tasks_to_members/taskstomembers/core/Task", "<init>", "(Ljava/lang/String;I)V"⟩ : MethodName)) hx rfl (ow hw 32 rfl) (ow hw 33 rfl) (ow hw 34 rfl) (by decide) (fun hZ H hEL => Pay.of_met (W := 1) (own_tinit l Z a0 cx [] (b6) (r2) (x3) (.null) ((.int (0 : Int32))) (t2) ((own_cs x1)) vm4 h6 O7 A6 F6_subtopologyId F6_partition n6 f8) (ow hw 34 rfl) (ow hw 31 rfl) (by decide) (by decide) hZ H hEL) (a := b6) 64 (argsL := [(.ref r2), (.int x3)]) (rest := [(.ref b6)]) (lenOf own_pd200 rfl) rfl rfl (Nat.le_of_eq rfl) (by rw [hml]; rfl) (hb hby at_61) rfl (by decide) (by decide) ?_
      rintro _ vm7 h7 C7 ⟨rfl, K7, q7_0, q7_1⟩
      have z7 := C7.2.1
      refine gat (mkF m 64 #[.val (.int x0), .val (.int x1), .val (.int x2), .val (.int x3), .val (.int x4), .val (.int x1), .val (.int x3), .val (.ref r1), .val (.ref r2), .val (.ref b3), .unset, .unset, .unset] [(.ref b6)]) rfl ?_
      refine gs (mkF m 66 #[.val (.int x0), .val (.int x1), .val (.int x2), .val (.int x3), .val (.int x4), .val (.int x1), .val (.int x3), .val (.ref r1), .val (.ref r2), .val (.ref b3), .val (.ref b6), .unset, .unset] []) (fun _ _ A k => XS.astore A hx rfl (hb hby at_64) rfl rfl (l' := #[.val (.int x0), .val (.int x1), .val (.int x2), .val (.int x3), .val (.int x4), .val (.int x1), .val (.int x3), .val (.ref r1), .val (.ref r2), .val (.ref b3), .val (.ref b6), .unset, .unset]) rfl k) ?_
      refine gs (mkF m 68 #[.val (.int x0), .val (.int x1), .val (.int x2), .val (.int x3), .val (.int x4), .val (.int x1), .val (.int x3), .val (.ref r1), .val (.ref r2), .val (.ref b3), .val (.ref b6), .unset, .unset] [(.int x4)]) (fun _ _ A k => XS.iload A hx rfl (hb hby at_66) rfl  k) ?_
      refine gs (mkF m 69 #[.val (.int x0), .val (.int x1), .val (.int x2), .val (.int x3), .val (.int x4), .val (.int x1), .val (.int x3), .val (.ref r1), .val (.ref r2), .val (.ref b3), .val (.ref b6), .unset, .unset] [(.int (2 : Int32)), (.int x4)]) (fun _ _ A k => XS.iconst A hx rfl (hb hby at_68) k) ?_
      refine gs (mkF m 70 #[.val (.int x0), .val (.int x1), .val (.int x2), .val (.int x3), .val (.int x4), .val (.int x1), .val (.int x3), .val (.ref r1), .val (.ref r2), .val (.ref b3), .val (.ref b6), .unset, .unset] [(.int ((x4.toUInt32 >>> ((2 : Int32) &&& 31).toUInt32).toInt32))]) (fun _ _ A k => XS.iushr A hx rfl (hb hby at_69) rfl k) ?_
      refine gs (mkF m 72 #[.val (.int x0), .val (.int x1), .val (.int x2), .val (.int x3), .val (.int x4), .val (.int x1), .val (.int x3), .val (.ref r1), .val (.ref r2), .val (.ref b3), .val (.ref b6), .unset, .unset] [(.int (7 : Int32)), (.int ((x4.toUInt32 >>> ((2 : Int32) &&& 31).toUInt32).toInt32))]) (fun _ _ A k => XS.bipush A hx rfl (hb hby at_70) k) ?_
      refine gs (mkF m 73 #[.val (.int x0), .val (.int x1), .val (.int x2), .val (.int x3), .val (.int x4), .val (.int x1), .val (.int x3), .val (.ref r1), .val (.ref r2), .val (.ref b3), .val (.ref b6), .unset, .unset] [(.int (((x4.toUInt32 >>> ((2 : Int32) &&& 31).toUInt32).toInt32) &&& (7 : Int32)))]) (fun _ _ A k => XS.iand A hx rfl (hb hby at_72) rfl k) ?_
      refine gs (mkF m 75 #[.val (.int x0), .val (.int x1), .val (.int x2), .val (.int x3), .val (.int x4), .val (.int x1), .val (.int x3), .val (.ref r1), .val (.ref r2), .val (.ref b3), .val (.ref b6), .val (.int (((x4.toUInt32 >>> ((2 : Int32) &&& 31).toUInt32).toInt32) &&& (7 : Int32))), .unset] []) (fun _ _ A k => XS.istore A hx rfl (hb hby at_73) rfl (l' := #[.val (.int x0), .val (.int x1), .val (.int x2), .val (.int x3), .val (.int x4), .val (.int x1), .val (.int x3), .val (.ref r1), .val (.ref r2), .val (.ref b3), .val (.ref b6), .val (.int (((x4.toUInt32 >>> ((2 : Int32) &&& 31).toUInt32).toInt32) &&& (7 : Int32))), .unset]) rfl k) ?_
      obtain ⟨kk, ek⟩ : ∃ kk, kk = (((x4.toUInt32 >>> ((2 : Int32) &&& 31).toUInt32).toInt32) &&& (7 : Int32)) := ⟨_, rfl⟩
      rw [← ek]
      refine gs (mkF m 77 #[.val (.int x0), .val (.int x1), .val (.int x2), .val (.int x3), .val (.int x4), .val (.int x1), .val (.int x3), .val (.ref r1), .val (.ref r2), .val (.ref b3), .val (.ref b6), .val (.int kk), .unset] [(.int kk)]) (fun _ _ A k => XS.iload A hx rfl (hb hby at_75) rfl  k) ?_
      refine gs (mkF m 78 #[.val (.int x0), .val (.int x1), .val (.int x2), .val (.int x3), .val (.int x4), .val (.int x1), .val (.int x3), .val (.ref r1), .val (.ref r2), .val (.ref b3), .val (.ref b6), .val (.int kk), .unset] [(.int (4 : Int32)), (.int kk)]) (fun _ _ A k => XS.iconst A hx rfl (hb hby at_77) k) ?_
      by_cases k1 : kk < (4 : Int32)
      · refine gs (mkF m 81 #[.val (.int x0), .val (.int x1), .val (.int x2), .val (.int x3), .val (.int x4), .val (.int x1), .val (.int x3), .val (.ref r1), .val (.ref r2), .val (.ref b3), .val (.ref b6), .val (.int kk), .unset] []) (fun _ _ A k => XS.icmpNo A hx rfl (hb hby at_78) rfl (tlt k1).2.1 k) ?_
        refine gs (mkF m 82 #[.val (.int x0), .val (.int x1), .val (.int x2), .val (.int x3), .val (.int x4), .val (.int x1), .val (.int x3), .val (.ref r1), .val (.ref r2), .val (.ref b3), .val (.ref b6), .val (.int kk), .unset] [(.int x0)]) (fun _ _ A k => XS.iloadN A hx rfl (hb hby at_81) rfl  k) ?_
        refine gs (mkF m 84 #[.val (.int x0), .val (.int x1), .val (.int x2), .val (.int x3), .val (.int x4), .val (.int x1), .val (.int x3), .val (.ref r1), .val (.ref r2), .val (.ref b3), .val (.ref b6), .val (.int kk), .unset] [(.int x1), (.int x0)]) (fun _ _ A k => XS.iload A hx rfl (hb hby at_82) rfl  k) ?_
        by_cases e1 : own_cs (x0) = own_cs (x1)
        · refine ginfo fun _ _ O9 => ?_
          refine gcallS (y := (⟨"com/example/tasks_to_members/taskstomembers/core/TaskEqualsPinLaw", "sameId", "(II)Z"⟩ : MethodName)) hx (ow hw 46 rfl) (ow hw 47 rfl) (ow hw 2 rfl) (ow hw 48 rfl) (by decide) (fun hZ H hEL => Pay.of_met (W := 0) (own_sameId l Z a0 cx [] (x0) (x1) ((1 : Int32)) vm7 h7 O9 ⟨fun _ => rfl, fun q => absurd e1 q⟩) (ow hw 48 rfl) (ow hw 2 rfl) (by decide) (by decide) hZ H hEL) 87 (argsL := [(.int x0), (.int x1)]) (rest := []) (lenOf own_pd201 rfl) rfl rfl (Nat.le_of_eq rfl) (by rw [hml]; rfl) (hb hby at_84) rfl (by decide) (by decide) ?_
          rintro _ vm9 h9 C9 ⟨rfl, rfl⟩
          have z9 := C9.2.1
          refine gat (mkF m 87 #[.val (.int x0), .val (.int x1), .val (.int x2), .val (.int x3), .val (.int x4), .val (.int x1), .val (.int x3), .val (.ref r1), .val (.ref r2), .val (.ref b3), .val (.ref b6), .val (.int kk), .unset] [(.int (1 : Int32))]) rfl ?_
          refine gs (mkF m 90 #[.val (.int x0), .val (.int x1), .val (.int x2), .val (.int x3), .val (.int x4), .val (.int x1), .val (.int x3), .val (.ref r1), .val (.ref r2), .val (.ref b3), .val (.ref b6), .val (.int kk), .unset] []) (fun _ _ A k => XS.ifNo A hx rfl (hb hby at_87) rfl ((if0 _ _).trans (feq (by decide)).1) k) ?_
          refine gs (mkF m 91 #[.val (.int x0), .val (.int x1), .val (.int x2), .val (.int x3), .val (.int x4), .val (.int x1), .val (.int x3), .val (.ref r1), .val (.ref r2), .val (.ref b3), .val (.ref b6), .val (.int kk), .unset] [(.int x2)]) (fun _ _ A k => XS.iloadN A hx rfl (hb hby at_90) rfl  k) ?_
          refine gs (mkF m 93 #[.val (.int x0), .val (.int x1), .val (.int x2), .val (.int x3), .val (.int x4), .val (.int x1), .val (.int x3), .val (.ref r1), .val (.ref r2), .val (.ref b3), .val (.ref b6), .val (.int kk), .unset] [(.int x3), (.int x2)]) (fun _ _ A k => XS.iload A hx rfl (hb hby at_91) rfl  k) ?_
          by_cases e2 : x2 = x3
          · refine gs (mkF m 96 #[.val (.int x0), .val (.int x1), .val (.int x2), .val (.int x3), .val (.int x4), .val (.int x1), .val (.int x3), .val (.ref r1), .val (.ref r2), .val (.ref b3), .val (.ref b6), .val (.int kk), .unset] []) (fun _ _ A k => XS.icmpNo A hx rfl (hb hby at_93) rfl (teq e2).2 k) ?_
            refine gs (mkF m 97 #[.val (.int x0), .val (.int x1), .val (.int x2), .val (.int x3), .val (.int x4), .val (.int x1), .val (.int x3), .val (.ref r1), .val (.ref r2), .val (.ref b3), .val (.ref b6), .val (.int kk), .unset] [(.int (1 : Int32))]) (fun _ _ A k => XS.iconst A hx rfl (hb hby at_96) k) ?_
            refine gs (mkF m 101 #[.val (.int x0), .val (.int x1), .val (.int x2), .val (.int x3), .val (.int x4), .val (.int x1), .val (.int x3), .val (.ref r1), .val (.ref r2), .val (.ref b3), .val (.ref b6), .val (.int kk), .unset] [(.int (1 : Int32))]) (fun _ _ A k => XS.goto A hx rfl (pc0 := 97) (pc' := 101) rfl (hb hby at_97) (by decide) (by decide) k) ?_
            refine gs (mkF m 103 #[.val (.int x0), .val (.int x1), .val (.int x2), .val (.int x3), .val (.int x4), .val (.int x1), .val (.int x3), .val (.ref r1), .val (.ref r2), .val (.ref b3), .val (.ref b6), .val (.int kk), .val (.int (1 : Int32))] []) (fun _ _ A k => XS.istore A hx rfl (hb hby at_101) rfl (l' := #[.val (.int x0), .val (.int x1), .val (.int x2), .val (.int x3), .val (.int x4), .val (.int x1), .val (.int x3), .val (.ref r1), .val (.ref r2), .val (.ref b3), .val (.ref b6), .val (.int kk), .val (.int (1 : Int32))]) rfl k) ?_
            refine gs (mkF m 105 #[.val (.int x0), .val (.int x1), .val (.int x2), .val (.int x3), .val (.int x4), .val (.int x1), .val (.int x3), .val (.ref r1), .val (.ref r2), .val (.ref b3), .val (.ref b6), .val (.int kk), .val (.int (1 : Int32))] [(.ref b3)]) (fun _ _ A k => XS.aload A hx rfl (hb hby at_103) rfl rfl k) ?_
            refine gs (mkF m 107 #[.val (.int x0), .val (.int x1), .val (.int x2), .val (.int x3), .val (.int x4), .val (.int x1), .val (.int x3), .val (.ref r1), .val (.ref r2), .val (.ref b3), .val (.ref b6), .val (.int kk), .val (.int (1 : Int32))] [(.ref b6), (.ref b3)]) (fun _ _ A k => XS.aload A hx rfl (hb hby at_105) rfl rfl k) ?_
            have f11 := (A6.keep K7)
            have f12 := ((q4_0.ext E6).keep K7 (ninS (Nat.ne_of_lt (by omega)) nin0))
            have f13 := ((q4_1.ext E6).keep K7 (ninS (Nat.ne_of_lt (by omega)) nin0))
            have f14 := (((f5.keep K4 (ninS (Nat.ne_of_lt (by omega)) nin0) (ninS (Nat.ne_of_lt (by omega)) nin0)).ext E6).keep K7 (ninS (Nat.ne_of_lt (by omega)) nin0) (ninS (Nat.ne_of_lt (by omega)) nin0))
            have f15 := (f8.keep K7 (ninS (Nat.ne_of_lt (by omega)) nin0) (ninS (Nat.ne_of_lt (by omega)) nin0))
            refine ginfo fun _ _ O10 => ?_
            have f16 := (((A3.keep K4).ext E6).keep K7)
            refine gcallV (y := (⟨"com/example/tasks_to_members/taskstomembers/core/Task", "equals", "(Ljava/lang/Object;)Z"⟩ : MethodName)) (z := (⟨"com/example/tasks_to_members/taskstomembers/core/Task", "equals", "(Ljava/lang/Object;)Z"⟩ : MethodName)) hx (ow hw 49 rfl) (ow hw 50 rfl) (nfSel (ow hw 52 rfl)) (ow hw 52 rfl) (ow hw 51 rfl) (by decide) (fun hZ H hEL => Pay.of_met (W := 0) (own_teq l Z a0 cx [] (b3) (b6) (r1) (r2) (x2) (x3) (t1) (t2) ((own_cs x0)) ((own_cs x1)) ((1 : Int32)) vm9 h7 O10 f11 f12 f13 q7_0 q7_1 f14 f15 ⟨fun _ => rfl, fun q => absurd ⟨e1, e2⟩ q⟩) (ow hw 53 rfl) (ow hw 31 rfl) (by decide) (by decide) hZ H hEL) 110 (argsL := [(.ref b6)]) (rest := []) f16 (lenOf own_pd157 rfl) rfl rfl (Nat.le_of_eq rfl) (by rw [hml]; rfl) (hb hby at_107) rfl (by decide) (by decide) ?_
            rintro _ vm10 h10 C10 ⟨rfl, rfl⟩
            have z10 := C10.2.1
            refine gat (mkF m 110 #[.val (.int x0), .val (.int x1), .val (.int x2), .val (.int x3), .val (.int x4), .val (.int x1), .val (.int x3), .val (.ref r1), .val (.ref r2), .val (.ref b3), .val (.ref b6), .val (.int kk), .val (.int (1 : Int32))] [(.int (1 : Int32))]) rfl ?_
            refine gs (mkF m 112 #[.val (.int x0), .val (.int x1), .val (.int x2), .val (.int x3), .val (.int x4), .val (.int x1), .val (.int x3), .val (.ref r1), .val (.ref r2), .val (.ref b3), .val (.ref b6), .val (.int kk), .val (.int (1 : Int32))] [(.int (1 : Int32)), (.int (1 : Int32))]) (fun _ _ A k => XS.iload A hx rfl (hb hby at_110) rfl  k) ?_
            refine gs (mkF m 115 #[.val (.int x0), .val (.int x1), .val (.int x2), .val (.int x3), .val (.int x4), .val (.int x1), .val (.int x3), .val (.ref r1), .val (.ref r2), .val (.ref b3), .val (.ref b6), .val (.int kk), .val (.int (1 : Int32))] []) (fun _ _ A k => XS.icmpNo A hx rfl (hb hby at_112) rfl (teq (by decide)).2 k) ?_
            refine gs (mkF m 117 #[.val (.int x0), .val (.int x1), .val (.int x2), .val (.int x3), .val (.int x4), .val (.int x1), .val (.int x3), .val (.ref r1), .val (.ref r2), .val (.ref b3), .val (.ref b6), .val (.int kk), .val (.int (1 : Int32))] [(.ref b6)]) (fun _ _ A k => XS.aload A hx rfl (hb hby at_115) rfl rfl k) ?_
            refine gs (mkF m 119 #[.val (.int x0), .val (.int x1), .val (.int x2), .val (.int x3), .val (.int x4), .val (.int x1), .val (.int x3), .val (.ref r1), .val (.ref r2), .val (.ref b3), .val (.ref b6), .val (.int kk), .val (.int (1 : Int32))] [(.ref b3), (.ref b6)]) (fun _ _ A k => XS.aload A hx rfl (hb hby at_117) rfl rfl k) ?_
            refine ginfo fun _ _ O17 => ?_
            refine gcallV (y := (⟨"com/example/tasks_to_members/taskstomembers/core/Task", "equals", "(Ljava/lang/Object;)Z"⟩ : MethodName)) (z := (⟨"com/example/tasks_to_members/taskstomembers/core/Task", "equals", "(Ljava/lang/Object;)Z"⟩ : MethodName)) hx (ow hw 49 rfl) (ow hw 50 rfl) (nfSel (ow hw 52 rfl)) (ow hw 52 rfl) (ow hw 51 rfl) (by decide) (fun hZ H hEL => Pay.of_met (W := 0) (own_teq l Z a0 cx [] (b6) (b3) (r2) (r1) (x3) (x2) (t2) (t1) ((own_cs x1)) ((own_cs x0)) ((1 : Int32)) vm10 h7 O17 f16 q7_0 q7_1 f12 f13 f15 f14 ⟨fun _ => rfl, fun q => absurd ⟨Eq.symm e1, Eq.symm e2⟩ q⟩) (ow hw 53 rfl) (ow hw 31 rfl) (by decide) (by decide) hZ H hEL) 122 (argsL := [(.ref b3)]) (rest := []) f11 (lenOf own_pd157 rfl) rfl rfl (Nat.le_of_eq rfl) (by rw [hml]; rfl) (hb hby at_119) rfl (by decide) (by decide) ?_
            rintro _ vm17 h17 C17 ⟨rfl, rfl⟩
            have z17 := C17.2.1
            refine gat (mkF m 122 #[.val (.int x0), .val (.int x1), .val (.int x2), .val (.int x3), .val (.int x4), .val (.int x1), .val (.int x3), .val (.ref r1), .val (.ref r2), .val (.ref b3), .val (.ref b6), .val (.int kk), .val (.int (1 : Int32))] [(.int (1 : Int32))]) rfl ?_
            refine gs (mkF m 124 #[.val (.int x0), .val (.int x1), .val (.int x2), .val (.int x3), .val (.int x4), .val (.int x1), .val (.int x3), .val (.ref r1), .val (.ref r2), .val (.ref b3), .val (.ref b6), .val (.int kk), .val (.int (1 : Int32))] [(.int (1 : Int32)), (.int (1 : Int32))]) (fun _ _ A k => XS.iload A hx rfl (hb hby at_122) rfl  k) ?_
            refine gs (mkF m 127 #[.val (.int x0), .val (.int x1), .val (.int x2), .val (.int x3), .val (.int x4), .val (.int x1), .val (.int x3), .val (.ref r1), .val (.ref r2), .val (.ref b3), .val (.ref b6), .val (.int kk), .val (.int (1 : Int32))] []) (fun _ _ A k => XS.icmpNo A hx rfl (hb hby at_124) rfl (teq (by decide)).2 k) ?_
            refine gs (mkF m 128 #[.val (.int x0), .val (.int x1), .val (.int x2), .val (.int x3), .val (.int x4), .val (.int x1), .val (.int x3), .val (.ref r1), .val (.ref r2), .val (.ref b3), .val (.ref b6), .val (.int kk), .val (.int (1 : Int32))] [(.int (1 : Int32))]) (fun _ _ A k => XS.iconst A hx rfl (hb hby at_127) k) ?_
            refine gs (mkF m 132 #[.val (.int x0), .val (.int x1), .val (.int x2), .val (.int x3), .val (.int x4), .val (.int x1), .val (.int x3), .val (.ref r1), .val (.ref r2), .val (.ref b3), .val (.ref b6), .val (.int kk), .val (.int (1 : Int32))] [(.int (1 : Int32))]) (fun _ _ A k => XS.goto A hx rfl (pc0 := 128) (pc' := 132) rfl (hb hby at_128) (by decide) (by decide) k) ?_
            exact gretN (t := .boolean) hx hret (by simp) (hb hby at_132) (by decide) (by decide) (fun vq Cq => ⟨rfl, (((((((Keep.refl h0 []).trans K1 all0).trans K2 all0).ext E3).trans K4 (allS (Or.inr (by omega)) all0)).ext E6).trans K7 (allS (Or.inr (by omega)) all0))⟩)
          · refine gs (mkF m 100 #[.val (.int x0), .val (.int x1), .val (.int x2), .val (.int x3), .val (.int x4), .val (.int x1), .val (.int x3), .val (.ref r1), .val (.ref r2), .val (.ref b3), .val (.ref b6), .val (.int kk), .unset] []) (fun _ _ A k => XS.icmpYes A hx rfl (pc0 := 93) (pc' := 100) rfl (hb hby at_93) rfl (feq e2).2 (by decide) (by decide) k) ?_
            refine gs (mkF m 101 #[.val (.int x0), .val (.int x1), .val (.int x2), .val (.int x3), .val (.int x4), .val (.int x1), .val (.int x3), .val (.ref r1), .val (.ref r2), .val (.ref b3), .val (.ref b6), .val (.int kk), .unset] [(.int (0 : Int32))]) (fun _ _ A k => XS.iconst A hx rfl (hb hby at_100) k) ?_
            refine gs (mkF m 103 #[.val (.int x0), .val (.int x1), .val (.int x2), .val (.int x3), .val (.int x4), .val (.int x1), .val (.int x3), .val (.ref r1), .val (.ref r2), .val (.ref b3), .val (.ref b6), .val (.int kk), .val (.int (0 : Int32))] []) (fun _ _ A k => XS.istore A hx rfl (hb hby at_101) rfl (l' := #[.val (.int x0), .val (.int x1), .val (.int x2), .val (.int x3), .val (.int x4), .val (.int x1), .val (.int x3), .val (.ref r1), .val (.ref r2), .val (.ref b3), .val (.ref b6), .val (.int kk), .val (.int (0 : Int32))]) rfl k) ?_
            refine gs (mkF m 105 #[.val (.int x0), .val (.int x1), .val (.int x2), .val (.int x3), .val (.int x4), .val (.int x1), .val (.int x3), .val (.ref r1), .val (.ref r2), .val (.ref b3), .val (.ref b6), .val (.int kk), .val (.int (0 : Int32))] [(.ref b3)]) (fun _ _ A k => XS.aload A hx rfl (hb hby at_103) rfl rfl k) ?_
            refine gs (mkF m 107 #[.val (.int x0), .val (.int x1), .val (.int x2), .val (.int x3), .val (.int x4), .val (.int x1), .val (.int x3), .val (.ref r1), .val (.ref r2), .val (.ref b3), .val (.ref b6), .val (.int kk), .val (.int (0 : Int32))] [(.ref b6), (.ref b3)]) (fun _ _ A k => XS.aload A hx rfl (hb hby at_105) rfl rfl k) ?_
            have f20 := (A6.keep K7)
            have f21 := ((q4_0.ext E6).keep K7 (ninS (Nat.ne_of_lt (by omega)) nin0))
            have f22 := ((q4_1.ext E6).keep K7 (ninS (Nat.ne_of_lt (by omega)) nin0))
            have f23 := (((f5.keep K4 (ninS (Nat.ne_of_lt (by omega)) nin0) (ninS (Nat.ne_of_lt (by omega)) nin0)).ext E6).keep K7 (ninS (Nat.ne_of_lt (by omega)) nin0) (ninS (Nat.ne_of_lt (by omega)) nin0))
            have f24 := (f8.keep K7 (ninS (Nat.ne_of_lt (by omega)) nin0) (ninS (Nat.ne_of_lt (by omega)) nin0))
            refine ginfo fun _ _ O19 => ?_
            have f25 := (((A3.keep K4).ext E6).keep K7)
            refine gcallV (y := (⟨"com/example/tasks_to_members/taskstomembers/core/Task", "equals", "(Ljava/lang/Object;)Z"⟩ : MethodName)) (z := (⟨"com/example/tasks_to_members/taskstomembers/core/Task", "equals", "(Ljava/lang/Object;)Z"⟩ : MethodName)) hx (ow hw 49 rfl) (ow hw 50 rfl) (nfSel (ow hw 52 rfl)) (ow hw 52 rfl) (ow hw 51 rfl) (by decide) (fun hZ H hEL => Pay.of_met (W := 0) (own_teq l Z a0 cx [] (b3) (b6) (r1) (r2) (x2) (x3) (t1) (t2) ((own_cs x0)) ((own_cs x1)) ((0 : Int32)) vm9 h7 O19 f20 f21 f22 q7_0 q7_1 f23 f24 ⟨fun q => absurd (q.2) e2, fun _ => rfl⟩) (ow hw 53 rfl) (ow hw 31 rfl) (by decide) (by decide) hZ H hEL) 110 (argsL := [(.ref b6)]) (rest := []) f25 (lenOf own_pd157 rfl) rfl rfl (Nat.le_of_eq rfl) (by rw [hml]; rfl) (hb hby at_107) rfl (by decide) (by decide) ?_
            rintro _ vm19 h19 C19 ⟨rfl, rfl⟩
            have z19 := C19.2.1
            refine gat (mkF m 110 #[.val (.int x0), .val (.int x1), .val (.int x2), .val (.int x3), .val (.int x4), .val (.int x1), .val (.int x3), .val (.ref r1), .val (.ref r2), .val (.ref b3), .val (.ref b6), .val (.int kk), .val (.int (0 : Int32))] [(.int (0 : Int32))]) rfl ?_
            refine gs (mkF m 112 #[.val (.int x0), .val (.int x1), .val (.int x2), .val (.int x3), .val (.int x4), .val (.int x1), .val (.int x3), .val (.ref r1), .val (.ref r2), .val (.ref b3), .val (.ref b6), .val (.int kk), .val (.int (0 : Int32))] [(.int (0 : Int32)), (.int (0 : Int32))]) (fun _ _ A k => XS.iload A hx rfl (hb hby at_110) rfl  k) ?_
            refine gs (mkF m 115 #[.val (.int x0), .val (.int x1), .val (.int x2), .val (.int x3), .val (.int x4), .val (.int x1), .val (.int x3), .val (.ref r1), .val (.ref r2), .val (.ref b3), .val (.ref b6), .val (.int kk), .val (.int (0 : Int32))] []) (fun _ _ A k => XS.icmpNo A hx rfl (hb hby at_112) rfl (teq (by decide)).2 k) ?_
            refine gs (mkF m 117 #[.val (.int x0), .val (.int x1), .val (.int x2), .val (.int x3), .val (.int x4), .val (.int x1), .val (.int x3), .val (.ref r1), .val (.ref r2), .val (.ref b3), .val (.ref b6), .val (.int kk), .val (.int (0 : Int32))] [(.ref b6)]) (fun _ _ A k => XS.aload A hx rfl (hb hby at_115) rfl rfl k) ?_
            refine gs (mkF m 119 #[.val (.int x0), .val (.int x1), .val (.int x2), .val (.int x3), .val (.int x4), .val (.int x1), .val (.int x3), .val (.ref r1), .val (.ref r2), .val (.ref b3), .val (.ref b6), .val (.int kk), .val (.int (0 : Int32))] [(.ref b3), (.ref b6)]) (fun _ _ A k => XS.aload A hx rfl (hb hby at_117) rfl rfl k) ?_
            refine ginfo fun _ _ O26 => ?_
            refine gcallV (y := (⟨"com/example/tasks_to_members/taskstomembers/core/Task", "equals", "(Ljava/lang/Object;)Z"⟩ : MethodName)) (z := (⟨"com/example/tasks_to_members/taskstomembers/core/Task", "equals", "(Ljava/lang/Object;)Z"⟩ : MethodName)) hx (ow hw 49 rfl) (ow hw 50 rfl) (nfSel (ow hw 52 rfl)) (ow hw 52 rfl) (ow hw 51 rfl) (by decide) (fun hZ H hEL => Pay.of_met (W := 0) (own_teq l Z a0 cx [] (b6) (b3) (r2) (r1) (x3) (x2) (t2) (t1) ((own_cs x1)) ((own_cs x0)) ((0 : Int32)) vm19 h7 O26 f25 q7_0 q7_1 f21 f22 f24 f23 ⟨fun q => absurd (Eq.symm q.2) e2, fun _ => rfl⟩) (ow hw 53 rfl) (ow hw 31 rfl) (by decide) (by decide) hZ H hEL) 122 (argsL := [(.ref b3)]) (rest := []) f20 (lenOf own_pd157 rfl) rfl rfl (Nat.le_of_eq rfl) (by rw [hml]; rfl) (hb hby at_119) rfl (by decide) (by decide) ?_
            rintro _ vm26 h26 C26 ⟨rfl, rfl⟩
            have z26 := C26.2.1
            refine gat (mkF m 122 #[.val (.int x0), .val (.int x1), .val (.int x2), .val (.int x3), .val (.int x4), .val (.int x1), .val (.int x3), .val (.ref r1), .val (.ref r2), .val (.ref b3), .val (.ref b6), .val (.int kk), .val (.int (0 : Int32))] [(.int (0 : Int32))]) rfl ?_
            refine gs (mkF m 124 #[.val (.int x0), .val (.int x1), .val (.int x2), .val (.int x3), .val (.int x4), .val (.int x1), .val (.int x3), .val (.ref r1), .val (.ref r2), .val (.ref b3), .val (.ref b6), .val (.int kk), .val (.int (0 : Int32))] [(.int (0 : Int32)), (.int (0 : Int32))]) (fun _ _ A k => XS.iload A hx rfl (hb hby at_122) rfl  k) ?_
            refine gs (mkF m 127 #[.val (.int x0), .val (.int x1), .val (.int x2), .val (.int x3), .val (.int x4), .val (.int x1), .val (.int x3), .val (.ref r1), .val (.ref r2), .val (.ref b3), .val (.ref b6), .val (.int kk), .val (.int (0 : Int32))] []) (fun _ _ A k => XS.icmpNo A hx rfl (hb hby at_124) rfl (teq (by decide)).2 k) ?_
            refine gs (mkF m 128 #[.val (.int x0), .val (.int x1), .val (.int x2), .val (.int x3), .val (.int x4), .val (.int x1), .val (.int x3), .val (.ref r1), .val (.ref r2), .val (.ref b3), .val (.ref b6), .val (.int kk), .val (.int (0 : Int32))] [(.int (1 : Int32))]) (fun _ _ A k => XS.iconst A hx rfl (hb hby at_127) k) ?_
            refine gs (mkF m 132 #[.val (.int x0), .val (.int x1), .val (.int x2), .val (.int x3), .val (.int x4), .val (.int x1), .val (.int x3), .val (.ref r1), .val (.ref r2), .val (.ref b3), .val (.ref b6), .val (.int kk), .val (.int (0 : Int32))] [(.int (1 : Int32))]) (fun _ _ A k => XS.goto A hx rfl (pc0 := 128) (pc' := 132) rfl (hb hby at_128) (by decide) (by decide) k) ?_
            exact gretN (t := .boolean) hx hret (by simp) (hb hby at_132) (by decide) (by decide) (fun vq Cq => ⟨rfl, (((((((Keep.refl h0 []).trans K1 all0).trans K2 all0).ext E3).trans K4 (allS (Or.inr (by omega)) all0)).ext E6).trans K7 (allS (Or.inr (by omega)) all0))⟩)
        · refine ginfo fun _ _ O28 => ?_
          refine gcallS (y := (⟨"com/example/tasks_to_members/taskstomembers/core/TaskEqualsPinLaw", "sameId", "(II)Z"⟩ : MethodName)) hx (ow hw 46 rfl) (ow hw 47 rfl) (ow hw 2 rfl) (ow hw 48 rfl) (by decide) (fun hZ H hEL => Pay.of_met (W := 0) (own_sameId l Z a0 cx [] (x0) (x1) ((0 : Int32)) vm7 h7 O28 ⟨fun q => absurd q e1, fun _ => rfl⟩) (ow hw 48 rfl) (ow hw 2 rfl) (by decide) (by decide) hZ H hEL) 87 (argsL := [(.int x0), (.int x1)]) (rest := []) (lenOf own_pd201 rfl) rfl rfl (Nat.le_of_eq rfl) (by rw [hml]; rfl) (hb hby at_84) rfl (by decide) (by decide) ?_
          rintro _ vm28 h28 C28 ⟨rfl, rfl⟩
          have z28 := C28.2.1
          refine gat (mkF m 87 #[.val (.int x0), .val (.int x1), .val (.int x2), .val (.int x3), .val (.int x4), .val (.int x1), .val (.int x3), .val (.ref r1), .val (.ref r2), .val (.ref b3), .val (.ref b6), .val (.int kk), .unset] [(.int (0 : Int32))]) rfl ?_
          refine gs (mkF m 100 #[.val (.int x0), .val (.int x1), .val (.int x2), .val (.int x3), .val (.int x4), .val (.int x1), .val (.int x3), .val (.ref r1), .val (.ref r2), .val (.ref b3), .val (.ref b6), .val (.int kk), .unset] []) (fun _ _ A k => XS.ifYes A hx rfl (pc0 := 87) (pc' := 100) rfl (hb hby at_87) rfl ((if0 _ _).trans (teq (by decide)).1) (by decide) (by decide) k) ?_
          refine gs (mkF m 101 #[.val (.int x0), .val (.int x1), .val (.int x2), .val (.int x3), .val (.int x4), .val (.int x1), .val (.int x3), .val (.ref r1), .val (.ref r2), .val (.ref b3), .val (.ref b6), .val (.int kk), .unset] [(.int (0 : Int32))]) (fun _ _ A k => XS.iconst A hx rfl (hb hby at_100) k) ?_
          refine gs (mkF m 103 #[.val (.int x0), .val (.int x1), .val (.int x2), .val (.int x3), .val (.int x4), .val (.int x1), .val (.int x3), .val (.ref r1), .val (.ref r2), .val (.ref b3), .val (.ref b6), .val (.int kk), .val (.int (0 : Int32))] []) (fun _ _ A k => XS.istore A hx rfl (hb hby at_101) rfl (l' := #[.val (.int x0), .val (.int x1), .val (.int x2), .val (.int x3), .val (.int x4), .val (.int x1), .val (.int x3), .val (.ref r1), .val (.ref r2), .val (.ref b3), .val (.ref b6), .val (.int kk), .val (.int (0 : Int32))]) rfl k) ?_
          refine gs (mkF m 105 #[.val (.int x0), .val (.int x1), .val (.int x2), .val (.int x3), .val (.int x4), .val (.int x1), .val (.int x3), .val (.ref r1), .val (.ref r2), .val (.ref b3), .val (.ref b6), .val (.int kk), .val (.int (0 : Int32))] [(.ref b3)]) (fun _ _ A k => XS.aload A hx rfl (hb hby at_103) rfl rfl k) ?_
          refine gs (mkF m 107 #[.val (.int x0), .val (.int x1), .val (.int x2), .val (.int x3), .val (.int x4), .val (.int x1), .val (.int x3), .val (.ref r1), .val (.ref r2), .val (.ref b3), .val (.ref b6), .val (.int kk), .val (.int (0 : Int32))] [(.ref b6), (.ref b3)]) (fun _ _ A k => XS.aload A hx rfl (hb hby at_105) rfl rfl k) ?_
          have f30 := (A6.keep K7)
          have f31 := ((q4_0.ext E6).keep K7 (ninS (Nat.ne_of_lt (by omega)) nin0))
          have f32 := ((q4_1.ext E6).keep K7 (ninS (Nat.ne_of_lt (by omega)) nin0))
          have f33 := (((f5.keep K4 (ninS (Nat.ne_of_lt (by omega)) nin0) (ninS (Nat.ne_of_lt (by omega)) nin0)).ext E6).keep K7 (ninS (Nat.ne_of_lt (by omega)) nin0) (ninS (Nat.ne_of_lt (by omega)) nin0))
          have f34 := (f8.keep K7 (ninS (Nat.ne_of_lt (by omega)) nin0) (ninS (Nat.ne_of_lt (by omega)) nin0))
          refine ginfo fun _ _ O29 => ?_
          have f35 := (((A3.keep K4).ext E6).keep K7)
          refine gcallV (y := (⟨"com/example/tasks_to_members/taskstomembers/core/Task", "equals", "(Ljava/lang/Object;)Z"⟩ : MethodName)) (z := (⟨"com/example/tasks_to_members/taskstomembers/core/Task", "equals", "(Ljava/lang/Object;)Z"⟩ : MethodName)) hx (ow hw 49 rfl) (ow hw 50 rfl) (nfSel (ow hw 52 rfl)) (ow hw 52 rfl) (ow hw 51 rfl) (by decide) (fun hZ H hEL => Pay.of_met (W := 0) (own_teq l Z a0 cx [] (b3) (b6) (r1) (r2) (x2) (x3) (t1) (t2) ((own_cs x0)) ((own_cs x1)) ((0 : Int32)) vm28 h7 O29 f30 f31 f32 q7_0 q7_1 f33 f34 ⟨fun q => absurd (q.1) e1, fun _ => rfl⟩) (ow hw 53 rfl) (ow hw 31 rfl) (by decide) (by decide) hZ H hEL) 110 (argsL := [(.ref b6)]) (rest := []) f35 (lenOf own_pd157 rfl) rfl rfl (Nat.le_of_eq rfl) (by rw [hml]; rfl) (hb hby at_107) rfl (by decide) (by decide) ?_
          rintro _ vm29 h29 C29 ⟨rfl, rfl⟩
          have z29 := C29.2.1
          refine gat (mkF m 110 #[.val (.int x0), .val (.int x1), .val (.int x2), .val (.int x3), .val (.int x4), .val (.int x1), .val (.int x3), .val (.ref r1), .val (.ref r2), .val (.ref b3), .val (.ref b6), .val (.int kk), .val (.int (0 : Int32))] [(.int (0 : Int32))]) rfl ?_
          refine gs (mkF m 112 #[.val (.int x0), .val (.int x1), .val (.int x2), .val (.int x3), .val (.int x4), .val (.int x1), .val (.int x3), .val (.ref r1), .val (.ref r2), .val (.ref b3), .val (.ref b6), .val (.int kk), .val (.int (0 : Int32))] [(.int (0 : Int32)), (.int (0 : Int32))]) (fun _ _ A k => XS.iload A hx rfl (hb hby at_110) rfl  k) ?_
          refine gs (mkF m 115 #[.val (.int x0), .val (.int x1), .val (.int x2), .val (.int x3), .val (.int x4), .val (.int x1), .val (.int x3), .val (.ref r1), .val (.ref r2), .val (.ref b3), .val (.ref b6), .val (.int kk), .val (.int (0 : Int32))] []) (fun _ _ A k => XS.icmpNo A hx rfl (hb hby at_112) rfl (teq (by decide)).2 k) ?_
          refine gs (mkF m 117 #[.val (.int x0), .val (.int x1), .val (.int x2), .val (.int x3), .val (.int x4), .val (.int x1), .val (.int x3), .val (.ref r1), .val (.ref r2), .val (.ref b3), .val (.ref b6), .val (.int kk), .val (.int (0 : Int32))] [(.ref b6)]) (fun _ _ A k => XS.aload A hx rfl (hb hby at_115) rfl rfl k) ?_
          refine gs (mkF m 119 #[.val (.int x0), .val (.int x1), .val (.int x2), .val (.int x3), .val (.int x4), .val (.int x1), .val (.int x3), .val (.ref r1), .val (.ref r2), .val (.ref b3), .val (.ref b6), .val (.int kk), .val (.int (0 : Int32))] [(.ref b3), (.ref b6)]) (fun _ _ A k => XS.aload A hx rfl (hb hby at_117) rfl rfl k) ?_
          refine ginfo fun _ _ O36 => ?_
          refine gcallV (y := (⟨"com/example/tasks_to_members/taskstomembers/core/Task", "equals", "(Ljava/lang/Object;)Z"⟩ : MethodName)) (z := (⟨"com/example/tasks_to_members/taskstomembers/core/Task", "equals", "(Ljava/lang/Object;)Z"⟩ : MethodName)) hx (ow hw 49 rfl) (ow hw 50 rfl) (nfSel (ow hw 52 rfl)) (ow hw 52 rfl) (ow hw 51 rfl) (by decide) (fun hZ H hEL => Pay.of_met (W := 0) (own_teq l Z a0 cx [] (b6) (b3) (r2) (r1) (x3) (x2) (t2) (t1) ((own_cs x1)) ((own_cs x0)) ((0 : Int32)) vm29 h7 O36 f35 q7_0 q7_1 f31 f32 f34 f33 ⟨fun q => absurd (Eq.symm q.1) e1, fun _ => rfl⟩) (ow hw 53 rfl) (ow hw 31 rfl) (by decide) (by decide) hZ H hEL) 122 (argsL := [(.ref b3)]) (rest := []) f30 (lenOf own_pd157 rfl) rfl rfl (Nat.le_of_eq rfl) (by rw [hml]; rfl) (hb hby at_119) rfl (by decide) (by decide) ?_
          rintro _ vm36 h36 C36 ⟨rfl, rfl⟩
          have z36 := C36.2.1
          refine gat (mkF m 122 #[.val (.int x0), .val (.int x1), .val (.int x2), .val (.int x3), .val (.int x4), .val (.int x1), .val (.int x3), .val (.ref r1), .val (.ref r2), .val (.ref b3), .val (.ref b6), .val (.int kk), .val (.int (0 : Int32))] [(.int (0 : Int32))]) rfl ?_
          refine gs (mkF m 124 #[.val (.int x0), .val (.int x1), .val (.int x2), .val (.int x3), .val (.int x4), .val (.int x1), .val (.int x3), .val (.ref r1), .val (.ref r2), .val (.ref b3), .val (.ref b6), .val (.int kk), .val (.int (0 : Int32))] [(.int (0 : Int32)), (.int (0 : Int32))]) (fun _ _ A k => XS.iload A hx rfl (hb hby at_122) rfl  k) ?_
          refine gs (mkF m 127 #[.val (.int x0), .val (.int x1), .val (.int x2), .val (.int x3), .val (.int x4), .val (.int x1), .val (.int x3), .val (.ref r1), .val (.ref r2), .val (.ref b3), .val (.ref b6), .val (.int kk), .val (.int (0 : Int32))] []) (fun _ _ A k => XS.icmpNo A hx rfl (hb hby at_124) rfl (teq (by decide)).2 k) ?_
          refine gs (mkF m 128 #[.val (.int x0), .val (.int x1), .val (.int x2), .val (.int x3), .val (.int x4), .val (.int x1), .val (.int x3), .val (.ref r1), .val (.ref r2), .val (.ref b3), .val (.ref b6), .val (.int kk), .val (.int (0 : Int32))] [(.int (1 : Int32))]) (fun _ _ A k => XS.iconst A hx rfl (hb hby at_127) k) ?_
          refine gs (mkF m 132 #[.val (.int x0), .val (.int x1), .val (.int x2), .val (.int x3), .val (.int x4), .val (.int x1), .val (.int x3), .val (.ref r1), .val (.ref r2), .val (.ref b3), .val (.ref b6), .val (.int kk), .val (.int (0 : Int32))] [(.int (1 : Int32))]) (fun _ _ A k => XS.goto A hx rfl (pc0 := 128) (pc' := 132) rfl (hb hby at_128) (by decide) (by decide) k) ?_
          exact gretN (t := .boolean) hx hret (by simp) (hb hby at_132) (by decide) (by decide) (fun vq Cq => ⟨rfl, (((((((Keep.refl h0 []).trans K1 all0).trans K2 all0).ext E3).trans K4 (allS (Or.inr (by omega)) all0)).ext E6).trans K7 (allS (Or.inr (by omega)) all0))⟩)
      · refine gs (mkF m 133 #[.val (.int x0), .val (.int x1), .val (.int x2), .val (.int x3), .val (.int x4), .val (.int x1), .val (.int x3), .val (.ref r1), .val (.ref r2), .val (.ref b3), .val (.ref b6), .val (.int kk), .unset] []) (fun _ _ A k => XS.icmpYes A hx rfl (pc0 := 78) (pc' := 133) rfl (hb hby at_78) rfl (flt k1).2.1 (by decide) (by decide) k) ?_
        refine gs (mkF m 135 #[.val (.int x0), .val (.int x1), .val (.int x2), .val (.int x3), .val (.int x4), .val (.int x1), .val (.int x3), .val (.ref r1), .val (.ref r2), .val (.ref b3), .val (.ref b6), .val (.int kk), .unset] [(.int kk)]) (fun _ _ A k => XS.iload A hx rfl (hb hby at_133) rfl  k) ?_
        refine gs (mkF m 136 #[.val (.int x0), .val (.int x1), .val (.int x2), .val (.int x3), .val (.int x4), .val (.int x1), .val (.int x3), .val (.ref r1), .val (.ref r2), .val (.ref b3), .val (.ref b6), .val (.int kk), .unset] [(.int (4 : Int32)), (.int kk)]) (fun _ _ A k => XS.iconst A hx rfl (hb hby at_135) k) ?_
        by_cases k2 : kk = (4 : Int32)
        · refine gs (mkF m 139 #[.val (.int x0), .val (.int x1), .val (.int x2), .val (.int x3), .val (.int x4), .val (.int x1), .val (.int x3), .val (.ref r1), .val (.ref r2), .val (.ref b3), .val (.ref b6), .val (.int kk), .unset] []) (fun _ _ A k => XS.icmpNo A hx rfl (hb hby at_136) rfl (teq k2).2 k) ?_
          refine gs (mkF m 141 #[.val (.int x0), .val (.int x1), .val (.int x2), .val (.int x3), .val (.int x4), .val (.int x1), .val (.int x3), .val (.ref r1), .val (.ref r2), .val (.ref b3), .val (.ref b6), .val (.int kk), .unset] [(.ref b3)]) (fun _ _ A k => XS.aload A hx rfl (hb hby at_139) rfl rfl k) ?_
          refine gs (mkF m 142 #[.val (.int x0), .val (.int x1), .val (.int x2), .val (.int x3), .val (.int x4), .val (.int x1), .val (.int x3), .val (.ref r1), .val (.ref r2), .val (.ref b3), .val (.ref b6), .val (.int kk), .unset] [.null, (.ref b3)]) (fun _ _ A k => XS.aconstNull A hx rfl (hb hby at_141) k) ?_
          refine ginfo fun _ _ O38 => ?_
          have f39 := (((A3.keep K4).ext E6).keep K7)
          refine gcallV (y := (⟨"com/example/tasks_to_members/taskstomembers/core/Task", "equals", "(Ljava/lang/Object;)Z"⟩ : MethodName)) (z := (⟨"com/example/tasks_to_members/taskstomembers/core/Task", "equals", "(Ljava/lang/Object;)Z"⟩ : MethodName)) hx (ow hw 49 rfl) (ow hw 50 rfl) (nfSel (ow hw 52 rfl)) (ow hw 52 rfl) (ow hw 51 rfl) (by decide) (fun hZ H hEL => Pay.of_met (W := 0) (own_teqN l Z a0 cx [] (b3) vm7 h7 O38 ) (ow hw 53 rfl) (ow hw 31 rfl) (by decide) (by decide) hZ H hEL) 145 (argsL := [.null]) (rest := []) f39 (lenOf own_pd157 rfl) rfl rfl (Nat.le_of_eq rfl) (by rw [hml]; rfl) (hb hby at_142) rfl (by decide) (by decide) ?_
          rintro _ vm38 h38 C38 ⟨rfl, rfl⟩
          have z38 := C38.2.1
          refine gat (mkF m 145 #[.val (.int x0), .val (.int x1), .val (.int x2), .val (.int x3), .val (.int x4), .val (.int x1), .val (.int x3), .val (.ref r1), .val (.ref r2), .val (.ref b3), .val (.ref b6), .val (.int kk), .unset] [(.int (0 : Int32))]) rfl ?_
          refine gs (mkF m 148 #[.val (.int x0), .val (.int x1), .val (.int x2), .val (.int x3), .val (.int x4), .val (.int x1), .val (.int x3), .val (.ref r1), .val (.ref r2), .val (.ref b3), .val (.ref b6), .val (.int kk), .unset] []) (fun _ _ A k => XS.ifNo A hx rfl (hb hby at_145) rfl ((if0 _ _).trans (teq (by decide)).2) k) ?_
          refine gs (mkF m 149 #[.val (.int x0), .val (.int x1), .val (.int x2), .val (.int x3), .val (.int x4), .val (.int x1), .val (.int x3), .val (.ref r1), .val (.ref r2), .val (.ref b3), .val (.ref b6), .val (.int kk), .unset] [(.int (1 : Int32))]) (fun _ _ A k => XS.iconst A hx rfl (hb hby at_148) k) ?_
          refine gs (mkF m 153 #[.val (.int x0), .val (.int x1), .val (.int x2), .val (.int x3), .val (.int x4), .val (.int x1), .val (.int x3), .val (.ref r1), .val (.ref r2), .val (.ref b3), .val (.ref b6), .val (.int kk), .unset] [(.int (1 : Int32))]) (fun _ _ A k => XS.goto A hx rfl (pc0 := 149) (pc' := 153) rfl (hb hby at_149) (by decide) (by decide) k) ?_
          exact gretN (t := .boolean) hx hret (by simp) (hb hby at_153) (by decide) (by decide) (fun vq Cq => ⟨rfl, (((((((Keep.refl h0 []).trans K1 all0).trans K2 all0).ext E3).trans K4 (allS (Or.inr (by omega)) all0)).ext E6).trans K7 (allS (Or.inr (by omega)) all0))⟩)
        · refine gs (mkF m 154 #[.val (.int x0), .val (.int x1), .val (.int x2), .val (.int x3), .val (.int x4), .val (.int x1), .val (.int x3), .val (.ref r1), .val (.ref r2), .val (.ref b3), .val (.ref b6), .val (.int kk), .unset] []) (fun _ _ A k => XS.icmpYes A hx rfl (pc0 := 136) (pc' := 154) rfl (hb hby at_136) rfl (feq k2).2 (by decide) (by decide) k) ?_
          refine gs (mkF m 156 #[.val (.int x0), .val (.int x1), .val (.int x2), .val (.int x3), .val (.int x4), .val (.int x1), .val (.int x3), .val (.ref r1), .val (.ref r2), .val (.ref b3), .val (.ref b6), .val (.int kk), .unset] [(.int kk)]) (fun _ _ A k => XS.iload A hx rfl (hb hby at_154) rfl  k) ?_
          refine gs (mkF m 157 #[.val (.int x0), .val (.int x1), .val (.int x2), .val (.int x3), .val (.int x4), .val (.int x1), .val (.int x3), .val (.ref r1), .val (.ref r2), .val (.ref b3), .val (.ref b6), .val (.int kk), .unset] [(.int (5 : Int32)), (.int kk)]) (fun _ _ A k => XS.iconst A hx rfl (hb hby at_156) k) ?_
          by_cases k3 : kk = (5 : Int32)
          · refine gs (mkF m 160 #[.val (.int x0), .val (.int x1), .val (.int x2), .val (.int x3), .val (.int x4), .val (.int x1), .val (.int x3), .val (.ref r1), .val (.ref r2), .val (.ref b3), .val (.ref b6), .val (.int kk), .unset] []) (fun _ _ A k => XS.icmpNo A hx rfl (hb hby at_157) rfl (teq k3).2 k) ?_
            refine gs (mkF m 162 #[.val (.int x0), .val (.int x1), .val (.int x2), .val (.int x3), .val (.int x4), .val (.int x1), .val (.int x3), .val (.ref r1), .val (.ref r2), .val (.ref b3), .val (.ref b6), .val (.int kk), .unset] [(.ref b3)]) (fun _ _ A k => XS.aload A hx rfl (hb hby at_160) rfl rfl k) ?_
            refine gs (mkF m 164 #[.val (.int x0), .val (.int x1), .val (.int x2), .val (.int x3), .val (.int x4), .val (.int x1), .val (.int x3), .val (.ref r1), .val (.ref r2), .val (.ref b3), .val (.ref b6), .val (.int kk), .unset] [(.ref r1), (.ref b3)]) (fun _ _ A k => XS.aload A hx rfl (hb hby at_162) rfl rfl k) ?_
            have f42 := (((f5.keep K4 (ninS (Nat.ne_of_lt (by omega)) nin0) (ninS (Nat.ne_of_lt (by omega)) nin0)).ext E6).keep K7 (ninS (Nat.ne_of_lt (by omega)) nin0) (ninS (Nat.ne_of_lt (by omega)) nin0))
            refine ginfo fun _ _ O41 => ?_
            have f43 := (((A3.keep K4).ext E6).keep K7)
            refine gcallV (y := (⟨"com/example/tasks_to_members/taskstomembers/core/Task", "equals", "(Ljava/lang/Object;)Z"⟩ : MethodName)) (z := (⟨"com/example/tasks_to_members/taskstomembers/core/Task", "equals", "(Ljava/lang/Object;)Z"⟩ : MethodName)) hx (ow hw 49 rfl) (ow hw 50 rfl) (nfSel (ow hw 52 rfl)) (ow hw 52 rfl) (ow hw 51 rfl) (by decide) (fun hZ H hEL => Pay.of_met (W := 0) (own_teqS l Z a0 cx [] (b3) (r1) vm7 h7 O41 f42.1) (ow hw 53 rfl) (ow hw 31 rfl) (by decide) (by decide) hZ H hEL) 167 (argsL := [(.ref r1)]) (rest := []) f43 (lenOf own_pd157 rfl) rfl rfl (Nat.le_of_eq rfl) (by rw [hml]; rfl) (hb hby at_164) rfl (by decide) (by decide) ?_
            rintro _ vm41 h41 C41 ⟨rfl, rfl⟩
            have z41 := C41.2.1
            refine gat (mkF m 167 #[.val (.int x0), .val (.int x1), .val (.int x2), .val (.int x3), .val (.int x4), .val (.int x1), .val (.int x3), .val (.ref r1), .val (.ref r2), .val (.ref b3), .val (.ref b6), .val (.int kk), .unset] [(.int (0 : Int32))]) rfl ?_
            refine gs (mkF m 170 #[.val (.int x0), .val (.int x1), .val (.int x2), .val (.int x3), .val (.int x4), .val (.int x1), .val (.int x3), .val (.ref r1), .val (.ref r2), .val (.ref b3), .val (.ref b6), .val (.int kk), .unset] []) (fun _ _ A k => XS.ifNo A hx rfl (hb hby at_167) rfl ((if0 _ _).trans (teq (by decide)).2) k) ?_
            refine gs (mkF m 171 #[.val (.int x0), .val (.int x1), .val (.int x2), .val (.int x3), .val (.int x4), .val (.int x1), .val (.int x3), .val (.ref r1), .val (.ref r2), .val (.ref b3), .val (.ref b6), .val (.int kk), .unset] [(.int (1 : Int32))]) (fun _ _ A k => XS.iconst A hx rfl (hb hby at_170) k) ?_
            refine gs (mkF m 175 #[.val (.int x0), .val (.int x1), .val (.int x2), .val (.int x3), .val (.int x4), .val (.int x1), .val (.int x3), .val (.ref r1), .val (.ref r2), .val (.ref b3), .val (.ref b6), .val (.int kk), .unset] [(.int (1 : Int32))]) (fun _ _ A k => XS.goto A hx rfl (pc0 := 171) (pc' := 175) rfl (hb hby at_171) (by decide) (by decide) k) ?_
            exact gretN (t := .boolean) hx hret (by simp) (hb hby at_175) (by decide) (by decide) (fun vq Cq => ⟨rfl, (((((((Keep.refl h0 []).trans K1 all0).trans K2 all0).ext E3).trans K4 (allS (Or.inr (by omega)) all0)).ext E6).trans K7 (allS (Or.inr (by omega)) all0))⟩)
          · refine gs (mkF m 176 #[.val (.int x0), .val (.int x1), .val (.int x2), .val (.int x3), .val (.int x4), .val (.int x1), .val (.int x3), .val (.ref r1), .val (.ref r2), .val (.ref b3), .val (.ref b6), .val (.int kk), .unset] []) (fun _ _ A k => XS.icmpYes A hx rfl (pc0 := 157) (pc' := 176) rfl (hb hby at_157) rfl (feq k3).2 (by decide) (by decide) k) ?_
            refine gs (mkF m 178 #[.val (.int x0), .val (.int x1), .val (.int x2), .val (.int x3), .val (.int x4), .val (.int x1), .val (.int x3), .val (.ref r1), .val (.ref r2), .val (.ref b3), .val (.ref b6), .val (.int kk), .unset] [(.int kk)]) (fun _ _ A k => XS.iload A hx rfl (hb hby at_176) rfl  k) ?_
            refine gs (mkF m 180 #[.val (.int x0), .val (.int x1), .val (.int x2), .val (.int x3), .val (.int x4), .val (.int x1), .val (.int x3), .val (.ref r1), .val (.ref r2), .val (.ref b3), .val (.ref b6), .val (.int kk), .unset] [(.int (6 : Int32)), (.int kk)]) (fun _ _ A k => XS.bipush A hx rfl (hb hby at_178) k) ?_
            by_cases k4 : kk = (6 : Int32)
            · refine gs (mkF m 183 #[.val (.int x0), .val (.int x1), .val (.int x2), .val (.int x3), .val (.int x4), .val (.int x1), .val (.int x3), .val (.ref r1), .val (.ref r2), .val (.ref b3), .val (.ref b6), .val (.int kk), .unset] []) (fun _ _ A k => XS.icmpNo A hx rfl (hb hby at_180) rfl (teq k4).2 k) ?_
              refine gs (mkF m 185 #[.val (.int x0), .val (.int x1), .val (.int x2), .val (.int x3), .val (.int x4), .val (.int x1), .val (.int x3), .val (.ref r1), .val (.ref r2), .val (.ref b3), .val (.ref b6), .val (.int kk), .unset] [(.ref b3)]) (fun _ _ A k => XS.aload A hx rfl (hb hby at_183) rfl rfl k) ?_
              refine gs (mkF m 186 #[.val (.int x0), .val (.int x1), .val (.int x2), .val (.int x3), .val (.int x4), .val (.int x1), .val (.int x3), .val (.ref r1), .val (.ref r2), .val (.ref b3), .val (.ref b6), .val (.int kk), .unset] [(.int x2), (.ref b3)]) (fun _ _ A k => XS.iloadN A hx rfl (hb hby at_185) rfl  k) ?_
              refine ginfo fun _ _ O45 => ?_
              refine gcallS (y := (⟨"java/lang/Integer", "valueOf", "(I)Ljava/lang/Integer;"⟩ : MethodName)) hx (ow hw 67 rfl) (ow hw 68 rfl) (ow hw 69 rfl) (ow hw 70 rfl) (by decide) (fun hZ H hEL => Pay.of_met (W := 1) (own_valueOf l Z a0 cx [] (x2) vm7 h7 O45 ) (ow hw 70 rfl) (ow hw 69 rfl) (by decide) (by decide) hZ H hEL) 189 (argsL := [(.int x2)]) (rest := [(.ref b3)]) (lenOf own_pd202 rfl) rfl rfl (Nat.le_of_eq rfl) (by rw [hml]; rfl) (hb hby at_186) rfl (by decide) (by decide) ?_
              rintro _ vm45 h45 C45 ⟨r45, rfl, K45, q45_0⟩
              have z45 := C45.2.1
              have lt_r45 : h45.size > r45 := q45_0.lt
              refine gat (mkF m 189 #[.val (.int x0), .val (.int x1), .val (.int x2), .val (.int x3), .val (.int x4), .val (.int x1), .val (.int x3), .val (.ref r1), .val (.ref r2), .val (.ref b3), .val (.ref b6), .val (.int kk), .unset] [(.ref r45), (.ref b3)]) rfl ?_
              refine ginfo fun _ _ O46 => ?_
              have f47 := ((((A3.keep K4).ext E6).keep K7).keep K45)
              refine gcallV (y := (⟨"com/example/tasks_to_members/taskstomembers/core/Task", "equals", "(Ljava/lang/Object;)Z"⟩ : MethodName)) (z := (⟨"com/example/tasks_to_members/taskstomembers/core/Task", "equals", "(Ljava/lang/Object;)Z"⟩ : MethodName)) hx (ow hw 49 rfl) (ow hw 50 rfl) (nfSel (ow hw 52 rfl)) (ow hw 52 rfl) (ow hw 51 rfl) (by decide) (fun hZ H hEL => Pay.of_met (W := 0) (own_teqI l Z a0 cx [] (b3) (r45) vm45 h45 O46 q45_0) (ow hw 53 rfl) (ow hw 31 rfl) (by decide) (by decide) hZ H hEL) 192 (argsL := [(.ref r45)]) (rest := []) f47 (lenOf own_pd157 rfl) rfl rfl (Nat.le_of_eq rfl) (by rw [hml]; rfl) (hb hby at_189) rfl (by decide) (by decide) ?_
              rintro _ vm46 h46 C46 ⟨rfl, rfl⟩
              have z46 := C46.2.1
              refine gat (mkF m 192 #[.val (.int x0), .val (.int x1), .val (.int x2), .val (.int x3), .val (.int x4), .val (.int x1), .val (.int x3), .val (.ref r1), .val (.ref r2), .val (.ref b3), .val (.ref b6), .val (.int kk), .unset] [(.int (0 : Int32))]) rfl ?_
              refine gs (mkF m 195 #[.val (.int x0), .val (.int x1), .val (.int x2), .val (.int x3), .val (.int x4), .val (.int x1), .val (.int x3), .val (.ref r1), .val (.ref r2), .val (.ref b3), .val (.ref b6), .val (.int kk), .unset] []) (fun _ _ A k => XS.ifNo A hx rfl (hb hby at_192) rfl ((if0 _ _).trans (teq (by decide)).2) k) ?_
              refine gs (mkF m 196 #[.val (.int x0), .val (.int x1), .val (.int x2), .val (.int x3), .val (.int x4), .val (.int x1), .val (.int x3), .val (.ref r1), .val (.ref r2), .val (.ref b3), .val (.ref b6), .val (.int kk), .unset] [(.int (1 : Int32))]) (fun _ _ A k => XS.iconst A hx rfl (hb hby at_195) k) ?_
              refine gs (mkF m 200 #[.val (.int x0), .val (.int x1), .val (.int x2), .val (.int x3), .val (.int x4), .val (.int x1), .val (.int x3), .val (.ref r1), .val (.ref r2), .val (.ref b3), .val (.ref b6), .val (.int kk), .unset] [(.int (1 : Int32))]) (fun _ _ A k => XS.goto A hx rfl (pc0 := 196) (pc' := 200) rfl (hb hby at_196) (by decide) (by decide) k) ?_
              exact gretN (t := .boolean) hx hret (by simp) (hb hby at_200) (by decide) (by decide) (fun vq Cq => ⟨rfl, ((((((((Keep.refl h0 []).trans K1 all0).trans K2 all0).ext E3).trans K4 (allS (Or.inr (by omega)) all0)).ext E6).trans K7 (allS (Or.inr (by omega)) all0)).trans K45 all0)⟩)
            · refine gs (mkF m 201 #[.val (.int x0), .val (.int x1), .val (.int x2), .val (.int x3), .val (.int x4), .val (.int x1), .val (.int x3), .val (.ref r1), .val (.ref r2), .val (.ref b3), .val (.ref b6), .val (.int kk), .unset] []) (fun _ _ A k => XS.icmpYes A hx rfl (pc0 := 180) (pc' := 201) rfl (hb hby at_180) rfl (feq k4).2 (by decide) (by decide) k) ?_
              refine gs (mkF m 203 #[.val (.int x0), .val (.int x1), .val (.int x2), .val (.int x3), .val (.int x4), .val (.int x1), .val (.int x3), .val (.ref r1), .val (.ref r2), .val (.ref b3), .val (.ref b6), .val (.int kk), .unset] [(.ref b3)]) (fun _ _ A k => XS.aload A hx rfl (hb hby at_201) rfl rfl k) ?_
              refine gs (mkF m 205 #[.val (.int x0), .val (.int x1), .val (.int x2), .val (.int x3), .val (.int x4), .val (.int x1), .val (.int x3), .val (.ref r1), .val (.ref r2), .val (.ref b3), .val (.ref b6), .val (.int kk), .unset] [(.ref b3), (.ref b3)]) (fun _ _ A k => XS.aload A hx rfl (hb hby at_203) rfl rfl k) ?_
              have f50 := (((A3.keep K4).ext E6).keep K7)
              have f51 := ((q4_0.ext E6).keep K7 (ninS (Nat.ne_of_lt (by omega)) nin0))
              have f52 := ((q4_1.ext E6).keep K7 (ninS (Nat.ne_of_lt (by omega)) nin0))
              have f53 := (((f5.keep K4 (ninS (Nat.ne_of_lt (by omega)) nin0) (ninS (Nat.ne_of_lt (by omega)) nin0)).ext E6).keep K7 (ninS (Nat.ne_of_lt (by omega)) nin0) (ninS (Nat.ne_of_lt (by omega)) nin0))
              refine ginfo fun _ _ O49 => ?_
              refine gcallV (y := (⟨"com/example/tasks_to_members/taskstomembers/core/Task", "equals", "(Ljava/lang/Object;)Z"⟩ : MethodName)) (z := (⟨"com/example/tasks_to_members/taskstomembers/core/Task", "equals", "(Ljava/lang/Object;)Z"⟩ : MethodName)) hx (ow hw 49 rfl) (ow hw 50 rfl) (nfSel (ow hw 52 rfl)) (ow hw 52 rfl) (ow hw 51 rfl) (by decide) (fun hZ H hEL => Pay.of_met (W := 0) (own_teq l Z a0 cx [] (b3) (b3) (r1) (r1) (x2) (x2) (t1) (t1) ((own_cs x0)) ((own_cs x0)) ((1 : Int32)) vm7 h7 O49 f50 f51 f52 f51 f52 f53 f53 ⟨fun _ => rfl, fun q => absurd ⟨rfl, rfl⟩ q⟩) (ow hw 53 rfl) (ow hw 31 rfl) (by decide) (by decide) hZ H hEL) 208 (argsL := [(.ref b3)]) (rest := []) f50 (lenOf own_pd157 rfl) rfl rfl (Nat.le_of_eq rfl) (by rw [hml]; rfl) (hb hby at_205) rfl (by decide) (by decide) ?_
              rintro _ vm49 h49 C49 ⟨rfl, rfl⟩
              have z49 := C49.2.1
              refine gat (mkF m 208 #[.val (.int x0), .val (.int x1), .val (.int x2), .val (.int x3), .val (.int x4), .val (.int x1), .val (.int x3), .val (.ref r1), .val (.ref r2), .val (.ref b3), .val (.ref b6), .val (.int kk), .unset] [(.int (1 : Int32))]) rfl ?_
              exact gretN (t := .boolean) hx hret (by simp) (hb hby at_208) (by decide) (by decide) (fun vq Cq => ⟨rfl, (((((((Keep.refl h0 []).trans K1 all0).trans K2 all0).ext E3).trans K4 (allS (Or.inr (by omega)) all0)).ext E6).trans K7 (allS (Or.inr (by omega)) all0))⟩)
    · refine gs (mkF m 21 #[.val (.int x0), .val (.int x1), .val (.int x2), .val (.int x3), .val (.int x4), .val (.int x1), .unset, .unset, .unset, .unset, .unset, .unset, .unset] []) (fun _ _ A k => XS.ifNo A hx rfl (hb hby at_18) rfl ((if0 _ _).trans (feq s2).1) k) ?_
      refine gs (mkF m 22 #[.val (.int x0), .val (.int x1), .val (.int x2), .val (.int x3), .val (.int x4), .val (.int x1), .unset, .unset, .unset, .unset, .unset, .unset, .unset] [(.int x2)]) (fun _ _ A k => XS.iloadN A hx rfl (hb hby at_21) rfl  k) ?_
      refine gs (mkF m 26 #[.val (.int x0), .val (.int x1), .val (.int x2), .val (.int x3), .val (.int x4), .val (.int x1), .unset, .unset, .unset, .unset, .unset, .unset, .unset] [(.int x2)]) (fun _ _ A k => XS.goto A hx rfl (pc0 := 22) (pc' := 26) rfl (hb hby at_22) (by decide) (by decide) k) ?_
      refine gs (mkF m 28 #[.val (.int x0), .val (.int x1), .val (.int x2), .val (.int x3), .val (.int x4), .val (.int x1), .val (.int x2), .unset, .unset, .unset, .unset, .unset, .unset] []) (fun _ _ A k => XS.istore A hx rfl (hb hby at_26) rfl (l' := #[.val (.int x0), .val (.int x1), .val (.int x2), .val (.int x3), .val (.int x4), .val (.int x1), .val (.int x2), .unset, .unset, .unset, .unset, .unset, .unset]) rfl k) ?_
      refine gs (mkF m 29 #[.val (.int x0), .val (.int x1), .val (.int x2), .val (.int x3), .val (.int x4), .val (.int x1), .val (.int x2), .unset, .unset, .unset, .unset, .unset, .unset] [(.int x0)]) (fun _ _ A k => XS.iloadN A hx rfl (hb hby at_28) rfl  k) ?_
      refine ginfo fun _ _ O55 => ?_
      refine gcallS (y := (⟨"com/example/tasks_to_members/taskstomembers/core/TaskEqualsPinLaw", "mk", "(I)Ljava/lang/String;"⟩ : MethodName)) hx (ow hw 0 rfl) (ow hw 1 rfl) (ow hw 2 rfl) (ow hw 3 rfl) (by decide) (fun hZ H hEL => Pay.of_met (W := 0) (own_mk l Z a0 cx [] (x0) vm h0 O55 ) (ow hw 3 rfl) (ow hw 2 rfl) (by decide) (by decide) hZ H hEL) 32 (argsL := [(.int x0)]) (rest := []) (lenOf own_pd199 rfl) rfl rfl (Nat.le_of_eq rfl) (by rw [hml]; rfl) (hb hby at_29) rfl (by decide) (by decide) ?_
      rintro _ vm55 h55 C55 ⟨r55, t55, rfl, K55, q55_0⟩
      have z55 := C55.2.1
      have lt_r55 : h55.size > r55 := q55_0.1.lt
      have lt_t55 : h55.size > t55 := q55_0.tlt
      refine gat (mkF m 32 #[.val (.int x0), .val (.int x1), .val (.int x2), .val (.int x3), .val (.int x4), .val (.int x1), .val (.int x2), .unset, .unset, .unset, .unset, .unset, .unset] [(.ref r55)]) rfl ?_
      refine gs (mkF m 34 #[.val (.int x0), .val (.int x1), .val (.int x2), .val (.int x3), .val (.int x4), .val (.int x1), .val (.int x2), .val (.ref r55), .unset, .unset, .unset, .unset, .unset] []) (fun _ _ A k => XS.astore A hx rfl (hb hby at_32) rfl rfl (l' := #[.val (.int x0), .val (.int x1), .val (.int x2), .val (.int x3), .val (.int x4), .val (.int x1), .val (.int x2), .val (.ref r55), .unset, .unset, .unset, .unset, .unset]) rfl k) ?_
      refine gs (mkF m 36 #[.val (.int x0), .val (.int x1), .val (.int x2), .val (.int x3), .val (.int x4), .val (.int x1), .val (.int x2), .val (.ref r55), .unset, .unset, .unset, .unset, .unset] [(.int x1)]) (fun _ _ A k => XS.iload A hx rfl (hb hby at_34) rfl  k) ?_
      refine ginfo fun _ _ O56 => ?_
      refine gcallS (y := (⟨"com/example/tasks_to_members/taskstomembers/core/TaskEqualsPinLaw", "mk", "(I)Ljava/lang/String;"⟩ : MethodName)) hx (ow hw 0 rfl) (ow hw 1 rfl) (ow hw 2 rfl) (ow hw 3 rfl) (by decide) (fun hZ H hEL => Pay.of_met (W := 0) (own_mk l Z a0 cx [] (x1) vm55 h55 O56 ) (ow hw 3 rfl) (ow hw 2 rfl) (by decide) (by decide) hZ H hEL) 39 (argsL := [(.int x1)]) (rest := []) (lenOf own_pd199 rfl) rfl rfl (Nat.le_of_eq rfl) (by rw [hml]; rfl) (hb hby at_36) rfl (by decide) (by decide) ?_
      rintro _ vm56 h56 C56 ⟨r56, t56, rfl, K56, q56_0⟩
      have z56 := C56.2.1
      have lt_r56 : h56.size > r56 := q56_0.1.lt
      have lt_t56 : h56.size > t56 := q56_0.tlt
      refine gat (mkF m 39 #[.val (.int x0), .val (.int x1), .val (.int x2), .val (.int x3), .val (.int x4), .val (.int x1), .val (.int x2), .val (.ref r55), .unset, .unset, .unset, .unset, .unset] [(.ref r56)]) rfl ?_
      refine gs (mkF m 41 #[.val (.int x0), .val (.int x1), .val (.int x2), .val (.int x3), .val (.int x4), .val (.int x1), .val (.int x2), .val (.ref r55), .val (.ref r56), .unset, .unset, .unset, .unset] []) (fun _ _ A k => XS.astore A hx rfl (hb hby at_39) rfl rfl (l' := #[.val (.int x0), .val (.int x1), .val (.int x2), .val (.int x3), .val (.int x4), .val (.int x1), .val (.int x2), .val (.ref r55), .val (.ref r56), .unset, .unset, .unset, .unset]) rfl k) ?_
      refine gnewO hx (ow hw 29 rfl) (ow hw 30 rfl) (ow hw 31 rfl) 44 (hb hby at_41) rfl (by decide) (by decide) ?_
      intro b57 h57 g57 E57 C57 A57 D57 n57 L57
      have z57 := C57.2.1
      have lt_b57 : h57.size > b57 := A57.lt
      have F57_subtopologyId : Fld Z h57 b57 "com/example/tasks_to_members/taskstomembers/core/Task" "subtopologyId" "Ljava/lang/String;" .null := D57 (Or.inr (ow hw 43 rfl)) (ty := (.object "java/lang/String")) (by decide)
      have F57_partition : Fld Z h57 b57 "com/example/tasks_to_members/taskstomembers/core/Task" "partition" "I" (.int (0 : Int32)) := D57 (Or.inr (ow hw 45 rfl)) (ty := .int) (by decide)
      refine gs (mkF m 45 #[.val (.int x0), .val (.int x1), .val (.int x2), .val (.int x3), .val (.int x4), .val (.int x1), .val (.int x2), .val (.ref r55), .val (.ref r56), .unset, .unset, .unset, .unset] [(.ref b57), (.ref b57)]) (fun _ _ A k => XS.dup A hx rfl (hb hby at_44) rfl rfl k) ?_
      refine gs (mkF m 47 #[.val (.int x0), .val (.int x1), .val (.int x2), .val (.int x3), .val (.int x4), .val (.int x1), .val (.int x2), .val (.ref r55), .val (.ref r56), .unset, .unset, .unset, .unset] [(.ref r55), (.ref b57), (.ref b57)]) (fun _ _ A k => XS.aload A hx rfl (hb hby at_45) rfl rfl k) ?_
      refine gs (mkF m 48 #[.val (.int x0), .val (.int x1), .val (.int x2), .val (.int x3), .val (.int x4), .val (.int x1), .val (.int x2), .val (.ref r55), .val (.ref r56), .unset, .unset, .unset, .unset] [(.int x2), (.ref r55), (.ref b57), (.ref b57)]) (fun _ _ A k => XS.iloadN A hx rfl (hb hby at_47) rfl  k) ?_
      have f59 := ((q55_0.keep K56 nin0 nin0).ext E57)
      refine ginfo fun _ _ O58 => ?_
      refine gcallI (y := (⟨"com/example/tasks_to_members/taskstomembers/core/Task", "<init>", "(Ljava/lang/String;I)V"⟩ : MethodName)) hx rfl (ow hw 32 rfl) (ow hw 33 rfl) (ow hw 34 rfl) (by decide) (fun hZ H hEL => Pay.of_met (W := 1) (own_tinit l Z a0 cx [] (b57) (r55) (x2) (.null) ((.int (0 : Int32))) (t55) ((own_cs x0)) vm56 h57 O58 A57 F57_subtopologyId F57_partition n57 f59) (ow hw 34 rfl) (ow hw 31 rfl) (by decide) (by decide) hZ H hEL) (a := b57) 51 (argsL := [(.ref r55), (.int x2)]) (rest := [(.ref b57)]) (lenOf own_pd200 rfl) rfl rfl (Nat.le_of_eq rfl) (by rw [hml]; rfl) (hb hby at_48) rfl (by decide) (by decide) ?_
      rintro _ vm58 h58 C58 ⟨rfl, K58, q58_0, q58_1⟩
      have z58 := C58.2.1
      refine gat (mkF m 51 #[.val (.int x0), .val (.int x1), .val (.int x2), .val (.int x3), .val (.int x4), .val (.int x1), .val (.int x2), .val (.ref r55), .val (.ref r56), .unset, .unset, .unset, .unset] [(.ref b57)]) rfl ?_
      refine gs (mkF m 53 #[.val (.int x0), .val (.int x1), .val (.int x2), .val (.int x3), .val (.int x4), .val (.int x1), .val (.int x2), .val (.ref r55), .val (.ref r56), .val (.ref b57), .unset, .unset, .unset] []) (fun _ _ A k => XS.astore A hx rfl (hb hby at_51) rfl rfl (l' := #[.val (.int x0), .val (.int x1), .val (.int x2), .val (.int x3), .val (.int x4), .val (.int x1), .val (.int x2), .val (.ref r55), .val (.ref r56), .val (.ref b57), .unset, .unset, .unset]) rfl k) ?_
      refine gnewO hx (ow hw 29 rfl) (ow hw 30 rfl) (ow hw 31 rfl) 56 (hb hby at_53) rfl (by decide) (by decide) ?_
      intro b60 h60 g60 E60 C60 A60 D60 n60 L60
      have z60 := C60.2.1
      have lt_b60 : h60.size > b60 := A60.lt
      have F60_subtopologyId : Fld Z h60 b60 "com/example/tasks_to_members/taskstomembers/core/Task" "subtopologyId" "Ljava/lang/String;" .null := D60 (Or.inr (ow hw 43 rfl)) (ty := (.object "java/lang/String")) (by decide)
      have F60_partition : Fld Z h60 b60 "com/example/tasks_to_members/taskstomembers/core/Task" "partition" "I" (.int (0 : Int32)) := D60 (Or.inr (ow hw 45 rfl)) (ty := .int) (by decide)
      refine gs (mkF m 57 #[.val (.int x0), .val (.int x1), .val (.int x2), .val (.int x3), .val (.int x4), .val (.int x1), .val (.int x2), .val (.ref r55), .val (.ref r56), .val (.ref b57), .unset, .unset, .unset] [(.ref b60), (.ref b60)]) (fun _ _ A k => XS.dup A hx rfl (hb hby at_56) rfl rfl k) ?_
      refine gs (mkF m 59 #[.val (.int x0), .val (.int x1), .val (.int x2), .val (.int x3), .val (.int x4), .val (.int x1), .val (.int x2), .val (.ref r55), .val (.ref r56), .val (.ref b57), .unset, .unset, .unset] [(.ref r56), (.ref b60), (.ref b60)]) (fun _ _ A k => XS.aload A hx rfl (hb hby at_57) rfl rfl k) ?_
      refine gs (mkF m 61 #[.val (.int x0), .val (.int x1), .val (.int x2), .val (.int x3), .val (.int x4), .val (.int x1), .val (.int x2), .val (.ref r55), .val (.ref r56), .val (.ref b57), .unset, .unset, .unset] [(.int x2), (.ref r56), (.ref b60), (.ref b60)]) (fun _ _ A k => XS.iload A hx rfl (hb hby at_59) rfl  k) ?_
      have f62 := (((q56_0.ext E57).keep K58 (ninS (Nat.ne_of_lt (by omega)) nin0) (ninS (Nat.ne_of_lt (by omega)) nin0)).ext E60)
      refine ginfo fun _ _ O61 => ?_
      refine gcallI (y := (⟨"com/example/tasks_to_members/taskstomembers/core/Task", "<init>", "(Ljava/lang/String;I)V"⟩ : MethodName)) hx rfl (ow hw 32 rfl) (ow hw 33 rfl) (ow hw 34 rfl) (by decide) (fun hZ H hEL => Pay.of_met (W := 1) (own_tinit l Z a0 cx [] (b60) (r56) (x2) (.null) ((.int (0 : Int32))) (t56) ((own_cs x1)) vm58 h60 O61 A60 F60_subtopologyId F60_partition n60 f62) (ow hw 34 rfl) (ow hw 31 rfl) (by decide) (by decide) hZ H hEL) (a := b60) 64 (argsL := [(.ref r56), (.int x2)]) (rest := [(.ref b60)]) (lenOf own_pd200 rfl) rfl rfl (Nat.le_of_eq rfl) (by rw [hml]; rfl) (hb hby at_61) rfl (by decide) (by decide) ?_
      rintro _ vm61 h61 C61 ⟨rfl, K61, q61_0, q61_1⟩
      have z61 := C61.2.1
      refine gat (mkF m 64 #[.val (.int x0), .val (.int x1), .val (.int x2), .val (.int x3), .val (.int x4), .val (.int x1), .val (.int x2), .val (.ref r55), .val (.ref r56), .val (.ref b57), .unset, .unset, .unset] [(.ref b60)]) rfl ?_
      refine gs (mkF m 66 #[.val (.int x0), .val (.int x1), .val (.int x2), .val (.int x3), .val (.int x4), .val (.int x1), .val (.int x2), .val (.ref r55), .val (.ref r56), .val (.ref b57), .val (.ref b60), .unset, .unset] []) (fun _ _ A k => XS.astore A hx rfl (hb hby at_64) rfl rfl (l' := #[.val (.int x0), .val (.int x1), .val (.int x2), .val (.int x3), .val (.int x4), .val (.int x1), .val (.int x2), .val (.ref r55), .val (.ref r56), .val (.ref b57), .val (.ref b60), .unset, .unset]) rfl k) ?_
      refine gs (mkF m 68 #[.val (.int x0), .val (.int x1), .val (.int x2), .val (.int x3), .val (.int x4), .val (.int x1), .val (.int x2), .val (.ref r55), .val (.ref r56), .val (.ref b57), .val (.ref b60), .unset, .unset] [(.int x4)]) (fun _ _ A k => XS.iload A hx rfl (hb hby at_66) rfl  k) ?_
      refine gs (mkF m 69 #[.val (.int x0), .val (.int x1), .val (.int x2), .val (.int x3), .val (.int x4), .val (.int x1), .val (.int x2), .val (.ref r55), .val (.ref r56), .val (.ref b57), .val (.ref b60), .unset, .unset] [(.int (2 : Int32)), (.int x4)]) (fun _ _ A k => XS.iconst A hx rfl (hb hby at_68) k) ?_
      refine gs (mkF m 70 #[.val (.int x0), .val (.int x1), .val (.int x2), .val (.int x3), .val (.int x4), .val (.int x1), .val (.int x2), .val (.ref r55), .val (.ref r56), .val (.ref b57), .val (.ref b60), .unset, .unset] [(.int ((x4.toUInt32 >>> ((2 : Int32) &&& 31).toUInt32).toInt32))]) (fun _ _ A k => XS.iushr A hx rfl (hb hby at_69) rfl k) ?_
      refine gs (mkF m 72 #[.val (.int x0), .val (.int x1), .val (.int x2), .val (.int x3), .val (.int x4), .val (.int x1), .val (.int x2), .val (.ref r55), .val (.ref r56), .val (.ref b57), .val (.ref b60), .unset, .unset] [(.int (7 : Int32)), (.int ((x4.toUInt32 >>> ((2 : Int32) &&& 31).toUInt32).toInt32))]) (fun _ _ A k => XS.bipush A hx rfl (hb hby at_70) k) ?_
      refine gs (mkF m 73 #[.val (.int x0), .val (.int x1), .val (.int x2), .val (.int x3), .val (.int x4), .val (.int x1), .val (.int x2), .val (.ref r55), .val (.ref r56), .val (.ref b57), .val (.ref b60), .unset, .unset] [(.int (((x4.toUInt32 >>> ((2 : Int32) &&& 31).toUInt32).toInt32) &&& (7 : Int32)))]) (fun _ _ A k => XS.iand A hx rfl (hb hby at_72) rfl k) ?_
      refine gs (mkF m 75 #[.val (.int x0), .val (.int x1), .val (.int x2), .val (.int x3), .val (.int x4), .val (.int x1), .val (.int x2), .val (.ref r55), .val (.ref r56), .val (.ref b57), .val (.ref b60), .val (.int (((x4.toUInt32 >>> ((2 : Int32) &&& 31).toUInt32).toInt32) &&& (7 : Int32))), .unset] []) (fun _ _ A k => XS.istore A hx rfl (hb hby at_73) rfl (l' := #[.val (.int x0), .val (.int x1), .val (.int x2), .val (.int x3), .val (.int x4), .val (.int x1), .val (.int x2), .val (.ref r55), .val (.ref r56), .val (.ref b57), .val (.ref b60), .val (.int (((x4.toUInt32 >>> ((2 : Int32) &&& 31).toUInt32).toInt32) &&& (7 : Int32))), .unset]) rfl k) ?_
      obtain ⟨kk, ek⟩ : ∃ kk, kk = (((x4.toUInt32 >>> ((2 : Int32) &&& 31).toUInt32).toInt32) &&& (7 : Int32)) := ⟨_, rfl⟩
      rw [← ek]
      refine gs (mkF m 77 #[.val (.int x0), .val (.int x1), .val (.int x2), .val (.int x3), .val (.int x4), .val (.int x1), .val (.int x2), .val (.ref r55), .val (.ref r56), .val (.ref b57), .val (.ref b60), .val (.int kk), .unset] [(.int kk)]) (fun _ _ A k => XS.iload A hx rfl (hb hby at_75) rfl  k) ?_
      refine gs (mkF m 78 #[.val (.int x0), .val (.int x1), .val (.int x2), .val (.int x3), .val (.int x4), .val (.int x1), .val (.int x2), .val (.ref r55), .val (.ref r56), .val (.ref b57), .val (.ref b60), .val (.int kk), .unset] [(.int (4 : Int32)), (.int kk)]) (fun _ _ A k => XS.iconst A hx rfl (hb hby at_77) k) ?_
      by_cases k1 : kk < (4 : Int32)
      · refine gs (mkF m 81 #[.val (.int x0), .val (.int x1), .val (.int x2), .val (.int x3), .val (.int x4), .val (.int x1), .val (.int x2), .val (.ref r55), .val (.ref r56), .val (.ref b57), .val (.ref b60), .val (.int kk), .unset] []) (fun _ _ A k => XS.icmpNo A hx rfl (hb hby at_78) rfl (tlt k1).2.1 k) ?_
        refine gs (mkF m 82 #[.val (.int x0), .val (.int x1), .val (.int x2), .val (.int x3), .val (.int x4), .val (.int x1), .val (.int x2), .val (.ref r55), .val (.ref r56), .val (.ref b57), .val (.ref b60), .val (.int kk), .unset] [(.int x0)]) (fun _ _ A k => XS.iloadN A hx rfl (hb hby at_81) rfl  k) ?_
        refine gs (mkF m 84 #[.val (.int x0), .val (.int x1), .val (.int x2), .val (.int x3), .val (.int x4), .val (.int x1), .val (.int x2), .val (.ref r55), .val (.ref r56), .val (.ref b57), .val (.ref b60), .val (.int kk), .unset] [(.int x1), (.int x0)]) (fun _ _ A k => XS.iload A hx rfl (hb hby at_82) rfl  k) ?_
        by_cases e1 : own_cs (x0) = own_cs (x1)
        · refine ginfo fun _ _ O63 => ?_
          refine gcallS (y := (⟨"com/example/tasks_to_members/taskstomembers/core/TaskEqualsPinLaw", "sameId", "(II)Z"⟩ : MethodName)) hx (ow hw 46 rfl) (ow hw 47 rfl) (ow hw 2 rfl) (ow hw 48 rfl) (by decide) (fun hZ H hEL => Pay.of_met (W := 0) (own_sameId l Z a0 cx [] (x0) (x1) ((1 : Int32)) vm61 h61 O63 ⟨fun _ => rfl, fun q => absurd e1 q⟩) (ow hw 48 rfl) (ow hw 2 rfl) (by decide) (by decide) hZ H hEL) 87 (argsL := [(.int x0), (.int x1)]) (rest := []) (lenOf own_pd201 rfl) rfl rfl (Nat.le_of_eq rfl) (by rw [hml]; rfl) (hb hby at_84) rfl (by decide) (by decide) ?_
          rintro _ vm63 h63 C63 ⟨rfl, rfl⟩
          have z63 := C63.2.1
          refine gat (mkF m 87 #[.val (.int x0), .val (.int x1), .val (.int x2), .val (.int x3), .val (.int x4), .val (.int x1), .val (.int x2), .val (.ref r55), .val (.ref r56), .val (.ref b57), .val (.ref b60), .val (.int kk), .unset] [(.int (1 : Int32))]) rfl ?_
          refine gs (mkF m 90 #[.val (.int x0), .val (.int x1), .val (.int x2), .val (.int x3), .val (.int x4), .val (.int x1), .val (.int x2), .val (.ref r55), .val (.ref r56), .val (.ref b57), .val (.ref b60), .val (.int kk), .unset] []) (fun _ _ A k => XS.ifNo A hx rfl (hb hby at_87) rfl ((if0 _ _).trans (feq (by decide)).1) k) ?_
          refine gs (mkF m 91 #[.val (.int x0), .val (.int x1), .val (.int x2), .val (.int x3), .val (.int x4), .val (.int x1), .val (.int x2), .val (.ref r55), .val (.ref r56), .val (.ref b57), .val (.ref b60), .val (.int kk), .unset] [(.int x2)]) (fun _ _ A k => XS.iloadN A hx rfl (hb hby at_90) rfl  k) ?_
          refine gs (mkF m 93 #[.val (.int x0), .val (.int x1), .val (.int x2), .val (.int x3), .val (.int x4), .val (.int x1), .val (.int x2), .val (.ref r55), .val (.ref r56), .val (.ref b57), .val (.ref b60), .val (.int kk), .unset] [(.int x2), (.int x2)]) (fun _ _ A k => XS.iload A hx rfl (hb hby at_91) rfl  k) ?_
          have e2 : x2 = x2 := rfl
          refine gs (mkF m 96 #[.val (.int x0), .val (.int x1), .val (.int x2), .val (.int x3), .val (.int x4), .val (.int x1), .val (.int x2), .val (.ref r55), .val (.ref r56), .val (.ref b57), .val (.ref b60), .val (.int kk), .unset] []) (fun _ _ A k => XS.icmpNo A hx rfl (hb hby at_93) rfl (teq rfl).2 k) ?_
          refine gs (mkF m 97 #[.val (.int x0), .val (.int x1), .val (.int x2), .val (.int x3), .val (.int x4), .val (.int x1), .val (.int x2), .val (.ref r55), .val (.ref r56), .val (.ref b57), .val (.ref b60), .val (.int kk), .unset] [(.int (1 : Int32))]) (fun _ _ A k => XS.iconst A hx rfl (hb hby at_96) k) ?_
          refine gs (mkF m 101 #[.val (.int x0), .val (.int x1), .val (.int x2), .val (.int x3), .val (.int x4), .val (.int x1), .val (.int x2), .val (.ref r55), .val (.ref r56), .val (.ref b57), .val (.ref b60), .val (.int kk), .unset] [(.int (1 : Int32))]) (fun _ _ A k => XS.goto A hx rfl (pc0 := 97) (pc' := 101) rfl (hb hby at_97) (by decide) (by decide) k) ?_
          refine gs (mkF m 103 #[.val (.int x0), .val (.int x1), .val (.int x2), .val (.int x3), .val (.int x4), .val (.int x1), .val (.int x2), .val (.ref r55), .val (.ref r56), .val (.ref b57), .val (.ref b60), .val (.int kk), .val (.int (1 : Int32))] []) (fun _ _ A k => XS.istore A hx rfl (hb hby at_101) rfl (l' := #[.val (.int x0), .val (.int x1), .val (.int x2), .val (.int x3), .val (.int x4), .val (.int x1), .val (.int x2), .val (.ref r55), .val (.ref r56), .val (.ref b57), .val (.ref b60), .val (.int kk), .val (.int (1 : Int32))]) rfl k) ?_
          refine gs (mkF m 105 #[.val (.int x0), .val (.int x1), .val (.int x2), .val (.int x3), .val (.int x4), .val (.int x1), .val (.int x2), .val (.ref r55), .val (.ref r56), .val (.ref b57), .val (.ref b60), .val (.int kk), .val (.int (1 : Int32))] [(.ref b57)]) (fun _ _ A k => XS.aload A hx rfl (hb hby at_103) rfl rfl k) ?_
          refine gs (mkF m 107 #[.val (.int x0), .val (.int x1), .val (.int x2), .val (.int x3), .val (.int x4), .val (.int x1), .val (.int x2), .val (.ref r55), .val (.ref r56), .val (.ref b57), .val (.ref b60), .val (.int kk), .val (.int (1 : Int32))] [(.ref b60), (.ref b57)]) (fun _ _ A k => XS.aload A hx rfl (hb hby at_105) rfl rfl k) ?_
          have f65 := (A60.keep K61)
          have f66 := ((q58_0.ext E60).keep K61 (ninS (Nat.ne_of_lt (by omega)) nin0))
          have f67 := ((q58_1.ext E60).keep K61 (ninS (Nat.ne_of_lt (by omega)) nin0))
          have f68 := (((f59.keep K58 (ninS (Nat.ne_of_lt (by omega)) nin0) (ninS (Nat.ne_of_lt (by omega)) nin0)).ext E60).keep K61 (ninS (Nat.ne_of_lt (by omega)) nin0) (ninS (Nat.ne_of_lt (by omega)) nin0))
          have f69 := (f62.keep K61 (ninS (Nat.ne_of_lt (by omega)) nin0) (ninS (Nat.ne_of_lt (by omega)) nin0))
          refine ginfo fun _ _ O64 => ?_
          have f70 := (((A57.keep K58).ext E60).keep K61)
          refine gcallV (y := (⟨"com/example/tasks_to_members/taskstomembers/core/Task", "equals", "(Ljava/lang/Object;)Z"⟩ : MethodName)) (z := (⟨"com/example/tasks_to_members/taskstomembers/core/Task", "equals", "(Ljava/lang/Object;)Z"⟩ : MethodName)) hx (ow hw 49 rfl) (ow hw 50 rfl) (nfSel (ow hw 52 rfl)) (ow hw 52 rfl) (ow hw 51 rfl) (by decide) (fun hZ H hEL => Pay.of_met (W := 0) (own_teq l Z a0 cx [] (b57) (b60) (r55) (r56) (x2) (x2) (t55) (t56) ((own_cs x0)) ((own_cs x1)) ((1 : Int32)) vm63 h61 O64 f65 f66 f67 q61_0 q61_1 f68 f69 ⟨fun _ => rfl, fun q => absurd ⟨e1, e2⟩ q⟩) (ow hw 53 rfl) (ow hw 31 rfl) (by decide) (by decide) hZ H hEL) 110 (argsL := [(.ref b60)]) (rest := []) f70 (lenOf own_pd157 rfl) rfl rfl (Nat.le_of_eq rfl) (by rw [hml]; rfl) (hb hby at_107) rfl (by decide) (by decide) ?_
          rintro _ vm64 h64 C64 ⟨rfl, rfl⟩
          have z64 := C64.2.1
          refine gat (mkF m 110 #[.val (.int x0), .val (.int x1), .val (.int x2), .val (.int x3), .val (.int x4), .val (.int x1), .val (.int x2), .val (.ref r55), .val (.ref r56), .val (.ref b57), .val (.ref b60), .val (.int kk), .val (.int (1 : Int32))] [(.int (1 : Int32))]) rfl ?_
          refine gs (mkF m 112 #[.val (.int x0), .val (.int x1), .val (.int x2), .val (.int x3), .val (.int x4), .val (.int x1), .val (.int x2), .val (.ref r55), .val (.ref r56), .val (.ref b57), .val (.ref b60), .val (.int kk), .val (.int (1 : Int32))] [(.int (1 : Int32)), (.int (1 : Int32))]) (fun _ _ A k => XS.iload A hx rfl (hb hby at_110) rfl  k) ?_
          refine gs (mkF m 115 #[.val (.int x0), .val (.int x1), .val (.int x2), .val (.int x3), .val (.int x4), .val (.int x1), .val (.int x2), .val (.ref r55), .val (.ref r56), .val (.ref b57), .val (.ref b60), .val (.int kk), .val (.int (1 : Int32))] []) (fun _ _ A k => XS.icmpNo A hx rfl (hb hby at_112) rfl (teq (by decide)).2 k) ?_
          refine gs (mkF m 117 #[.val (.int x0), .val (.int x1), .val (.int x2), .val (.int x3), .val (.int x4), .val (.int x1), .val (.int x2), .val (.ref r55), .val (.ref r56), .val (.ref b57), .val (.ref b60), .val (.int kk), .val (.int (1 : Int32))] [(.ref b60)]) (fun _ _ A k => XS.aload A hx rfl (hb hby at_115) rfl rfl k) ?_
          refine gs (mkF m 119 #[.val (.int x0), .val (.int x1), .val (.int x2), .val (.int x3), .val (.int x4), .val (.int x1), .val (.int x2), .val (.ref r55), .val (.ref r56), .val (.ref b57), .val (.ref b60), .val (.int kk), .val (.int (1 : Int32))] [(.ref b57), (.ref b60)]) (fun _ _ A k => XS.aload A hx rfl (hb hby at_117) rfl rfl k) ?_
          refine ginfo fun _ _ O71 => ?_
          refine gcallV (y := (⟨"com/example/tasks_to_members/taskstomembers/core/Task", "equals", "(Ljava/lang/Object;)Z"⟩ : MethodName)) (z := (⟨"com/example/tasks_to_members/taskstomembers/core/Task", "equals", "(Ljava/lang/Object;)Z"⟩ : MethodName)) hx (ow hw 49 rfl) (ow hw 50 rfl) (nfSel (ow hw 52 rfl)) (ow hw 52 rfl) (ow hw 51 rfl) (by decide) (fun hZ H hEL => Pay.of_met (W := 0) (own_teq l Z a0 cx [] (b60) (b57) (r56) (r55) (x2) (x2) (t56) (t55) ((own_cs x1)) ((own_cs x0)) ((1 : Int32)) vm64 h61 O71 f70 q61_0 q61_1 f66 f67 f69 f68 ⟨fun _ => rfl, fun q => absurd ⟨Eq.symm e1, Eq.symm e2⟩ q⟩) (ow hw 53 rfl) (ow hw 31 rfl) (by decide) (by decide) hZ H hEL) 122 (argsL := [(.ref b57)]) (rest := []) f65 (lenOf own_pd157 rfl) rfl rfl (Nat.le_of_eq rfl) (by rw [hml]; rfl) (hb hby at_119) rfl (by decide) (by decide) ?_
          rintro _ vm71 h71 C71 ⟨rfl, rfl⟩
          have z71 := C71.2.1
          refine gat (mkF m 122 #[.val (.int x0), .val (.int x1), .val (.int x2), .val (.int x3), .val (.int x4), .val (.int x1), .val (.int x2), .val (.ref r55), .val (.ref r56), .val (.ref b57), .val (.ref b60), .val (.int kk), .val (.int (1 : Int32))] [(.int (1 : Int32))]) rfl ?_
          refine gs (mkF m 124 #[.val (.int x0), .val (.int x1), .val (.int x2), .val (.int x3), .val (.int x4), .val (.int x1), .val (.int x2), .val (.ref r55), .val (.ref r56), .val (.ref b57), .val (.ref b60), .val (.int kk), .val (.int (1 : Int32))] [(.int (1 : Int32)), (.int (1 : Int32))]) (fun _ _ A k => XS.iload A hx rfl (hb hby at_122) rfl  k) ?_
          refine gs (mkF m 127 #[.val (.int x0), .val (.int x1), .val (.int x2), .val (.int x3), .val (.int x4), .val (.int x1), .val (.int x2), .val (.ref r55), .val (.ref r56), .val (.ref b57), .val (.ref b60), .val (.int kk), .val (.int (1 : Int32))] []) (fun _ _ A k => XS.icmpNo A hx rfl (hb hby at_124) rfl (teq (by decide)).2 k) ?_
          refine gs (mkF m 128 #[.val (.int x0), .val (.int x1), .val (.int x2), .val (.int x3), .val (.int x4), .val (.int x1), .val (.int x2), .val (.ref r55), .val (.ref r56), .val (.ref b57), .val (.ref b60), .val (.int kk), .val (.int (1 : Int32))] [(.int (1 : Int32))]) (fun _ _ A k => XS.iconst A hx rfl (hb hby at_127) k) ?_
          refine gs (mkF m 132 #[.val (.int x0), .val (.int x1), .val (.int x2), .val (.int x3), .val (.int x4), .val (.int x1), .val (.int x2), .val (.ref r55), .val (.ref r56), .val (.ref b57), .val (.ref b60), .val (.int kk), .val (.int (1 : Int32))] [(.int (1 : Int32))]) (fun _ _ A k => XS.goto A hx rfl (pc0 := 128) (pc' := 132) rfl (hb hby at_128) (by decide) (by decide) k) ?_
          exact gretN (t := .boolean) hx hret (by simp) (hb hby at_132) (by decide) (by decide) (fun vq Cq => ⟨rfl, (((((((Keep.refl h0 []).trans K55 all0).trans K56 all0).ext E57).trans K58 (allS (Or.inr (by omega)) all0)).ext E60).trans K61 (allS (Or.inr (by omega)) all0))⟩)
        · refine ginfo fun _ _ O73 => ?_
          refine gcallS (y := (⟨"com/example/tasks_to_members/taskstomembers/core/TaskEqualsPinLaw", "sameId", "(II)Z"⟩ : MethodName)) hx (ow hw 46 rfl) (ow hw 47 rfl) (ow hw 2 rfl) (ow hw 48 rfl) (by decide) (fun hZ H hEL => Pay.of_met (W := 0) (own_sameId l Z a0 cx [] (x0) (x1) ((0 : Int32)) vm61 h61 O73 ⟨fun q => absurd q e1, fun _ => rfl⟩) (ow hw 48 rfl) (ow hw 2 rfl) (by decide) (by decide) hZ H hEL) 87 (argsL := [(.int x0), (.int x1)]) (rest := []) (lenOf own_pd201 rfl) rfl rfl (Nat.le_of_eq rfl) (by rw [hml]; rfl) (hb hby at_84) rfl (by decide) (by decide) ?_
          rintro _ vm73 h73 C73 ⟨rfl, rfl⟩
          have z73 := C73.2.1
          refine gat (mkF m 87 #[.val (.int x0), .val (.int x1), .val (.int x2), .val (.int x3), .val (.int x4), .val (.int x1), .val (.int x2), .val (.ref r55), .val (.ref r56), .val (.ref b57), .val (.ref b60), .val (.int kk), .unset] [(.int (0 : Int32))]) rfl ?_
          refine gs (mkF m 100 #[.val (.int x0), .val (.int x1), .val (.int x2), .val (.int x3), .val (.int x4), .val (.int x1), .val (.int x2), .val (.ref r55), .val (.ref r56), .val (.ref b57), .val (.ref b60), .val (.int kk), .unset] []) (fun _ _ A k => XS.ifYes A hx rfl (pc0 := 87) (pc' := 100) rfl (hb hby at_87) rfl ((if0 _ _).trans (teq (by decide)).1) (by decide) (by decide) k) ?_
          refine gs (mkF m 101 #[.val (.int x0), .val (.int x1), .val (.int x2), .val (.int x3), .val (.int x4), .val (.int x1), .val (.int x2), .val (.ref r55), .val (.ref r56), .val (.ref b57), .val (.ref b60), .val (.int kk), .unset] [(.int (0 : Int32))]) (fun _ _ A k => XS.iconst A hx rfl (hb hby at_100) k) ?_
          refine gs (mkF m 103 #[.val (.int x0), .val (.int x1), .val (.int x2), .val (.int x3), .val (.int x4), .val (.int x1), .val (.int x2), .val (.ref r55), .val (.ref r56), .val (.ref b57), .val (.ref b60), .val (.int kk), .val (.int (0 : Int32))] []) (fun _ _ A k => XS.istore A hx rfl (hb hby at_101) rfl (l' := #[.val (.int x0), .val (.int x1), .val (.int x2), .val (.int x3), .val (.int x4), .val (.int x1), .val (.int x2), .val (.ref r55), .val (.ref r56), .val (.ref b57), .val (.ref b60), .val (.int kk), .val (.int (0 : Int32))]) rfl k) ?_
          refine gs (mkF m 105 #[.val (.int x0), .val (.int x1), .val (.int x2), .val (.int x3), .val (.int x4), .val (.int x1), .val (.int x2), .val (.ref r55), .val (.ref r56), .val (.ref b57), .val (.ref b60), .val (.int kk), .val (.int (0 : Int32))] [(.ref b57)]) (fun _ _ A k => XS.aload A hx rfl (hb hby at_103) rfl rfl k) ?_
          refine gs (mkF m 107 #[.val (.int x0), .val (.int x1), .val (.int x2), .val (.int x3), .val (.int x4), .val (.int x1), .val (.int x2), .val (.ref r55), .val (.ref r56), .val (.ref b57), .val (.ref b60), .val (.int kk), .val (.int (0 : Int32))] [(.ref b60), (.ref b57)]) (fun _ _ A k => XS.aload A hx rfl (hb hby at_105) rfl rfl k) ?_
          have f75 := (A60.keep K61)
          have f76 := ((q58_0.ext E60).keep K61 (ninS (Nat.ne_of_lt (by omega)) nin0))
          have f77 := ((q58_1.ext E60).keep K61 (ninS (Nat.ne_of_lt (by omega)) nin0))
          have f78 := (((f59.keep K58 (ninS (Nat.ne_of_lt (by omega)) nin0) (ninS (Nat.ne_of_lt (by omega)) nin0)).ext E60).keep K61 (ninS (Nat.ne_of_lt (by omega)) nin0) (ninS (Nat.ne_of_lt (by omega)) nin0))
          have f79 := (f62.keep K61 (ninS (Nat.ne_of_lt (by omega)) nin0) (ninS (Nat.ne_of_lt (by omega)) nin0))
          refine ginfo fun _ _ O74 => ?_
          have f80 := (((A57.keep K58).ext E60).keep K61)
          refine gcallV (y := (⟨"com/example/tasks_to_members/taskstomembers/core/Task", "equals", "(Ljava/lang/Object;)Z"⟩ : MethodName)) (z := (⟨"com/example/tasks_to_members/taskstomembers/core/Task", "equals", "(Ljava/lang/Object;)Z"⟩ : MethodName)) hx (ow hw 49 rfl) (ow hw 50 rfl) (nfSel (ow hw 52 rfl)) (ow hw 52 rfl) (ow hw 51 rfl) (by decide) (fun hZ H hEL => Pay.of_met (W := 0) (own_teq l Z a0 cx [] (b57) (b60) (r55) (r56) (x2) (x2) (t55) (t56) ((own_cs x0)) ((own_cs x1)) ((0 : Int32)) vm73 h61 O74 f75 f76 f77 q61_0 q61_1 f78 f79 ⟨fun q => absurd (q.1) e1, fun _ => rfl⟩) (ow hw 53 rfl) (ow hw 31 rfl) (by decide) (by decide) hZ H hEL) 110 (argsL := [(.ref b60)]) (rest := []) f80 (lenOf own_pd157 rfl) rfl rfl (Nat.le_of_eq rfl) (by rw [hml]; rfl) (hb hby at_107) rfl (by decide) (by decide) ?_
          rintro _ vm74 h74 C74 ⟨rfl, rfl⟩
          have z74 := C74.2.1
          refine gat (mkF m 110 #[.val (.int x0), .val (.int x1), .val (.int x2), .val (.int x3), .val (.int x4), .val (.int x1), .val (.int x2), .val (.ref r55), .val (.ref r56), .val (.ref b57), .val (.ref b60), .val (.int kk), .val (.int (0 : Int32))] [(.int (0 : Int32))]) rfl ?_
          refine gs (mkF m 112 #[.val (.int x0), .val (.int x1), .val (.int x2), .val (.int x3), .val (.int x4), .val (.int x1), .val (.int x2), .val (.ref r55), .val (.ref r56), .val (.ref b57), .val (.ref b60), .val (.int kk), .val (.int (0 : Int32))] [(.int (0 : Int32)), (.int (0 : Int32))]) (fun _ _ A k => XS.iload A hx rfl (hb hby at_110) rfl  k) ?_
          refine gs (mkF m 115 #[.val (.int x0), .val (.int x1), .val (.int x2), .val (.int x3), .val (.int x4), .val (.int x1), .val (.int x2), .val (.ref r55), .val (.ref r56), .val (.ref b57), .val (.ref b60), .val (.int kk), .val (.int (0 : Int32))] []) (fun _ _ A k => XS.icmpNo A hx rfl (hb hby at_112) rfl (teq (by decide)).2 k) ?_
          refine gs (mkF m 117 #[.val (.int x0), .val (.int x1), .val (.int x2), .val (.int x3), .val (.int x4), .val (.int x1), .val (.int x2), .val (.ref r55), .val (.ref r56), .val (.ref b57), .val (.ref b60), .val (.int kk), .val (.int (0 : Int32))] [(.ref b60)]) (fun _ _ A k => XS.aload A hx rfl (hb hby at_115) rfl rfl k) ?_
          refine gs (mkF m 119 #[.val (.int x0), .val (.int x1), .val (.int x2), .val (.int x3), .val (.int x4), .val (.int x1), .val (.int x2), .val (.ref r55), .val (.ref r56), .val (.ref b57), .val (.ref b60), .val (.int kk), .val (.int (0 : Int32))] [(.ref b57), (.ref b60)]) (fun _ _ A k => XS.aload A hx rfl (hb hby at_117) rfl rfl k) ?_
          refine ginfo fun _ _ O81 => ?_
          refine gcallV (y := (⟨"com/example/tasks_to_members/taskstomembers/core/Task", "equals", "(Ljava/lang/Object;)Z"⟩ : MethodName)) (z := (⟨"com/example/tasks_to_members/taskstomembers/core/Task", "equals", "(Ljava/lang/Object;)Z"⟩ : MethodName)) hx (ow hw 49 rfl) (ow hw 50 rfl) (nfSel (ow hw 52 rfl)) (ow hw 52 rfl) (ow hw 51 rfl) (by decide) (fun hZ H hEL => Pay.of_met (W := 0) (own_teq l Z a0 cx [] (b60) (b57) (r56) (r55) (x2) (x2) (t56) (t55) ((own_cs x1)) ((own_cs x0)) ((0 : Int32)) vm74 h61 O81 f80 q61_0 q61_1 f76 f77 f79 f78 ⟨fun q => absurd (Eq.symm q.1) e1, fun _ => rfl⟩) (ow hw 53 rfl) (ow hw 31 rfl) (by decide) (by decide) hZ H hEL) 122 (argsL := [(.ref b57)]) (rest := []) f75 (lenOf own_pd157 rfl) rfl rfl (Nat.le_of_eq rfl) (by rw [hml]; rfl) (hb hby at_119) rfl (by decide) (by decide) ?_
          rintro _ vm81 h81 C81 ⟨rfl, rfl⟩
          have z81 := C81.2.1
          refine gat (mkF m 122 #[.val (.int x0), .val (.int x1), .val (.int x2), .val (.int x3), .val (.int x4), .val (.int x1), .val (.int x2), .val (.ref r55), .val (.ref r56), .val (.ref b57), .val (.ref b60), .val (.int kk), .val (.int (0 : Int32))] [(.int (0 : Int32))]) rfl ?_
          refine gs (mkF m 124 #[.val (.int x0), .val (.int x1), .val (.int x2), .val (.int x3), .val (.int x4), .val (.int x1), .val (.int x2), .val (.ref r55), .val (.ref r56), .val (.ref b57), .val (.ref b60), .val (.int kk), .val (.int (0 : Int32))] [(.int (0 : Int32)), (.int (0 : Int32))]) (fun _ _ A k => XS.iload A hx rfl (hb hby at_122) rfl  k) ?_
          refine gs (mkF m 127 #[.val (.int x0), .val (.int x1), .val (.int x2), .val (.int x3), .val (.int x4), .val (.int x1), .val (.int x2), .val (.ref r55), .val (.ref r56), .val (.ref b57), .val (.ref b60), .val (.int kk), .val (.int (0 : Int32))] []) (fun _ _ A k => XS.icmpNo A hx rfl (hb hby at_124) rfl (teq (by decide)).2 k) ?_
          refine gs (mkF m 128 #[.val (.int x0), .val (.int x1), .val (.int x2), .val (.int x3), .val (.int x4), .val (.int x1), .val (.int x2), .val (.ref r55), .val (.ref r56), .val (.ref b57), .val (.ref b60), .val (.int kk), .val (.int (0 : Int32))] [(.int (1 : Int32))]) (fun _ _ A k => XS.iconst A hx rfl (hb hby at_127) k) ?_
          refine gs (mkF m 132 #[.val (.int x0), .val (.int x1), .val (.int x2), .val (.int x3), .val (.int x4), .val (.int x1), .val (.int x2), .val (.ref r55), .val (.ref r56), .val (.ref b57), .val (.ref b60), .val (.int kk), .val (.int (0 : Int32))] [(.int (1 : Int32))]) (fun _ _ A k => XS.goto A hx rfl (pc0 := 128) (pc' := 132) rfl (hb hby at_128) (by decide) (by decide) k) ?_
          exact gretN (t := .boolean) hx hret (by simp) (hb hby at_132) (by decide) (by decide) (fun vq Cq => ⟨rfl, (((((((Keep.refl h0 []).trans K55 all0).trans K56 all0).ext E57).trans K58 (allS (Or.inr (by omega)) all0)).ext E60).trans K61 (allS (Or.inr (by omega)) all0))⟩)
      · refine gs (mkF m 133 #[.val (.int x0), .val (.int x1), .val (.int x2), .val (.int x3), .val (.int x4), .val (.int x1), .val (.int x2), .val (.ref r55), .val (.ref r56), .val (.ref b57), .val (.ref b60), .val (.int kk), .unset] []) (fun _ _ A k => XS.icmpYes A hx rfl (pc0 := 78) (pc' := 133) rfl (hb hby at_78) rfl (flt k1).2.1 (by decide) (by decide) k) ?_
        refine gs (mkF m 135 #[.val (.int x0), .val (.int x1), .val (.int x2), .val (.int x3), .val (.int x4), .val (.int x1), .val (.int x2), .val (.ref r55), .val (.ref r56), .val (.ref b57), .val (.ref b60), .val (.int kk), .unset] [(.int kk)]) (fun _ _ A k => XS.iload A hx rfl (hb hby at_133) rfl  k) ?_
        refine gs (mkF m 136 #[.val (.int x0), .val (.int x1), .val (.int x2), .val (.int x3), .val (.int x4), .val (.int x1), .val (.int x2), .val (.ref r55), .val (.ref r56), .val (.ref b57), .val (.ref b60), .val (.int kk), .unset] [(.int (4 : Int32)), (.int kk)]) (fun _ _ A k => XS.iconst A hx rfl (hb hby at_135) k) ?_
        by_cases k2 : kk = (4 : Int32)
        · refine gs (mkF m 139 #[.val (.int x0), .val (.int x1), .val (.int x2), .val (.int x3), .val (.int x4), .val (.int x1), .val (.int x2), .val (.ref r55), .val (.ref r56), .val (.ref b57), .val (.ref b60), .val (.int kk), .unset] []) (fun _ _ A k => XS.icmpNo A hx rfl (hb hby at_136) rfl (teq k2).2 k) ?_
          refine gs (mkF m 141 #[.val (.int x0), .val (.int x1), .val (.int x2), .val (.int x3), .val (.int x4), .val (.int x1), .val (.int x2), .val (.ref r55), .val (.ref r56), .val (.ref b57), .val (.ref b60), .val (.int kk), .unset] [(.ref b57)]) (fun _ _ A k => XS.aload A hx rfl (hb hby at_139) rfl rfl k) ?_
          refine gs (mkF m 142 #[.val (.int x0), .val (.int x1), .val (.int x2), .val (.int x3), .val (.int x4), .val (.int x1), .val (.int x2), .val (.ref r55), .val (.ref r56), .val (.ref b57), .val (.ref b60), .val (.int kk), .unset] [.null, (.ref b57)]) (fun _ _ A k => XS.aconstNull A hx rfl (hb hby at_141) k) ?_
          refine ginfo fun _ _ O83 => ?_
          have f84 := (((A57.keep K58).ext E60).keep K61)
          refine gcallV (y := (⟨"com/example/tasks_to_members/taskstomembers/core/Task", "equals", "(Ljava/lang/Object;)Z"⟩ : MethodName)) (z := (⟨"com/example/tasks_to_members/taskstomembers/core/Task", "equals", "(Ljava/lang/Object;)Z"⟩ : MethodName)) hx (ow hw 49 rfl) (ow hw 50 rfl) (nfSel (ow hw 52 rfl)) (ow hw 52 rfl) (ow hw 51 rfl) (by decide) (fun hZ H hEL => Pay.of_met (W := 0) (own_teqN l Z a0 cx [] (b57) vm61 h61 O83 ) (ow hw 53 rfl) (ow hw 31 rfl) (by decide) (by decide) hZ H hEL) 145 (argsL := [.null]) (rest := []) f84 (lenOf own_pd157 rfl) rfl rfl (Nat.le_of_eq rfl) (by rw [hml]; rfl) (hb hby at_142) rfl (by decide) (by decide) ?_
          rintro _ vm83 h83 C83 ⟨rfl, rfl⟩
          have z83 := C83.2.1
          refine gat (mkF m 145 #[.val (.int x0), .val (.int x1), .val (.int x2), .val (.int x3), .val (.int x4), .val (.int x1), .val (.int x2), .val (.ref r55), .val (.ref r56), .val (.ref b57), .val (.ref b60), .val (.int kk), .unset] [(.int (0 : Int32))]) rfl ?_
          refine gs (mkF m 148 #[.val (.int x0), .val (.int x1), .val (.int x2), .val (.int x3), .val (.int x4), .val (.int x1), .val (.int x2), .val (.ref r55), .val (.ref r56), .val (.ref b57), .val (.ref b60), .val (.int kk), .unset] []) (fun _ _ A k => XS.ifNo A hx rfl (hb hby at_145) rfl ((if0 _ _).trans (teq (by decide)).2) k) ?_
          refine gs (mkF m 149 #[.val (.int x0), .val (.int x1), .val (.int x2), .val (.int x3), .val (.int x4), .val (.int x1), .val (.int x2), .val (.ref r55), .val (.ref r56), .val (.ref b57), .val (.ref b60), .val (.int kk), .unset] [(.int (1 : Int32))]) (fun _ _ A k => XS.iconst A hx rfl (hb hby at_148) k) ?_
          refine gs (mkF m 153 #[.val (.int x0), .val (.int x1), .val (.int x2), .val (.int x3), .val (.int x4), .val (.int x1), .val (.int x2), .val (.ref r55), .val (.ref r56), .val (.ref b57), .val (.ref b60), .val (.int kk), .unset] [(.int (1 : Int32))]) (fun _ _ A k => XS.goto A hx rfl (pc0 := 149) (pc' := 153) rfl (hb hby at_149) (by decide) (by decide) k) ?_
          exact gretN (t := .boolean) hx hret (by simp) (hb hby at_153) (by decide) (by decide) (fun vq Cq => ⟨rfl, (((((((Keep.refl h0 []).trans K55 all0).trans K56 all0).ext E57).trans K58 (allS (Or.inr (by omega)) all0)).ext E60).trans K61 (allS (Or.inr (by omega)) all0))⟩)
        · refine gs (mkF m 154 #[.val (.int x0), .val (.int x1), .val (.int x2), .val (.int x3), .val (.int x4), .val (.int x1), .val (.int x2), .val (.ref r55), .val (.ref r56), .val (.ref b57), .val (.ref b60), .val (.int kk), .unset] []) (fun _ _ A k => XS.icmpYes A hx rfl (pc0 := 136) (pc' := 154) rfl (hb hby at_136) rfl (feq k2).2 (by decide) (by decide) k) ?_
          refine gs (mkF m 156 #[.val (.int x0), .val (.int x1), .val (.int x2), .val (.int x3), .val (.int x4), .val (.int x1), .val (.int x2), .val (.ref r55), .val (.ref r56), .val (.ref b57), .val (.ref b60), .val (.int kk), .unset] [(.int kk)]) (fun _ _ A k => XS.iload A hx rfl (hb hby at_154) rfl  k) ?_
          refine gs (mkF m 157 #[.val (.int x0), .val (.int x1), .val (.int x2), .val (.int x3), .val (.int x4), .val (.int x1), .val (.int x2), .val (.ref r55), .val (.ref r56), .val (.ref b57), .val (.ref b60), .val (.int kk), .unset] [(.int (5 : Int32)), (.int kk)]) (fun _ _ A k => XS.iconst A hx rfl (hb hby at_156) k) ?_
          by_cases k3 : kk = (5 : Int32)
          · refine gs (mkF m 160 #[.val (.int x0), .val (.int x1), .val (.int x2), .val (.int x3), .val (.int x4), .val (.int x1), .val (.int x2), .val (.ref r55), .val (.ref r56), .val (.ref b57), .val (.ref b60), .val (.int kk), .unset] []) (fun _ _ A k => XS.icmpNo A hx rfl (hb hby at_157) rfl (teq k3).2 k) ?_
            refine gs (mkF m 162 #[.val (.int x0), .val (.int x1), .val (.int x2), .val (.int x3), .val (.int x4), .val (.int x1), .val (.int x2), .val (.ref r55), .val (.ref r56), .val (.ref b57), .val (.ref b60), .val (.int kk), .unset] [(.ref b57)]) (fun _ _ A k => XS.aload A hx rfl (hb hby at_160) rfl rfl k) ?_
            refine gs (mkF m 164 #[.val (.int x0), .val (.int x1), .val (.int x2), .val (.int x3), .val (.int x4), .val (.int x1), .val (.int x2), .val (.ref r55), .val (.ref r56), .val (.ref b57), .val (.ref b60), .val (.int kk), .unset] [(.ref r55), (.ref b57)]) (fun _ _ A k => XS.aload A hx rfl (hb hby at_162) rfl rfl k) ?_
            have f87 := (((f59.keep K58 (ninS (Nat.ne_of_lt (by omega)) nin0) (ninS (Nat.ne_of_lt (by omega)) nin0)).ext E60).keep K61 (ninS (Nat.ne_of_lt (by omega)) nin0) (ninS (Nat.ne_of_lt (by omega)) nin0))
            refine ginfo fun _ _ O86 => ?_
            have f88 := (((A57.keep K58).ext E60).keep K61)
            refine gcallV (y := (⟨"com/example/tasks_to_members/taskstomembers/core/Task", "equals", "(Ljava/lang/Object;)Z"⟩ : MethodName)) (z := (⟨"com/example/tasks_to_members/taskstomembers/core/Task", "equals", "(Ljava/lang/Object;)Z"⟩ : MethodName)) hx (ow hw 49 rfl) (ow hw 50 rfl) (nfSel (ow hw 52 rfl)) (ow hw 52 rfl) (ow hw 51 rfl) (by decide) (fun hZ H hEL => Pay.of_met (W := 0) (own_teqS l Z a0 cx [] (b57) (r55) vm61 h61 O86 f87.1) (ow hw 53 rfl) (ow hw 31 rfl) (by decide) (by decide) hZ H hEL) 167 (argsL := [(.ref r55)]) (rest := []) f88 (lenOf own_pd157 rfl) rfl rfl (Nat.le_of_eq rfl) (by rw [hml]; rfl) (hb hby at_164) rfl (by decide) (by decide) ?_
            rintro _ vm86 h86 C86 ⟨rfl, rfl⟩
            have z86 := C86.2.1
            refine gat (mkF m 167 #[.val (.int x0), .val (.int x1), .val (.int x2), .val (.int x3), .val (.int x4), .val (.int x1), .val (.int x2), .val (.ref r55), .val (.ref r56), .val (.ref b57), .val (.ref b60), .val (.int kk), .unset] [(.int (0 : Int32))]) rfl ?_
            refine gs (mkF m 170 #[.val (.int x0), .val (.int x1), .val (.int x2), .val (.int x3), .val (.int x4), .val (.int x1), .val (.int x2), .val (.ref r55), .val (.ref r56), .val (.ref b57), .val (.ref b60), .val (.int kk), .unset] []) (fun _ _ A k => XS.ifNo A hx rfl (hb hby at_167) rfl ((if0 _ _).trans (teq (by decide)).2) k) ?_
            refine gs (mkF m 171 #[.val (.int x0), .val (.int x1), .val (.int x2), .val (.int x3), .val (.int x4), .val (.int x1), .val (.int x2), .val (.ref r55), .val (.ref r56), .val (.ref b57), .val (.ref b60), .val (.int kk), .unset] [(.int (1 : Int32))]) (fun _ _ A k => XS.iconst A hx rfl (hb hby at_170) k) ?_
            refine gs (mkF m 175 #[.val (.int x0), .val (.int x1), .val (.int x2), .val (.int x3), .val (.int x4), .val (.int x1), .val (.int x2), .val (.ref r55), .val (.ref r56), .val (.ref b57), .val (.ref b60), .val (.int kk), .unset] [(.int (1 : Int32))]) (fun _ _ A k => XS.goto A hx rfl (pc0 := 171) (pc' := 175) rfl (hb hby at_171) (by decide) (by decide) k) ?_
            exact gretN (t := .boolean) hx hret (by simp) (hb hby at_175) (by decide) (by decide) (fun vq Cq => ⟨rfl, (((((((Keep.refl h0 []).trans K55 all0).trans K56 all0).ext E57).trans K58 (allS (Or.inr (by omega)) all0)).ext E60).trans K61 (allS (Or.inr (by omega)) all0))⟩)
          · refine gs (mkF m 176 #[.val (.int x0), .val (.int x1), .val (.int x2), .val (.int x3), .val (.int x4), .val (.int x1), .val (.int x2), .val (.ref r55), .val (.ref r56), .val (.ref b57), .val (.ref b60), .val (.int kk), .unset] []) (fun _ _ A k => XS.icmpYes A hx rfl (pc0 := 157) (pc' := 176) rfl (hb hby at_157) rfl (feq k3).2 (by decide) (by decide) k) ?_
            refine gs (mkF m 178 #[.val (.int x0), .val (.int x1), .val (.int x2), .val (.int x3), .val (.int x4), .val (.int x1), .val (.int x2), .val (.ref r55), .val (.ref r56), .val (.ref b57), .val (.ref b60), .val (.int kk), .unset] [(.int kk)]) (fun _ _ A k => XS.iload A hx rfl (hb hby at_176) rfl  k) ?_
            refine gs (mkF m 180 #[.val (.int x0), .val (.int x1), .val (.int x2), .val (.int x3), .val (.int x4), .val (.int x1), .val (.int x2), .val (.ref r55), .val (.ref r56), .val (.ref b57), .val (.ref b60), .val (.int kk), .unset] [(.int (6 : Int32)), (.int kk)]) (fun _ _ A k => XS.bipush A hx rfl (hb hby at_178) k) ?_
            by_cases k4 : kk = (6 : Int32)
            · refine gs (mkF m 183 #[.val (.int x0), .val (.int x1), .val (.int x2), .val (.int x3), .val (.int x4), .val (.int x1), .val (.int x2), .val (.ref r55), .val (.ref r56), .val (.ref b57), .val (.ref b60), .val (.int kk), .unset] []) (fun _ _ A k => XS.icmpNo A hx rfl (hb hby at_180) rfl (teq k4).2 k) ?_
              refine gs (mkF m 185 #[.val (.int x0), .val (.int x1), .val (.int x2), .val (.int x3), .val (.int x4), .val (.int x1), .val (.int x2), .val (.ref r55), .val (.ref r56), .val (.ref b57), .val (.ref b60), .val (.int kk), .unset] [(.ref b57)]) (fun _ _ A k => XS.aload A hx rfl (hb hby at_183) rfl rfl k) ?_
              refine gs (mkF m 186 #[.val (.int x0), .val (.int x1), .val (.int x2), .val (.int x3), .val (.int x4), .val (.int x1), .val (.int x2), .val (.ref r55), .val (.ref r56), .val (.ref b57), .val (.ref b60), .val (.int kk), .unset] [(.int x2), (.ref b57)]) (fun _ _ A k => XS.iloadN A hx rfl (hb hby at_185) rfl  k) ?_
              refine ginfo fun _ _ O90 => ?_
              refine gcallS (y := (⟨"java/lang/Integer", "valueOf", "(I)Ljava/lang/Integer;"⟩ : MethodName)) hx (ow hw 67 rfl) (ow hw 68 rfl) (ow hw 69 rfl) (ow hw 70 rfl) (by decide) (fun hZ H hEL => Pay.of_met (W := 1) (own_valueOf l Z a0 cx [] (x2) vm61 h61 O90 ) (ow hw 70 rfl) (ow hw 69 rfl) (by decide) (by decide) hZ H hEL) 189 (argsL := [(.int x2)]) (rest := [(.ref b57)]) (lenOf own_pd202 rfl) rfl rfl (Nat.le_of_eq rfl) (by rw [hml]; rfl) (hb hby at_186) rfl (by decide) (by decide) ?_
              rintro _ vm90 h90 C90 ⟨r90, rfl, K90, q90_0⟩
              have z90 := C90.2.1
              have lt_r90 : h90.size > r90 := q90_0.lt
              refine gat (mkF m 189 #[.val (.int x0), .val (.int x1), .val (.int x2), .val (.int x3), .val (.int x4), .val (.int x1), .val (.int x2), .val (.ref r55), .val (.ref r56), .val (.ref b57), .val (.ref b60), .val (.int kk), .unset] [(.ref r90), (.ref b57)]) rfl ?_
              refine ginfo fun _ _ O91 => ?_
              have f92 := ((((A57.keep K58).ext E60).keep K61).keep K90)
              refine gcallV (y := (⟨"com/example/tasks_to_members/taskstomembers/core/Task", "equals", "(Ljava/lang/Object;)Z"⟩ : MethodName)) (z := (⟨"com/example/tasks_to_members/taskstomembers/core/Task", "equals", "(Ljava/lang/Object;)Z"⟩ : MethodName)) hx (ow hw 49 rfl) (ow hw 50 rfl) (nfSel (ow hw 52 rfl)) (ow hw 52 rfl) (ow hw 51 rfl) (by decide) (fun hZ H hEL => Pay.of_met (W := 0) (own_teqI l Z a0 cx [] (b57) (r90) vm90 h90 O91 q90_0) (ow hw 53 rfl) (ow hw 31 rfl) (by decide) (by decide) hZ H hEL) 192 (argsL := [(.ref r90)]) (rest := []) f92 (lenOf own_pd157 rfl) rfl rfl (Nat.le_of_eq rfl) (by rw [hml]; rfl) (hb hby at_189) rfl (by decide) (by decide) ?_
              rintro _ vm91 h91 C91 ⟨rfl, rfl⟩
              have z91 := C91.2.1
              refine gat (mkF m 192 #[.val (.int x0), .val (.int x1), .val (.int x2), .val (.int x3), .val (.int x4), .val (.int x1), .val (.int x2), .val (.ref r55), .val (.ref r56), .val (.ref b57), .val (.ref b60), .val (.int kk), .unset] [(.int (0 : Int32))]) rfl ?_
              refine gs (mkF m 195 #[.val (.int x0), .val (.int x1), .val (.int x2), .val (.int x3), .val (.int x4), .val (.int x1), .val (.int x2), .val (.ref r55), .val (.ref r56), .val (.ref b57), .val (.ref b60), .val (.int kk), .unset] []) (fun _ _ A k => XS.ifNo A hx rfl (hb hby at_192) rfl ((if0 _ _).trans (teq (by decide)).2) k) ?_
              refine gs (mkF m 196 #[.val (.int x0), .val (.int x1), .val (.int x2), .val (.int x3), .val (.int x4), .val (.int x1), .val (.int x2), .val (.ref r55), .val (.ref r56), .val (.ref b57), .val (.ref b60), .val (.int kk), .unset] [(.int (1 : Int32))]) (fun _ _ A k => XS.iconst A hx rfl (hb hby at_195) k) ?_
              refine gs (mkF m 200 #[.val (.int x0), .val (.int x1), .val (.int x2), .val (.int x3), .val (.int x4), .val (.int x1), .val (.int x2), .val (.ref r55), .val (.ref r56), .val (.ref b57), .val (.ref b60), .val (.int kk), .unset] [(.int (1 : Int32))]) (fun _ _ A k => XS.goto A hx rfl (pc0 := 196) (pc' := 200) rfl (hb hby at_196) (by decide) (by decide) k) ?_
              exact gretN (t := .boolean) hx hret (by simp) (hb hby at_200) (by decide) (by decide) (fun vq Cq => ⟨rfl, ((((((((Keep.refl h0 []).trans K55 all0).trans K56 all0).ext E57).trans K58 (allS (Or.inr (by omega)) all0)).ext E60).trans K61 (allS (Or.inr (by omega)) all0)).trans K90 all0)⟩)
            · refine gs (mkF m 201 #[.val (.int x0), .val (.int x1), .val (.int x2), .val (.int x3), .val (.int x4), .val (.int x1), .val (.int x2), .val (.ref r55), .val (.ref r56), .val (.ref b57), .val (.ref b60), .val (.int kk), .unset] []) (fun _ _ A k => XS.icmpYes A hx rfl (pc0 := 180) (pc' := 201) rfl (hb hby at_180) rfl (feq k4).2 (by decide) (by decide) k) ?_
              refine gs (mkF m 203 #[.val (.int x0), .val (.int x1), .val (.int x2), .val (.int x3), .val (.int x4), .val (.int x1), .val (.int x2), .val (.ref r55), .val (.ref r56), .val (.ref b57), .val (.ref b60), .val (.int kk), .unset] [(.ref b57)]) (fun _ _ A k => XS.aload A hx rfl (hb hby at_201) rfl rfl k) ?_
              refine gs (mkF m 205 #[.val (.int x0), .val (.int x1), .val (.int x2), .val (.int x3), .val (.int x4), .val (.int x1), .val (.int x2), .val (.ref r55), .val (.ref r56), .val (.ref b57), .val (.ref b60), .val (.int kk), .unset] [(.ref b57), (.ref b57)]) (fun _ _ A k => XS.aload A hx rfl (hb hby at_203) rfl rfl k) ?_
              have f95 := (((A57.keep K58).ext E60).keep K61)
              have f96 := ((q58_0.ext E60).keep K61 (ninS (Nat.ne_of_lt (by omega)) nin0))
              have f97 := ((q58_1.ext E60).keep K61 (ninS (Nat.ne_of_lt (by omega)) nin0))
              have f98 := (((f59.keep K58 (ninS (Nat.ne_of_lt (by omega)) nin0) (ninS (Nat.ne_of_lt (by omega)) nin0)).ext E60).keep K61 (ninS (Nat.ne_of_lt (by omega)) nin0) (ninS (Nat.ne_of_lt (by omega)) nin0))
              refine ginfo fun _ _ O94 => ?_
              refine gcallV (y := (⟨"com/example/tasks_to_members/taskstomembers/core/Task", "equals", "(Ljava/lang/Object;)Z"⟩ : MethodName)) (z := (⟨"com/example/tasks_to_members/taskstomembers/core/Task", "equals", "(Ljava/lang/Object;)Z"⟩ : MethodName)) hx (ow hw 49 rfl) (ow hw 50 rfl) (nfSel (ow hw 52 rfl)) (ow hw 52 rfl) (ow hw 51 rfl) (by decide) (fun hZ H hEL => Pay.of_met (W := 0) (own_teq l Z a0 cx [] (b57) (b57) (r55) (r55) (x2) (x2) (t55) (t55) ((own_cs x0)) ((own_cs x0)) ((1 : Int32)) vm61 h61 O94 f95 f96 f97 f96 f97 f98 f98 ⟨fun _ => rfl, fun q => absurd ⟨rfl, rfl⟩ q⟩) (ow hw 53 rfl) (ow hw 31 rfl) (by decide) (by decide) hZ H hEL) 208 (argsL := [(.ref b57)]) (rest := []) f95 (lenOf own_pd157 rfl) rfl rfl (Nat.le_of_eq rfl) (by rw [hml]; rfl) (hb hby at_205) rfl (by decide) (by decide) ?_
              rintro _ vm94 h94 C94 ⟨rfl, rfl⟩
              have z94 := C94.2.1
              refine gat (mkF m 208 #[.val (.int x0), .val (.int x1), .val (.int x2), .val (.int x3), .val (.int x4), .val (.int x1), .val (.int x2), .val (.ref r55), .val (.ref r56), .val (.ref b57), .val (.ref b60), .val (.int kk), .unset] [(.int (1 : Int32))]) rfl ?_
              exact gretN (t := .boolean) hx hret (by simp) (hb hby at_208) (by decide) (by decide) (fun vq Cq => ⟨rfl, (((((((Keep.refl h0 []).trans K55 all0).trans K56 all0).ext E57).trans K58 (allS (Or.inr (by omega)) all0)).ext E60).trans K61 (allS (Or.inr (by omega)) all0))⟩)
  · refine gs (mkF m 7 #[.val (.int x0), .val (.int x1), .val (.int x2), .val (.int x3), .val (.int x4), .unset, .unset, .unset, .unset, .unset, .unset, .unset, .unset] []) (fun _ _ A k => XS.ifNo A hx rfl (hb hby at_4) rfl ((if0 _ _).trans (feq s1).1) k) ?_
    refine gs (mkF m 8 #[.val (.int x0), .val (.int x1), .val (.int x2), .val (.int x3), .val (.int x4), .unset, .unset, .unset, .unset, .unset, .unset, .unset, .unset] [(.int x0)]) (fun _ _ A k => XS.iloadN A hx rfl (hb hby at_7) rfl  k) ?_
    refine gs (mkF m 12 #[.val (.int x0), .val (.int x1), .val (.int x2), .val (.int x3), .val (.int x4), .unset, .unset, .unset, .unset, .unset, .unset, .unset, .unset] [(.int x0)]) (fun _ _ A k => XS.goto A hx rfl (pc0 := 8) (pc' := 12) rfl (hb hby at_8) (by decide) (by decide) k) ?_
    refine gs (mkF m 14 #[.val (.int x0), .val (.int x1), .val (.int x2), .val (.int x3), .val (.int x4), .val (.int x0), .unset, .unset, .unset, .unset, .unset, .unset, .unset] []) (fun _ _ A k => XS.istore A hx rfl (hb hby at_12) rfl (l' := #[.val (.int x0), .val (.int x1), .val (.int x2), .val (.int x3), .val (.int x4), .val (.int x0), .unset, .unset, .unset, .unset, .unset, .unset, .unset]) rfl k) ?_
    refine gs (mkF m 16 #[.val (.int x0), .val (.int x1), .val (.int x2), .val (.int x3), .val (.int x4), .val (.int x0), .unset, .unset, .unset, .unset, .unset, .unset, .unset] [(.int x4)]) (fun _ _ A k => XS.iload A hx rfl (hb hby at_14) rfl  k) ?_
    refine gs (mkF m 17 #[.val (.int x0), .val (.int x1), .val (.int x2), .val (.int x3), .val (.int x4), .val (.int x0), .unset, .unset, .unset, .unset, .unset, .unset, .unset] [(.int (2 : Int32)), (.int x4)]) (fun _ _ A k => XS.iconst A hx rfl (hb hby at_16) k) ?_
    refine gs (mkF m 18 #[.val (.int x0), .val (.int x1), .val (.int x2), .val (.int x3), .val (.int x4), .val (.int x0), .unset, .unset, .unset, .unset, .unset, .unset, .unset] [(.int (x4 &&& (2 : Int32)))]) (fun _ _ A k => XS.iand A hx rfl (hb hby at_17) rfl k) ?_
    by_cases s2 : (x4 &&& (2 : Int32)) = (0 : Int32)
    · refine gs (mkF m 25 #[.val (.int x0), .val (.int x1), .val (.int x2), .val (.int x3), .val (.int x4), .val (.int x0), .unset, .unset, .unset, .unset, .unset, .unset, .unset] []) (fun _ _ A k => XS.ifYes A hx rfl (pc0 := 18) (pc' := 25) rfl (hb hby at_18) rfl ((if0 _ _).trans (teq s2).1) (by decide) (by decide) k) ?_
      refine gs (mkF m 26 #[.val (.int x0), .val (.int x1), .val (.int x2), .val (.int x3), .val (.int x4), .val (.int x0), .unset, .unset, .unset, .unset, .unset, .unset, .unset] [(.int x3)]) (fun _ _ A k => XS.iloadN A hx rfl (hb hby at_25) rfl  k) ?_
      refine gs (mkF m 28 #[.val (.int x0), .val (.int x1), .val (.int x2), .val (.int x3), .val (.int x4), .val (.int x0), .val (.int x3), .unset, .unset, .unset, .unset, .unset, .unset] []) (fun _ _ A k => XS.istore A hx rfl (hb hby at_26) rfl (l' := #[.val (.int x0), .val (.int x1), .val (.int x2), .val (.int x3), .val (.int x4), .val (.int x0), .val (.int x3), .unset, .unset, .unset, .unset, .unset, .unset]) rfl k) ?_
      refine gs (mkF m 29 #[.val (.int x0), .val (.int x1), .val (.int x2), .val (.int x3), .val (.int x4), .val (.int x0), .val (.int x3), .unset, .unset, .unset, .unset, .unset, .unset] [(.int x0)]) (fun _ _ A k => XS.iloadN A hx rfl (hb hby at_28) rfl  k) ?_
      refine ginfo fun _ _ O100 => ?_
      refine gcallS (y := (⟨"com/example/tasks_to_members/taskstomembers/core/TaskEqualsPinLaw", "mk", "(I)Ljava/lang/String;"⟩ : MethodName)) hx (ow hw 0 rfl) (ow hw 1 rfl) (ow hw 2 rfl) (ow hw 3 rfl) (by decide) (fun hZ H hEL => Pay.of_met (W := 0) (own_mk l Z a0 cx [] (x0) vm h0 O100 ) (ow hw 3 rfl) (ow hw 2 rfl) (by decide) (by decide) hZ H hEL) 32 (argsL := [(.int x0)]) (rest := []) (lenOf own_pd199 rfl) rfl rfl (Nat.le_of_eq rfl) (by rw [hml]; rfl) (hb hby at_29) rfl (by decide) (by decide) ?_
      rintro _ vm100 h100 C100 ⟨r100, t100, rfl, K100, q100_0⟩
      have z100 := C100.2.1
      have lt_r100 : h100.size > r100 := q100_0.1.lt
      have lt_t100 : h100.size > t100 := q100_0.tlt
      refine gat (mkF m 32 #[.val (.int x0), .val (.int x1), .val (.int x2), .val (.int x3), .val (.int x4), .val (.int x0), .val (.int x3), .unset, .unset, .unset, .unset, .unset, .unset] [(.ref r100)]) rfl ?_
      refine gs (mkF m 34 #[.val (.int x0), .val (.int x1), .val (.int x2), .val (.int x3), .val (.int x4), .val (.int x0), .val (.int x3), .val (.ref r100), .unset, .unset, .unset, .unset, .unset] []) (fun _ _ A k => XS.astore A hx rfl (hb hby at_32) rfl rfl (l' := #[.val (.int x0), .val (.int x1), .val (.int x2), .val (.int x3), .val (.int x4), .val (.int x0), .val (.int x3), .val (.ref r100), .unset, .unset, .unset, .unset, .unset]) rfl k) ?_
      refine gs (mkF m 36 #[.val (.int x0), .val (.int x1), .val (.int x2), .val (.int x3), .val (.int x4), .val (.int x0), .val (.int x3), .val (.ref r100), .unset, .unset, .unset, .unset, .unset] [(.int x0)]) (fun _ _ A k => XS.iload A hx rfl (hb hby at_34) rfl  k) ?_
      refine ginfo fun _ _ O101 => ?_
      refine gcallS (y := (⟨"com/example/tasks_to_members/taskstomembers/core/TaskEqualsPinLaw", "mk", "(I)Ljava/lang/String;"⟩ : MethodName)) hx (ow hw 0 rfl) (ow hw 1 rfl) (ow hw 2 rfl) (ow hw 3 rfl) (by decide) (fun hZ H hEL => Pay.of_met (W := 0) (own_mk l Z a0 cx [] (x0) vm100 h100 O101 ) (ow hw 3 rfl) (ow hw 2 rfl) (by decide) (by decide) hZ H hEL) 39 (argsL := [(.int x0)]) (rest := []) (lenOf own_pd199 rfl) rfl rfl (Nat.le_of_eq rfl) (by rw [hml]; rfl) (hb hby at_36) rfl (by decide) (by decide) ?_
      rintro _ vm101 h101 C101 ⟨r101, t101, rfl, K101, q101_0⟩
      have z101 := C101.2.1
      have lt_r101 : h101.size > r101 := q101_0.1.lt
      have lt_t101 : h101.size > t101 := q101_0.tlt
      refine gat (mkF m 39 #[.val (.int x0), .val (.int x1), .val (.int x2), .val (.int x3), .val (.int x4), .val (.int x0), .val (.int x3), .val (.ref r100), .unset, .unset, .unset, .unset, .unset] [(.ref r101)]) rfl ?_
      refine gs (mkF m 41 #[.val (.int x0), .val (.int x1), .val (.int x2), .val (.int x3), .val (.int x4), .val (.int x0), .val (.int x3), .val (.ref r100), .val (.ref r101), .unset, .unset, .unset, .unset] []) (fun _ _ A k => XS.astore A hx rfl (hb hby at_39) rfl rfl (l' := #[.val (.int x0), .val (.int x1), .val (.int x2), .val (.int x3), .val (.int x4), .val (.int x0), .val (.int x3), .val (.ref r100), .val (.ref r101), .unset, .unset, .unset, .unset]) rfl k) ?_
      refine gnewO hx (ow hw 29 rfl) (ow hw 30 rfl) (ow hw 31 rfl) 44 (hb hby at_41) rfl (by decide) (by decide) ?_
      intro b102 h102 g102 E102 C102 A102 D102 n102 L102
      have z102 := C102.2.1
      have lt_b102 : h102.size > b102 := A102.lt
      have F102_subtopologyId : Fld Z h102 b102 "com/example/tasks_to_members/taskstomembers/core/Task" "subtopologyId" "Ljava/lang/String;" .null := D102 (Or.inr (ow hw 43 rfl)) (ty := (.object "java/lang/String")) (by decide)
      have F102_partition : Fld Z h102 b102 "com/example/tasks_to_members/taskstomembers/core/Task" "partition" "I" (.int (0 : Int32)) := D102 (Or.inr (ow hw 45 rfl)) (ty := .int) (by decide)
      refine gs (mkF m 45 #[.val (.int x0), .val (.int x1), .val (.int x2), .val (.int x3), .val (.int x4), .val (.int x0), .val (.int x3), .val (.ref r100), .val (.ref r101), .unset, .unset, .unset, .unset] [(.ref b102), (.ref b102)]) (fun _ _ A k => XS.dup A hx rfl (hb hby at_44) rfl rfl k) ?_
      refine gs (mkF m 47 #[.val (.int x0), .val (.int x1), .val (.int x2), .val (.int x3), .val (.int x4), .val (.int x0), .val (.int x3), .val (.ref r100), .val (.ref r101), .unset, .unset, .unset, .unset] [(.ref r100), (.ref b102), (.ref b102)]) (fun _ _ A k => XS.aload A hx rfl (hb hby at_45) rfl rfl k) ?_
      refine gs (mkF m 48 #[.val (.int x0), .val (.int x1), .val (.int x2), .val (.int x3), .val (.int x4), .val (.int x0), .val (.int x3), .val (.ref r100), .val (.ref r101), .unset, .unset, .unset, .unset] [(.int x2), (.ref r100), (.ref b102), (.ref b102)]) (fun _ _ A k => XS.iloadN A hx rfl (hb hby at_47) rfl  k) ?_
      have f104 := ((q100_0.keep K101 nin0 nin0).ext E102)
      refine ginfo fun _ _ O103 => ?_
      refine gcallI (y := (⟨"com/example/tasks_to_members/taskstomembers/core/Task", "<init>", "(Ljava/lang/String;I)V"⟩ : MethodName)) hx rfl (ow hw 32 rfl) (ow hw 33 rfl) (ow hw 34 rfl) (by decide) (fun hZ H hEL => Pay.of_met (W := 1) (own_tinit l Z a0 cx [] (b102) (r100) (x2) (.null) ((.int (0 : Int32))) (t100) ((own_cs x0)) vm101 h102 O103 A102 F102_subtopologyId F102_partition n102 f104) (ow hw 34 rfl) (ow hw 31 rfl) (by decide) (by decide) hZ H hEL) (a := b102) 51 (argsL := [(.ref r100), (.int x2)]) (rest := [(.ref b102)]) (lenOf own_pd200 rfl) rfl rfl (Nat.le_of_eq rfl) (by rw [hml]; rfl) (hb hby at_48) rfl (by decide) (by decide) ?_
      rintro _ vm103 h103 C103 ⟨rfl, K103, q103_0, q103_1⟩
      have z103 := C103.2.1
      refine gat (mkF m 51 #[.val (.int x0), .val (.int x1), .val (.int x2), .val (.int x3), .val (.int x4), .val (.int x0), .val (.int x3), .val (.ref r100), .val (.ref r101), .unset, .unset, .unset, .unset] [(.ref b102)]) rfl ?_
      refine gs (mkF m 53 #[.val (.int x0), .val (.int x1), .val (.int x2), .val (.int x3), .val (.int x4), .val (.int x0), .val (.int x3), .val (.ref r100), .val (.ref r101), .val (.ref b102), .unset, .unset, .unset] []) (fun _ _ A k => XS.astore A hx rfl (hb hby at_51) rfl rfl (l' := #[.val (.int x0), .val (.int x1), .val (.int x2), .val (.int x3), .val (.int x4), .val (.int x0), .val (.int x3), .val (.ref r100), .val (.ref r101), .val (.ref b102), .unset, .unset, .unset]) rfl k) ?_
      refine gnewO hx (ow hw 29 rfl) (ow hw 30 rfl) (ow hw 31 rfl) 56 (hb hby at_53) rfl (by decide) (by decide) ?_
      intro b105 h105 g105 E105 C105 A105 D105 n105 L105
      have z105 := C105.2.1
      have lt_b105 : h105.size > b105 := A105.lt
      have F105_subtopologyId : Fld Z h105 b105 "com/example/tasks_to_members/taskstomembers/core/Task" "subtopologyId" "Ljava/lang/String;" .null := D105 (Or.inr (ow hw 43 rfl)) (ty := (.object "java/lang/String")) (by decide)
      have F105_partition : Fld Z h105 b105 "com/example/tasks_to_members/taskstomembers/core/Task" "partition" "I" (.int (0 : Int32)) := D105 (Or.inr (ow hw 45 rfl)) (ty := .int) (by decide)
      refine gs (mkF m 57 #[.val (.int x0), .val (.int x1), .val (.int x2), .val (.int x3), .val (.int x4), .val (.int x0), .val (.int x3), .val (.ref r100), .val (.ref r101), .val (.ref b102), .unset, .unset, .unset] [(.ref b105), (.ref b105)]) (fun _ _ A k => XS.dup A hx rfl (hb hby at_56) rfl rfl k) ?_
      refine gs (mkF m 59 #[.val (.int x0), .val (.int x1), .val (.int x2), .val (.int x3), .val (.int x4), .val (.int x0), .val (.int x3), .val (.ref r100), .val (.ref r101), .val (.ref b102), .unset, .unset, .unset] [(.ref r101), (.ref b105), (.ref b105)]) (fun _ _ A k => XS.aload A hx rfl (hb hby at_57) rfl rfl k) ?_
      refine gs (mkF m 61 #[.val (.int x0), .val (.int x1), .val (.int x2), .val (.int x3), .val (.int x4), .val (.int x0), .val (.int x3), .val (.ref r100), .val (.ref r101), .val (.ref b102), .unset, .unset, .unset] [(.int x3), (.ref r101), (.ref b105), (.ref b105)]) (fun _ _ A k => XS.iload A hx rfl (hb hby at_59) rfl  k) ?_
      have f107 := (((q101_0.ext E102).keep K103 (ninS (Nat.ne_of_lt (by omega)) nin0) (ninS (Nat.ne_of_lt (by omega)) nin0)).ext E105)
      refine ginfo fun _ _ O106 => ?_
      refine gcallI (y := (⟨"com/example/tasks_to_members/taskstomembers/core/Task", "<init>", "(Ljava/lang/String;I)V"⟩ : MethodName)) hx rfl (ow hw 32 rfl) (ow hw 33 rfl) (ow hw 34 rfl) (by decide) (fun hZ H hEL => Pay.of_met (W := 1) (own_tinit l Z a0 cx [] (b105) (r101) (x3) (.null) ((.int (0 : Int32))) (t101) ((own_cs x0)) vm103 h105 O106 A105 F105_subtopologyId F105_partition n105 f107) (ow hw 34 rfl) (ow hw 31 rfl) (by decide) (by decide) hZ H hEL) (a := b105) 64 (argsL := [(.ref r101), (.int x3)]) (rest := [(.ref b105)]) (lenOf own_pd200 rfl) rfl rfl (Nat.le_of_eq rfl) (by rw [hml]; rfl) (hb hby at_61) rfl (by decide) (by decide) ?_
      rintro _ vm106 h106 C106 ⟨rfl, K106, q106_0, q106_1⟩
      have z106 := C106.2.1
      refine gat (mkF m 64 #[.val (.int x0), .val (.int x1), .val (.int x2), .val (.int x3), .val (.int x4), .val (.int x0), .val (.int x3), .val (.ref r100), .val (.ref r101), .val (.ref b102), .unset, .unset, .unset] [(.ref b105)]) rfl ?_
      refine gs (mkF m 66 #[.val (.int x0), .val (.int x1), .val (.int x2), .val (.int x3), .val (.int x4), .val (.int x0), .val (.int x3), .val (.ref r100), .val (.ref r101), .val (.ref b102), .val (.ref b105), .unset, .unset] []) (fun _ _ A k => XS.astore A hx rfl (hb hby at_64) rfl rfl (l' := #[.val (.int x0), .val (.int x1), .val (.int x2), .val (.int x3), .val (.int x4), .val (.int x0), .val (.int x3), .val (.ref r100), .val (.ref r101), .val (.ref b102), .val (.ref b105), .unset, .unset]) rfl k) ?_
      refine gs (mkF m 68 #[.val (.int x0), .val (.int x1), .val (.int x2), .val (.int x3), .val (.int x4), .val (.int x0), .val (.int x3), .val (.ref r100), .val (.ref r101), .val (.ref b102), .val (.ref b105), .unset, .unset] [(.int x4)]) (fun _ _ A k => XS.iload A hx rfl (hb hby at_66) rfl  k) ?_
      refine gs (mkF m 69 #[.val (.int x0), .val (.int x1), .val (.int x2), .val (.int x3), .val (.int x4), .val (.int x0), .val (.int x3), .val (.ref r100), .val (.ref r101), .val (.ref b102), .val (.ref b105), .unset, .unset] [(.int (2 : Int32)), (.int x4)]) (fun _ _ A k => XS.iconst A hx rfl (hb hby at_68) k) ?_
      refine gs (mkF m 70 #[.val (.int x0), .val (.int x1), .val (.int x2), .val (.int x3), .val (.int x4), .val (.int x0), .val (.int x3), .val (.ref r100), .val (.ref r101), .val (.ref b102), .val (.ref b105), .unset, .unset] [(.int ((x4.toUInt32 >>> ((2 : Int32) &&& 31).toUInt32).toInt32))]) (fun _ _ A k => XS.iushr A hx rfl (hb hby at_69) rfl k) ?_
      refine gs (mkF m 72 #[.val (.int x0), .val (.int x1), .val (.int x2), .val (.int x3), .val (.int x4), .val (.int x0), .val (.int x3), .val (.ref r100), .val (.ref r101), .val (.ref b102), .val (.ref b105), .unset, .unset] [(.int (7 : Int32)), (.int ((x4.toUInt32 >>> ((2 : Int32) &&& 31).toUInt32).toInt32))]) (fun _ _ A k => XS.bipush A hx rfl (hb hby at_70) k) ?_
      refine gs (mkF m 73 #[.val (.int x0), .val (.int x1), .val (.int x2), .val (.int x3), .val (.int x4), .val (.int x0), .val (.int x3), .val (.ref r100), .val (.ref r101), .val (.ref b102), .val (.ref b105), .unset, .unset] [(.int (((x4.toUInt32 >>> ((2 : Int32) &&& 31).toUInt32).toInt32) &&& (7 : Int32)))]) (fun _ _ A k => XS.iand A hx rfl (hb hby at_72) rfl k) ?_
      refine gs (mkF m 75 #[.val (.int x0), .val (.int x1), .val (.int x2), .val (.int x3), .val (.int x4), .val (.int x0), .val (.int x3), .val (.ref r100), .val (.ref r101), .val (.ref b102), .val (.ref b105), .val (.int (((x4.toUInt32 >>> ((2 : Int32) &&& 31).toUInt32).toInt32) &&& (7 : Int32))), .unset] []) (fun _ _ A k => XS.istore A hx rfl (hb hby at_73) rfl (l' := #[.val (.int x0), .val (.int x1), .val (.int x2), .val (.int x3), .val (.int x4), .val (.int x0), .val (.int x3), .val (.ref r100), .val (.ref r101), .val (.ref b102), .val (.ref b105), .val (.int (((x4.toUInt32 >>> ((2 : Int32) &&& 31).toUInt32).toInt32) &&& (7 : Int32))), .unset]) rfl k) ?_
      obtain ⟨kk, ek⟩ : ∃ kk, kk = (((x4.toUInt32 >>> ((2 : Int32) &&& 31).toUInt32).toInt32) &&& (7 : Int32)) := ⟨_, rfl⟩
      rw [← ek]
      refine gs (mkF m 77 #[.val (.int x0), .val (.int x1), .val (.int x2), .val (.int x3), .val (.int x4), .val (.int x0), .val (.int x3), .val (.ref r100), .val (.ref r101), .val (.ref b102), .val (.ref b105), .val (.int kk), .unset] [(.int kk)]) (fun _ _ A k => XS.iload A hx rfl (hb hby at_75) rfl  k) ?_
      refine gs (mkF m 78 #[.val (.int x0), .val (.int x1), .val (.int x2), .val (.int x3), .val (.int x4), .val (.int x0), .val (.int x3), .val (.ref r100), .val (.ref r101), .val (.ref b102), .val (.ref b105), .val (.int kk), .unset] [(.int (4 : Int32)), (.int kk)]) (fun _ _ A k => XS.iconst A hx rfl (hb hby at_77) k) ?_
      by_cases k1 : kk < (4 : Int32)
      · refine gs (mkF m 81 #[.val (.int x0), .val (.int x1), .val (.int x2), .val (.int x3), .val (.int x4), .val (.int x0), .val (.int x3), .val (.ref r100), .val (.ref r101), .val (.ref b102), .val (.ref b105), .val (.int kk), .unset] []) (fun _ _ A k => XS.icmpNo A hx rfl (hb hby at_78) rfl (tlt k1).2.1 k) ?_
        refine gs (mkF m 82 #[.val (.int x0), .val (.int x1), .val (.int x2), .val (.int x3), .val (.int x4), .val (.int x0), .val (.int x3), .val (.ref r100), .val (.ref r101), .val (.ref b102), .val (.ref b105), .val (.int kk), .unset] [(.int x0)]) (fun _ _ A k => XS.iloadN A hx rfl (hb hby at_81) rfl  k) ?_
        refine gs (mkF m 84 #[.val (.int x0), .val (.int x1), .val (.int x2), .val (.int x3), .val (.int x4), .val (.int x0), .val (.int x3), .val (.ref r100), .val (.ref r101), .val (.ref b102), .val (.ref b105), .val (.int kk), .unset] [(.int x0), (.int x0)]) (fun _ _ A k => XS.iload A hx rfl (hb hby at_82) rfl  k) ?_
        by_cases e1 : own_cs (x0) = own_cs (x0)
        · refine ginfo fun _ _ O108 => ?_
          refine gcallS (y := (⟨"com/example/tasks_to_members/taskstomembers/core/TaskEqualsPinLaw", "sameId", "(II)Z"⟩ : MethodName)) hx (ow hw 46 rfl) (ow hw 47 rfl) (ow hw 2 rfl) (ow hw 48 rfl) (by decide) (fun hZ H hEL => Pay.of_met (W := 0) (own_sameId l Z a0 cx [] (x0) (x0) ((1 : Int32)) vm106 h106 O108 ⟨fun _ => rfl, fun q => absurd e1 q⟩) (ow hw 48 rfl) (ow hw 2 rfl) (by decide) (by decide) hZ H hEL) 87 (argsL := [(.int x0), (.int x0)]) (rest := []) (lenOf own_pd201 rfl) rfl rfl (Nat.le_of_eq rfl) (by rw [hml]; rfl) (hb hby at_84) rfl (by decide) (by decide) ?_
          rintro _ vm108 h108 C108 ⟨rfl, rfl⟩
          have z108 := C108.2.1
          refine gat (mkF m 87 #[.val (.int x0), .val (.int x1), .val (.int x2), .val (.int x3), .val (.int x4), .val (.int x0), .val (.int x3), .val (.ref r100), .val (.ref r101), .val (.ref b102), .val (.ref b105), .val (.int kk), .unset] [(.int (1 : Int32))]) rfl ?_
          refine gs (mkF m 90 #[.val (.int x0), .val (.int x1), .val (.int x2), .val (.int x3), .val (.int x4), .val (.int x0), .val (.int x3), .val (.ref r100), .val (.ref r101), .val (.ref b102), .val (.ref b105), .val (.int kk), .unset] []) (fun _ _ A k => XS.ifNo A hx rfl (hb hby at_87) rfl ((if0 _ _).trans (feq (by decide)).1) k) ?_
          refine gs (mkF m 91 #[.val (.int x0), .val (.int x1), .val (.int x2), .val (.int x3), .val (.int x4), .val (.int x0), .val (.int x3), .val (.ref r100), .val (.ref r101), .val (.ref b102), .val (.ref b105), .val (.int kk), .unset] [(.int x2)]) (fun _ _ A k => XS.iloadN A hx rfl (hb hby at_90) rfl  k) ?_
          refine gs (mkF m 93 #[.val (.int x0), .val (.int x1), .val (.int x2), .val (.int x3), .val (.int x4), .val (.int x0), .val (.int x3), .val (.ref r100), .val (.ref r101), .val (.ref b102), .val (.ref b105), .val (.int kk), .unset] [(.int x3), (.int x2)]) (fun _ _ A k => XS.iload A hx rfl (hb hby at_91) rfl  k) ?_
          by_cases e2 : x2 = x3
          · refine gs (mkF m 96 #[.val (.int x0), .val (.int x1), .val (.int x2), .val (.int x3), .val (.int x4), .val (.int x0), .val (.int x3), .val (.ref r100), .val (.ref r101), .val (.ref b102), .val (.ref b105), .val (.int kk), .unset] []) (fun _ _ A k => XS.icmpNo A hx rfl (hb hby at_93) rfl (teq e2).2 k) ?_
            refine gs (mkF m 97 #[.val (.int x0), .val (.int x1), .val (.int x2), .val (.int x3), .val (.int x4), .val (.int x0), .val (.int x3), .val (.ref r100), .val (.ref r101), .val (.ref b102), .val (.ref b105), .val (.int kk), .unset] [(.int (1 : Int32))]) (fun _ _ A k => XS.iconst A hx rfl (hb hby at_96) k) ?_
            refine gs (mkF m 101 #[.val (.int x0), .val (.int x1), .val (.int x2), .val (.int x3), .val (.int x4), .val (.int x0), .val (.int x3), .val (.ref r100), .val (.ref r101), .val (.ref b102), .val (.ref b105), .val (.int kk), .unset] [(.int (1 : Int32))]) (fun _ _ A k => XS.goto A hx rfl (pc0 := 97) (pc' := 101) rfl (hb hby at_97) (by decide) (by decide) k) ?_
            refine gs (mkF m 103 #[.val (.int x0), .val (.int x1), .val (.int x2), .val (.int x3), .val (.int x4), .val (.int x0), .val (.int x3), .val (.ref r100), .val (.ref r101), .val (.ref b102), .val (.ref b105), .val (.int kk), .val (.int (1 : Int32))] []) (fun _ _ A k => XS.istore A hx rfl (hb hby at_101) rfl (l' := #[.val (.int x0), .val (.int x1), .val (.int x2), .val (.int x3), .val (.int x4), .val (.int x0), .val (.int x3), .val (.ref r100), .val (.ref r101), .val (.ref b102), .val (.ref b105), .val (.int kk), .val (.int (1 : Int32))]) rfl k) ?_
            refine gs (mkF m 105 #[.val (.int x0), .val (.int x1), .val (.int x2), .val (.int x3), .val (.int x4), .val (.int x0), .val (.int x3), .val (.ref r100), .val (.ref r101), .val (.ref b102), .val (.ref b105), .val (.int kk), .val (.int (1 : Int32))] [(.ref b102)]) (fun _ _ A k => XS.aload A hx rfl (hb hby at_103) rfl rfl k) ?_
            refine gs (mkF m 107 #[.val (.int x0), .val (.int x1), .val (.int x2), .val (.int x3), .val (.int x4), .val (.int x0), .val (.int x3), .val (.ref r100), .val (.ref r101), .val (.ref b102), .val (.ref b105), .val (.int kk), .val (.int (1 : Int32))] [(.ref b105), (.ref b102)]) (fun _ _ A k => XS.aload A hx rfl (hb hby at_105) rfl rfl k) ?_
            have f110 := (A105.keep K106)
            have f111 := ((q103_0.ext E105).keep K106 (ninS (Nat.ne_of_lt (by omega)) nin0))
            have f112 := ((q103_1.ext E105).keep K106 (ninS (Nat.ne_of_lt (by omega)) nin0))
            have f113 := (((f104.keep K103 (ninS (Nat.ne_of_lt (by omega)) nin0) (ninS (Nat.ne_of_lt (by omega)) nin0)).ext E105).keep K106 (ninS (Nat.ne_of_lt (by omega)) nin0) (ninS (Nat.ne_of_lt (by omega)) nin0))
            have f114 := (f107.keep K106 (ninS (Nat.ne_of_lt (by omega)) nin0) (ninS (Nat.ne_of_lt (by omega)) nin0))
            refine ginfo fun _ _ O109 => ?_
            have f115 := (((A102.keep K103).ext E105).keep K106)
            refine gcallV (y := (⟨"com/example/tasks_to_members/taskstomembers/core/Task", "equals", "(Ljava/lang/Object;)Z"⟩ : MethodName)) (z := (⟨"com/example/tasks_to_members/taskstomembers/core/Task", "equals", "(Ljava/lang/Object;)Z"⟩ : MethodName)) hx (ow hw 49 rfl) (ow hw 50 rfl) (nfSel (ow hw 52 rfl)) (ow hw 52 rfl) (ow hw 51 rfl) (by decide) (fun hZ H hEL => Pay.of_met (W := 0) (own_teq l Z a0 cx [] (b102) (b105) (r100) (r101) (x2) (x3) (t100) (t101) ((own_cs x0)) ((own_cs x0)) ((1 : Int32)) vm108 h106 O109 f110 f111 f112 q106_0 q106_1 f113 f114 ⟨fun _ => rfl, fun q => absurd ⟨e1, e2⟩ q⟩) (ow hw 53 rfl) (ow hw 31 rfl) (by decide) (by decide) hZ H hEL) 110 (argsL := [(.ref b105)]) (rest := []) f115 (lenOf own_pd157 rfl) rfl rfl (Nat.le_of_eq rfl) (by rw [hml]; rfl) (hb hby at_107) rfl (by decide) (by decide) ?_
            rintro _ vm109 h109 C109 ⟨rfl, rfl⟩
            have z109 := C109.2.1
            refine gat (mkF m 110 #[.val (.int x0), .val (.int x1), .val (.int x2), .val (.int x3), .val (.int x4), .val (.int x0), .val (.int x3), .val (.ref r100), .val (.ref r101), .val (.ref b102), .val (.ref b105), .val (.int kk), .val (.int (1 : Int32))] [(.int (1 : Int32))]) rfl ?_
            refine gs (mkF m 112 #[.val (.int x0), .val (.int x1), .val (.int x2), .val (.int x3), .val (.int x4), .val (.int x0), .val (.int x3), .val (.ref r100), .val (.ref r101), .val (.ref b102), .val (.ref b105), .val (.int kk), .val (.int (1 : Int32))] [(.int (1 : Int32)), (.int (1 : Int32))]) (fun _ _ A k => XS.iload A hx rfl (hb hby at_110) rfl  k) ?_
            refine gs (mkF m 115 #[.val (.int x0), .val (.int x1), .val (.int x2), .val (.int x3), .val (.int x4), .val (.int x0), .val (.int x3), .val (.ref r100), .val (.ref r101), .val (.ref b102), .val (.ref b105), .val (.int kk), .val (.int (1 : Int32))] []) (fun _ _ A k => XS.icmpNo A hx rfl (hb hby at_112) rfl (teq (by decide)).2 k) ?_
            refine gs (mkF m 117 #[.val (.int x0), .val (.int x1), .val (.int x2), .val (.int x3), .val (.int x4), .val (.int x0), .val (.int x3), .val (.ref r100), .val (.ref r101), .val (.ref b102), .val (.ref b105), .val (.int kk), .val (.int (1 : Int32))] [(.ref b105)]) (fun _ _ A k => XS.aload A hx rfl (hb hby at_115) rfl rfl k) ?_
            refine gs (mkF m 119 #[.val (.int x0), .val (.int x1), .val (.int x2), .val (.int x3), .val (.int x4), .val (.int x0), .val (.int x3), .val (.ref r100), .val (.ref r101), .val (.ref b102), .val (.ref b105), .val (.int kk), .val (.int (1 : Int32))] [(.ref b102), (.ref b105)]) (fun _ _ A k => XS.aload A hx rfl (hb hby at_117) rfl rfl k) ?_
            refine ginfo fun _ _ O116 => ?_
            refine gcallV (y := (⟨"com/example/tasks_to_members/taskstomembers/core/Task", "equals", "(Ljava/lang/Object;)Z"⟩ : MethodName)) (z := (⟨"com/example/tasks_to_members/taskstomembers/core/Task", "equals", "(Ljava/lang/Object;)Z"⟩ : MethodName)) hx (ow hw 49 rfl) (ow hw 50 rfl) (nfSel (ow hw 52 rfl)) (ow hw 52 rfl) (ow hw 51 rfl) (by decide) (fun hZ H hEL => Pay.of_met (W := 0) (own_teq l Z a0 cx [] (b105) (b102) (r101) (r100) (x3) (x2) (t101) (t100) ((own_cs x0)) ((own_cs x0)) ((1 : Int32)) vm109 h106 O116 f115 q106_0 q106_1 f111 f112 f114 f113 ⟨fun _ => rfl, fun q => absurd ⟨Eq.symm e1, Eq.symm e2⟩ q⟩) (ow hw 53 rfl) (ow hw 31 rfl) (by decide) (by decide) hZ H hEL) 122 (argsL := [(.ref b102)]) (rest := []) f110 (lenOf own_pd157 rfl) rfl rfl (Nat.le_of_eq rfl) (by rw [hml]; rfl) (hb hby at_119) rfl (by decide) (by decide) ?_
            rintro _ vm116 h116 C116 ⟨rfl, rfl⟩
            have z116 := C116.2.1
            refine gat (mkF m 122 #[.val (.int x0), .val (.int x1), .val (.int x2), .val (.int x3), .val (.int x4), .val (.int x0), .val (.int x3), .val (.ref r100), .val (.ref r101), .val (.ref b102), .val (.ref b105), .val (.int kk), .val (.int (1 : Int32))] [(.int (1 : Int32))]) rfl ?_
            refine gs (mkF m 124 #[.val (.int x0), .val (.int x1), .val (.int x2), .val (.int x3), .val (.int x4), .val (.int x0), .val (.int x3), .val (.ref r100), .val (.ref r101), .val (.ref b102), .val (.ref b105), .val (.int kk), .val (.int (1 : Int32))] [(.int (1 : Int32)), (.int (1 : Int32))]) (fun _ _ A k => XS.iload A hx rfl (hb hby at_122) rfl  k) ?_
            refine gs (mkF m 127 #[.val (.int x0), .val (.int x1), .val (.int x2), .val (.int x3), .val (.int x4), .val (.int x0), .val (.int x3), .val (.ref r100), .val (.ref r101), .val (.ref b102), .val (.ref b105), .val (.int kk), .val (.int (1 : Int32))] []) (fun _ _ A k => XS.icmpNo A hx rfl (hb hby at_124) rfl (teq (by decide)).2 k) ?_
            refine gs (mkF m 128 #[.val (.int x0), .val (.int x1), .val (.int x2), .val (.int x3), .val (.int x4), .val (.int x0), .val (.int x3), .val (.ref r100), .val (.ref r101), .val (.ref b102), .val (.ref b105), .val (.int kk), .val (.int (1 : Int32))] [(.int (1 : Int32))]) (fun _ _ A k => XS.iconst A hx rfl (hb hby at_127) k) ?_
            refine gs (mkF m 132 #[.val (.int x0), .val (.int x1), .val (.int x2), .val (.int x3), .val (.int x4), .val (.int x0), .val (.int x3), .val (.ref r100), .val (.ref r101), .val (.ref b102), .val (.ref b105), .val (.int kk), .val (.int (1 : Int32))] [(.int (1 : Int32))]) (fun _ _ A k => XS.goto A hx rfl (pc0 := 128) (pc' := 132) rfl (hb hby at_128) (by decide) (by decide) k) ?_
            exact gretN (t := .boolean) hx hret (by simp) (hb hby at_132) (by decide) (by decide) (fun vq Cq => ⟨rfl, (((((((Keep.refl h0 []).trans K100 all0).trans K101 all0).ext E102).trans K103 (allS (Or.inr (by omega)) all0)).ext E105).trans K106 (allS (Or.inr (by omega)) all0))⟩)
          · refine gs (mkF m 100 #[.val (.int x0), .val (.int x1), .val (.int x2), .val (.int x3), .val (.int x4), .val (.int x0), .val (.int x3), .val (.ref r100), .val (.ref r101), .val (.ref b102), .val (.ref b105), .val (.int kk), .unset] []) (fun _ _ A k => XS.icmpYes A hx rfl (pc0 := 93) (pc' := 100) rfl (hb hby at_93) rfl (feq e2).2 (by decide) (by decide) k) ?_
            refine gs (mkF m 101 #[.val (.int x0), .val (.int x1), .val (.int x2), .val (.int x3), .val (.int x4), .val (.int x0), .val (.int x3), .val (.ref r100), .val (.ref r101), .val (.ref b102), .val (.ref b105), .val (.int kk), .unset] [(.int (0 : Int32))]) (fun _ _ A k => XS.iconst A hx rfl (hb hby at_100) k) ?_
            refine gs (mkF m 103 #[.val (.int x0), .val (.int x1), .val (.int x2), .val (.int x3), .val (.int x4), .val (.int x0), .val (.int x3), .val (.ref r100), .val (.ref r101), .val (.ref b102), .val (.ref b105), .val (.int kk), .val (.int (0 : Int32))] []) (fun _ _ A k => XS.istore A hx rfl (hb hby at_101) rfl (l' := #[.val (.int x0), .val (.int x1), .val (.int x2), .val (.int x3), .val (.int x4), .val (.int x0), .val (.int x3), .val (.ref r100), .val (.ref r101), .val (.ref b102), .val (.ref b105), .val (.int kk), .val (.int (0 : Int32))]) rfl k) ?_
            refine gs (mkF m 105 #[.val (.int x0), .val (.int x1), .val (.int x2), .val (.int x3), .val (.int x4), .val (.int x0), .val (.int x3), .val (.ref r100), .val (.ref r101), .val (.ref b102), .val (.ref b105), .val (.int kk), .val (.int (0 : Int32))] [(.ref b102)]) (fun _ _ A k => XS.aload A hx rfl (hb hby at_103) rfl rfl k) ?_
            refine gs (mkF m 107 #[.val (.int x0), .val (.int x1), .val (.int x2), .val (.int x3), .val (.int x4), .val (.int x0), .val (.int x3), .val (.ref r100), .val (.ref r101), .val (.ref b102), .val (.ref b105), .val (.int kk), .val (.int (0 : Int32))] [(.ref b105), (.ref b102)]) (fun _ _ A k => XS.aload A hx rfl (hb hby at_105) rfl rfl k) ?_
            have f119 := (A105.keep K106)
            have f120 := ((q103_0.ext E105).keep K106 (ninS (Nat.ne_of_lt (by omega)) nin0))
            have f121 := ((q103_1.ext E105).keep K106 (ninS (Nat.ne_of_lt (by omega)) nin0))
            have f122 := (((f104.keep K103 (ninS (Nat.ne_of_lt (by omega)) nin0) (ninS (Nat.ne_of_lt (by omega)) nin0)).ext E105).keep K106 (ninS (Nat.ne_of_lt (by omega)) nin0) (ninS (Nat.ne_of_lt (by omega)) nin0))
            have f123 := (f107.keep K106 (ninS (Nat.ne_of_lt (by omega)) nin0) (ninS (Nat.ne_of_lt (by omega)) nin0))
            refine ginfo fun _ _ O118 => ?_
            have f124 := (((A102.keep K103).ext E105).keep K106)
            refine gcallV (y := (⟨"com/example/tasks_to_members/taskstomembers/core/Task", "equals", "(Ljava/lang/Object;)Z"⟩ : MethodName)) (z := (⟨"com/example/tasks_to_members/taskstomembers/core/Task", "equals", "(Ljava/lang/Object;)Z"⟩ : MethodName)) hx (ow hw 49 rfl) (ow hw 50 rfl) (nfSel (ow hw 52 rfl)) (ow hw 52 rfl) (ow hw 51 rfl) (by decide) (fun hZ H hEL => Pay.of_met (W := 0) (own_teq l Z a0 cx [] (b102) (b105) (r100) (r101) (x2) (x3) (t100) (t101) ((own_cs x0)) ((own_cs x0)) ((0 : Int32)) vm108 h106 O118 f119 f120 f121 q106_0 q106_1 f122 f123 ⟨fun q => absurd (q.2) e2, fun _ => rfl⟩) (ow hw 53 rfl) (ow hw 31 rfl) (by decide) (by decide) hZ H hEL) 110 (argsL := [(.ref b105)]) (rest := []) f124 (lenOf own_pd157 rfl) rfl rfl (Nat.le_of_eq rfl) (by rw [hml]; rfl) (hb hby at_107) rfl (by decide) (by decide) ?_
            rintro _ vm118 h118 C118 ⟨rfl, rfl⟩
            have z118 := C118.2.1
            refine gat (mkF m 110 #[.val (.int x0), .val (.int x1), .val (.int x2), .val (.int x3), .val (.int x4), .val (.int x0), .val (.int x3), .val (.ref r100), .val (.ref r101), .val (.ref b102), .val (.ref b105), .val (.int kk), .val (.int (0 : Int32))] [(.int (0 : Int32))]) rfl ?_
            refine gs (mkF m 112 #[.val (.int x0), .val (.int x1), .val (.int x2), .val (.int x3), .val (.int x4), .val (.int x0), .val (.int x3), .val (.ref r100), .val (.ref r101), .val (.ref b102), .val (.ref b105), .val (.int kk), .val (.int (0 : Int32))] [(.int (0 : Int32)), (.int (0 : Int32))]) (fun _ _ A k => XS.iload A hx rfl (hb hby at_110) rfl  k) ?_
            refine gs (mkF m 115 #[.val (.int x0), .val (.int x1), .val (.int x2), .val (.int x3), .val (.int x4), .val (.int x0), .val (.int x3), .val (.ref r100), .val (.ref r101), .val (.ref b102), .val (.ref b105), .val (.int kk), .val (.int (0 : Int32))] []) (fun _ _ A k => XS.icmpNo A hx rfl (hb hby at_112) rfl (teq (by decide)).2 k) ?_
            refine gs (mkF m 117 #[.val (.int x0), .val (.int x1), .val (.int x2), .val (.int x3), .val (.int x4), .val (.int x0), .val (.int x3), .val (.ref r100), .val (.ref r101), .val (.ref b102), .val (.ref b105), .val (.int kk), .val (.int (0 : Int32))] [(.ref b105)]) (fun _ _ A k => XS.aload A hx rfl (hb hby at_115) rfl rfl k) ?_
            refine gs (mkF m 119 #[.val (.int x0), .val (.int x1), .val (.int x2), .val (.int x3), .val (.int x4), .val (.int x0), .val (.int x3), .val (.ref r100), .val (.ref r101), .val (.ref b102), .val (.ref b105), .val (.int kk), .val (.int (0 : Int32))] [(.ref b102), (.ref b105)]) (fun _ _ A k => XS.aload A hx rfl (hb hby at_117) rfl rfl k) ?_
            refine ginfo fun _ _ O125 => ?_
            refine gcallV (y := (⟨"com/example/tasks_to_members/taskstomembers/core/Task", "equals", "(Ljava/lang/Object;)Z"⟩ : MethodName)) (z := (⟨"com/example/tasks_to_members/taskstomembers/core/Task", "equals", "(Ljava/lang/Object;)Z"⟩ : MethodName)) hx (ow hw 49 rfl) (ow hw 50 rfl) (nfSel (ow hw 52 rfl)) (ow hw 52 rfl) (ow hw 51 rfl) (by decide) (fun hZ H hEL => Pay.of_met (W := 0) (own_teq l Z a0 cx [] (b105) (b102) (r101) (r100) (x3) (x2) (t101) (t100) ((own_cs x0)) ((own_cs x0)) ((0 : Int32)) vm118 h106 O125 f124 q106_0 q106_1 f120 f121 f123 f122 ⟨fun q => absurd (Eq.symm q.2) e2, fun _ => rfl⟩) (ow hw 53 rfl) (ow hw 31 rfl) (by decide) (by decide) hZ H hEL) 122 (argsL := [(.ref b102)]) (rest := []) f119 (lenOf own_pd157 rfl) rfl rfl (Nat.le_of_eq rfl) (by rw [hml]; rfl) (hb hby at_119) rfl (by decide) (by decide) ?_
            rintro _ vm125 h125 C125 ⟨rfl, rfl⟩
            have z125 := C125.2.1
            refine gat (mkF m 122 #[.val (.int x0), .val (.int x1), .val (.int x2), .val (.int x3), .val (.int x4), .val (.int x0), .val (.int x3), .val (.ref r100), .val (.ref r101), .val (.ref b102), .val (.ref b105), .val (.int kk), .val (.int (0 : Int32))] [(.int (0 : Int32))]) rfl ?_
            refine gs (mkF m 124 #[.val (.int x0), .val (.int x1), .val (.int x2), .val (.int x3), .val (.int x4), .val (.int x0), .val (.int x3), .val (.ref r100), .val (.ref r101), .val (.ref b102), .val (.ref b105), .val (.int kk), .val (.int (0 : Int32))] [(.int (0 : Int32)), (.int (0 : Int32))]) (fun _ _ A k => XS.iload A hx rfl (hb hby at_122) rfl  k) ?_
            refine gs (mkF m 127 #[.val (.int x0), .val (.int x1), .val (.int x2), .val (.int x3), .val (.int x4), .val (.int x0), .val (.int x3), .val (.ref r100), .val (.ref r101), .val (.ref b102), .val (.ref b105), .val (.int kk), .val (.int (0 : Int32))] []) (fun _ _ A k => XS.icmpNo A hx rfl (hb hby at_124) rfl (teq (by decide)).2 k) ?_
            refine gs (mkF m 128 #[.val (.int x0), .val (.int x1), .val (.int x2), .val (.int x3), .val (.int x4), .val (.int x0), .val (.int x3), .val (.ref r100), .val (.ref r101), .val (.ref b102), .val (.ref b105), .val (.int kk), .val (.int (0 : Int32))] [(.int (1 : Int32))]) (fun _ _ A k => XS.iconst A hx rfl (hb hby at_127) k) ?_
            refine gs (mkF m 132 #[.val (.int x0), .val (.int x1), .val (.int x2), .val (.int x3), .val (.int x4), .val (.int x0), .val (.int x3), .val (.ref r100), .val (.ref r101), .val (.ref b102), .val (.ref b105), .val (.int kk), .val (.int (0 : Int32))] [(.int (1 : Int32))]) (fun _ _ A k => XS.goto A hx rfl (pc0 := 128) (pc' := 132) rfl (hb hby at_128) (by decide) (by decide) k) ?_
            exact gretN (t := .boolean) hx hret (by simp) (hb hby at_132) (by decide) (by decide) (fun vq Cq => ⟨rfl, (((((((Keep.refl h0 []).trans K100 all0).trans K101 all0).ext E102).trans K103 (allS (Or.inr (by omega)) all0)).ext E105).trans K106 (allS (Or.inr (by omega)) all0))⟩)
        · refine ginfo fun _ _ O127 => ?_
          refine gcallS (y := (⟨"com/example/tasks_to_members/taskstomembers/core/TaskEqualsPinLaw", "sameId", "(II)Z"⟩ : MethodName)) hx (ow hw 46 rfl) (ow hw 47 rfl) (ow hw 2 rfl) (ow hw 48 rfl) (by decide) (fun hZ H hEL => Pay.of_met (W := 0) (own_sameId l Z a0 cx [] (x0) (x0) ((0 : Int32)) vm106 h106 O127 ⟨fun q => absurd q e1, fun _ => rfl⟩) (ow hw 48 rfl) (ow hw 2 rfl) (by decide) (by decide) hZ H hEL) 87 (argsL := [(.int x0), (.int x0)]) (rest := []) (lenOf own_pd201 rfl) rfl rfl (Nat.le_of_eq rfl) (by rw [hml]; rfl) (hb hby at_84) rfl (by decide) (by decide) ?_
          rintro _ vm127 h127 C127 ⟨rfl, rfl⟩
          have z127 := C127.2.1
          refine gat (mkF m 87 #[.val (.int x0), .val (.int x1), .val (.int x2), .val (.int x3), .val (.int x4), .val (.int x0), .val (.int x3), .val (.ref r100), .val (.ref r101), .val (.ref b102), .val (.ref b105), .val (.int kk), .unset] [(.int (0 : Int32))]) rfl ?_
          refine gs (mkF m 100 #[.val (.int x0), .val (.int x1), .val (.int x2), .val (.int x3), .val (.int x4), .val (.int x0), .val (.int x3), .val (.ref r100), .val (.ref r101), .val (.ref b102), .val (.ref b105), .val (.int kk), .unset] []) (fun _ _ A k => XS.ifYes A hx rfl (pc0 := 87) (pc' := 100) rfl (hb hby at_87) rfl ((if0 _ _).trans (teq (by decide)).1) (by decide) (by decide) k) ?_
          refine gs (mkF m 101 #[.val (.int x0), .val (.int x1), .val (.int x2), .val (.int x3), .val (.int x4), .val (.int x0), .val (.int x3), .val (.ref r100), .val (.ref r101), .val (.ref b102), .val (.ref b105), .val (.int kk), .unset] [(.int (0 : Int32))]) (fun _ _ A k => XS.iconst A hx rfl (hb hby at_100) k) ?_
          refine gs (mkF m 103 #[.val (.int x0), .val (.int x1), .val (.int x2), .val (.int x3), .val (.int x4), .val (.int x0), .val (.int x3), .val (.ref r100), .val (.ref r101), .val (.ref b102), .val (.ref b105), .val (.int kk), .val (.int (0 : Int32))] []) (fun _ _ A k => XS.istore A hx rfl (hb hby at_101) rfl (l' := #[.val (.int x0), .val (.int x1), .val (.int x2), .val (.int x3), .val (.int x4), .val (.int x0), .val (.int x3), .val (.ref r100), .val (.ref r101), .val (.ref b102), .val (.ref b105), .val (.int kk), .val (.int (0 : Int32))]) rfl k) ?_
          refine gs (mkF m 105 #[.val (.int x0), .val (.int x1), .val (.int x2), .val (.int x3), .val (.int x4), .val (.int x0), .val (.int x3), .val (.ref r100), .val (.ref r101), .val (.ref b102), .val (.ref b105), .val (.int kk), .val (.int (0 : Int32))] [(.ref b102)]) (fun _ _ A k => XS.aload A hx rfl (hb hby at_103) rfl rfl k) ?_
          refine gs (mkF m 107 #[.val (.int x0), .val (.int x1), .val (.int x2), .val (.int x3), .val (.int x4), .val (.int x0), .val (.int x3), .val (.ref r100), .val (.ref r101), .val (.ref b102), .val (.ref b105), .val (.int kk), .val (.int (0 : Int32))] [(.ref b105), (.ref b102)]) (fun _ _ A k => XS.aload A hx rfl (hb hby at_105) rfl rfl k) ?_
          have f129 := (A105.keep K106)
          have f130 := ((q103_0.ext E105).keep K106 (ninS (Nat.ne_of_lt (by omega)) nin0))
          have f131 := ((q103_1.ext E105).keep K106 (ninS (Nat.ne_of_lt (by omega)) nin0))
          have f132 := (((f104.keep K103 (ninS (Nat.ne_of_lt (by omega)) nin0) (ninS (Nat.ne_of_lt (by omega)) nin0)).ext E105).keep K106 (ninS (Nat.ne_of_lt (by omega)) nin0) (ninS (Nat.ne_of_lt (by omega)) nin0))
          have f133 := (f107.keep K106 (ninS (Nat.ne_of_lt (by omega)) nin0) (ninS (Nat.ne_of_lt (by omega)) nin0))
          refine ginfo fun _ _ O128 => ?_
          have f134 := (((A102.keep K103).ext E105).keep K106)
          refine gcallV (y := (⟨"com/example/tasks_to_members/taskstomembers/core/Task", "equals", "(Ljava/lang/Object;)Z"⟩ : MethodName)) (z := (⟨"com/example/tasks_to_members/taskstomembers/core/Task", "equals", "(Ljava/lang/Object;)Z"⟩ : MethodName)) hx (ow hw 49 rfl) (ow hw 50 rfl) (nfSel (ow hw 52 rfl)) (ow hw 52 rfl) (ow hw 51 rfl) (by decide) (fun hZ H hEL => Pay.of_met (W := 0) (own_teq l Z a0 cx [] (b102) (b105) (r100) (r101) (x2) (x3) (t100) (t101) ((own_cs x0)) ((own_cs x0)) ((0 : Int32)) vm127 h106 O128 f129 f130 f131 q106_0 q106_1 f132 f133 ⟨fun q => absurd (q.1) e1, fun _ => rfl⟩) (ow hw 53 rfl) (ow hw 31 rfl) (by decide) (by decide) hZ H hEL) 110 (argsL := [(.ref b105)]) (rest := []) f134 (lenOf own_pd157 rfl) rfl rfl (Nat.le_of_eq rfl) (by rw [hml]; rfl) (hb hby at_107) rfl (by decide) (by decide) ?_
          rintro _ vm128 h128 C128 ⟨rfl, rfl⟩
          have z128 := C128.2.1
          refine gat (mkF m 110 #[.val (.int x0), .val (.int x1), .val (.int x2), .val (.int x3), .val (.int x4), .val (.int x0), .val (.int x3), .val (.ref r100), .val (.ref r101), .val (.ref b102), .val (.ref b105), .val (.int kk), .val (.int (0 : Int32))] [(.int (0 : Int32))]) rfl ?_
          refine gs (mkF m 112 #[.val (.int x0), .val (.int x1), .val (.int x2), .val (.int x3), .val (.int x4), .val (.int x0), .val (.int x3), .val (.ref r100), .val (.ref r101), .val (.ref b102), .val (.ref b105), .val (.int kk), .val (.int (0 : Int32))] [(.int (0 : Int32)), (.int (0 : Int32))]) (fun _ _ A k => XS.iload A hx rfl (hb hby at_110) rfl  k) ?_
          refine gs (mkF m 115 #[.val (.int x0), .val (.int x1), .val (.int x2), .val (.int x3), .val (.int x4), .val (.int x0), .val (.int x3), .val (.ref r100), .val (.ref r101), .val (.ref b102), .val (.ref b105), .val (.int kk), .val (.int (0 : Int32))] []) (fun _ _ A k => XS.icmpNo A hx rfl (hb hby at_112) rfl (teq (by decide)).2 k) ?_
          refine gs (mkF m 117 #[.val (.int x0), .val (.int x1), .val (.int x2), .val (.int x3), .val (.int x4), .val (.int x0), .val (.int x3), .val (.ref r100), .val (.ref r101), .val (.ref b102), .val (.ref b105), .val (.int kk), .val (.int (0 : Int32))] [(.ref b105)]) (fun _ _ A k => XS.aload A hx rfl (hb hby at_115) rfl rfl k) ?_
          refine gs (mkF m 119 #[.val (.int x0), .val (.int x1), .val (.int x2), .val (.int x3), .val (.int x4), .val (.int x0), .val (.int x3), .val (.ref r100), .val (.ref r101), .val (.ref b102), .val (.ref b105), .val (.int kk), .val (.int (0 : Int32))] [(.ref b102), (.ref b105)]) (fun _ _ A k => XS.aload A hx rfl (hb hby at_117) rfl rfl k) ?_
          refine ginfo fun _ _ O135 => ?_
          refine gcallV (y := (⟨"com/example/tasks_to_members/taskstomembers/core/Task", "equals", "(Ljava/lang/Object;)Z"⟩ : MethodName)) (z := (⟨"com/example/tasks_to_members/taskstomembers/core/Task", "equals", "(Ljava/lang/Object;)Z"⟩ : MethodName)) hx (ow hw 49 rfl) (ow hw 50 rfl) (nfSel (ow hw 52 rfl)) (ow hw 52 rfl) (ow hw 51 rfl) (by decide) (fun hZ H hEL => Pay.of_met (W := 0) (own_teq l Z a0 cx [] (b105) (b102) (r101) (r100) (x3) (x2) (t101) (t100) ((own_cs x0)) ((own_cs x0)) ((0 : Int32)) vm128 h106 O135 f134 q106_0 q106_1 f130 f131 f133 f132 ⟨fun q => absurd (Eq.symm q.1) e1, fun _ => rfl⟩) (ow hw 53 rfl) (ow hw 31 rfl) (by decide) (by decide) hZ H hEL) 122 (argsL := [(.ref b102)]) (rest := []) f129 (lenOf own_pd157 rfl) rfl rfl (Nat.le_of_eq rfl) (by rw [hml]; rfl) (hb hby at_119) rfl (by decide) (by decide) ?_
          rintro _ vm135 h135 C135 ⟨rfl, rfl⟩
          have z135 := C135.2.1
          refine gat (mkF m 122 #[.val (.int x0), .val (.int x1), .val (.int x2), .val (.int x3), .val (.int x4), .val (.int x0), .val (.int x3), .val (.ref r100), .val (.ref r101), .val (.ref b102), .val (.ref b105), .val (.int kk), .val (.int (0 : Int32))] [(.int (0 : Int32))]) rfl ?_
          refine gs (mkF m 124 #[.val (.int x0), .val (.int x1), .val (.int x2), .val (.int x3), .val (.int x4), .val (.int x0), .val (.int x3), .val (.ref r100), .val (.ref r101), .val (.ref b102), .val (.ref b105), .val (.int kk), .val (.int (0 : Int32))] [(.int (0 : Int32)), (.int (0 : Int32))]) (fun _ _ A k => XS.iload A hx rfl (hb hby at_122) rfl  k) ?_
          refine gs (mkF m 127 #[.val (.int x0), .val (.int x1), .val (.int x2), .val (.int x3), .val (.int x4), .val (.int x0), .val (.int x3), .val (.ref r100), .val (.ref r101), .val (.ref b102), .val (.ref b105), .val (.int kk), .val (.int (0 : Int32))] []) (fun _ _ A k => XS.icmpNo A hx rfl (hb hby at_124) rfl (teq (by decide)).2 k) ?_
          refine gs (mkF m 128 #[.val (.int x0), .val (.int x1), .val (.int x2), .val (.int x3), .val (.int x4), .val (.int x0), .val (.int x3), .val (.ref r100), .val (.ref r101), .val (.ref b102), .val (.ref b105), .val (.int kk), .val (.int (0 : Int32))] [(.int (1 : Int32))]) (fun _ _ A k => XS.iconst A hx rfl (hb hby at_127) k) ?_
          refine gs (mkF m 132 #[.val (.int x0), .val (.int x1), .val (.int x2), .val (.int x3), .val (.int x4), .val (.int x0), .val (.int x3), .val (.ref r100), .val (.ref r101), .val (.ref b102), .val (.ref b105), .val (.int kk), .val (.int (0 : Int32))] [(.int (1 : Int32))]) (fun _ _ A k => XS.goto A hx rfl (pc0 := 128) (pc' := 132) rfl (hb hby at_128) (by decide) (by decide) k) ?_
          exact gretN (t := .boolean) hx hret (by simp) (hb hby at_132) (by decide) (by decide) (fun vq Cq => ⟨rfl, (((((((Keep.refl h0 []).trans K100 all0).trans K101 all0).ext E102).trans K103 (allS (Or.inr (by omega)) all0)).ext E105).trans K106 (allS (Or.inr (by omega)) all0))⟩)
      · refine gs (mkF m 133 #[.val (.int x0), .val (.int x1), .val (.int x2), .val (.int x3), .val (.int x4), .val (.int x0), .val (.int x3), .val (.ref r100), .val (.ref r101), .val (.ref b102), .val (.ref b105), .val (.int kk), .unset] []) (fun _ _ A k => XS.icmpYes A hx rfl (pc0 := 78) (pc' := 133) rfl (hb hby at_78) rfl (flt k1).2.1 (by decide) (by decide) k) ?_
        refine gs (mkF m 135 #[.val (.int x0), .val (.int x1), .val (.int x2), .val (.int x3), .val (.int x4), .val (.int x0), .val (.int x3), .val (.ref r100), .val (.ref r101), .val (.ref b102), .val (.ref b105), .val (.int kk), .unset] [(.int kk)]) (fun _ _ A k => XS.iload A hx rfl (hb hby at_133) rfl  k) ?_
        refine gs (mkF m 136 #[.val (.int x0), .val (.int x1), .val (.int x2), .val (.int x3), .val (.int x4), .val (.int x0), .val (.int x3), .val (.ref r100), .val (.ref r101), .val (.ref b102), .val (.ref b105), .val (.int kk), .unset] [(.int (4 : Int32)), (.int kk)]) (fun _ _ A k => XS.iconst A hx rfl (hb hby at_135) k) ?_
        by_cases k2 : kk = (4 : Int32)
        · refine gs (mkF m 139 #[.val (.int x0), .val (.int x1), .val (.int x2), .val (.int x3), .val (.int x4), .val (.int x0), .val (.int x3), .val (.ref r100), .val (.ref r101), .val (.ref b102), .val (.ref b105), .val (.int kk), .unset] []) (fun _ _ A k => XS.icmpNo A hx rfl (hb hby at_136) rfl (teq k2).2 k) ?_
          refine gs (mkF m 141 #[.val (.int x0), .val (.int x1), .val (.int x2), .val (.int x3), .val (.int x4), .val (.int x0), .val (.int x3), .val (.ref r100), .val (.ref r101), .val (.ref b102), .val (.ref b105), .val (.int kk), .unset] [(.ref b102)]) (fun _ _ A k => XS.aload A hx rfl (hb hby at_139) rfl rfl k) ?_
          refine gs (mkF m 142 #[.val (.int x0), .val (.int x1), .val (.int x2), .val (.int x3), .val (.int x4), .val (.int x0), .val (.int x3), .val (.ref r100), .val (.ref r101), .val (.ref b102), .val (.ref b105), .val (.int kk), .unset] [.null, (.ref b102)]) (fun _ _ A k => XS.aconstNull A hx rfl (hb hby at_141) k) ?_
          refine ginfo fun _ _ O137 => ?_
          have f138 := (((A102.keep K103).ext E105).keep K106)
          refine gcallV (y := (⟨"com/example/tasks_to_members/taskstomembers/core/Task", "equals", "(Ljava/lang/Object;)Z"⟩ : MethodName)) (z := (⟨"com/example/tasks_to_members/taskstomembers/core/Task", "equals", "(Ljava/lang/Object;)Z"⟩ : MethodName)) hx (ow hw 49 rfl) (ow hw 50 rfl) (nfSel (ow hw 52 rfl)) (ow hw 52 rfl) (ow hw 51 rfl) (by decide) (fun hZ H hEL => Pay.of_met (W := 0) (own_teqN l Z a0 cx [] (b102) vm106 h106 O137 ) (ow hw 53 rfl) (ow hw 31 rfl) (by decide) (by decide) hZ H hEL) 145 (argsL := [.null]) (rest := []) f138 (lenOf own_pd157 rfl) rfl rfl (Nat.le_of_eq rfl) (by rw [hml]; rfl) (hb hby at_142) rfl (by decide) (by decide) ?_
          rintro _ vm137 h137 C137 ⟨rfl, rfl⟩
          have z137 := C137.2.1
          refine gat (mkF m 145 #[.val (.int x0), .val (.int x1), .val (.int x2), .val (.int x3), .val (.int x4), .val (.int x0), .val (.int x3), .val (.ref r100), .val (.ref r101), .val (.ref b102), .val (.ref b105), .val (.int kk), .unset] [(.int (0 : Int32))]) rfl ?_
          refine gs (mkF m 148 #[.val (.int x0), .val (.int x1), .val (.int x2), .val (.int x3), .val (.int x4), .val (.int x0), .val (.int x3), .val (.ref r100), .val (.ref r101), .val (.ref b102), .val (.ref b105), .val (.int kk), .unset] []) (fun _ _ A k => XS.ifNo A hx rfl (hb hby at_145) rfl ((if0 _ _).trans (teq (by decide)).2) k) ?_
          refine gs (mkF m 149 #[.val (.int x0), .val (.int x1), .val (.int x2), .val (.int x3), .val (.int x4), .val (.int x0), .val (.int x3), .val (.ref r100), .val (.ref r101), .val (.ref b102), .val (.ref b105), .val (.int kk), .unset] [(.int (1 : Int32))]) (fun _ _ A k => XS.iconst A hx rfl (hb hby at_148) k) ?_
          refine gs (mkF m 153 #[.val (.int x0), .val (.int x1), .val (.int x2), .val (.int x3), .val (.int x4), .val (.int x0), .val (.int x3), .val (.ref r100), .val (.ref r101), .val (.ref b102), .val (.ref b105), .val (.int kk), .unset] [(.int (1 : Int32))]) (fun _ _ A k => XS.goto A hx rfl (pc0 := 149) (pc' := 153) rfl (hb hby at_149) (by decide) (by decide) k) ?_
          exact gretN (t := .boolean) hx hret (by simp) (hb hby at_153) (by decide) (by decide) (fun vq Cq => ⟨rfl, (((((((Keep.refl h0 []).trans K100 all0).trans K101 all0).ext E102).trans K103 (allS (Or.inr (by omega)) all0)).ext E105).trans K106 (allS (Or.inr (by omega)) all0))⟩)
        · refine gs (mkF m 154 #[.val (.int x0), .val (.int x1), .val (.int x2), .val (.int x3), .val (.int x4), .val (.int x0), .val (.int x3), .val (.ref r100), .val (.ref r101), .val (.ref b102), .val (.ref b105), .val (.int kk), .unset] []) (fun _ _ A k => XS.icmpYes A hx rfl (pc0 := 136) (pc' := 154) rfl (hb hby at_136) rfl (feq k2).2 (by decide) (by decide) k) ?_
          refine gs (mkF m 156 #[.val (.int x0), .val (.int x1), .val (.int x2), .val (.int x3), .val (.int x4), .val (.int x0), .val (.int x3), .val (.ref r100), .val (.ref r101), .val (.ref b102), .val (.ref b105), .val (.int kk), .unset] [(.int kk)]) (fun _ _ A k => XS.iload A hx rfl (hb hby at_154) rfl  k) ?_
          refine gs (mkF m 157 #[.val (.int x0), .val (.int x1), .val (.int x2), .val (.int x3), .val (.int x4), .val (.int x0), .val (.int x3), .val (.ref r100), .val (.ref r101), .val (.ref b102), .val (.ref b105), .val (.int kk), .unset] [(.int (5 : Int32)), (.int kk)]) (fun _ _ A k => XS.iconst A hx rfl (hb hby at_156) k) ?_
          by_cases k3 : kk = (5 : Int32)
          · refine gs (mkF m 160 #[.val (.int x0), .val (.int x1), .val (.int x2), .val (.int x3), .val (.int x4), .val (.int x0), .val (.int x3), .val (.ref r100), .val (.ref r101), .val (.ref b102), .val (.ref b105), .val (.int kk), .unset] []) (fun _ _ A k => XS.icmpNo A hx rfl (hb hby at_157) rfl (teq k3).2 k) ?_
            refine gs (mkF m 162 #[.val (.int x0), .val (.int x1), .val (.int x2), .val (.int x3), .val (.int x4), .val (.int x0), .val (.int x3), .val (.ref r100), .val (.ref r101), .val (.ref b102), .val (.ref b105), .val (.int kk), .unset] [(.ref b102)]) (fun _ _ A k => XS.aload A hx rfl (hb hby at_160) rfl rfl k) ?_
            refine gs (mkF m 164 #[.val (.int x0), .val (.int x1), .val (.int x2), .val (.int x3), .val (.int x4), .val (.int x0), .val (.int x3), .val (.ref r100), .val (.ref r101), .val (.ref b102), .val (.ref b105), .val (.int kk), .unset] [(.ref r100), (.ref b102)]) (fun _ _ A k => XS.aload A hx rfl (hb hby at_162) rfl rfl k) ?_
            have f141 := (((f104.keep K103 (ninS (Nat.ne_of_lt (by omega)) nin0) (ninS (Nat.ne_of_lt (by omega)) nin0)).ext E105).keep K106 (ninS (Nat.ne_of_lt (by omega)) nin0) (ninS (Nat.ne_of_lt (by omega)) nin0))
            refine ginfo fun _ _ O140 => ?_
            have f142 := (((A102.keep K103).ext E105).keep K106)
            refine gcallV (y := (⟨"com/example/tasks_to_members/taskstomembers/core/Task", "equals", "(Ljava/lang/Object;)Z"⟩ : MethodName)) (z := (⟨"com/example/tasks_to_members/taskstomembers/core/Task", "equals", "(Ljava/lang/Object;)Z"⟩ : MethodName)) hx (ow hw 49 rfl) (ow hw 50 rfl) (nfSel (ow hw 52 rfl)) (ow hw 52 rfl) (ow hw 51 rfl) (by decide) (fun hZ H hEL => Pay.of_met (W := 0) (own_teqS l Z a0 cx [] (b102) (r100) vm106 h106 O140 f141.1) (ow hw 53 rfl) (ow hw 31 rfl) (by decide) (by decide) hZ H hEL) 167 (argsL := [(.ref r100)]) (rest := []) f142 (lenOf own_pd157 rfl) rfl rfl (Nat.le_of_eq rfl) (by rw [hml]; rfl) (hb hby at_164) rfl (by decide) (by decide) ?_
            rintro _ vm140 h140 C140 ⟨rfl, rfl⟩
            have z140 := C140.2.1
            refine gat (mkF m 167 #[.val (.int x0), .val (.int x1), .val (.int x2), .val (.int x3), .val (.int x4), .val (.int x0), .val (.int x3), .val (.ref r100), .val (.ref r101), .val (.ref b102), .val (.ref b105), .val (.int kk), .unset] [(.int (0 : Int32))]) rfl ?_
            refine gs (mkF m 170 #[.val (.int x0), .val (.int x1), .val (.int x2), .val (.int x3), .val (.int x4), .val (.int x0), .val (.int x3), .val (.ref r100), .val (.ref r101), .val (.ref b102), .val (.ref b105), .val (.int kk), .unset] []) (fun _ _ A k => XS.ifNo A hx rfl (hb hby at_167) rfl ((if0 _ _).trans (teq (by decide)).2) k) ?_
            refine gs (mkF m 171 #[.val (.int x0), .val (.int x1), .val (.int x2), .val (.int x3), .val (.int x4), .val (.int x0), .val (.int x3), .val (.ref r100), .val (.ref r101), .val (.ref b102), .val (.ref b105), .val (.int kk), .unset] [(.int (1 : Int32))]) (fun _ _ A k => XS.iconst A hx rfl (hb hby at_170) k) ?_
            refine gs (mkF m 175 #[.val (.int x0), .val (.int x1), .val (.int x2), .val (.int x3), .val (.int x4), .val (.int x0), .val (.int x3), .val (.ref r100), .val (.ref r101), .val (.ref b102), .val (.ref b105), .val (.int kk), .unset] [(.int (1 : Int32))]) (fun _ _ A k => XS.goto A hx rfl (pc0 := 171) (pc' := 175) rfl (hb hby at_171) (by decide) (by decide) k) ?_
            exact gretN (t := .boolean) hx hret (by simp) (hb hby at_175) (by decide) (by decide) (fun vq Cq => ⟨rfl, (((((((Keep.refl h0 []).trans K100 all0).trans K101 all0).ext E102).trans K103 (allS (Or.inr (by omega)) all0)).ext E105).trans K106 (allS (Or.inr (by omega)) all0))⟩)
          · refine gs (mkF m 176 #[.val (.int x0), .val (.int x1), .val (.int x2), .val (.int x3), .val (.int x4), .val (.int x0), .val (.int x3), .val (.ref r100), .val (.ref r101), .val (.ref b102), .val (.ref b105), .val (.int kk), .unset] []) (fun _ _ A k => XS.icmpYes A hx rfl (pc0 := 157) (pc' := 176) rfl (hb hby at_157) rfl (feq k3).2 (by decide) (by decide) k) ?_
            refine gs (mkF m 178 #[.val (.int x0), .val (.int x1), .val (.int x2), .val (.int x3), .val (.int x4), .val (.int x0), .val (.int x3), .val (.ref r100), .val (.ref r101), .val (.ref b102), .val (.ref b105), .val (.int kk), .unset] [(.int kk)]) (fun _ _ A k => XS.iload A hx rfl (hb hby at_176) rfl  k) ?_
            refine gs (mkF m 180 #[.val (.int x0), .val (.int x1), .val (.int x2), .val (.int x3), .val (.int x4), .val (.int x0), .val (.int x3), .val (.ref r100), .val (.ref r101), .val (.ref b102), .val (.ref b105), .val (.int kk), .unset] [(.int (6 : Int32)), (.int kk)]) (fun _ _ A k => XS.bipush A hx rfl (hb hby at_178) k) ?_
            by_cases k4 : kk = (6 : Int32)
            · refine gs (mkF m 183 #[.val (.int x0), .val (.int x1), .val (.int x2), .val (.int x3), .val (.int x4), .val (.int x0), .val (.int x3), .val (.ref r100), .val (.ref r101), .val (.ref b102), .val (.ref b105), .val (.int kk), .unset] []) (fun _ _ A k => XS.icmpNo A hx rfl (hb hby at_180) rfl (teq k4).2 k) ?_
              refine gs (mkF m 185 #[.val (.int x0), .val (.int x1), .val (.int x2), .val (.int x3), .val (.int x4), .val (.int x0), .val (.int x3), .val (.ref r100), .val (.ref r101), .val (.ref b102), .val (.ref b105), .val (.int kk), .unset] [(.ref b102)]) (fun _ _ A k => XS.aload A hx rfl (hb hby at_183) rfl rfl k) ?_
              refine gs (mkF m 186 #[.val (.int x0), .val (.int x1), .val (.int x2), .val (.int x3), .val (.int x4), .val (.int x0), .val (.int x3), .val (.ref r100), .val (.ref r101), .val (.ref b102), .val (.ref b105), .val (.int kk), .unset] [(.int x2), (.ref b102)]) (fun _ _ A k => XS.iloadN A hx rfl (hb hby at_185) rfl  k) ?_
              refine ginfo fun _ _ O144 => ?_
              refine gcallS (y := (⟨"java/lang/Integer", "valueOf", "(I)Ljava/lang/Integer;"⟩ : MethodName)) hx (ow hw 67 rfl) (ow hw 68 rfl) (ow hw 69 rfl) (ow hw 70 rfl) (by decide) (fun hZ H hEL => Pay.of_met (W := 1) (own_valueOf l Z a0 cx [] (x2) vm106 h106 O144 ) (ow hw 70 rfl) (ow hw 69 rfl) (by decide) (by decide) hZ H hEL) 189 (argsL := [(.int x2)]) (rest := [(.ref b102)]) (lenOf own_pd202 rfl) rfl rfl (Nat.le_of_eq rfl) (by rw [hml]; rfl) (hb hby at_186) rfl (by decide) (by decide) ?_
              rintro _ vm144 h144 C144 ⟨r144, rfl, K144, q144_0⟩
              have z144 := C144.2.1
              have lt_r144 : h144.size > r144 := q144_0.lt
              refine gat (mkF m 189 #[.val (.int x0), .val (.int x1), .val (.int x2), .val (.int x3), .val (.int x4), .val (.int x0), .val (.int x3), .val (.ref r100), .val (.ref r101), .val (.ref b102), .val (.ref b105), .val (.int kk), .unset] [(.ref r144), (.ref b102)]) rfl ?_
              refine ginfo fun _ _ O145 => ?_
              have f146 := ((((A102.keep K103).ext E105).keep K106).keep K144)
              refine gcallV (y := (⟨"com/example/tasks_to_members/taskstomembers/core/Task", "equals", "(Ljava/lang/Object;)Z"⟩ : MethodName)) (z := (⟨"com/example/tasks_to_members/taskstomembers/core/Task", "equals", "(Ljava/lang/Object;)Z"⟩ : MethodName)) hx (ow hw 49 rfl) (ow hw 50 rfl) (nfSel (ow hw 52 rfl)) (ow hw 52 rfl) (ow hw 51 rfl) (by decide) (fun hZ H hEL => Pay.of_met (W := 0) (own_teqI l Z a0 cx [] (b102) (r144) vm144 h144 O145 q144_0) (ow hw 53 rfl) (ow hw 31 rfl) (by decide) (by decide) hZ H hEL) 192 (argsL := [(.ref r144)]) (rest := []) f146 (lenOf own_pd157 rfl) rfl rfl (Nat.le_of_eq rfl) (by rw [hml]; rfl) (hb hby at_189) rfl (by decide) (by decide) ?_
              rintro _ vm145 h145 C145 ⟨rfl, rfl⟩
              have z145 := C145.2.1
              refine gat (mkF m 192 #[.val (.int x0), .val (.int x1), .val (.int x2), .val (.int x3), .val (.int x4), .val (.int x0), .val (.int x3), .val (.ref r100), .val (.ref r101), .val (.ref b102), .val (.ref b105), .val (.int kk), .unset] [(.int (0 : Int32))]) rfl ?_
              refine gs (mkF m 195 #[.val (.int x0), .val (.int x1), .val (.int x2), .val (.int x3), .val (.int x4), .val (.int x0), .val (.int x3), .val (.ref r100), .val (.ref r101), .val (.ref b102), .val (.ref b105), .val (.int kk), .unset] []) (fun _ _ A k => XS.ifNo A hx rfl (hb hby at_192) rfl ((if0 _ _).trans (teq (by decide)).2) k) ?_
              refine gs (mkF m 196 #[.val (.int x0), .val (.int x1), .val (.int x2), .val (.int x3), .val (.int x4), .val (.int x0), .val (.int x3), .val (.ref r100), .val (.ref r101), .val (.ref b102), .val (.ref b105), .val (.int kk), .unset] [(.int (1 : Int32))]) (fun _ _ A k => XS.iconst A hx rfl (hb hby at_195) k) ?_
              refine gs (mkF m 200 #[.val (.int x0), .val (.int x1), .val (.int x2), .val (.int x3), .val (.int x4), .val (.int x0), .val (.int x3), .val (.ref r100), .val (.ref r101), .val (.ref b102), .val (.ref b105), .val (.int kk), .unset] [(.int (1 : Int32))]) (fun _ _ A k => XS.goto A hx rfl (pc0 := 196) (pc' := 200) rfl (hb hby at_196) (by decide) (by decide) k) ?_
              exact gretN (t := .boolean) hx hret (by simp) (hb hby at_200) (by decide) (by decide) (fun vq Cq => ⟨rfl, ((((((((Keep.refl h0 []).trans K100 all0).trans K101 all0).ext E102).trans K103 (allS (Or.inr (by omega)) all0)).ext E105).trans K106 (allS (Or.inr (by omega)) all0)).trans K144 all0)⟩)
            · refine gs (mkF m 201 #[.val (.int x0), .val (.int x1), .val (.int x2), .val (.int x3), .val (.int x4), .val (.int x0), .val (.int x3), .val (.ref r100), .val (.ref r101), .val (.ref b102), .val (.ref b105), .val (.int kk), .unset] []) (fun _ _ A k => XS.icmpYes A hx rfl (pc0 := 180) (pc' := 201) rfl (hb hby at_180) rfl (feq k4).2 (by decide) (by decide) k) ?_
              refine gs (mkF m 203 #[.val (.int x0), .val (.int x1), .val (.int x2), .val (.int x3), .val (.int x4), .val (.int x0), .val (.int x3), .val (.ref r100), .val (.ref r101), .val (.ref b102), .val (.ref b105), .val (.int kk), .unset] [(.ref b102)]) (fun _ _ A k => XS.aload A hx rfl (hb hby at_201) rfl rfl k) ?_
              refine gs (mkF m 205 #[.val (.int x0), .val (.int x1), .val (.int x2), .val (.int x3), .val (.int x4), .val (.int x0), .val (.int x3), .val (.ref r100), .val (.ref r101), .val (.ref b102), .val (.ref b105), .val (.int kk), .unset] [(.ref b102), (.ref b102)]) (fun _ _ A k => XS.aload A hx rfl (hb hby at_203) rfl rfl k) ?_
              have f149 := (((A102.keep K103).ext E105).keep K106)
              have f150 := ((q103_0.ext E105).keep K106 (ninS (Nat.ne_of_lt (by omega)) nin0))
              have f151 := ((q103_1.ext E105).keep K106 (ninS (Nat.ne_of_lt (by omega)) nin0))
              have f152 := (((f104.keep K103 (ninS (Nat.ne_of_lt (by omega)) nin0) (ninS (Nat.ne_of_lt (by omega)) nin0)).ext E105).keep K106 (ninS (Nat.ne_of_lt (by omega)) nin0) (ninS (Nat.ne_of_lt (by omega)) nin0))
              refine ginfo fun _ _ O148 => ?_
              refine gcallV (y := (⟨"com/example/tasks_to_members/taskstomembers/core/Task", "equals", "(Ljava/lang/Object;)Z"⟩ : MethodName)) (z := (⟨"com/example/tasks_to_members/taskstomembers/core/Task", "equals", "(Ljava/lang/Object;)Z"⟩ : MethodName)) hx (ow hw 49 rfl) (ow hw 50 rfl) (nfSel (ow hw 52 rfl)) (ow hw 52 rfl) (ow hw 51 rfl) (by decide) (fun hZ H hEL => Pay.of_met (W := 0) (own_teq l Z a0 cx [] (b102) (b102) (r100) (r100) (x2) (x2) (t100) (t100) ((own_cs x0)) ((own_cs x0)) ((1 : Int32)) vm106 h106 O148 f149 f150 f151 f150 f151 f152 f152 ⟨fun _ => rfl, fun q => absurd ⟨rfl, rfl⟩ q⟩) (ow hw 53 rfl) (ow hw 31 rfl) (by decide) (by decide) hZ H hEL) 208 (argsL := [(.ref b102)]) (rest := []) f149 (lenOf own_pd157 rfl) rfl rfl (Nat.le_of_eq rfl) (by rw [hml]; rfl) (hb hby at_205) rfl (by decide) (by decide) ?_
              rintro _ vm148 h148 C148 ⟨rfl, rfl⟩
              have z148 := C148.2.1
              refine gat (mkF m 208 #[.val (.int x0), .val (.int x1), .val (.int x2), .val (.int x3), .val (.int x4), .val (.int x0), .val (.int x3), .val (.ref r100), .val (.ref r101), .val (.ref b102), .val (.ref b105), .val (.int kk), .unset] [(.int (1 : Int32))]) rfl ?_
              exact gretN (t := .boolean) hx hret (by simp) (hb hby at_208) (by decide) (by decide) (fun vq Cq => ⟨rfl, (((((((Keep.refl h0 []).trans K100 all0).trans K101 all0).ext E102).trans K103 (allS (Or.inr (by omega)) all0)).ext E105).trans K106 (allS (Or.inr (by omega)) all0))⟩)
    · refine gs (mkF m 21 #[.val (.int x0), .val (.int x1), .val (.int x2), .val (.int x3), .val (.int x4), .val (.int x0), .unset, .unset, .unset, .unset, .unset, .unset, .unset] []) (fun _ _ A k => XS.ifNo A hx rfl (hb hby at_18) rfl ((if0 _ _).trans (feq s2).1) k) ?_
      refine gs (mkF m 22 #[.val (.int x0), .val (.int x1), .val (.int x2), .val (.int x3), .val (.int x4), .val (.int x0), .unset, .unset, .unset, .unset, .unset, .unset, .unset] [(.int x2)]) (fun _ _ A k => XS.iloadN A hx rfl (hb hby at_21) rfl  k) ?_
      refine gs (mkF m 26 #[.val (.int x0), .val (.int x1), .val (.int x2), .val (.int x3), .val (.int x4), .val (.int x0), .unset, .unset, .unset, .unset, .unset, .unset, .unset] [(.int x2)]) (fun _ _ A k => XS.goto A hx rfl (pc0 := 22) (pc' := 26) rfl (hb hby at_22) (by decide) (by decide) k) ?_
      refine gs (mkF m 28 #[.val (.int x0), .val (.int x1), .val (.int x2), .val (.int x3), .val (.int x4), .val (.int x0), .val (.int x2), .unset, .unset, .unset, .unset, .unset, .unset] []) (fun _ _ A k => XS.istore A hx rfl (hb hby at_26) rfl (l' := #[.val (.int x0), .val (.int x1), .val (.int x2), .val (.int x3), .val (.int x4), .val (.int x0), .val (.int x2), .unset, .unset, .unset, .unset, .unset, .unset]) rfl k) ?_
      refine gs (mkF m 29 #[.val (.int x0), .val (.int x1), .val (.int x2), .val (.int x3), .val (.int x4), .val (.int x0), .val (.int x2), .unset, .unset, .unset, .unset, .unset, .unset] [(.int x0)]) (fun _ _ A k => XS.iloadN A hx rfl (hb hby at_28) rfl  k) ?_
      refine ginfo fun _ _ O154 => ?_
      refine gcallS (y := (⟨"com/example/tasks_to_members/taskstomembers/core/TaskEqualsPinLaw", "mk", "(I)Ljava/lang/String;"⟩ : MethodName)) hx (ow hw 0 rfl) (ow hw 1 rfl) (ow hw 2 rfl) (ow hw 3 rfl) (by decide) (fun hZ H hEL => Pay.of_met (W := 0) (own_mk l Z a0 cx [] (x0) vm h0 O154 ) (ow hw 3 rfl) (ow hw 2 rfl) (by decide) (by decide) hZ H hEL) 32 (argsL := [(.int x0)]) (rest := []) (lenOf own_pd199 rfl) rfl rfl (Nat.le_of_eq rfl) (by rw [hml]; rfl) (hb hby at_29) rfl (by decide) (by decide) ?_
      rintro _ vm154 h154 C154 ⟨r154, t154, rfl, K154, q154_0⟩
      have z154 := C154.2.1
      have lt_r154 : h154.size > r154 := q154_0.1.lt
      have lt_t154 : h154.size > t154 := q154_0.tlt
      refine gat (mkF m 32 #[.val (.int x0), .val (.int x1), .val (.int x2), .val (.int x3), .val (.int x4), .val (.int x0), .val (.int x2), .unset, .unset, .unset, .unset, .unset, .unset] [(.ref r154)]) rfl ?_
      refine gs (mkF m 34 #[.val (.int x0), .val (.int x1), .val (.int x2), .val (.int x3), .val (.int x4), .val (.int x0), .val (.int x2), .val (.ref r154), .unset, .unset, .unset, .unset, .unset] []) (fun _ _ A k => XS.astore A hx rfl (hb hby at_32) rfl rfl (l' := #[.val (.int x0), .val (.int x1), .val (.int x2), .val (.int x3), .val (.int x4), .val (.int x0), .val (.int x2), .val (.ref r154), .unset, .unset, .unset, .unset, .unset]) rfl k) ?_
      refine gs (mkF m 36 #[.val (.int x0), .val (.int x1), .val (.int x2), .val (.int x3), .val (.int x4), .val (.int x0), .val (.int x2), .val (.ref r154), .unset, .unset, .unset, .unset, .unset] [(.int x0)]) (fun _ _ A k => XS.iload A hx rfl (hb hby at_34) rfl  k) ?_
      refine ginfo fun _ _ O155 => ?_
      refine gcallS (y := (⟨"com/example/tasks_to_members/taskstomembers/core/TaskEqualsPinLaw", "mk", "(I)Ljava/lang/String;"⟩ : MethodName)) hx (ow hw 0 rfl) (ow hw 1 rfl) (ow hw 2 rfl) (ow hw 3 rfl) (by decide) (fun hZ H hEL => Pay.of_met (W := 0) (own_mk l Z a0 cx [] (x0) vm154 h154 O155 ) (ow hw 3 rfl) (ow hw 2 rfl) (by decide) (by decide) hZ H hEL) 39 (argsL := [(.int x0)]) (rest := []) (lenOf own_pd199 rfl) rfl rfl (Nat.le_of_eq rfl) (by rw [hml]; rfl) (hb hby at_36) rfl (by decide) (by decide) ?_
      rintro _ vm155 h155 C155 ⟨r155, t155, rfl, K155, q155_0⟩
      have z155 := C155.2.1
      have lt_r155 : h155.size > r155 := q155_0.1.lt
      have lt_t155 : h155.size > t155 := q155_0.tlt
      refine gat (mkF m 39 #[.val (.int x0), .val (.int x1), .val (.int x2), .val (.int x3), .val (.int x4), .val (.int x0), .val (.int x2), .val (.ref r154), .unset, .unset, .unset, .unset, .unset] [(.ref r155)]) rfl ?_
      refine gs (mkF m 41 #[.val (.int x0), .val (.int x1), .val (.int x2), .val (.int x3), .val (.int x4), .val (.int x0), .val (.int x2), .val (.ref r154), .val (.ref r155), .unset, .unset, .unset, .unset] []) (fun _ _ A k => XS.astore A hx rfl (hb hby at_39) rfl rfl (l' := #[.val (.int x0), .val (.int x1), .val (.int x2), .val (.int x3), .val (.int x4), .val (.int x0), .val (.int x2), .val (.ref r154), .val (.ref r155), .unset, .unset, .unset, .unset]) rfl k) ?_
      refine gnewO hx (ow hw 29 rfl) (ow hw 30 rfl) (ow hw 31 rfl) 44 (hb hby at_41) rfl (by decide) (by decide) ?_
      intro b156 h156 g156 E156 C156 A156 D156 n156 L156
      have z156 := C156.2.1
      have lt_b156 : h156.size > b156 := A156.lt
      have F156_subtopologyId : Fld Z h156 b156 "com/example/tasks_to_members/taskstomembers/core/Task" "subtopologyId" "Ljava/lang/String;" .null := D156 (Or.inr (ow hw 43 rfl)) (ty := (.object "java/lang/String")) (by decide)
      have F156_partition : Fld Z h156 b156 "com/example/tasks_to_members/taskstomembers/core/Task" "partition" "I" (.int (0 : Int32)) := D156 (Or.inr (ow hw 45 rfl)) (ty := .int) (by decide)
      refine gs (mkF m 45 #[.val (.int x0), .val (.int x1), .val (.int x2), .val (.int x3), .val (.int x4), .val (.int x0), .val (.int x2), .val (.ref r154), .val (.ref r155), .unset, .unset, .unset, .unset] [(.ref b156), (.ref b156)]) (fun _ _ A k => XS.dup A hx rfl (hb hby at_44) rfl rfl k) ?_
      refine gs (mkF m 47 #[.val (.int x0), .val (.int x1), .val (.int x2), .val (.int x3), .val (.int x4), .val (.int x0), .val (.int x2), .val (.ref r154), .val (.ref r155), .unset, .unset, .unset, .unset] [(.ref r154), (.ref b156), (.ref b156)]) (fun _ _ A k => XS.aload A hx rfl (hb hby at_45) rfl rfl k) ?_
      refine gs (mkF m 48 #[.val (.int x0), .val (.int x1), .val (.int x2), .val (.int x3), .val (.int x4), .val (.int x0), .val (.int x2), .val (.ref r154), .val (.ref r155), .unset, .unset, .unset, .unset] [(.int x2), (.ref r154), (.ref b156), (.ref b156)]) (fun _ _ A k => XS.iloadN A hx rfl (hb hby at_47) rfl  k) ?_
      have f158 := ((q154_0.keep K155 nin0 nin0).ext E156)
      refine ginfo fun _ _ O157 => ?_
      refine gcallI (y := (⟨"com/example/tasks_to_members/taskstomembers/core/Task", "<init>", "(Ljava/lang/String;I)V"⟩ : MethodName)) hx rfl (ow hw 32 rfl) (ow hw 33 rfl) (ow hw 34 rfl) (by decide) (fun hZ H hEL => Pay.of_met (W := 1) (own_tinit l Z a0 cx [] (b156) (r154) (x2) (.null) ((.int (0 : Int32))) (t154) ((own_cs x0)) vm155 h156 O157 A156 F156_subtopologyId F156_partition n156 f158) (ow hw 34 rfl) (ow hw 31 rfl) (by decide) (by decide) hZ H hEL) (a := b156) 51 (argsL := [(.ref r154), (.int x2)]) (rest := [(.ref b156)]) (lenOf own_pd200 rfl) rfl rfl (Nat.le_of_eq rfl) (by rw [hml]; rfl) (hb hby at_48) rfl (by decide) (by decide) ?_
      rintro _ vm157 h157 C157 ⟨rfl, K157, q157_0, q157_1⟩
      have z157 := C157.2.1
      refine gat (mkF m 51 #[.val (.int x0), .val (.int x1), .val (.int x2), .val (.int x3), .val (.int x4), .val (.int x0), .val (.int x2), .val (.ref r154), .val (.ref r155), .unset, .unset, .unset, .unset] [(.ref b156)]) rfl ?_
      refine gs (mkF m 53 #[.val (.int x0), .val (.int x1), .val (.int x2), .val (.int x3), .val (.int x4), .val (.int x0), .val (.int x2), .val (.ref r154), .val (.ref r155), .val (.ref b156), .unset, .unset, .unset] []) (fun _ _ A k => XS.astore A hx rfl (hb hby at_51) rfl rfl (l' := #[.val (.int x0), .val (.int x1), .val (.int x2), .val (.int x3), .val (.int x4), .val (.int x0), .val (.int x2), .val (.ref r154), .val (.ref r155), .val (.ref b156), .unset, .unset, .unset]) rfl k) ?_
      refine gnewO hx (ow hw 29 rfl) (ow hw 30 rfl) (ow hw 31 rfl) 56 (hb hby at_53) rfl (by decide) (by decide) ?_
      intro b159 h159 g159 E159 C159 A159 D159 n159 L159
      have z159 := C159.2.1
      have lt_b159 : h159.size > b159 := A159.lt
      have F159_subtopologyId : Fld Z h159 b159 "com/example/tasks_to_members/taskstomembers/core/Task" "subtopologyId" "Ljava/lang/String;" .null := D159 (Or.inr (ow hw 43 rfl)) (ty := (.object "java/lang/String")) (by decide)
      have F159_partition : Fld Z h159 b159 "com/example/tasks_to_members/taskstomembers/core/Task" "partition" "I" (.int (0 : Int32)) := D159 (Or.inr (ow hw 45 rfl)) (ty := .int) (by decide)
      refine gs (mkF m 57 #[.val (.int x0), .val (.int x1), .val (.int x2), .val (.int x3), .val (.int x4), .val (.int x0), .val (.int x2), .val (.ref r154), .val (.ref r155), .val (.ref b156), .unset, .unset, .unset] [(.ref b159), (.ref b159)]) (fun _ _ A k => XS.dup A hx rfl (hb hby at_56) rfl rfl k) ?_
      refine gs (mkF m 59 #[.val (.int x0), .val (.int x1), .val (.int x2), .val (.int x3), .val (.int x4), .val (.int x0), .val (.int x2), .val (.ref r154), .val (.ref r155), .val (.ref b156), .unset, .unset, .unset] [(.ref r155), (.ref b159), (.ref b159)]) (fun _ _ A k => XS.aload A hx rfl (hb hby at_57) rfl rfl k) ?_
      refine gs (mkF m 61 #[.val (.int x0), .val (.int x1), .val (.int x2), .val (.int x3), .val (.int x4), .val (.int x0), .val (.int x2), .val (.ref r154), .val (.ref r155), .val (.ref b156), .unset, .unset, .unset] [(.int x2), (.ref r155), (.ref b159), (.ref b159)]) (fun _ _ A k => XS.iload A hx rfl (hb hby at_59) rfl  k) ?_
      have f161 := (((q155_0.ext E156).keep K157 (ninS (Nat.ne_of_lt (by omega)) nin0) (ninS (Nat.ne_of_lt (by omega)) nin0)).ext E159)
      refine ginfo fun _ _ O160 => ?_
      refine gcallI (y := (⟨"com/example/tasks_to_members/taskstomembers/core/Task", "<init>", "(Ljava/lang/String;I)V"⟩ : MethodName)) hx rfl (ow hw 32 rfl) (ow hw 33 rfl) (ow hw 34 rfl) (by decide) (fun hZ H hEL => Pay.of_met (W := 1) (own_tinit l Z a0 cx [] (b159) (r155) (x2) (.null) ((.int (0 : Int32))) (t155) ((own_cs x0)) vm157 h159 O160 A159 F159_subtopologyId F159_partition n159 f161) (ow hw 34 rfl) (ow hw 31 rfl) (by decide) (by decide) hZ H hEL) (a := b159) 64 (argsL := [(.ref r155), (.int x2)]) (rest := [(.ref b159)]) (lenOf own_pd200 rfl) rfl rfl (Nat.le_of_eq rfl) (by rw [hml]; rfl) (hb hby at_61) rfl (by decide) (by decide) ?_
      rintro _ vm160 h160 C160 ⟨rfl, K160, q160_0, q160_1⟩
      have z160 := C160.2.1
      refine gat (mkF m 64 #[.val (.int x0), .val (.int x1), .val (.int x2), .val (.int x3), .val (.int x4), .val (.int x0), .val (.int x2), .val (.ref r154), .val (.ref r155), .val (.ref b156), .unset, .unset, .unset] [(.ref b159)]) rfl ?_
      refine gs (mkF m 66 #[.val (.int x0), .val (.int x1), .val (.int x2), .val (.int x3), .val (.int x4), .val (.int x0), .val (.int x2), .val (.ref r154), .val (.ref r155), .val (.ref b156), .val (.ref b159), .unset, .unset] []) (fun _ _ A k => XS.astore A hx rfl (hb hby at_64) rfl rfl (l' := #[.val (.int x0), .val (.int x1), .val (.int x2), .val (.int x3), .val (.int x4), .val (.int x0), .val (.int x2), .val (.ref r154), .val (.ref r155), .val (.ref b156), .val (.ref b159), .unset, .unset]) rfl k) ?_
      refine gs (mkF m 68 #[.val (.int x0), .val (.int x1), .val (.int x2), .val (.int x3), .val (.int x4), .val (.int x0), .val (.int x2), .val (.ref r154), .val (.ref r155), .val (.ref b156), .val (.ref b159), .unset, .unset] [(.int x4)]) (fun _ _ A k => XS.iload A hx rfl (hb hby at_66) rfl  k) ?_
      refine gs (mkF m 69 #[.val (.int x0), .val (.int x1), .val (.int x2), .val (.int x3), .val (.int x4), .val (.int x0), .val (.int x2), .val (.ref r154), .val (.ref r155), .val (.ref b156), .val (.ref b159), .unset, .unset] [(.int (2 : Int32)), (.int x4)]) (fun _ _ A k => XS.iconst A hx rfl (hb hby at_68) k) ?_
      refine gs (mkF m 70 #[.val (.int x0), .val (.int x1), .val (.int x2), .val (.int x3), .val (.int x4), .val (.int x0), .val (.int x2), .val (.ref r154), .val (.ref r155), .val (.ref b156), .val (.ref b159), .unset, .unset] [(.int ((x4.toUInt32 >>> ((2 : Int32) &&& 31).toUInt32).toInt32))]) (fun _ _ A k => XS.iushr A hx rfl (hb hby at_69) rfl k) ?_
      refine gs (mkF m 72 #[.val (.int x0), .val (.int x1), .val (.int x2), .val (.int x3), .val (.int x4), .val (.int x0), .val (.int x2), .val (.ref r154), .val (.ref r155), .val (.ref b156), .val (.ref b159), .unset, .unset] [(.int (7 : Int32)), (.int ((x4.toUInt32 >>> ((2 : Int32) &&& 31).toUInt32).toInt32))]) (fun _ _ A k => XS.bipush A hx rfl (hb hby at_70) k) ?_
      refine gs (mkF m 73 #[.val (.int x0), .val (.int x1), .val (.int x2), .val (.int x3), .val (.int x4), .val (.int x0), .val (.int x2), .val (.ref r154), .val (.ref r155), .val (.ref b156), .val (.ref b159), .unset, .unset] [(.int (((x4.toUInt32 >>> ((2 : Int32) &&& 31).toUInt32).toInt32) &&& (7 : Int32)))]) (fun _ _ A k => XS.iand A hx rfl (hb hby at_72) rfl k) ?_
      refine gs (mkF m 75 #[.val (.int x0), .val (.int x1), .val (.int x2), .val (.int x3), .val (.int x4), .val (.int x0), .val (.int x2), .val (.ref r154), .val (.ref r155), .val (.ref b156), .val (.ref b159), .val (.int (((x4.toUInt32 >>> ((2 : Int32) &&& 31).toUInt32).toInt32) &&& (7 : Int32))), .unset] []) (fun _ _ A k => XS.istore A hx rfl (hb hby at_73) rfl (l' := #[.val (.int x0), .val (.int x1), .val (.int x2), .val (.int x3), .val (.int x4), .val (.int x0), .val (.int x2), .val (.ref r154), .val (.ref r155), .val (.ref b156), .val (.ref b159), .val (.int (((x4.toUInt32 >>> ((2 : Int32) &&& 31).toUInt32).toInt32) &&& (7 : Int32))), .unset]) rfl k) ?_
      obtain ⟨kk, ek⟩ : ∃ kk, kk = (((x4.toUInt32 >>> ((2 : Int32) &&& 31).toUInt32).toInt32) &&& (7 : Int32)) := ⟨_, rfl⟩
      rw [← ek]
      refine gs (mkF m 77 #[.val (.int x0), .val (.int x1), .val (.int x2), .val (.int x3), .val (.int x4), .val (.int x0), .val (.int x2), .val (.ref r154), .val (.ref r155), .val (.ref b156), .val (.ref b159), .val (.int kk), .unset] [(.int kk)]) (fun _ _ A k => XS.iload A hx rfl (hb hby at_75) rfl  k) ?_
      refine gs (mkF m 78 #[.val (.int x0), .val (.int x1), .val (.int x2), .val (.int x3), .val (.int x4), .val (.int x0), .val (.int x2), .val (.ref r154), .val (.ref r155), .val (.ref b156), .val (.ref b159), .val (.int kk), .unset] [(.int (4 : Int32)), (.int kk)]) (fun _ _ A k => XS.iconst A hx rfl (hb hby at_77) k) ?_
      by_cases k1 : kk < (4 : Int32)
      · refine gs (mkF m 81 #[.val (.int x0), .val (.int x1), .val (.int x2), .val (.int x3), .val (.int x4), .val (.int x0), .val (.int x2), .val (.ref r154), .val (.ref r155), .val (.ref b156), .val (.ref b159), .val (.int kk), .unset] []) (fun _ _ A k => XS.icmpNo A hx rfl (hb hby at_78) rfl (tlt k1).2.1 k) ?_
        refine gs (mkF m 82 #[.val (.int x0), .val (.int x1), .val (.int x2), .val (.int x3), .val (.int x4), .val (.int x0), .val (.int x2), .val (.ref r154), .val (.ref r155), .val (.ref b156), .val (.ref b159), .val (.int kk), .unset] [(.int x0)]) (fun _ _ A k => XS.iloadN A hx rfl (hb hby at_81) rfl  k) ?_
        refine gs (mkF m 84 #[.val (.int x0), .val (.int x1), .val (.int x2), .val (.int x3), .val (.int x4), .val (.int x0), .val (.int x2), .val (.ref r154), .val (.ref r155), .val (.ref b156), .val (.ref b159), .val (.int kk), .unset] [(.int x0), (.int x0)]) (fun _ _ A k => XS.iload A hx rfl (hb hby at_82) rfl  k) ?_
        by_cases e1 : own_cs (x0) = own_cs (x0)
        · refine ginfo fun _ _ O162 => ?_
          refine gcallS (y := (⟨"com/example/tasks_to_members/taskstomembers/core/TaskEqualsPinLaw", "sameId", "(II)Z"⟩ : MethodName)) hx (ow hw 46 rfl) (ow hw 47 rfl) (ow hw 2 rfl) (ow hw 48 rfl) (by decide) (fun hZ H hEL => Pay.of_met (W := 0) (own_sameId l Z a0 cx [] (x0) (x0) ((1 : Int32)) vm160 h160 O162 ⟨fun _ => rfl, fun q => absurd e1 q⟩) (ow hw 48 rfl) (ow hw 2 rfl) (by decide) (by decide) hZ H hEL) 87 (argsL := [(.int x0), (.int x0)]) (rest := []) (lenOf own_pd201 rfl) rfl rfl (Nat.le_of_eq rfl) (by rw [hml]; rfl) (hb hby at_84) rfl (by decide) (by decide) ?_
          rintro _ vm162 h162 C162 ⟨rfl, rfl⟩
          have z162 := C162.2.1
          refine gat (mkF m 87 #[.val (.int x0), .val (.int x1), .val (.int x2), .val (.int x3), .val (.int x4), .val (.int x0), .val (.int x2), .val (.ref r154), .val (.ref r155), .val (.ref b156), .val (.ref b159), .val (.int kk), .unset] [(.int (1 : Int32))]) rfl ?_
          refine gs (mkF m 90 #[.val (.int x0), .val (.int x1), .val (.int x2), .val (.int x3), .val (.int x4), .val (.int x0), .val (.int x2), .val (.ref r154), .val (.ref r155), .val (.ref b156), .val (.ref b159), .val (.int kk), .unset] []) (fun _ _ A k => XS.ifNo A hx rfl (hb hby at_87) rfl ((if0 _ _).trans (feq (by decide)).1) k) ?_
          refine gs (mkF m 91 #[.val (.int x0), .val (.int x1), .val (.int x2), .val (.int x3), .val (.int x4), .val (.int x0), .val (.int x2), .val (.ref r154), .val (.ref r155), .val (.ref b156), .val (.ref b159), .val (.int kk), .unset] [(.int x2)]) (fun _ _ A k => XS.iloadN A hx rfl (hb hby at_90) rfl  k) ?_
          refine gs (mkF m 93 #[.val (.int x0), .val (.int x1), .val (.int x2), .val (.int x3), .val (.int x4), .val (.int x0), .val (.int x2), .val (.ref r154), .val (.ref r155), .val (.ref b156), .val (.ref b159), .val (.int kk), .unset] [(.int x2), (.int x2)]) (fun _ _ A k => XS.iload A hx rfl (hb hby at_91) rfl  k) ?_
          have e2 : x2 = x2 := rfl
          refine gs (mkF m 96 #[.val (.int x0), .val (.int x1), .val (.int x2), .val (.int x3), .val (.int x4), .val (.int x0), .val (.int x2), .val (.ref r154), .val (.ref r155), .val (.ref b156), .val (.ref b159), .val (.int kk), .unset] []) (fun _ _ A k => XS.icmpNo A hx rfl (hb hby at_93) rfl (teq rfl).2 k) ?_
          refine gs (mkF m 97 #[.val (.int x0), .val (.int x1), .val (.int x2), .val (.int x3), .val (.int x4), .val (.int x0), .val (.int x2), .val (.ref r154), .val (.ref r155), .val (.ref b156), .val (.ref b159), .val (.int kk), .unset] [(.int (1 : Int32))]) (fun _ _ A k => XS.iconst A hx rfl (hb hby at_96) k) ?_
          refine gs (mkF m 101 #[.val (.int x0), .val (.int x1), .val (.int x2), .val (.int x3), .val (.int x4), .val (.int x0), .val (.int x2), .val (.ref r154), .val (.ref r155), .val (.ref b156), .val (.ref b159), .val (.int kk), .unset] [(.int (1 : Int32))]) (fun _ _ A k => XS.goto A hx rfl (pc0 := 97) (pc' := 101) rfl (hb hby at_97) (by decide) (by decide) k) ?_
          refine gs (mkF m 103 #[.val (.int x0), .val (.int x1), .val (.int x2), .val (.int x3), .val (.int x4), .val (.int x0), .val (.int x2), .val (.ref r154), .val (.ref r155), .val (.ref b156), .val (.ref b159), .val (.int kk), .val (.int (1 : Int32))] []) (fun _ _ A k => XS.istore A hx rfl (hb hby at_101) rfl (l' := #[.val (.int x0), .val (.int x1), .val (.int x2), .val (.int x3), .val (.int x4), .val (.int x0), .val (.int x2), .val (.ref r154), .val (.ref r155), .val (.ref b156), .val (.ref b159), .val (.int kk), .val (.int (1 : Int32))]) rfl k) ?_
          refine gs (mkF m 105 #[.val (.int x0), .val (.int x1), .val (.int x2), .val (.int x3), .val (.int x4), .val (.int x0), .val (.int x2), .val (.ref r154), .val (.ref r155), .val (.ref b156), .val (.ref b159), .val (.int kk), .val (.int (1 : Int32))] [(.ref b156)]) (fun _ _ A k => XS.aload A hx rfl (hb hby at_103) rfl rfl k) ?_
          refine gs (mkF m 107 #[.val (.int x0), .val (.int x1), .val (.int x2), .val (.int x3), .val (.int x4), .val (.int x0), .val (.int x2), .val (.ref r154), .val (.ref r155), .val (.ref b156), .val (.ref b159), .val (.int kk), .val (.int (1 : Int32))] [(.ref b159), (.ref b156)]) (fun _ _ A k => XS.aload A hx rfl (hb hby at_105) rfl rfl k) ?_
          have f164 := (A159.keep K160)
          have f165 := ((q157_0.ext E159).keep K160 (ninS (Nat.ne_of_lt (by omega)) nin0))
          have f166 := ((q157_1.ext E159).keep K160 (ninS (Nat.ne_of_lt (by omega)) nin0))
          have f167 := (((f158.keep K157 (ninS (Nat.ne_of_lt (by omega)) nin0) (ninS (Nat.ne_of_lt (by omega)) nin0)).ext E159).keep K160 (ninS (Nat.ne_of_lt (by omega)) nin0) (ninS (Nat.ne_of_lt (by omega)) nin0))
          have f168 := (f161.keep K160 (ninS (Nat.ne_of_lt (by omega)) nin0) (ninS (Nat.ne_of_lt (by omega)) nin0))
          refine ginfo fun _ _ O163 => ?_
          have f169 := (((A156.keep K157).ext E159).keep K160)
          refine gcallV (y := (⟨"com/example/tasks_to_members/taskstomembers/core/Task", "equals", "(Ljava/lang/Object;)Z"⟩ : MethodName)) (z := (⟨"com/example/tasks_to_members/taskstomembers/core/Task", "equals", "(Ljava/lang/Object;)Z"⟩ : MethodName)) hx (ow hw 49 rfl) (ow hw 50 rfl) (nfSel (ow hw 52 rfl)) (ow hw 52 rfl) (ow hw 51 rfl) (by decide) (fun hZ H hEL => Pay.of_met (W := 0) (own_teq l Z a0 cx [] (b156) (b159) (r154) (r155) (x2) (x2) (t154) (t155) ((own_cs x0)) ((own_cs x0)) ((1 : Int32)) vm162 h160 O163 f164 f165 f166 q160_0 q160_1 f167 f168 ⟨fun _ => rfl, fun q => absurd ⟨e1, e2⟩ q⟩) (ow hw 53 rfl) (ow hw 31 rfl) (by decide) (by decide) hZ H hEL) 110 (argsL := [(.ref b159)]) (rest := []) f169 (lenOf own_pd157 rfl) rfl rfl (Nat.le_of_eq rfl) (by rw [hml]; rfl) (hb hby at_107) rfl (by decide) (by decide) ?_
          rintro _ vm163 h163 C163 ⟨rfl, rfl⟩
          have z163 := C163.2.1
          refine gat (mkF m 110 #[.val (.int x0), .val (.int x1), .val (.int x2), .val (.int x3), .val (.int x4), .val (.int x0), .val (.int x2), .val (.ref r154), .val (.ref r155), .val (.ref b156), .val (.ref b159), .val (.int kk), .val (.int (1 : Int32))] [(.int (1 : Int32))]) rfl ?_
          refine gs (mkF m 112 #[.val (.int x0), .val (.int x1), .val (.int x2), .val (.int x3), .val (.int x4), .val (.int x0), .val (.int x2), .val (.ref r154), .val (.ref r155), .val (.ref b156), .val (.ref b159), .val (.int kk), .val (.int (1 : Int32))] [(.int (1 : Int32)), (.int (1 : Int32))]) (fun _ _ A k => XS.iload A hx rfl (hb hby at_110) rfl  k) ?_
          refine gs (mkF m 115 #[.val (.int x0), .val (.int x1), .val (.int x2), .val (.int x3), .val (.int x4), .val (.int x0), .val (.int x2), .val (.ref r154), .val (.ref r155), .val (.ref b156), .val (.ref b159), .val (.int kk), .val (.int (1 : Int32))] []) (fun _ _ A k => XS.icmpNo A hx rfl (hb hby at_112) rfl (teq (by decide)).2 k) ?_
          refine gs (mkF m 117 #[.val (.int x0), .val (.int x1), .val (.int x2), .val (.int x3), .val (.int x4), .val (.int x0), .val (.int x2), .val (.ref r154), .val (.ref r155), .val (.ref b156), .val (.ref b159), .val (.int kk), .val (.int (1 : Int32))] [(.ref b159)]) (fun _ _ A k => XS.aload A hx rfl (hb hby at_115) rfl rfl k) ?_
          refine gs (mkF m 119 #[.val (.int x0), .val (.int x1), .val (.int x2), .val (.int x3), .val (.int x4), .val (.int x0), .val (.int x2), .val (.ref r154), .val (.ref r155), .val (.ref b156), .val (.ref b159), .val (.int kk), .val (.int (1 : Int32))] [(.ref b156), (.ref b159)]) (fun _ _ A k => XS.aload A hx rfl (hb hby at_117) rfl rfl k) ?_
          refine ginfo fun _ _ O170 => ?_
          refine gcallV (y := (⟨"com/example/tasks_to_members/taskstomembers/core/Task", "equals", "(Ljava/lang/Object;)Z"⟩ : MethodName)) (z := (⟨"com/example/tasks_to_members/taskstomembers/core/Task", "equals", "(Ljava/lang/Object;)Z"⟩ : MethodName)) hx (ow hw 49 rfl) (ow hw 50 rfl) (nfSel (ow hw 52 rfl)) (ow hw 52 rfl) (ow hw 51 rfl) (by decide) (fun hZ H hEL => Pay.of_met (W := 0) (own_teq l Z a0 cx [] (b159) (b156) (r155) (r154) (x2) (x2) (t155) (t154) ((own_cs x0)) ((own_cs x0)) ((1 : Int32)) vm163 h160 O170 f169 q160_0 q160_1 f165 f166 f168 f167 ⟨fun _ => rfl, fun q => absurd ⟨Eq.symm e1, Eq.symm e2⟩ q⟩) (ow hw 53 rfl) (ow hw 31 rfl) (by decide) (by decide) hZ H hEL) 122 (argsL := [(.ref b156)]) (rest := []) f164 (lenOf own_pd157 rfl) rfl rfl (Nat.le_of_eq rfl) (by rw [hml]; rfl) (hb hby at_119) rfl (by decide) (by decide) ?_
          rintro _ vm170 h170 C170 ⟨rfl, rfl⟩
          have z170 := C170.2.1
          refine gat (mkF m 122 #[.val (.int x0), .val (.int x1), .val (.int x2), .val (.int x3), .val (.int x4), .val (.int x0), .val (.int x2), .val (.ref r154), .val (.ref r155), .val (.ref b156), .val (.ref b159), .val (.int kk), .val (.int (1 : Int32))] [(.int (1 : Int32))]) rfl ?_
          refine gs (mkF m 124 #[.val (.int x0), .val (.int x1), .val (.int x2), .val (.int x3), .val (.int x4), .val (.int x0), .val (.int x2), .val (.ref r154), .val (.ref r155), .val (.ref b156), .val (.ref b159), .val (.int kk), .val (.int (1 : Int32))] [(.int (1 : Int32)), (.int (1 : Int32))]) (fun _ _ A k => XS.iload A hx rfl (hb hby at_122) rfl  k) ?_
          refine gs (mkF m 127 #[.val (.int x0), .val (.int x1), .val (.int x2), .val (.int x3), .val (.int x4), .val (.int x0), .val (.int x2), .val (.ref r154), .val (.ref r155), .val (.ref b156), .val (.ref b159), .val (.int kk), .val (.int (1 : Int32))] []) (fun _ _ A k => XS.icmpNo A hx rfl (hb hby at_124) rfl (teq (by decide)).2 k) ?_
          refine gs (mkF m 128 #[.val (.int x0), .val (.int x1), .val (.int x2), .val (.int x3), .val (.int x4), .val (.int x0), .val (.int x2), .val (.ref r154), .val (.ref r155), .val (.ref b156), .val (.ref b159), .val (.int kk), .val (.int (1 : Int32))] [(.int (1 : Int32))]) (fun _ _ A k => XS.iconst A hx rfl (hb hby at_127) k) ?_
          refine gs (mkF m 132 #[.val (.int x0), .val (.int x1), .val (.int x2), .val (.int x3), .val (.int x4), .val (.int x0), .val (.int x2), .val (.ref r154), .val (.ref r155), .val (.ref b156), .val (.ref b159), .val (.int kk), .val (.int (1 : Int32))] [(.int (1 : Int32))]) (fun _ _ A k => XS.goto A hx rfl (pc0 := 128) (pc' := 132) rfl (hb hby at_128) (by decide) (by decide) k) ?_
          exact gretN (t := .boolean) hx hret (by simp) (hb hby at_132) (by decide) (by decide) (fun vq Cq => ⟨rfl, (((((((Keep.refl h0 []).trans K154 all0).trans K155 all0).ext E156).trans K157 (allS (Or.inr (by omega)) all0)).ext E159).trans K160 (allS (Or.inr (by omega)) all0))⟩)
        · refine ginfo fun _ _ O172 => ?_
          refine gcallS (y := (⟨"com/example/tasks_to_members/taskstomembers/core/TaskEqualsPinLaw", "sameId", "(II)Z"⟩ : MethodName)) hx (ow hw 46 rfl) (ow hw 47 rfl) (ow hw 2 rfl) (ow hw 48 rfl) (by decide) (fun hZ H hEL => Pay.of_met (W := 0) (own_sameId l Z a0 cx [] (x0) (x0) ((0 : Int32)) vm160 h160 O172 ⟨fun q => absurd q e1, fun _ => rfl⟩) (ow hw 48 rfl) (ow hw 2 rfl) (by decide) (by decide) hZ H hEL) 87 (argsL := [(.int x0), (.int x0)]) (rest := []) (lenOf own_pd201 rfl) rfl rfl (Nat.le_of_eq rfl) (by rw [hml]; rfl) (hb hby at_84) rfl (by decide) (by decide) ?_
          rintro _ vm172 h172 C172 ⟨rfl, rfl⟩
          have z172 := C172.2.1
          refine gat (mkF m 87 #[.val (.int x0), .val (.int x1), .val (.int x2), .val (.int x3), .val (.int x4), .val (.int x0), .val (.int x2), .val (.ref r154), .val (.ref r155), .val (.ref b156), .val (.ref b159), .val (.int kk), .unset] [(.int (0 : Int32))]) rfl ?_
          refine gs (mkF m 100 #[.val (.int x0), .val (.int x1), .val (.int x2), .val (.int x3), .val (.int x4), .val (.int x0), .val (.int x2), .val (.ref r154), .val (.ref r155), .val (.ref b156), .val (.ref b159), .val (.int kk), .unset] []) (fun _ _ A k => XS.ifYes A hx rfl (pc0 := 87) (pc' := 100) rfl (hb hby at_87) rfl ((if0 _ _).trans (teq (by decide)).1) (by decide) (by decide) k) ?_
          refine gs (mkF m 101 #[.val (.int x0), .val (.int x1), .val (.int x2), .val (.int x3), .val (.int x4), .val (.int x0), .val (.int x2), .val (.ref r154), .val (.ref r155), .val (.ref b156), .val (.ref b159), .val (.int kk), .unset] [(.int (0 : Int32))]) (fun _ _ A k => XS.iconst A hx rfl (hb hby at_100) k) ?_
          refine gs (mkF m 103 #[.val (.int x0), .val (.int x1), .val (.int x2), .val (.int x3), .val (.int x4), .val (.int x0), .val (.int x2), .val (.ref r154), .val (.ref r155), .val (.ref b156), .val (.ref b159), .val (.int kk), .val (.int (0 : Int32))] []) (fun _ _ A k => XS.istore A hx rfl (hb hby at_101) rfl (l' := #[.val (.int x0), .val (.int x1), .val (.int x2), .val (.int x3), .val (.int x4), .val (.int x0), .val (.int x2), .val (.ref r154), .val (.ref r155), .val (.ref b156), .val (.ref b159), .val (.int kk), .val (.int (0 : Int32))]) rfl k) ?_
          refine gs (mkF m 105 #[.val (.int x0), .val (.int x1), .val (.int x2), .val (.int x3), .val (.int x4), .val (.int x0), .val (.int x2), .val (.ref r154), .val (.ref r155), .val (.ref b156), .val (.ref b159), .val (.int kk), .val (.int (0 : Int32))] [(.ref b156)]) (fun _ _ A k => XS.aload A hx rfl (hb hby at_103) rfl rfl k) ?_
          refine gs (mkF m 107 #[.val (.int x0), .val (.int x1), .val (.int x2), .val (.int x3), .val (.int x4), .val (.int x0), .val (.int x2), .val (.ref r154), .val (.ref r155), .val (.ref b156), .val (.ref b159), .val (.int kk), .val (.int (0 : Int32))] [(.ref b159), (.ref b156)]) (fun _ _ A k => XS.aload A hx rfl (hb hby at_105) rfl rfl k) ?_
          have f174 := (A159.keep K160)
          have f175 := ((q157_0.ext E159).keep K160 (ninS (Nat.ne_of_lt (by omega)) nin0))
          have f176 := ((q157_1.ext E159).keep K160 (ninS (Nat.ne_of_lt (by omega)) nin0))
          have f177 := (((f158.keep K157 (ninS (Nat.ne_of_lt (by omega)) nin0) (ninS (Nat.ne_of_lt (by omega)) nin0)).ext E159).keep K160 (ninS (Nat.ne_of_lt (by omega)) nin0) (ninS (Nat.ne_of_lt (by omega)) nin0))
          have f178 := (f161.keep K160 (ninS (Nat.ne_of_lt (by omega)) nin0) (ninS (Nat.ne_of_lt (by omega)) nin0))
          refine ginfo fun _ _ O173 => ?_
          have f179 := (((A156.keep K157).ext E159).keep K160)
          refine gcallV (y := (⟨"com/example/tasks_to_members/taskstomembers/core/Task", "equals", "(Ljava/lang/Object;)Z"⟩ : MethodName)) (z := (⟨"com/example/tasks_to_members/taskstomembers/core/Task", "equals", "(Ljava/lang/Object;)Z"⟩ : MethodName)) hx (ow hw 49 rfl) (ow hw 50 rfl) (nfSel (ow hw 52 rfl)) (ow hw 52 rfl) (ow hw 51 rfl) (by decide) (fun hZ H hEL => Pay.of_met (W := 0) (own_teq l Z a0 cx [] (b156) (b159) (r154) (r155) (x2) (x2) (t154) (t155) ((own_cs x0)) ((own_cs x0)) ((0 : Int32)) vm172 h160 O173 f174 f175 f176 q160_0 q160_1 f177 f178 ⟨fun q => absurd (q.1) e1, fun _ => rfl⟩) (ow hw 53 rfl) (ow hw 31 rfl) (by decide) (by decide) hZ H hEL) 110 (argsL := [(.ref b159)]) (rest := []) f179 (lenOf own_pd157 rfl) rfl rfl (Nat.le_of_eq rfl) (by rw [hml]; rfl) (hb hby at_107) rfl (by decide) (by decide) ?_
          rintro _ vm173 h173 C173 ⟨rfl, rfl⟩
          have z173 := C173.2.1
          refine gat (mkF m 110 #[.val (.int x0), .val (.int x1), .val (.int x2), .val (.int x3), .val (.int x4), .val (.int x0), .val (.int x2), .val (.ref r154), .val (.ref r155), .val (.ref b156), .val (.ref b159), .val (.int kk), .val (.int (0 : Int32))] [(.int (0 : Int32))]) rfl ?_
          refine gs (mkF m 112 #[.val (.int x0), .val (.int x1), .val (.int x2), .val (.int x3), .val (.int x4), .val (.int x0), .val (.int x2), .val (.ref r154), .val (.ref r155), .val (.ref b156), .val (.ref b159), .val (.int kk), .val (.int (0 : Int32))] [(.int (0 : Int32)), (.int (0 : Int32))]) (fun _ _ A k => XS.iload A hx rfl (hb hby at_110) rfl  k) ?_
          refine gs (mkF m 115 #[.val (.int x0), .val (.int x1), .val (.int x2), .val (.int x3), .val (.int x4), .val (.int x0), .val (.int x2), .val (.ref r154), .val (.ref r155), .val (.ref b156), .val (.ref b159), .val (.int kk), .val (.int (0 : Int32))] []) (fun _ _ A k => XS.icmpNo A hx rfl (hb hby at_112) rfl (teq (by decide)).2 k) ?_
          refine gs (mkF m 117 #[.val (.int x0), .val (.int x1), .val (.int x2), .val (.int x3), .val (.int x4), .val (.int x0), .val (.int x2), .val (.ref r154), .val (.ref r155), .val (.ref b156), .val (.ref b159), .val (.int kk), .val (.int (0 : Int32))] [(.ref b159)]) (fun _ _ A k => XS.aload A hx rfl (hb hby at_115) rfl rfl k) ?_
          refine gs (mkF m 119 #[.val (.int x0), .val (.int x1), .val (.int x2), .val (.int x3), .val (.int x4), .val (.int x0), .val (.int x2), .val (.ref r154), .val (.ref r155), .val (.ref b156), .val (.ref b159), .val (.int kk), .val (.int (0 : Int32))] [(.ref b156), (.ref b159)]) (fun _ _ A k => XS.aload A hx rfl (hb hby at_117) rfl rfl k) ?_
          refine ginfo fun _ _ O180 => ?_
          refine gcallV (y := (⟨"com/example/tasks_to_members/taskstomembers/core/Task", "equals", "(Ljava/lang/Object;)Z"⟩ : MethodName)) (z := (⟨"com/example/tasks_to_members/taskstomembers/core/Task", "equals", "(Ljava/lang/Object;)Z"⟩ : MethodName)) hx (ow hw 49 rfl) (ow hw 50 rfl) (nfSel (ow hw 52 rfl)) (ow hw 52 rfl) (ow hw 51 rfl) (by decide) (fun hZ H hEL => Pay.of_met (W := 0) (own_teq l Z a0 cx [] (b159) (b156) (r155) (r154) (x2) (x2) (t155) (t154) ((own_cs x0)) ((own_cs x0)) ((0 : Int32)) vm173 h160 O180 f179 q160_0 q160_1 f175 f176 f178 f177 ⟨fun q => absurd (Eq.symm q.1) e1, fun _ => rfl⟩) (ow hw 53 rfl) (ow hw 31 rfl) (by decide) (by decide) hZ H hEL) 122 (argsL := [(.ref b156)]) (rest := []) f174 (lenOf own_pd157 rfl) rfl rfl (Nat.le_of_eq rfl) (by rw [hml]; rfl) (hb hby at_119) rfl (by decide) (by decide) ?_
          rintro _ vm180 h180 C180 ⟨rfl, rfl⟩
          have z180 := C180.2.1
          refine gat (mkF m 122 #[.val (.int x0), .val (.int x1), .val (.int x2), .val (.int x3), .val (.int x4), .val (.int x0), .val (.int x2), .val (.ref r154), .val (.ref r155), .val (.ref b156), .val (.ref b159), .val (.int kk), .val (.int (0 : Int32))] [(.int (0 : Int32))]) rfl ?_
          refine gs (mkF m 124 #[.val (.int x0), .val (.int x1), .val (.int x2), .val (.int x3), .val (.int x4), .val (.int x0), .val (.int x2), .val (.ref r154), .val (.ref r155), .val (.ref b156), .val (.ref b159), .val (.int kk), .val (.int (0 : Int32))] [(.int (0 : Int32)), (.int (0 : Int32))]) (fun _ _ A k => XS.iload A hx rfl (hb hby at_122) rfl  k) ?_
          refine gs (mkF m 127 #[.val (.int x0), .val (.int x1), .val (.int x2), .val (.int x3), .val (.int x4), .val (.int x0), .val (.int x2), .val (.ref r154), .val (.ref r155), .val (.ref b156), .val (.ref b159), .val (.int kk), .val (.int (0 : Int32))] []) (fun _ _ A k => XS.icmpNo A hx rfl (hb hby at_124) rfl (teq (by decide)).2 k) ?_
          refine gs (mkF m 128 #[.val (.int x0), .val (.int x1), .val (.int x2), .val (.int x3), .val (.int x4), .val (.int x0), .val (.int x2), .val (.ref r154), .val (.ref r155), .val (.ref b156), .val (.ref b159), .val (.int kk), .val (.int (0 : Int32))] [(.int (1 : Int32))]) (fun _ _ A k => XS.iconst A hx rfl (hb hby at_127) k) ?_
          refine gs (mkF m 132 #[.val (.int x0), .val (.int x1), .val (.int x2), .val (.int x3), .val (.int x4), .val (.int x0), .val (.int x2), .val (.ref r154), .val (.ref r155), .val (.ref b156), .val (.ref b159), .val (.int kk), .val (.int (0 : Int32))] [(.int (1 : Int32))]) (fun _ _ A k => XS.goto A hx rfl (pc0 := 128) (pc' := 132) rfl (hb hby at_128) (by decide) (by decide) k) ?_
          exact gretN (t := .boolean) hx hret (by simp) (hb hby at_132) (by decide) (by decide) (fun vq Cq => ⟨rfl, (((((((Keep.refl h0 []).trans K154 all0).trans K155 all0).ext E156).trans K157 (allS (Or.inr (by omega)) all0)).ext E159).trans K160 (allS (Or.inr (by omega)) all0))⟩)
      · refine gs (mkF m 133 #[.val (.int x0), .val (.int x1), .val (.int x2), .val (.int x3), .val (.int x4), .val (.int x0), .val (.int x2), .val (.ref r154), .val (.ref r155), .val (.ref b156), .val (.ref b159), .val (.int kk), .unset] []) (fun _ _ A k => XS.icmpYes A hx rfl (pc0 := 78) (pc' := 133) rfl (hb hby at_78) rfl (flt k1).2.1 (by decide) (by decide) k) ?_
        refine gs (mkF m 135 #[.val (.int x0), .val (.int x1), .val (.int x2), .val (.int x3), .val (.int x4), .val (.int x0), .val (.int x2), .val (.ref r154), .val (.ref r155), .val (.ref b156), .val (.ref b159), .val (.int kk), .unset] [(.int kk)]) (fun _ _ A k => XS.iload A hx rfl (hb hby at_133) rfl  k) ?_
        refine gs (mkF m 136 #[.val (.int x0), .val (.int x1), .val (.int x2), .val (.int x3), .val (.int x4), .val (.int x0), .val (.int x2), .val (.ref r154), .val (.ref r155), .val (.ref b156), .val (.ref b159), .val (.int kk), .unset] [(.int (4 : Int32)), (.int kk)]) (fun _ _ A k => XS.iconst A hx rfl (hb hby at_135) k) ?_
        by_cases k2 : kk = (4 : Int32)
        · refine gs (mkF m 139 #[.val (.int x0), .val (.int x1), .val (.int x2), .val (.int x3), .val (.int x4), .val (.int x0), .val (.int x2), .val (.ref r154), .val (.ref r155), .val (.ref b156), .val (.ref b159), .val (.int kk), .unset] []) (fun _ _ A k => XS.icmpNo A hx rfl (hb hby at_136) rfl (teq k2).2 k) ?_
          refine gs (mkF m 141 #[.val (.int x0), .val (.int x1), .val (.int x2), .val (.int x3), .val (.int x4), .val (.int x0), .val (.int x2), .val (.ref r154), .val (.ref r155), .val (.ref b156), .val (.ref b159), .val (.int kk), .unset] [(.ref b156)]) (fun _ _ A k => XS.aload A hx rfl (hb hby at_139) rfl rfl k) ?_
          refine gs (mkF m 142 #[.val (.int x0), .val (.int x1), .val (.int x2), .val (.int x3), .val (.int x4), .val (.int x0), .val (.int x2), .val (.ref r154), .val (.ref r155), .val (.ref b156), .val (.ref b159), .val (.int kk), .unset] [.null, (.ref b156)]) (fun _ _ A k => XS.aconstNull A hx rfl (hb hby at_141) k) ?_
          refine ginfo fun _ _ O182 => ?_
          have f183 := (((A156.keep K157).ext E159).keep K160)
          refine gcallV (y := (⟨"com/example/tasks_to_members/taskstomembers/core/Task", "equals", "(Ljava/lang/Object;)Z"⟩ : MethodName)) (z := (⟨"com/example/tasks_to_members/taskstomembers/core/Task", "equals", "(Ljava/lang/Object;)Z"⟩ : MethodName)) hx (ow hw 49 rfl) (ow hw 50 rfl) (nfSel (ow hw 52 rfl)) (ow hw 52 rfl) (ow hw 51 rfl) (by decide) (fun hZ H hEL => Pay.of_met (W := 0) (own_teqN l Z a0 cx [] (b156) vm160 h160 O182 ) (ow hw 53 rfl) (ow hw 31 rfl) (by decide) (by decide) hZ H hEL) 145 (argsL := [.null]) (rest := []) f183 (lenOf own_pd157 rfl) rfl rfl (Nat.le_of_eq rfl) (by rw [hml]; rfl) (hb hby at_142) rfl (by decide) (by decide) ?_
          rintro _ vm182 h182 C182 ⟨rfl, rfl⟩
          have z182 := C182.2.1
          refine gat (mkF m 145 #[.val (.int x0), .val (.int x1), .val (.int x2), .val (.int x3), .val (.int x4), .val (.int x0), .val (.int x2), .val (.ref r154), .val (.ref r155), .val (.ref b156), .val (.ref b159), .val (.int kk), .unset] [(.int (0 : Int32))]) rfl ?_
          refine gs (mkF m 148 #[.val (.int x0), .val (.int x1), .val (.int x2), .val (.int x3), .val (.int x4), .val (.int x0), .val (.int x2), .val (.ref r154), .val (.ref r155), .val (.ref b156), .val (.ref b159), .val (.int kk), .unset] []) (fun _ _ A k => XS.ifNo A hx rfl (hb hby at_145) rfl ((if0 _ _).trans (teq (by decide)).2) k) ?_
          refine gs (mkF m 149 #[.val (.int x0), .val (.int x1), .val (.int x2), .val (.int x3), .val (.int x4), .val (.int x0), .val (.int x2), .val (.ref r154), .val (.ref r155), .val (.ref b156), .val (.ref b159), .val (.int kk), .unset] [(.int (1 : Int32))]) (fun _ _ A k => XS.iconst A hx rfl (hb hby at_148) k) ?_
          refine gs (mkF m 153 #[.val (.int x0), .val (.int x1), .val (.int x2), .val (.int x3), .val (.int x4), .val (.int x0), .val (.int x2), .val (.ref r154), .val (.ref r155), .val (.ref b156), .val (.ref b159), .val (.int kk), .unset] [(.int (1 : Int32))]) (fun _ _ A k => XS.goto A hx rfl (pc0 := 149) (pc' := 153) rfl (hb hby at_149) (by decide) (by decide) k) ?_
          exact gretN (t := .boolean) hx hret (by simp) (hb hby at_153) (by decide) (by decide) (fun vq Cq => ⟨rfl, (((((((Keep.refl h0 []).trans K154 all0).trans K155 all0).ext E156).trans K157 (allS (Or.inr (by omega)) all0)).ext E159).trans K160 (allS (Or.inr (by omega)) all0))⟩)
        · refine gs (mkF m 154 #[.val (.int x0), .val (.int x1), .val (.int x2), .val (.int x3), .val (.int x4), .val (.int x0), .val (.int x2), .val (.ref r154), .val (.ref r155), .val (.ref b156), .val (.ref b159), .val (.int kk), .unset] []) (fun _ _ A k => XS.icmpYes A hx rfl (pc0 := 136) (pc' := 154) rfl (hb hby at_136) rfl (feq k2).2 (by decide) (by decide) k) ?_
          refine gs (mkF m 156 #[.val (.int x0), .val (.int x1), .val (.int x2), .val (.int x3), .val (.int x4), .val (.int x0), .val (.int x2), .val (.ref r154), .val (.ref r155), .val (.ref b156), .val (.ref b159), .val (.int kk), .unset] [(.int kk)]) (fun _ _ A k => XS.iload A hx rfl (hb hby at_154) rfl  k) ?_
          refine gs (mkF m 157 #[.val (.int x0), .val (.int x1), .val (.int x2), .val (.int x3), .val (.int x4), .val (.int x0), .val (.int x2), .val (.ref r154), .val (.ref r155), .val (.ref b156), .val (.ref b159), .val (.int kk), .unset] [(.int (5 : Int32)), (.int kk)]) (fun _ _ A k => XS.iconst A hx rfl (hb hby at_156) k) ?_
          by_cases k3 : kk = (5 : Int32)
          · refine gs (mkF m 160 #[.val (.int x0), .val (.int x1), .val (.int x2), .val (.int x3), .val (.int x4), .val (.int x0), .val (.int x2), .val (.ref r154), .val (.ref r155), .val (.ref b156), .val (.ref b159), .val (.int kk), .unset] []) (fun _ _ A k => XS.icmpNo A hx rfl (hb hby at_157) rfl (teq k3).2 k) ?_
            refine gs (mkF m 162 #[.val (.int x0), .val (.int x1), .val (.int x2), .val (.int x3), .val (.int x4), .val (.int x0), .val (.int x2), .val (.ref r154), .val (.ref r155), .val (.ref b156), .val (.ref b159), .val (.int kk), .unset] [(.ref b156)]) (fun _ _ A k => XS.aload A hx rfl (hb hby at_160) rfl rfl k) ?_
            refine gs (mkF m 164 #[.val (.int x0), .val (.int x1), .val (.int x2), .val (.int x3), .val (.int x4), .val (.int x0), .val (.int x2), .val (.ref r154), .val (.ref r155), .val (.ref b156), .val (.ref b159), .val (.int kk), .unset] [(.ref r154), (.ref b156)]) (fun _ _ A k => XS.aload A hx rfl (hb hby at_162) rfl rfl k) ?_
            have f186 := (((f158.keep K157 (ninS (Nat.ne_of_lt (by omega)) nin0) (ninS (Nat.ne_of_lt (by omega)) nin0)).ext E159).keep K160 (ninS (Nat.ne_of_lt (by omega)) nin0) (ninS (Nat.ne_of_lt (by omega)) nin0))
            refine ginfo fun _ _ O185 => ?_
            have f187 := (((A156.keep K157).ext E159).keep K160)
            refine gcallV (y := (⟨"com/example/tasks_to_members/taskstomembers/core/Task", "equals", "(Ljava/lang/Object;)Z"⟩ : MethodName)) (z := (⟨"com/example/tasks_to_members/taskstomembers/core/Task", "equals", "(Ljava/lang/Object;)Z"⟩ : MethodName)) hx (ow hw 49 rfl) (ow hw 50 rfl) (nfSel (ow hw 52 rfl)) (ow hw 52 rfl) (ow hw 51 rfl) (by decide) (fun hZ H hEL => Pay.of_met (W := 0) (own_teqS l Z a0 cx [] (b156) (r154) vm160 h160 O185 f186.1) (ow hw 53 rfl) (ow hw 31 rfl) (by decide) (by decide) hZ H hEL) 167 (argsL := [(.ref r154)]) (rest := []) f187 (lenOf own_pd157 rfl) rfl rfl (Nat.le_of_eq rfl) (by rw [hml]; rfl) (hb hby at_164) rfl (by decide) (by decide) ?_
            rintro _ vm185 h185 C185 ⟨rfl, rfl⟩
            have z185 := C185.2.1
            refine gat (mkF m 167 #[.val (.int x0), .val (.int x1), .val (.int x2), .val (.int x3), .val (.int x4), .val (.int x0), .val (.int x2), .val (.ref r154), .val (.ref r155), .val (.ref b156), .val (.ref b159), .val (.int kk), .unset] [(.int (0 : Int32))]) rfl ?_
            refine gs (mkF m 170 #[.val (.int x0), .val (.int x1), .val (.int x2), .val (.int x3), .val (.int x4), .val (.int x0), .val (.int x2), .val (.ref r154), .val (.ref r155), .val (.ref b156), .val (.ref b159), .val (.int kk), .unset] []) (fun _ _ A k => XS.ifNo A hx rfl (hb hby at_167) rfl ((if0 _ _).trans (teq (by decide)).2) k) ?_
            refine gs (mkF m 171 #[.val (.int x0), .val (.int x1), .val (.int x2), .val (.int x3), .val (.int x4), .val (.int x0), .val (.int x2), .val (.ref r154), .val (.ref r155), .val (.ref b156), .val (.ref b159), .val (.int kk), .unset] [(.int (1 : Int32))]) (fun _ _ A k => XS.iconst A hx rfl (hb hby at_170) k) ?_
            refine gs (mkF m 175 #[.val (.int x0), .val (.int x1), .val (.int x2), .val (.int x3), .val (.int x4), .val (.int x0), .val (.int x2), .val (.ref r154), .val (.ref r155), .val (.ref b156), .val (.ref b159), .val (.int kk), .unset] [(.int (1 : Int32))]) (fun _ _ A k => XS.goto A hx rfl (pc0 := 171) (pc' := 175) rfl (hb hby at_171) (by decide) (by decide) k) ?_
            exact gretN (t := .boolean) hx hret (by simp) (hb hby at_175) (by decide) (by decide) (fun vq Cq => ⟨rfl, (((((((Keep.refl h0 []).trans K154 all0).trans K155 all0).ext E156).trans K157 (allS (Or.inr (by omega)) all0)).ext E159).trans K160 (allS (Or.inr (by omega)) all0))⟩)
          · refine gs (mkF m 176 #[.val (.int x0), .val (.int x1), .val (.int x2), .val (.int x3), .val (.int x4), .val (.int x0), .val (.int x2), .val (.ref r154), .val (.ref r155), .val (.ref b156), .val (.ref b159), .val (.int kk), .unset] []) (fun _ _ A k => XS.icmpYes A hx rfl (pc0 := 157) (pc' := 176) rfl (hb hby at_157) rfl (feq k3).2 (by decide) (by decide) k) ?_
            refine gs (mkF m 178 #[.val (.int x0), .val (.int x1), .val (.int x2), .val (.int x3), .val (.int x4), .val (.int x0), .val (.int x2), .val (.ref r154), .val (.ref r155), .val (.ref b156), .val (.ref b159), .val (.int kk), .unset] [(.int kk)]) (fun _ _ A k => XS.iload A hx rfl (hb hby at_176) rfl  k) ?_
            refine gs (mkF m 180 #[.val (.int x0), .val (.int x1), .val (.int x2), .val (.int x3), .val (.int x4), .val (.int x0), .val (.int x2), .val (.ref r154), .val (.ref r155), .val (.ref b156), .val (.ref b159), .val (.int kk), .unset] [(.int (6 : Int32)), (.int kk)]) (fun _ _ A k => XS.bipush A hx rfl (hb hby at_178) k) ?_
            by_cases k4 : kk = (6 : Int32)
            · refine gs (mkF m 183 #[.val (.int x0), .val (.int x1), .val (.int x2), .val (.int x3), .val (.int x4), .val (.int x0), .val (.int x2), .val (.ref r154), .val (.ref r155), .val (.ref b156), .val (.ref b159), .val (.int kk), .unset] []) (fun _ _ A k => XS.icmpNo A hx rfl (hb hby at_180) rfl (teq k4).2 k) ?_
              refine gs (mkF m 185 #[.val (.int x0), .val (.int x1), .val (.int x2), .val (.int x3), .val (.int x4), .val (.int x0), .val (.int x2), .val (.ref r154), .val (.ref r155), .val (.ref b156), .val (.ref b159), .val (.int kk), .unset] [(.ref b156)]) (fun _ _ A k => XS.aload A hx rfl (hb hby at_183) rfl rfl k) ?_
              refine gs (mkF m 186 #[.val (.int x0), .val (.int x1), .val (.int x2), .val (.int x3), .val (.int x4), .val (.int x0), .val (.int x2), .val (.ref r154), .val (.ref r155), .val (.ref b156), .val (.ref b159), .val (.int kk), .unset] [(.int x2), (.ref b156)]) (fun _ _ A k => XS.iloadN A hx rfl (hb hby at_185) rfl  k) ?_
              refine ginfo fun _ _ O189 => ?_
              refine gcallS (y := (⟨"java/lang/Integer", "valueOf", "(I)Ljava/lang/Integer;"⟩ : MethodName)) hx (ow hw 67 rfl) (ow hw 68 rfl) (ow hw 69 rfl) (ow hw 70 rfl) (by decide) (fun hZ H hEL => Pay.of_met (W := 1) (own_valueOf l Z a0 cx [] (x2) vm160 h160 O189 ) (ow hw 70 rfl) (ow hw 69 rfl) (by decide) (by decide) hZ H hEL) 189 (argsL := [(.int x2)]) (rest := [(.ref b156)]) (lenOf own_pd202 rfl) rfl rfl (Nat.le_of_eq rfl) (by rw [hml]; rfl) (hb hby at_186) rfl (by decide) (by decide) ?_
              rintro _ vm189 h189 C189 ⟨r189, rfl, K189, q189_0⟩
              have z189 := C189.2.1
              have lt_r189 : h189.size > r189 := q189_0.lt
              refine gat (mkF m 189 #[.val (.int x0), .val (.int x1), .val (.int x2), .val (.int x3), .val (.int x4), .val (.int x0), .val (.int x2), .val (.ref r154), .val (.ref r155), .val (.ref b156), .val (.ref b159), .val (.int kk), .unset] [(.ref r189), (.ref b156)]) rfl ?_
              refine ginfo fun _ _ O190 => ?_
              have f191 := ((((A156.keep K157).ext E159).keep K160).keep K189)
              refine gcallV (y := (⟨"com/example/tasks_to_members/taskstomembers/core/Task", "equals", "(Ljava/lang/Object;)Z"⟩ : MethodName)) (z := (⟨"com/example/tasks_to_members/taskstomembers/core/Task", "equals", "(Ljava/lang/Object;)Z"⟩ : MethodName)) hx (ow hw 49 rfl) (ow hw 50 rfl) (nfSel (ow hw 52 rfl)) (ow hw 52 rfl) (ow hw 51 rfl) (by decide) (fun hZ H hEL => Pay.of_met (W := 0) (own_teqI l Z a0 cx [] (b156) (r189) vm189 h189 O190 q189_0) (ow hw 53 rfl) (ow hw 31 rfl) (by decide) (by decide) hZ H hEL) 192 (argsL := [(.ref r189)]) (rest := []) f191 (lenOf own_pd157 rfl) rfl rfl (Nat.le_of_eq rfl) (by rw [hml]; rfl) (hb hby at_189) rfl (by decide) (by decide) ?_
              rintro _ vm190 h190 C190 ⟨rfl, rfl⟩
              have z190 := C190.2.1
              refine gat (mkF m 192 #[.val (.int x0), .val (.int x1), .val (.int x2), .val (.int x3), .val (.int x4), .val (.int x0), .val (.int x2), .val (.ref r154), .val (.ref r155), .val (.ref b156), .val (.ref b159), .val (.int kk), .unset] [(.int (0 : Int32))]) rfl ?_
              refine gs (mkF m 195 #[.val (.int x0), .val (.int x1), .val (.int x2), .val (.int x3), .val (.int x4), .val (.int x0), .val (.int x2), .val (.ref r154), .val (.ref r155), .val (.ref b156), .val (.ref b159), .val (.int kk), .unset] []) (fun _ _ A k => XS.ifNo A hx rfl (hb hby at_192) rfl ((if0 _ _).trans (teq (by decide)).2) k) ?_
              refine gs (mkF m 196 #[.val (.int x0), .val (.int x1), .val (.int x2), .val (.int x3), .val (.int x4), .val (.int x0), .val (.int x2), .val (.ref r154), .val (.ref r155), .val (.ref b156), .val (.ref b159), .val (.int kk), .unset] [(.int (1 : Int32))]) (fun _ _ A k => XS.iconst A hx rfl (hb hby at_195) k) ?_
              refine gs (mkF m 200 #[.val (.int x0), .val (.int x1), .val (.int x2), .val (.int x3), .val (.int x4), .val (.int x0), .val (.int x2), .val (.ref r154), .val (.ref r155), .val (.ref b156), .val (.ref b159), .val (.int kk), .unset] [(.int (1 : Int32))]) (fun _ _ A k => XS.goto A hx rfl (pc0 := 196) (pc' := 200) rfl (hb hby at_196) (by decide) (by decide) k) ?_
              exact gretN (t := .boolean) hx hret (by simp) (hb hby at_200) (by decide) (by decide) (fun vq Cq => ⟨rfl, ((((((((Keep.refl h0 []).trans K154 all0).trans K155 all0).ext E156).trans K157 (allS (Or.inr (by omega)) all0)).ext E159).trans K160 (allS (Or.inr (by omega)) all0)).trans K189 all0)⟩)
            · refine gs (mkF m 201 #[.val (.int x0), .val (.int x1), .val (.int x2), .val (.int x3), .val (.int x4), .val (.int x0), .val (.int x2), .val (.ref r154), .val (.ref r155), .val (.ref b156), .val (.ref b159), .val (.int kk), .unset] []) (fun _ _ A k => XS.icmpYes A hx rfl (pc0 := 180) (pc' := 201) rfl (hb hby at_180) rfl (feq k4).2 (by decide) (by decide) k) ?_
              refine gs (mkF m 203 #[.val (.int x0), .val (.int x1), .val (.int x2), .val (.int x3), .val (.int x4), .val (.int x0), .val (.int x2), .val (.ref r154), .val (.ref r155), .val (.ref b156), .val (.ref b159), .val (.int kk), .unset] [(.ref b156)]) (fun _ _ A k => XS.aload A hx rfl (hb hby at_201) rfl rfl k) ?_
              refine gs (mkF m 205 #[.val (.int x0), .val (.int x1), .val (.int x2), .val (.int x3), .val (.int x4), .val (.int x0), .val (.int x2), .val (.ref r154), .val (.ref r155), .val (.ref b156), .val (.ref b159), .val (.int kk), .unset] [(.ref b156), (.ref b156)]) (fun _ _ A k => XS.aload A hx rfl (hb hby at_203) rfl rfl k) ?_
              have f194 := (((A156.keep K157).ext E159).keep K160)
              have f195 := ((q157_0.ext E159).keep K160 (ninS (Nat.ne_of_lt (by omega)) nin0))
              have f196 := ((q157_1.ext E159).keep K160 (ninS (Nat.ne_of_lt (by omega)) nin0))
              have f197 := (((f158.keep K157 (ninS (Nat.ne_of_lt (by omega)) nin0) (ninS (Nat.ne_of_lt (by omega)) nin0)).ext E159).keep K160 (ninS (Nat.ne_of_lt (by omega)) nin0) (ninS (Nat.ne_of_lt (by omega)) nin0))
              refine ginfo fun _ _ O193 => ?_
              refine gcallV (y := (⟨"com/example/tasks_to_members/taskstomembers/core/Task", "equals", "(Ljava/lang/Object;)Z"⟩ : MethodName)) (z := (⟨"com/example/tasks_to_members/taskstomembers/core/Task", "equals", "(Ljava/lang/Object;)Z"⟩ : MethodName)) hx (ow hw 49 rfl) (ow hw 50 rfl) (nfSel (ow hw 52 rfl)) (ow hw 52 rfl) (ow hw 51 rfl) (by decide) (fun hZ H hEL => Pay.of_met (W := 0) (own_teq l Z a0 cx [] (b156) (b156) (r154) (r154) (x2) (x2) (t154) (t154) ((own_cs x0)) ((own_cs x0)) ((1 : Int32)) vm160 h160 O193 f194 f195 f196 f195 f196 f197 f197 ⟨fun _ => rfl, fun q => absurd ⟨rfl, rfl⟩ q⟩) (ow hw 53 rfl) (ow hw 31 rfl) (by decide) (by decide) hZ H hEL) 208 (argsL := [(.ref b156)]) (rest := []) f194 (lenOf own_pd157 rfl) rfl rfl (Nat.le_of_eq rfl) (by rw [hml]; rfl) (hb hby at_205) rfl (by decide) (by decide) ?_
              rintro _ vm193 h193 C193 ⟨rfl, rfl⟩
              have z193 := C193.2.1
              refine gat (mkF m 208 #[.val (.int x0), .val (.int x1), .val (.int x2), .val (.int x3), .val (.int x4), .val (.int x0), .val (.int x2), .val (.ref r154), .val (.ref r155), .val (.ref b156), .val (.ref b159), .val (.int kk), .unset] [(.int (1 : Int32))]) rfl ?_
              exact gretN (t := .boolean) hx hret (by simp) (hb hby at_208) (by decide) (by decide) (fun vq Cq => ⟨rfl, (((((((Keep.refl h0 []).trans K154 all0).trans K155 all0).ext E156).trans K157 (allS (Or.inr (by omega)) all0)).ext E159).trans K160 (allS (Or.inr (by omega)) all0))⟩)
set_option maxRecDepth 65536 in
set_option maxHeartbeats 40000000 in
theorem comes_1 {Post : Tables → Env → Array Value → State → Outcome → State → Prop} (hpost : ∀ tb e args s v u, (limb_1_1.after args s (.returned v) u = true ∧ limb_1_2.after args s (.returned v) u = true ∧ True) → ReturnedEndW s (.returned v) u (Jvm.fieldLocs frame_1_writes args s ++ Jvm.arrayLocs frame_1_arrays args s ++ Jvm.staticLocs frame_1_statics s) 32 2176 → Post tb e args s (.returned v) u) :
    ArmFor flags0 classFile x code maxLocals ret World_1 tables_1 room_1 Calls_1 rest_1 Pre_1 Post := by
  intro l hfl _ _ p e ha hc hk s m args below hf hA hF happ hP
  obtain ⟨hcalls, hrest, hpre⟩ := hP
  obtain ⟨-, -, -, hnamed, -, -, -, hat⟩ := (Spec.applies_iff hf).mp happ
  obtain ⟨hg, hn⟩ := and_e (Cond.before_iff.mp (show (Jvm.Cond.and given_1 narrow_1).before args s = true from hpre))
  obtain ⟨gc, g0⟩ := and_e hg
  obtain ⟨ga0, g1⟩ := and_e g0
  obtain ⟨ga1, g2⟩ := and_e g1
  obtain ⟨ga2, g3⟩ := and_e g2
  obtain ⟨ga3, g4⟩ := and_e g3
  have ga4 := g4
  obtain ⟨w0, w1, w2, w3, w4, rfl⟩ : ∃ w0 w1 w2 w3 w4 : Value, args = #[w0, w1, w2, w3, w4] := by
    have hs : args.size = 5 := by simpa [Cond.value, given_1] using gc
    obtain ⟨L⟩ := args
    match L, hs with
    | [w0, w1, w2, w3, w4], _ => exact ⟨w0, w1, w2, w3, w4, rfl⟩
  have hw := fun d (hd : d ∈ tables_1) => atoms_spec (ws := Jvm.Cond.code x code maxLocals ret :: tables_1) hat d (List.mem_cons_of_mem _ hd)
  have hfit : Fit s := fun {y c} hc i hi => by
    obtain ⟨ha, rfl⟩ := Array.getElem?_eq_some_iff.mp hc
    have q := List.all_eq_true.mp ((Array.all_eq_true_iff_forall_mem.mp hF) _ (Array.getElem_mem ha)) i (List.mem_range.mpr hi)
    simpa [Array.getElem?_eq_getElem hi] using q
  obtain ⟨hsets, hown0⟩ := atoms_of _ (rest_1_c_eq ▸ (show rest_1_c.before _ s = true from hrest))
  obtain ⟨i0, ei0⟩ := is_v ga0
  obtain rfl : w0 = (.int i0) := Option.some.inj ei0
  obtain ⟨i1, ei1⟩ := is_v ga1
  obtain rfl : w1 = (.int i1) := Option.some.inj ei1
  obtain ⟨i2, ei2⟩ := is_v ga2
  obtain rfl : w2 = (.int i2) := Option.some.inj ei2
  obtain ⟨i3, ei3⟩ := is_v ga3
  obtain rfl : w3 = (.int i3) := Option.some.inj ei3
  obtain ⟨i4, ei4⟩ := is_v ga4
  obtain rfl : w4 = (.int i4) := Option.some.inj ei4
  obtain ⟨zc, eG⟩ := is_v (Cond.before_iff.mp (hsets _ (List.mem_of_getElem? (i := 1) rfl)))
  have Scs := Sta.start eG (Or.inl (hsets _ (List.mem_of_getElem? (i := 0) rfl)))
  have hcw := hsets _ (List.mem_of_getElem? (i := 2) rfl)
  have hzc : ¬ zc = 0 := by
    have q := not_v (Cond.before_iff.mp hcw)
    intro z
    have q2 := eq_i (x := .int zc) (y := .int 0) eG (Term.int_eval (0)) (by rw [z])
    rw [q2] at q; cases q
  obtain ⟨fm, eF, hfm⟩ := isR_v (Cond.before_iff.mp (hsets _ (List.mem_of_getElem? (i := 8) rfl)))
  have Sfm := Sta.start eF (Or.inl (hsets _ (List.mem_of_getElem? (i := 7) rfl)))
  have hEL : EW s _ consts_1 := (EW.cons (ow hw 36 rfl) (by decide +kernel) (EW.cons (ow hw 21 rfl) (by decide +kernel) EW.nil))
  have hCH : CHv s consts_1 s.vm s.heap := CHv.start hEL (fun p hp => hcalls.1 p hp) hcw (ow hw 22 rfl) (ow hw 8 rfl)
  obtain ⟨cach, ccl, Shi, Sca, Aca, zca, hca⟩ := own_cache hw hsets
  have cx : Ctx s _ := ⟨hw, hEL, ⟨zc, Scs, hzc⟩, ⟨fm, Sfm, hfm⟩, ⟨cach, ccl, Shi, Sca, Aca, zca, hca⟩⟩
  obtain ⟨n, o, h1, h2, h3, _, L, rfl, ⟨N, ⟨rfl, -⟩⟩, -, hq⟩ := own_law l s _ cx tables_1 i0 i1 i2 i3 i4 s.vm s.heap ⟨Nat.le_refl _, fun _ _ q => q⟩ p e ha hc hk s m _ below hf ((Spec.applies_iff_loose hf).mp happ).1 ⟨rfl, State.Warmed39.refl s, rfl, CHr.refl hCH⟩ trivial
  refine ⟨n, _, h1, h2, h3, hpost _ _ _ _ _ _ ⟨Cond.after_iff.mpr rfl, Cond.after_iff.mpr (eq_i res_at (Term.int_eval (1)) rfl), trivial⟩ ⟨hq.1, hq.2.1, hq.2.2.1, (hq.2.2.2.sift fun y hy => Or.inr (N y hy)).mono (by decide) (by decide)⟩⟩
theorem main_1_1 : Claimed_1_1 := comes_1 fun _ _ _ _ _ _ h hF => ⟨h.1, hF⟩
theorem main_1_2 : Claimed_1_2 := comes_1 fun _ _ _ _ _ _ h hF => ⟨h.2.1, hF⟩
end Jvm.Pilot.@@N@@
namespace Jvm.Pilot.@@N@@
open Jvm Jvm.ClassFile Sem Op Lib Jvm.Free Jvm.Stand Jvm.Pilot.@@N@@.Jvm.D
/-! MADE BY PROGRAM (witnessworld.py) out of the Statement's table words and the real class files: 25 classes; the members and pool entries that the words name. The judged class is class 1, her method 4. -/
namespace start1
open Jvm.ClassFile
def u (s : String) : CpInfo := .utf8 (stringToUtf16 s)
/-- a pool by its gaps: so many unusable entries, then the entry; so many at the end -/
def gap : Nat → List CpInfo → List CpInfo
  | 0, r => r
  | n + 1, r => .unusable :: gap n r
def poolList (es : List (Nat × CpInfo)) (last : Nat) : List CpInfo := es.foldr (fun e r => gap e.1 (e.2 :: r)) (gap last [])
def pool (es : List (Nat × CpInfo)) (last : Nat) : Array CpInfo := ⟨poolList es last⟩
def fileOf (pool : Array CpInfo) (this : Nat) (attrs : Array Attribute := #[]) (ms : Array MethodInfo := #[]) (fl : Nat := 33) (sup : Nat := 0) (ifs : Array Nat := #[]) (fds : Array FieldInfo := #[]) : ClassFile where
  minorVersion := 0
  majorVersion := 65
  constantPool := pool
  accessFlags := fl
  thisClass := this
  superClass := sup
  interfaces := ifs
  fields := fds
  methods := ms
  attributes := attrs
def plain (name : String) (sup : Option ClassId) : Class where
  name := name
  kind := .ordinary
  loader := none
  accessFlags := 33
  super := sup
  interfaces := #[]
  cf := none
  fields := #[]
  methods := #[]
  instanceTypes := #[]
  staticTypes := #[]
  resolved := #[]
  callSites := []
  init := .initialized
  statics := none
  mirror := none

def pool0 : Array CpInfo := pool [(5, u "<init>"), (0, u "()V"), (1, .class_ 10), (1, u "java/lang/Object")] 113

def k0c0 : Code := { maxStack := 0, maxLocals := 1, code := object_method_1_code, exceptionTable := #[], attributes := #[] }
def k0m0 : Method := { name := "<init>", desc := "()V", sig := { parameters := [], returnType := none }, accessFlags := 1, code := some k0c0 }
/-- java/lang/Object -/
def k0 : Class := { plain "java/lang/Object" none with
  accessFlags := 33
  interfaces := #[]
  cf := some (fileOf pool0 8 #[] #[{ accessFlags := 1, nameIndex := 5, descriptorIndex := 6, attributes := #[] }] 33 0 #[] #[])
  fields := #[]
  methods := #[k0m0]
  instanceTypes := #[]
  staticTypes := #[]
  resolved := Array.replicate 124 none
  statics := none }

def pool1 : Array CpInfo := pool [(2, .class_ 4), (1, u "java/lang/Object"), (0, u "<init>"), (0, u "()V"), (0, .methodref 8 9), (0, .class_ 10), (0, .nameAndType 11 12), (0, u "com/example/tasks_to_members/taskstomembers/core/TaskEqualsPinLaw"), (0, u "len"), (0, u "(I)I"), (0, .class_ 14), (0, u "java/lang/String"), (0, .methodref 13 16), (0, .nameAndType 5 17), (0, u "([C)V"), (0, .methodref 8 19), (0, .nameAndType 20 21), (0, u "mk"), (0, u "(I)Ljava/lang/String;"), (0, .class_ 23), (0, u "com/example/tasks_to_members/taskstomembers/core/Task"), (0, .methodref 22 25), (0, .nameAndType 5 26), (0, u "(Ljava/lang/String;I)V"), (0, .methodref 8 28), (0, .nameAndType 29 30), (0, u "sameId"), (0, u "(II)Z"), (0, .methodref 22 32), (0, .nameAndType 33 34), (0, u "equals"), (0, u "(Ljava/lang/Object;)Z"), (0, .methodref 36 37), (0, .class_ 38), (0, .nameAndType 39 40), (0, u "java/lang/Integer"), (0, u "valueOf"), (0, u "(I)Ljava/lang/Integer;"), (3, u "law"), (0, u "(IIIII)Z")] 2

def k1m0 : Method := { name := "<init>", desc := "()V", sig := { parameters := [], returnType := none }, accessFlags := 1, code := none }
def k1c1 : Code := { maxStack := 2, maxLocals := 1, code := method_2_code, exceptionTable := #[], attributes := #[] }
def k1m1 : Method := { name := "len", desc := "(I)I", sig := { parameters := [.int], returnType := some .int }, accessFlags := 10, code := some k1c1 }
def k1c2 : Code := { maxStack := 3, maxLocals := 5, code := method_3_code, exceptionTable := #[], attributes := #[] }
def k1m2 : Method := { name := "mk", desc := "(I)Ljava/lang/String;", sig := { parameters := [.int], returnType := some (.object "java/lang/String") }, accessFlags := 10, code := some k1c2 }
def k1c3 : Code := { maxStack := 3, maxLocals := 4, code := method_4_code, exceptionTable := #[], attributes := #[] }
def k1m3 : Method := { name := "sameId", desc := "(II)Z", sig := { parameters := [.int, .int], returnType := some .boolean }, accessFlags := 10, code := some k1c3 }
def k1c4 : Code := { maxStack := 4, maxLocals := 13, code := code, exceptionTable := #[], attributes := #[] }
def k1m4 : Method := { name := "law", desc := "(IIIII)Z", sig := { parameters := [.int, .int, .int, .int, .int], returnType := some .boolean }, accessFlags := 9, code := some k1c4 }
/-- com/example/tasks_to_members/taskstomembers/core/TaskEqualsPinLaw -/
def k1 : Class := { plain "com/example/tasks_to_members/taskstomembers/core/TaskEqualsPinLaw" (some 0) with
  accessFlags := 49
  interfaces := #[]
  cf := some (fileOf pool1 8 #[] #[{ accessFlags := 1, nameIndex := 5, descriptorIndex := 6, attributes := #[] }, { accessFlags := 10, nameIndex := 11, descriptorIndex := 12, attributes := #[] }, { accessFlags := 10, nameIndex := 20, descriptorIndex := 21, attributes := #[] }, { accessFlags := 10, nameIndex := 29, descriptorIndex := 30, attributes := #[] }, { accessFlags := 9, nameIndex := 44, descriptorIndex := 45, attributes := #[] }] 49 2 #[] #[])
  fields := #[]
  methods := #[k1m0, k1m1, k1m2, k1m3, k1m4]
  instanceTypes := #[]
  staticTypes := #[]
  resolved := Array.replicate 48 none
  statics := none }

def pool2 : Array CpInfo := pool [(1, .class_ 2), (0, u "java/io/Serializable"), (0, .class_ 4), (0, u "java/lang/Object")] 2

/-- java/io/Serializable -/
def k2 : Class := { plain "java/io/Serializable" (some 0) with
  accessFlags := 1537
  interfaces := #[]
  cf := some (fileOf pool2 1 #[] #[] 1537 3 #[] #[])
  fields := #[]
  methods := #[]
  instanceTypes := #[]
  staticTypes := #[]
  resolved := Array.replicate 7 none
  statics := none }

def pool3 : Array CpInfo := pool [(1, .class_ 2), (0, u "java/lang/Comparable"), (0, .class_ 4), (0, u "java/lang/Object")] 7

/-- java/lang/Comparable -/
def k3 : Class := { plain "java/lang/Comparable" (some 0) with
  accessFlags := 1537
  interfaces := #[]
  cf := some (fileOf pool3 1 #[] #[] 1537 3 #[] #[])
  fields := #[]
  methods := #[]
  instanceTypes := #[]
  staticTypes := #[]
  resolved := Array.replicate 12 none
  statics := none }

def pool4 : Array CpInfo := pool [(2, .class_ 4), (1, u "java/lang/CharSequence"), (42, .class_ 48), (0, u "java/lang/CharSequence$1CodePointIterator"), (10, .class_ 60), (0, u "java/lang/CharSequence$1CharIterator"), (5, .class_ 67), (0, u "java/lang/Object")] 63

/-- java/lang/CharSequence -/
def k4 : Class := { plain "java/lang/CharSequence" (some 0) with
  accessFlags := 1537
  interfaces := #[]
  cf := some (fileOf pool4 2 #[.nestMembers #[47, 59]] #[] 1537 66 #[] #[])
  fields := #[]
  methods := #[]
  instanceTypes := #[]
  staticTypes := #[]
  resolved := Array.replicate 131 none
  statics := none }

def pool5 : Array CpInfo := pool [(1, .class_ 2), (0, u "java/lang/constant/Constable"), (0, .class_ 4), (0, u "java/lang/Object")] 6

/-- java/lang/constant/Constable -/
def k5 : Class := { plain "java/lang/constant/Constable" (some 0) with
  accessFlags := 1537
  interfaces := #[]
  cf := some (fileOf pool5 1 #[] #[] 1537 3 #[] #[])
  fields := #[]
  methods := #[]
  instanceTypes := #[]
  staticTypes := #[]
  resolved := Array.replicate 11 none
  statics := none }

def pool6 : Array CpInfo := pool [(1, .class_ 2), (0, u "java/lang/constant/ConstantDesc"), (0, .class_ 4), (0, u "java/lang/Object")] 32

/-- java/lang/constant/ConstantDesc -/
def k6 : Class := { plain "java/lang/constant/ConstantDesc" (some 0) with
  accessFlags := 1537
  interfaces := #[]
  cf := some (fileOf pool6 1 #[] #[] 1537 3 #[] #[])
  fields := #[]
  methods := #[]
  instanceTypes := #[]
  staticTypes := #[]
  resolved := Array.replicate 37 none
  statics := none }

def pool7 : Array CpInfo := pool [(1, .methodref 2 3), (0, .class_ 4), (0, .nameAndType 5 6), (0, u "java/lang/Object"), (0, u "<init>"), (0, u "()V"), (0, .string 8), (0, u ""), (0, .fieldref 10 11), (0, .class_ 12), (0, .nameAndType 13 14), (0, u "java/lang/String"), (0, u "value"), (0, u "[B"), (0, .fieldref 10 16), (0, .nameAndType 17 18), (0, u "coder"), (0, u "B"), (2, u "hash"), (0, u "I"), (2, u "hashIsZero"), (0, u "Z"), (0, .methodref 10 28), (0, .nameAndType 5 29), (0, u "([CIILjava/lang/Void;)V"), (8, .fieldref 10 39), (0, .nameAndType 40 26), (0, u "COMPACT_STRINGS"), (1, .class_ 44), (1, u "java/lang/StringUTF16"), (0, u "compress"), (1, .methodref 42 48), (0, .nameAndType 49 50), (0, u "coderFromArrayLen"), (0, u "([BI)B"), (56, .class_ 109), (1, u "java/lang/StringLatin1"), (67, .methodref 42 178), (0, .nameAndType 45 179), (0, u "([CII)[B"), (361, .methodref 107 542), (0, .nameAndType 543 544), (0, u "equals"), (0, u "([B[B)Z"), (28, u "(Ljava/lang/Object;)Z"), (1, .class_ 576), (0, u "java/lang/CharSequence"), (22, u "CASE_INSENSITIVE_ORDER"), (0, u "Ljava/util/Comparator;"), (409, u "([C)V"), (90, u "serialPersistentFields"), (0, u "[Ljava/io/ObjectStreamField;"), (0, .class_ 1104), (0, u "java/lang/String$CaseInsensitiveComparator"), (1, .class_ 1107), (0, u "java/io/Serializable"), (0, .class_ 1109), (0, u "java/lang/Comparable"), (0, .class_ 1111), (0, u "java/lang/constant/Constable"), (0, .class_ 1113), (0, u "java/lang/constant/ConstantDesc"), (2, u "serialVersionUID"), (0, u "J"), (3, u "REPL"), (0, u "C"), (2, u "LATIN1"), (1, u "UTF16")] 323

def k7m0 : Method := { name := "<init>", desc := "()V", sig := { parameters := [], returnType := none }, accessFlags := 1, code := none }
def k7c1 : Code := { maxStack := 5, maxLocals := 2, code := jdk_42_method_3_code, exceptionTable := #[], attributes := #[] }
def k7m1 : Method := { name := "<init>", desc := "([C)V", sig := { parameters := [(.array .char)], returnType := none }, accessFlags := 1, code := some k7c1 }
def k7c2 : Code := { maxStack := 2, maxLocals := 3, code := jdk_42_method_66_code, exceptionTable := #[], attributes := #[] }
def k7m2 : Method := { name := "equals", desc := "(Ljava/lang/Object;)Z", sig := { parameters := [(.object "java/lang/Object")], returnType := some .boolean }, accessFlags := 1, code := some k7c2 }
def k7c3 : Code := { maxStack := 4, maxLocals := 6, code := jdk_42_method_149_code, exceptionTable := #[], attributes := #[] }
def k7m3 : Method := { name := "<init>", desc := "([CIILjava/lang/Void;)V", sig := { parameters := [(.array .char), .int, .int, (.object "java/lang/Void")], returnType := none }, accessFlags := 2, code := some k7c3 }
/-- java/lang/String -/
def k7 : Class := { plain "java/lang/String" (some 0) with
  accessFlags := 49
  interfaces := #[2, 3, 4, 5, 6]
  cf := some (fileOf pool7 10 #[.nestMembers #[1103]] #[{ accessFlags := 1, nameIndex := 5, descriptorIndex := 6, attributes := #[] }, { accessFlags := 1, nameIndex := 5, descriptorIndex := 1010, attributes := #[] }, { accessFlags := 1, nameIndex := 543, descriptorIndex := 573, attributes := #[] }, { accessFlags := 2, nameIndex := 5, descriptorIndex := 29, attributes := #[] }] 49 2 #[1106, 1108, 575, 1110, 1112] #[{ accessFlags := 18, nameIndex := 13, descriptorIndex := 14, attributes := #[] }, { accessFlags := 18, nameIndex := 17, descriptorIndex := 18, attributes := #[] }, { accessFlags := 2, nameIndex := 21, descriptorIndex := 22, attributes := #[] }, { accessFlags := 2, nameIndex := 25, descriptorIndex := 26, attributes := #[] }, { accessFlags := 26, nameIndex := 1116, descriptorIndex := 1117, attributes := #[] }, { accessFlags := 24, nameIndex := 40, descriptorIndex := 26, attributes := #[] }, { accessFlags := 26, nameIndex := 1101, descriptorIndex := 1102, attributes := #[] }, { accessFlags := 26, nameIndex := 1121, descriptorIndex := 1122, attributes := #[] }, { accessFlags := 25, nameIndex := 599, descriptorIndex := 600, attributes := #[] }, { accessFlags := 24, nameIndex := 1125, descriptorIndex := 18, attributes := #[] }, { accessFlags := 24, nameIndex := 1127, descriptorIndex := 18, attributes := #[] }])
  fields := #[{ name := "value", type := (.array .byte), accessFlags := 18, slot := 0, constantValue := 0 }, { name := "coder", type := .byte, accessFlags := 18, slot := 1, constantValue := 0 }, { name := "hash", type := .int, accessFlags := 2, slot := 2, constantValue := 0 }, { name := "hashIsZero", type := .boolean, accessFlags := 2, slot := 3, constantValue := 0 }, { name := "serialVersionUID", type := .long, accessFlags := 26, slot := 0, constantValue := 0 }, { name := "COMPACT_STRINGS", type := .boolean, accessFlags := 24, slot := 1, constantValue := 0 }, { name := "serialPersistentFields", type := (.array (.object "java/io/ObjectStreamField")), accessFlags := 26, slot := 2, constantValue := 0 }, { name := "REPL", type := .char, accessFlags := 26, slot := 3, constantValue := 0 }, { name := "CASE_INSENSITIVE_ORDER", type := (.object "java/util/Comparator"), accessFlags := 25, slot := 4, constantValue := 0 }, { name := "LATIN1", type := .byte, accessFlags := 24, slot := 5, constantValue := 0 }, { name := "UTF16", type := .byte, accessFlags := 24, slot := 6, constantValue := 0 }]
  methods := #[k7m0, k7m1, k7m2, k7m3]
  instanceTypes := #[(.array .byte), .byte, .int, .boolean]
  staticTypes := #[.long, .boolean, (.array (.object "java/io/ObjectStreamField")), .char, (.object "java/util/Comparator"), .byte, .byte]
  resolved := Array.replicate 1451 none
  statics := some 0 }

def pool8 : Array CpInfo := pool [(1, .methodref 2 3), (0, .class_ 4), (0, .nameAndType 5 6), (0, u "java/lang/Object"), (0, u "<init>"), (0, u "()V"), (0, .string 8), (0, u "subtopology id"), (0, .methodref 10 11), (0, .class_ 12), (0, .nameAndType 13 14), (0, u "java/util/Objects"), (0, u "requireNonNull"), (0, u "(Ljava/lang/Object;Ljava/lang/String;)Ljava/lang/Object;"), (0, .class_ 16), (0, u "java/lang/String"), (0, .fieldref 18 19), (0, .class_ 20), (0, .nameAndType 21 22), (0, u "com/example/tasks_to_members/taskstomembers/core/Task"), (0, u "subtopologyId"), (0, u "Ljava/lang/String;"), (0, .fieldref 18 24), (0, .nameAndType 25 26), (0, u "partition"), (0, u "I"), (10, .methodref 15 38), (0, .nameAndType 39 40), (0, u "equals"), (0, u "(Ljava/lang/Object;)Z"), (11, .class_ 53), (0, u "java/lang/Comparable"), (0, u "(Ljava/lang/String;I)V")] 26

def k8c0 : Code := { maxStack := 3, maxLocals := 3, code := prog_6_method_1_code, exceptionTable := #[], attributes := #[] }
def k8m0 : Method := { name := "<init>", desc := "(Ljava/lang/String;I)V", sig := { parameters := [(.object "java/lang/String"), .int], returnType := none }, accessFlags := 1, code := some k8c0 }
def k8c1 : Code := { maxStack := 2, maxLocals := 2, code := prog_6_method_5_code, exceptionTable := #[], attributes := #[] }
def k8m1 : Method := { name := "equals", desc := "(Ljava/lang/Object;)Z", sig := { parameters := [(.object "java/lang/Object")], returnType := some .boolean }, accessFlags := 1, code := some k8c1 }
/-- com/example/tasks_to_members/taskstomembers/core/Task -/
def k8 : Class := { plain "com/example/tasks_to_members/taskstomembers/core/Task" (some 0) with
  accessFlags := 49
  interfaces := #[3]
  cf := some (fileOf pool8 18 #[] #[{ accessFlags := 1, nameIndex := 5, descriptorIndex := 54, attributes := #[] }, { accessFlags := 1, nameIndex := 39, descriptorIndex := 40, attributes := #[] }] 49 2 #[52] #[{ accessFlags := 18, nameIndex := 21, descriptorIndex := 22, attributes := #[] }, { accessFlags := 18, nameIndex := 25, descriptorIndex := 26, attributes := #[] }])
  fields := #[{ name := "subtopologyId", type := (.object "java/lang/String"), accessFlags := 18, slot := 0, constantValue := 0 }, { name := "partition", type := .int, accessFlags := 18, slot := 1, constantValue := 0 }]
  methods := #[k8m0, k8m1]
  instanceTypes := #[(.object "java/lang/String"), .int]
  staticTypes := #[]
  resolved := Array.replicate 81 none
  statics := none }

def pool9 : Array CpInfo := pool [(2, .class_ 4), (1, u "java/lang/Object"), (0, u "<init>"), (0, u "()V"), (35, .class_ 44), (1, u "java/util/Objects"), (0, u "requireNonNull"), (48, u "(Ljava/lang/Object;Ljava/lang/String;)Ljava/lang/Object;")] 89

def k9m0 : Method := { name := "<init>", desc := "()V", sig := { parameters := [], returnType := none }, accessFlags := 2, code := none }
def k9c1 : Code := { maxStack := 3, maxLocals := 2, code := jdk_31_method_11_code, exceptionTable := #[], attributes := #[] }
def k9m1 : Method := { name := "requireNonNull", desc := "(Ljava/lang/Object;Ljava/lang/String;)Ljava/lang/Object;", sig := { parameters := [(.object "java/lang/Object"), (.object "java/lang/String")], returnType := some (.object "java/lang/Object") }, accessFlags := 9, code := some k9c1 }
/-- java/util/Objects -/
def k9 : Class := { plain "java/util/Objects" (some 0) with
  accessFlags := 49
  interfaces := #[]
  cf := some (fileOf pool9 42 #[] #[{ accessFlags := 2, nameIndex := 5, descriptorIndex := 6, attributes := #[] }, { accessFlags := 9, nameIndex := 45, descriptorIndex := 94, attributes := #[] }] 49 2 #[] #[])
  fields := #[]
  methods := #[k9m0, k9m1]
  instanceTypes := #[]
  staticTypes := #[]
  resolved := Array.replicate 184 none
  statics := none }

def pool10 : Array CpInfo := pool [(4, .class_ 6), (1, u "java/lang/Object"), (0, u "<init>"), (0, u "()V"), (5, .class_ 16), (1, u "java/lang/StringLatin1"), (104, u "$assertionsDisabled"), (0, u "Z"), (98, .class_ 223), (1, u "java/lang/StringLatin1$LinesSpliterator"), (57, u "equals"), (0, u "([B[B)Z"), (107, .class_ 391), (0, u "java/lang/StringLatin1$CharsSpliterator")] 3

def k10m0 : Method := { name := "<init>", desc := "()V", sig := { parameters := [], returnType := none }, accessFlags := 0, code := none }
def k10c1 : Code := { maxStack := 3, maxLocals := 3, code := jdk_43_method_13_code, exceptionTable := #[], attributes := #[] }
def k10m1 : Method := { name := "equals", desc := "([B[B)Z", sig := { parameters := [(.array .byte), (.array .byte)], returnType := some .boolean }, accessFlags := 9, code := some k10c1 }
/-- java/lang/StringLatin1 -/
def k10 : Class := { plain "java/lang/StringLatin1" (some 0) with
  accessFlags := 48
  interfaces := #[]
  cf := some (fileOf pool10 14 #[.nestMembers #[390, 221]] #[{ accessFlags := 0, nameIndex := 7, descriptorIndex := 8, attributes := #[] }, { accessFlags := 9, nameIndex := 281, descriptorIndex := 282, attributes := #[] }] 48 4 #[] #[{ accessFlags := 4120, nameIndex := 121, descriptorIndex := 122, attributes := #[] }])
  fields := #[{ name := "$assertionsDisabled", type := .boolean, accessFlags := 4120, slot := 0, constantValue := 0 }]
  methods := #[k10m0, k10m1]
  instanceTypes := #[]
  staticTypes := #[.boolean]
  resolved := Array.replicate 395 none
  statics := none }

def pool11 : Array CpInfo := pool [(1, .methodref 2 3), (0, .class_ 4), (0, .nameAndType 5 6), (0, u "java/lang/Object"), (0, u "<init>"), (0, u "()V"), (1, .class_ 10), (1, u "java/lang/Number"), (2, .class_ 14), (0, u "java/io/Serializable"), (0, u "serialVersionUID"), (0, u "J")] 20

def k11c0 : Code := { maxStack := 1, maxLocals := 1, code := jdk_18_method_1_code, exceptionTable := #[], attributes := #[] }
def k11m0 : Method := { name := "<init>", desc := "()V", sig := { parameters := [], returnType := none }, accessFlags := 1, code := some k11c0 }
/-- java/lang/Number -/
def k11 : Class := { plain "java/lang/Number" (some 0) with
  accessFlags := 1057
  interfaces := #[2]
  cf := some (fileOf pool11 8 #[] #[{ accessFlags := 1, nameIndex := 5, descriptorIndex := 6, attributes := #[] }] 1057 2 #[13] #[{ accessFlags := 26, nameIndex := 15, descriptorIndex := 16, attributes := #[] }])
  fields := #[{ name := "serialVersionUID", type := .long, accessFlags := 26, slot := 0, constantValue := 0 }]
  methods := #[k11m0]
  instanceTypes := #[]
  staticTypes := #[.long]
  resolved := Array.replicate 37 none
  statics := none }

def pool12 : Array CpInfo := pool [(1, .class_ 2), (0, u "java/lang/Integer"), (16, u "digits"), (0, u "[C"), (46, u "<init>"), (17, u "DigitOnes"), (0, u "[B"), (2, u "DigitTens"), (10, .nameAndType 67 101), (0, u "()V"), (85, u "valueOf"), (0, u "(I)Ljava/lang/Integer;"), (0, .class_ 190), (0, u "java/lang/Integer$IntegerCache"), (0, .fieldref 189 192), (0, .nameAndType 193 194), (0, u "high"), (0, u "I"), (0, .fieldref 189 196), (0, .nameAndType 197 198), (0, u "cache"), (0, u "[Ljava/lang/Integer;"), (0, .methodref 1 200), (0, .nameAndType 67 201), (0, u "(I)V"), (0, .methodref 203 100), (0, .class_ 204), (0, u "java/lang/Number"), (0, .fieldref 1 206), (0, .nameAndType 207 194), (0, u "value"), (94, u "TYPE"), (0, u "Ljava/lang/Class;"), (0, .class_ 305), (0, u "java/lang/Comparable"), (0, .class_ 307), (0, u "java/lang/constant/Constable"), (0, .class_ 309), (0, u "java/lang/constant/ConstantDesc"), (0, u "MIN_VALUE"), (1, u "MAX_VALUE"), (3, u "SIZE"), (1, u "BYTES"), (1, u "serialVersionUID"), (0, u "J")] 131

def k12c0 : Code := { maxStack := 3, maxLocals := 1, code := jdk_33_method_22_code, exceptionTable := #[], attributes := #[] }
def k12m0 : Method := { name := "valueOf", desc := "(I)Ljava/lang/Integer;", sig := { parameters := [.int], returnType := some (.object "java/lang/Integer") }, accessFlags := 9, code := some k12c0 }
def k12c1 : Code := { maxStack := 2, maxLocals := 2, code := jdk_33_method_23_code, exceptionTable := #[], attributes := #[] }
def k12m1 : Method := { name := "<init>", desc := "(I)V", sig := { parameters := [.int], returnType := none }, accessFlags := 1, code := some k12c1 }
/-- java/lang/Integer -/
def k12 : Class := { plain "java/lang/Integer" (some 11) with
  accessFlags := 49
  interfaces := #[3, 5, 6]
  cf := some (fileOf pool12 1 #[.nestMembers #[189]] #[{ accessFlags := 9, nameIndex := 187, descriptorIndex := 188, attributes := #[] }, { accessFlags := 1, nameIndex := 67, descriptorIndex := 201, attributes := #[] }] 49 203 #[304, 306, 308] #[{ accessFlags := 25, nameIndex := 310, descriptorIndex := 194, attributes := #[] }, { accessFlags := 25, nameIndex := 312, descriptorIndex := 194, attributes := #[] }, { accessFlags := 25, nameIndex := 302, descriptorIndex := 303, attributes := #[] }, { accessFlags := 24, nameIndex := 19, descriptorIndex := 20, attributes := #[] }, { accessFlags := 24, nameIndex := 89, descriptorIndex := 86, attributes := #[] }, { accessFlags := 24, nameIndex := 85, descriptorIndex := 86, attributes := #[] }, { accessFlags := 18, nameIndex := 207, descriptorIndex := 194, attributes := #[] }, { accessFlags := 25, nameIndex := 316, descriptorIndex := 194, attributes := #[] }, { accessFlags := 25, nameIndex := 318, descriptorIndex := 194, attributes := #[] }, { accessFlags := 26, nameIndex := 320, descriptorIndex := 321, attributes := #[] }])
  fields := #[{ name := "MIN_VALUE", type := .int, accessFlags := 25, slot := 0, constantValue := 0 }, { name := "MAX_VALUE", type := .int, accessFlags := 25, slot := 1, constantValue := 0 }, { name := "TYPE", type := (.object "java/lang/Class"), accessFlags := 25, slot := 2, constantValue := 0 }, { name := "digits", type := (.array .char), accessFlags := 24, slot := 3, constantValue := 0 }, { name := "DigitTens", type := (.array .byte), accessFlags := 24, slot := 4, constantValue := 0 }, { name := "DigitOnes", type := (.array .byte), accessFlags := 24, slot := 5, constantValue := 0 }, { name := "value", type := .int, accessFlags := 18, slot := 0, constantValue := 0 }, { name := "SIZE", type := .int, accessFlags := 25, slot := 6, constantValue := 0 }, { name := "BYTES", type := .int, accessFlags := 25, slot := 7, constantValue := 0 }, { name := "serialVersionUID", type := .long, accessFlags := 26, slot := 8, constantValue := 0 }]
  methods := #[k12m0, k12m1]
  instanceTypes := #[.int]
  staticTypes := #[.int, .int, (.object "java/lang/Class"), (.array .char), (.array .byte), (.array .byte), .int, .int, .long]
  resolved := Array.replicate 453 none
  statics := none }

def pool13 : Array CpInfo := pool [(6, .class_ 8), (1, u "java/lang/Object"), (0, u "<init>"), (0, u "()V"), (1, .class_ 14), (1, u "java/lang/StringUTF16"), (31, u "$assertionsDisabled"), (0, u "Z"), (13, u "HI_BYTE_SHIFT"), (0, u "I"), (2, u "LO_BYTE_SHIFT"), (49, .methodref 12 116), (0, .nameAndType 117 118), (0, u "compress"), (0, u "([CI[BII)I"), (3, u "([CII)[B"), (138, u "coderFromArrayLen"), (0, u "([BI)B"), (106, .class_ 371), (1, u "java/lang/StringUTF16$LinesSpliterator"), (58, u "MAX_LENGTH"), (196, .class_ 628), (0, u "java/lang/StringUTF16$CodePointsSpliterator"), (0, .class_ 630), (0, u "java/lang/StringUTF16$CharsSpliterator")] 4

def k13m0 : Method := { name := "<init>", desc := "()V", sig := { parameters := [], returnType := none }, accessFlags := 0, code := none }
def k13c1 : Code := { maxStack := 2, maxLocals := 2, code := jdk_52_method_15_code, exceptionTable := #[], attributes := #[] }
def k13m1 : Method := { name := "coderFromArrayLen", desc := "([BI)B", sig := { parameters := [(.array .byte), .int], returnType := some .byte }, accessFlags := 8, code := some k13c1 }
def k13c2 : Code := { maxStack := 5, maxLocals := 6, code := jdk_52_method_16_code, exceptionTable := #[], attributes := #[] }
def k13m2 : Method := { name := "compress", desc := "([CII)[B", sig := { parameters := [(.array .char), .int, .int], returnType := some (.array .byte) }, accessFlags := 9, code := some k13c2 }
def k13c3 : Code := { maxStack := 3, maxLocals := 7, code := jdk_52_method_21_code, exceptionTable := #[], attributes := #[] }
def k13m3 : Method := { name := "compress", desc := "([CI[BII)I", sig := { parameters := [(.array .char), .int, (.array .byte), .int, .int], returnType := some .int }, accessFlags := 9, code := some k13c3 }
/-- java/lang/StringUTF16 -/
def k13 : Class := { plain "java/lang/StringUTF16" (some 0) with
  accessFlags := 48
  interfaces := #[]
  cf := some (fileOf pool13 12 #[.nestMembers #[627, 629, 369]] #[{ accessFlags := 0, nameIndex := 9, descriptorIndex := 10, attributes := #[] }, { accessFlags := 8, nameIndex := 261, descriptorIndex := 262, attributes := #[] }, { accessFlags := 9, nameIndex := 117, descriptorIndex := 122, attributes := #[] }, { accessFlags := 9, nameIndex := 117, descriptorIndex := 118, attributes := #[] }] 48 6 #[] #[{ accessFlags := 26, nameIndex := 61, descriptorIndex := 62, attributes := #[] }, { accessFlags := 26, nameIndex := 65, descriptorIndex := 62, attributes := #[] }, { accessFlags := 24, nameIndex := 430, descriptorIndex := 62, attributes := #[] }, { accessFlags := 4120, nameIndex := 46, descriptorIndex := 47, attributes := #[] }])
  fields := #[{ name := "HI_BYTE_SHIFT", type := .int, accessFlags := 26, slot := 0, constantValue := 0 }, { name := "LO_BYTE_SHIFT", type := .int, accessFlags := 26, slot := 1, constantValue := 0 }, { name := "MAX_LENGTH", type := .int, accessFlags := 24, slot := 2, constantValue := 0 }, { name := "$assertionsDisabled", type := .boolean, accessFlags := 4120, slot := 3, constantValue := 0 }]
  methods := #[k13m0, k13m1, k13m2, k13m3]
  instanceTypes := #[]
  staticTypes := #[.int, .int, .int, .boolean]
  resolved := Array.replicate 635 none
  statics := none }

def pool14 : Array CpInfo := pool [(2, .class_ 4), (1, u "java/lang/Object"), (0, u "<init>"), (0, u "()V"), (0, .class_ 8), (0, u "java/lang/Integer"), (7, .class_ 18), (1, u "java/lang/Integer$IntegerCache"), (0, u "$assertionsDisabled"), (0, u "Z"), (26, u "high"), (0, u "I"), (8, u "archivedCache"), (0, u "[Ljava/lang/Integer;"), (12, u "cache"), (0, u "low")] 27

def k14m0 : Method := { name := "<init>", desc := "()V", sig := { parameters := [], returnType := none }, accessFlags := 2, code := none }
/-- java/lang/Integer$IntegerCache -/
def k14 : Class := { plain "java/lang/Integer$IntegerCache" (some 0) with
  accessFlags := 48
  interfaces := #[]
  cf := some (fileOf pool14 16 #[.nestHost 7] #[{ accessFlags := 2, nameIndex := 5, descriptorIndex := 6, attributes := #[] }] 48 2 #[] #[{ accessFlags := 24, nameIndex := 72, descriptorIndex := 48, attributes := #[] }, { accessFlags := 24, nameIndex := 47, descriptorIndex := 48, attributes := #[] }, { accessFlags := 24, nameIndex := 71, descriptorIndex := 58, attributes := #[] }, { accessFlags := 8, nameIndex := 57, descriptorIndex := 58, attributes := #[] }, { accessFlags := 4120, nameIndex := 19, descriptorIndex := 20, attributes := #[] }])
  fields := #[{ name := "low", type := .int, accessFlags := 24, slot := 0, constantValue := 0 }, { name := "high", type := .int, accessFlags := 24, slot := 1, constantValue := 0 }, { name := "cache", type := (.array (.object "java/lang/Integer")), accessFlags := 24, slot := 2, constantValue := 0 }, { name := "archivedCache", type := (.array (.object "java/lang/Integer")), accessFlags := 8, slot := 3, constantValue := 0 }, { name := "$assertionsDisabled", type := .boolean, accessFlags := 4120, slot := 4, constantValue := 0 }]
  methods := #[k14m0]
  instanceTypes := #[]
  staticTypes := #[.int, .int, (.array (.object "java/lang/Integer")), (.array (.object "java/lang/Integer")), .boolean]
  resolved := Array.replicate 100 none
  statics := some 1 }

def pool15 : Array CpInfo := pool [(2, .class_ 4), (1, u "java/lang/Object"), (0, u "<init>"), (0, u "()V"), (17, .class_ 26), (1, u "jdk/internal/util/Preconditions"), (28, .class_ 56), (0, u "jdk/internal/util/Preconditions$4"), (57, .class_ 115), (0, u "jdk/internal/util/Preconditions$1"), (7, u "SIOOBE_FORMATTER"), (0, u "Ljava/util/function/BiFunction;"), (0, .class_ 126), (0, u "jdk/internal/util/Preconditions$2"), (3, u "AIOOBE_FORMATTER"), (0, .class_ 132), (0, u "jdk/internal/util/Preconditions$3"), (3, u "IOOBE_FORMATTER")] 57

def k15m0 : Method := { name := "<init>", desc := "()V", sig := { parameters := [], returnType := none }, accessFlags := 1, code := none }
/-- jdk/internal/util/Preconditions -/
def k15 : Class := { plain "jdk/internal/util/Preconditions" (some 0) with
  accessFlags := 33
  interfaces := #[]
  cf := some (fileOf pool15 24 #[.nestMembers #[55, 131, 125, 114]] #[{ accessFlags := 1, nameIndex := 5, descriptorIndex := 6, attributes := #[] }] 33 2 #[] #[{ accessFlags := 25, nameIndex := 123, descriptorIndex := 124, attributes := #[] }, { accessFlags := 25, nameIndex := 130, descriptorIndex := 124, attributes := #[] }, { accessFlags := 25, nameIndex := 136, descriptorIndex := 124, attributes := #[] }])
  fields := #[{ name := "SIOOBE_FORMATTER", type := (.object "java/util/function/BiFunction"), accessFlags := 25, slot := 0, constantValue := 0 }, { name := "AIOOBE_FORMATTER", type := (.object "java/util/function/BiFunction"), accessFlags := 25, slot := 1, constantValue := 0 }, { name := "IOOBE_FORMATTER", type := (.object "java/util/function/BiFunction"), accessFlags := 25, slot := 2, constantValue := 0 }]
  methods := #[k15m0]
  instanceTypes := #[]
  staticTypes := #[(.object "java/util/function/BiFunction"), (.object "java/util/function/BiFunction"), (.object "java/util/function/BiFunction")]
  resolved := Array.replicate 194 none
  statics := some 2 }

def pool16 : Array CpInfo := pool [(9, u "<init>"), (6, .class_ 18), (1, u "java/lang/Object"), (0, u "()V"), (1, .class_ 23), (1, u "jdk/internal/util/ArraysSupport"), (0, u "LOG2_ARRAY_LONG_INDEX_SCALE"), (0, u "I"), (2, u "U"), (0, u "Ljdk/internal/misc/Unsafe;"), (8, u "BIG_ENDIAN"), (0, u "Z"), (8, u "LOG2_BYTE_BIT_SIZE"), (4, u "LOG2_ARRAY_INT_INDEX_SCALE"), (54, u "JLA"), (0, u "Ljdk/internal/access/JavaLangAccess;"), (11, u "LOG2_ARRAY_BOOLEAN_INDEX_SCALE"), (9, u "LOG2_ARRAY_BYTE_INDEX_SCALE"), (5, u "LOG2_ARRAY_CHAR_INDEX_SCALE"), (5, u "LOG2_ARRAY_SHORT_INDEX_SCALE"), (18, u "LOG2_ARRAY_FLOAT_INDEX_SCALE"), (24, u "LOG2_ARRAY_DOUBLE_INDEX_SCALE"), (89, u "T_BOOLEAN"), (2, u "T_CHAR"), (1, u "T_FLOAT"), (1, u "T_DOUBLE"), (1, u "T_BYTE"), (1, u "T_SHORT"), (1, u "T_INT"), (1, u "T_LONG"), (1, u "SOFT_MAX_ARRAY_LENGTH")] 83

def k16m0 : Method := { name := "<init>", desc := "()V", sig := { parameters := [], returnType := none }, accessFlags := 2, code := none }
/-- jdk/internal/util/ArraysSupport -/
def k16 : Class := { plain "jdk/internal/util/ArraysSupport" (some 0) with
  accessFlags := 33
  interfaces := #[]
  cf := some (fileOf pool16 21 #[] #[{ accessFlags := 2, nameIndex := 9, descriptorIndex := 19, attributes := #[] }] 33 16 #[] #[{ accessFlags := 24, nameIndex := 28, descriptorIndex := 29, attributes := #[] }, { accessFlags := 26, nameIndex := 38, descriptorIndex := 39, attributes := #[] }, { accessFlags := 25, nameIndex := 121, descriptorIndex := 25, attributes := #[] }, { accessFlags := 25, nameIndex := 131, descriptorIndex := 25, attributes := #[] }, { accessFlags := 25, nameIndex := 137, descriptorIndex := 25, attributes := #[] }, { accessFlags := 25, nameIndex := 143, descriptorIndex := 25, attributes := #[] }, { accessFlags := 25, nameIndex := 53, descriptorIndex := 25, attributes := #[] }, { accessFlags := 25, nameIndex := 24, descriptorIndex := 25, attributes := #[] }, { accessFlags := 25, nameIndex := 162, descriptorIndex := 25, attributes := #[] }, { accessFlags := 25, nameIndex := 187, descriptorIndex := 25, attributes := #[] }, { accessFlags := 26, nameIndex := 48, descriptorIndex := 25, attributes := #[] }, { accessFlags := 25, nameIndex := 277, descriptorIndex := 25, attributes := #[] }, { accessFlags := 25, nameIndex := 280, descriptorIndex := 25, attributes := #[] }, { accessFlags := 25, nameIndex := 282, descriptorIndex := 25, attributes := #[] }, { accessFlags := 25, nameIndex := 284, descriptorIndex := 25, attributes := #[] }, { accessFlags := 25, nameIndex := 286, descriptorIndex := 25, attributes := #[] }, { accessFlags := 25, nameIndex := 288, descriptorIndex := 25, attributes := #[] }, { accessFlags := 25, nameIndex := 290, descriptorIndex := 25, attributes := #[] }, { accessFlags := 25, nameIndex := 292, descriptorIndex := 25, attributes := #[] }, { accessFlags := 26, nameIndex := 108, descriptorIndex := 109, attributes := #[] }, { accessFlags := 25, nameIndex := 294, descriptorIndex := 25, attributes := #[] }])
  fields := #[{ name := "U", type := (.object "jdk/internal/misc/Unsafe"), accessFlags := 24, slot := 0, constantValue := 0 }, { name := "BIG_ENDIAN", type := .boolean, accessFlags := 26, slot := 1, constantValue := 0 }, { name := "LOG2_ARRAY_BOOLEAN_INDEX_SCALE", type := .int, accessFlags := 25, slot := 2, constantValue := 0 }, { name := "LOG2_ARRAY_BYTE_INDEX_SCALE", type := .int, accessFlags := 25, slot := 3, constantValue := 0 }, { name := "LOG2_ARRAY_CHAR_INDEX_SCALE", type := .int, accessFlags := 25, slot := 4, constantValue := 0 }, { name := "LOG2_ARRAY_SHORT_INDEX_SCALE", type := .int, accessFlags := 25, slot := 5, constantValue := 0 }, { name := "LOG2_ARRAY_INT_INDEX_SCALE", type := .int, accessFlags := 25, slot := 6, constantValue := 0 }, { name := "LOG2_ARRAY_LONG_INDEX_SCALE", type := .int, accessFlags := 25, slot := 7, constantValue := 0 }, { name := "LOG2_ARRAY_FLOAT_INDEX_SCALE", type := .int, accessFlags := 25, slot := 8, constantValue := 0 }, { name := "LOG2_ARRAY_DOUBLE_INDEX_SCALE", type := .int, accessFlags := 25, slot := 9, constantValue := 0 }, { name := "LOG2_BYTE_BIT_SIZE", type := .int, accessFlags := 26, slot := 10, constantValue := 0 }, { name := "T_BOOLEAN", type := .int, accessFlags := 25, slot := 11, constantValue := 0 }, { name := "T_CHAR", type := .int, accessFlags := 25, slot := 12, constantValue := 0 }, { name := "T_FLOAT", type := .int, accessFlags := 25, slot := 13, constantValue := 0 }, { name := "T_DOUBLE", type := .int, accessFlags := 25, slot := 14, constantValue := 0 }, { name := "T_BYTE", type := .int, accessFlags := 25, slot := 15, constantValue := 0 }, { name := "T_SHORT", type := .int, accessFlags := 25, slot := 16, constantValue := 0 }, { name := "T_INT", type := .int, accessFlags := 25, slot := 17, constantValue := 0 }, { name := "T_LONG", type := .int, accessFlags := 25, slot := 18, constantValue := 0 }, { name := "JLA", type := (.object "jdk/internal/access/JavaLangAccess"), accessFlags := 26, slot := 19, constantValue := 0 }, { name := "SOFT_MAX_ARRAY_LENGTH", type := .int, accessFlags := 25, slot := 20, constantValue := 0 }]
  methods := #[k16m0]
  instanceTypes := #[]
  staticTypes := #[(.object "jdk/internal/misc/Unsafe"), .boolean, .int, .int, .int, .int, .int, .int, .int, .int, .int, .int, .int, .int, .int, .int, .int, .int, .int, (.object "jdk/internal/access/JavaLangAccess"), .int]
  resolved := Array.replicate 378 none
  statics := none }

def pool17 : Array CpInfo := pool [(1, u "java/lang/Cloneable"), (0, .class_ 1), (0, u "java/lang/Object"), (0, .class_ 3)] 3

/-- java/lang/Cloneable -/
def k17 : Class := { plain "java/lang/Cloneable" (some 0) with
  accessFlags := 1537
  interfaces := #[]
  cf := some (fileOf pool17 2 #[] #[] 1537 4 #[] #[])
  fields := #[]
  methods := #[]
  instanceTypes := #[]
  staticTypes := #[]
  resolved := Array.replicate 8 none
  statics := none }

/-- the primitive byte -/
def k18 : Class := { plain "byte" none with kind := .primitive 'B', accessFlags := 0x411 }
/-- [B -/
def k19 : Class := { plain "[B" (some 0) with kind := .array 18 .byte, interfaces := #[17, 2], accessFlags := 1041 }

/-- the primitive char -/
def k20 : Class := { plain "char" none with kind := .primitive 'C', accessFlags := 0x411 }
/-- [C -/
def k21 : Class := { plain "[C" (some 0) with kind := .array 20 .char, interfaces := #[17, 2], accessFlags := 1041 }

/-- the primitive int -/
def k22 : Class := { plain "int" none with kind := .primitive 'I', accessFlags := 0x411 }
/-- [I -/
def k23 : Class := { plain "[I" (some 0) with kind := .array 22 .int, interfaces := #[17, 2], accessFlags := 1041 }

/-- [Ljava/lang/Integer; -/
def k24 : Class := { plain "[Ljava/lang/Integer;" (some 0) with kind := .array 12 (.object "java/lang/Integer"), interfaces := #[17, 2], accessFlags := 1041 }

def heap : Heap := #[{ cls := 7, slots := #[.long 0, .int 1, .null, .int 0, .null, .int 0, .int 0], vm := .statics 7 },
  { cls := 14, slots := #[.int 0, .int 127, .ref 3, .null, .int 0], vm := .statics 14 },
  { cls := 15, slots := #[.null, .null, .null], vm := .statics 15 },
  { cls := 24, slots := #[.ref 4, .ref 5, .ref 6, .ref 7, .ref 8, .ref 9, .ref 10, .ref 11, .ref 12, .ref 13, .ref 14, .ref 15, .ref 16, .ref 17, .ref 18, .ref 19, .ref 20, .ref 21, .ref 22, .ref 23, .ref 24, .ref 25, .ref 26, .ref 27, .ref 28, .ref 29, .ref 30, .ref 31, .ref 32, .ref 33, .ref 34, .ref 35, .ref 36, .ref 37, .ref 38, .ref 39, .ref 40, .ref 41, .ref 42, .ref 43, .ref 44, .ref 45, .ref 46, .ref 47, .ref 48, .ref 49, .ref 50, .ref 51, .ref 52, .ref 53, .ref 54, .ref 55, .ref 56, .ref 57, .ref 58, .ref 59, .ref 60, .ref 61, .ref 62, .ref 63, .ref 64, .ref 65, .ref 66, .ref 67, .ref 68, .ref 69, .ref 70, .ref 71, .ref 72, .ref 73, .ref 74, .ref 75, .ref 76, .ref 77, .ref 78, .ref 79, .ref 80, .ref 81, .ref 82, .ref 83, .ref 84, .ref 85, .ref 86, .ref 87, .ref 88, .ref 89, .ref 90, .ref 91, .ref 92, .ref 93, .ref 94, .ref 95, .ref 96, .ref 97, .ref 98, .ref 99, .ref 100, .ref 101, .ref 102, .ref 103, .ref 104, .ref 105, .ref 106, .ref 107, .ref 108, .ref 109, .ref 110, .ref 111, .ref 112, .ref 113, .ref 114, .ref 115, .ref 116, .ref 117, .ref 118, .ref 119, .ref 120, .ref 121, .ref 122, .ref 123, .ref 124, .ref 125, .ref 126, .ref 127, .ref 128, .ref 129, .ref 130, .ref 131, .ref 132, .ref 133, .ref 134, .ref 135, .ref 136, .ref 137, .ref 138, .ref 139, .ref 140, .ref 141, .ref 142, .ref 143, .ref 144, .ref 145, .ref 146, .ref 147, .ref 148, .ref 149, .ref 150, .ref 151, .ref 152, .ref 153, .ref 154, .ref 155, .ref 156, .ref 157, .ref 158, .ref 159, .ref 160, .ref 161, .ref 162, .ref 163, .ref 164, .ref 165, .ref 166, .ref 167, .ref 168, .ref 169, .ref 170, .ref 171, .ref 172, .ref 173, .ref 174, .ref 175, .ref 176, .ref 177, .ref 178, .ref 179, .ref 180, .ref 181, .ref 182, .ref 183, .ref 184, .ref 185, .ref 186, .ref 187, .ref 188, .ref 189, .ref 190, .ref 191, .ref 192, .ref 193, .ref 194, .ref 195, .ref 196, .ref 197, .ref 198, .ref 199, .ref 200, .ref 201, .ref 202, .ref 203, .ref 204, .ref 205, .ref 206, .ref 207, .ref 208, .ref 209, .ref 210, .ref 211, .ref 212, .ref 213, .ref 214, .ref 215, .ref 216, .ref 217, .ref 218, .ref 219, .ref 220, .ref 221, .ref 222, .ref 223, .ref 224, .ref 225, .ref 226, .ref 227, .ref 228, .ref 229, .ref 230, .ref 231, .ref 232, .ref 233, .ref 234, .ref 235, .ref 236, .ref 237, .ref 238, .ref 239, .ref 240, .ref 241, .ref 242, .ref 243, .ref 244, .ref 245, .ref 246, .ref 247, .ref 248, .ref 249, .ref 250, .ref 251, .ref 252, .ref 253, .ref 254, .ref 255, .ref 256, .ref 257, .ref 258, .ref 259], vm := .none },
  { cls := 12, slots := #[.int (-128)], vm := .none },
  { cls := 12, slots := #[.int (-127)], vm := .none },
  { cls := 12, slots := #[.int (-126)], vm := .none },
  { cls := 12, slots := #[.int (-125)], vm := .none },
  { cls := 12, slots := #[.int (-124)], vm := .none },
  { cls := 12, slots := #[.int (-123)], vm := .none },
  { cls := 12, slots := #[.int (-122)], vm := .none },
  { cls := 12, slots := #[.int (-121)], vm := .none },
  { cls := 12, slots := #[.int (-120)], vm := .none },
  { cls := 12, slots := #[.int (-119)], vm := .none },
  { cls := 12, slots := #[.int (-118)], vm := .none },
  { cls := 12, slots := #[.int (-117)], vm := .none },
  { cls := 12, slots := #[.int (-116)], vm := .none },
  { cls := 12, slots := #[.int (-115)], vm := .none },
  { cls := 12, slots := #[.int (-114)], vm := .none },
  { cls := 12, slots := #[.int (-113)], vm := .none },
  { cls := 12, slots := #[.int (-112)], vm := .none },
  { cls := 12, slots := #[.int (-111)], vm := .none },
  { cls := 12, slots := #[.int (-110)], vm := .none },
  { cls := 12, slots := #[.int (-109)], vm := .none },
  { cls := 12, slots := #[.int (-108)], vm := .none },
  { cls := 12, slots := #[.int (-107)], vm := .none },
  { cls := 12, slots := #[.int (-106)], vm := .none },
  { cls := 12, slots := #[.int (-105)], vm := .none },
  { cls := 12, slots := #[.int (-104)], vm := .none },
  { cls := 12, slots := #[.int (-103)], vm := .none },
  { cls := 12, slots := #[.int (-102)], vm := .none },
  { cls := 12, slots := #[.int (-101)], vm := .none },
  { cls := 12, slots := #[.int (-100)], vm := .none },
  { cls := 12, slots := #[.int (-99)], vm := .none },
  { cls := 12, slots := #[.int (-98)], vm := .none },
  { cls := 12, slots := #[.int (-97)], vm := .none },
  { cls := 12, slots := #[.int (-96)], vm := .none },
  { cls := 12, slots := #[.int (-95)], vm := .none },
  { cls := 12, slots := #[.int (-94)], vm := .none },
  { cls := 12, slots := #[.int (-93)], vm := .none },
  { cls := 12, slots := #[.int (-92)], vm := .none },
  { cls := 12, slots := #[.int (-91)], vm := .none },
  { cls := 12, slots := #[.int (-90)], vm := .none },
  { cls := 12, slots := #[.int (-89)], vm := .none },
  { cls := 12, slots := #[.int (-88)], vm := .none },
  { cls := 12, slots := #[.int (-87)], vm := .none },
  { cls := 12, slots := #[.int (-86)], vm := .none },
  { cls := 12, slots := #[.int (-85)], vm := .none },
  { cls := 12, slots := #[.int (-84)], vm := .none },
  { cls := 12, slots := #[.int (-83)], vm := .none },
  { cls := 12, slots := #[.int (-82)], vm := .none },
  { cls := 12, slots := #[.int (-81)], vm := .none },
  { cls := 12, slots := #[.int (-80)], vm := .none },
  { cls := 12, slots := #[.int (-79)], vm := .none },
  { cls := 12, slots := #[.int (-78)], vm := .none },
  { cls := 12, slots := #[.int (-77)], vm := .none },
  { cls := 12, slots := #[.int (-76)], vm := .none },
  { cls := 12, slots := #[.int (-75)], vm := .none },
  { cls := 12, slots := #[.int (-74)], vm := .none },
  { cls := 12, slots := #[.int (-73)], vm := .none },
  { cls := 12, slots := #[.int (-72)], vm := .none },
  { cls := 12, slots := #[.int (-71)], vm := .none },
  { cls := 12, slots := #[.int (-70)], vm := .none },
  { cls := 12, slots := #[.int (-69)], vm := .none },
  { cls := 12, slots := #[.int (-68)], vm := .none },
  { cls := 12, slots := #[.int (-67)], vm := .none },
  { cls := 12, slots := #[.int (-66)], vm := .none },
  { cls := 12, slots := #[.int (-65)], vm := .none },
  { cls := 12, slots := #[.int (-64)], vm := .none },
  { cls := 12, slots := #[.int (-63)], vm := .none },
  { cls := 12, slots := #[.int (-62)], vm := .none },
  { cls := 12, slots := #[.int (-61)], vm := .none },
  { cls := 12, slots := #[.int (-60)], vm := .none },
  { cls := 12, slots := #[.int (-59)], vm := .none },
  { cls := 12, slots := #[.int (-58)], vm := .none },
  { cls := 12, slots := #[.int (-57)], vm := .none },
  { cls := 12, slots := #[.int (-56)], vm := .none },
  { cls := 12, slots := #[.int (-55)], vm := .none },
  { cls := 12, slots := #[.int (-54)], vm := .none },
  { cls := 12, slots := #[.int (-53)], vm := .none },
  { cls := 12, slots := #[.int (-52)], vm := .none },
  { cls := 12, slots := #[.int (-51)], vm := .none },
  { cls := 12, slots := #[.int (-50)], vm := .none },
  { cls := 12, slots := #[.int (-49)], vm := .none },
  { cls := 12, slots := #[.int (-48)], vm := .none },
  { cls := 12, slots := #[.int (-47)], vm := .none },
  { cls := 12, slots := #[.int (-46)], vm := .none },
  { cls := 12, slots := #[.int (-45)], vm := .none },
  { cls := 12, slots := #[.int (-44)], vm := .none },
  { cls := 12, slots := #[.int (-43)], vm := .none },
  { cls := 12, slots := #[.int (-42)], vm := .none },
  { cls := 12, slots := #[.int (-41)], vm := .none },
  { cls := 12, slots := #[.int (-40)], vm := .none },
  { cls := 12, slots := #[.int (-39)], vm := .none },
  { cls := 12, slots := #[.int (-38)], vm := .none },
  { cls := 12, slots := #[.int (-37)], vm := .none },
  { cls := 12, slots := #[.int (-36)], vm := .none },
  { cls := 12, slots := #[.int (-35)], vm := .none },
  { cls := 12, slots := #[.int (-34)], vm := .none },
  { cls := 12, slots := #[.int (-33)], vm := .none },
  { cls := 12, slots := #[.int (-32)], vm := .none },
  { cls := 12, slots := #[.int (-31)], vm := .none },
  { cls := 12, slots := #[.int (-30)], vm := .none },
  { cls := 12, slots := #[.int (-29)], vm := .none },
  { cls := 12, slots := #[.int (-28)], vm := .none },
  { cls := 12, slots := #[.int (-27)], vm := .none },
  { cls := 12, slots := #[.int (-26)], vm := .none },
  { cls := 12, slots := #[.int (-25)], vm := .none },
  { cls := 12, slots := #[.int (-24)], vm := .none },
  { cls := 12, slots := #[.int (-23)], vm := .none },
  { cls := 12, slots := #[.int (-22)], vm := .none },
  { cls := 12, slots := #[.int (-21)], vm := .none },
  { cls := 12, slots := #[.int (-20)], vm := .none },
  { cls := 12, slots := #[.int (-19)], vm := .none },
  { cls := 12, slots := #[.int (-18)], vm := .none },
  { cls := 12, slots := #[.int (-17)], vm := .none },
  { cls := 12, slots := #[.int (-16)], vm := .none },
  { cls := 12, slots := #[.int (-15)], vm := .none },
  { cls := 12, slots := #[.int (-14)], vm := .none },
  { cls := 12, slots := #[.int (-13)], vm := .none },
  { cls := 12, slots := #[.int (-12)], vm := .none },
  { cls := 12, slots := #[.int (-11)], vm := .none },
  { cls := 12, slots := #[.int (-10)], vm := .none },
  { cls := 12, slots := #[.int (-9)], vm := .none },
  { cls := 12, slots := #[.int (-8)], vm := .none },
  { cls := 12, slots := #[.int (-7)], vm := .none },
  { cls := 12, slots := #[.int (-6)], vm := .none },
  { cls := 12, slots := #[.int (-5)], vm := .none },
  { cls := 12, slots := #[.int (-4)], vm := .none },
  { cls := 12, slots := #[.int (-3)], vm := .none },
  { cls := 12, slots := #[.int (-2)], vm := .none },
  { cls := 12, slots := #[.int (-1)], vm := .none },
  { cls := 12, slots := #[.int (0)], vm := .none },
  { cls := 12, slots := #[.int (1)], vm := .none },
  { cls := 12, slots := #[.int (2)], vm := .none },
  { cls := 12, slots := #[.int (3)], vm := .none },
  { cls := 12, slots := #[.int (4)], vm := .none },
  { cls := 12, slots := #[.int (5)], vm := .none },
  { cls := 12, slots := #[.int (6)], vm := .none },
  { cls := 12, slots := #[.int (7)], vm := .none },
  { cls := 12, slots := #[.int (8)], vm := .none },
  { cls := 12, slots := #[.int (9)], vm := .none },
  { cls := 12, slots := #[.int (10)], vm := .none },
  { cls := 12, slots := #[.int (11)], vm := .none },
  { cls := 12, slots := #[.int (12)], vm := .none },
  { cls := 12, slots := #[.int (13)], vm := .none },
  { cls := 12, slots := #[.int (14)], vm := .none },
  { cls := 12, slots := #[.int (15)], vm := .none },
  { cls := 12, slots := #[.int (16)], vm := .none },
  { cls := 12, slots := #[.int (17)], vm := .none },
  { cls := 12, slots := #[.int (18)], vm := .none },
  { cls := 12, slots := #[.int (19)], vm := .none },
  { cls := 12, slots := #[.int (20)], vm := .none },
  { cls := 12, slots := #[.int (21)], vm := .none },
  { cls := 12, slots := #[.int (22)], vm := .none },
  { cls := 12, slots := #[.int (23)], vm := .none },
  { cls := 12, slots := #[.int (24)], vm := .none },
  { cls := 12, slots := #[.int (25)], vm := .none },
  { cls := 12, slots := #[.int (26)], vm := .none },
  { cls := 12, slots := #[.int (27)], vm := .none },
  { cls := 12, slots := #[.int (28)], vm := .none },
  { cls := 12, slots := #[.int (29)], vm := .none },
  { cls := 12, slots := #[.int (30)], vm := .none },
  { cls := 12, slots := #[.int (31)], vm := .none },
  { cls := 12, slots := #[.int (32)], vm := .none },
  { cls := 12, slots := #[.int (33)], vm := .none },
  { cls := 12, slots := #[.int (34)], vm := .none },
  { cls := 12, slots := #[.int (35)], vm := .none },
  { cls := 12, slots := #[.int (36)], vm := .none },
  { cls := 12, slots := #[.int (37)], vm := .none },
  { cls := 12, slots := #[.int (38)], vm := .none },
  { cls := 12, slots := #[.int (39)], vm := .none },
  { cls := 12, slots := #[.int (40)], vm := .none },
  { cls := 12, slots := #[.int (41)], vm := .none },
  { cls := 12, slots := #[.int (42)], vm := .none },
  { cls := 12, slots := #[.int (43)], vm := .none },
  { cls := 12, slots := #[.int (44)], vm := .none },
  { cls := 12, slots := #[.int (45)], vm := .none },
  { cls := 12, slots := #[.int (46)], vm := .none },
  { cls := 12, slots := #[.int (47)], vm := .none },
  { cls := 12, slots := #[.int (48)], vm := .none },
  { cls := 12, slots := #[.int (49)], vm := .none },
  { cls := 12, slots := #[.int (50)], vm := .none },
  { cls := 12, slots := #[.int (51)], vm := .none },
  { cls := 12, slots := #[.int (52)], vm := .none },
  { cls := 12, slots := #[.int (53)], vm := .none },
  { cls := 12, slots := #[.int (54)], vm := .none },
  { cls := 12, slots := #[.int (55)], vm := .none },
  { cls := 12, slots := #[.int (56)], vm := .none },
  { cls := 12, slots := #[.int (57)], vm := .none },
  { cls := 12, slots := #[.int (58)], vm := .none },
  { cls := 12, slots := #[.int (59)], vm := .none },
  { cls := 12, slots := #[.int (60)], vm := .none },
  { cls := 12, slots := #[.int (61)], vm := .none },
  { cls := 12, slots := #[.int (62)], vm := .none },
  { cls := 12, slots := #[.int (63)], vm := .none },
  { cls := 12, slots := #[.int (64)], vm := .none },
  { cls := 12, slots := #[.int (65)], vm := .none },
  { cls := 12, slots := #[.int (66)], vm := .none },
  { cls := 12, slots := #[.int (67)], vm := .none },
  { cls := 12, slots := #[.int (68)], vm := .none },
  { cls := 12, slots := #[.int (69)], vm := .none },
  { cls := 12, slots := #[.int (70)], vm := .none },
  { cls := 12, slots := #[.int (71)], vm := .none },
  { cls := 12, slots := #[.int (72)], vm := .none },
  { cls := 12, slots := #[.int (73)], vm := .none },
  { cls := 12, slots := #[.int (74)], vm := .none },
  { cls := 12, slots := #[.int (75)], vm := .none },
  { cls := 12, slots := #[.int (76)], vm := .none },
  { cls := 12, slots := #[.int (77)], vm := .none },
  { cls := 12, slots := #[.int (78)], vm := .none },
  { cls := 12, slots := #[.int (79)], vm := .none },
  { cls := 12, slots := #[.int (80)], vm := .none },
  { cls := 12, slots := #[.int (81)], vm := .none },
  { cls := 12, slots := #[.int (82)], vm := .none },
  { cls := 12, slots := #[.int (83)], vm := .none },
  { cls := 12, slots := #[.int (84)], vm := .none },
  { cls := 12, slots := #[.int (85)], vm := .none },
  { cls := 12, slots := #[.int (86)], vm := .none },
  { cls := 12, slots := #[.int (87)], vm := .none },
  { cls := 12, slots := #[.int (88)], vm := .none },
  { cls := 12, slots := #[.int (89)], vm := .none },
  { cls := 12, slots := #[.int (90)], vm := .none },
  { cls := 12, slots := #[.int (91)], vm := .none },
  { cls := 12, slots := #[.int (92)], vm := .none },
  { cls := 12, slots := #[.int (93)], vm := .none },
  { cls := 12, slots := #[.int (94)], vm := .none },
  { cls := 12, slots := #[.int (95)], vm := .none },
  { cls := 12, slots := #[.int (96)], vm := .none },
  { cls := 12, slots := #[.int (97)], vm := .none },
  { cls := 12, slots := #[.int (98)], vm := .none },
  { cls := 12, slots := #[.int (99)], vm := .none },
  { cls := 12, slots := #[.int (100)], vm := .none },
  { cls := 12, slots := #[.int (101)], vm := .none },
  { cls := 12, slots := #[.int (102)], vm := .none },
  { cls := 12, slots := #[.int (103)], vm := .none },
  { cls := 12, slots := #[.int (104)], vm := .none },
  { cls := 12, slots := #[.int (105)], vm := .none },
  { cls := 12, slots := #[.int (106)], vm := .none },
  { cls := 12, slots := #[.int (107)], vm := .none },
  { cls := 12, slots := #[.int (108)], vm := .none },
  { cls := 12, slots := #[.int (109)], vm := .none },
  { cls := 12, slots := #[.int (110)], vm := .none },
  { cls := 12, slots := #[.int (111)], vm := .none },
  { cls := 12, slots := #[.int (112)], vm := .none },
  { cls := 12, slots := #[.int (113)], vm := .none },
  { cls := 12, slots := #[.int (114)], vm := .none },
  { cls := 12, slots := #[.int (115)], vm := .none },
  { cls := 12, slots := #[.int (116)], vm := .none },
  { cls := 12, slots := #[.int (117)], vm := .none },
  { cls := 12, slots := #[.int (118)], vm := .none },
  { cls := 12, slots := #[.int (119)], vm := .none },
  { cls := 12, slots := #[.int (120)], vm := .none },
  { cls := 12, slots := #[.int (121)], vm := .none },
  { cls := 12, slots := #[.int (122)], vm := .none },
  { cls := 12, slots := #[.int (123)], vm := .none },
  { cls := 12, slots := #[.int (124)], vm := .none },
  { cls := 12, slots := #[.int (125)], vm := .none },
  { cls := 12, slots := #[.int (126)], vm := .none },
  { cls := 12, slots := #[.int (127)], vm := .none }]
def classes : Array Class := #[k0, k1, k2, k3, k4, k5, k6, k7, k8, k9, k10, k11, k12, k13, k14, k15, k16, k17, k18, k19, k20, k21, k22, k23, k24]
def interned : List (Array UInt16 × Addr) := []
def slotsUsed : Nat := 527
def theMethod : MethodId := ⟨1, 4⟩
def args0 : Array Value := #[.int 65537, .int 65538, .int 2, .int 1, .int 0]
def aboutOver (below : List Frame) : State where
  vm := { classes := classes, interned := interned.toArray }
  heap := heap
  slotsUsed := slotsUsed
  threads := #[{ frames := .invoking theMethod args0 :: below }]
def below0 : List Frame := [.native { method := ⟨0, 0⟩, args := #[] }]
def about1 : State := aboutOver below0
def p0 : Program := .bare "" "" ""
def e0 : Env := launch0.env 0 0 0
theorem w_frames : about1.frames = Frame.invoking theMethod args0 :: below0 := rfl
set_option maxRecDepth 65536 in
theorem w_args : argsFit about1.vm theMethod args0 = true := by decide +kernel
set_option maxRecDepth 65536 in
theorem w_heap : heapFits about1 = true := by decide +kernel
set_option maxRecDepth 65536 in
theorem w_runnable : about1.curStatus? = some .runnable := by decide +kernel
set_option maxRecDepth 65536 in
theorem w_alone : about1.alone = true := by decide +kernel
set_option maxRecDepth 65536 in
theorem w_named : about1.methodNamed? x = some theMethod := by decide +kernel
set_option maxRecDepth 65536 in
theorem w_hears : about1.hears theMethod below0 = true := by decide +kernel
set_option maxRecDepth 65536 in
theorem w_ripe : about1.ripe theMethod args0 below0 = true := by decide +kernel
theorem w_running : about1.status = .running := rfl
set_option maxRecDepth 65536 in
theorem w_room : about1.hasRoom e0.platform room_1 = true :=
  launch0.hasRoom_least _ room_1 (by decide +kernel) (by decide +kernel) (by decide +kernel) (by decide +kernel) (by decide +kernel) (by decide +kernel)
theorem allAtoms_all (ts : List Jvm.Cond) (a : Array Jvm.Value) (st : Jvm.State) : (allAtoms ts).before a st = ts.all (fun c => c.before a st) := by
  induction ts with
  | nil => rfl
  | cons c t ih =>
    show (Jvm.Cond.and c (allAtoms t)).before a st = _
    rw [Jvm.Cond.before_and, ih, List.all_cons]
def words1 : List Jvm.Cond := Jvm.Cond.code x code maxLocals ret :: tables_1
/-- a 'code' word, met by the world's own term for the bytes: nothing is compared byte by byte -/
theorem code_word {y : MethodName} {bytes : ByteArray} {mx : Nat} {rt : Option FieldType} {a : Array Value} {s : State} {m : MethodId} {meth : Method} {c : Code} (h1 : s.methodNamed? y = some m) (h2 : s.vm.method? m = some meth) (h3 : meth.code = some c) (h4 : c.code = bytes)
    (h5 : (c.maxLocals == mx && c.exceptionTable.isEmpty && decide (c.maxStack ≤ mostOperands) && decide (meth.sig.returnType = rt) && !meth.locks && decide (parseMethodDescriptor y.desc = some meth.sig)) = true) : (Jvm.Cond.code y bytes mx rt).before a s = true := by
  simp only [Bool.and_eq_true, beq_iff_eq, Bool.not_eq_true', decide_eq_true_eq] at h5
  obtain ⟨⟨⟨⟨⟨g1, g2⟩, g3⟩, g4⟩, g5⟩, g6⟩ := h5
  simp [Cond.before, Cond.holds, Cond.value, h1, h2, h3, h4, g1, g2, g3, g4, g5, g6]
def isCode : Jvm.Cond → Bool
  | .code _ _ _ _ => true
  | _ => false
theorem all_split {L : List Jvm.Cond} {P : Jvm.Cond → Bool} (h1 : L.all (fun c => isCode c || P c) = true) (h2 : ∀ c ∈ L.filter isCode, P c = true) : L.all P = true := by
  refine List.all_eq_true.mpr fun c hc => ?_
  have h := List.all_eq_true.mp h1 c hc
  rcases Bool.eq_false_or_eq_true (isCode c) with hi | hi
  · exact h2 c (List.mem_filter.mpr ⟨hc, hi⟩)
  · simpa [hi] using h
set_option maxRecDepth 65536 in
theorem w_c0 : (Jvm.Cond.code x code maxLocals ret).before args0 about1 = true := code_word (m := ⟨1, 4⟩) (meth := k1m4) (c := k1c4) (by decide +kernel) rfl rfl rfl (by decide +kernel)
set_option maxRecDepth 65536 in
theorem w_c1 : (Jvm.Cond.code ({ cls := "com/example/tasks_to_members/taskstomembers/core/TaskEqualsPinLaw", name := "mk", desc := "(I)Ljava/lang/String;" } : Jvm.MethodName) method_3_code (5 : Nat) (Option.some (Jvm.ClassFile.FieldType.object "java/lang/String"))).before args0 about1 = true := code_word (m := ⟨1, 2⟩) (meth := k1m2) (c := k1c2) (by decide +kernel) rfl rfl rfl (by decide +kernel)
set_option maxRecDepth 65536 in
theorem w_c2 : (Jvm.Cond.code ({ cls := "com/example/tasks_to_members/taskstomembers/core/TaskEqualsPinLaw", name := "len", desc := "(I)I" } : Jvm.MethodName) method_2_code (1 : Nat) (Option.some Jvm.ClassFile.FieldType.int)).before args0 about1 = true := code_word (m := ⟨1, 1⟩) (meth := k1m1) (c := k1c1) (by decide +kernel) rfl rfl rfl (by decide +kernel)
set_option maxRecDepth 65536 in
theorem w_c3 : (Jvm.Cond.code ({ cls := "java/lang/String", name := "<init>", desc := "([C)V" } : Jvm.MethodName) jdk_42_method_3_code (2 : Nat) (Option.none : Option Jvm.ClassFile.FieldType)).before args0 about1 = true := code_word (m := ⟨7, 1⟩) (meth := k7m1) (c := k7c1) (by decide +kernel) rfl rfl rfl (by decide +kernel)
set_option maxRecDepth 65536 in
theorem w_c4 : (Jvm.Cond.code ({ cls := "java/lang/String", name := "<init>", desc := "([CIILjava/lang/Void;)V" } : Jvm.MethodName) jdk_42_method_149_code (6 : Nat) (Option.none : Option Jvm.ClassFile.FieldType)).before args0 about1 = true := code_word (m := ⟨7, 3⟩) (meth := k7m3) (c := k7c3) (by decide +kernel) rfl rfl rfl (by decide +kernel)
set_option maxRecDepth 65536 in
theorem w_c5 : (Jvm.Cond.code ({ cls := "java/lang/Object", name := "<init>", desc := "()V" } : Jvm.MethodName) object_method_1_code (1 : Nat) (Option.none : Option Jvm.ClassFile.FieldType)).before args0 about1 = true := code_word (m := ⟨0, 0⟩) (meth := k0m0) (c := k0c0) (by decide +kernel) rfl rfl rfl (by decide +kernel)
set_option maxRecDepth 65536 in
theorem w_c6 : (Jvm.Cond.code ({ cls := "com/example/tasks_to_members/taskstomembers/core/Task", name := "<init>", desc := "(Ljava/lang/String;I)V" } : Jvm.MethodName) prog_6_method_1_code (3 : Nat) (Option.none : Option Jvm.ClassFile.FieldType)).before args0 about1 = true := code_word (m := ⟨8, 0⟩) (meth := k8m0) (c := k8c0) (by decide +kernel) rfl rfl rfl (by decide +kernel)
set_option maxRecDepth 65536 in
theorem w_c7 : (Jvm.Cond.code ({ cls := "java/util/Objects", name := "requireNonNull", desc := "(Ljava/lang/Object;Ljava/lang/String;)Ljava/lang/Object;" } : Jvm.MethodName) jdk_31_method_11_code (2 : Nat) (Option.some (Jvm.ClassFile.FieldType.object "java/lang/Object"))).before args0 about1 = true := code_word (m := ⟨9, 1⟩) (meth := k9m1) (c := k9c1) (by decide +kernel) rfl rfl rfl (by decide +kernel)
set_option maxRecDepth 65536 in
theorem w_c8 : (Jvm.Cond.code ({ cls := "com/example/tasks_to_members/taskstomembers/core/TaskEqualsPinLaw", name := "sameId", desc := "(II)Z" } : Jvm.MethodName) method_4_code (4 : Nat) (Option.some Jvm.ClassFile.FieldType.boolean)).before args0 about1 = true := code_word (m := ⟨1, 3⟩) (meth := k1m3) (c := k1c3) (by decide +kernel) rfl rfl rfl (by decide +kernel)
set_option maxRecDepth 65536 in
theorem w_c9 : (Jvm.Cond.code ({ cls := "com/example/tasks_to_members/taskstomembers/core/Task", name := "equals", desc := "(Ljava/lang/Object;)Z" } : Jvm.MethodName) prog_6_method_5_code (2 : Nat) (Option.some Jvm.ClassFile.FieldType.boolean)).before args0 about1 = true := code_word (m := ⟨8, 1⟩) (meth := k8m1) (c := k8c1) (by decide +kernel) rfl rfl rfl (by decide +kernel)
set_option maxRecDepth 65536 in
theorem w_c10 : (Jvm.Cond.code ({ cls := "java/lang/String", name := "equals", desc := "(Ljava/lang/Object;)Z" } : Jvm.MethodName) jdk_42_method_66_code (3 : Nat) (Option.some Jvm.ClassFile.FieldType.boolean)).before args0 about1 = true := code_word (m := ⟨7, 2⟩) (meth := k7m2) (c := k7c2) (by decide +kernel) rfl rfl rfl (by decide +kernel)
set_option maxRecDepth 65536 in
theorem w_c11 : (Jvm.Cond.code ({ cls := "java/lang/StringLatin1", name := "equals", desc := "([B[B)Z" } : Jvm.MethodName) jdk_43_method_13_code (3 : Nat) (Option.some Jvm.ClassFile.FieldType.boolean)).before args0 about1 = true := code_word (m := ⟨10, 1⟩) (meth := k10m1) (c := k10c1) (by decide +kernel) rfl rfl rfl (by decide +kernel)
set_option maxRecDepth 65536 in
theorem w_c12 : (Jvm.Cond.code ({ cls := "java/lang/Integer", name := "valueOf", desc := "(I)Ljava/lang/Integer;" } : Jvm.MethodName) jdk_33_method_22_code (1 : Nat) (Option.some (Jvm.ClassFile.FieldType.object "java/lang/Integer"))).before args0 about1 = true := code_word (m := ⟨12, 0⟩) (meth := k12m0) (c := k12c0) (by decide +kernel) rfl rfl rfl (by decide +kernel)
set_option maxRecDepth 65536 in
theorem w_c13 : (Jvm.Cond.code ({ cls := "java/lang/Integer", name := "<init>", desc := "(I)V" } : Jvm.MethodName) jdk_33_method_23_code (2 : Nat) (Option.none : Option Jvm.ClassFile.FieldType)).before args0 about1 = true := code_word (m := ⟨12, 1⟩) (meth := k12m1) (c := k12c1) (by decide +kernel) rfl rfl rfl (by decide +kernel)
set_option maxRecDepth 65536 in
theorem w_c14 : (Jvm.Cond.code ({ cls := "java/lang/Number", name := "<init>", desc := "()V" } : Jvm.MethodName) jdk_18_method_1_code (1 : Nat) (Option.none : Option Jvm.ClassFile.FieldType)).before args0 about1 = true := code_word (m := ⟨11, 0⟩) (meth := k11m0) (c := k11c0) (by decide +kernel) rfl rfl rfl (by decide +kernel)
set_option maxRecDepth 65536 in
theorem w_c15 : (Jvm.Cond.code ({ cls := "java/lang/StringUTF16", name := "compress", desc := "([CII)[B" } : Jvm.MethodName) jdk_52_method_16_code (6 : Nat) (Option.some (Jvm.ClassFile.FieldType.array Jvm.ClassFile.FieldType.byte))).before args0 about1 = true := code_word (m := ⟨13, 2⟩) (meth := k13m2) (c := k13c2) (by decide +kernel) rfl rfl rfl (by decide +kernel)
set_option maxRecDepth 65536 in
theorem w_c16 : (Jvm.Cond.code ({ cls := "java/lang/StringUTF16", name := "compress", desc := "([CI[BII)I" } : Jvm.MethodName) jdk_52_method_21_code (7 : Nat) (Option.some Jvm.ClassFile.FieldType.int)).before args0 about1 = true := code_word (m := ⟨13, 3⟩) (meth := k13m3) (c := k13c3) (by decide +kernel) rfl rfl rfl (by decide +kernel)
set_option maxRecDepth 65536 in
theorem w_c17 : (Jvm.Cond.code ({ cls := "java/lang/StringUTF16", name := "coderFromArrayLen", desc := "([BI)B" } : Jvm.MethodName) jdk_52_method_15_code (2 : Nat) (Option.some Jvm.ClassFile.FieldType.byte)).before args0 about1 = true := code_word (m := ⟨13, 1⟩) (meth := k13m1) (c := k13c1) (by decide +kernel) rfl rfl rfl (by decide +kernel)
def codes1 : List Jvm.Cond := [Jvm.Cond.code x code maxLocals ret, Jvm.Cond.code ({ cls := "com/example/tasks_to_members/taskstomembers/core/TaskEqualsPinLaw", name := "mk", desc := "(I)Ljava/lang/String;" } : Jvm.MethodName) method_3_code (5 : Nat) (Option.some (Jvm.ClassFile.FieldType.object "java/lang/String")), Jvm.Cond.code ({ cls := "com/example/tasks_to_members/taskstomembers/core/TaskEqualsPinLaw", name := "len", desc := "(I)I" } : Jvm.MethodName) method_2_code (1 : Nat) (Option.some Jvm.ClassFile.FieldType.int), Jvm.Cond.code ({ cls := "java/lang/String", name := "<init>", desc := "([C)V" } : Jvm.MethodName) jdk_42_method_3_code (2 : Nat) (Option.none : Option Jvm.ClassFile.FieldType), Jvm.Cond.code ({ cls := "java/lang/String", name := "<init>", desc := "([CIILjava/lang/Void;)V" } : Jvm.MethodName) jdk_42_method_149_code (6 : Nat) (Option.none : Option Jvm.ClassFile.FieldType), Jvm.Cond.code ({ cls := "java/lang/Object", name := "<init>", desc := "()V" } : Jvm.MethodName) object_method_1_code (1 : Nat) (Option.none : Option Jvm.ClassFile.FieldType), Jvm.Cond.code ({ cls := "com/example/tasks_to_members/taskstomembers/core/Task", name := "<init>", desc := "(Ljava/lang/String;I)V" } : Jvm.MethodName) prog_6_method_1_code (3 : Nat) (Option.none : Option Jvm.ClassFile.FieldType), Jvm.Cond.code ({ cls := "java/util/Objects", name := "requireNonNull", desc := "(Ljava/lang/Object;Ljava/lang/String;)Ljava/lang/Object;" } : Jvm.MethodName) jdk_31_method_11_code (2 : Nat) (Option.some (Jvm.ClassFile.FieldType.object "java/lang/Object")), Jvm.Cond.code ({ cls := "com/example/tasks_to_members/taskstomembers/core/TaskEqualsPinLaw", name := "sameId", desc := "(II)Z" } : Jvm.MethodName) method_4_code (4 : Nat) (Option.some Jvm.ClassFile.FieldType.boolean), Jvm.Cond.code ({ cls := "com/example/tasks_to_members/taskstomembers/core/Task", name := "equals", desc := "(Ljava/lang/Object;)Z" } : Jvm.MethodName) prog_6_method_5_code (2 : Nat) (Option.some Jvm.ClassFile.FieldType.boolean), Jvm.Cond.code ({ cls := "java/lang/String", name := "equals", desc := "(Ljava/lang/Object;)Z" } : Jvm.MethodName) jdk_42_method_66_code (3 : Nat) (Option.some Jvm.ClassFile.FieldType.boolean), Jvm.Cond.code ({ cls := "java/lang/StringLatin1", name := "equals", desc := "([B[B)Z" } : Jvm.MethodName) jdk_43_method_13_code (3 : Nat) (Option.some Jvm.ClassFile.FieldType.boolean), Jvm.Cond.code ({ cls := "java/lang/Integer", name := "valueOf", desc := "(I)Ljava/lang/Integer;" } : Jvm.MethodName) jdk_33_method_22_code (1 : Nat) (Option.some (Jvm.ClassFile.FieldType.object "java/lang/Integer")), Jvm.Cond.code ({ cls := "java/lang/Integer", name := "<init>", desc := "(I)V" } : Jvm.MethodName) jdk_33_method_23_code (2 : Nat) (Option.none : Option Jvm.ClassFile.FieldType), Jvm.Cond.code ({ cls := "java/lang/Number", name := "<init>", desc := "()V" } : Jvm.MethodName) jdk_18_method_1_code (1 : Nat) (Option.none : Option Jvm.ClassFile.FieldType), Jvm.Cond.code ({ cls := "java/lang/StringUTF16", name := "compress", desc := "([CII)[B" } : Jvm.MethodName) jdk_52_method_16_code (6 : Nat) (Option.some (Jvm.ClassFile.FieldType.array Jvm.ClassFile.FieldType.byte)), Jvm.Cond.code ({ cls := "java/lang/StringUTF16", name := "compress", desc := "([CI[BII)I" } : Jvm.MethodName) jdk_52_method_21_code (7 : Nat) (Option.some Jvm.ClassFile.FieldType.int), Jvm.Cond.code ({ cls := "java/lang/StringUTF16", name := "coderFromArrayLen", desc := "([BI)B" } : Jvm.MethodName) jdk_52_method_15_code (2 : Nat) (Option.some Jvm.ClassFile.FieldType.byte)]
set_option maxRecDepth 65536 in
theorem codes_eq : words1.filter isCode = codes1 := rfl
theorem w_codes : ∀ c ∈ words1.filter isCode, c.before args0 about1 = true := by
  rw [codes_eq]
  intro c hc
  simp only [codes1, List.mem_cons, List.not_mem_nil, or_false] at hc
  rcases hc with rfl | rfl | rfl | rfl | rfl | rfl | rfl | rfl | rfl | rfl | rfl | rfl | rfl | rfl | rfl | rfl | rfl | rfl
  · exact w_c0
  · exact w_c1
  · exact w_c2
  · exact w_c3
  · exact w_c4
  · exact w_c5
  · exact w_c6
  · exact w_c7
  · exact w_c8
  · exact w_c9
  · exact w_c10
  · exact w_c11
  · exact w_c12
  · exact w_c13
  · exact w_c14
  · exact w_c15
  · exact w_c16
  · exact w_c17
set_option maxRecDepth 65536 in
theorem w_t1 : (words1.take 24).all (fun c => isCode c || c.before args0 about1) = true := by decide +kernel
set_option maxRecDepth 65536 in
theorem w_t2 : ((words1.drop 24).take 24).all (fun c => isCode c || c.before args0 about1) = true := by decide +kernel
set_option maxRecDepth 65536 in
theorem w_t3 : (((words1.drop 24).drop 24).take 24).all (fun c => isCode c || c.before args0 about1) = true := by decide +kernel
set_option maxRecDepth 65536 in
theorem w_t4 : ((((words1.drop 24).drop 24).drop 24).take 24).all (fun c => isCode c || c.before args0 about1) = true := by decide +kernel
set_option maxRecDepth 65536 in
theorem w_t5 : ((((words1.drop 24).drop 24).drop 24).drop 24).all (fun c => isCode c || c.before args0 about1) = true := by decide +kernel
theorem w_tables : (allAtoms (Jvm.Cond.code x code maxLocals ret :: tables_1)).before args0 about1 = true := by
  rw [allAtoms_all]
  show words1.all (fun c => c.before args0 about1) = true
  refine all_split ?_ w_codes
  rw [← List.take_append_drop 24 words1, List.all_append, w_t1, ← List.take_append_drop 24 (words1.drop 24), List.all_append, w_t2, ← List.take_append_drop 24 ((words1.drop 24).drop 24), List.all_append, w_t3, ← List.take_append_drop 24 (((words1.drop 24).drop 24).drop 24), List.all_append, w_t4, w_t5]
  rfl
set_option maxRecDepth 65536 in
theorem w_rest : rest_1_c.before args0 about1 = true := by decide +kernel
set_option maxRecDepth 65536 in
theorem w_case : (Jvm.Cond.and given_1 narrow_1).before args0 about1 = true := by decide +kernel
set_option maxRecDepth 65536 in
theorem w_consts : constsHeld consts_1 about1 := Jvm.Lit.constsHeldB_iff.mp (by decide +kernel)
theorem w_applies : (headSpec (Jvm.Cond.code x code maxLocals ret :: tables_1) room_1).applies x e0.platform about1 = true :=
  (Spec.applies_iff w_frames).mpr ⟨w_running, w_runnable, w_alone, w_named, w_hears, w_ripe, w_room, w_tables⟩
theorem atStart : AtStart classFile x code maxLocals ret World_1 tables_1 room_1 Calls_1 rest_1 Pre_1 launch0 p0 e0 about1 theMethod args0 below0 :=
  ⟨lists_1, trivial, launch0.admits_env _ _ _, launch0.least_env, fairChoices_fair.cas, fairChoices_fair.clock, w_frames, w_args, w_heap, w_applies, ⟨w_consts, trivial⟩, w_rest, w_case⟩
end start1
theorem witness_1 : WitnessClaimed_1 := ⟨start1.p0, start1.e0, start1.about1, start1.theMethod, start1.args0, start1.below0, start1.atStart⟩
end Jvm.Pilot.@@N@@
