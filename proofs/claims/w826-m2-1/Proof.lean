import JvmDerived
import JvmDerived.Pilot.@@N@@Statement
import JvmDerived.Pilot.@@N@@Code
set_option linter.unusedVariables false
set_option linter.unusedSimpArgs false
namespace Jvm.OwnKit
open Sem ClassFile Op Lib Bundle Jvm.Stand Jvm.Free Jvm.LawKit Jvm.RoadKit
section Kit
variable {p : Program} {l : Launch} {e : Env} {R : Room} {s : State} {m : MethodId} {args : Array Value} {below : List Frame} {meth : Method} {c : Code} {Z : State} {a0 : Array Value} {EL : List (String × Nat)} {own : String} {Q : Option Value → Vm → Heap → Prop} {vm : Vm} {h : Heap} {cells slots : Nat} {g : JFrame}
/-- the k-th word -/
theorem ow {L : List Jvm.Cond} (hw : ∀ d ∈ L, d.before a0 Z = true) (k : Nat) {d : Jvm.Cond} (q : L[k]? = some d) : d.before a0 Z = true := hw _ (List.mem_of_getElem? q)
/-- a standing place of a walk that may have interned: tables vm, heap h, usage -/
def St (p : Program) (l : Launch) (e : Env) (R : Room) (s : State) (m : MethodId) (args : Array Value) (below : List Frame) (meth : Method) (c : Code) (Z : State) (a0 : Array Value) (EL : List (String × Nat)) (own : String) (vm : Vm) (T : State) (h : Heap) (cells slots : Nat) : Prop :=
  ∃ (locs : List Loc) (k0 : Nat), Stand p l e R (s.setVm vm) m args below meth c T locs cells slots ∧ T.heap = h ∧ Z.Warmed39 vm ∧ vm.findClass own = some m.cls ∧ s.Since vm k0 ∧ k0 ≤ h.size ∧ Fr Z.heap.size locs ∧ CHr Z EL s.vm s.heap vm h ∧ Ext Z.heap s.heap ∧ EW Z a0 EL ∧ p.tables.exec = Jvm.exec ∧ meth.locks = false
/-- from every such place with this frame the method ends as Q says -/
def Go (p : Program) (l : Launch) (e : Env) (R : Room) (s : State) (m : MethodId) (args : Array Value) (below : List Frame) (meth : Method) (c : Code) (Z : State) (a0 : Array Value) (EL : List (String × Nat)) (own : String) (Q : Option Value → Vm → Heap → Prop) (vm : Vm) (h : Heap) (cells slots : Nat) (g : JFrame) : Prop :=
  ∀ T, St p l e R s m args below meth c Z a0 EL own vm T h cells slots → ∃ s₂ o, Steps p.tables e below (T.setTop g) s₂ ∧ s₂.status = .running ∧ Ended s₂ below o ∧
    ∃ v L, o = .returned v ∧ (Fr Z.heap.size L ∧ Q v s₂.vm s₂.heap) ∧ CHr Z EL s.vm s.heap s₂.vm s₂.heap ∧ ReturnedEndW s o s₂ L R.cells R.slots
/-- a plain step -/
theorem gs (g' : JFrame) (st : ∀ T target, At T m c below → Steps p.tables e below (T.setTop g') target → Steps p.tables e below (T.setTop g) target)
    (k : Go p l e R s m args below meth c Z a0 EL own Q vm h cells slots g') : Go p l e R s m args below meth c Z a0 EL own Q vm h cells slots g := fun T X => by
  obtain ⟨s2, o, q1, q2⟩ := k T X
  obtain ⟨locs, k0, X', -⟩ := X
  exact ⟨s2, o, st _ _ X'.here q1, q2⟩
theorem gat (g' : JFrame) (q : g = g') (k : Go p l e R s m args below meth c Z a0 EL own Q vm h cells slots g') : Go p l e R s m args below meth c Z a0 EL own Q vm h cells slots g := q ▸ k
/-- a step that asks the standing place -/
theorem gx (g' : JFrame) (st : ∀ T locs, Stand p l e R (s.setVm vm) m args below meth c T locs cells slots → Z.Warmed39 vm → vm.findClass own = some m.cls → T.heap = h → ∀ target, Steps p.tables e below (T.setTop g') target → Steps p.tables e below (T.setTop g) target)
    (k : Go p l e R s m args below meth c Z a0 EL own Q vm h cells slots g') : Go p l e R s m args below meth c Z a0 EL own Q vm h cells slots g := fun T X => by
  obtain ⟨s2, o, q1, q2⟩ := k T X
  obtain ⟨locs, k0, X', eT, hZ, hown, -⟩ := X
  exact ⟨s2, o, st _ _ X' hZ hown eT _ q1, q2⟩
/-- a step to another state, the heap as it was -/
theorem gy (g' : JFrame) (st : ∀ T locs, Stand p l e R (s.setVm vm) m args below meth c T locs cells slots → Z.Warmed39 vm → vm.findClass own = some m.cls → T.heap = h → ∃ T', Stand p l e R (s.setVm vm) m args below meth c T' locs cells slots ∧ T'.heap = h ∧ ∀ target, Steps p.tables e below (T'.setTop g') target → Steps p.tables e below (T.setTop g) target)
    (k : Go p l e R s m args below meth c Z a0 EL own Q vm h cells slots g') : Go p l e R s m args below meth c Z a0 EL own Q vm h cells slots g := fun T X => by
  obtain ⟨locs, k0, X', eT, hZ, hown, r⟩ := X
  obtain ⟨T', X1, e1, s1⟩ := st T locs X' hZ hown eT
  obtain ⟨s2, o, q1, q2⟩ := k T' ⟨locs, k0, X1, e1, hZ, hown, r⟩
  exact ⟨s2, o, s1 _ q1, q2⟩
/-- what the standing place knows -/
theorem ginfo (k : Z.Warmed39 vm → CHv Z EL vm h → Ext Z.heap h → Go p l e R s m args below meth c Z a0 EL own Q vm h cells slots g) : Go p l e R s m args below meth c Z a0 EL own Q vm h cells slots g := fun T X => by
  have X0 := X
  obtain ⟨locs, k0, X', eT, hZ, hown, hS, hk, N, H, E0, r⟩ := X
  refine k hZ H.1 ⟨?_, ?_⟩ T X0
  · exact Nat.le_trans E0.1 H.2.1
  · intro b cl hcl
    have hb := (Array.getElem?_eq_some_iff.mp hcl).1
    obtain ⟨c', h1, h2, -, h4⟩ := X'.same.2.2.2.2.2 b cl (show s.heap[b]? = some cl from E0.2 b cl hcl)
    have hsl : c'.slots = cl.slots := Array.ext_getElem? fun i => h4 i fun hm => absurd (N _ hm) (Nat.not_le.mpr hb)
    have hcc : c' = cl := by rw [h2, hsl]
    have h1' : T.heap[b]? = some c' := h1
    rw [← eT, ← hcc]; exact h1'
theorem gmono {cells' slots' : Nat} (hc : cells ≤ cells') (hs : slots ≤ slots') (k : Go p l e R s m args below meth c Z a0 EL own Q vm h cells' slots' g) : Go p l e R s m args below meth c Z a0 EL own Q vm h cells slots g := fun T X => by
  obtain ⟨locs, k0, X', r⟩ := X
  exact k T ⟨locs, k0, { X' with same := X'.same.mono hc hs }, r⟩
/-- the heap grows at its end -/
theorem gnew {cells' slots' : Nat} {P : Heap → Prop} (g' : Heap → JFrame)
    (st : ∀ T locs, Stand p l e R (s.setVm vm) m args below meth c T locs cells slots → Z.Warmed39 vm → vm.findClass own = some m.cls → T.heap = h → ∃ T' h', Stand p l e R (s.setVm vm) m args below meth c T' locs cells' slots' ∧ T'.heap = h' ∧ Ext h h' ∧ P h' ∧ ∀ target, Steps p.tables e below (T'.setTop (g' h')) target → Steps p.tables e below (T.setTop g) target)
    (k : ∀ h', Ext h h' → CHr Z EL vm h vm h' → P h' → Z.heap.size ≤ h.size → Safe Z EL vm h' h.size → Go p l e R s m args below meth c Z a0 EL own Q vm h' cells' slots' (g' h')) : Go p l e R s m args below meth c Z a0 EL own Q vm h cells slots g := fun T X => by
  obtain ⟨locs, k0, X', eT, hZ, hown, hS, hk, N, H, E0, r⟩ := X
  obtain ⟨T', h', X1, e1, E, hP, s1⟩ := st T locs X' hZ hown eT
  obtain ⟨s2, o, q1, q2⟩ := k h' E (CHr.ext E H.1) hP (Nat.le_trans E0.1 H.2.1) (Safe.ext E H.1 (Safe.new (Nat.le_refl _))) T' ⟨locs, k0, X1, e1, hZ, hown, hS, Nat.le_trans hk E.1, N, H.trans (CHr.ext E H.1), E0, r⟩
  exact ⟨s2, o, s1 _ q1, q2⟩
/-- one place is written -/
theorem gwr (g' : JFrame) {a : Addr} {sl : Nat} {v : Value} (ha : Z.heap.size ≤ a) (hs : Z.vm.Alike vm → Safe Z EL vm h a)
    (st : ∀ T locs, Stand p l e R (s.setVm vm) m args below meth c T locs cells slots → Z.Warmed39 vm → vm.findClass own = some m.cls → T.heap = h → ∃ T' h', Stand p l e R (s.setVm vm) m args below meth c T' (locs ++ [⟨a, sl⟩]) cells slots ∧ T'.heap = h' ∧ Wr h h' a sl v ∧ ∀ target, Steps p.tables e below (T'.setTop g') target → Steps p.tables e below (T.setTop g) target)
    (k : ∀ h', Wr h h' a sl v → CHr Z EL vm h vm h' → Go p l e R s m args below meth c Z a0 EL own Q vm h' cells slots g') : Go p l e R s m args below meth c Z a0 EL own Q vm h cells slots g := fun T X => by
  obtain ⟨locs, k0, X', eT, hZ, hown, hS, hk, N, H, E0, r⟩ := X
  obtain ⟨T', h', X1, e1, W, s1⟩ := st T locs X' hZ hown eT
  obtain ⟨s2, o, q1, q2⟩ := k h' W (CHr.wr W (hs hZ.alike) H.1) T' ⟨_, k0, X1, e1, hZ, hown, hS, by rw [W.size]; exact hk, Fr.snoc X1 N ha, H.trans (CHr.wr W (hs hZ.alike) H.1), E0, r⟩
  exact ⟨s2, o, s1 _ q1, q2⟩
/-- the end -/
theorem gret {v : Option Value} (hv : meth.sig.returnType = none → v = none) (hc : cells ≤ R.cells) (hs : slots ≤ R.slots)
    (st : ∀ T locs fs, Stand p l e R (s.setVm vm) m args below meth c T locs cells slots → (∀ (f : JFrame) (acts : List Action), f.method = m → f.locked = none → f.entered = [] → (doReturn e (T.setTop f) acts v).1 = T.setFrames fs) → Steps p.tables e below (T.setTop g) (T.setFrames fs))
    (hq : ∀ vm', CHr Z EL vm h vm' h → Q v vm' h) : Go p l e R s m args below meth c Z a0 EL own Q vm h cells slots g := fun T X => by
  obtain ⟨locs, k0, X', eT, hZ, hown, hS, hk, N, H, E0, hw, hx, hlk⟩ := X
  obtain ⟨fs, hr, hrun, hend, hW⟩ := X'.leaveW hS (by rw [eT]; exact hk) hv hlk
  have C1 : CHr Z EL vm h T.vm h := CHv.at X' hZ hw H.1
  refine ⟨_, _, st T locs fs X' hr, hrun, hend, v, locs, rfl, ⟨N, ?_⟩, ?_, ?_⟩
  · show Q v T.vm T.heap
    rw [eT]; exact hq _ C1
  · show CHr Z EL s.vm s.heap T.vm T.heap
    rw [eT]; exact H.trans C1
  · exact ⟨hW.1, hW.2.1, hW.2.2.1, hW.2.2.2.mono hc hs⟩
theorem gretI {pc : Nat} {Ls : Array Slot} {z : Int32} {rest : List Value} (hx : p.tables.exec = Jvm.exec) (hret : meth.sig.returnType = some .int) (hd : decode c.code pc = .ok (.ireturn, 1)) (hc : cells ≤ R.cells) (hs : slots ≤ R.slots)
    (hq : ∀ vm', CHr Z EL vm h vm' h → Q (some (.int z)) vm' h) : Go p l e R s m args below meth c Z a0 EL own Q vm h cells slots (mkF m pc Ls (.int z :: rest)) :=
  gret (v := some (.int z)) (fun q => by rw [hret] at q; cases q) hc hs (fun T locs fs X hr => retOut X hx hret rfl (Or.inl ⟨rfl, Or.inl rfl, z, rfl⟩) hd hr) hq
theorem gretN {t : FieldType} {pc : Nat} {Ls : Array Slot} {z : Int32} {rest : List Value} (hx : p.tables.exec = Jvm.exec) (hret : meth.sig.returnType = some t) (ht : t = .boolean ∨ t = .byte ∨ t = .char ∨ t = .short) (hd : decode c.code pc = .ok (.ireturn, 1)) (hc : cells ≤ R.cells) (hs : slots ≤ R.slots)
    (hq : ∀ vm', CHr Z EL vm h vm' h → Q (some (.int (nar t z))) vm' h) : Go p l e R s m args below meth c Z a0 EL own Q vm h cells slots (mkF m pc Ls (.int z :: rest)) :=
  gret (v := some (.int (nar t z))) (fun q => by rw [hret] at q; cases q) hc hs (fun T locs fs X hr => retN X hx hret ht hd hr) hq
theorem gretJ {pc : Nat} {Ls : Array Slot} {z : Int64} {rest : List Value} (hx : p.tables.exec = Jvm.exec) (hret : meth.sig.returnType = some .long) (hd : decode c.code pc = .ok (.lreturn, 1)) (hc : cells ≤ R.cells) (hs : slots ≤ R.slots)
    (hq : ∀ vm', CHr Z EL vm h vm' h → Q (some (.long z)) vm' h) : Go p l e R s m args below meth c Z a0 EL own Q vm h cells slots (mkF m pc Ls (.long z :: rest)) :=
  gret (v := some (.long z)) (fun q => by rw [hret] at q; cases q) hc hs (fun T locs fs X hr => retOut X hx hret rfl (Or.inr (Or.inl ⟨rfl, rfl, z, rfl⟩)) hd hr) hq
theorem gretA {t : FieldType} {pc : Nat} {Ls : Array Slot} {v : Value} {rest : List Value} (hx : p.tables.exec = Jvm.exec) (hret : meth.sig.returnType = some t) (ht : t.isReference = true) (hv : v.isRef = true) (hd : decode c.code pc = .ok (.areturn, 1)) (hc : cells ≤ R.cells) (hs : slots ≤ R.slots)
    (hq : ∀ vm', CHr Z EL vm h vm' h → Q (some v) vm' h) : Go p l e R s m args below meth c Z a0 EL own Q vm h cells slots (mkF m pc Ls (v :: rest)) :=
  gret (v := some v) (fun q => by rw [hret] at q; cases q) hc hs (fun T locs fs X hr => retOut X hx hret (by cases t <;> first | (cases ht; done) | (cases v <;> first | rfl | (cases hv; done))) (Or.inr (Or.inr (Or.inr (Or.inr ⟨rfl, ht, hv⟩)))) hd hr) hq
theorem gretV {pc : Nat} {Ls : Array Slot} (hx : p.tables.exec = Jvm.exec) (hret : meth.sig.returnType = none) (hd : decode c.code pc = .ok (.return_, 1)) (hc : cells ≤ R.cells) (hs : slots ≤ R.slots)
    (hq : ∀ vm', CHr Z EL vm h vm' h → Q none vm' h) : Go p l e R s m args below meth c Z a0 EL own Q vm h cells slots (mkF m pc Ls []) :=
  gret (v := none) (fun _ => rfl) hc hs (fun T locs fs X hr => X.returnOut hx hret hd hr) hq
/-! contracts -/
def Met (l : Launch) (y : MethodName) (bytes : ByteArray) (maxL : Nat) (ret : Option FieldType) (ws : List Jvm.Cond) (rm : Room) (Z : State) (EL : List (String × Nat)) (vm0 : Vm) (h0 : Heap) (as' : Array Value) (Q : Option Value → Vm → Heap → Prop) : Prop :=
  MetFree l y (head1 (Jvm.Cond.code y bytes maxL ret :: ws) rm) (fun a U => a = as' ∧ Z.Warmed39 U.vm ∧ U.heap = h0 ∧ CHr Z EL vm0 h0 U.vm h0) (fun _ _ _ _ _ => True)
    (fun _ U o U' => ∃ v L, o = .returned v ∧ (Fr Z.heap.size L ∧ Q v U'.vm U'.heap) ∧ CHr Z EL U.vm U.heap U'.vm U'.heap ∧ ReturnedEndW U o U' L rm.cells rm.slots)
theorem Met.of_walk {y : MethodName} {bytes : ByteArray} {maxL : Nat} {ret : Option FieldType} {ws : List Jvm.Cond} {rm : Room} {vm0 : Vm} {h0 : Heap} {as' : Array Value} (L0 : Array Slot) (hpn : plainFor y = true) (X00 : Ext Z.heap h0) (hEL : EW Z a0 EL)
    (hef : ∀ m, entryFrame m as' maxL = mkF m 0 L0 [])
    (walk : ∀ (p : Program) (e : Env) (s : State) (m : MethodId) (below : List Frame) (meth : Method) (c : Code) (vm : Vm), p.tables.exec = Jvm.exec → c.code = bytes → c.maxLocals = maxL → meth.sig.returnType = ret → meth.name = y.name → CHr Z EL vm0 h0 vm h0 →
      Go p l e rm s m as' below meth c Z a0 EL y.cls Q vm h0 0 0 (mkF m 0 L0 [])) : Met l y bytes maxL ret ws rm Z EL vm0 h0 as' Q := by
  refine MetFree.of_bodySF hpn hisR ?_
  intro p e s m args below meth c s₁ Bd hml0 hP hK
  obtain ⟨rfl, hZ, hh, hC⟩ := hP
  have X0 : Stand p l e rm s m args below meth c s₁ [] 0 0 := Stand.of_body Bd
  have e0 : s₁.heap = h0 := by rw [← hh, Bd.state]; rfl
  obtain ⟨s2, o, q1, q2⟩ := walk p e s m below meth c s.vm Bd.exec Bd.bytes hml0 Bd.returns (name_of_methodNamed Bd.named Bd.method).1 hC s₁
    ⟨[], 0, X0, e0, hZ, findClass_of_methodNamed Bd.named, (State.WarmedH.refl s).since 0, Nat.zero_le _, Fr.nil _, by rw [hh]; exact CHr.refl hC.1, by rw [hh]; exact X00, hEL, Bd.exec, Bd.notSynchronized⟩
  exact ⟨s2, o, by rw [hef]; exact q1, q2⟩
def Pay (l : Launch) (R : Room) (p : Program) (e : Env) (below : List Frame) (s : State) (args : Array Value) (Z : State) (EL : List (String × Nat)) (vm : Vm) (h : Heap) (y : MethodName) (len W : Nat) (as' : Array Value) (rc rs : Nat) (Q : Option Value → Vm → Heap → Prop) : Prop :=
  BackS l R p e below (s.setVm vm) args y len W (fun A a => a = as' ∧ A.U.heap = h ∧ A.cells + rc ≤ R.cells ∧ A.slots + rs ≤ R.slots)
    (fun A _ v B => ∃ L, (Fr Z.heap.size L ∧ Q v B.U.vm B.U.heap) ∧ B.locs = A.locs ++ L ∧ B.cells = A.cells + rc ∧ B.slots = A.slots + rs ∧ CHr Z EL vm h B.U.vm B.U.heap)
theorem Pay.of_met {y : MethodName} {bytes : ByteArray} {maxL : Nat} {ret : Option FieldType} {rm : Room} {len W : Nat} {as' : Array Value} (hM : Met l y bytes maxL ret [] rm Z EL vm h as' Q)
    (wc : (Jvm.Cond.code y bytes maxL ret).before a0 Z = true) (wz : (Jvm.Cond.initialized y.cls).before a0 Z = true) (hf : rm.frames + 1 ≤ R.frames) (hl : W + (maxL + 11) + rm.locals ≤ R.locals) (hZ : Z.Warmed39 vm) (H : CHv Z EL vm h) (hEL : EW Z a0 EL) :
    Pay l R p e below s args Z EL vm h y len W as' rm.cells rm.slots Q :=
  BackS.of_freeW (bytes := bytes) (maxL := maxL) (ret := ret) (E := fun _ first o t L k n => k = rm.cells ∧ n = rm.slots ∧ (∃ v, o = .returned v ∧ (Fr Z.heap.size L ∧ Q v t.vm t.heap)) ∧ CHr Z EL first.vm first.heap t.vm t.heap) hM hf hl
    (fun m meth c A a Y hp => have hU : Z.Warmed39 A.U.vm := wtrans (s := s.setVm vm) hZ Y.warmed
      ⟨by show (Jvm.Cond.and _ .tt).before a A.U = true; rw [Cond.before_and, mv hU wc]; rfl, mv hU wc, mv hU wz, hp.2.2.1, hp.2.2.2⟩)
    (fun m meth c A a g mk Y hp => ⟨hp.1, wtrans (s := s.setVm vm) hZ Y.warmed, hp.2.1, (show CHr Z EL vm h A.U.vm h from CHv.at Y hZ hEL H)⟩) (fun _ _ _ _ _ _ _ _ _ => trivial)
    (fun _ _ _ _ ⟨v, L, h1, h2, h3, h4⟩ => ⟨L, _, _, h4, rfl, rfl, ⟨v, h1, h2⟩, h3⟩)
    (fun m meth c A a g mk v t L k n Y hp _ _ ⟨e1, e2, ⟨v', e3, e4⟩, e5⟩ => by
      cases e3; subst e1 e2
      refine ⟨L, e4, rfl, rfl, rfl, (CHv.at Y hZ hEL H).trans ?_⟩
      rw [← hp.2.1]; exact e5)
theorem Pay.of_back {y : MethodName} {len W : Nat} {as' : Array Value} {rc rs : Nat} {Q0 : Option Value → Heap → List Loc → Prop}
    (hK : Back l R p e below (s.setVm vm) args y len W (fun A a => a = as' ∧ A.U.heap = h ∧ A.cells + rc ≤ R.cells ∧ A.slots + rs ≤ R.slots) (fun A _ v B => ∃ L, Q0 v B.U.heap L ∧ B.locs = A.locs ++ L ∧ B.cells = A.cells + rc ∧ B.slots = A.slots + rs))
    (hZ : Z.Warmed39 vm) (H : CHv Z EL vm h) (hEL : EW Z a0 EL)
    (hq : ∀ v h' L, Q0 v h' L → Fr Z.heap.size L ∧ (∃ ws, Keep h h' ws ∧ ∀ x ∈ ws, Safe Z EL vm h x) ∧ ∀ vm', CHr Z EL vm h vm' h' → Q v vm' h') : Pay l R p e below s args Z EL vm h y len W as' rc rs Q := by
  intro m meth c A g ig mk a X hg hsize hdg hW hn hp
  obtain ⟨v, B, X', ⟨L, q0, q1, q2, q3⟩, hsteps⟩ := hK m meth c A g ig mk a X hg hsize hdg hW hn hp
  obtain ⟨hF, ⟨ws, K, hs⟩, hQ⟩ := hq _ _ _ q0
  have C1 : CHr Z EL vm h vm B.U.heap := CHr.keep K hs H
  have C2 : CHr Z EL vm h B.U.vm B.U.heap := C1.trans (CHv.at X' hZ hEL C1.1)
  exact ⟨v, B, X'.retabled X'.warmed.wide, X'.warmed.since _, by rw [hp.2.1]; exact K.1, ⟨L, ⟨hF, hQ _ C2⟩, q1, q2, q3, C2⟩, hsteps⟩
theorem Pay.mono {y : MethodName} {len W rc rs : Nat} {as' : Array Value} {Q' : Option Value → Vm → Heap → Prop} (hP : Pay l R p e below s args Z EL vm h y len W as' rc rs Q) (hq : ∀ v vm' h', Q v vm' h' → Q' v vm' h') : Pay l R p e below s args Z EL vm h y len W as' rc rs Q' := by
  intro m meth c A g ig mk a X hg hsize hdg hW hn hp
  obtain ⟨v, B, X', h1, h2, ⟨L, ⟨q1, q2⟩, r⟩, st⟩ := hP m meth c A g ig mk a X hg hsize hdg hW hn hp
  exact ⟨v, B, X', h1, h2, ⟨L, ⟨q1, hq _ _ _ q2⟩, r⟩, st⟩
/-- behind any call -/
theorem gback {y : MethodName} {rc rs : Nat} {as' : Array Value} {Q' : Option Value → Vm → Heap → Prop} {rest : List Value} {pc' : Nat} {L : Array Slot}
    (st : ∀ T locs, Stand p l e R (s.setVm vm) m args below meth c T locs cells slots → Z.Warmed39 vm → vm.findClass own = some m.cls → T.heap = h → CHv Z EL vm h → EW Z a0 EL →
      ∃ (v : Option Value) (vm₁ : Vm) (B : Pt), (s.setVm vm).WarmedH vm₁ ∧ Stand p l e R ((s.setVm vm).setVm B.U.vm) m args below meth c B.U B.locs B.cells B.slots ∧ (s.setVm vm).Since B.U.vm B.U.heap.size ∧ T.heap.size ≤ B.U.heap.size ∧
        (∃ L, (Fr Z.heap.size L ∧ Q' v B.U.vm B.U.heap) ∧ B.locs = locs ++ L ∧ B.cells = cells + rc ∧ B.slots = slots + rs ∧ CHr Z EL vm h B.U.vm B.U.heap) ∧ Steps p.tables e below (T.setTop g) (B.U.setTop (mkF m pc' L (v.toList ++ rest))))
    (k : ∀ v vm' h', CHr Z EL vm h vm' h' → Q' v vm' h' → Go p l e R s m args below meth c Z a0 EL own Q vm' h' (cells + rc) (slots + rs) (mkF m pc' L (v.toList ++ rest))) : Go p l e R s m args below meth c Z a0 EL own Q vm h cells slots g := fun T X => by
  obtain ⟨locs, k0, X', eT, hZ, hown, hS, hk, N, H, E0, hEL, hx, hlk⟩ := X
  obtain ⟨v, vm1, ⟨U, Lx, cx, sx⟩, hW1, X1, hS1, hgr, ⟨L1, ⟨hF, hQ⟩, hl, hc, hs, hC⟩, s1⟩ := st T locs X' hZ hown eT H.1 hEL
  dsimp only [Pt.U, Pt.locs, Pt.cells, Pt.slots] at X1 hS1 hgr hF hQ hl hc hs hC s1
  subst hl hc hs
  obtain ⟨s2, o, q1, q2⟩ := k v U.vm U.heap hC hQ U ⟨_, U.heap.size, X1, rfl, State.Warmed39.trans (t := s.setVm vm) hZ hS1.1, (hS1.1.alike.findClass _ _).trans hown, hS.trans hS1 (Nat.le_trans hk (by rw [← eT]; exact hgr)), Nat.le_refl _, Fr.app N hF, H.trans hC, E0, hEL, hx, hlk⟩
  exact ⟨s2, o, s1.trans q1, q2⟩
end Kit
end Jvm.OwnKit
namespace Jvm.OwnKit
open Sem ClassFile Op Lib Bundle Jvm.Stand Jvm.Free Jvm.LawKit Jvm.RoadKit
section Kit2
variable {p : Program} {l : Launch} {e : Env} {R : Room} {s : State} {m : MethodId} {args : Array Value} {below : List Frame} {meth : Method} {c : Code} {Z : State} {a0 : Array Value} {EL : List (String × Nat)} {own : String} {Q : Option Value → Vm → Heap → Prop} {vm : Vm} {h : Heap} {cells slots : Nat} {g : JFrame}
/-! calls -/
theorem gcallS {index : Nat} {y : MethodName} {bytes : ByteArray} {maxL : Nat} {ret : Option FieldType} (hx : p.tables.exec = Jvm.exec) (wl : (Cond.methodLink own index y).before a0 Z = true) (wst : (Cond.static y).before a0 Z = true) (wz : (Cond.initialized y.cls).before a0 Z = true) (wc : (Cond.code y bytes maxL ret).before a0 Z = true)
    (hy : y.cls ≠ "java/lang/invoke/MethodHandle" ∧ y.cls ≠ "java/lang/invoke/VarHandle") {W rc rs : Nat} {as' : Array Value} {Q' : Option Value → Vm → Heap → Prop} (hP : Z.Warmed39 vm → CHv Z EL vm h → EW Z a0 EL → Pay l R p e below s args Z EL vm h y 3 W as' rc rs Q')
    {pc : Nat} (pc' : Nat) {L : Array Slot} {S argsL rest : List Value} (hlen : ∀ sig, parseMethodDescriptor y.desc = some sig → argsL.length = sig.parameters.length) (has : argsL.toArray = as') (hstk : S = argsL.reverse ++ rest) (hW : (rest.map fun v => v.category).sum ≤ W) (hml : L.size = c.maxLocals)
    (hd : decode c.code pc = .ok (.invokestatic index, 3)) (hp : pc + 3 = pc') (hc : cells + rc ≤ R.cells) (hs : slots + rs ≤ R.slots)
    (k : ∀ v vm' h', CHr Z EL vm h vm' h' → Q' v vm' h' → Go p l e R s m args below meth c Z a0 EL own Q vm' h' (cells + rc) (slots + rs) (mkF m pc' L (v.toList ++ rest))) : Go p l e R s m args below meth c Z a0 EL own Q vm h cells slots (mkF m pc L S) :=
  gback (y := y) (as' := as') (fun T locs X hZ hown eT H hEL => by
    subst has hp hstk
    exact callSS (s := s.setVm vm) X hx hown (mvT hZ wl) (mvT hZ wst) (mvT hZ wz) (mvT hZ wc) hy (hP hZ H hEL) (g := mkF m pc L _) rfl hml hlen rfl (by show 2 * 0 + _ ≤ _; omega) hd (fun _ _ => ⟨rfl, eT, hc, hs⟩)) k
theorem gcallI {index : Nat} {y : MethodName} {bytes : ByteArray} {maxL : Nat} (hx : p.tables.exec = Jvm.exec) (hyi : y.name = "<init>") (wl : (Cond.methodLink own index y).before a0 Z = true) (wi : (Cond.instanceMethod y).before a0 Z = true) (wc : (Cond.code y bytes maxL none).before a0 Z = true)
    (hy : y.cls ≠ "java/lang/invoke/MethodHandle" ∧ y.cls ≠ "java/lang/invoke/VarHandle") {W rc rs : Nat} {as' : Array Value} {Q' : Option Value → Vm → Heap → Prop} (hP : Z.Warmed39 vm → CHv Z EL vm h → EW Z a0 EL → Pay l R p e below s args Z EL vm h y 3 W as' rc rs Q')
    {pc : Nat} (pc' : Nat) {L : Array Slot} {S argsL rest : List Value} {a : Addr} (hlen : ∀ sig, parseMethodDescriptor y.desc = some sig → argsL.length = sig.parameters.length) (has : (.ref a :: argsL).toArray = as') (hstk : S = argsL.reverse ++ .ref a :: rest) (hW : (rest.map fun v => v.category).sum ≤ W) (hml : L.size = c.maxLocals)
    (hd : decode c.code pc = .ok (.invokespecial index, 3)) (hp : pc + 3 = pc') (hc : cells + rc ≤ R.cells) (hs : slots + rs ≤ R.slots)
    (k : ∀ v vm' h', CHr Z EL vm h vm' h' → Q' v vm' h' → Go p l e R s m args below meth c Z a0 EL own Q vm' h' (cells + rc) (slots + rs) (mkF m pc' L (v.toList ++ rest))) : Go p l e R s m args below meth c Z a0 EL own Q vm h cells slots (mkF m pc L S) :=
  gback (y := y) (as' := as') (fun T locs X hZ hown eT H hEL => by
    subst has hp hstk
    exact X.specialBackS (s := s.setVm vm) hx hyi hown (mvT hZ wl) (mvT hZ wi) (mvT hZ wc) hy (hP hZ H hEL) (g := mkF m pc L _) rfl hml (Steps.refl _) hlen rfl (by show 2 * 0 + _ ≤ _; omega) hd (fun _ _ => ⟨rfl, eT, hc, hs⟩)) k
theorem gcallV {index : Nat} {C : String} {y z : MethodName} (hx : p.tables.exec = Jvm.exec) (wl : (Cond.methodLink own index y).before a0 Z = true) (wd : (Cond.declares y).before a0 Z = true) (nf : ∀ (U : State), Z.Warmed39 U.vm → NotFace U y) (wsel : (Cond.selects C y z).before a0 Z = true) (wi : (Cond.instanceMethod z).before a0 Z = true)
    (hy : y.cls ≠ "java/lang/invoke/MethodHandle" ∧ y.cls ≠ "java/lang/invoke/VarHandle") {W rc rs : Nat} {as' : Array Value} {Q' : Option Value → Vm → Heap → Prop} (hP : Z.Warmed39 vm → CHv Z EL vm h → EW Z a0 EL → Pay l R p e below s args Z EL vm h z 3 W as' rc rs Q')
    {pc : Nat} (pc' : Nat) {L : Array Slot} {S argsL rest : List Value} {a : Addr} (E : Exa Z h a C) (hlen : ∀ sig, parseMethodDescriptor y.desc = some sig → argsL.length = sig.parameters.length) (has : (.ref a :: argsL).toArray = as') (hstk : S = argsL.reverse ++ .ref a :: rest) (hW : (rest.map fun v => v.category).sum ≤ W) (hml : L.size = c.maxLocals)
    (hd : decode c.code pc = .ok (.invokevirtual index, 3)) (hp : pc + 3 = pc') (hc : cells + rc ≤ R.cells) (hs : slots + rs ≤ R.slots)
    (k : ∀ v vm' h', CHr Z EL vm h vm' h' → Q' v vm' h' → Go p l e R s m args below meth c Z a0 EL own Q vm' h' (cells + rc) (slots + rs) (mkF m pc' L (v.toList ++ rest))) : Go p l e R s m args below meth c Z a0 EL own Q vm h cells slots (mkF m pc L S) :=
  gback (y := z) (as' := as') (fun T locs X hZ hown eT H hEL => by
    subst has hp hstk
    obtain ⟨cB, kB, h1, h2, h3⟩ := isOf (s := s.setVm vm) hZ eT E
    exact X.virtualBackS (s := s.setVm vm) hx hown (mvT hZ wl) (mvT hZ wd) (nf _ hZ) (mvT hZ wsel) (mvT hZ wi) hy (hP hZ H hEL) h1 h3 (g := mkF m pc L _) rfl hml (Steps.refl _) hlen rfl (by show 2 * 0 + _ ≤ _; omega) hd (fun _ _ => ⟨rfl, eT, hc, hs⟩)) k
theorem nfSel {C : String} {y : MethodName} (w : (Cond.selects C y y).before a0 Z = true) : ∀ (U : State), Z.Warmed39 U.vm → NotFace U y := fun U hU => notFace_of_selects (args := #[]) (mvT hU w)
theorem nfSup {S : String} {y : MethodName} (w : (Cond.superclass y.cls S).before a0 Z = true) : ∀ (U : State), Z.Warmed39 U.vm → NotFace U y := fun U hU => nf_super (args := #[]) (mvT hU w)
theorem nfTop {y : MethodName} (w : (Cond.noSuperclass y.cls).before a0 Z = true) : ∀ (U : State), Z.Warmed39 U.vm → NotFace U y := fun U hU => nf_top (args := #[]) (mvT hU w)
theorem gcallF {index count : Nat} {C : String} {xi y : MethodName} (hx : p.tables.exec = Jvm.exec) (wl : (Cond.methodLink own index xi).before a0 Z = true) (wd : (Cond.declares xi).before a0 Z = true) (wf : ∀ (U : State) (aa : Array Value), Z.Warmed39 U.vm → (Cond.interfaceMethod xi.cls xi.cls xi.name xi.desc).before aa U = true) (wsel : (Cond.selects C xi y).before a0 Z = true) (wi : (Cond.instanceMethod y).before a0 Z = true)
    (wp : (Cond.publicMethod y).before a0 Z = true) (wu : (Cond.unhidden C xi.name xi.desc).before a0 Z = true) (wca : (Cond.castable C xi.cls).before a0 Z = true)
    (hy : xi.cls ≠ "java/lang/invoke/MethodHandle" ∧ xi.cls ≠ "java/lang/invoke/VarHandle") {W rc rs : Nat} {as' : Array Value} {Q' : Option Value → Vm → Heap → Prop} (hP : Z.Warmed39 vm → CHv Z EL vm h → EW Z a0 EL → Pay l R p e below s args Z EL vm h y 5 W as' rc rs Q')
    {pc : Nat} (pc' : Nat) {L : Array Slot} {S argsL rest : List Value} {a : Addr} (E : Exa Z h a C) (hlen : ∀ sig, parseMethodDescriptor xi.desc = some sig → argsL.length = sig.parameters.length) (has : (.ref a :: argsL).toArray = as') (hstk : S = argsL.reverse ++ .ref a :: rest) (hW : (rest.map fun v => v.category).sum ≤ W) (hml : L.size = c.maxLocals)
    (hd : decode c.code pc = .ok (.invokeinterface index count, 5)) (hp : pc + 5 = pc') (hc : cells + rc ≤ R.cells) (hs : slots + rs ≤ R.slots)
    (k : ∀ v vm' h', CHr Z EL vm h vm' h' → Q' v vm' h' → Go p l e R s m args below meth c Z a0 EL own Q vm' h' (cells + rc) (slots + rs) (mkF m pc' L (v.toList ++ rest))) : Go p l e R s m args below meth c Z a0 EL own Q vm h cells slots (mkF m pc L S) :=
  gback (y := y) (as' := as') (fun T locs X hZ hown eT H hEL => by
    subst has hp hstk
    obtain ⟨cB, kB, h1, h2, h3⟩ := isOf (s := s.setVm vm) hZ eT E
    exact X.interfaceBackS (s := s.setVm vm) hx hown (mvT hZ wl) (mvT hZ wd) (wf _ _ hZ) (mvT hZ wsel) (mvT hZ wi) (mvT hZ wp) (mvT hZ wu) (mvT hZ wca) hy (hP hZ H hEL) h1 h2 h3 (g := mkF m pc L _) rfl hml (Steps.refl _) hlen rfl (by show 2 * 0 + _ ≤ _; omega) hd (fun _ _ => ⟨rfl, eT, hc, hs⟩)) k
theorem gcallU {index : Nat} {K : String} {y : MethodName} {bytes : ByteArray} {maxL : Nat} {ret : Option FieldType} (hx : p.tables.exec = Jvm.exec) (wl : (Cond.methodLink own index y).before a0 Z = true) (wsm : (Cond.sameMethod y.cls y.cls y.name y.desc).before a0 Z = true) (wi : (Cond.instanceMethod y).before a0 Z = true) (wsu : (Cond.superclass own y.cls).before a0 Z = true) (hn : y.name ≠ "<init>") (wc : (Cond.code y bytes maxL ret).before a0 Z = true)
    {W rc rs : Nat} {as' : Array Value} {Q' : Option Value → Vm → Heap → Prop} (hP : Z.Warmed39 vm → CHv Z EL vm h → EW Z a0 EL → Pay l R p e below s args Z EL vm h y 3 W as' rc rs Q')
    {pc : Nat} (pc' : Nat) {L : Array Slot} {S argsL rest : List Value} {a : Addr} (I : Ins Z h a K true) (hlen : ∀ sig, parseMethodDescriptor y.desc = some sig → argsL.length = sig.parameters.length) (has : (.ref a :: argsL).toArray = as') (hstk : S = argsL.reverse ++ .ref a :: rest) (hW : (rest.map fun v => v.category).sum ≤ W) (hml : L.size = c.maxLocals)
    (hd : decode c.code pc = .ok (.invokespecial index, 3)) (hp : pc + 3 = pc') (hc : cells + rc ≤ R.cells) (hs : slots + rs ≤ R.slots)
    (k : ∀ v vm' h', CHr Z EL vm h vm' h' → Q' v vm' h' → Go p l e R s m args below meth c Z a0 EL own Q vm' h' (cells + rc) (slots + rs) (mkF m pc' L (v.toList ++ rest))) : Go p l e R s m args below meth c Z a0 EL own Q vm h cells slots (mkF m pc L S) :=
  gback (y := y) (as' := as') (fun T locs X hZ hown eT H hEL => by
    subst has hp hstk
    exact superBackS (s := s.setVm vm) X hx hZ hown wl wsm wi wsu hn (hP hZ H hEL) eT I (g := mkF m pc L _) rfl hml wc hlen rfl (by show 2 * 0 + _ ≤ _; omega) hd (fun _ _ => ⟨rfl, eT, hc, hs⟩)) k
theorem gcallP {index : Nat} {y : MethodName} {bytes : ByteArray} {maxL : Nat} {ret : Option FieldType} (hx : p.tables.exec = Jvm.exec) (wl : (Cond.methodLink own index y).before a0 Z = true) (wi : (Cond.instanceMethod y).before a0 Z = true) (wsel : (Cond.selects y.cls y y).before a0 Z = true) (wp : (Cond.privateMethod y).before a0 Z = true) (wc : (Cond.code y bytes maxL ret).before a0 Z = true)
    (hy : y.cls ≠ "java/lang/invoke/MethodHandle" ∧ y.cls ≠ "java/lang/invoke/VarHandle") {W rc rs : Nat} {as' : Array Value} {Q' : Option Value → Vm → Heap → Prop} (hP : Z.Warmed39 vm → CHv Z EL vm h → EW Z a0 EL → Pay l R p e below s args Z EL vm h y 3 W as' rc rs Q')
    {pc : Nat} (pc' : Nat) {L : Array Slot} {S argsL rest : List Value} {a : Addr} {K : String} (E : Exa Z h a K) (hlen : ∀ sig, parseMethodDescriptor y.desc = some sig → argsL.length = sig.parameters.length) (has : (.ref a :: argsL).toArray = as') (hstk : S = argsL.reverse ++ .ref a :: rest) (hW : (rest.map fun v => v.category).sum ≤ W) (hml : L.size = c.maxLocals)
    (hd : decode c.code pc = .ok (.invokevirtual index, 3)) (hp : pc + 3 = pc') (hc : cells + rc ≤ R.cells) (hs : slots + rs ≤ R.slots)
    (k : ∀ v vm' h', CHr Z EL vm h vm' h' → Q' v vm' h' → Go p l e R s m args below meth c Z a0 EL own Q vm' h' (cells + rc) (slots + rs) (mkF m pc' L (v.toList ++ rest))) : Go p l e R s m args below meth c Z a0 EL own Q vm h cells slots (mkF m pc L S) :=
  gback (y := y) (as' := as') (fun T locs X hZ hown eT H hEL => by
    subst has hp hstk
    obtain ⟨cq, q1, q2⟩ := E.cell
    exact X.privateBackS (s := s.setVm vm) hx hown (mvT hZ wl) (mvT hZ wi) (mvT hZ wsel) (Cond.privateMethod_at (mvP (s := s.setVm vm) hZ wp (args := #[]))) (mvT hZ wc) hy (hP hZ H hEL) (g := mkF m pc L _) rfl hml (Steps.refl _) (by rw [eT]; exact q1) q2 hlen rfl (by show 2 * 0 + _ ≤ _; omega) hd (fun _ _ => ⟨rfl, eT, hc, hs⟩)) k
/-- Object.<init> -/
theorem ginitO {idx : Nat} (hx : p.tables.exec = Jvm.exec) (w1 : (Cond.methodLink own idx Lib.objectInit).before a0 Z = true) (w2 : (Cond.instanceMethod Lib.objectInit).before a0 Z = true) (w3 : (Cond.code Lib.objectInit ⟨#[0xb1]⟩ 1 none).before a0 Z = true)
    {pc : Nat} (pc' : Nat) {L : Array Slot} {rest : List Value} {a : Addr} {W : Nat} (hW : (rest.map fun v => v.category).sum ≤ W) (hml : L.size = c.maxLocals) (hd : decode c.code pc = .ok (.invokespecial idx, 3)) (hp : pc + 3 = pc') (hf : 1 ≤ R.frames) (hl : W + 12 ≤ R.locals)
    (k : Go p l e R s m args below meth c Z a0 EL own Q vm h cells slots (mkF m pc' L rest)) : Go p l e R s m args below meth c Z a0 EL own Q vm h cells slots (mkF m pc L (.ref a :: rest)) :=
  gy _ (fun T locs X hZ hown eT => by
    subst hp
    exact initO (s := s.setVm vm) X hx hZ hown w1 w2 w3 eT (g := mkF m pc L (.ref a :: rest)) rfl hml rfl hd hf (W := W) (by show 2 * 0 + _ ≤ _; omega) hl) k
/-! fields -/
theorem ggetF {R0 O n d host : String} {index : Nat} (hx : p.tables.exec = Jvm.exec) (w : (Cond.fieldLink own index R0 n d).before a0 Z = true ∨ (Cond.fieldLinkNest own index R0 n d host).before a0 Z = true) (via : Via Z R0 O n d) {a : Addr} {v : Value} (F : Fld Z h a O n d v)
    {pc : Nat} (pc' : Nat) {L : Array Slot} {rest : List Value} (hd : decode c.code pc = .ok (.getfield index, 3)) (hp : pc + 3 = pc')
    (k : Go p l e R s m args below meth c Z a0 EL own Q vm h cells slots (mkF m pc' L (v :: rest))) : Go p l e R s m args below meth c Z a0 EL own Q vm h cells slots (mkF m pc L (.ref a :: rest)) :=
  gy _ (fun T locs X hZ hown eT => by
    subst hp
    exact getF (s := s.setVm vm) X hx hZ hown (host := host) w via eT F (g := mkF m pc L (.ref a :: rest)) rfl rfl hd) k
theorem ggetS {R0 O n d host : String} {index : Nat} (hx : p.tables.exec = Jvm.exec) (w : (Cond.fieldLink own index R0 n d).before a0 Z = true ∨ (Cond.fieldLinkNest own index R0 n d host).before a0 Z = true) (via : Via Z R0 O n d) {v : Value} (F : Sta Z Z.heap O n d v)
    {pc : Nat} (pc' : Nat) {L : Array Slot} {S : List Value} (hd : decode c.code pc = .ok (.getstatic index, 3)) (hp : pc + 3 = pc')
    (k : Go p l e R s m args below meth c Z a0 EL own Q vm h cells slots (mkF m pc' L (v :: S))) : Go p l e R s m args below meth c Z a0 EL own Q vm h cells slots (mkF m pc L S) :=
  ginfo fun _ _ E => gy _ (fun T locs X hZ hown eT => by
    subst hp
    exact getS2 (s := s.setVm vm) X hx hZ hown (host := host) w via eT (F.ext E) (g := mkF m pc L S) rfl hd) k
theorem gputF {R0 O n d host C : String} {index kk : Nat} {ty : FieldType} (hx : p.tables.exec = Jvm.exec) (w : (Cond.fieldLink own index R0 n d).before a0 Z = true ∨ (Cond.fieldLinkNest own index R0 n d host).before a0 Z = true) (via : Via Z R0 O n d) {a : Addr} {v old : Value} (F : Fld Z h a O n d old) (E : Exa Z h a C)
    (Lw : (Cond.lays C O n d).before a0 Z = true ∨ ((Cond.laysFinal C O n d).before a0 Z = true ∧ own = O ∧ meth.name = "<init>")) (wi : (Cond.instantiable C kk).before a0 Z = true) (hty : parseFieldDescriptor d = some ty) (hn : narrow ty v = v) (hf : fits ty v = true) (ha : Z.heap.size ≤ a) (hs : Z.vm.Alike vm → Safe Z EL vm h a)
    {pc : Nat} (pc' : Nat) {L : Array Slot} {rest : List Value} (hd : decode c.code pc = .ok (.putfield index, 3)) (hp : pc + 3 = pc')
    (k : ∀ h', Wr h h' a (Jvm.RoadKit.slotOf Z O n d) v → CHr Z EL vm h vm h' → Go p l e R s m args below meth c Z a0 EL own Q vm h' cells slots (mkF m pc' L rest)) : Go p l e R s m args below meth c Z a0 EL own Q vm h cells slots (mkF m pc L (v :: .ref a :: rest)) :=
  gwr _ ha hs (fun T locs X hZ hown eT => by
    subst hp
    exact putF (s := s.setVm vm) X hx hZ hown (host := host) w via eT F E Lw wi hty hn hf (g := mkF m pc L (v :: .ref a :: rest)) rfl rfl hd) k
/-! objects and arrays are made -/
theorem gnewO {C : String} {index n : Nat} (hx : p.tables.exec = Jvm.exec) (w : (Cond.classLink own index C).before a0 Z = true) (wi : (Cond.instantiable C n).before a0 Z = true) (wz : (Cond.initialized C).before a0 Z = true)
    {pc : Nat} (pc' : Nat) {L : Array Slot} {S : List Value} (hd : decode c.code pc = .ok (.new index, 3)) (hp : pc + 3 = pc') (hc : cells + 1 ≤ R.cells) (hl : slots + n ≤ R.slots)
    (k : ∀ (b : Addr) (h' : Heap), h.size = b → Ext h h' → CHr Z EL vm h vm h' → Exa Z h' b C → (∀ {O nm d : String} {ty : FieldType}, Laid Z a0 C O nm d → parseFieldDescriptor d = some ty → Fld Z h' b O nm d (defaultValue ty)) → Z.heap.size ≤ b → Safe Z EL vm h' b → Go p l e R s m args below meth c Z a0 EL own Q vm h' (cells + 1) (slots + n) (mkF m pc' L (.ref b :: S))) :
    Go p l e R s m args below meth c Z a0 EL own Q vm h cells slots (mkF m pc L S) :=
  gnew (P := fun h' => Exa Z h' h.size C ∧ ∀ (O nm d : String) (ty : FieldType), Laid Z a0 C O nm d → parseFieldDescriptor d = some ty → Fld Z h' h.size O nm d (defaultValue ty)) (fun _ => mkF m pc' L (.ref h.size :: S))
    (fun T locs X hZ hown eT => by
      subst hp
      obtain ⟨T', h', X', e', E, A, D, -, st⟩ := newO (s := s.setVm vm) X hx hZ hown w wi wz eT (g := mkF m pc L S) rfl hd hc hl
      exact ⟨T', h', X', e', E, ⟨A, fun _ _ _ _ q r => D q r⟩, st⟩)
    (fun h' E hC hP hz hs => k _ h' rfl E hC hP.1 (fun q r => hP.2 _ _ _ _ q r) hz hs)
theorem gnewP {aty : ArrayType} (hx : p.tables.exec = Jvm.exec) (w : (Cond.arrayClass (newarray.typeOf aty)).before a0 Z = true) {n : Int32} (hn : ¬ n < 0) {cap : Nat} (hcap : n.toNatClampNeg ≤ cap) (hb : cap * 8 ≤ 536870912)
    {pc : Nat} (pc' : Nat) {L : Array Slot} {S : List Value} (hd : decode c.code pc = .ok (.newarray aty, 2)) (hp : pc + 2 = pc') (hc : cells + 1 ≤ R.cells) (hl : slots + cap ≤ R.slots)
    (k : ∀ (b : Addr) (h' : Heap) (cA : ClassId), h.size = b → Ext h h' → CHr Z EL vm h vm h' → Arv Z h' b cA (newarray.typeOf aty) n [] (defaultValue (newarray.typeOf aty)) → Z.heap.size ≤ b → Safe Z EL vm h' b → Go p l e R s m args below meth c Z a0 EL own Q vm h' (cells + 1) (slots + cap) (mkF m pc' L (.ref b :: S))) :
    Go p l e R s m args below meth c Z a0 EL own Q vm h cells slots (mkF m pc L (.int n :: S)) :=
  gnew (P := fun h' => ∃ cA, Arv Z h' h.size cA (newarray.typeOf aty) n [] (defaultValue (newarray.typeOf aty))) (fun _ => mkF m pc' L (.ref h.size :: S))
    (fun T locs X hZ hown eT => by
      subst hp
      obtain ⟨T', h', cA, X', e', E, A, st⟩ := newP (s := s.setVm vm) X hx hZ w eT (g := mkF m pc L (.int n :: S)) rfl hd rfl hn hcap hb hc hl
      exact ⟨T', h', X', e', E, ⟨cA, Arv.new A hn⟩, st⟩)
    (fun h' E hC hP hz hs => by obtain ⟨cA, V⟩ := hP; exact k _ h' cA rfl E hC V hz hs)
theorem gnewR {C : String} {index : Nat} (hx : p.tables.exec = Jvm.exec) (w1 : (Cond.classLink own index C).before a0 Z = true) (w2 : (Cond.arrayOver (.object C)).before a0 Z = true) {n : Int32} (hn : ¬ n < 0) {cap : Nat} (hcap : n.toNatClampNeg ≤ cap) (hb : cap * 8 ≤ 536870912) {ad : String} (had : "[" ++ (FieldType.object C).toString = ad)
    {pc : Nat} (pc' : Nat) {L : Array Slot} {S : List Value} (hd : decode c.code pc = .ok (.anewarray index, 3)) (hp : pc + 3 = pc') (hc : cells + 1 ≤ R.cells) (hl : slots + cap ≤ R.slots)
    (k : ∀ (b : Addr) (h' : Heap) (cA : ClassId), h.size = b → Ext h h' → CHr Z EL vm h vm h' → Arv Z h' b cA (.object C) n [] .null → Exa Z h' b ad → Ovr Z cA C → Z.heap.size ≤ b → Safe Z EL vm h' b → Go p l e R s m args below meth c Z a0 EL own Q vm h' (cells + 1) (slots + cap) (mkF m pc' L (.ref b :: S))) :
    Go p l e R s m args below meth c Z a0 EL own Q vm h cells slots (mkF m pc L (.int n :: S)) :=
  gnew (P := fun h' => ∃ cA, Arv Z h' h.size cA (.object C) n [] .null ∧ Exa Z h' h.size ad ∧ Ovr Z cA C) (fun _ => mkF m pc' L (.ref h.size :: S))
    (fun T locs X hZ hown eT => by
      subst hp
      obtain ⟨T', h', cA, X', e', E, A, X1, O, st⟩ := newRE (s := s.setVm vm) X hx hZ hown w1 w2 eT (g := mkF m pc L (.int n :: S)) rfl hd rfl hn hcap hb hc hl had
      exact ⟨T', h', X', e', E, ⟨cA, Arv.new A hn, X1, O⟩, st⟩)
    (fun h' E hC hP hz hs => by obtain ⟨cA, V, X1, O⟩ := hP; exact k _ h' cA rfl E hC V X1 O hz hs)
/-! arrays are written and read -/
theorem gstC {a : Addr} {kc : ClassId} {n : Int32} {vs : List Value} {d : Value} {j x y : Int32} {i : Nat} (hx : p.tables.exec = Jvm.exec) (F : Arv Z h a kc .char n vs d) (hin : ¬ j < 0 ∧ j < n) (hj : j.toNatClampNeg = i) (hi : i < vs.length) (hy : nar .char x = y) (ha : Z.heap.size ≤ a)
    {pc : Nat} (pc' : Nat) {L : Array Slot} {rest : List Value} (hd : decode c.code pc = .ok (.castore, 1)) (hp : pc + 1 = pc')
    (k : ∀ h', Wr h h' a i (.int y) → CHr Z EL vm h vm h' → Arv Z h' a kc .char n (vs.set i (.int y)) d → Go p l e R s m args below meth c Z a0 EL own Q vm h' cells slots (mkF m pc' L rest)) : Go p l e R s m args below meth c Z a0 EL own Q vm h cells slots (mkF m pc L (.int x :: .int j :: .ref a :: rest)) := by
  subst hy hj hp
  obtain ⟨cl, Ar, q1, q2, q3, q4, q5⟩ := F
  exact gwr _ ha (fun al => Safe.arr al Ar (by decide)) (fun T locs X hZ hown eT => stC (s := s.setVm vm) X hx hZ eT Ar (j := j) (inb_of q2 hin) (g := mkF m pc L (.int x :: .int j :: .ref a :: rest)) rfl rfl hd) fun h' W hC => k h' W hC (Arv.set Ar q1 q2 q3 q4 q5 (fits_nar_char _) W _ rfl hi)
theorem gstB {a : Addr} {kc : ClassId} {n : Int32} {vs : List Value} {d : Value} {j x y : Int32} {i : Nat} (hx : p.tables.exec = Jvm.exec) (F : Arv Z h a kc .byte n vs d) (hin : ¬ j < 0 ∧ j < n) (hj : j.toNatClampNeg = i) (hi : i < vs.length) (hy : nar .byte x = y) (ha : Z.heap.size ≤ a) (hs : Z.vm.Alike vm → Safe Z EL vm h a)
    {pc : Nat} (pc' : Nat) {L : Array Slot} {rest : List Value} (hd : decode c.code pc = .ok (.bastore, 1)) (hp : pc + 1 = pc')
    (k : ∀ h', Wr h h' a i (.int y) → CHr Z EL vm h vm h' → Arv Z h' a kc .byte n (vs.set i (.int y)) d → Go p l e R s m args below meth c Z a0 EL own Q vm h' cells slots (mkF m pc' L rest)) : Go p l e R s m args below meth c Z a0 EL own Q vm h cells slots (mkF m pc L (.int x :: .int j :: .ref a :: rest)) := by
  subst hy hj hp
  obtain ⟨cl, Ar, q1, q2, q3, q4, q5⟩ := F
  exact gwr _ ha hs (fun T locs X hZ hown eT => stB (s := s.setVm vm) X hx hZ eT Ar (j := j) (inb_of q2 hin) (g := mkF m pc L (.int x :: .int j :: .ref a :: rest)) rfl rfl hd) fun h' W hC => k h' W hC (Arv.set Ar q1 q2 q3 q4 q5 (fits_nar_byte _) W _ rfl hi)
theorem gstR {a : Addr} {kc : ClassId} {C : String} {n : Int32} {vs : List Value} {d v : Value} {j : Int32} {i : Nat} (hx : p.tables.exec = Jvm.exec) (F : Arv Z h a kc (.object C) n vs d) (hin : ¬ j < 0 ∧ j < n) (hj : j.toNatClampNeg = i) (hi : i < vs.length) (S : Sto Z h a v) (hv : v.isRef = true) (ha : Z.heap.size ≤ a)
    {pc : Nat} (pc' : Nat) {L : Array Slot} {rest : List Value} (hd : decode c.code pc = .ok (.aastore, 1)) (hp : pc + 1 = pc')
    (k : ∀ h', Wr h h' a i v → CHr Z EL vm h vm h' → Arv Z h' a kc (.object C) n (vs.set i v) d → Go p l e R s m args below meth c Z a0 EL own Q vm h' cells slots (mkF m pc' L rest)) : Go p l e R s m args below meth c Z a0 EL own Q vm h cells slots (mkF m pc L (v :: .int j :: .ref a :: rest)) := by
  subst hj hp
  obtain ⟨cl, Ar, q1, q2, q3, q4, q5⟩ := F
  exact gwr _ ha (fun al => Safe.arr al Ar nofun) (fun T locs X hZ hown eT => stR (s := s.setVm vm) X hx hZ eT Ar (j := j) (inb_of q2 hin) rfl S (g := mkF m pc L (v :: .int j :: .ref a :: rest)) rfl rfl hd) fun h' W hC => k h' W hC (Arv.set Ar q1 q2 q3 q4 q5 (by cases v <;> first | rfl | (cases hv; done)) W _ rfl hi)
theorem gldC {a : Addr} {kc : ClassId} {n : Int32} {vs : List Value} {d v : Value} {j : Int32} {i : Nat} (hx : p.tables.exec = Jvm.exec) (F : Arv Z h a kc .char n vs d) (hin : ¬ j < 0 ∧ j < n) (hj : j.toNatClampNeg = i) (hv : vs.getD i d = v)
    {pc : Nat} (pc' : Nat) {L : Array Slot} {rest : List Value} (hd : decode c.code pc = .ok (.caload, 1)) (hp : pc + 1 = pc')
    (k : Go p l e R s m args below meth c Z a0 EL own Q vm h cells slots (mkF m pc' L (v :: rest))) : Go p l e R s m args below meth c Z a0 EL own Q vm h cells slots (mkF m pc L (.int j :: .ref a :: rest)) := by
  subst hj hp
  obtain ⟨cl, Ar, q1, q2, q3, q4, q5⟩ := F
  exact gx _ (fun T locs X hZ hown eT => X.caload (s := s.setVm vm) hx (by rw [eT]; exact Ar.1) (State.isArrayOf_alike hZ.alike Ar.2.1) Ar.2.2 (inb_of q2 hin) (q4.at (inb_of q2 hin) hv) (g := mkF m pc L (.int j :: .ref a :: rest)) rfl rfl hd) k
theorem gldB {a : Addr} {kc : ClassId} {n : Int32} {vs : List Value} {d v : Value} {j : Int32} {i : Nat} (hx : p.tables.exec = Jvm.exec) (F : Arv Z h a kc .byte n vs d) (hin : ¬ j < 0 ∧ j < n) (hj : j.toNatClampNeg = i) (hv : vs.getD i d = v)
    {pc : Nat} (pc' : Nat) {L : Array Slot} {rest : List Value} (hd : decode c.code pc = .ok (.baload, 1)) (hp : pc + 1 = pc')
    (k : Go p l e R s m args below meth c Z a0 EL own Q vm h cells slots (mkF m pc' L (v :: rest))) : Go p l e R s m args below meth c Z a0 EL own Q vm h cells slots (mkF m pc L (.int j :: .ref a :: rest)) := by
  subst hj hp
  obtain ⟨cl, Ar, q1, q2, q3, q4, q5⟩ := F
  exact gx _ (fun T locs X hZ hown eT => X.baloadBytes (s := s.setVm vm) hx (by rw [eT]; exact Ar.1) (State.isArrayOf_alike hZ.alike Ar.2.1) Ar.2.2 (inb_of q2 hin) (q4.at (inb_of q2 hin) hv) (g := mkF m pc L (.int j :: .ref a :: rest)) rfl rfl hd) k
theorem gldI {a : Addr} {kc : ClassId} {n : Int32} {vs : List Value} {d v : Value} {j : Int32} {i : Nat} (hx : p.tables.exec = Jvm.exec) (F : Arv Z h a kc .int n vs d) (hin : ¬ j < 0 ∧ j < n) (hj : j.toNatClampNeg = i) (hv : vs.getD i d = v)
    {pc : Nat} (pc' : Nat) {L : Array Slot} {rest : List Value} (hd : decode c.code pc = .ok (.iaload, 1)) (hp : pc + 1 = pc')
    (k : Go p l e R s m args below meth c Z a0 EL own Q vm h cells slots (mkF m pc' L (v :: rest))) : Go p l e R s m args below meth c Z a0 EL own Q vm h cells slots (mkF m pc L (.int j :: .ref a :: rest)) := by
  subst hj hp
  obtain ⟨cl, Ar, q1, q2, q3, q4, q5⟩ := F
  exact gx _ (fun T locs X hZ hown eT => X.iaload (s := s.setVm vm) hx (by rw [eT]; exact Ar.1) (State.isArrayOf_alike hZ.alike Ar.2.1) Ar.2.2 (inb_of q2 hin) (q4.at (inb_of q2 hin) hv) (g := mkF m pc L (.int j :: .ref a :: rest)) rfl rfl hd) k
theorem gldR {a : Addr} {kc : ClassId} {C : String} {n : Int32} {vs : List Value} {d v : Value} {j : Int32} {i : Nat} (hx : p.tables.exec = Jvm.exec) (F : Arv Z h a kc (.object C) n vs d) (hin : ¬ j < 0 ∧ j < n) (hj : j.toNatClampNeg = i) (hv : vs.getD i d = v)
    {pc : Nat} (pc' : Nat) {L : Array Slot} {rest : List Value} (hd : decode c.code pc = .ok (.aaload, 1)) (hp : pc + 1 = pc')
    (k : Go p l e R s m args below meth c Z a0 EL own Q vm h cells slots (mkF m pc' L (v :: rest))) : Go p l e R s m args below meth c Z a0 EL own Q vm h cells slots (mkF m pc L (.int j :: .ref a :: rest)) := by
  subst hj hp
  obtain ⟨cl, Ar, q1, q2, q3, q4, q5⟩ := F
  exact gx _ (fun T locs X hZ hown eT => X.aaload (s := s.setVm vm) hx (by rw [eT]; exact Ar.1) (State.isArrayOf_alike hZ.alike Ar.2.1) rfl Ar.2.2 (inb_of q2 hin) (q4.at (inb_of q2 hin) hv) (g := mkF m pc L (.int j :: .ref a :: rest)) rfl rfl hd) k
theorem glen {a : Addr} {kc : ClassId} {ty : FieldType} {n : Int32} {vs : List Value} {d : Value} (hx : p.tables.exec = Jvm.exec) (F : Arv Z h a kc ty n vs d)
    {pc : Nat} (pc' : Nat) {L : Array Slot} {rest : List Value} (hd : decode c.code pc = .ok (.arraylength, 1)) (hp : pc + 1 = pc')
    (k : Go p l e R s m args below meth c Z a0 EL own Q vm h cells slots (mkF m pc' L (.int n :: rest))) : Go p l e R s m args below meth c Z a0 EL own Q vm h cells slots (mkF m pc L (.ref a :: rest)) := by
  subst hp
  obtain ⟨cl, Ar, q1, q2, q3, q4, q5⟩ := F
  exact gx _ (fun T locs X hZ hown eT t kk => X.arraylength (s := s.setVm vm) hx (by rw [eT]; exact Ar.1) (State.isArrayOf_alike hZ.alike Ar.2.1) (g := mkF m pc L (.ref a :: rest)) rfl rfl hd t (by rw [len_of q2 q3]; exact kk)) k
/-! casts, constants -/
theorem gcast {K : String} {index : Nat} (hx : p.tables.exec = Jvm.exec) (w : (Cond.classLink own index K).before a0 Z = true) {a : Addr} (F : Ins Z h a K true) {pc : Nat} (pc' : Nat) {L : Array Slot} {rest : List Value} (hd : decode c.code pc = .ok (.checkcast index, 3)) (hp : pc + 3 = pc')
    (k : Go p l e R s m args below meth c Z a0 EL own Q vm h cells slots (mkF m pc' L (.ref a :: rest))) : Go p l e R s m args below meth c Z a0 EL own Q vm h cells slots (mkF m pc L (.ref a :: rest)) :=
  gy _ (fun T locs X hZ hown eT => by
    subst hp
    exact castY (s := s.setVm vm) X hx hZ hown w eT F (g := mkF m pc L (.ref a :: rest)) rfl rfl hd) k
theorem ginstY {K : String} {index : Nat} (hx : p.tables.exec = Jvm.exec) (w : (Cond.classLink own index K).before a0 Z = true) {a : Addr} (F : Ins Z h a K true) {pc : Nat} (pc' : Nat) {L : Array Slot} {rest : List Value} (hd : decode c.code pc = .ok (.instanceof index, 3)) (hp : pc + 3 = pc')
    (k : Go p l e R s m args below meth c Z a0 EL own Q vm h cells slots (mkF m pc' L (.int 1 :: rest))) : Go p l e R s m args below meth c Z a0 EL own Q vm h cells slots (mkF m pc L (.ref a :: rest)) :=
  gy _ (fun T locs X hZ hown eT => by
    subst hp
    exact instY (s := s.setVm vm) X hx hZ hown w eT F (g := mkF m pc L (.ref a :: rest)) rfl rfl hd) k
theorem ginstN {K C : String} {index : Nat} (hx : p.tables.exec = Jvm.exec) (w : (Cond.classLink own index K).before a0 Z = true) {a : Addr} (E : Exa Z h a C) (F : ∃ c t, Z.vm.findClass C = some c ∧ Z.vm.findClass K = some t ∧ Z.vm.assignable c t = false) {pc : Nat} (pc' : Nat) {L : Array Slot} {rest : List Value} (hd : decode c.code pc = .ok (.instanceof index, 3)) (hp : pc + 3 = pc')
    (k : Go p l e R s m args below meth c Z a0 EL own Q vm h cells slots (mkF m pc' L (.int 0 :: rest))) : Go p l e R s m args below meth c Z a0 EL own Q vm h cells slots (mkF m pc L (.ref a :: rest)) :=
  gy _ (fun T locs X hZ hown eT => by
    subst hp
    exact instNo (s := s.setVm vm) X hx hZ hown w eT E F (g := mkF m pc L (.ref a :: rest)) rfl rfl hd) k
theorem gldcI {index : Nat} {v : Int32} (hx : p.tables.exec = Jvm.exec) (w : (Cond.constant own index v).before a0 Z = true) {pc : Nat} (pc' : Nat) {L : Array Slot} {S : List Value} (hd : decode c.code pc = .ok (.ldc index, 2)) (hp : pc + 2 = pc')
    (k : Go p l e R s m args below meth c Z a0 EL own Q vm h cells slots (mkF m pc' L (.int v :: S))) : Go p l e R s m args below meth c Z a0 EL own Q vm h cells slots (mkF m pc L S) :=
  gx _ (fun T locs X hZ hown eT => by
    subst hp
    exact X.ldcInt (s := s.setVm vm) hx hown (mvT hZ w) (g := mkF m pc L S) rfl hd) k
theorem gldcJ {index : Nat} {v : Int64} (hx : p.tables.exec = Jvm.exec) (w : (Cond.constantLong own index v).before a0 Z = true) {pc : Nat} (pc' : Nat) {L : Array Slot} {S : List Value} (hd : decode c.code pc = .ok (.ldc2_w index, 3)) (hp : pc + 3 = pc')
    (k : Go p l e R s m args below meth c Z a0 EL own Q vm h cells slots (mkF m pc' L (.long v :: S))) : Go p l e R s m args below meth c Z a0 EL own Q vm h cells slots (mkF m pc L S) :=
  gx _ (fun T locs X hZ hown eT => by
    subst hp
    exact X.ldc2Long (s := s.setVm vm) hx hown (mvT hZ w) (g := mkF m pc L S) rfl hd) k
/-- ldc of a String constant whose text isn't read -/
theorem gldcO {index : Nat} {text : String} (hx : p.tables.exec = Jvm.exec) (w : (Cond.stringLink own index text).before a0 Z = true) (wS : ∀ a ∈ Bundle.stringAtoms, a.before a0 Z = true) {n : Nat} (hn : 4 * text.toList.length ≤ n) (hbig : n ≤ 536870912)
    {pc : Nat} (pc' : Nat) {L : Array Slot} {S : List Value} (hd : decode c.code pc = .ok (.ldc index, 2)) (hp : pc + 2 = pc') (hc : cells + 2 ≤ R.cells) (hl : slots + (n + 4) ≤ R.slots)
    (k : ∀ (a : Addr) (vm' : Vm) (h' : Heap), Ext h h' → CHr Z EL vm h vm' h' → Go p l e R s m args below meth c Z a0 EL own Q vm' h' (cells + 2) (slots + (n + 4)) (mkF m pc' L (.ref a :: S))) : Go p l e R s m args below meth c Z a0 EL own Q vm h cells slots (mkF m pc L S) := fun T X => by
  subst hp
  obtain ⟨locs, k0, X', eT, hZ, hown, hS, hk, N, H, E0, hEL, hx', hlk⟩ := X
  obtain ⟨a, T', h', k1, X1, e1, E, hS1, hk1, hZ1, ho1, hC, -, st⟩ := ldcOH X' hx hZ hown w wS eT hS hk hEL H.1 (g := mkF m pc L S) rfl hd hn hbig hc hl
  obtain ⟨s2, o, q1, q2⟩ := k a T'.vm h' E hC T' ⟨locs, k1, X1, e1, hZ1, ho1, hS1, hk1, N, H.trans hC, E0, hEL, hx', hlk⟩
  exact ⟨s2, o, st _ q1, q2⟩
/-- ldc of a String constant of EL, read -/
theorem gldcR {index : Nat} {text : String} (hx : p.tables.exec = Jvm.exec) (w : (Cond.stringLink own index text).before a0 Z = true) (wS : ∀ a ∈ Bundle.stringAtoms, a.before a0 Z = true) (hmem : (own, index) ∈ EL) {n : Nat} (hn : 4 * text.toList.length ≤ n) (hbig : n ≤ 536870912)
    {vs : List Value} {z : Int32} (ht : (∀ c ∈ text.toList, c.toNat < 256) ∧ text.toList.map (fun c => Value.int (Jvm.Lit.byteI c.toNat.toUInt16)) = vs) (hz : ¬ z < 0) (hlz : z.toNatClampNeg = vs.length)
    {pc : Nat} (pc' : Nat) {L : Array Slot} {S : List Value} (hd : decode c.code pc = .ok (.ldc index, 2)) (hp : pc + 2 = pc') (hc : cells + 2 ≤ R.cells) (hl : slots + (n + 4) ≤ R.slots)
    (k : ∀ (a b : Addr) (kb : ClassId) (vm' : Vm) (h' : Heap), Ext h h' → CHr Z EL vm h vm' h' → Exa Z h' a "java/lang/String" → Fld Z h' a "java/lang/String" "coder" "B" (.int 0) → Fld Z h' a "java/lang/String" "value" "[B" (.ref b) → Arv Z h' b kb .byte z vs (.int 0) → (∀ x, Safe Z EL vm' h' x → x ≠ a ∧ x ≠ b) →
      Go p l e R s m args below meth c Z a0 EL own Q vm' h' (cells + 2) (slots + (n + 4)) (mkF m pc' L (.ref a :: S))) : Go p l e R s m args below meth c Z a0 EL own Q vm h cells slots (mkF m pc L S) := fun T X => by
  subst hp
  obtain ⟨locs, k0, X', eT, hZ, hown, hS, hk, N, H, E0, hEL, hx', hlk⟩ := X
  obtain ⟨a, T', h', k1, b, kb, X1, e1, E, hS1, hk1, hZ1, ho1, F1, F2, F3, F4, -, -, hC, -, F5, st⟩ := ldcCH X' hx hZ hown w wS eT hS hk hEL hmem H.1 ht hz hlz (g := mkF m pc L S) rfl hd hn hbig hc hl
  obtain ⟨s2, o, q1, q2⟩ := k a b kb T'.vm h' E hC F1 F2 F3 F4 F5 T' ⟨locs, k1, X1, e1, hZ1, ho1, hS1, hk1, N, H.trans hC, E0, hEL, hx', hlk⟩
  exact ⟨s2, o, st _ q1, q2⟩
end Kit2
end Jvm.OwnKit
namespace Jvm.OwnKit
open Sem ClassFile Op Lib Bundle Jvm.Stand Jvm.Free Jvm.LawKit Jvm.RoadKit
section Kit3
variable {p : Program} {l : Launch} {e : Env} {R : Room} {s : State} {m : MethodId} {args : Array Value} {below : List Frame} {meth : Method} {c : Code} {Z : State} {a0 : Array Value} {EL : List (String × Nat)} {own : String} {Q : Option Value → Vm → Heap → Prop} {vm : Vm} {h h' : Heap} {cells slots : Nat} {g : JFrame}
theorem gi2c {x y : Int32} (hx : p.tables.exec = Jvm.exec) (hy : x.toUInt32.toUInt16.toUInt32.toInt32 = y) {pc : Nat} (pc' : Nat) {L : Array Slot} {rest : List Value} (hd : decode c.code pc = .ok (.i2c, 1)) (hp : pc + 1 = pc')
    (k : Go p l e R s m args below meth c Z a0 EL own Q vm h cells slots (mkF m pc' L (.int y :: rest))) : Go p l e R s m args below meth c Z a0 EL own Q vm h cells slots (mkF m pc L (.int x :: rest)) := by
  subst hy hp
  exact gs _ (fun _ _ A k => XS.i2c A hx rfl hd rfl k) k
theorem narC (x : Int32) : nar .char (x &&& 255) = x &&& 255 := i2c_mask x
theorem narC2 (x : Int32) : nar .char (x.toUInt32.toUInt16.toUInt32.toInt32) = x.toUInt32.toUInt16.toUInt32.toInt32 := by
  show (x.toUInt32.toUInt16.toUInt32.toInt32).toUInt32.toUInt16.toUInt32.toInt32 = _
  simp only [UInt32.toUInt32_toInt32, UInt16.toUInt16_toUInt32]
/-- a char of 0 to 255 -/
def B8 (c : Int32) : Prop := ¬ c < 0 ∧ ¬ (255 : Int32) < c
theorem b255 (x : Int32) : B8 (x &&& 255) := by
  have h := c_mask x 255 8 (by decide) (by decide)
  have e1 : (0 : Int32).toInt = 0 := rfl
  have e2 : (255 : Int32).toInt = 255 := rfl
  refine ⟨?_, ?_⟩
  · rw [Int32.lt_iff_toInt_lt, h, e1]; omega
  · rw [Int32.lt_iff_toInt_lt, h, e2]; omega
theorem bnil : ∀ c ∈ ([] : List Int32), B8 c := fun _ q => nomatch q
theorem bcons {a : Int32} {L : List Int32} (q : B8 a) (r : ∀ c ∈ L, B8 c) : ∀ c ∈ a :: L, B8 c := fun c z => (List.mem_cons.mp z).elim (fun u => u ▸ q) (r c)
/-- an ordinary Latin-1 String and its bytes -/
def Str (Z : State) (h : Heap) (a t : Addr) (cs : List Int32) : Prop := Exa Z h a "java/lang/String" ∧ Fld Z h a "java/lang/String" "coder" "B" (.int 0) ∧ Fld Z h a "java/lang/String" "value" "[B" (.ref t) ∧
  (∃ kb, Arv Z h t kb .byte (Int32.ofNat cs.length) ((cs.map fun c => c.toInt8.toInt32).map Value.int) (.int 0)) ∧ (∀ c ∈ cs, B8 c) ∧ cs.length ≤ 4000
variable {a t o : Addr} {cs : List Int32} {ws : List Addr} {sl : Nat} {v : Value}
theorem Str.ext (F : Str Z h a t cs) (E : Ext h h') : Str Z h' a t cs := by
  obtain ⟨f1, f2, f3, ⟨kb, f4⟩, f5⟩ := F
  exact ⟨f1.ext E, f2.ext E, f3.ext E, ⟨kb, f4.ext E⟩, f5⟩
theorem Str.keep (F : Str Z h a t cs) (K : Keep h h' ws) (q : a ∉ ws) (r : t ∉ ws) : Str Z h' a t cs := by
  obtain ⟨f1, f2, f3, ⟨kb, f4⟩, f5⟩ := F
  exact ⟨f1.keep K, f2.keep K q, f3.keep K q, ⟨kb, f4.keep K r⟩, f5⟩
theorem Str.other (F : Str Z h a t cs) (W : Wr h h' o sl v) (q : a ≠ o) (r : t ≠ o) : Str Z h' a t cs := by
  obtain ⟨f1, f2, f3, ⟨kb, f4⟩, f5⟩ := F
  exact ⟨f1.wr W, f2.other W (Or.inl q), f3.other W (Or.inl q), ⟨kb, f4.other W r⟩, f5⟩
theorem Str.tlt (F : Str Z h a t cs) : t < h.size := by
  obtain ⟨f1, f2, f3, ⟨kb, f4⟩, f5⟩ := F
  exact f4.lt
theorem Str.neT (F : Str Z h a t cs) {x : Addr} {C : String} {n : Nat} (E : Exa Z h x C) (w : (Cond.instantiable C n).before a0 Z = true) : x ≠ t := by
  obtain ⟨f1, f2, f3, ⟨kb, f4⟩, f5⟩ := F
  exact Exa.neArv E f4 w
theorem Str.neq {b u : Addr} {ds : List Int32} (F : Str Z h a t cs) (G : Str Z h b u ds) (q : cs ≠ ds) : a ≠ b := fun e => by
  subst e
  obtain ⟨-, -, f3, ⟨kb, A, f4, -, f6, -, f8, -⟩, f9, f10⟩ := F
  obtain ⟨-, -, g3, ⟨kb', A', g4, -, g6, -, g8, -⟩, g9, g10⟩ := G
  have e1 : t = u := by
    obtain ⟨cell, cf, k, i, f, h1, h2, -, -, -, -, h7⟩ := f3
    obtain ⟨cell', cf', k', i', f', h1', h2', -, -, -, -, h7'⟩ := g3
    cases h1.symm.trans h1'
    cases h2.symm.trans h2'
    have := Option.some.inj (h7.symm.trans h7')
    cases this; rfl
  subst e1
  cases f4.1.symm.trans g4.1
  have e2 : cs.length = ds.length := by
    rw [f6] at g6
    have r : ∀ n : Nat, n ≤ 4000 → (Int32.ofNat n).toNatClampNeg = n := fun n hn => by
      have := (back32 (n := Int32.ofNat n) (by rw [Int32.lt_iff_toInt_lt, Int32.toInt_ofNat_of_lt (by omega)]; simp)).1
      rw [Int32.toNatClampNeg, Int32.toInt_ofNat_of_lt (by omega)]; rfl
    rw [r _ f10, r _ g10] at g6; exact g6
  apply q
  apply List.ext_getElem e2
  intro i h1 h2
  have sz : i < A.slots.size := by
    rw [f6, Int32.toNatClampNeg, Int32.toInt_ofNat_of_lt (by omega)]; exact h1
  have w1 := f8 i sz
  have w2 := g8 i sz
  rw [w1] at w2
  have w3 := Option.some.inj w2
  simp only [List.map_map, List.getD_eq_getElem?_getD, List.getElem?_map, List.getElem?_eq_getElem h1, List.getElem?_eq_getElem h2, Option.map_some, Option.getD_some, Function.comp] at w3
  have w4 := Value.int.inj w3
  have b1 := f9 _ (List.getElem_mem h1)
  have b2 := g9 _ (List.getElem_mem h2)
  generalize cs[i] = x at *
  generalize ds[i] = y at *
  obtain ⟨b1a, b1b⟩ := b1
  obtain ⟨b2a, b2b⟩ := b2
  have c1 := c_i2b x
  have c2 := c_i2b y
  rw [w4] at c1
  rw [Int32.lt_iff_toInt_lt] at b1a b1b b2a b2b
  have e0 : (0 : Int32).toInt = 0 := rfl
  have e255 : (255 : Int32).toInt = 255 := rfl
  rw [e0] at b1a b2a
  rw [e255] at b1b b2b
  apply Int32.toInt_inj.mp
  omega
theorem Str.lit {kb : ClassId} {z : Int32} {vs : List Value} (E : Exa Z h a "java/lang/String") (C : Fld Z h a "java/lang/String" "coder" "B" (.int 0)) (V : Fld Z h a "java/lang/String" "value" "[B" (.ref t)) (A : Arv Z h t kb .byte z vs (.int 0)) (hb : ∀ c ∈ cs, ¬ c < 0 ∧ ¬ (255 : Int32) < c)
    (hz : z = Int32.ofNat cs.length) (hv : vs = (cs.map fun c => c.toInt8.toInt32).map Value.int) (hl : cs.length ≤ 4000) : Str Z h a t cs := ⟨E, C, V, ⟨kb, by rw [← hz, ← hv]; exact A⟩, hb, hl⟩
theorem Arv.sto {kc : ClassId} {C : String} {n : Int32} {vs : List Value} {d : Value} {y : Addr} (F : Arv Z h a kc (.object C) n vs d) (O : Ovr Z kc C) (I : Ins Z h y C true) : Sto Z h a (.ref y) := by
  obtain ⟨cl, Ar, q1, -⟩ := F
  exact Sto.ofV Ar q1 O I
end Kit3
end Jvm.OwnKit
namespace Jvm.OwnKit
open Sem ClassFile Op Lib Bundle Jvm.Stand Jvm.Free Jvm.LawKit Jvm.RoadKit
section Kit4
variable {p : Program} {l : Launch} {e : Env} {R : Room} {s : State} {m : MethodId} {args : Array Value} {below : List Frame} {meth : Method} {c : Code} {Z : State} {a0 : Array Value} {EL : List (String × Nat)} {own : String} {Q : Option Value → Vm → Heap → Prop} {vm : Vm} {h h' : Heap} {cells slots : Nat} {g : JFrame}
theorem Pay.weaken {y : MethodName} {len W rc rs rc' rs' : Nat} {as' : Array Value} (hP : Pay l R p e below s args Z EL vm h y len W as' rc rs Q) (hc : rc ≤ rc') (hs : rs ≤ rs') : Pay l R p e below s args Z EL vm h y len W as' rc' rs' Q := by
  intro m meth c A g ig mk a X hg hsize hdg hW hn hp
  obtain ⟨v, ⟨U, Lx, cx, sx⟩, X', h1, h2, ⟨L, q1, q2, q3, q4, q5⟩, st⟩ := hP m meth c A g ig mk a X hg hsize hdg hW hn ⟨hp.1, hp.2.1, by have := hp.2.2.1; omega, by have := hp.2.2.2; omega⟩
  dsimp only [Pt.U, Pt.locs, Pt.cells, Pt.slots] at X' h1 h2 q1 q2 q3 q4 q5 st
  subst q2 q3 q4
  exact ⟨v, ⟨U, _, A.cells + rc', A.slots + rs'⟩, { X' with same := X'.same.mono (by show A.cells + rc ≤ A.cells + rc'; omega) (by show A.slots + rs ≤ A.slots + rs'; omega) }, h1, h2, ⟨L, q1, rfl, rfl, rfl, q5⟩, st⟩
/-- roads that meet -/
theorem gjoin (P : Vm → Heap → JFrame → Prop) (cells' slots' : Nat) (k1 : ∀ vm' h' g', P vm' h' g' → Go p l e R s m args below meth c Z a0 EL own Q vm' h' cells' slots' g')
    (k2 : (∀ vm' h' g', P vm' h' g' → Go p l e R s m args below meth c Z a0 EL own Q vm' h' cells' slots' g') → Go p l e R s m args below meth c Z a0 EL own Q vm h cells slots g) : Go p l e R s m args below meth c Z a0 EL own Q vm h cells slots g := k2 k1
/-- C's chain of superclasses doesn't meet an instantiable K -/
theorem NSroot {O K : String} {n : Nat} (w : (Cond.noSuperclass O).before a0 Z = true) (wk : (Cond.instantiable K n).before a0 Z = true) (hn : O ≠ K) : NS Z O K := by
  obtain ⟨c, k, h1, h2, h3, -, -⟩ := Cond.noSuperclass_spec w
  obtain ⟨t, k', g1, g2, g3, g4, -⟩ := Cond.instantiable_spec wk
  have ne := ids_ne h1 g1 hn
  refine ⟨c, t, h1, g1, fun fuel => ?_⟩
  cases fuel with
  | zero => rfl
  | succ f => simp [Vm.isSubclassAux, ne, h2, h3]
theorem NSno {C S K : String} {n : Nat} (w : (Cond.superclass C S).before a0 Z = true) (wk : (Cond.instantiable K n).before a0 Z = true) (nn : NS Z C K) (hn : C ≠ K) : ∃ c t, Z.vm.findClass C = some c ∧ Z.vm.findClass K = some t ∧ Z.vm.assignable c t = false := by
  obtain ⟨c, t, h0, g0, n3⟩ := nn
  obtain ⟨p, k, kp, h1, h2, h3, h4, h5, -, h7⟩ := Cond.superclass_spec h0 w
  obtain ⟨t', k', g1, g2, g3, g4, -⟩ := Cond.instantiable_spec wk
  cases g0.symm.trans g1
  have ne := ids_ne h0 g0 hn
  have g5 : k'.isInterface = false := by cases hq : k'.isInterface <;> simp [hq] at g4 ⊢
  refine ⟨c, t, h0, g0, ?_⟩
  show Z.vm.assignableAux (255 + 1) c t = false
  simp [Vm.assignableAux, ne, h2, g2, h5, g3, g5, Vm.isSubclass, n3]
/-- a char[] of Latin-1 signs -/
def ChA (Z : State) (h : Heap) (b : Addr) (cs : List Int32) : Prop := ∃ kc, Arv Z h b kc .char (Int32.ofNat cs.length) (cs.map Value.int) (.int 0) ∧ (∀ c ∈ cs, B8 c) ∧ cs.length ≤ 4000
variable {b : Addr} {cs : List Int32} {ws : List Addr} {sl : Nat} {v : Value} {o : Addr}
theorem ChA.ext (F : ChA Z h b cs) (E : Ext h h') : ChA Z h' b cs := by obtain ⟨k, f, r⟩ := F; exact ⟨k, f.ext E, r⟩
theorem ChA.keep (F : ChA Z h b cs) (K : Keep h h' ws) (q : b ∉ ws) : ChA Z h' b cs := by obtain ⟨k, f, r⟩ := F; exact ⟨k, f.keep K q, r⟩
theorem ChA.wr (F : ChA Z h b cs) (W : Wr h h' o sl v) (q : b ≠ o) : ChA Z h' b cs := by obtain ⟨k, f, r⟩ := F; exact ⟨k, f.other W q, r⟩
theorem ChA.lt (F : ChA Z h b cs) : b < h.size := by obtain ⟨k, f, r⟩ := F; exact f.lt
theorem narB (x : Int32) : nar .byte (x.toInt8.toInt32) = x.toInt8.toInt32 := by
  show (x.toInt8.toInt32).toInt8.toInt32 = _
  simp
theorem b16 (x : Int32) : ¬ (x.toUInt32.toUInt16.toUInt32.toInt32) < 0 ∧ ¬ (65535 : Int32) < (x.toUInt32.toUInt16.toUInt32.toInt32) := by
  have h := c_i2c x
  have e1 : (0 : Int32).toInt = 0 := rfl
  have e2 : (65535 : Int32).toInt = 65535 := rfl
  rw [Int32.lt_iff_toInt_lt, Int32.lt_iff_toInt_lt, e1, e2]
  omega
/-! out of the case's words -/
theorem staI {C n d : String} {y : Int32} (w : (Cond.eq (Term.static C n d) (Term.int y)).before args s = true) (wi : (Cond.initializedFor C n d).before args s = true) : Sta s s.heap C n d (.int y) := by
  have w := Cond.before_iff.mp w
  obtain ⟨x, y', e1, e2, k1, k2⟩ := cmp_v (Or.inl w)
  cases (Option.some.inj e2 : Value.int y = y')
  obtain ⟨z, rfl⟩ := k2
  have e3 : z = y := by
    generalize Term.static C n d = t at *
    simpa [Cond.value, Term.eval, e1] using w
  subst e3
  exact Sta.start e1 (Or.inl wi)
theorem eqI {t : Term} {x y : Int32} {idx : List Nat} (h1 : t.eval args s none idx s = some (.int x)) (h2 : (Cond.eq t (Term.int y)).value args s none s idx = some true) : x = y := by simpa [Cond.value, Term.eval, h1] using h2
theorem lenlt {t : Term} {v : Value} {aa : Addr} {cl : Cell} (h : (Term.length t).eval args s none [] s = some v) (ht : t.eval args s none [] s = some (.ref aa)) (hA : s.arrayAt? aa = some cl) : cl.slots.size < 2 ^ 31 := by
  apply Decidable.byContradiction
  intro hb
  simp [Term.eval, ht, hA, hb] at h
theorem lenI {t : Term} {n : Int32} {aa : Addr} {cl : Cell} (w : (Cond.eq (Term.length t) (Term.int n)).value args s none s [] = some true) (ht : t.eval args s none [] s = some (.ref aa)) (hA : s.arrayAt? aa = some cl) : cl.slots.size < 2 ^ 31 ∧ cl.slots.size.toInt32 = n := by
  obtain ⟨x, y, f1, f2, -, -⟩ := cmp_v (Or.inl w)
  have hb := lenlt f1 ht hA
  exact ⟨hb, eqI (len_f ht hA hb) w⟩
theorem elI {t : Term} {aa : Addr} {cl : Cell} {j y : Int32} (ht : t.eval args s none [] s = some (.ref aa)) (hc : s.heap[aa]? = some cl) (w : (Cond.eq (Term.elem t (Term.int j)) (Term.int y)).value args s none s [] = some true) : cl.slots[j.toNatClampNeg]? = some (.int y) := by
  obtain ⟨x, y', e1, e2, k1, k2⟩ := cmp_v (Or.inl w)
  cases (Option.some.inj e2 : Value.int y = y')
  obtain ⟨z, rfl⟩ := k2
  have := eqI e1 w
  subst this
  exact (elem_in e1 ht rfl hc).2
theorem fldI {t : Term} {aa : Addr} {C n d : String} {y : Int32} (ht : t.eval args s none [] s = some (.ref aa)) (w : (Cond.eq (Term.field t C n d) (Term.int y)).value args s none s [] = some true) : Fld s s.heap aa C n d (.int y) := by
  obtain ⟨x, y', e1, e2, k1, k2⟩ := cmp_v (Or.inl w)
  cases (Option.some.inj e2 : Value.int y = y')
  obtain ⟨z, rfl⟩ := k2
  have := eqI e1 w
  subst this
  exact Fld.start ((fld_at ht).symm.trans e1)
theorem Str.start {t : Term} {cs : List Int32} {n : Int32} {aa : Addr} (hf : Fit s) (ev : t.eval args s none [] s = some (.ref aa)) (wE : (Cond.exactly t "java/lang/String").value args s none s [] = some true) (wC : (Cond.eq (Term.field t "java/lang/String" "coder" "B") (Term.int 0)).value args s none s [] = some true)
    (wA : (Cond.arrayOf (Term.field t "java/lang/String" "value" "[B") .byte).value args s none s [] = some true) (wL : (Cond.eq (Term.length (Term.field t "java/lang/String" "value" "[B")) (Term.int n)).value args s none s [] = some true) (hn : n = Int32.ofNat cs.length) (hl : cs.length ≤ 4000) (hb : ∀ c ∈ cs, B8 c)
    (H : ∀ (tt : Addr) (cl : Cell), (Term.field t "java/lang/String" "value" "[B").eval args s none [] s = some (.ref tt) → s.heap[tt]? = some cl → HasL cl 0 ((cs.map fun c => c.toInt8.toInt32).map Value.int)) : ∃ tt, Str s s.heap aa tt cs := by
  obtain ⟨tt, et⟩ := arr_v wA
  obtain ⟨cl, Ar⟩ := Arr.start et wA
  have hA : s.arrayAt? tt = some cl := Ar.fin (Vm.Alike.refl _)
  obtain ⟨h1, h2⟩ := lenI wL et hA
  have hz : ¬ n < 0 := by rw [hn, Int32.lt_iff_toInt_lt, Int32.toInt_ofNat_of_lt (by omega)]; simp
  have hz2 : n.toNatClampNeg = cs.length := by rw [hn, Int32.toNatClampNeg, Int32.toInt_ofNat_of_lt (by omega)]; rfl
  refine ⟨tt, Exa.start ev wE, fldI ev wC, Fld.start ((fld_at ev).symm.trans et), ⟨cl.cls, ?_⟩, hb, hl⟩
  rw [← hn]
  exact Arv.start hf Ar h1 h2 hz (by rw [hz2]; simp) (H tt cl et Ar.1)
end Kit4
end Jvm.OwnKit
namespace Jvm.OwnKit
open Sem ClassFile Op Lib Bundle Jvm.Stand Jvm.Free Jvm.LawKit Jvm.RoadKit
section Kit5
variable {p : Program} {l : Launch} {e : Env} {R : Room} {s : State} {m : MethodId} {args : Array Value} {below : List Frame} {meth : Method} {c : Code} {Z : State} {a0 : Array Value} {EL : List (String × Nat)} {own : String} {Q : Option Value → Vm → Heap → Prop} {vm : Vm} {h h' : Heap} {cells slots : Nat} {g : JFrame}
/-- a private method reached by invokevirtual, the word 'selects' at the receiver's class -/
theorem gcallQ {index : Nat} {C : String} {y : MethodName} {bytes : ByteArray} {maxL : Nat} {ret : Option FieldType} (hx : p.tables.exec = Jvm.exec) (wl : (Cond.methodLink own index y).before a0 Z = true) (wi : (Cond.instanceMethod y).before a0 Z = true) (wsel : (Cond.selects C y y).before a0 Z = true) (wp : (Cond.privateMethod y).before a0 Z = true) (wc : (Cond.code y bytes maxL ret).before a0 Z = true)
    (hy : y.cls ≠ "java/lang/invoke/MethodHandle" ∧ y.cls ≠ "java/lang/invoke/VarHandle") {W rc rs : Nat} {as' : Array Value} {Q' : Option Value → Vm → Heap → Prop} (hP : Z.Warmed39 vm → CHv Z EL vm h → EW Z a0 EL → Pay l R p e below s args Z EL vm h y 3 W as' rc rs Q')
    {pc : Nat} (pc' : Nat) {L : Array Slot} {S argsL rest : List Value} {a : Addr} {K : String} (E : Exa Z h a K) (hlen : ∀ sig, parseMethodDescriptor y.desc = some sig → argsL.length = sig.parameters.length) (has : (.ref a :: argsL).toArray = as') (hstk : S = argsL.reverse ++ .ref a :: rest) (hW : (rest.map fun v => v.category).sum ≤ W) (hml : L.size = c.maxLocals)
    (hd : decode c.code pc = .ok (.invokevirtual index, 3)) (hp : pc + 3 = pc') (hc : cells + rc ≤ R.cells) (hs : slots + rs ≤ R.slots)
    (k : ∀ v vm' h', CHr Z EL vm h vm' h' → Q' v vm' h' → Go p l e R s m args below meth c Z a0 EL own Q vm' h' (cells + rc) (slots + rs) (mkF m pc' L (v.toList ++ rest))) : Go p l e R s m args below meth c Z a0 EL own Q vm h cells slots (mkF m pc L S) :=
  gback (y := y) (as' := as') (fun T locs X hZ hown eT H hEL => by
    subst has hp hstk
    obtain ⟨cq, q1, q2⟩ := E.cell
    have hi : (Cond.instanceMethod y).before args (s.setVm vm) = true := mvT (s := s.setVm vm) hZ wi
    have hco : (Cond.code y bytes maxL ret).before args (s.setVm vm) = true := mvT (s := s.setVm vm) hZ wc
    obtain ⟨mk, mM, hn, hmM, hst, hab⟩ := Cond.instanceMethod_spec hi
    obtain ⟨mM', cM, e1, -, -, -, -, -, -, hsig⟩ := Cond.code_spec hn hco
    cases hmM.symm.trans e1
    obtain ⟨-, -, m2, -, -, q3, -, kP, hk1, hk2⟩ := Cond.selects_spec (show (Cond.selects C y y).before args (s.setVm vm) = true from mvT (s := s.setVm vm) hZ wsel)
    cases hn.symm.trans q3
    have hpr := Cond.privateMethod_at (mvP (s := s.setVm vm) hZ wp (args := #[]))
    obtain ⟨vm1, X1, st1⟩ := X.invokevirtual (s := s.setVm vm) hx hown (mvT hZ wl) hn hmM hst hk1 hk2 hy (a := a) (cell := cq) (by rw [eT]; exact q1) q2 (selectMethod_private hmM (hpr mk mM hn hmM)) hmM hab hk1 hk2 (g := mkF m pc L (argsL.reverse ++ .ref a :: rest)) rfl (argsL := argsL) (rest := rest) (hlen _ hsig) rfl hd
    obtain ⟨v, B, X2, hS, hgr, hpost, hst2⟩ := hP hZ H hEL m meth c ⟨T.setVm vm1, locs, cells, slots⟩ (mkF m pc L rest) (.invokevirtual index) mk (.ref a :: argsL).toArray X1 rfl hml hd (by show 2 * 0 + (rest.map fun v => v.category).sum ≤ _; omega) (X1.named hn) ⟨rfl, eT, hc, hs⟩
    exact ⟨v, vm1, B, X1.warmed, X2, hS, hgr, hpost, (st1 _ fun acts => by rw [doInvoke_state]; exact Steps.refl _).trans hst2⟩) k
theorem nfSame {C : String} {y y' : MethodName} (w : (Cond.selects C y' y').before a0 Z = true) (wi : (Cond.instanceMethod y').before a0 Z = true) (he : y'.cls = y.cls) : ∀ (U : State), Z.Warmed39 U.vm → NotFace U y := fun U hU r0 h0 => by
  have n1 : NotFace U y' := notFace_of_selects (args := #[]) (mvT hU w)
  obtain ⟨mk, mM, hn, -⟩ := Cond.instanceMethod_spec (show (Cond.instanceMethod y').before #[] U = true from mvT hU wi)
  obtain ⟨kr, h1, h2⟩ := n1 mk hn
  have e1 := findClass_of_methodNamed hn
  have e2 := findClass_of_methodNamed h0
  rw [he] at e1
  have e3 := Option.some.inj (e1.symm.trans e2)
  exact ⟨kr, by rw [← e3]; exact h1, h2⟩
theorem smOf {y : MethodName} (wi : (Cond.instanceMethod y).before a0 Z = true) (nf : ∀ (U : State), Z.Warmed39 U.vm → NotFace U y) (hy : y.cls ≠ "java/lang/invoke/MethodHandle" ∧ y.cls ≠ "java/lang/invoke/VarHandle") : (Cond.sameMethod y.cls y.cls y.name y.desc).before a0 Z = true := by
  obtain ⟨mk, mM, hn, -⟩ := Cond.instanceMethod_spec wi
  obtain ⟨kr, h1, h2⟩ := nf Z (State.Warmed39.refl Z) mk hn
  have e1 := findClass_of_methodNamed hn
  have e2 := State.methodFound?_of_named hn hy
  have hn' : Z.methodNamed? ⟨y.cls, y.name, y.desc⟩ = some mk := hn
  simp only [Cond.before, Cond.holds, Cond.value, e1, e2, hn']
  simp [h1, h2]
theorem ggetFR {R0 O n d : String} {index : Nat} (hx : p.tables.exec = Jvm.exec) (w : (Cond.fieldRef own index R0 n d).before a0 Z = true) (via : Via Z R0 O n d) {a : Addr} {v : Value} (F : Fld Z h a O n d v)
    {pc : Nat} (pc' : Nat) {L : Array Slot} {rest : List Value} (hd : decode c.code pc = .ok (.getfield index, 3)) (hp : pc + 3 = pc')
    (k : Go p l e R s m args below meth c Z a0 EL own Q vm h cells slots (mkF m pc' L (v :: rest))) : Go p l e R s m args below meth c Z a0 EL own Q vm h cells slots (mkF m pc L (.ref a :: rest)) :=
  gy _ (fun T locs X hZ hown eT => by
    subst hp
    obtain ⟨cell, cf, k, i, f, h1, h2, h3, h4, -, -, h7⟩ := F
    obtain ⟨k', hi, -⟩ := State.fieldFound?_setVm (s := Z) hZ.alike (via _ h2)
    have w1 : (Cond.fieldRef own index R0 n d).before args (s.setVm vm) = true := (Cond.fieldRef_warmed39 hZ w :)
    have hW : (s.setVm vm).WarmedH T.vm := X.warmed
    have w2 := Cond.fieldRef_warmed hW w1
    obtain ⟨kk, hk1, hk2⟩ := Vm.findClass_spec hown
    have hc2 : T.vm.findClass own = some m.cls := by rw [hW.alike.findClass]; exact hown
    obtain ⟨c2, k2, i2, f2, g1, g2⟩ := Cond.fieldRef_spec (s := (s.setVm vm).setVm T.vm) hc2 w2
    obtain ⟨k3, hi3, -⟩ := State.fieldFound?_setVm (s := s.setVm vm) hW.alike (show (s.setVm vm).fieldFound? R0 n d = _ from hi)
    cases g1.symm.trans hi3
    refine ⟨T, X, eT, fun target hrest => ?_⟩
    jvm_step X.here [hx, (show decode c.code (mkF m pc L (.ref a :: rest)).pc = _ from hd), Op.getfield.wp_ready (e := e) (s := T) (f := mkF m pc L (.ref a :: rest)) X.here.top g2 h3 rfl (by rw [eT]; exact h1) h4 h7]
    exact hrest) k
theorem elR {args : Array Value} {s : State} {t u : Term} {aa st : Addr} {cl : Cell} {j : Int32} (ht : t.eval args s none [] s = some (.ref aa)) (hc : s.heap[aa]? = some cl) (hu : u.eval args s none [] s = some (.ref st)) (w : (Cond.eq (Term.elem t (Term.int j)) u).value args s none s [] = some true) : cl.slots[j.toNatClampNeg]? = some (.ref st) := by
  cases hv : (Term.elem t (Term.int j)).eval args s none [] s with
  | none => simp [Cond.value, hv] at w
  | some v =>
    have hr : v = .ref st := by
      generalize Term.elem t (Term.int j) = q at *
      cases v <;> simp [Cond.value, hv, hu] at w ⊢ <;> exact w
    subst hr
    exact (elem_in hv ht rfl hc).2
theorem gclone {index : Nat} {ad : String} (hx : p.tables.exec = Jvm.exec) (w1 : (Cond.methodLink own index ⟨ad, "clone", "()Ljava/lang/Object;"⟩).before a0 Z = true) (w2 : (Cond.sameMethod ad "java/lang/Object" "clone" "()Ljava/lang/Object;").before a0 Z = true) (w3 : (Cond.native ⟨"java/lang/Object", "clone", "()Ljava/lang/Object;"⟩).before a0 Z = true)
    (w4 : (Cond.instanceMethod ⟨"java/lang/Object", "clone", "()Ljava/lang/Object;"⟩).before a0 Z = true) (w5 : (Cond.selects ad ⟨ad, "clone", "()Ljava/lang/Object;"⟩ ⟨"java/lang/Object", "clone", "()Ljava/lang/Object;"⟩).before a0 Z = true) (w6 : (Cond.castable ad "java/lang/Cloneable").before a0 Z = true)
    {a : Addr} {kc : ClassId} {ty : FieldType} {z : Int32} {vs : List Value} {dv : Value} (V : Arv Z h a kc ty z vs dv) (E : Exa Z h a ad) {cap : Nat} (hcap : z.toNatClampNeg ≤ cap)
    {pc : Nat} (pc' : Nat) {L : Array Slot} {rest : List Value} {W : Nat} (hW : (rest.map fun v => v.category).sum ≤ W) (hml : L.size = c.maxLocals) (hd : decode c.code pc = .ok (.invokevirtual index, 3)) (hp : pc + 3 = pc') (hf : 1 ≤ R.frames) (hlo : W + 14 ≤ R.locals) (hc : cells + 1 ≤ R.cells) (hl : slots + cap ≤ R.slots)
    (k : ∀ (b : Addr) (h' : Heap), h.size = b → Ext h h' → CHr Z EL vm h vm h' → Arv Z h' b kc ty z vs dv → Exa Z h' b ad → Z.heap.size ≤ b → Safe Z EL vm h' b → Go p l e R s m args below meth c Z a0 EL own Q vm h' (cells + 1) (slots + cap) (mkF m pc' L (.ref b :: rest))) :
    Go p l e R s m args below meth c Z a0 EL own Q vm h cells slots (mkF m pc L (.ref a :: rest)) :=
  gnew (P := fun h' => Arv Z h' h.size kc ty z vs dv ∧ Exa Z h' h.size ad) (fun _ => mkF m pc' L (.ref h.size :: rest))
    (fun T locs X hZ hown eT => by
      subst hp
      obtain ⟨cl, A, q1, q2, q3, q4, q5⟩ := V
      have FC : FitC Z cl := fitC_of A fun i hi v hv => by rw [q4 i hi] at hv; cases hv; exact q5 i hi
      obtain ⟨T', h', X', e', ex, A', E', st⟩ := cloneA (s := s.setVm vm) X hx hZ hown w1 w2 w3 w4 w5 w6 eT A E FC (g := mkF m pc L (.ref a :: rest)) rfl hml rfl hd hf (W := W) (by show 2 * 0 + _ ≤ _; omega) hlo (by rw [q2]; exact hcap) hc hl
      exact ⟨T', h', X', e', ex, ⟨⟨cloneOf cl, A', q1, q2, q3, q4, q5⟩, E'⟩, st⟩)
    (fun h' E hC hP hz hs => k _ h' rfl E hC hP.1 hP.2 hz hs)
theorem catR {v : Value} (h : v.isRef = true) : v.category = 1 := by rcases ref_cases h with q | ⟨_, q⟩ <;> rw [q] <;> rfl
/-! arrays of bytes are copied -/
theorem tn {n : Nat} (h : n < 2147483648) : (Int32.ofNat n).toNatClampNeg = n := by rw [Int32.toNatClampNeg, Int32.toInt_ofNat_of_lt (by omega)]; rfl
theorem nn0 {n : Nat} (h : n < 2147483648) : ¬ Int32.ofNat n < 0 := by rw [Int32.lt_iff_toInt_lt, Int32.toInt_ofNat_of_lt (by omega)]; simp
theorem range_get (vs : List Value) (dv : Value) (i n : Nat) (hn : i + n ≤ vs.length) : (vs.drop i).take n = (List.range n).map fun t => vs.getD (i + t) dv := by
  apply List.ext_getElem
  · simp; omega
  · intro t h1 h2
    simp at h1 h2
    simp [List.getD_eq_getElem?_getD, List.getElem?_eq_getElem (show i + t < vs.length by omega)]
theorem gcopyN {index : Nat} (hx : p.tables.exec = Jvm.exec) (w1 : (Cond.methodLink own index Jvm.Stand.acN).before a0 Z = true) (w2 : (Cond.native Jvm.Stand.acN).before a0 Z = true) (w3 : (Cond.static Jvm.Stand.acN).before a0 Z = true) (w4 : (Cond.initialized "java/lang/System").before a0 Z = true)
    {a b : Addr} {ka kb : ClassId} {z z' sp dp nn : Int32} {vs vd : List Value} {dv dd : Value} (i j n N M : Nat) (A : Arv Z h a ka .byte z vs dv) (B : Arv Z h b kb .byte z' vd dd) (hsp : sp = Int32.ofNat i) (hdp : dp = Int32.ofNat j) (hnn : nn = Int32.ofNat n) (hz : z = Int32.ofNat N) (hz' : z' = Int32.ofNat M)
    (hN : N < 2147483648) (hM : M < 2147483648) (h4 : i + n ≤ N) (h5 : j + n ≤ M) (hvs : vs.length = N) (hvd : vd.length = M) (ge : Z.heap.size ≤ b) (hs : Z.vm.Alike vm → Safe Z EL vm h b)
    {pc : Nat} (pc' : Nat) {L : Array Slot} {rest : List Value} {W : Nat} (hW : (rest.map fun v => v.category).sum ≤ W) (hml : L.size = c.maxLocals) (hd : decode c.code pc = .ok (.invokestatic index, 3)) (hp : pc + 3 = pc') (hf : 1 ≤ R.frames) (hlo : W + 18 ≤ R.locals)
    (k : ∀ h', Keep h h' [b] → CHr Z EL vm h vm h' → Arv Z h' b kb .byte z' (vd.take j ++ (vs.drop i).take n ++ vd.drop (j + n)) dd → Go p l e R s m args below meth c Z a0 EL own Q vm h' cells slots (mkF m pc' L rest)) :
    Go p l e R s m args below meth c Z a0 EL own Q vm h cells slots (mkF m pc L (.int nn :: .int dp :: .ref b :: .int sp :: .ref a :: rest)) := fun T X => by
  subst hp hsp hdp hnn hz hz'
  obtain ⟨locs, k0, X', eT, hZ, hown, hS, hk, N0, H, E0, hEL, hx', hlk⟩ := X
  have ti : (Int32.ofNat i).toNatClampNeg = i := tn (by omega)
  have tj : (Int32.ofNat j).toNatClampNeg = j := tn (by omega)
  have tnn : (Int32.ofNat n).toNatClampNeg = n := tn (by omega)
  obtain ⟨T', h', L', X1, e1, F1, K1, V1, st⟩ := cpA (s := s.setVm vm) X' hx hZ hown w1 w2 w3 w4 eT A B (Or.inl ⟨rfl, rfl⟩) (nn0 (by omega)) (nn0 (by omega)) (nn0 (by omega)) (by rw [ti, tnn, tn hN]; exact h4) (by rw [tj, tnn, tn hM]; exact h5) (us := (vs.drop i).take n) (by rw [ti, tnn]; exact range_get vs dv i n (by omega)) (by rw [tj, tnn]; omega) N0 ge
    (g := mkF m pc L (.int (Int32.ofNat n) :: .int (Int32.ofNat j) :: .ref b :: .int (Int32.ofNat i) :: .ref a :: rest)) rfl hml rfl hd hf (W := W) (by show 2 * 0 + _ ≤ _; omega) (by show W + (7 + 11) ≤ _; omega)
  rw [tj, tnn] at V1
  have C1 : CHr Z EL vm h vm h' := CHr.keep K1 (allS (hs hZ.alike) all0) H.1
  obtain ⟨s2, o, q1, q2⟩ := k h' K1 C1 V1 T' ⟨L', k0, X1, e1, hZ, hown, hS, Nat.le_trans hk K1.1, F1, H.trans C1, E0, hEL, hx', hlk⟩
  exact ⟨s2, o, st _ q1, q2⟩
/-! a StringBuilder of Latin-1 signs -/
abbrev lo8s (cs : List Int32) : List Value := (cs.map fun c => c.toInt8.toInt32).map Value.int
def SBd (Z : State) (h : Heap) (b v : Addr) (cap : Nat) (cs : List Int32) : Prop := Exa Z h b "java/lang/StringBuilder" ∧ Fld Z h b "java/lang/AbstractStringBuilder" "value" "[B" (.ref v) ∧ Fld Z h b "java/lang/AbstractStringBuilder" "coder" "B" (.int 0) ∧ Fld Z h b "java/lang/AbstractStringBuilder" "count" "I" (.int (Int32.ofNat cs.length)) ∧
  (∃ kb zs, Arv Z h v kb .byte (Int32.ofNat cap) (lo8s cs ++ zs) (.int 0) ∧ cs.length + zs.length = cap) ∧ (∀ c ∈ cs, B8 c) ∧ cap ≤ 4000
variable {b v t o : Addr} {cap : Nat} {cs ds : List Int32} {ws : List Addr} {sl : Nat} {w : Value}
theorem SBd.ext (F : SBd Z h b v cap cs) (E : Ext h h') : SBd Z h' b v cap cs := by
  obtain ⟨f1, f2, f3, f4, ⟨kb, zs, f5, f6⟩, f7⟩ := F
  exact ⟨f1.ext E, f2.ext E, f3.ext E, f4.ext E, ⟨kb, zs, f5.ext E, f6⟩, f7⟩
theorem SBd.keep (F : SBd Z h b v cap cs) (K : Keep h h' ws) (q : b ∉ ws) (r : v ∉ ws) : SBd Z h' b v cap cs := by
  obtain ⟨f1, f2, f3, f4, ⟨kb, zs, f5, f6⟩, f7⟩ := F
  exact ⟨f1.keep K, f2.keep K q, f3.keep K q, f4.keep K q, ⟨kb, zs, f5.keep K r, f6⟩, f7⟩
theorem SBd.wr (F : SBd Z h b v cap cs) (W : Wr h h' o sl w) (q : b ≠ o) (r : v ≠ o) : SBd Z h' b v cap cs := by
  obtain ⟨f1, f2, f3, f4, ⟨kb, zs, f5, f6⟩, f7⟩ := F
  exact ⟨f1.wr W, f2.other W (Or.inl q), f3.other W (Or.inl q), f4.other W (Or.inl q), ⟨kb, zs, f5.other W r, f6⟩, f7⟩
theorem SBd.vlt (F : SBd Z h b v cap cs) : v < h.size := by obtain ⟨f1, f2, f3, f4, ⟨kb, zs, f5, f6⟩, f7⟩ := F; exact f5.lt
theorem addOf {a b : Nat} (h : a + b ≤ 4000) : Int32.ofNat a + Int32.ofNat b = Int32.ofNat (a + b) := by
  apply Int32.toInt_inj.mp
  have q := c_iadd (Int32.ofNat a) (Int32.ofNat b)
  have r := rng32 (Int32.ofNat a + Int32.ofNat b)
  rw [Int32.toInt_ofNat_of_lt (by omega), Int32.toInt_ofNat_of_lt (by omega)] at q
  rw [Int32.toInt_ofNat_of_lt (by omega)]
  omega
theorem subOf0 {a : Nat} (h : a ≤ 4000) : Int32.ofNat a - (0 : Int32) = Int32.ofNat a := by
  apply Int32.toInt_inj.mp
  have q := c_isub (Int32.ofNat a) 0
  have r := rng32 (Int32.ofNat a - 0)
  have e0 : (0 : Int32).toInt = 0 := rfl
  rw [Int32.toInt_ofNat_of_lt (by omega), e0] at q
  rw [Int32.toInt_ofNat_of_lt (by omega)]
  omega
theorem ltOf {a b : Nat} (ha : a ≤ 4000) (hb : b ≤ 4000) : Int32.ofNat a < Int32.ofNat b ↔ a < b := by
  rw [Int32.lt_iff_toInt_lt, Int32.toInt_ofNat_of_lt (by omega), Int32.toInt_ofNat_of_lt (by omega)]; omega
theorem eqOf {a b : Nat} (ha : a ≤ 4000) (hb : b ≤ 4000) : Int32.ofNat a = Int32.ofNat b ↔ a = b := by
  rw [← Int32.toInt_inj, Int32.toInt_ofNat_of_lt (by omega), Int32.toInt_ofNat_of_lt (by omega)]; omega
theorem subLe {a b : Nat} (ha : a ≤ 4000) (hb : b ≤ 4000) (h : a ≤ b) : ¬ (0 : Int32) < Int32.ofNat a - Int32.ofNat b := by
  have q := c_isub (Int32.ofNat a) (Int32.ofNat b)
  have r := rng32 (Int32.ofNat a - Int32.ofNat b)
  have e0 : (0 : Int32).toInt = 0 := rfl
  rw [Int32.toInt_ofNat_of_lt (by omega), Int32.toInt_ofNat_of_lt (by omega)] at q
  rw [Int32.lt_iff_toInt_lt, e0]
  omega
theorem shr0 {a : Nat} (h : a ≤ 4000) : (Int32.ofNat a >>> ((0 : Int32) &&& 31)) = Int32.ofNat a := by
  apply Int32.toInt_inj.mp
  rw [c_ishr _ 0 0 (by decide)]; simp
theorem shl0 {a : Nat} (h : a ≤ 4000) : (Int32.ofNat a <<< ((0 : Int32) &&& 31)) = Int32.ofNat a := by
  apply Int32.toInt_inj.mp
  have q := c_ishl (Int32.ofNat a) 0 0 (by decide)
  have r := rng32 (Int32.ofNat a <<< ((0 : Int32) &&& 31))
  rw [Int32.toInt_ofNat_of_lt (by omega)] at q ⊢
  omega
theorem lo8s_len (cs : List Int32) : (lo8s cs).length = cs.length := by simp [lo8s]
theorem lo8s_app (cs ds : List Int32) : lo8s (cs ++ ds) = lo8s cs ++ lo8s ds := by simp [lo8s]
/-- what a copy behind the first signs leaves -/
theorem put_list {zs : List Value} : ((lo8s cs ++ zs).take cs.length ++ ((lo8s ds).drop 0).take ds.length ++ (lo8s cs ++ zs).drop (cs.length + ds.length)) = lo8s (cs ++ ds) ++ zs.drop ds.length := by
  rw [List.take_append_of_le_length (by rw [lo8s_len]; exact Nat.le_refl _), List.take_of_length_le (by rw [lo8s_len]; exact Nat.le_refl _), List.drop_zero, List.take_of_length_le (by rw [lo8s_len]; exact Nat.le_refl _), lo8s_app]
  have e : (lo8s cs).drop cs.length = [] := List.drop_of_length_le (by rw [lo8s_len]; exact Nat.le_refl _)
  rw [← List.drop_drop, List.drop_append_of_le_length (by rw [lo8s_len]; exact Nat.le_refl _), e, List.nil_append]
theorem pre_list {zs : List Value} {d : Value} : ((List.replicate cs.length d).take 0 ++ ((lo8s cs ++ zs).drop 0).take cs.length ++ (List.replicate cs.length d).drop (0 + cs.length)) = lo8s cs := by
  rw [List.take_zero, List.nil_append, List.drop_zero, List.take_append_of_le_length (by rw [lo8s_len]; exact Nat.le_refl _), List.take_of_length_le (by rw [lo8s_len]; exact Nat.le_refl _), List.drop_of_length_le (by simp), List.append_nil]
end Kit5
end Jvm.OwnKit
/- laws to paste: Road.backV, Road.eqW, Road.codOf (cut by pick.py; bodies as the Statement names them) -/
namespace Jvm.Pilot.@@N@@
namespace StrChars
open Jvm Sem ClassFile Op Lib Jvm.Stand Jvm.Free.XT Jvm.Free.ALB Jvm.Free.JM Jvm.Free
open Jvm.Lib.Cold (StaticIs)
/-- a char array whose places are chars -/
def Ch (a : Addr) (A : Cell) (U : State) : Prop := Arr .char a A U ∧ Typed .char A
theorem Ch.mv {a : Addr} {A : Cell} {U U' : State} (h : Ch a A U) (hal : U.vm.Alike U'.vm) (hh : U'.heap = U.heap) : Ch a A U' := ⟨h.1.mv hal hh, h.2⟩
theorem Ch.keep {a : Addr} {A : Cell} {U U' : State} (h : Ch a A U) (hal : U.vm.Alike U'.vm) (hk : U'.heap[a]? = some A) : Ch a A U' := ⟨h.1.keep hal hk, h.2⟩
/-- what place i of a char[]'s cell holds -/
def cv (A : Cell) (i : Nat) : Int32 := match A.slots[i]? with | some (.int x) => x | _ => 0
theorem Ch.get {a : Addr} {A : Cell} {U : State} (h : Ch a A U) {i : Nat} (hi : i < A.slots.size) : A.slots[i]? = some (.int (cv A i)) := by
  have e := Array.getElem?_eq_getElem hi
  have f := h.2 i _ e
  unfold cv; rw [e]
  generalize A.slots[i] = v at f
  cases v <;> simp [fits] at f ⊢
/-- the byte that i2b leaves of a char -/
def lo8 (x : Int32) : Int32 := x.toInt8.toInt32
theorem fits_lo8 (y : Int32) : fits .byte (.int (lo8 y)) = true := by
  have h1 := y.toInt8.le_toInt
  have h2 := y.toInt8.toInt_lt
  simp only [lo8, fits, Bool.and_eq_true, decide_eq_true_eq, Int32.le_iff_toInt_le, Int8.toInt_toInt32, show (-128 : Int32).toInt = -128 from by decide, show (127 : Int32).toInt = 127 from by decide]
  omega
/-- A' is A but that each place j of lo .. hi - 1 holds f j -/
def Laid (A A' : Cell) (lo hi : Nat) (f : Nat → Value) : Prop := A'.cls = A.cls ∧ A'.vm = A.vm ∧ A'.slots.size = A.slots.size ∧ ∀ i, A'.slots[i]? = if lo ≤ i ∧ i < hi then some (f i) else A.slots[i]?
theorem Laid.zero (A : Cell) (lo : Nat) (f : Nat → Value) : Laid A A lo (lo + 0) f := ⟨rfl, rfl, rfl, fun i => by rw [if_neg (by omega)]⟩
theorem Laid.step {A Ak : Cell} {lo k : Nat} {f : Nat → Value} {v : Value} (h : Laid A Ak lo k f) (hlo : lo ≤ k) (hk : k < Ak.slots.size) (hv : v = f k) : Laid A (Ak.setSlot k v) lo (k + 1) f := by
  refine ⟨h.1, h.2.1, by simpa [Cell.setSlot] using h.2.2.1, fun i => ?_⟩
  by_cases e : k = i
  · subst e; rw [Cell.slots_setSlot_self v hk, if_pos (by omega), hv]
  · rw [Cell.slots_setSlot_ne v e, h.2.2.2 i]
    by_cases q : lo ≤ i ∧ i < k
    · rw [if_pos q, if_pos (by omega)]
    · rw [if_neg q, if_neg (by omega)]
def U16 : String := "java/lang/StringUTF16"
namespace Cmp5
def yN : MethodName := ⟨"java/lang/StringUTF16", "compress", "([CI[BII)I"⟩
abbrev yB : ByteArray := jdk_52_method_21_code
theorem d0 : decode yB 0 = .ok (.iconst 0, 1) := by decide +kernel
theorem d1 : decode yB 1 = .ok (.istore 5, 2) := by decide +kernel
theorem d3 : decode yB 3 = .ok (.iload 5, 2) := by decide +kernel
theorem d5 : decode yB 5 = .ok (.iload 4, 2) := by decide +kernel
theorem d7 : decode yB 7 = .ok (.if_icmp (.ge) 37, 3) := by decide +kernel
theorem d10 : decode yB 10 = .ok (.aload_n 0, 1) := by decide +kernel
theorem d11 : decode yB 11 = .ok (.iload_n 1, 1) := by decide +kernel
theorem d12 : decode yB 12 = .ok (.caload, 1) := by decide +kernel
theorem d13 : decode yB 13 = .ok (.istore 6, 2) := by decide +kernel
theorem d15 : decode yB 15 = .ok (.iload 6, 2) := by decide +kernel
theorem d17 : decode yB 17 = .ok (.sipush 255, 3) := by decide +kernel
theorem d20 : decode yB 20 = .ok (.if_icmp (.le) 6, 3) := by decide +kernel
theorem d26 : decode yB 26 = .ok (.aload_n 2, 1) := by decide +kernel
theorem d27 : decode yB 27 = .ok (.iload_n 3, 1) := by decide +kernel
theorem d28 : decode yB 28 = .ok (.iload 6, 2) := by decide +kernel
theorem d30 : decode yB 30 = .ok (.i2b, 1) := by decide +kernel
theorem d31 : decode yB 31 = .ok (.bastore, 1) := by decide +kernel
theorem d32 : decode yB 32 = .ok (.iinc 1 1, 3) := by decide +kernel
theorem d35 : decode yB 35 = .ok (.iinc 3 1, 3) := by decide +kernel
theorem d38 : decode yB 38 = .ok (.iinc 5 1, 3) := by decide +kernel
theorem d41 : decode yB 41 = .ok (.goto (-38), 3) := by decide +kernel
theorem d44 : decode yB 44 = .ok (.iload 4, 2) := by decide +kernel
theorem d46 : decode yB 46 = .ok (.ireturn, 1) := by decide +kernel
def site : List Cond := []
def tab : Cond := tabOf yN yB 7 (some .int) site
def P (b : Addr) (A : Cell) (d : Addr) (B : Cell) (o q len : Nat) (args : Array Value) (s : State) : Prop := args = #[.ref b, .int (Int32.ofNat o), .ref d, .int (Int32.ofNat q), .int (Int32.ofNat len)] ∧ Ch b A s ∧ Arr .byte d B s ∧ b ≠ d ∧ o + len ≤ A.slots.size ∧ q + len ≤ B.slots.size ∧ ∀ i, i < len → ¬ 255 < cv A (o + i)
def E (b : Addr) (A : Cell) (d : Addr) (B : Cell) (o q len : Nat) (r : Option Value) (s u : State) : Prop := r = some (.int (Int32.ofNat len)) ∧ ∃ B', Put d B' s u ∧ Laid B B' q (q + len) (fun j => Value.int (lo8 (cv A (o + (j - q)))))
/-- no char of the range above 255: len; the places written hold each char's low byte -/
theorem law (l : Launch) (b : Addr) (A : Cell) (d : Addr) (B : Cell) (o q len : Nat) : Law l yN 5 5 0 0 yB 7 (some .int) site (P b A d B o q len) (E b A d B o q len) (copyLocs d q len) 0 0 := by
  refine Law.of_walk (plainFor_of_name (by decide +kernel)) (by decide +kernel) (by decide +kernel) (by decide) (fun _ _ h => by rw [h.1]; rfl) (fun _ U U' hal hh h => ⟨h.1, h.2.1.mv hal hh, h.2.2.1.mv hal hh, h.2.2.2⟩) (fun r U U' V V' h1 hal h2 h => ⟨h.1, h.2.elim fun B' q => ⟨B', q.1.mv h1 h2, q.2⟩⟩) ?_
  intro p e s m args below meth c s₁ X0 hexec hbytes hml hret hlk hnm hown hh0 W hP
  obtain ⟨rfl, hA, hB, hne, l1, l2, hp⟩ := hP
  have c1 : Steps p.tables e below (s₁.setTop (entryFrame m #[.ref b, .int (Int32.ofNat o), .ref d, .int (Int32.ofNat q), .int (Int32.ofNat len)] 7)) (s₁.setTop (mkF m 0 #[.val (.ref b), .val (.int (Int32.ofNat o)), .val (.ref d), .val (.int (Int32.ofNat q)), .val (.int (Int32.ofNat len)), .unset, .unset] [])) := entry rfl
  have hA0 := hA.1.mv X0.warmed.alike hh0
  have hB0 := hB.mv X0.warmed.alike hh0
  have a31 := hA.1.2.2.2
  have c2 : Steps p.tables e below (s₁.setTop (entryFrame m #[.ref b, .int (Int32.ofNat o), .ref d, .int (Int32.ofNat q), .int (Int32.ofNat len)] 7)) (s₁.setTop (mkF m 3 #[.val (.ref b), .val (.int (Int32.ofNat o)), .val (.ref d), .val (.int (Int32.ofNat q)), .val (.int (Int32.ofNat len)), .val (.int 0), .unset] [])) := c1.trans (by
    refine iconstV X0.here hexec rfl 0 (hb hbytes d0) (by decide) ?_
    refine XS.istore X0.here hexec rfl (hb hbytes d1) rfl rfl ?_
    exact Steps.refl _)
  have loop : ∀ (r i : Nat), i + r = len → ∀ (z : Slot), (z = .unset ∨ ∃ w, z = .val w ∧ w.category = 1) → ∀ (Tl : State) (Bk : Cell), Stand p l e { frames := 0, locals := 0, cells := 0, slots := 0 } s m #[.ref b, .int (Int32.ofNat o), .ref d, .int (Int32.ofNat q), .int (Int32.ofNat len)] below meth c Tl ([] ++ copyLocs d q i) 0 0 → Put d Bk s₁ Tl → Laid B Bk q (q + i) (fun j => Value.int (lo8 (cv A (o + (j - q))))) →
      Steps p.tables e below (s₁.setTop (entryFrame m #[.ref b, .int (Int32.ofNat o), .ref d, .int (Int32.ofNat q), .int (Int32.ofNat len)] 7)) (Tl.setTop (mkF m 3 #[.val (.ref b), .val (.int (Int32.ofNat (o + i))), .val (.ref d), .val (.int (Int32.ofNat (q + i))), .val (.int (Int32.ofNat len)), .val (.int (Int32.ofNat i)), z] [])) → ∃ (T' : State) (B' : Cell) (z' : Slot), Stand p l e { frames := 0, locals := 0, cells := 0, slots := 0 } s m #[.ref b, .int (Int32.ofNat o), .ref d, .int (Int32.ofNat q), .int (Int32.ofNat len)] below meth c T' ([] ++ copyLocs d q len) 0 0 ∧ Put d B' s₁ T' ∧ Laid B B' q (q + len) (fun j => Value.int (lo8 (cv A (o + (j - q))))) ∧
      Steps p.tables e below (s₁.setTop (entryFrame m #[.ref b, .int (Int32.ofNat o), .ref d, .int (Int32.ofNat q), .int (Int32.ofNat len)] 7)) (T'.setTop (mkF m 3 #[.val (.ref b), .val (.int (Int32.ofNat (o + len))), .val (.ref d), .val (.int (Int32.ofNat (q + len))), .val (.int (Int32.ofNat len)), .val (.int (Int32.ofNat len)), z'] [])) := by
    intro r
    induction r with
    | zero =>
      intro i hi z hz Tl Bk Xl pl fl cl
      have hil : i = len := by omega
      rw [hil] at Xl fl cl
      exact ⟨Tl, Bk, z, Xl, pl, fl, cl⟩
    | succ r ih =>
      intro i hi z hz Tl Bk Xl pl fl cl
      have all := X0.warmed.alike.symm.trans Xl.warmed.alike
      have hAl := hA0.keep all (pl.other hne hA0.1)
      have hBk := hB0.like all pl.1 fl.1 fl.2.1 fl.2.2.1
      have hlt : q + i < Bk.slots.size := by rw [fl.2.2.1]; omega
      have c3 : Steps p.tables e below (s₁.setTop (entryFrame m #[.ref b, .int (Int32.ofNat o), .ref d, .int (Int32.ofNat q), .int (Int32.ofNat len)] 7)) (Tl.setTop (mkF m 12 #[.val (.ref b), .val (.int (Int32.ofNat (o + i))), .val (.ref d), .val (.int (Int32.ofNat (q + i))), .val (.int (Int32.ofNat len)), .val (.int (Int32.ofNat i)), z] [.int (Int32.ofNat (o + i)), .ref b])) := cl.trans (by
        refine XS.iload Xl.here hexec rfl (hb hbytes d3) rfl ?_
        refine XS.iload Xl.here hexec rfl (hb hbytes d5) rfl ?_
        refine XS.icmpNo Xl.here hexec rfl (hb hbytes d7) rfl (ii_ge_f (lt32 (by omega) (by omega))) ?_
        refine XS.aloadN Xl.here hexec rfl (hb hbytes d10) rfl rfl ?_
        refine XS.iloadN Xl.here hexec rfl (hb hbytes d11) rfl ?_
        exact Steps.refl _)
      have c4 : Steps p.tables e below (s₁.setTop (entryFrame m #[.ref b, .int (Int32.ofNat o), .ref d, .int (Int32.ofNat q), .int (Int32.ofNat len)] 7)) (Tl.setTop (mkF m 13 #[.val (.ref b), .val (.int (Int32.ofNat (o + i))), .val (.ref d), .val (.int (Int32.ofNat (q + i))), .val (.int (Int32.ofNat len)), .val (.int (Int32.ofNat i)), z] [.int (cv A (o + i))])) := c3.trans (by
        refine Xl.aget hexec hAl rfl (hA.get (i := o + i) (by omega)) rfl rfl (hb hbytes d12) ?_
        exact Steps.refl _)
      have c5 : Steps p.tables e below (s₁.setTop (entryFrame m #[.ref b, .int (Int32.ofNat o), .ref d, .int (Int32.ofNat q), .int (Int32.ofNat len)] 7)) (Tl.setTop (mkF m 15 #[.val (.ref b), .val (.int (Int32.ofNat (o + i))), .val (.ref d), .val (.int (Int32.ofNat (q + i))), .val (.int (Int32.ofNat len)), .val (.int (Int32.ofNat i)), .val (.int (cv A (o + i)))] [])) := c4.trans (by
        refine XS.istoreS Xl.here hexec rfl (hb hbytes d13) rfl rfl hz ?_
        exact Steps.refl _)
      have c6 : Steps p.tables e below (s₁.setTop (entryFrame m #[.ref b, .int (Int32.ofNat o), .ref d, .int (Int32.ofNat q), .int (Int32.ofNat len)] 7)) (Tl.setTop (mkF m 31 #[.val (.ref b), .val (.int (Int32.ofNat (o + i))), .val (.ref d), .val (.int (Int32.ofNat (q + i))), .val (.int (Int32.ofNat len)), .val (.int (Int32.ofNat i)), .val (.int (cv A (o + i)))] [.int (lo8 (cv A (o + i))), .int (Int32.ofNat (q + i)), .ref d])) := c5.trans (by
        refine XS.iload Xl.here hexec rfl (hb hbytes d15) rfl ?_
        refine sipushV Xl.here hexec rfl 255 (hb hbytes d17) (by decide) ?_
        refine XS.icmpYes Xl.here hexec rfl (pc0 := 20) rfl (hb hbytes d20) rfl (ii_le_t (hp i (by omega))) (by decide) rfl ?_
        refine XS.aloadN Xl.here hexec rfl (hb hbytes d26) rfl rfl ?_
        refine XS.iloadN Xl.here hexec rfl (hb hbytes d27) rfl ?_
        refine XS.iload Xl.here hexec rfl (hb hbytes d28) rfl ?_
        refine i2b Xl.here hexec rfl (hb hbytes d30) rfl ?_
        exact Steps.refl _)
      obtain ⟨T7, X7, p7, st7⟩ := Xl.aput hexec hBk rfl hlt rfl (fits_lo8 (cv A (o + i))) (g := (mkF m 31 #[.val (.ref b), .val (.int (Int32.ofNat (o + i))), .val (.ref d), .val (.int (Int32.ofNat (q + i))), .val (.int (Int32.ofNat len)), .val (.int (Int32.ofNat i)), .val (.int (cv A (o + i)))] [.int (lo8 (cv A (o + i))), .int (Int32.ofNat (q + i)), .ref d])) rfl (rest := []) rfl (hb hbytes d31)
      have c8 : Steps p.tables e below (s₁.setTop (entryFrame m #[.ref b, .int (Int32.ofNat o), .ref d, .int (Int32.ofNat q), .int (Int32.ofNat len)] 7)) (T7.setTop (mkF m 32 #[.val (.ref b), .val (.int (Int32.ofNat (o + i))), .val (.ref d), .val (.int (Int32.ofNat (q + i))), .val (.int (Int32.ofNat len)), .val (.int (Int32.ofNat i)), .val (.int (cv A (o + i)))] [])) := c6.trans (st7 _ (Steps.refl _))
      have c9 : Steps p.tables e below (s₁.setTop (entryFrame m #[.ref b, .int (Int32.ofNat o), .ref d, .int (Int32.ofNat q), .int (Int32.ofNat len)] 7)) (T7.setTop (mkF m 3 #[.val (.ref b), .val (.int (Int32.ofNat (o + i) + 1)), .val (.ref d), .val (.int (Int32.ofNat (q + i) + 1)), .val (.int (Int32.ofNat len)), .val (.int (Int32.ofNat i + 1)), .val (.int (cv A (o + i)))] [])) := c8.trans (by
        refine iincV X7.here hexec rfl 1 (hb hbytes d32) (by decide) rfl rfl ?_
        refine iincV X7.here hexec rfl 1 (hb hbytes d35) (by decide) rfl rfl ?_
        refine iincV X7.here hexec rfl 1 (hb hbytes d38) (by decide) rfl rfl ?_
        refine XS.goto X7.here hexec rfl (pc0 := 41) rfl (hb hbytes d41) (by decide) rfl ?_
        exact Steps.refl _)
      have c10 : Steps p.tables e below (s₁.setTop (entryFrame m #[.ref b, .int (Int32.ofNat o), .ref d, .int (Int32.ofNat q), .int (Int32.ofNat len)] 7)) (T7.setTop (mkF m 3 #[.val (.ref b), .val (.int (Int32.ofNat (o + (i + 1)))), .val (.ref d), .val (.int (Int32.ofNat (q + (i + 1)))), .val (.int (Int32.ofNat len)), .val (.int (Int32.ofNat (i + 1))), .val (.int (cv A (o + i)))] [])) := by
        have := c9
        rw [succ32, succ32, succ32] at this
        exact this
      exact ih (i + 1) (by omega) _ (Or.inr ⟨_, rfl, rfl⟩) T7 _ (by rw [copyLocs_step, ← List.append_assoc]; exact X7) (pl.trans p7) (fl.step (by omega) hlt (by simp)) c10
  obtain ⟨T9, B9, z9, X9, p9, f9, g9⟩ := loop len 0 (by omega) .unset (Or.inl rfl) s₁ B (by simpa [copyLocs] using X0) ⟨hB0.1, fun _ _ => rfl, rfl⟩ (Laid.zero _ _ _) c2
  have c11 : Steps p.tables e below (s₁.setTop (entryFrame m #[.ref b, .int (Int32.ofNat o), .ref d, .int (Int32.ofNat q), .int (Int32.ofNat len)] 7)) (T9.setTop (mkF m 46 #[.val (.ref b), .val (.int (Int32.ofNat (o + len))), .val (.ref d), .val (.int (Int32.ofNat (q + len))), .val (.int (Int32.ofNat len)), .val (.int (Int32.ofNat len)), z9] [.int (Int32.ofNat len)])) := g9.trans (by
    refine XS.iload X9.here hexec rfl (hb hbytes d3) rfl ?_
    refine XS.iload X9.here hexec rfl (hb hbytes d5) rfl ?_
    refine XS.icmpYes X9.here hexec rfl (pc0 := 7) rfl (hb hbytes d7) rfl (ii_ge_t (nlt32 (by omega) (Nat.le_refl _))) (by decide) rfl ?_
    refine XS.iload X9.here hexec rfl (hb hbytes d44) rfl ?_
    exact Steps.refl _)
  exact ⟨T9, some (.int (Int32.ofNat len)), _, _, _, X9, by simp, rfl, rfl, (fun h => by cases h), ⟨rfl, B9, p9.from hh0, f9⟩, fun fs hl => c11.trans (X9.ireturnOut hexec hret rfl (Or.inl rfl) (hb hbytes d46) hl)⟩
end Cmp5
namespace Cmp3
def yN : MethodName := ⟨"java/lang/StringUTF16", "compress", "([CII)[B"⟩
abbrev yB : ByteArray := jdk_52_method_16_code
theorem d0 : decode yB 0 = .ok (.iload_n 2, 1) := by decide +kernel
theorem d1 : decode yB 1 = .ok (.newarray .byte, 2) := by decide +kernel
theorem d3 : decode yB 3 = .ok (.astore_n 3, 1) := by decide +kernel
theorem d4 : decode yB 4 = .ok (.aload_n 0, 1) := by decide +kernel
theorem d5 : decode yB 5 = .ok (.iload_n 1, 1) := by decide +kernel
theorem d6 : decode yB 6 = .ok (.aload_n 3, 1) := by decide +kernel
theorem d7 : decode yB 7 = .ok (.iconst 0, 1) := by decide +kernel
theorem d8 : decode yB 8 = .ok (.iload_n 2, 1) := by decide +kernel
theorem d9 : decode yB 9 = .ok (.invokestatic 115, 3) := by decide +kernel
theorem d12 : decode yB 12 = .ok (.istore 4, 2) := by decide +kernel
theorem d14 : decode yB 14 = .ok (.iload 4, 2) := by decide +kernel
theorem d16 : decode yB 16 = .ok (.iload_n 2, 1) := by decide +kernel
theorem d17 : decode yB 17 = .ok (.if_icmp (.eq) 40, 3) := by decide +kernel
theorem d57 : decode yB 57 = .ok (.aload_n 3, 1) := by decide +kernel
theorem d58 : decode yB 58 = .ok (.areturn, 1) := by decide +kernel
def site : List Cond := [.arrayClass .byte, Cmp5.tab] ++ staticW U16 115 Cmp5.yN
def tab : Cond := tabOf yN yB 6 (some (.array .byte)) site
def P (b : Addr) (A : Cell) (o len : Nat) (args : Array Value) (s : State) : Prop := args = #[.ref b, .int (Int32.ofNat o), .int (Int32.ofNat len)] ∧ Ch b A s ∧ o + len ≤ A.slots.size ∧ len ≤ 536870912 ∧ ∀ i, i < len → ¬ 255 < cv A (o + i)
def E (b : Addr) (A : Cell) (o len : Nat) (r : Option Value) (s u : State) : Prop := NewArr .byte "[B" len (fun j => .int (lo8 (cv A (o + j)))) r s u ∧ u.heap.size = s.heap.size + 1
/-- no char of the range above 255: a new byte[] of their low bytes -/
theorem law (l : Launch) (b : Addr) (A : Cell) (o len : Nat) : Law l yN 3 3 1 18 yB 6 (some (.array .byte)) site (P b A o len) (E b A o len) [] 1 len := by
  refine Law.of_walk (plainFor_of_name (by decide +kernel)) (by decide +kernel) (by decide +kernel) (by decide) (fun _ _ h => by rw [h.1]; rfl) (fun _ U U' hal hh h => ⟨h.1, h.2.1.mv hal hh, h.2.2⟩) (fun r U U' V V' h1 hal h2 h => ⟨NewArr.mv r U U' V V' h1 hal h2 h.1, by rw [h1, h2]; exact h.2⟩) ?_
  intro p e s m args below meth c s₁ X0 hexec hbytes hml hret hlk hnm hown hh0 W hP
  obtain ⟨rfl, hA, l1, l2, hp⟩ := hP
  have a31 := hA.1.2.2.2
  have c1 : Steps p.tables e below (s₁.setTop (entryFrame m #[.ref b, .int (Int32.ofNat o), .int (Int32.ofNat len)] 6)) (s₁.setTop (mkF m 0 #[.val (.ref b), .val (.int (Int32.ofNat o)), .val (.int (Int32.ofNat len)), .unset, .unset, .unset] [])) := entry rfl
  have c2 : Steps p.tables e below (s₁.setTop (entryFrame m #[.ref b, .int (Int32.ofNat o), .int (Int32.ofNat len)] 6)) (s₁.setTop (mkF m 1 #[.val (.ref b), .val (.int (Int32.ofNat o)), .val (.int (Int32.ofNat len)), .unset, .unset, .unset] [.int (Int32.ofNat len)])) := c1.trans (by
    refine XS.iloadN X0.here hexec rfl (hb hbytes d0) rfl ?_
    exact Steps.refl _)
  obtain ⟨T3, B3, X3, ba3, bs3, bv3, bh3, bf3, st3⟩ := X0.anew hexec (atype := .byte) (wk W (.arrayClass .byte)) rfl (by show len * 1 ≤ _; omega) (by omega) (g := (mkF m 1 #[.val (.ref b), .val (.int (Int32.ofNat o)), .val (.int (Int32.ofNat len)), .unset, .unset, .unset] [.int (Int32.ofNat len)])) rfl (hb hbytes d1) (rest := []) rfl (Nat.le_refl _) (by show 0 + len ≤ len; omega)
  rw [hh0] at ba3 st3
  have kp3 : XT.Kept s T3 := (XT.Kept.of_eq hh0).push bh3
  have hA3 := hA.keep X3.warmed.alike (kp3 _ _ hA.1.1)
  have hne : b ≠ s.heap.size := hA.1.ne
  have c4 : Steps p.tables e below (s₁.setTop (entryFrame m #[.ref b, .int (Int32.ofNat o), .int (Int32.ofNat len)] 6)) (T3.setTop (mkF m 3 #[.val (.ref b), .val (.int (Int32.ofNat o)), .val (.int (Int32.ofNat len)), .unset, .unset, .unset] [.ref s.heap.size])) := c2.trans (st3 _ (Steps.refl _))
  have c5 : Steps p.tables e below (s₁.setTop (entryFrame m #[.ref b, .int (Int32.ofNat o), .int (Int32.ofNat len)] 6)) (T3.setTop (mkF m 9 #[.val (.ref b), .val (.int (Int32.ofNat o)), .val (.int (Int32.ofNat len)), .val (.ref s.heap.size), .unset, .unset] [.int (Int32.ofNat len), .int 0, .ref s.heap.size, .int (Int32.ofNat o), .ref b])) := c4.trans (by
    refine XS.astoreN X3.here hexec rfl (hb hbytes d3) rfl rfl rfl ?_
    refine XS.aloadN X3.here hexec rfl (hb hbytes d4) rfl rfl ?_
    refine XS.iloadN X3.here hexec rfl (hb hbytes d5) rfl ?_
    refine XS.aloadN X3.here hexec rfl (hb hbytes d6) rfl rfl ?_
    refine iconstV X3.here hexec rfl 0 (hb hbytes d7) (by decide) ?_
    refine XS.iloadN X3.here hexec rfl (hb hbytes d8) rfl ?_
    exact Steps.refl _)
  obtain ⟨v6, T6, X6, E6, g6⟩ := X3.callS hexec (Cmp5.law l b A s.heap.size B3 o 0 len) hown (wks W (staticW U16 115 Cmp5.yN)) (wk W Cmp5.tab) (W := 0) (Nat.le_of_ble_eq_true rfl) (Nat.le_of_ble_eq_true rfl) (Nat.le_refl _) (by show 0 + len + 0 ≤ len; omega) (g := (mkF m 9 #[.val (.ref b), .val (.int (Int32.ofNat o)), .val (.int (Int32.ofNat len)), .val (.ref s.heap.size), .unset, .unset] [.int (Int32.ofNat len), .int (Int32.ofNat 0), .ref s.heap.size, .int (Int32.ofNat o), .ref b])) rfl (by rw [hml]; rfl) c5 (argsL := [.ref b, .int (Int32.ofNat o), .ref s.heap.size, .int (Int32.ofNat 0), .int (Int32.ofNat len)]) (rest := []) rfl rfl (by show 2 * 0 + 0 ≤ _; decide) (hb hbytes d9) (⟨rfl, hA3, ba3, hne, l1, by rw [bs3]; simp, hp⟩)
  obtain ⟨rfl, B6, p6, f6⟩ := E6
  have c7 : Steps p.tables e below (s₁.setTop (entryFrame m #[.ref b, .int (Int32.ofNat o), .int (Int32.ofNat len)] 6)) (T6.setTop (mkF m 12 #[.val (.ref b), .val (.int (Int32.ofNat o)), .val (.int (Int32.ofNat len)), .val (.ref s.heap.size), .unset, .unset] [.int (Int32.ofNat len)])) := g6
  have c8 : Steps p.tables e below (s₁.setTop (entryFrame m #[.ref b, .int (Int32.ofNat o), .int (Int32.ofNat len)] 6)) (T6.setTop (mkF m 58 #[.val (.ref b), .val (.int (Int32.ofNat o)), .val (.int (Int32.ofNat len)), .val (.ref s.heap.size), .val (.int (Int32.ofNat len)), .unset] [.ref s.heap.size])) := c7.trans (by
    refine XS.istore X6.here hexec rfl (hb hbytes d12) rfl rfl ?_
    refine XS.iload X6.here hexec rfl (hb hbytes d14) rfl ?_
    refine XS.iloadN X6.here hexec rfl (hb hbytes d16) rfl ?_
    refine XS.icmpYes X6.here hexec rfl (pc0 := 17) rfl (hb hbytes d17) rfl (ii_eq_t rfl) (by decide) rfl ?_
    refine XS.aloadN X6.here hexec rfl (hb hbytes d57) rfl rfl ?_
    exact Steps.refl _)
  have X8 := X6.wide (L' := []) (cells' := 1) (slots' := len) (fun x hx hlt => by
    simp only [List.nil_append, copyLocs, List.mem_map, List.mem_range] at hx
    obtain ⟨i, -, rfl⟩ := hx
    exact absurd hlt (Nat.lt_irrefl _)) (Nat.le_refl _) (by omega)
  exact ⟨T6, some (.ref s.heap.size), _, _, _, X8, rfl, rfl, rfl, (fun h => by cases h), ⟨⟨rfl, B6, ba3.like (X3.warmed.alike.symm.trans X6.warmed.alike) p6.1 f6.1 f6.2.1 f6.2.2.1, f6.2.1.trans bv3, by rw [X6.warmed.alike.findClass, f6.1]; exact bf3, by rw [f6.2.2.1, bs3]; simp, fun j hj => by rw [f6.2.2.2 j, if_pos (by omega)]; rfl, kp3.put p6 (Nat.le_refl _)⟩, by rw [p6.2.2, bh3, hh0]; simp⟩, fun fs hl => c8.trans (X8.areturnOut hexec rfl hret rfl (hb hbytes d58) hl)⟩
end Cmp3
namespace CodL
def yN : MethodName := ⟨"java/lang/StringUTF16", "coderFromArrayLen", "([BI)B"⟩
abbrev yB : ByteArray := jdk_52_method_15_code
theorem d0 : decode yB 0 = .ok (.iload_n 1, 1) := by decide +kernel
theorem d1 : decode yB 1 = .ok (.aload_n 0, 1) := by decide +kernel
theorem d2 : decode yB 2 = .ok (.arraylength, 1) := by decide +kernel
theorem d3 : decode yB 3 = .ok (.isub, 1) := by decide +kernel
theorem d4 : decode yB 4 = .ok (.bipush 31, 2) := by decide +kernel
theorem d6 : decode yB 6 = .ok (.iushr, 1) := by decide +kernel
theorem d7 : decode yB 7 = .ok (.i2b, 1) := by decide +kernel
theorem d8 : decode yB 8 = .ok (.ireturn, 1) := by decide +kernel
def site : List Cond := []
def tab : Cond := tabOf yN yB 2 (some .byte) site
def P (d : Addr) (B : Cell) (args : Array Value) (s : State) : Prop := args = #[.ref d, .int (Int32.ofNat B.slots.size)] ∧ Arr .byte d B s
def E (r : Option Value) (s u : State) : Prop := XT.PureE (some (.int 0)) r s u
/-- an array as long as the number of chars: LATIN1 -/
theorem law (l : Launch) (d : Addr) (B : Cell) : Law l yN 2 2 0 0 yB 2 (some .byte) site (P d B) E [] 0 0 := by
  refine Law.of_walk (plainFor_of_name (by decide +kernel)) (by decide +kernel) (by decide +kernel) (by decide) (fun _ _ h => by rw [h.1]; rfl) (fun _ U U' hal hh h => ⟨h.1, h.2.mv hal hh⟩) (fun r U U' V V' h1 hal h2 h => XT.PureE.mv r U U' V V' h1 hal h2 h) ?_
  intro p e s m args below meth c s₁ X0 hexec hbytes hml hret hlk hnm hown hh0 W hP
  obtain ⟨rfl, hB⟩ := hP
  have hB0 := hB.mv X0.warmed.alike hh0
  have c1 : Steps p.tables e below (s₁.setTop (entryFrame m #[.ref d, .int (Int32.ofNat B.slots.size)] 2)) (s₁.setTop (mkF m 0 #[.val (.ref d), .val (.int (Int32.ofNat B.slots.size))] [])) := entry rfl
  have c2 : Steps p.tables e below (s₁.setTop (entryFrame m #[.ref d, .int (Int32.ofNat B.slots.size)] 2)) (s₁.setTop (mkF m 2 #[.val (.ref d), .val (.int (Int32.ofNat B.slots.size))] [.ref d, .int (Int32.ofNat B.slots.size)])) := c1.trans (by
    refine XS.iloadN X0.here hexec rfl (hb hbytes d0) rfl ?_
    refine XS.aloadN X0.here hexec rfl (hb hbytes d1) rfl rfl ?_
    exact Steps.refl _)
  have c3 : Steps p.tables e below (s₁.setTop (entryFrame m #[.ref d, .int (Int32.ofNat B.slots.size)] 2)) (s₁.setTop (mkF m 8 #[.val (.ref d), .val (.int (Int32.ofNat B.slots.size))] [.int (lo8 (ushr (Int32.ofNat B.slots.size - Int32.ofNat B.slots.size) 31))])) := c2.trans (by
    refine X0.alen hexec hB0 rfl rfl (hb hbytes d2) ?_
    refine XS.isub X0.here hexec rfl (hb hbytes d3) rfl ?_
    refine bipushV X0.here hexec rfl 31 (hb hbytes d4) (by decide) ?_
    refine iushr X0.here hexec rfl (hb hbytes d6) rfl ?_
    refine i2b X0.here hexec rfl (hb hbytes d7) rfl ?_
    exact Steps.refl _)
  have e0 : lo8 (ushr (Int32.ofNat B.slots.size - Int32.ofNat B.slots.size) 31) = 0 := by rw [Int32.sub_self]; decide
  rw [e0] at c3
  exact ⟨s₁, some (.int 0), _, _, _, X0, rfl, rfl, rfl, (fun h => by cases h), ⟨rfl, hh0⟩, fun fs hl => c3.trans (X0.ireturnOut hexec hret rfl (Or.inr (Or.inr (Or.inl rfl))) (hb hbytes d8) hl)⟩
end CodL
/-- the String at a is Latin-1 over a new byte[] (the heap's one new cell): the low bytes of the len chars of A from o on; every cell but a is kept -/
def Got (a : Addr) (D : Cell) (fV fC : Field) (A : Cell) (o len : Nat) (r : Option Value) (s u : State) : Prop := r = none ∧ ∃ D' V : Cell, Blank "java/lang/String" a D' u ∧ Same D D' [fV.slot, fC.slot] ∧ D'.slots[fV.slot]? = some (.ref s.heap.size) ∧ D'.slots[fC.slot]? = some (.int 0) ∧ Arr .byte s.heap.size V u ∧ V.vm = .none ∧ u.vm.findClass "[B" = some V.cls ∧ V.slots.size = len ∧ (∀ j, j < len → V.slots[j]? = some (.int (lo8 (cv A (o + j))))) ∧ (∀ (y : Addr) (c : Cell), y ≠ a → s.heap[y]? = some c → u.heap[y]? = some c) ∧ u.heap.size = s.heap.size + 1
theorem Got.mv {a : Addr} {D A : Cell} {fV fC : Field} {o len : Nat} : ∀ r (U U' V V' : State), U'.heap = U.heap → V.vm.Alike V'.vm → V'.heap = V.heap → Got a D fV fC A o len r U V → Got a D fV fC A o len r U' V' :=
  fun r U U' V V' h1 hal h2 ⟨e0, D', X, a1, a2, a3, a4, a5, a6, a7, a8, a9, a10, a11⟩ => ⟨e0, D', X, a1.mv hal h2, a2, by rw [h1]; exact a3, a4, by rw [h1]; exact a5.mv hal h2, a6, by rw [hal.findClass]; exact a7, a8, a9, by rw [h1, h2]; exact a10, by rw [h1, h2]; exact a11⟩
namespace New4
def yN : MethodName := ⟨"java/lang/String", "<init>", "([CIILjava/lang/Void;)V"⟩
abbrev yB : ByteArray := jdk_42_method_149_code
theorem d0 : decode yB 0 = .ok (.aload_n 0, 1) := by decide +kernel
theorem d1 : decode yB 1 = .ok (.invokespecial 1, 3) := by decide +kernel
theorem d4 : decode yB 4 = .ok (.iload_n 3, 1) := by decide +kernel
theorem d5 : decode yB 5 = .ok (.ifCond (.ne) 22, 3) := by decide +kernel
theorem d27 : decode yB 27 = .ok (.getstatic 38, 3) := by decide +kernel
theorem d30 : decode yB 30 = .ok (.ifCond (.eq) 28, 3) := by decide +kernel
theorem d33 : decode yB 33 = .ok (.aload_n 1, 1) := by decide +kernel
theorem d34 : decode yB 34 = .ok (.iload_n 2, 1) := by decide +kernel
theorem d35 : decode yB 35 = .ok (.iload_n 3, 1) := by decide +kernel
theorem d36 : decode yB 36 = .ok (.invokestatic 177, 3) := by decide +kernel
theorem d39 : decode yB 39 = .ok (.astore 5, 2) := by decide +kernel
theorem d41 : decode yB 41 = .ok (.aload_n 0, 1) := by decide +kernel
theorem d42 : decode yB 42 = .ok (.aload 5, 2) := by decide +kernel
theorem d44 : decode yB 44 = .ok (.iload_n 3, 1) := by decide +kernel
theorem d45 : decode yB 45 = .ok (.invokestatic 47, 3) := by decide +kernel
theorem d48 : decode yB 48 = .ok (.putfield 15, 3) := by decide +kernel
theorem d51 : decode yB 51 = .ok (.aload_n 0, 1) := by decide +kernel
theorem d52 : decode yB 52 = .ok (.aload 5, 2) := by decide +kernel
theorem d54 : decode yB 54 = .ok (.putfield 9, 3) := by decide +kernel
theorem d57 : decode yB 57 = .ok (.return_, 1) := by decide +kernel
def site : List Cond := [.fieldLink "java/lang/String" 38 "java/lang/String" "COMPACT_STRINGS" "Z", Cmp3.tab, CodL.tab, .laysFinal "java/lang/String" "java/lang/String" "value" "[B", .fieldLink "java/lang/String" 9 "java/lang/String" "value" "[B", .laysFinal "java/lang/String" "java/lang/String" "coder" "B", .fieldLink "java/lang/String" 15 "java/lang/String" "coder" "B"] ++ objW "java/lang/String" 1 ++ staticW "java/lang/String" 177 Cmp3.yN ++ staticW "java/lang/String" 47 CodL.yN
def tab : Cond := tabOf yN yB 6 none site
def P (a : Addr) (D : Cell) (fV fC : Field) (b : Addr) (A : Cell) (z : Int32) (o len : Nat) (args : Array Value) (s : State) : Prop := args = #[.ref a, .ref b, .int (Int32.ofNat o), .int (Int32.ofNat len), .null] ∧ Blank "java/lang/String" a D s ∧ Found "java/lang/String" "value" "[B" fV s ∧ Found "java/lang/String" "coder" "B" fC s ∧ Ch b A s ∧ StaticIs s "java/lang/String" "COMPACT_STRINGS" "Z" (.int z) ∧ ¬ z = 0 ∧ 0 < len ∧ o + len ≤ A.slots.size ∧ len ≤ 536870912 ∧ ∀ i, i < len → ¬ 255 < cv A (o + i)
def E (a : Addr) (D : Cell) (fV fC : Field) (A : Cell) (o len : Nat) (r : Option Value) (s u : State) : Prop := Got a D fV fC A o len r s u
/-- len > 0, no char of the range above 255: a Latin-1 String of their low bytes -/
theorem law (l : Launch) (a : Addr) (D : Cell) (fV fC : Field) (b : Addr) (A : Cell) (z : Int32) (o len : Nat) : Law l yN 5 4 2 35 yB 6 none site (P a D fV fC b A z o len) (E a D fV fC A o len) [⟨a, fC.slot⟩, ⟨a, fV.slot⟩] 1 len := by
  refine Law.of_walk (plainFor_of_name (by decide +kernel)) (by decide +kernel) (by decide +kernel) (by decide) (fun _ _ h => by rw [h.1]; rfl) (fun _ U U' hal hh h => ⟨h.1, h.2.1.mv hal hh, h.2.2.1.al hal, h.2.2.2.1.al hal, h.2.2.2.2.1.mv hal hh, h.2.2.2.2.2.1.there hal hh, h.2.2.2.2.2.2⟩) (fun r U U' V V' h1 hal h2 h => Got.mv r U U' V V' h1 hal h2 h) ?_
  intro p e s m args below meth c s₁ X0 hexec hbytes hml hret hlk hnm hown hh0 W hP
  obtain ⟨rfl, hB, f1, f2, hA, s1, hz, l0, l1, l2, hp⟩ := hP
  have a31 := hA.1.2.2.2
  have c1 : Steps p.tables e below (s₁.setTop (entryFrame m #[.ref a, .ref b, .int (Int32.ofNat o), .int (Int32.ofNat len), .null] 6)) (s₁.setTop (mkF m 0 #[.val (.ref a), .val (.ref b), .val (.int (Int32.ofNat o)), .val (.int (Int32.ofNat len)), .val .null, .unset] [])) := entry rfl
  have c2 : Steps p.tables e below (s₁.setTop (entryFrame m #[.ref a, .ref b, .int (Int32.ofNat o), .int (Int32.ofNat len), .null] 6)) (s₁.setTop (mkF m 1 #[.val (.ref a), .val (.ref b), .val (.int (Int32.ofNat o)), .val (.int (Int32.ofNat len)), .val .null, .unset] [.ref a])) := c1.trans (by
    refine XS.aloadN X0.here hexec rfl (hb hbytes d0) rfl rfl ?_
    exact Steps.refl _)
  obtain ⟨T3, X3, q3, st3⟩ := X0.oinit hexec hown (wks W (objW "java/lang/String" 1)) (g := (mkF m 1 #[.val (.ref a), .val (.ref b), .val (.int (Int32.ofNat o)), .val (.int (Int32.ofNat len)), .val .null, .unset] [.ref a])) rfl (by rw [hml]; rfl) (rest := []) rfl (hb hbytes d1) (W := 0) (by show 2 * 0 + 0 ≤ _; decide) (Nat.le_of_ble_eq_true rfl) (Nat.le_of_ble_eq_true rfl)
  have hh3 := q3.trans hh0
  have c4 : Steps p.tables e below (s₁.setTop (entryFrame m #[.ref a, .ref b, .int (Int32.ofNat o), .int (Int32.ofNat len), .null] 6)) (T3.setTop (mkF m 27 #[.val (.ref a), .val (.ref b), .val (.int (Int32.ofNat o)), .val (.int (Int32.ofNat len)), .val .null, .unset] [])) := (c2.trans (st3 _ (Steps.refl _))).trans (by
    refine XS.iloadN X3.here hexec rfl (hb hbytes d4) rfl ?_
    refine XS.ifYes X3.here hexec rfl (pc0 := 5) rfl (hb hbytes d5) rfl (i0_ne_t (nz32 (by omega) l0)) (by decide) rfl ?_
    exact Steps.refl _)
  obtain ⟨T5, X5, q5, st5⟩ := X3.sget hexec hown (wk W (.fieldLink "java/lang/String" 38 "java/lang/String" "COMPACT_STRINGS" "Z")) s1 (fun _ _ h => by rw [hh3]; exact h) (g := (mkF m 27 #[.val (.ref a), .val (.ref b), .val (.int (Int32.ofNat o)), .val (.int (Int32.ofNat len)), .val .null, .unset] [])) rfl (hb hbytes d27)
  have hh5 := q5.trans hh3
  have c6 : Steps p.tables e below (s₁.setTop (entryFrame m #[.ref a, .ref b, .int (Int32.ofNat o), .int (Int32.ofNat len), .null] 6)) (T5.setTop (mkF m 30 #[.val (.ref a), .val (.ref b), .val (.int (Int32.ofNat o)), .val (.int (Int32.ofNat len)), .val .null, .unset] [.int z])) := c4.trans (st5 _ (Steps.refl _))
  have c7 : Steps p.tables e below (s₁.setTop (entryFrame m #[.ref a, .ref b, .int (Int32.ofNat o), .int (Int32.ofNat len), .null] 6)) (T5.setTop (mkF m 36 #[.val (.ref a), .val (.ref b), .val (.int (Int32.ofNat o)), .val (.int (Int32.ofNat len)), .val .null, .unset] [.int (Int32.ofNat len), .int (Int32.ofNat o), .ref b])) := c6.trans (by
    refine XS.ifNo X5.here hexec rfl (hb hbytes d30) rfl (i0_eq_f hz) ?_
    refine XS.aloadN X5.here hexec rfl (hb hbytes d33) rfl rfl ?_
    refine XS.iloadN X5.here hexec rfl (hb hbytes d34) rfl ?_
    refine XS.iloadN X5.here hexec rfl (hb hbytes d35) rfl ?_
    exact Steps.refl _)
  obtain ⟨v8, T8, X8, E8, g8⟩ := X5.callS hexec (Cmp3.law l b A o len) hown (wks W (staticW "java/lang/String" 177 Cmp3.yN)) (wk W Cmp3.tab) (W := 0) (Nat.le_of_ble_eq_true rfl) (Nat.le_of_ble_eq_true rfl) (Nat.le_refl _) (by show 0 + len ≤ len; omega) (g := (mkF m 36 #[.val (.ref a), .val (.ref b), .val (.int (Int32.ofNat o)), .val (.int (Int32.ofNat len)), .val .null, .unset] [.int (Int32.ofNat len), .int (Int32.ofNat o), .ref b])) rfl (by rw [hml]; rfl) c7 (argsL := [.ref b, .int (Int32.ofNat o), .int (Int32.ofNat len)]) (rest := []) rfl rfl (by show 2 * 0 + 0 ≤ _; decide) (hb hbytes d36) (⟨rfl, hA.mv X5.warmed.alike hh5, l1, l2, hp⟩)
  obtain ⟨e8, z8⟩ := E8
  obtain ⟨rfl, N, n1, n2, n3, n4, n5, n6⟩ := NewArr.mv _ T5 s _ _ hh5.symm (Vm.Alike.refl _) rfl e8
  rw [hh5] at z8
  have hB1 := hB.keep X8.warmed.alike (n6 _ _ hB.1)
  have hne : s.heap.size ≠ a := (Nat.ne_of_lt (Array.getElem?_eq_some_iff.mp hB.1).1).symm
  have c9 : Steps p.tables e below (s₁.setTop (entryFrame m #[.ref a, .ref b, .int (Int32.ofNat o), .int (Int32.ofNat len), .null] 6)) (T8.setTop (mkF m 39 #[.val (.ref a), .val (.ref b), .val (.int (Int32.ofNat o)), .val (.int (Int32.ofNat len)), .val .null, .unset] [.ref s.heap.size])) := g8
  have c10 : Steps p.tables e below (s₁.setTop (entryFrame m #[.ref a, .ref b, .int (Int32.ofNat o), .int (Int32.ofNat len), .null] 6)) (T8.setTop (mkF m 45 #[.val (.ref a), .val (.ref b), .val (.int (Int32.ofNat o)), .val (.int (Int32.ofNat len)), .val .null, .val (.ref s.heap.size)] [.int (Int32.ofNat N.slots.size), .ref s.heap.size, .ref a])) := by
    have hc : Steps p.tables e below (s₁.setTop (entryFrame m #[.ref a, .ref b, .int (Int32.ofNat o), .int (Int32.ofNat len), .null] 6)) (T8.setTop (mkF m 45 #[.val (.ref a), .val (.ref b), .val (.int (Int32.ofNat o)), .val (.int (Int32.ofNat len)), .val .null, .val (.ref s.heap.size)] [.int (Int32.ofNat len), .ref s.heap.size, .ref a])) := c9.trans (by
      refine XS.astore X8.here hexec rfl (hb hbytes d39) rfl rfl rfl ?_
      refine XS.aloadN X8.here hexec rfl (hb hbytes d41) rfl rfl ?_
      refine XS.aload X8.here hexec rfl (hb hbytes d42) rfl rfl ?_
      refine XS.iloadN X8.here hexec rfl (hb hbytes d44) rfl ?_
      exact Steps.refl _)
    rw [n4]; exact hc
  obtain ⟨v11, T11, X11, E11, g11⟩ := X8.callS hexec (CodL.law l s.heap.size N) hown (wks W (staticW "java/lang/String" 47 CodL.yN)) (wk W CodL.tab) (W := 1) (Nat.le_of_ble_eq_true rfl) (Nat.le_of_ble_eq_true rfl) (Nat.le_refl _) (by show 0 + len + 0 ≤ len; omega) (g := (mkF m 45 #[.val (.ref a), .val (.ref b), .val (.int (Int32.ofNat o)), .val (.int (Int32.ofNat len)), .val .null, .val (.ref s.heap.size)] [.int (Int32.ofNat N.slots.size), .ref s.heap.size, .ref a])) rfl (by rw [hml]; rfl) c10 (argsL := [.ref s.heap.size, .int (Int32.ofNat N.slots.size)]) (rest := [.ref a]) rfl rfl (by show 2 * 0 + (1 + 0) ≤ _; decide) (hb hbytes d45) (⟨rfl, n1⟩)
  obtain ⟨rfl, q11⟩ := E11
  have hB11 := hB1.mv (X8.warmed.alike.symm.trans X11.warmed.alike) q11
  have c12 : Steps p.tables e below (s₁.setTop (entryFrame m #[.ref a, .ref b, .int (Int32.ofNat o), .int (Int32.ofNat len), .null] 6)) (T11.setTop (mkF m 48 #[.val (.ref a), .val (.ref b), .val (.int (Int32.ofNat o)), .val (.int (Int32.ofNat len)), .val .null, .val (.ref s.heap.size)] [.int 0, .ref a])) := g11
  obtain ⟨T13, X13, p13, bl13, sl13, st13⟩ := X11.finit hexec hown (wk W (.fieldLink "java/lang/String" 15 "java/lang/String" "coder" "B")) (Or.inr ⟨_, (wk W (.laysFinal "java/lang/String" "java/lang/String" "coder" "B"))⟩) (Or.inl ⟨rfl, hnm⟩) f2 (Or.inl rfl) hB11 (t := .byte) (by decide +kernel) rfl (g := (mkF m 48 #[.val (.ref a), .val (.ref b), .val (.int (Int32.ofNat o)), .val (.int (Int32.ofNat len)), .val .null, .val (.ref s.heap.size)] [.int 0, .ref a])) rfl (rest := []) rfl (hb hbytes d48)
  have c14 : Steps p.tables e below (s₁.setTop (entryFrame m #[.ref a, .ref b, .int (Int32.ofNat o), .int (Int32.ofNat len), .null] 6)) (T13.setTop (mkF m 54 #[.val (.ref a), .val (.ref b), .val (.int (Int32.ofNat o)), .val (.int (Int32.ofNat len)), .val .null, .val (.ref s.heap.size)] [.ref s.heap.size, .ref a])) := (c12.trans (st13 _ (Steps.refl _))).trans (by
    refine XS.aloadN X13.here hexec rfl (hb hbytes d51) rfl rfl ?_
    refine XS.aload X13.here hexec rfl (hb hbytes d52) rfl rfl ?_
    exact Steps.refl _)
  obtain ⟨T15, X15, p15, bl15, sl15, st15⟩ := X13.finit hexec hown (wk W (.fieldLink "java/lang/String" 9 "java/lang/String" "value" "[B")) (Or.inr ⟨_, (wk W (.laysFinal "java/lang/String" "java/lang/String" "value" "[B"))⟩) (Or.inl ⟨rfl, hnm⟩) f1 (Or.inl rfl) bl13 (t := (.array .byte)) (by decide +kernel) rfl (g := (mkF m 54 #[.val (.ref a), .val (.ref b), .val (.int (Int32.ofNat o)), .val (.int (Int32.ofNat len)), .val .null, .val (.ref s.heap.size)] [.ref s.heap.size, .ref a])) rfl (rest := []) rfl (hb hbytes d54)
  have c16 : Steps p.tables e below (s₁.setTop (entryFrame m #[.ref a, .ref b, .int (Int32.ofNat o), .int (Int32.ofNat len), .null] 6)) (T15.setTop (mkF m 57 #[.val (.ref a), .val (.ref b), .val (.int (Int32.ofNat o)), .val (.int (Int32.ofNat len)), .val .null, .val (.ref s.heap.size)] [])) := c14.trans (st15 _ (Steps.refl _))
  have ap := apart (Or.inr ⟨_, (wk W (.laysFinal "java/lang/String" "java/lang/String" "value" "[B"))⟩) (Or.inr ⟨_, (wk W (.laysFinal "java/lang/String" "java/lang/String" "coder" "B"))⟩) f1 f2 (t₁ := .array .byte) (t₂ := .byte) (by decide +kernel) (by decide +kernel) (by decide)
  have al := X8.warmed.alike.symm.trans X15.warmed.alike
  have n7 : T11.heap[s.heap.size]? = some N := by rw [q11]; exact n1.1
  exact ⟨T15, none, _, _, _, X15, by simp, rfl, by omega, (fun _ => rfl), ⟨rfl, _, N, bl15, ((Same.refl D _).set _ (by simp)).set _ (by simp), sl15, (Cell.slots_setSlot_ne _ ap).trans sl13, n1.keep al (p15.other hne (p13.other hne n7)), n2, by rw [al.findClass]; exact n3, n4, n5, fun y c h1 h2 => p15.other h1 (p13.other h1 (by rw [q11]; exact n6 y c h2)), by rw [p15.2.2, p13.2.2, q11]; exact z8⟩, fun fs hl => c16.trans (X15.returnOut hexec hret (hb hbytes d57) hl)⟩
end New4
namespace New1
def yN : MethodName := ⟨"java/lang/String", "<init>", "([C)V"⟩
abbrev yB : ByteArray := jdk_42_method_3_code
theorem d0 : decode yB 0 = .ok (.aload_n 0, 1) := by decide +kernel
theorem d1 : decode yB 1 = .ok (.aload_n 1, 1) := by decide +kernel
theorem d2 : decode yB 2 = .ok (.iconst 0, 1) := by decide +kernel
theorem d3 : decode yB 3 = .ok (.aload_n 1, 1) := by decide +kernel
theorem d4 : decode yB 4 = .ok (.arraylength, 1) := by decide +kernel
theorem d5 : decode yB 5 = .ok (.aconst_null, 1) := by decide +kernel
theorem d6 : decode yB 6 = .ok (.invokespecial 27, 3) := by decide +kernel
theorem d9 : decode yB 9 = .ok (.return_, 1) := by decide +kernel
def site : List Cond := [New4.tab] ++ initW "java/lang/String" 27 New4.yN
def tab : Cond := tabOf yN yB 2 none site
def P (a : Addr) (D : Cell) (fV fC : Field) (b : Addr) (A : Cell) (z : Int32) (args : Array Value) (s : State) : Prop := args = #[.ref a, .ref b] ∧ Blank "java/lang/String" a D s ∧ Found "java/lang/String" "value" "[B" fV s ∧ Found "java/lang/String" "coder" "B" fC s ∧ Ch b A s ∧ StaticIs s "java/lang/String" "COMPACT_STRINGS" "Z" (.int z) ∧ ¬ z = 0 ∧ 0 < A.slots.size ∧ A.slots.size ≤ 536870912 ∧ ∀ i, i < A.slots.size → ¬ 255 < cv A i
def E (a : Addr) (D : Cell) (fV fC : Field) (A : Cell) (r : Option Value) (s u : State) : Prop := Got a D fV fC A 0 A.slots.size r s u
/-- new String(chars), not empty, no char above 255: a Latin-1 String of their low bytes -/
theorem law (l : Launch) (a : Addr) (D : Cell) (fV fC : Field) (b : Addr) (A : Cell) (z : Int32) : Law l yN 2 1 3 52 yB 2 none site (P a D fV fC b A z) (E a D fV fC A) [⟨a, fC.slot⟩, ⟨a, fV.slot⟩] 1 A.slots.size := by
  refine Law.of_walk (plainFor_of_name (by decide +kernel)) (by decide +kernel) (by decide +kernel) (by decide) (fun _ _ h => by rw [h.1]; rfl) (fun _ U U' hal hh h => ⟨h.1, h.2.1.mv hal hh, h.2.2.1.al hal, h.2.2.2.1.al hal, h.2.2.2.2.1.mv hal hh, h.2.2.2.2.2.1.there hal hh, h.2.2.2.2.2.2⟩) (fun r U U' V V' h1 hal h2 h => Got.mv r U U' V V' h1 hal h2 h) ?_
  intro p e s m args below meth c s₁ X0 hexec hbytes hml hret hlk hnm hown hh0 W hP
  obtain ⟨rfl, hB, f1, f2, hA, s1, hz, l0, l2, hp⟩ := hP
  have c1 : Steps p.tables e below (s₁.setTop (entryFrame m #[.ref a, .ref b] 2)) (s₁.setTop (mkF m 0 #[.val (.ref a), .val (.ref b)] [])) := entry rfl
  have c2 : Steps p.tables e below (s₁.setTop (entryFrame m #[.ref a, .ref b] 2)) (s₁.setTop (mkF m 6 #[.val (.ref a), .val (.ref b)] [.null, .int (Int32.ofNat A.slots.size), .int 0, .ref b, .ref a])) := c1.trans (by
    refine XS.aloadN X0.here hexec rfl (hb hbytes d0) rfl rfl ?_
    refine XS.aloadN X0.here hexec rfl (hb hbytes d1) rfl rfl ?_
    refine iconstV X0.here hexec rfl 0 (hb hbytes d2) (by decide) ?_
    refine XS.aloadN X0.here hexec rfl (hb hbytes d3) rfl rfl ?_
    refine X0.alen hexec (hA.1.mv X0.warmed.alike hh0) rfl rfl (hb hbytes d4) ?_
    refine XS.aconstNull X0.here hexec rfl (hb hbytes d5) ?_
    exact Steps.refl _)
  obtain ⟨v3, T3, X3, E3, g3⟩ := X0.callN hexec (New4.law l a D fV fC b A z 0 A.slots.size) rfl hown (wks W (initW "java/lang/String" 27 New4.yN)) (W New4.tab (by simp only [site, List.mem_cons, List.mem_append, true_or, or_true])) (W := 0) (Nat.le_of_ble_eq_true rfl) (Nat.le_of_ble_eq_true rfl) (Nat.le_refl _) (by show 0 + A.slots.size ≤ A.slots.size; omega) (g := (mkF m 6 #[.val (.ref a), .val (.ref b)] [.null, .int (Int32.ofNat A.slots.size), .int (Int32.ofNat 0), .ref b, .ref a])) rfl (by rw [hml]; rfl) c2 (argsL := [.ref b, .int (Int32.ofNat 0), .int (Int32.ofNat A.slots.size), .null]) (rest := []) rfl rfl (by show 2 * 0 + 0 ≤ _; decide) (hb hbytes d6) (⟨rfl, hB.mv X0.warmed.alike hh0, f1.al X0.warmed.alike, f2.al X0.warmed.alike, hA.mv X0.warmed.alike hh0, s1.there X0.warmed.alike hh0, hz, l0, by omega, l2, fun i hi => by rw [Nat.zero_add]; exact hp i hi⟩)
  have e0 := Got.mv _ s₁ s _ _ hh0.symm (Vm.Alike.refl _) rfl E3
  obtain rfl := e0.1
  have c4 : Steps p.tables e below (s₁.setTop (entryFrame m #[.ref a, .ref b] 2)) (T3.setTop (mkF m 9 #[.val (.ref a), .val (.ref b)] [])) := g3
  exact ⟨T3, none, _, _, _, X3, by simp, rfl, by omega, (fun _ => rfl), e0, fun fs hl => c4.trans (X3.returnOut hexec hret (hb hbytes d9) hl)⟩
theorem pays {l : Launch} {R : Room} {p : Program} {e : Env} {below : List Frame} {s : State} {sargs : Array Value} {len W : Nat} (a : Addr) (D : Cell) (fV fC : Field) (b : Addr) (A : Cell) (z : Int32) (htab : tab.before sargs s = true) (hfr : 4 ≤ R.frames) (hlo : W + 65 ≤ R.locals) :
    Back l R p e below s sargs yN len W (fun A₁ a₁ => A₁.cells + 1 ≤ R.cells ∧ A₁.slots + A.slots.size ≤ R.slots ∧ P a D fV fC b A z a₁ A₁.U) (fun A₁ _ v₁ B₁ => E a D fV fC A v₁ A₁.U B₁.U ∧ B₁.locs = A₁.locs ++ [⟨a, fC.slot⟩, ⟨a, fV.slot⟩] ∧ B₁.cells = A₁.cells + 1 ∧ B₁.slots = A₁.slots + A.slots.size) :=
  (law l a D fV fC b A z).pays htab hfr (by omega)
end New1
/-- the byte, read back as charAt reads it, is the char -/
theorem lo8_mask {x : Int32} (h0 : ¬ x < 0) (h1 : ¬ 255 < x) : lo8 x &&& 255 = x := by
  have t : ∀ k : Fin 256, lo8 (Int32.ofNat k.val) &&& 255 = Int32.ofNat k.val := by decide +kernel
  rw [Int32.lt_iff_toInt_lt] at h0 h1
  have e0 : (0 : Int32).toInt = 0 := rfl
  have e1 : (255 : Int32).toInt = 255 := rfl
  obtain ⟨k, hk⟩ : ∃ k : Nat, x.toInt = k := ⟨x.toInt.toNat, by omega⟩
  have hx : x = Int32.ofNat k := Int32.toInt_inj.mp (by rw [hk, Int32.toInt_ofNat_small (by omega)])
  rw [hx]
  exact t ⟨k, by omega⟩
end StrChars
namespace StrChars.Road
open Jvm Sem ClassFile Op Lib Jvm.Stand Jvm.Free Jvm.Free.XT
open Jvm.Lib.Cold (StaticIs)
abbrev ST : String := "java/lang/String"
/-- every table word that New1's law asks, flat -/
abbrev words : List Jvm.Cond := [.code New1.yN New1.yB 2 none, .initialized ST, .methodLink ST 27 New4.yN, .instanceMethod New4.yN,
  .code New4.yN New4.yB 6 none, .fieldLink ST 38 ST "COMPACT_STRINGS" "Z", .laysFinal ST ST "value" "[B", .fieldLink ST 9 ST "value" "[B", .laysFinal ST ST "coder" "B", .fieldLink ST 15 ST "coder" "B",
  .methodLink ST 1 Lib.objectInit, .instanceMethod Lib.objectInit, .code Lib.objectInit ⟨#[0xb1]⟩ 1 none, .methodLink ST 177 Cmp3.yN, .static Cmp3.yN, .methodLink ST 47 CodL.yN, .static CodL.yN,
  .code Cmp3.yN Cmp3.yB 6 (some (.array .byte)), .initialized U16, .arrayClass .byte, .methodLink U16 115 Cmp5.yN, .static Cmp5.yN, .code Cmp5.yN Cmp5.yB 7 (some .int), .code CodL.yN CodL.yB 2 (some .byte)]
theorem tab_of {a : Array Value} {s : State} (h : ∀ w ∈ words, w.before a s = true) : New1.tab.before a s = true := by
  have h5 : Cmp5.tab.before a s = true := unparts (wk h (.code Cmp5.yN Cmp5.yB 7 (some .int))) (wks h (.initialized Cmp5.yN.cls :: Cmp5.site))
  have hc : CodL.tab.before a s = true := unparts (wk h (.code CodL.yN CodL.yB 2 (some .byte))) (wks h (.initialized CodL.yN.cls :: CodL.site))
  have q5 : ∀ w ∈ Cmp5.tab :: words, w.before a s = true := fun w hw => (List.mem_cons.mp hw).elim (fun e => e ▸ h5) (h w)
  have h3 : Cmp3.tab.before a s = true := unparts (wk q5 (.code Cmp3.yN Cmp3.yB 6 (some (.array .byte)))) (wks q5 (.initialized Cmp3.yN.cls :: Cmp3.site))
  have q3 : ∀ w ∈ Cmp3.tab :: CodL.tab :: words, w.before a s = true := fun w hw => (List.mem_cons.mp hw).elim (fun e => e ▸ h3) fun hw => (List.mem_cons.mp hw).elim (fun e => e ▸ hc) (h w)
  have h4 : New4.tab.before a s = true := unparts (wk q3 (.code New4.yN New4.yB 6 none)) (wks q3 (.initialized New4.yN.cls :: New4.site))
  have q4 : ∀ w ∈ New4.tab :: words, w.before a s = true := fun w hw => (List.mem_cons.mp hw).elim (fun e => e ▸ h4) (h w)
  exact unparts (wk q4 (.code New1.yN New1.yB 2 none)) (wks q4 (.initialized New1.yN.cls :: New1.site))
/-- the words ride from the start Z to the walk's own state -/
theorem moved {Z s : State} {a0 args : Array Value} (hZ : Z.Warmed39 s.vm) (hw : ∀ d ∈ words, d.before a0 Z = true) : ∀ d ∈ words, d.before args s = true := fun d hd => by
  have q := hw d hd
  have t : ∀ d ∈ words, d = .arrayClass .byte ∨ (d.onTables && d.keepsFace) = true := by decide +kernel
  rcases t d hd with rfl | t
  · exact RoadKit.mvA hZ q
  · exact RoadKit.mv hZ q t
/-- WHAT COMES BACK, over the tables of the start Z: h the heap at the call, h' behind it -/
def Q (Z : State) (x : Addr) (A : Cell) (h : Heap) (v : Option Value) (h' : Heap) (L : List Loc) : Prop := v = none ∧ (∀ y ∈ L, y.base = x) ∧ RoadKit.Keep h h' [x] ∧ h'.size = h.size + 1 ∧ RoadKit.Exa Z h' x ST ∧ RoadKit.Fld Z h' x ST "value" "[B" (.ref h.size) ∧ RoadKit.Fld Z h' x ST "coder" "B" (.int 0) ∧
  (∃ V : Cell, RoadKit.Arr Z h' h.size V .byte ∧ V.vm = .none ∧ Z.vm.findClass "[B" = some V.cls ∧ V.slots.size = A.slots.size ∧ ∀ j, j < A.slots.size → V.slots[j]? = some (.int (lo8 (cv A j)))) ∧
  ∀ (O n d : String) (w : Value), RoadKit.Fld Z h x O n d w → RoadKit.slotOf Z O n d ≠ RoadKit.slotOf Z ST "value" "[B" → RoadKit.slotOf Z O n d ≠ RoadKit.slotOf Z ST "coder" "B" → RoadKit.Fld Z h' x O n d w
/-- **new String(chars) AT A CALL, IN THE ROAD'S FORM**: for specialBack behind newO: x the fresh String, b the char[] with the cell A -/
theorem back {p : Program} {l : Launch} {e : Env} {R : Room} {s : State} {args : Array Value} {below : List Frame} {len W : Nat} {Z : State} {a0 : Array Value} {h : Heap} (hZ : Z.Warmed39 s.vm) (hw : ∀ d ∈ words, d.before a0 Z = true) {kI : Nat} (wi : (Jvm.Cond.instantiable ST kI).before a0 Z = true)
    {x b : Addr} {A : Cell} {z : Int32} {v0 c0 : Value} (E : RoadKit.Exa Z h x ST) (V : RoadKit.Fld Z h x ST "value" "[B" v0) (C : RoadKit.Fld Z h x ST "coder" "B" c0) (K : RoadKit.Arr Z h b A .char) (hty : Typed .char A) (S : RoadKit.Sta Z h ST "COMPACT_STRINGS" "Z" (.int z)) (hz : ¬ z = 0)
    (l0 : 0 < A.slots.size) (l2 : A.slots.size ≤ 536870912) (hp : ∀ i, i < A.slots.size → ¬ 255 < cv A i) (hfr : 4 ≤ R.frames) (hlo : W + 65 ≤ R.locals) :
    Back l R p e below s args New1.yN len W (fun P a => a = #[.ref x, .ref b] ∧ P.U.heap = h ∧ P.cells + 1 ≤ R.cells ∧ P.slots + A.slots.size ≤ R.slots)
      (fun P _ v B => ∃ L, Q Z x A h v B.U.heap L ∧ B.locs = P.locs ++ L ∧ B.cells = P.cells + 1 ∧ B.slots = P.slots + A.slots.size) := by
  intro m meth c P g ig mk a X hg hsize hdg hW hn hp'
  obtain ⟨rfl, rfl, r1, r2⟩ := hp'
  have al : Z.vm.Alike P.U.vm := hZ.alike.trans X.warmed.alike
  obtain ⟨D, cfV, kV, iV, fV, hD, gV, stV, knV, obV, asV, slV⟩ := id V
  obtain ⟨D', cfC, kC, iC, fC, hD', gC, stC, -, -, asC, slC⟩ := id C
  cases hD.symm.trans hD'
  obtain ⟨D2, kD, e1, e2, e3, e4, e5⟩ := id E
  cases hD.symm.trans e1
  obtain ⟨c2, k2, i1, i2, i3, -⟩ := Cond.instantiable_spec wi
  cases e2.symm.trans i1
  cases e3.symm.trans i2
  obtain ⟨kU, u1, u2⟩ := al.2.2 _ _ e3
  have hB : Blank ST x D P.U := ⟨hD, ⟨knV, fun q hq => by rw [hq] at obV; cases obV⟩, by rw [al.findClass]; exact e2, kU, u1, by rw [u2]; exact i3, by rw [u2]; exact e5 i3⟩
  have F1 : Found ST "value" "[B" fV P.U := ⟨SBG.found_only al ⟨cfV, kV, iV, gV⟩, stV⟩
  have F2 : Found ST "coder" "B" fC P.U := ⟨SBG.found_only al ⟨cfC, kC, iC, gC⟩, stC⟩
  have hA : Ch b A P.U := ⟨⟨K.1, State.isArrayOf_alike al K.2.1, K.2.2, by omega⟩, hty⟩
  have hS : StaticIs P.U ST "COMPACT_STRINGS" "Z" (.int z) := by
    obtain ⟨cfS, iS, kS, fS, st, cS, t1, t2, t3, t4, t5, t6, t7⟩ := S
    exact StaticIs.there (s := { Z with heap := P.U.heap }) ⟨cfS, iS, kS, fS, st, cS, t1, t2, t3, t4, t5, (fun q => by rw [q] at t6; cases t6), t7⟩ al rfl
  obtain ⟨v, B, X', ⟨⟨hv, E', V', q1, q2, q3, q4, q5, q6, q7, q8, q9, q10, q11⟩, hl, hc, hs⟩, st⟩ := New1.pays x D fV fC b A z (tab_of (moved hZ hw)) hfr hlo m meth c P g ig mk _ X hg hsize hdg hW hn ⟨r1, r2, rfl, hB, F1, F2, hA, hS, hz, l0, l2, hp⟩
  have al' : Z.vm.Alike B.U.vm := hZ.alike.trans X'.warmed.alike
  have hsz : E'.slots.size = D.slots.size := by
    obtain ⟨-, -, -, kB, w1, w2, w3⟩ := q1
    obtain ⟨kB', y1, y2⟩ := al'.2.2 _ _ e3
    rw [q2.2.1] at w1
    cases w1.symm.trans y1
    rw [w3, e5 i3, y2]
  refine ⟨v, B, X', ⟨_, ⟨hv, ?_, ⟨by omega, fun y cy hy hn' => q10 y cy (by simpa using hn') hy, fun y cy hy => ?_⟩, q11, ⟨E', _, q1.1, by rw [q2.2.1]; exact e2, by rw [q2.2.1]; exact e3, by rw [q2.1]; exact obV, fun _ => by rw [hsz]; exact e5 i3⟩,
    ⟨E', cfV, kV, iV, fV, q1.1, gV, stV, by rw [q2.1]; exact knV, by rw [q2.1]; exact obV, by rw [q2.2.1]; exact asV, q3⟩, ⟨E', cfC, kC, iC, fC, q1.1, gC, stC, by rw [q2.1]; exact knV, by rw [q2.1]; exact obV, by rw [q2.2.1]; exact asC, q4⟩,
    ⟨V', ⟨q5.1, State.isArrayOf_alike al'.symm q5.2.1, q5.2.2.1⟩, q6, by rw [← al'.findClass]; exact q7, q8, fun j hj => by have := q9 j hj; rwa [Nat.zero_add] at this⟩, fun O n d w F n1 n2 => ?_⟩, hl, hc, hs⟩, st⟩
  · intro y hy
    simp only [List.mem_cons, List.not_mem_nil, or_false] at hy
    rcases hy with rfl | rfl <;> rfl
  · by_cases q : y = x
    · subst q
      cases hD.symm.trans hy
      exact ⟨E', q1.1, q2.2.1, q2.1, hsz⟩
    · exact ⟨cy, q10 y cy q hy, rfl, rfl, rfl⟩
  · obtain ⟨D3, cf, k, i, f, g1, g2, g3, g4, g5, g6, g7⟩ := F
    cases hD.symm.trans g1
    simp only [RoadKit.slotOf, g2, gV, gC, Option.map_some, Option.getD_some] at n1 n2
    exact ⟨E', cf, k, i, f, q1.1, g2, g3, by rw [q2.1]; exact g4, by rw [q2.1]; exact g5, by rw [q2.2.1]; exact g6, by rw [q2.2.2 f.slot (by simp [n1, n2])]; exact g7⟩
end StrChars.Road
namespace StrChars.Road
open Jvm Sem ClassFile Op Lib Jvm.Stand Jvm.Free Jvm.Free.XT
/-- WHAT COMES BACK, the byte[] as a list of values -/
def QA (Z : State) (x : Addr) (zn : Int32) (cs : List Int32) (h : Heap) (v : Option Value) (h' : Heap) (L : List Loc) : Prop := v = none ∧ (∀ y ∈ L, y.base = x) ∧ RoadKit.Keep h h' [x] ∧ h'.size = h.size + 1 ∧ RoadKit.Exa Z h' x ST ∧ RoadKit.Fld Z h' x ST "value" "[B" (.ref h.size) ∧ RoadKit.Fld Z h' x ST "coder" "B" (.int 0) ∧
  (∃ kb, Z.vm.findClass "[B" = some kb ∧ RoadKit.Arv Z h' h.size kb .byte zn (cs.map fun c => .int (lo8 c)) (.int 0)) ∧
  ∀ (O n d : String) (w : Value), RoadKit.Fld Z h x O n d w → RoadKit.slotOf Z O n d ≠ RoadKit.slotOf Z ST "value" "[B" → RoadKit.slotOf Z O n d ≠ RoadKit.slotOf Z ST "coder" "B" → RoadKit.Fld Z h' x O n d w
/-- **new String(chars) AT A CALL, THE ARRAYS AS LISTS**: the char[] at b holds cs, not empty, no char above 255 -/
theorem backArv {p : Program} {l : Launch} {e : Env} {R : Room} {s : State} {args : Array Value} {below : List Frame} {len W : Nat} {Z : State} {a0 : Array Value} {h : Heap} (hZ : Z.Warmed39 s.vm) (hw : ∀ d ∈ words, d.before a0 Z = true) {kI : Nat} (wi : (Jvm.Cond.instantiable ST kI).before a0 Z = true)
    {x b : Addr} {k : ClassId} {zn z : Int32} {cs : List Int32} {dv v0 c0 : Value} (E : RoadKit.Exa Z h x ST) (V : RoadKit.Fld Z h x ST "value" "[B" v0) (C : RoadKit.Fld Z h x ST "coder" "B" c0) (K : RoadKit.Arv Z h b k .char zn (cs.map Value.int) dv) (S : RoadKit.Sta Z h ST "COMPACT_STRINGS" "Z" (.int z)) (hz : ¬ z = 0)
    (hlen : zn.toNatClampNeg = cs.length) (h0 : 0 < cs.length) (hbig : cs.length ≤ 536870912) (hall : ∀ c ∈ cs, ¬ 255 < c) (hfr : 4 ≤ R.frames) (hlo : W + 65 ≤ R.locals) :
    Back l R p e below s args New1.yN len W (fun P a => a = #[.ref x, .ref b] ∧ P.U.heap = h ∧ P.cells + 1 ≤ R.cells ∧ P.slots + cs.length ≤ R.slots)
      (fun P _ v B => ∃ L, QA Z x zn cs h v B.U.heap L ∧ B.locs = P.locs ++ L ∧ B.cells = P.cells + 1 ∧ B.slots = P.slots + cs.length) := by
  obtain ⟨A, K1, K2, K3, K4, K5, K6⟩ := K
  have e : A.slots.size = cs.length := K3.trans hlen
  have hat : ∀ (i : Nat) (hi : i < cs.length), A.slots[i]? = some (.int cs[i]) := fun i hi => by rw [K5 i (by omega)]; simp [List.getD_eq_getElem?_getD, hi]
  have hcv : ∀ (i : Nat) (hi : i < cs.length), cv A i = cs[i] := fun i hi => by unfold cv; rw [hat i hi]
  have hty : Typed .char A := fun i v hv => by
    have hi : i < A.slots.size := (Array.getElem?_eq_some_iff.mp hv).1
    have q := K5 i hi
    rw [hv] at q
    rw [Option.some.inj q]
    exact K6 i hi
  refine Back.mono (back hZ hw wi E V C K1 hty S hz (by omega) (by omega) (fun i hi => by rw [hcv i (by omega)]; exact hall _ (List.getElem_mem _)) hfr hlo) (fun P a hp => ⟨hp.1, hp.2.1, hp.2.2.1, by rw [e]; exact hp.2.2.2⟩) (fun P a v B hp hq => ?_)
  obtain ⟨L, ⟨q1, q2, q3, q4, q5, q6, q7, ⟨V', v1, v2, v3, v4, v5⟩, q9⟩, hl, hc, hs⟩ := hq
  refine ⟨L, ⟨q1, q2, q3, q4, q5, q6, q7, ⟨V'.cls, v3, V', v1, rfl, by rw [v4, e, hlen], K4, fun i hi => ?_, fun i hi => ?_⟩, q9⟩, hl, hc, by rw [hs, e]⟩
  · have hi' : i < cs.length := by omega
    rw [v5 i (by omega), hcv i hi']; simp [List.getD_eq_getElem?_getD, hi']
  · have hi' : i < cs.length := by omega
    simp only [List.getD_eq_getElem?_getD, List.getElem?_map, List.getElem?_eq_getElem hi', Option.map_some, Option.getD_some]
    exact fits_lo8 _
end StrChars.Road
namespace StrChars.Road
open Jvm Sem ClassFile Op Lib Jvm.Stand Jvm.Free Jvm.Free.XT
/-- WHAT COMES BACK, in the writer's own shape -/
def QV (Z : State) (x : Addr) (N : Int32) (bs : List Int32) (h : Heap) (n0 : Nat) (v : Option Value) (h' : Heap) (L : List Loc) : Prop := v = none ∧ RoadKit.Fr n0 L ∧ RoadKit.Keep h h' [x] ∧ RoadKit.Exa Z h' x ST ∧ RoadKit.Fld Z h' x ST "coder" "B" (.int 0) ∧
  ∃ (t : Addr) (kb : ClassId), n0 ≤ t ∧ h.size ≤ t ∧ ¬ t = x ∧ RoadKit.Fld Z h' x ST "value" "[B" (.ref t) ∧ RoadKit.Arv Z h' t kb .byte N (bs.map Value.int) (.int 0)
/-- **new String(chars) AT A CALL, FOR THE WRITER**: a char[] of n known ints, each 0 to 255 -/
theorem backV {p : Program} {l : Launch} {e : Env} {R : Room} {s : State} {args : Array Value} {below : List Frame} {len W : Nat} {Z : State} {a0 : Array Value} {h : Heap} (hZ : Z.Warmed39 s.vm) (hw : ∀ d ∈ words, d.before a0 Z = true) {kI : Nat} (wi : (Jvm.Cond.instantiable ST kI).before a0 Z = true)
    {x b : Addr} {kC : ClassId} {cs bs : List Int32} {d v0 c0 : Value} {z N : Int32} {n n0 : Nat} (hx0 : n0 ≤ x) (hh0 : n0 ≤ h.size) (E : RoadKit.Exa Z h x ST) (V : RoadKit.Fld Z h x ST "value" "[B" v0) (C : RoadKit.Fld Z h x ST "coder" "B" c0) (K : RoadKit.Arv Z h b kC .char N (cs.map Value.int) d) (S : RoadKit.Sta Z h ST "COMPACT_STRINGS" "Z" (.int z)) (hz : ¬ z = 0)
    (hn : cs.length = n) (hN : N = Int32.ofNat n) (l0 : 0 < n) (l2 : n ≤ 4000) (hp : ∀ c ∈ cs, ¬ c < 0 ∧ ¬ (255 : Int32) < c) (hb : bs = cs.map (fun c => c.toInt8.toInt32)) (hfr : 4 ≤ R.frames) (hlo : W + 65 ≤ R.locals) :
    Back l R p e below s args (⟨"java/lang/String", "<init>", "([C)V"⟩ : MethodName) len W (fun P a => a = #[.ref x, .ref b] ∧ P.U.heap = h ∧ P.cells + 1 ≤ R.cells ∧ P.slots + n ≤ R.slots)
      (fun P _ v B => ∃ L, QV Z x N bs h n0 v B.U.heap L ∧ B.locs = P.locs ++ L ∧ B.cells = P.cells + 1 ∧ B.slots = P.slots + n) := by
  subst hn hN hb
  refine Back.mono (backArv hZ hw wi E V C K S hz (n32 (by omega)) l0 (by omega) (fun c hc => (hp c hc).2) hfr hlo) (fun P a hp => hp) (fun P a v B hp hq => ?_)
  obtain ⟨L, ⟨q1, q2, q3, q4, q5, q6, q7, ⟨kb, v1, v2⟩, q9⟩, hl, hc, hs⟩ := hq
  exact ⟨L, ⟨q1, fun y hy => by rw [q2 y hy]; exact hx0, q3, q5, q7, h.size, kb, hh0, Nat.le_refl _, Nat.ne_of_gt E.lt, q6, by rw [List.map_map]; exact v2⟩, hl, hc, hs⟩
end StrChars.Road
namespace StrChars
open Jvm Sem ClassFile Op Lib Jvm.Stand Jvm.Free.XT Jvm.Free.ALB Jvm.Free.JM Jvm.Free
open Jvm.Lib.Cold (StaticIs)
def hi8 (x : Int32) : Int32 := lo8 (x >>> ((8 : Int32) &&& 31))
/-- what StringUTF16.getChar makes of two bytes -/
def pairCh (u v : Int32) : Int32 := (((u &&& 255) <<< ((0 : Int32) &&& 31)) ||| ((v &&& 255) <<< ((8 : Int32) &&& 31))).toUInt32.toUInt16.toUInt32.toInt32
theorem lo8_and (x : Int32) : (lo8 x &&& 255).toBitVec.toNat = x.toBitVec.toNat % 256 := by
  have h : (lo8 x).toBitVec = (x.toBitVec.signExtend 8).signExtend 32 := by rw [lo8, Int8.toBitVec_toInt32, Int32.toBitVec_toInt8]
  rw [Int32.toBitVec_and, BitVec.toNat_and, h]
  have e : ((x.toBitVec.signExtend 8).signExtend 32).toNat % 256 = x.toBitVec.toNat % 256 := by
    rw [BitVec.toNat_signExtend]
    have hlt := x.toBitVec.isLt
    simp only [BitVec.toNat_setWidth, BitVec.toNat_signExtend]
    split <;> split <;> omega
  rw [← e]
  exact Nat.and_two_pow_sub_one_eq_mod _ 8
theorem pair_says {c : Int32} (h0 : ¬ c < 0) (h1 : ¬ 65535 < c) : pairCh (lo8 c) (hi8 c) = c := by
  rw [Int32.lt_iff_toInt_lt] at h0 h1
  have e0 : (0 : Int32).toInt = 0 := rfl
  have e1 : (65535 : Int32).toInt = 65535 := rfl
  have hc : c.toInt = c.toBitVec.toNat := by
    have := c.toBitVec.isLt
    have e : c.toInt = c.toBitVec.toInt := rfl
    rw [e] at h0 h1
    rw [e]
    rw [BitVec.toInt_eq_toNat_cond] at h0 h1 ⊢
    split at h0 <;> split <;> omega
  have hn : c.toBitVec.toNat < 65536 := by omega
  have a1 := lo8_and c
  have a2 : (hi8 c &&& 255).toBitVec.toNat = c.toBitVec.toNat / 256 := by
    rw [hi8, lo8_and]
    have e : ((8 : Int32) &&& 31) = 8 := by decide
    rw [e, Int32.toBitVec_shiftRight]
    have e2 : ((8 : Int32).toBitVec.smod 32) = 8#32 := by decide
    rw [e2, BitVec.sshiftRight_eq', BitVec.toNat_sshiftRight_of_msb_false (by rw [BitVec.msb_eq_false_iff_two_mul_lt]; omega)]
    show c.toBitVec.toNat >>> 8 % 256 = _
    rw [Nat.shiftRight_eq_div_pow]
    omega
  unfold pairCh
  apply Int32.toBitVec_inj.mp
  apply BitVec.eq_of_toNat_eq
  have f0 : ((0 : Int32) &&& 31) = 0 := by decide
  have f8 : ((8 : Int32) &&& 31) = 8 := by decide
  rw [f0, f8]
  have g : (((lo8 c &&& 255) <<< (0 : Int32)) ||| ((hi8 c &&& 255) <<< (8 : Int32))).toBitVec.toNat = c.toBitVec.toNat := by
    rw [Int32.toBitVec_or, Int32.toBitVec_shiftLeft, Int32.toBitVec_shiftLeft]
    have s0 : ((0 : Int32).toBitVec.smod 32) = 0#32 := by decide
    have s8 : ((8 : Int32).toBitVec.smod 32) = 8#32 := by decide
    rw [s0, s8, BitVec.toNat_or]
    simp only [BitVec.shiftLeft_eq', BitVec.toNat_shiftLeft, a1, a2]
    show (c.toBitVec.toNat % 256) <<< 0 % 2 ^ 32 ||| (c.toBitVec.toNat / 256) <<< 8 % 2 ^ 32 = _
    rw [Nat.shiftLeft_zero, Nat.mod_eq_of_lt (show c.toBitVec.toNat % 256 < 2 ^ 32 by omega), Nat.mod_eq_of_lt (show (c.toBitVec.toNat / 256) <<< 8 < 2 ^ 32 by rw [Nat.shiftLeft_eq]; omega), Nat.or_comm, ← Nat.shiftLeft_add_eq_or_of_lt (by omega), Nat.shiftLeft_eq]
    omega
  show BitVec.toNat (((((lo8 c &&& 255) <<< (0 : Int32)) ||| ((hi8 c &&& 255) <<< (8 : Int32))).toBitVec.setWidth 16).setWidth 32) = _
  rw [BitVec.toNat_setWidth, BitVec.toNat_setWidth, g]
  omega
end StrChars
namespace StrChars
open Jvm Sem ClassFile Op Lib Jvm.Stand Jvm.Free.XT Jvm.Free.ALB Jvm.Free.JM Jvm.Free
open Jvm.Lib.Cold (StaticIs)
/-- the array's cell V codes the n chars f 0 .. f (n - 1) by the coder cd, as the JDK does: coder 1 just where some char is above 255 -/
def Cod (cd : Int32) (n : Nat) (f : Nat → Int32) (V : Cell) : Prop := (cd = 0 ∧ V.slots.size = n ∧ ∀ j, j < n → V.slots[j]? = some (.int (lo8 (f j))) ∧ ¬ 255 < f j) ∨ (cd = 1 ∧ V.slots.size = 2 * n ∧ (∀ j, j < n → V.slots[2 * j]? = some (.int (lo8 (f j))) ∧ V.slots[2 * j + 1]? = some (.int (hi8 (f j)))) ∧ ∃ j, j < n ∧ 255 < f j)
/-- **x is a String of the n chars f 0 .. f (n - 1)**, Latin-1 or UTF-16; its array at t has the cell V -/
def Txt (x t : Addr) (V : Cell) (cd : Int32) (n : Nat) (f : Nat → Int32) (U : State) : Prop := Exact "java/lang/String" x U ∧ Has x "java/lang/String" "value" "[B" (.ref t) U ∧ Has x "java/lang/String" "coder" "B" (.int cd) U ∧ XT.Arr .byte t V U ∧ Cod cd n f V ∧ ∀ j, j < n → ¬ f j < 0 ∧ ¬ 65535 < f j
theorem Txt.mv {x t : Addr} {V : Cell} {cd : Int32} {n : Nat} {f : Nat → Int32} {U U' : State} (h : Txt x t V cd n f U) (hal : U.vm.Alike U'.vm) (hh : U'.heap = U.heap) : Txt x t V cd n f U' := ⟨h.1.mv hal hh, h.2.1.mv hal hh, h.2.2.1.mv hal hh, h.2.2.2.1.mv hal hh, h.2.2.2.2⟩
end StrChars
namespace StrChars.Road
open Jvm Sem ClassFile Op Lib Jvm.Stand Jvm.Free Jvm.Free.XT
open Jvm.Lib.Cold (StaticIs)
theorem consq {a : Array Value} {s : State} {c : Jvm.Cond} {L : List Jvm.Cond} (h0 : c.before a s = true) (h : ∀ w ∈ L, w.before a s = true) : ∀ w ∈ c :: L, w.before a s = true := fun w hw => (List.mem_cons.mp hw).elim (fun e => e ▸ h0) (h w)
/-- the bytes of the chars cs, low before high -/
def wideBytes : List Int32 → List Value
  | [] => []
  | c :: cs => .int (lo8 c) :: .int (hi8 c) :: wideBytes cs
theorem wide_lo (d : Value) : ∀ (cs : List Int32) (j : Nat), j < cs.length → (wideBytes cs).getD (2 * j) d = .int (lo8 (cs.getD j 0))
  | [], j, h => absurd h (Nat.not_lt_zero j)
  | c :: cs, 0, _ => rfl
  | c :: cs, j + 1, h => by
    have q := wide_lo d cs j (by simpa using h)
    rw [show 2 * (j + 1) = 2 * j + 1 + 1 from by omega]
    simpa [wideBytes] using q
theorem wide_hi (d : Value) : ∀ (cs : List Int32) (j : Nat), j < cs.length → (wideBytes cs).getD (2 * j + 1) d = .int (hi8 (cs.getD j 0))
  | [], j, h => absurd h (Nat.not_lt_zero j)
  | c :: cs, 0, _ => rfl
  | c :: cs, j + 1, h => by
    have q := wide_hi d cs j (by simpa using h)
    rw [show 2 * (j + 1) + 1 = 2 * j + 1 + 1 + 1 from by omega]
    simpa [wideBytes] using q
theorem low_at (d : Value) (cs : List Int32) (j : Nat) (h : j < cs.length) : (cs.map fun c => Value.int (lo8 c)).getD j d = .int (lo8 (cs.getD j 0)) := by
  simp [List.getD_eq_getElem?_getD, h]
/-- an array of N2 bytes vs codes the chars cs by the coder cd -/
def CodA (cs : List Int32) (cd N2 : Int32) (vs : List Value) : Prop := (cd = 0 ∧ N2 = Int32.ofNat cs.length ∧ vs = (cs.map fun c => Value.int (lo8 c)) ∧ ∀ c ∈ cs, ¬ 255 < c) ∨ (cd = 1 ∧ N2 = Int32.ofNat (2 * cs.length) ∧ vs = wideBytes cs ∧ ∃ c ∈ cs, 255 < c)
theorem CodA.cod {cs : List Int32} {cd N2 : Int32} {vs : List Value} {V : Cell} (h : CodA cs cd N2 vs) (hn : 2 * cs.length < 2 ^ 31) (hs : V.slots.size = N2.toNatClampNeg) (hv : RoadKit.Has V vs (.int 0)) : Cod cd cs.length (fun j => cs.getD j 0) V := by
  rcases h with ⟨rfl, rfl, rfl, h⟩ | ⟨rfl, rfl, rfl, c, hc, hw⟩
  · rw [n32 (by omega)] at hs
    exact Or.inl ⟨rfl, hs, fun j hj => ⟨by rw [hv j (by omega), low_at _ _ _ hj], by
      have e : cs.getD j 0 = cs[j] := by simp [List.getD_eq_getElem?_getD, hj]
      show ¬ 255 < cs.getD j 0
      rw [e]; exact h _ (List.getElem_mem _)⟩⟩
  · rw [n32 (by omega)] at hs
    obtain ⟨j, hj, rfl⟩ := List.getElem_of_mem hc
    exact Or.inr ⟨rfl, hs, fun j hj => ⟨by rw [hv _ (by omega), wide_lo _ _ _ hj], by rw [hv _ (by omega), wide_hi _ _ _ hj]⟩, j, hj, by
      have e : cs.getD j 0 = cs[j] := by simp [List.getD_eq_getElem?_getD, hj]
      show 255 < cs.getD j 0
      rw [e]; exact hw⟩
/-- an object of exactly java/lang/String, its two fields found: as the laws ask it -/
theorem strObj {Z U : State} {a0 : Array Value} {kI : Nat} (wi : (Jvm.Cond.instantiable ST kI).before a0 Z = true) (al : Z.vm.Alike U.vm) {x : Addr} {v0 c0 : Value} (E : RoadKit.Exa Z U.heap x ST) (V : RoadKit.Fld Z U.heap x ST "value" "[B" v0) (C : RoadKit.Fld Z U.heap x ST "coder" "B" c0) :
    ∃ (D : Cell) (fV fC : Field), Blank ST x D U ∧ Found ST "value" "[B" fV U ∧ Found ST "coder" "B" fC U ∧ D.slots[fV.slot]? = some v0 ∧ D.slots[fC.slot]? = some c0 ∧ RoadKit.slotOf Z ST "value" "[B" = fV.slot ∧ RoadKit.slotOf Z ST "coder" "B" = fC.slot := by
  obtain ⟨D, cfV, kV, iV, fV, hD, gV, stV, knV, obV, asV, slV⟩ := V
  obtain ⟨D', cfC, kC, iC, fC, hD', gC, stC, -, -, asC, slC⟩ := C
  cases hD.symm.trans hD'
  obtain ⟨D2, kD, e1, e2, e3, e4, e5⟩ := E
  cases hD.symm.trans e1
  obtain ⟨c2, k2, i1, i2, i3, -⟩ := Cond.instantiable_spec wi
  cases e2.symm.trans i1
  cases e3.symm.trans i2
  obtain ⟨kU, u1, u2⟩ := al.2.2 _ _ e3
  exact ⟨D, fV, fC, ⟨hD, ⟨knV, fun q hq => by rw [hq] at obV; cases obV⟩, by rw [al.findClass]; exact e2, kU, u1, by rw [u2]; exact i3, by rw [u2]; exact e5 i3⟩, ⟨SBG.found_only al ⟨cfV, kV, iV, gV⟩, stV⟩, ⟨SBG.found_only al ⟨cfC, kC, iC, gC⟩, stC⟩, slV, slC, by simp [RoadKit.slotOf, gV], by simp [RoadKit.slotOf, gC]⟩
theorem sta_is {Z U : State} (al : Z.vm.Alike U.vm) {C n d : String} {v : Value} (S : RoadKit.Sta Z U.heap C n d v) : StaticIs U C n d v := by
  obtain ⟨cfS, iS, kS, fS, st, cS, t1, t2, t3, t4, t5, t6, t7⟩ := S
  exact StaticIs.there (s := { Z with heap := U.heap }) ⟨cfS, iS, kS, fS, st, cS, t1, t2, t3, t4, t5, (fun q => by rw [q] at t6; cases t6), t7⟩ al rfl
end StrChars.Road
namespace StrChars
open Jvm Sem ClassFile Op Lib Jvm.Stand Jvm.Free.XT Jvm.Free.ALB Jvm.Free.JM Jvm.Free
open Jvm.Lib.Cold (StaticIs)
/-- what place i of a byte[]'s cell holds -/
def yv (A : Cell) (i : Nat) : Int32 := match A.slots[i]? with | some (.int x) => x | _ => 0
theorem yv_get {a : Addr} {A : Cell} {U : State} (h : XT.Arr .byte a A U) (ht : Typed .byte A) {i : Nat} (hi : i < A.slots.size) : A.slots[i]? = some (.int (yv A i)) := by
  have e := Array.getElem?_eq_getElem hi
  have f := ht i _ e
  unfold yv; rw [e]
  generalize A.slots[i] = v at f
  cases v <;> simp [fits] at f ⊢
/-- the two arrays are equal, place for place -/
def EqC (A B : Cell) : Prop := A.slots.size = B.slots.size ∧ ∀ i, i < A.slots.size → yv A i = yv B i
/-- a boolean that says whether p -/
def Says01 (q : Prop) (r : Option Value) (s u : State) : Prop := ∃ v : Int32, r = some (.int v) ∧ u.heap = s.heap ∧ ((v = 1 ∧ q) ∨ (v = 0 ∧ ¬ q))
theorem Says01.mv {q : Prop} : ∀ r (U U' V V' : State), U'.heap = U.heap → V.vm.Alike V'.vm → V'.heap = V.heap → Says01 q r U V → Says01 q r U' V' :=
  fun r U U' V V' h1 _ h2 ⟨v, a, b, c⟩ => ⟨v, a, by rw [h1, h2]; exact b, c⟩
namespace LEq
def yN : MethodName := ⟨"java/lang/StringLatin1", "equals", "([B[B)Z"⟩
abbrev yB : ByteArray := jdk_43_method_13_code
theorem d0 : decode yB 0 = .ok (.aload_n 0, 1) := by decide +kernel
theorem d1 : decode yB 1 = .ok (.arraylength, 1) := by decide +kernel
theorem d2 : decode yB 2 = .ok (.aload_n 1, 1) := by decide +kernel
theorem d3 : decode yB 3 = .ok (.arraylength, 1) := by decide +kernel
theorem d4 : decode yB 4 = .ok (.if_icmp (.ne) 30, 3) := by decide +kernel
theorem d7 : decode yB 7 = .ok (.iconst 0, 1) := by decide +kernel
theorem d8 : decode yB 8 = .ok (.istore_n 2, 1) := by decide +kernel
theorem d9 : decode yB 9 = .ok (.iload_n 2, 1) := by decide +kernel
theorem d10 : decode yB 10 = .ok (.aload_n 0, 1) := by decide +kernel
theorem d11 : decode yB 11 = .ok (.arraylength, 1) := by decide +kernel
theorem d12 : decode yB 12 = .ok (.if_icmp (.ge) 20, 3) := by decide +kernel
theorem d15 : decode yB 15 = .ok (.aload_n 0, 1) := by decide +kernel
theorem d16 : decode yB 16 = .ok (.iload_n 2, 1) := by decide +kernel
theorem d17 : decode yB 17 = .ok (.baload, 1) := by decide +kernel
theorem d18 : decode yB 18 = .ok (.aload_n 1, 1) := by decide +kernel
theorem d19 : decode yB 19 = .ok (.iload_n 2, 1) := by decide +kernel
theorem d20 : decode yB 20 = .ok (.baload, 1) := by decide +kernel
theorem d21 : decode yB 21 = .ok (.if_icmp (.eq) 5, 3) := by decide +kernel
theorem d24 : decode yB 24 = .ok (.iconst 0, 1) := by decide +kernel
theorem d25 : decode yB 25 = .ok (.ireturn, 1) := by decide +kernel
theorem d26 : decode yB 26 = .ok (.iinc 2 1, 3) := by decide +kernel
theorem d29 : decode yB 29 = .ok (.goto (-20), 3) := by decide +kernel
theorem d32 : decode yB 32 = .ok (.iconst 1, 1) := by decide +kernel
theorem d33 : decode yB 33 = .ok (.ireturn, 1) := by decide +kernel
theorem d34 : decode yB 34 = .ok (.iconst 0, 1) := by decide +kernel
theorem d35 : decode yB 35 = .ok (.ireturn, 1) := by decide +kernel
def site : List Cond := []
def tab : Cond := tabOf yN yB 3 (some .boolean) site
def P (a : Addr) (A : Cell) (b : Addr) (B : Cell) (args : Array Value) (s : State) : Prop := args = #[.ref a, .ref b] ∧ XT.Arr .byte a A s ∧ Typed .byte A ∧ XT.Arr .byte b B s ∧ Typed .byte B
/-- whether two byte[] are equal, place for place -/
theorem law (l : Launch) (a : Addr) (A : Cell) (b : Addr) (B : Cell) : Law l yN 2 2 0 0 yB 3 (some .boolean) site (P a A b B) (Says01 (EqC A B)) [] 0 0 := by
  refine Law.of_walk (plainFor_of_name (by decide +kernel)) (by decide +kernel) (by decide +kernel) (by decide) (fun _ _ h => by rw [h.1]; rfl) (fun _ U U' hal hh h => ⟨h.1, h.2.1.mv hal hh, h.2.2.1, h.2.2.2.1.mv hal hh, h.2.2.2.2⟩) (fun r U U' V V' h1 hal h2 h => Says01.mv r U U' V V' h1 hal h2 h) ?_
  intro p e s m args below meth c s₁ X0 hexec hbytes hml hret hlk hnm hown hh0 W hP
  obtain ⟨rfl, hA, tA, hB, tB⟩ := hP
  have a31 := hA.2.2.2
  have b31 := hB.2.2.2
  have hA0 := hA.mv X0.warmed.alike hh0
  have hB0 := hB.mv X0.warmed.alike hh0
  have c1 : Steps p.tables e below (s₁.setTop (entryFrame m #[.ref a, .ref b] 3)) (s₁.setTop (mkF m 0 #[.val (.ref a), .val (.ref b), .unset] [])) := entry rfl
  have c2 : Steps p.tables e below (s₁.setTop (entryFrame m #[.ref a, .ref b] 3)) (s₁.setTop (mkF m 4 #[.val (.ref a), .val (.ref b), .unset] [.int (Int32.ofNat B.slots.size), .int (Int32.ofNat A.slots.size)])) := c1.trans (by
    refine XS.aloadN X0.here hexec rfl (hb hbytes d0) rfl rfl ?_
    refine X0.alen hexec hA0 rfl rfl (hb hbytes d1) ?_
    refine XS.aloadN X0.here hexec rfl (hb hbytes d2) rfl rfl ?_
    refine X0.alen hexec hB0 rfl rfl (hb hbytes d3) ?_
    exact Steps.refl _)
  by_cases hs : A.slots.size = B.slots.size
  · have c3 : Steps p.tables e below (s₁.setTop (entryFrame m #[.ref a, .ref b] 3)) (s₁.setTop (mkF m 9 #[.val (.ref a), .val (.ref b), .val (.int 0)] [])) := c2.trans (by
      refine XS.icmpNo X0.here hexec rfl (hb hbytes d4) rfl (ii_ne_f (by rw [hs])) ?_
      refine iconstV X0.here hexec rfl 0 (hb hbytes d7) (by decide) ?_
      refine XS.istoreN X0.here hexec rfl (hb hbytes d8) rfl rfl ?_
      exact Steps.refl _)
    have loop : ∀ (r i : Nat), i + r = A.slots.size → (∀ j, j < i → yv A j = yv B j) → Steps p.tables e below (s₁.setTop (entryFrame m #[.ref a, .ref b] 3)) (s₁.setTop (mkF m 9 #[.val (.ref a), .val (.ref b), .val (.int (Int32.ofNat i))] [])) → ∃ (pc : Nat) (Ls : Array Slot) (v : Int32), (pc = 25 ∨ pc = 33) ∧ ((v = 1 ∧ EqC A B) ∨ (v = 0 ∧ ¬ EqC A B)) ∧ Steps p.tables e below (s₁.setTop (entryFrame m #[.ref a, .ref b] 3)) (s₁.setTop (mkF m pc Ls [.int v])) := by
      intro r
      induction r with
      | zero =>
        intro i hi he cl
        exact ⟨33, _, 1, Or.inr rfl, Or.inl ⟨rfl, hs, fun j hj => he j (by omega)⟩, cl.trans (by
          refine XS.iloadN X0.here hexec rfl (hb hbytes d9) rfl ?_
          refine XS.aloadN X0.here hexec rfl (hb hbytes d10) rfl rfl ?_
          refine X0.alen hexec hA0 rfl rfl (hb hbytes d11) ?_
          refine XS.icmpYes X0.here hexec rfl (pc0 := 12) rfl (hb hbytes d12) rfl (ii_ge_t (nlt32 (by omega) (by omega))) (by decide) rfl ?_
          refine iconstV X0.here hexec rfl 1 (hb hbytes d32) (by decide) ?_
          exact Steps.refl _)⟩
      | succ r ih =>
        intro i hi he cl
        have c4 : Steps p.tables e below (s₁.setTop (entryFrame m #[.ref a, .ref b] 3)) (s₁.setTop (mkF m 21 #[.val (.ref a), .val (.ref b), .val (.int (Int32.ofNat i))] [.int (yv B i), .int (yv A i)])) := cl.trans (by
          refine XS.iloadN X0.here hexec rfl (hb hbytes d9) rfl ?_
          refine XS.aloadN X0.here hexec rfl (hb hbytes d10) rfl rfl ?_
          refine X0.alen hexec hA0 rfl rfl (hb hbytes d11) ?_
          refine XS.icmpNo X0.here hexec rfl (hb hbytes d12) rfl (ii_ge_f (lt32 (by omega) (by omega))) ?_
          refine XS.aloadN X0.here hexec rfl (hb hbytes d15) rfl rfl ?_
          refine XS.iloadN X0.here hexec rfl (hb hbytes d16) rfl ?_
          refine X0.aget hexec hA0 rfl (yv_get hA tA (i := i) (by omega)) rfl rfl (hb hbytes d17) ?_
          refine XS.aloadN X0.here hexec rfl (hb hbytes d18) rfl rfl ?_
          refine XS.iloadN X0.here hexec rfl (hb hbytes d19) rfl ?_
          refine X0.aget hexec hB0 rfl (yv_get hB tB (i := i) (by omega)) rfl rfl (hb hbytes d20) ?_
          exact Steps.refl _)
        by_cases hv : yv A i = yv B i
        · have c5 : Steps p.tables e below (s₁.setTop (entryFrame m #[.ref a, .ref b] 3)) (s₁.setTop (mkF m 9 #[.val (.ref a), .val (.ref b), .val (.int (Int32.ofNat i + 1))] [])) := c4.trans (by
            refine XS.icmpYes X0.here hexec rfl (pc0 := 21) rfl (hb hbytes d21) rfl (ii_eq_t hv) (by decide) rfl ?_
            refine iincV X0.here hexec rfl 1 (hb hbytes d26) (by decide) rfl rfl ?_
            refine XS.goto X0.here hexec rfl (pc0 := 29) rfl (hb hbytes d29) (by decide) rfl ?_
            exact Steps.refl _)
          rw [succ32] at c5
          exact ih (i + 1) (by omega) (fun j hj => by
            by_cases e : j = i
            · rw [e]; exact hv
            · exact he j (by omega)) c5
        · exact ⟨25, _, 0, Or.inl rfl, Or.inr ⟨rfl, fun q => hv (q.2 i (by omega))⟩, c4.trans (by
            refine XS.icmpNo X0.here hexec rfl (hb hbytes d21) rfl (ii_eq_f hv) ?_
            refine iconstV X0.here hexec rfl 0 (hb hbytes d24) (by decide) ?_
            exact Steps.refl _)⟩
    obtain ⟨pc, Ls, v, hpc, hv, cz⟩ := loop A.slots.size 0 (by omega) (fun j hj => absurd hj (Nat.not_lt_zero j)) c3
    have nv : narrow .boolean (.int v) = .int v := by rcases hv with ⟨rfl, -⟩ | ⟨rfl, -⟩ <;> rfl
    rcases hpc with rfl | rfl
    · exact ⟨s₁, some (.int v), _, _, _, X0, rfl, rfl, rfl, (fun h => by cases h), ⟨v, rfl, hh0, hv⟩, fun fs hl => cz.trans (X0.ireturnOut hexec hret nv (Or.inr (Or.inl rfl)) (hb hbytes d25) hl)⟩
    · exact ⟨s₁, some (.int v), _, _, _, X0, rfl, rfl, rfl, (fun h => by cases h), ⟨v, rfl, hh0, hv⟩, fun fs hl => cz.trans (X0.ireturnOut hexec hret nv (Or.inr (Or.inl rfl)) (hb hbytes d33) hl)⟩
  · have c3 : Steps p.tables e below (s₁.setTop (entryFrame m #[.ref a, .ref b] 3)) (s₁.setTop (mkF m 35 #[.val (.ref a), .val (.ref b), .unset] [.int 0])) := c2.trans (by
      refine XS.icmpYes X0.here hexec rfl (pc0 := 4) rfl (hb hbytes d4) rfl (ii_ne_t (ne32 a31 b31 hs)) (by decide) rfl ?_
      refine iconstV X0.here hexec rfl 0 (hb hbytes d34) (by decide) ?_
      exact Steps.refl _)
    exact ⟨s₁, some (.int 0), _, _, _, X0, rfl, rfl, rfl, (fun h => by cases h), ⟨0, rfl, hh0, Or.inr ⟨rfl, fun q => hs q.1⟩⟩, fun fs hl => c3.trans (X0.ireturnOut hexec hret rfl (Or.inr (Or.inl rfl)) (hb hbytes d35) hl)⟩
end LEq
theorem Cod.ty {cd : Int32} {n : Nat} {f : Nat → Int32} {V : Cell} (h : Cod cd n f V) : Typed .byte V := fun i v hv => by
  have hi : i < V.slots.size := (Array.getElem?_eq_some_iff.mp hv).1
  rcases h with ⟨-, k1, k2⟩ | ⟨-, k1, k2, -⟩
  · rw [(k2 i (by omega)).1] at hv; cases hv; exact fits_lo8 _
  · rcases Nat.mod_two_eq_zero_or_one i with e | e
    · obtain ⟨j, rfl⟩ : ∃ j, i = 2 * j := ⟨i / 2, by omega⟩
      rw [(k2 j (by omega)).1] at hv; cases hv; exact fits_lo8 _
    · obtain ⟨j, rfl⟩ : ∃ j, i = 2 * j + 1 := ⟨i / 2, by omega⟩
      rw [(k2 j (by omega)).2] at hv; cases hv; exact fits_lo8 _
/-- the same text -/
def SameT (n : Nat) (f : Nat → Int32) (k : Nat) (g : Nat → Int32) : Prop := n = k ∧ ∀ j, j < n → f j = g j
theorem lo8_inj {x y : Int32} (h0 : ¬ x < 0) (h1 : ¬ 255 < x) (k0 : ¬ y < 0) (k1 : ¬ 255 < y) (h : lo8 x = lo8 y) : x = y := by
  rw [← lo8_mask h0 h1, ← lo8_mask k0 k1, h]
/-- arrays coded by one coder are equal just where the texts are -/
theorem Cod.eqv {cd : Int32} {n k : Nat} {f g : Nat → Int32} {V V' : Cell} (h : Cod cd n f V) (h' : Cod cd k g V') (hf : ∀ j, j < n → ¬ f j < 0 ∧ ¬ 65535 < f j) (hg : ∀ j, j < k → ¬ g j < 0 ∧ ¬ 65535 < g j) : EqC V V' ↔ SameT n f k g := by
  have yvv : ∀ {W : Cell} {i : Nat} {x : Int32}, W.slots[i]? = some (.int x) → yv W i = x := fun q => by unfold yv; rw [q]
  rcases h with ⟨rfl, k1, k2⟩ | ⟨rfl, k1, k2, -⟩
  · rcases h' with ⟨-, m1, m2⟩ | ⟨e, -⟩
    · constructor
      · rintro ⟨e1, e2⟩
        refine ⟨by omega, fun j hj => ?_⟩
        have q := e2 j (by omega)
        rw [yvv (k2 j hj).1, yvv (m2 j (by omega)).1] at q
        exact lo8_inj (hf j hj).1 (k2 j hj).2 (hg j (by omega)).1 (m2 j (by omega)).2 q
      · rintro ⟨rfl, e2⟩
        refine ⟨by omega, fun j hj => ?_⟩
        rw [yvv (k2 j (by omega)).1, yvv (m2 j (by omega)).1, e2 j (by omega)]
    · exact absurd e (by decide)
  · rcases h' with ⟨e, -⟩ | ⟨-, m1, m2, -⟩
    · exact absurd e (by decide)
    · constructor
      · rintro ⟨e1, e2⟩
        refine ⟨by omega, fun j hj => ?_⟩
        have q1 := e2 (2 * j) (by omega)
        have q2 := e2 (2 * j + 1) (by omega)
        rw [yvv (k2 j hj).1, yvv (m2 j (by omega)).1] at q1
        rw [yvv (k2 j hj).2, yvv (m2 j (by omega)).2] at q2
        rw [← pair_says (hf j hj).1 (hf j hj).2, ← pair_says (hg j (by omega)).1 (hg j (by omega)).2, q1, q2]
      · rintro ⟨rfl, e2⟩
        refine ⟨by omega, fun i hi => ?_⟩
        rcases Nat.mod_two_eq_zero_or_one i with e | e
        · obtain ⟨j, rfl⟩ : ∃ j, i = 2 * j := ⟨i / 2, by omega⟩
          rw [yvv (k2 j (by omega)).1, yvv (m2 j (by omega)).1, e2 j (by omega)]
        · obtain ⟨j, rfl⟩ : ∃ j, i = 2 * j + 1 := ⟨i / 2, by omega⟩
          rw [yvv (k2 j (by omega)).2, yvv (m2 j (by omega)).2, e2 j (by omega)]
/-- two codings differ: so do the texts -/
theorem Cod.dif {cd cd' : Int32} {n k : Nat} {f g : Nat → Int32} {V V' : Cell} (h : Cod cd n f V) (h' : Cod cd' k g V') (hne : ¬ cd = cd') : ¬ SameT n f k g := by
  rintro ⟨rfl, e⟩
  rcases h with ⟨rfl, -, k2⟩ | ⟨rfl, -, -, j, hj, hw⟩
  · rcases h' with ⟨rfl, -⟩ | ⟨-, -, -, j, hj, hw⟩
    · exact hne rfl
    · exact (k2 j hj).2 (by rw [e j hj]; exact hw)
  · rcases h' with ⟨-, -, m2⟩ | ⟨rfl, -⟩
    · exact (m2 j hj).2 (by rw [← e j hj]; exact hw)
    · exact hne rfl
/-- an object of exactly C is an instance of C -/
theorem cinst {p : Program} {l : Launch} {e : Env} {R : Room} {s : State} {m : MethodId} {args : Array Value} {below : List Frame} {meth : Method} {c : Code} {T : State} {locs : List Loc} {cells slots : Nat} (X : Stand p l e R s m args below meth c T locs cells slots) (hexec : p.tables.exec = Jvm.exec) {own C : String} {index : Nat} (hown : s.vm.findClass own = some m.cls) (hlink : (Cond.classLink own index C).before args s = true) {a : Addr} (hE : Exact C a T)
    {g : JFrame} (hg : g.method = m) {rest : List Value} (hstack : g.stack = .ref a :: rest) (hdg : decode c.code g.pc = .ok (.instanceof index, 3)) :
    ∃ T', Stand p l e R s m args below meth c T' locs cells slots ∧ T'.heap = T.heap ∧ ∀ target, Steps p.tables e below (T'.setTop { g with pc := g.pc + 3, stack := .int 1 :: rest }) target → Steps p.tables e below (T.setTop g) target := by
  obtain ⟨cB, h1, D, h2, h3, h4⟩ := hE
  have h1' : s.vm.findClass C = some cB := by rw [← X.warmed.alike.findClass]; exact h1
  obtain ⟨vm', X', st⟩ := X.instanceofYes hexec hown hlink h2 h4 h1' (by rw [h3]; exact Jvm.Free.SB.assignable_self _ _) hg hstack hdg
  exact ⟨_, X', rfl, st⟩
theorem cself {p : Program} {l : Launch} {e : Env} {R : Room} {s : State} {m : MethodId} {args : Array Value} {below : List Frame} {meth : Method} {c : Code} {T : State} {locs : List Loc} {cells slots : Nat} (X : Stand p l e R s m args below meth c T locs cells slots) (hexec : p.tables.exec = Jvm.exec) {own C : String} {index : Nat} (hown : s.vm.findClass own = some m.cls) (hlink : (Cond.classLink own index C).before args s = true) {a : Addr} (hE : Exact C a T)
    {g : JFrame} (hg : g.method = m) {rest : List Value} (hstack : g.stack = .ref a :: rest) (hdg : decode c.code g.pc = .ok (.checkcast index, 3)) :
    ∃ T', Stand p l e R s m args below meth c T' locs cells slots ∧ T'.heap = T.heap ∧ ∀ target, Steps p.tables e below (T'.setTop { g with pc := g.pc + 3, stack := .ref a :: rest }) target → Steps p.tables e below (T.setTop g) target := by
  obtain ⟨cB, h1, D, h2, h3, h4⟩ := hE
  have h1' : s.vm.findClass C = some cB := by rw [← X.warmed.alike.findClass]; exact h1
  obtain ⟨vm', X', st⟩ := X.checkcastYes hexec hown hlink h2 h4 h1' (by rw [h3]; exact Jvm.Free.SB.assignable_self _ _) hg hstack hdg
  exact ⟨_, X', rfl, fun t h => st t (by rw [← hstack] at h; exact h)⟩
namespace SEq
def yN : MethodName := ⟨"java/lang/String", "equals", "(Ljava/lang/Object;)Z"⟩
abbrev yB : ByteArray := jdk_42_method_66_code
theorem d0 : decode yB 0 = .ok (.aload_n 0, 1) := by decide +kernel
theorem d1 : decode yB 1 = .ok (.aload_n 1, 1) := by decide +kernel
theorem d2 : decode yB 2 = .ok (.if_acmp (.ne) 5, 3) := by decide +kernel
theorem d5 : decode yB 5 = .ok (.iconst 1, 1) := by decide +kernel
theorem d6 : decode yB 6 = .ok (.ireturn, 1) := by decide +kernel
theorem d7 : decode yB 7 = .ok (.aload_n 1, 1) := by decide +kernel
theorem d8 : decode yB 8 = .ok (.instanceof 10, 3) := by decide +kernel
theorem d11 : decode yB 11 = .ok (.ifCond (.eq) 43, 3) := by decide +kernel
theorem d14 : decode yB 14 = .ok (.aload_n 1, 1) := by decide +kernel
theorem d15 : decode yB 15 = .ok (.checkcast 10, 3) := by decide +kernel
theorem d18 : decode yB 18 = .ok (.astore_n 2, 1) := by decide +kernel
theorem d19 : decode yB 19 = .ok (.getstatic 38, 3) := by decide +kernel
theorem d22 : decode yB 22 = .ok (.ifCond (.eq) 14, 3) := by decide +kernel
theorem d25 : decode yB 25 = .ok (.aload_n 0, 1) := by decide +kernel
theorem d26 : decode yB 26 = .ok (.getfield 15, 3) := by decide +kernel
theorem d29 : decode yB 29 = .ok (.aload_n 2, 1) := by decide +kernel
theorem d30 : decode yB 30 = .ok (.getfield 15, 3) := by decide +kernel
theorem d33 : decode yB 33 = .ok (.if_icmp (.ne) 21, 3) := by decide +kernel
theorem d36 : decode yB 36 = .ok (.aload_n 0, 1) := by decide +kernel
theorem d37 : decode yB 37 = .ok (.getfield 9, 3) := by decide +kernel
theorem d40 : decode yB 40 = .ok (.aload_n 2, 1) := by decide +kernel
theorem d41 : decode yB 41 = .ok (.getfield 9, 3) := by decide +kernel
theorem d44 : decode yB 44 = .ok (.invokestatic 541, 3) := by decide +kernel
theorem d47 : decode yB 47 = .ok (.ifCond (.eq) 7, 3) := by decide +kernel
theorem d50 : decode yB 50 = .ok (.iconst 1, 1) := by decide +kernel
theorem d51 : decode yB 51 = .ok (.goto 4, 3) := by decide +kernel
theorem d54 : decode yB 54 = .ok (.iconst 0, 1) := by decide +kernel
theorem d55 : decode yB 55 = .ok (.ireturn, 1) := by decide +kernel
def site : List Cond := [.classLink "java/lang/String" 10 "java/lang/String", .fieldLink "java/lang/String" 38 "java/lang/String" "COMPACT_STRINGS" "Z", .fieldLink "java/lang/String" 15 "java/lang/String" "coder" "B", .fieldLink "java/lang/String" 9 "java/lang/String" "value" "[B", LEq.tab] ++ staticW "java/lang/String" 541 LEq.yN
def tab : Cond := tabOf yN yB 3 (some .boolean) site
def P (x t : Addr) (V : Cell) (cd : Int32) (n : Nat) (f : Nat → Int32) (y t' : Addr) (V' : Cell) (cd' : Int32) (k : Nat) (g : Nat → Int32) (z : Int32) (args : Array Value) (s : State) : Prop := args = #[.ref x, .ref y] ∧ Txt x t V cd n f s ∧ Txt y t' V' cd' k g s ∧ StaticIs s "java/lang/String" "COMPACT_STRINGS" "Z" (.int z) ∧ ¬ z = 0
/-- equals(Object) of two Strings: whether the texts are the same -/
theorem law (l : Launch) (x t : Addr) (V : Cell) (cd : Int32) (n : Nat) (f : Nat → Int32) (y t' : Addr) (V' : Cell) (cd' : Int32) (k : Nat) (g : Nat → Int32) (z : Int32) : Law l yN 2 1 1 14 yB 3 (some .boolean) site (P x t V cd n f y t' V' cd' k g z) (Says01 (SameT n f k g)) [] 0 0 := by
  refine Law.of_walk (plainFor_of_name (by decide +kernel)) (by decide +kernel) (by decide +kernel) (by decide) (fun _ _ h => by rw [h.1]; rfl) (fun _ U U' hal hh h => ⟨h.1, h.2.1.mv hal hh, h.2.2.1.mv hal hh, h.2.2.2.1.there hal hh, h.2.2.2.2⟩) (fun r U U' V V' h1 hal h2 h => Says01.mv r U U' V V' h1 hal h2 h) ?_
  intro p e s m args below meth c s₁ X0 hexec hbytes hml hret hlk hnm hown hh0 W hP
  obtain ⟨rfl, hx, hy, s1, hz⟩ := hP
  have c1 : Steps p.tables e below (s₁.setTop (entryFrame m #[.ref x, .ref y] 3)) (s₁.setTop (mkF m 2 #[.val (.ref x), .val (.ref y), .unset] [.ref y, .ref x])) := Steps.trans (entry rfl) (by
    show Steps p.tables e below (s₁.setTop (mkF m 0 #[.val (.ref x), .val (.ref y), .unset] [])) _
    refine XS.aloadN X0.here hexec rfl (hb hbytes d0) rfl rfl ?_
    refine XS.aloadN X0.here hexec rfl (hb hbytes d1) rfl rfl ?_
    exact Steps.refl _)
  by_cases hxy : x = y
  · have c2 : Steps p.tables e below (s₁.setTop (entryFrame m #[.ref x, .ref y] 3)) (s₁.setTop (mkF m 6 #[.val (.ref x), .val (.ref y), .unset] [.int 1])) := c1.trans (by
      refine acmpNo X0.here hexec rfl (hb hbytes d2) rfl rfl rfl (by simp [acmp, hxy]) ?_
      refine iconstV X0.here hexec rfl 1 (hb hbytes d5) (by decide) ?_
      exact Steps.refl _)
    subst hxy
    have ec : cd = cd' := by
      obtain ⟨D, fd, a1, a2, a3⟩ := hx.2.2.1
      obtain ⟨D', fd', b1, b2, b3⟩ := hy.2.2.1
      cases a1.symm.trans b1
      obtain ⟨q1, q2, q3, q4⟩ := a2.1
      obtain ⟨r1, r2, r3, r4⟩ := b2.1
      cases q4.symm.trans r4
      cases a3.symm.trans b3; rfl
    have et : t = t' := by
      obtain ⟨D, fd, a1, a2, a3⟩ := hx.2.1
      obtain ⟨D', fd', b1, b2, b3⟩ := hy.2.1
      cases a1.symm.trans b1
      obtain ⟨q1, q2, q3, q4⟩ := a2.1
      obtain ⟨r1, r2, r3, r4⟩ := b2.1
      cases q4.symm.trans r4
      cases a3.symm.trans b3; rfl
    subst ec et
    have ev : V = V' := by cases hx.2.2.2.1.1.symm.trans hy.2.2.2.1.1; rfl
    subst ev
    have hs : SameT n f k g := (Cod.eqv hx.2.2.2.2.1 hy.2.2.2.2.1 hx.2.2.2.2.2 hy.2.2.2.2.2).mp ⟨rfl, fun _ _ => rfl⟩
    exact ⟨s₁, some (.int 1), _, _, _, X0, rfl, rfl, rfl, (fun h => by cases h), ⟨1, rfl, hh0, Or.inl ⟨rfl, hs⟩⟩, fun fs hl => c2.trans (X0.ireturnOut hexec hret rfl (Or.inr (Or.inl rfl)) (hb hbytes d6) hl)⟩
  · have c2 : Steps p.tables e below (s₁.setTop (entryFrame m #[.ref x, .ref y] 3)) (s₁.setTop (mkF m 8 #[.val (.ref x), .val (.ref y), .unset] [.ref y])) := c1.trans (by
      refine acmpYes X0.here hexec rfl (pc0 := 2) rfl (hb hbytes d2) rfl rfl rfl (by simp [acmp, hxy]) (by decide) rfl ?_
      refine XS.aloadN X0.here hexec rfl (hb hbytes d7) rfl rfl ?_
      exact Steps.refl _)
    obtain ⟨T3, X3, q3, st3⟩ := cinst X0 hexec hown (wk W (.classLink "java/lang/String" 10 "java/lang/String")) (hy.mv X0.warmed.alike hh0).1 (g := (mkF m 8 #[.val (.ref x), .val (.ref y), .unset] [.ref y])) rfl (rest := []) rfl (hb hbytes d8)
    have hh3 := q3.trans hh0
    have c4 : Steps p.tables e below (s₁.setTop (entryFrame m #[.ref x, .ref y] 3)) (T3.setTop (mkF m 15 #[.val (.ref x), .val (.ref y), .unset] [.ref y])) := (c2.trans (st3 _ (Steps.refl _))).trans (by
      refine XS.ifNo X3.here hexec rfl (hb hbytes d11) rfl (i0_eq_f (by decide)) ?_
      refine XS.aloadN X3.here hexec rfl (hb hbytes d14) rfl rfl ?_
      exact Steps.refl _)
    obtain ⟨T5, X5, q5, st5⟩ := cself X3 hexec hown (wk W (.classLink "java/lang/String" 10 "java/lang/String")) (hy.mv X3.warmed.alike hh3).1 (g := (mkF m 15 #[.val (.ref x), .val (.ref y), .unset] [.ref y])) rfl (rest := []) rfl (hb hbytes d15)
    have hh5 := q5.trans hh3
    have c6 : Steps p.tables e below (s₁.setTop (entryFrame m #[.ref x, .ref y] 3)) (T5.setTop (mkF m 19 #[.val (.ref x), .val (.ref y), .val (.ref y)] [])) := (c4.trans (st5 _ (Steps.refl _))).trans (by
      refine XS.astoreN X5.here hexec rfl (hb hbytes d18) rfl rfl rfl ?_
      exact Steps.refl _)
    obtain ⟨T7, X7, q7, st7⟩ := X5.sget hexec hown (wk W (.fieldLink "java/lang/String" 38 "java/lang/String" "COMPACT_STRINGS" "Z")) s1 (fun _ _ h => by rw [hh5]; exact h) (g := (mkF m 19 #[.val (.ref x), .val (.ref y), .val (.ref y)] [])) rfl (hb hbytes d19)
    have hh7 := q7.trans hh5
    have c8 : Steps p.tables e below (s₁.setTop (entryFrame m #[.ref x, .ref y] 3)) (T7.setTop (mkF m 26 #[.val (.ref x), .val (.ref y), .val (.ref y)] [.ref x])) := (c6.trans (st7 _ (Steps.refl _))).trans (by
      refine XS.ifNo X7.here hexec rfl (hb hbytes d22) rfl (i0_eq_f hz) ?_
      refine XS.aloadN X7.here hexec rfl (hb hbytes d25) rfl rfl ?_
      exact Steps.refl _)
    obtain ⟨T9, X9, q9, st9⟩ := X7.hget hexec hown (wk W (.fieldLink "java/lang/String" 15 "java/lang/String" "coder" "B")) (hx.mv X7.warmed.alike hh7).2.2.1 (g := (mkF m 26 #[.val (.ref x), .val (.ref y), .val (.ref y)] [.ref x])) rfl (rest := []) rfl (hb hbytes d26)
    have hh9 := q9.trans hh7
    have c10 : Steps p.tables e below (s₁.setTop (entryFrame m #[.ref x, .ref y] 3)) (T9.setTop (mkF m 30 #[.val (.ref x), .val (.ref y), .val (.ref y)] [.ref y, .int cd])) := (c8.trans (st9 _ (Steps.refl _))).trans (by
      refine XS.aloadN X9.here hexec rfl (hb hbytes d29) rfl rfl ?_
      exact Steps.refl _)
    obtain ⟨T11, X11, q11, st11⟩ := X9.hget hexec hown (wk W (.fieldLink "java/lang/String" 15 "java/lang/String" "coder" "B")) (hy.mv X9.warmed.alike hh9).2.2.1 (g := (mkF m 30 #[.val (.ref x), .val (.ref y), .val (.ref y)] [.ref y, .int cd])) rfl (rest := [.int cd]) rfl (hb hbytes d30)
    have hh11 := q11.trans hh9
    have c12 : Steps p.tables e below (s₁.setTop (entryFrame m #[.ref x, .ref y] 3)) (T11.setTop (mkF m 33 #[.val (.ref x), .val (.ref y), .val (.ref y)] [.int cd', .int cd])) := c10.trans (st11 _ (Steps.refl _))
    by_cases hcd : cd = cd'
    · subst hcd
      have c13 : Steps p.tables e below (s₁.setTop (entryFrame m #[.ref x, .ref y] 3)) (T11.setTop (mkF m 37 #[.val (.ref x), .val (.ref y), .val (.ref y)] [.ref x])) := c12.trans (by
        refine XS.icmpNo X11.here hexec rfl (hb hbytes d33) rfl (ii_ne_f rfl) ?_
        refine XS.aloadN X11.here hexec rfl (hb hbytes d36) rfl rfl ?_
        exact Steps.refl _)
      obtain ⟨T14, X14, q14, st14⟩ := X11.hget hexec hown (wk W (.fieldLink "java/lang/String" 9 "java/lang/String" "value" "[B")) (hx.mv X11.warmed.alike hh11).2.1 (g := (mkF m 37 #[.val (.ref x), .val (.ref y), .val (.ref y)] [.ref x])) rfl (rest := []) rfl (hb hbytes d37)
      have hh14 := q14.trans hh11
      have c15 : Steps p.tables e below (s₁.setTop (entryFrame m #[.ref x, .ref y] 3)) (T14.setTop (mkF m 41 #[.val (.ref x), .val (.ref y), .val (.ref y)] [.ref y, .ref t])) := (c13.trans (st14 _ (Steps.refl _))).trans (by
        refine XS.aloadN X14.here hexec rfl (hb hbytes d40) rfl rfl ?_
        exact Steps.refl _)
      obtain ⟨T16, X16, q16, st16⟩ := X14.hget hexec hown (wk W (.fieldLink "java/lang/String" 9 "java/lang/String" "value" "[B")) (hy.mv X14.warmed.alike hh14).2.1 (g := (mkF m 41 #[.val (.ref x), .val (.ref y), .val (.ref y)] [.ref y, .ref t])) rfl (rest := [.ref t]) rfl (hb hbytes d41)
      have hh16 := q16.trans hh14
      have c17 : Steps p.tables e below (s₁.setTop (entryFrame m #[.ref x, .ref y] 3)) (T16.setTop (mkF m 44 #[.val (.ref x), .val (.ref y), .val (.ref y)] [.ref t', .ref t])) := c15.trans (st16 _ (Steps.refl _))
      obtain ⟨v18, T18, X18, E18, g18⟩ := X16.callS hexec (LEq.law l t V t' V') hown (wks W (staticW "java/lang/String" 541 LEq.yN)) (wk W LEq.tab) (W := 0) (Nat.le_of_ble_eq_true rfl) (Nat.le_of_ble_eq_true rfl) (Nat.le_refl _) (Nat.le_refl _) (g := (mkF m 44 #[.val (.ref x), .val (.ref y), .val (.ref y)] [.ref t', .ref t])) rfl (by rw [hml]; rfl) c17 (argsL := [.ref t, .ref t']) (rest := []) rfl rfl (by show 2 * 0 + 0 ≤ _; decide) (hb hbytes d44) (⟨rfl, hx.2.2.2.1.mv X16.warmed.alike hh16, hx.2.2.2.2.1.ty, hy.2.2.2.1.mv X16.warmed.alike hh16, hy.2.2.2.2.1.ty⟩)
      obtain ⟨v, rfl, q18, hv⟩ := E18
      have iff := Cod.eqv hx.2.2.2.2.1 hy.2.2.2.2.1 hx.2.2.2.2.2 hy.2.2.2.2.2
      rcases hv with ⟨rfl, he⟩ | ⟨rfl, he⟩
      · have c19 : Steps p.tables e below (s₁.setTop (entryFrame m #[.ref x, .ref y] 3)) (T18.setTop (mkF m 55 #[.val (.ref x), .val (.ref y), .val (.ref y)] [.int 1])) := Steps.trans g18 (by
          refine XS.ifNo X18.here hexec rfl (hb hbytes d47) rfl (i0_eq_f (by decide)) ?_
          refine iconstV X18.here hexec rfl 1 (hb hbytes d50) (by decide) ?_
          refine XS.goto X18.here hexec rfl (pc0 := 51) rfl (hb hbytes d51) (by decide) rfl ?_
          exact Steps.refl _)
        exact ⟨T18, some (.int 1), _, _, _, X18, rfl, rfl, rfl, (fun h => by cases h), ⟨1, rfl, q18.trans hh16, Or.inl ⟨rfl, iff.mp he⟩⟩, fun fs hl => c19.trans (X18.ireturnOut hexec hret rfl (Or.inr (Or.inl rfl)) (hb hbytes d55) hl)⟩
      · have c19 : Steps p.tables e below (s₁.setTop (entryFrame m #[.ref x, .ref y] 3)) (T18.setTop (mkF m 55 #[.val (.ref x), .val (.ref y), .val (.ref y)] [.int 0])) := Steps.trans g18 (by
          refine XS.ifYes X18.here hexec rfl (pc0 := 47) rfl (hb hbytes d47) rfl (i0_eq_t rfl) (by decide) rfl ?_
          refine iconstV X18.here hexec rfl 0 (hb hbytes d54) (by decide) ?_
          exact Steps.refl _)
        exact ⟨T18, some (.int 0), _, _, _, X18, rfl, rfl, rfl, (fun h => by cases h), ⟨0, rfl, q18.trans hh16, Or.inr ⟨rfl, fun q => he (iff.mpr q)⟩⟩, fun fs hl => c19.trans (X18.ireturnOut hexec hret rfl (Or.inr (Or.inl rfl)) (hb hbytes d55) hl)⟩
    · have c13 : Steps p.tables e below (s₁.setTop (entryFrame m #[.ref x, .ref y] 3)) (T11.setTop (mkF m 55 #[.val (.ref x), .val (.ref y), .val (.ref y)] [.int 0])) := c12.trans (by
        refine XS.icmpYes X11.here hexec rfl (pc0 := 33) rfl (hb hbytes d33) rfl (ii_ne_t hcd) (by decide) rfl ?_
        refine iconstV X11.here hexec rfl 0 (hb hbytes d54) (by decide) ?_
        exact Steps.refl _)
      exact ⟨T11, some (.int 0), _, _, _, X11, rfl, rfl, rfl, (fun h => by cases h), ⟨0, rfl, hh11, Or.inr ⟨rfl, Cod.dif hx.2.2.2.2.1 hy.2.2.2.2.1 hcd⟩⟩, fun fs hl => c13.trans (X11.ireturnOut hexec hret rfl (Or.inr (Or.inl rfl)) (hb hbytes d55) hl)⟩
theorem pays {l : Launch} {R : Room} {p : Program} {e : Env} {below : List Frame} {s : State} {sargs : Array Value} {len W : Nat} (x t : Addr) (V : Cell) (cd : Int32) (n : Nat) (f : Nat → Int32) (y t' : Addr) (V' : Cell) (cd' : Int32) (k : Nat) (g : Nat → Int32) (z : Int32) (htab : tab.before sargs s = true) (hfr : 2 ≤ R.frames) (hlo : W + 28 ≤ R.locals) :
    Back l R p e below s sargs yN len W (fun A₁ a₁ => A₁.cells + 0 ≤ R.cells ∧ A₁.slots + 0 ≤ R.slots ∧ P x t V cd n f y t' V' cd' k g z a₁ A₁.U) (fun A₁ _ v₁ B₁ => Says01 (SameT n f k g) v₁ A₁.U B₁.U ∧ B₁.locs = A₁.locs ++ [] ∧ B₁.cells = A₁.cells + 0 ∧ B₁.slots = A₁.slots + 0) :=
  (law l x t V cd n f y t' V' cd' k g z).pays htab hfr (by omega)
end SEq
end StrChars
namespace StrChars.Road
open Jvm Sem ClassFile Op Lib Jvm.Stand Jvm.Free Jvm.Free.XT
open Jvm.Lib.Cold (StaticIs)
/-- the words of String.equals(Object) -/
abbrev wordsEq : List Jvm.Cond := [.code SEq.yN SEq.yB 3 (some .boolean), .initialized ST, .classLink ST 10 ST, .fieldLink ST 38 ST "COMPACT_STRINGS" "Z", .fieldLink ST 15 ST "coder" "B", .fieldLink ST 9 ST "value" "[B", .methodLink ST 541 LEq.yN, .static LEq.yN, .code LEq.yN LEq.yB 3 (some .boolean), .initialized "java/lang/StringLatin1"]
theorem tabEq_of {a : Array Value} {s : State} (h : ∀ w ∈ wordsEq, w.before a s = true) : SEq.tab.before a s = true := by
  have hl : LEq.tab.before a s = true := unparts (wk h (.code LEq.yN LEq.yB 3 (some .boolean))) (wks h (.initialized LEq.yN.cls :: LEq.site))
  have q := consq hl h
  exact unparts (wk q (.code SEq.yN SEq.yB 3 (some .boolean))) (wks q (.initialized SEq.yN.cls :: SEq.site))
theorem movedEq {Z s : State} {a0 args : Array Value} (hZ : Z.Warmed39 s.vm) (hw : ∀ d ∈ wordsEq, d.before a0 Z = true) : ∀ d ∈ wordsEq, d.before args s = true := fun d hd => by
  have t : ∀ d ∈ wordsEq, (d.onTables && d.keepsFace) = true := by decide +kernel
  exact RoadKit.mv hZ (hw d hd) (t d hd)
/-- the road's facts of a String, as the laws ask it -/
theorem txt_of {Z U : State} {a0 : Array Value} {kI : Nat} (wi : (Jvm.Cond.instantiable ST kI).before a0 Z = true) (al : Z.vm.Alike U.vm) {x t : Addr} {kb : ClassId} {cs : List Int32} {cd N2 : Int32} {vs : List Value} (E : RoadKit.Exa Z U.heap x ST) (V : RoadKit.Fld Z U.heap x ST "value" "[B" (.ref t)) (C : RoadKit.Fld Z U.heap x ST "coder" "B" (.int cd)) (K : RoadKit.Arv Z U.heap t kb .byte N2 vs (.int 0)) (hc : CodA cs cd N2 vs) (hb : ∀ c ∈ cs, ¬ c < 0 ∧ ¬ (65535 : Int32) < c) (l2 : cs.length ≤ 4000) :
    ∃ A, Txt x t A cd cs.length (fun j => cs.getD j 0) U := by
  obtain ⟨A, K1, K2, K3, K4, K5, K6⟩ := K
  have hcod := hc.cod (by omega) K3 K5
  obtain ⟨D, fV, fC, hB, F1, F2, g1, g2, -, -⟩ := strObj wi al E V C
  exact ⟨A, ⟨_, hB.2.2.1, D, hB.1, rfl, by cases q : D.vm <;> first | rfl | exact absurd q (hB.2.1.2 _)⟩, Has.of hB F1 g1, Has.of hB F2 g2, ⟨K1.1, State.isArrayOf_alike al K1.2.1, K1.2.2, by rcases hcod with ⟨-, q, -⟩ | ⟨-, q, -⟩ <;> omega⟩, hcod, fun j hj => by
    have e : cs.getD j 0 = cs[j] := by simp [List.getD_eq_getElem?_getD, hj]
    show ¬ cs.getD j 0 < 0 ∧ ¬ 65535 < cs.getD j 0
    rw [e]; exact hb _ (List.getElem_mem _)⟩
theorem same_list (cs ds : List Int32) : SameT cs.length (fun j => cs.getD j 0) ds.length (fun j => ds.getD j 0) ↔ cs = ds := by
  constructor
  · rintro ⟨e, q⟩
    refine List.ext_getElem e fun j h1 h2 => ?_
    have := q j h1
    simpa [List.getD_eq_getElem?_getD, h1, h2] using this
  · rintro rfl
    exact ⟨rfl, fun _ _ => rfl⟩
/-- **equals(Object) OF TWO SUCH STRINGS**: 1 just where the chars are the same -/
theorem eqW {p : Program} {l : Launch} {e : Env} {R : Room} {s : State} {args : Array Value} {below : List Frame} {len W : Nat} {Z : State} {a0 : Array Value} {h : Heap} (hZ : Z.Warmed39 s.vm) (hw : ∀ d ∈ wordsEq, d.before a0 Z = true) {kI : Nat} (wi : (Jvm.Cond.instantiable ST kI).before a0 Z = true)
    {x t : Addr} {kb : ClassId} {cs : List Int32} {cd N2 : Int32} {vs : List Value} (E : RoadKit.Exa Z h x ST) (V : RoadKit.Fld Z h x ST "value" "[B" (.ref t)) (C : RoadKit.Fld Z h x ST "coder" "B" (.int cd)) (K : RoadKit.Arv Z h t kb .byte N2 vs (.int 0)) (hc : CodA cs cd N2 vs) (hb : ∀ c ∈ cs, ¬ c < 0 ∧ ¬ (65535 : Int32) < c) (l2 : cs.length ≤ 4000)
    {y t' : Addr} {kb' : ClassId} {ds : List Int32} {cd' N2' : Int32} {vs' : List Value} (E' : RoadKit.Exa Z h y ST) (V' : RoadKit.Fld Z h y ST "value" "[B" (.ref t')) (C' : RoadKit.Fld Z h y ST "coder" "B" (.int cd')) (K' : RoadKit.Arv Z h t' kb' .byte N2' vs' (.int 0)) (hc' : CodA ds cd' N2' vs') (hb' : ∀ c ∈ ds, ¬ c < 0 ∧ ¬ (65535 : Int32) < c) (l2' : ds.length ≤ 4000)
    {z : Int32} (S : RoadKit.Sta Z h ST "COMPACT_STRINGS" "Z" (.int z)) (hz : ¬ z = 0) (hfr : 2 ≤ R.frames) (hlo : W + 28 ≤ R.locals) :
    Back l R p e below s args (⟨"java/lang/String", "equals", "(Ljava/lang/Object;)Z"⟩ : MethodName) len W (fun P a => a = #[.ref x, .ref y] ∧ P.U.heap = h ∧ P.cells + 0 ≤ R.cells ∧ P.slots + 0 ≤ R.slots)
      (fun P _ v B => ∃ L, (((v = some (.int 1) ∧ cs = ds) ∨ (v = some (.int 0) ∧ ¬ cs = ds)) ∧ L = [] ∧ B.U.heap = h) ∧ B.locs = P.locs ++ L ∧ B.cells = P.cells + 0 ∧ B.slots = P.slots + 0) := by
  intro m meth c P g ig mk a X hg hsize hdg hW hn hp'
  obtain ⟨rfl, rfl, r1, r2⟩ := hp'
  have al : Z.vm.Alike P.U.vm := hZ.alike.trans X.warmed.alike
  obtain ⟨A, hx⟩ := txt_of wi al E V C K hc hb l2
  obtain ⟨A', hy⟩ := txt_of wi al E' V' C' K' hc' hb' l2'
  obtain ⟨v, B, X', ⟨⟨w, hv, hh, hq⟩, hl, hk, hs⟩, st⟩ := SEq.pays x t A cd cs.length (fun j => cs.getD j 0) y t' A' cd' ds.length (fun j => ds.getD j 0) z (tabEq_of (movedEq hZ hw)) hfr hlo m meth c P g ig mk _ X hg hsize hdg hW hn ⟨r1, r2, rfl, hx, hy, sta_is al S, hz⟩
  refine ⟨v, B, X', ⟨[], ⟨?_, rfl, hh⟩, hl, hk, hs⟩, st⟩
  rcases hq with ⟨rfl, q⟩ | ⟨rfl, q⟩
  · exact Or.inl ⟨hv, (same_list cs ds).mp q⟩
  · exact Or.inr ⟨hv, fun e => q ((same_list cs ds).mpr e)⟩
end StrChars.Road
namespace StrChars.Road
open Jvm Sem ClassFile Op Lib Jvm.Stand Jvm.Free Jvm.Free.XT
open Jvm.Lib.Cold (StaticIs)
/-- what backV says of its String, as the contracts of this text ask it: cs's low bytes, coder 0 -/
theorem codOf {cs : List Int32} {n : Nat} (hn : cs.length = n) (hb : ∀ c ∈ cs, ¬ 255 < c) : CodA cs 0 (Int32.ofNat n) ((cs.map lo8).map Value.int) := Or.inl ⟨rfl, by rw [hn], by simp [List.map_map, Function.comp_def], hb⟩
end StrChars.Road
end Jvm.Pilot.@@N@@
namespace Jvm.Pilot.@@N@@
open Jvm Jvm.ClassFile Sem Op Lib Jvm.Free Jvm.Stand Jvm.LawKit Jvm.RoadKit Bundle Jvm.Pilot.@@N@@.Jvm.D Jvm.OwnKit
section OwnStr
variable {p : Program} {l : Launch} {e : Env} {R : Room} {s : State} {args : Array Value} {below : List Frame} {Z : State} {a0 : Array Value} {EL : List (String × Nat)} {vm : Vm} {h : Heap} {len W : Nat}
theorem own_up {cs : List Int32} (h : ∀ c ∈ cs, B8 c) : ∀ c ∈ cs, ¬ c < 0 ∧ ¬ (65535 : Int32) < c := fun c hc => ⟨(h c hc).1, fun q => (h c hc).2 (by rw [Int32.lt_iff_toInt_lt] at q ⊢; have e1 : (65535 : Int32).toInt = 65535 := rfl; have e2 : (255 : Int32).toInt = 255 := rfl; omega)⟩
theorem own_payNew {zc : Int32} (hws : ∀ d ∈ StrChars.Road.words, d.before a0 Z = true) (wi : (Jvm.Cond.instantiable "java/lang/String" 4).before a0 Z = true) (Scs : Sta Z Z.heap "java/lang/String" "COMPACT_STRINGS" "Z" (.int zc)) (hzc : ¬ zc = 0) (O : Ext Z.heap h)
    {x b : Addr} {kC : ClassId} {cs : List Int32} {d v0 c0 : Value} {N : Int32} {n : Nat} (gx0 : Z.heap.size ≤ x) (E : Exa Z h x "java/lang/String") (V : Fld Z h x "java/lang/String" "value" "[B" v0) (C : Fld Z h x "java/lang/String" "coder" "B" c0) (K : Arv Z h b kC .char N (cs.map Value.int) d)
    (hn : cs.length = n) (hN : N = Int32.ofNat n) (l0 : 0 < n) (l2 : n ≤ 4000) (hp : ∀ c ∈ cs, B8 c) (Sf : Safe Z EL vm h x) (hfr : 4 ≤ R.frames) (hlo : W + 65 ≤ R.locals) (hZ : Z.Warmed39 vm) (H : CHv Z EL vm h) (hEL : EW Z a0 EL) :
    Pay l R p e below s args Z EL vm h (⟨"java/lang/String", "<init>", "([C)V"⟩ : MethodName) len W #[.ref x, .ref b] 1 n (fun v _ h' => ∃ (t : Addr), v = none ∧ Keep h h' [x] ∧ h.size ≤ t ∧ Str Z h' x t cs) := by
  have hx : x < h.size := E.lt
  refine Pay.of_back (a0 := a0) (Q0 := StrChars.Road.QV Z x N (cs.map fun c => c.toInt8.toInt32) h Z.heap.size) (StrChars.Road.backV (s := s.setVm vm) hZ hws (kI := 4) wi (cs := cs) (bs := cs.map fun c => c.toInt8.toInt32) (n := n) gx0 O.1 E V C K (Scs.ext O) hzc hn hN l0 l2 hp rfl hfr hlo) hZ H hEL ?_
  rintro v h' L ⟨rfl, q1, q2, q3, q4, t, kb, q5, q6, q7, q8, q9⟩
  exact ⟨q1, ⟨[x], q2, allS Sf all0⟩, fun vm' _ => ⟨t, rfl, q2, q6, q3, q4, q8, ⟨kb, by rw [hn, ← hN]; exact q9⟩, hp, by rw [hn]; exact l2⟩⟩
theorem own_payEq {zc : Int32} (hws : ∀ d ∈ StrChars.Road.wordsEq, d.before a0 Z = true) (wi : (Jvm.Cond.instantiable "java/lang/String" 4).before a0 Z = true) (Scs : Sta Z Z.heap "java/lang/String" "COMPACT_STRINGS" "Z" (.int zc)) (hzc : ¬ zc = 0) (O : Ext Z.heap h)
    {x t y u : Addr} {cs ds : List Int32} (F : Str Z h x t cs) (G : Str Z h y u ds) (hfr : 2 ≤ R.frames) (hlo : W + 28 ≤ R.locals) (hZ : Z.Warmed39 vm) (H : CHv Z EL vm h) (hEL : EW Z a0 EL) :
    Pay l R p e below s args Z EL vm h (⟨"java/lang/String", "equals", "(Ljava/lang/Object;)Z"⟩ : MethodName) len W #[.ref x, .ref y] 0 0 (fun v _ h' => ∃ (z : Int32), v = some (.int z) ∧ h = h' ∧ ((z = 1 ∧ cs = ds) ∨ (z = 0 ∧ ¬ cs = ds))) := by
  obtain ⟨f1, f2, f3, ⟨kb, f4⟩, f5, f6⟩ := F
  obtain ⟨g1, g2, g3, ⟨kb', g4⟩, g5, g6⟩ := G
  refine Pay.of_back (a0 := a0) (Q0 := fun v h' L => ((v = some (.int 1) ∧ cs = ds) ∨ (v = some (.int 0) ∧ ¬ cs = ds)) ∧ L = [] ∧ h' = h) (StrChars.Road.eqW (s := s.setVm vm) hZ hws (kI := 4) wi (cs := cs) (ds := ds) f1 f3 f2 f4 (StrChars.Road.codOf (n := cs.length) rfl (fun c hc => (f5 c hc).2)) (own_up f5) f6 g1 g3 g2 g4 (StrChars.Road.codOf (n := ds.length) rfl (fun c hc => (g5 c hc).2)) (own_up g5) g6 (Scs.ext O) hzc hfr hlo) hZ H hEL ?_
  rintro v h' L ⟨q, rfl, rfl⟩
  refine ⟨Fr.nil _, ⟨[], Keep.refl _ _, all0⟩, fun _ _ => ?_⟩
  rcases q with ⟨rfl, q⟩ | ⟨rfl, q⟩
  · exact ⟨1, rfl, rfl, Or.inl ⟨rfl, q⟩⟩
  · exact ⟨0, rfl, rfl, Or.inr ⟨rfl, q⟩⟩
theorem own_payEqT {zc : Int32} (hws : ∀ d ∈ StrChars.Road.wordsEq, d.before a0 Z = true) (wi : (Jvm.Cond.instantiable "java/lang/String" 4).before a0 Z = true) (Scs : Sta Z Z.heap "java/lang/String" "COMPACT_STRINGS" "Z" (.int zc)) (hzc : ¬ zc = 0) (O : Ext Z.heap h)
    {x t y u : Addr} {cs ds : List Int32} (F : Str Z h x t cs) (G : Str Z h y u ds) (q : cs = ds) (hfr : 2 ≤ R.frames) (hlo : W + 28 ≤ R.locals) (hZ : Z.Warmed39 vm) (H : CHv Z EL vm h) (hEL : EW Z a0 EL) :
    Pay l R p e below s args Z EL vm h (⟨"java/lang/String", "equals", "(Ljava/lang/Object;)Z"⟩ : MethodName) len W #[.ref x, .ref y] 0 0 (fun v _ h' => v = some (.int (1 : Int32)) ∧ h = h') :=
  (own_payEq hws wi Scs hzc O F G hfr hlo hZ H hEL).mono fun v vm' h' r => by
    obtain ⟨z, rfl, rfl, ⟨rfl, -⟩ | ⟨-, w⟩⟩ := r
    · exact ⟨rfl, rfl⟩
    · exact absurd q w
theorem own_payEqF {zc : Int32} (hws : ∀ d ∈ StrChars.Road.wordsEq, d.before a0 Z = true) (wi : (Jvm.Cond.instantiable "java/lang/String" 4).before a0 Z = true) (Scs : Sta Z Z.heap "java/lang/String" "COMPACT_STRINGS" "Z" (.int zc)) (hzc : ¬ zc = 0) (O : Ext Z.heap h)
    {x t y u : Addr} {cs ds : List Int32} (F : Str Z h x t cs) (G : Str Z h y u ds) (q : ¬ cs = ds) (hfr : 2 ≤ R.frames) (hlo : W + 28 ≤ R.locals) (hZ : Z.Warmed39 vm) (H : CHv Z EL vm h) (hEL : EW Z a0 EL) :
    Pay l R p e below s args Z EL vm h (⟨"java/lang/String", "equals", "(Ljava/lang/Object;)Z"⟩ : MethodName) len W #[.ref x, .ref y] 0 0 (fun v _ h' => v = some (.int (0 : Int32)) ∧ h = h') :=
  (own_payEq hws wi Scs hzc O F G hfr hlo hZ H hEL).mono fun v vm' h' r => by
    obtain ⟨z, rfl, rfl, ⟨-, w⟩ | ⟨rfl, -⟩⟩ := r
    · exact absurd w q
    · exact ⟨rfl, rfl⟩
end OwnStr
end Jvm.Pilot.@@N@@
namespace Jvm.Pilot.@@N@@
open Jvm Jvm.ClassFile Sem Op Lib Jvm.Free Jvm.Stand Jvm.LawKit Jvm.RoadKit Bundle Jvm.Pilot.@@N@@.Jvm.D Jvm.OwnKit
def Ctx (Z : State) (a0 : Array Value) : Prop := (∀ d ∈ tables_1, d.before a0 Z = true) ∧ EW Z a0 consts_1 ∧ (∃ zc : Int32, Sta Z Z.heap "java/lang/String" "COMPACT_STRINGS" "Z" (.int zc) ∧ ¬ zc = 0) ∧ (∃ fm : Value, Sta Z Z.heap "jdk/internal/util/Preconditions" "SIOOBE_FORMATTER" "Ljava/util/function/BiFunction;" fm ∧ fm.isRef = true) ∧ (∃ va ak ah nk nh tk th : Addr, ∃ kv : ClassId, Sta Z Z.heap "com/example/tasks_to_members/taskstomembers/core/TaskAssignor" "$VALUES" "[Lcom/example/tasks_to_members/taskstomembers/core/TaskAssignor;" (.ref va) ∧ Exa Z Z.heap va "[Lcom/example/tasks_to_members/taskstomembers/core/TaskAssignor;" ∧ Arv Z Z.heap va kv (.object "com/example/tasks_to_members/taskstomembers/core/TaskAssignor") (2 : Int32) [(.ref ak), (.ref ah)] .null ∧ Sta Z Z.heap "com/example/tasks_to_members/taskstomembers/core/TaskAssignor" "STICKY" "Lcom/example/tasks_to_members/taskstomembers/core/TaskAssignor;" (.ref ak) ∧ Exa Z Z.heap ak "com/example/tasks_to_members/taskstomembers/core/TaskAssignor" ∧ Sta Z Z.heap "com/example/tasks_to_members/taskstomembers/core/TaskAssignor" "HIGHLY_AVAILABLE" "Lcom/example/tasks_to_members/taskstomembers/core/TaskAssignor;" (.ref ah) ∧ Exa Z Z.heap ah "com/example/tasks_to_members/taskstomembers/core/TaskAssignor" ∧ Fld Z Z.heap ak "com/example/tasks_to_members/taskstomembers/core/TaskAssignor" "configName" "Ljava/lang/String;" (.ref nk) ∧ Str Z Z.heap nk tk [(115 : Int32), (116 : Int32), (105 : Int32), (99 : Int32), (107 : Int32), (121 : Int32)] ∧ Fld Z Z.heap ah "com/example/tasks_to_members/taskstomembers/core/TaskAssignor" "configName" "Ljava/lang/String;" (.ref nh) ∧ Str Z Z.heap nh th [(104 : Int32), (105 : Int32), (103 : Int32), (104 : Int32), (108 : Int32), (121 : Int32), (95 : Int32), (97 : Int32), (118 : Int32), (97 : Int32), (105 : Int32), (108 : Int32), (97 : Int32), (98 : Int32), (108 : Int32), (101 : Int32)])
theorem own_SA {Z : State} {a0 : Array Value} (hw : ∀ d ∈ tables_1, d.before a0 Z = true) : ∀ a ∈ Bundle.stringAtoms, a.before a0 Z = true := fun d hd => hw d ((by decide +kernel : ∀ d ∈ Bundle.stringAtoms, d ∈ tables_1) d hd)
theorem own_wNew {Z : State} {a0 : Array Value} (hw : ∀ d ∈ tables_1, d.before a0 Z = true) : ∀ d ∈ StrChars.Road.words, d.before a0 Z = true := fun d hd => hw d ((by decide +kernel : ∀ d ∈ StrChars.Road.words, d ∈ tables_1) d hd)
theorem own_wEq {Z : State} {a0 : Array Value} (hw : ∀ d ∈ tables_1, d.before a0 Z = true) : ∀ d ∈ StrChars.Road.wordsEq, d.before a0 Z = true := fun d hd => hw d ((by decide +kernel : ∀ d ∈ StrChars.Road.wordsEq, d ∈ tables_1) d hd)
def OwnK (Z : State) (va ak ah nk nh tk th : Addr) (kv : ClassId) : Prop := Sta Z Z.heap "com/example/tasks_to_members/taskstomembers/core/TaskAssignor" "$VALUES" "[Lcom/example/tasks_to_members/taskstomembers/core/TaskAssignor;" (.ref va) ∧ Exa Z Z.heap va "[Lcom/example/tasks_to_members/taskstomembers/core/TaskAssignor;" ∧ Arv Z Z.heap va kv (.object "com/example/tasks_to_members/taskstomembers/core/TaskAssignor") (2 : Int32) [(.ref ak), (.ref ah)] .null ∧ Sta Z Z.heap "com/example/tasks_to_members/taskstomembers/core/TaskAssignor" "STICKY" "Lcom/example/tasks_to_members/taskstomembers/core/TaskAssignor;" (.ref ak) ∧ Exa Z Z.heap ak "com/example/tasks_to_members/taskstomembers/core/TaskAssignor" ∧ Sta Z Z.heap "com/example/tasks_to_members/taskstomembers/core/TaskAssignor" "HIGHLY_AVAILABLE" "Lcom/example/tasks_to_members/taskstomembers/core/TaskAssignor;" (.ref ah) ∧ Exa Z Z.heap ah "com/example/tasks_to_members/taskstomembers/core/TaskAssignor" ∧ Fld Z Z.heap ak "com/example/tasks_to_members/taskstomembers/core/TaskAssignor" "configName" "Ljava/lang/String;" (.ref nk) ∧ Str Z Z.heap nk tk [(115 : Int32), (116 : Int32), (105 : Int32), (99 : Int32), (107 : Int32), (121 : Int32)] ∧ Fld Z Z.heap ah "com/example/tasks_to_members/taskstomembers/core/TaskAssignor" "configName" "Ljava/lang/String;" (.ref nh) ∧ Str Z Z.heap nh th [(104 : Int32), (105 : Int32), (103 : Int32), (104 : Int32), (108 : Int32), (121 : Int32), (95 : Int32), (97 : Int32), (118 : Int32), (97 : Int32), (105 : Int32), (108 : Int32), (97 : Int32), (98 : Int32), (108 : Int32), (101 : Int32)]
def own_nm (ak ah : Addr) (cs : List Int32) : Value := if [(115 : Int32), (116 : Int32), (105 : Int32), (99 : Int32), (107 : Int32), (121 : Int32)] = cs then .ref ak else if [(104 : Int32), (105 : Int32), (103 : Int32), (104 : Int32), (108 : Int32), (121 : Int32), (95 : Int32), (97 : Int32), (118 : Int32), (97 : Int32), (105 : Int32), (108 : Int32), (97 : Int32), (98 : Int32), (108 : Int32), (101 : Int32)] = cs then .ref ah else .null
theorem own_nmR (ak ah : Addr) (cs : List Int32) : (own_nm ak ah cs).isRef = true := by
  unfold own_nm
  split
  · rfl
  · split <;> rfl
theorem bset {L : List Int32} {i : Nat} {a : Int32} (h : ∀ c ∈ L, B8 c) (q : B8 a) : ∀ c ∈ L.set i a, B8 c := fun c hc => (List.mem_or_eq_of_mem_set hc).elim (h c) (fun e => e ▸ q)
theorem own_d_jdk_42_method_149_0 : decode jdk_42_method_149_code 0 = .ok (.aload_n 0, 1) := by decide +kernel
theorem own_d_jdk_42_method_149_1 : decode jdk_42_method_149_code 1 = .ok (.invokespecial 1, 3) := by decide +kernel
theorem own_d_jdk_42_method_149_4 : decode jdk_42_method_149_code 4 = .ok (.iload_n 3, 1) := by decide +kernel
theorem own_d_jdk_42_method_149_5 : decode jdk_42_method_149_code 5 = .ok (.ifCond .ne 22, 3) := by decide +kernel
theorem own_d_jdk_42_method_149_8 : decode jdk_42_method_149_code 8 = .ok (.aload_n 0, 1) := by decide +kernel
theorem own_d_jdk_42_method_149_9 : decode jdk_42_method_149_code 9 = .ok (.ldc 7, 2) := by decide +kernel
theorem own_d_jdk_42_method_149_11 : decode jdk_42_method_149_code 11 = .ok (.getfield 9, 3) := by decide +kernel
theorem own_d_jdk_42_method_149_14 : decode jdk_42_method_149_code 14 = .ok (.putfield 9, 3) := by decide +kernel
theorem own_d_jdk_42_method_149_17 : decode jdk_42_method_149_code 17 = .ok (.aload_n 0, 1) := by decide +kernel
theorem own_d_jdk_42_method_149_18 : decode jdk_42_method_149_code 18 = .ok (.ldc 7, 2) := by decide +kernel
theorem own_d_jdk_42_method_149_20 : decode jdk_42_method_149_code 20 = .ok (.getfield 15, 3) := by decide +kernel
theorem own_d_jdk_42_method_149_23 : decode jdk_42_method_149_code 23 = .ok (.putfield 15, 3) := by decide +kernel
theorem own_d_jdk_42_method_149_26 : decode jdk_42_method_149_code 26 = .ok (.return_, 1) := by decide +kernel
theorem own_pn13 : plainName "java/lang/String" = true := by first | (simp [plainName, overriddenIn]; done) | decide +kernel
set_option maxRecDepth 65536 in
set_option maxHeartbeats 40000000 in
theorem own_emp4 (l : Launch) (Z : State) (a0 : Array Value) (cx : Ctx Z a0) (ws : List Jvm.Cond) (x : Addr) (b : Addr) (v0 : Value) (c0 : Value) (vm0 : Vm) (h0 : Heap) (X00 : Ext Z.heap h0) (P0 : Exa Z h0 x "java/lang/String") (P1 : Fld Z h0 x "java/lang/String" "value" "[B" v0) (P2 : Fld Z h0 x "java/lang/String" "coder" "B" c0) (P3 : Z.heap.size ≤ x) (P4 : Safe Z consts_1 vm0 h0 x) :
    Met l (⟨"java/lang/String", "<init>", "([CIILjava/lang/Void;)V"⟩ : MethodName) jdk_42_method_149_code 6 none ws ({ frames := 1, cells := 4, slots := 8, locals := 12 } : Room) Z consts_1 vm0 h0 #[(.ref x), (.ref b), (.int (0 : Int32)), (.int (0 : Int32)), .null] (fun rv vm h => ∃ (t : Addr), rv = none ∧ Keep h0 h [x] ∧ Str Z h x t ([] : List Int32) ∧ Safe Z consts_1 vm h x) := by
  obtain ⟨hw, hEL, ⟨zc, Scs, hzc⟩, ⟨fm, Sfm, hfm⟩, hK0⟩ := id cx
  have hSA := own_SA hw
  refine Met.of_walk (a0 := a0) #[.val (.ref x), .val (.ref b), .val (.int (0 : Int32)), .val (.int (0 : Int32)), .val .null, .unset] (plainFor_of_name own_pn13) X00 hEL (fun m => by first | (simp [entryFrame, mkF, argsToLocals, Value.category]; done) | rfl) ?_
  intro p e s m below meth c vm hx hby hml hret hnm hC0
  have lt_x : h0.size > x := P0.lt
  have L4 := hC0.safe lt_x P4
  refine gs (mkF m 1 #[.val (.ref x), .val (.ref b), .val (.int (0 : Int32)), .val (.int (0 : Int32)), .val .null, .unset] [(.ref x)]) (fun _ _ A kq => XS.aloadN A hx rfl (hb hby own_d_jdk_42_method_149_0) rfl rfl kq) ?_
  refine ginitO hx (ow hw 11 rfl) (ow hw 12 rfl) (ow hw 13 rfl) 4 (W := 0) (Nat.le_of_eq rfl) (by rw [hml]; rfl) (hb hby own_d_jdk_42_method_149_1) rfl (by decide) (by decide) ?_
  refine gs (mkF m 5 #[.val (.ref x), .val (.ref b), .val (.int (0 : Int32)), .val (.int (0 : Int32)), .val .null, .unset] [(.int (0 : Int32))]) (fun _ _ A kq => XS.iloadN A hx rfl (hb hby own_d_jdk_42_method_149_4) rfl  kq) ?_
  refine gs (mkF m 8 #[.val (.ref x), .val (.ref b), .val (.int (0 : Int32)), .val (.int (0 : Int32)), .val .null, .unset] []) (fun _ _ A kq => XS.ifNo A hx rfl (hb hby own_d_jdk_42_method_149_5) rfl ((if0 _ _).trans (teq (by decide)).2) kq) ?_
  refine gs (mkF m 9 #[.val (.ref x), .val (.ref b), .val (.int (0 : Int32)), .val (.int (0 : Int32)), .val .null, .unset] [(.ref x)]) (fun _ _ A kq => XS.aloadN A hx rfl (hb hby own_d_jdk_42_method_149_8) rfl rfl kq) ?_
  refine gldcR hx (ow hw 88 rfl) hSA (by decide) (n := 0) (by decide) (by decide) (vs := []) (z := (0 : Int32)) (by decide +kernel) (by decide) (by decide) 11 (hb hby own_d_jdk_42_method_149_9) rfl (by decide) (by decide) ?_
  intro b2 t2 k2 vm2 h2 E2 C2 Q2a Q2b Q2c Q2d Q2e
  have z2 := C2.2.1
  have S2 : Str Z h2 b2 t2 ([] : List Int32) := Str.lit Q2a Q2b Q2c Q2d (by decide) rfl rfl (by decide)
  have lt_b2 : h2.size > b2 := S2.1.lt
  have lt_t2 : h2.size > t2 := S2.tlt
  have f3 := (C2.safe (show h0.size > x by omega) L4)
  have ne2_x := Q2e x f3
  refine ggetF (host := "") hx (Or.inl (ow hw 28 rfl)) Via.refl S2.2.2.1 14 (hb hby own_d_jdk_42_method_149_11) rfl ?_
  have f4 := (P1.ext E2)
  have f5 := (P0.ext E2)
  refine gputF (host := "") hx (Or.inl (ow hw 28 rfl)) Via.refl f4 f5 (Or.inr ⟨(ow hw 29 rfl), rfl, hnm⟩) (ow hw 2 rfl) (ty := (.array .byte)) (by decide) rfl rfl P3 (fun _ => f3) 17 (hb hby own_d_jdk_42_method_149_14) rfl ?_
  intro h6 W6 C6
  have z6 := C6.2.1
  have F6 := f4.same W6
  refine gs (mkF m 18 #[.val (.ref x), .val (.ref b), .val (.int (0 : Int32)), .val (.int (0 : Int32)), .val .null, .unset] [(.ref x)]) (fun _ _ A kq => XS.aloadN A hx rfl (hb hby own_d_jdk_42_method_149_17) rfl rfl kq) ?_
  refine gldcR hx (ow hw 88 rfl) hSA (by decide) (n := 0) (by decide) (by decide) (vs := []) (z := (0 : Int32)) (by decide +kernel) (by decide) (by decide) 20 (hb hby own_d_jdk_42_method_149_18) rfl (by decide) (by decide) ?_
  intro b7 t7 k7 vm7 h7 E7 C7 Q7a Q7b Q7c Q7d Q7e
  have z7 := C7.2.1
  have S7 : Str Z h7 b7 t7 ([] : List Int32) := Str.lit Q7a Q7b Q7c Q7d (by decide) rfl rfl (by decide)
  have lt_b7 : h7.size > b7 := S7.1.lt
  have lt_t7 : h7.size > t7 := S7.tlt
  have f8 := (C7.safe (show h6.size > x by omega) (C6.safe (show h2.size > x by omega) f3))
  have ne7_x := Q7e x f8
  refine ggetF (host := "") hx (Or.inl (ow hw 26 rfl)) Via.refl S7.2.1 23 (hb hby own_d_jdk_42_method_149_20) rfl ?_
  have f9 := (((P2.ext E2).other W6 (Or.inr (slot_ne (Or.inr (ow hw 27 rfl)) (Or.inr (ow hw 29 rfl)) (by decide) (t := .byte) (t' := (.array .byte)) (by decide) (by decide)))).ext E7)
  have f10 := ((f5.wr W6).ext E7)
  refine gputF (host := "") hx (Or.inl (ow hw 26 rfl)) Via.refl f9 f10 (Or.inr ⟨(ow hw 27 rfl), rfl, hnm⟩) (ow hw 2 rfl) (ty := .byte) (by decide) rfl rfl P3 (fun _ => f8) 26 (hb hby own_d_jdk_42_method_149_23) rfl ?_
  intro h11 W11 C11
  have z11 := C11.2.1
  have F11 := f9.same W11
  have f13 := (((S2.other W6 (Ne.symm ne2_x.1) (Ne.symm ne2_x.2)).ext E7).other W11 (Ne.symm ne2_x.1) (Ne.symm ne2_x.2))
  have f15 := (f10.wr W11)
  have f16 := ((F6.ext E7).other W11 (Or.inr (slot_ne (Or.inr (ow hw 29 rfl)) (Or.inr (ow hw 27 rfl)) (by decide) (t := (.array .byte)) (t' := .byte) (by decide) (by decide))))
  have S14 : Str Z h11 x t2 ([] : List Int32) := ⟨f15, F11, f16, f13.2.2.2⟩
  have f17 := (C11.safe (show h7.size > x by omega) f8)
  exact gretV hx hret (hb hby own_d_jdk_42_method_149_26) (by decide) (by decide) (fun vq Cq => ⟨t2, rfl, (((((Keep.refl h0 [x]).ext E2).wr W6 (Or.inl (List.mem_of_getElem? (i := 0) rfl))).ext E7).wr W11 (Or.inl (List.mem_of_getElem? (i := 0) rfl))), S14, (Cq.safe (show h11.size > x by omega) f17)⟩)
theorem own_d_jdk_42_method_3_0 : decode jdk_42_method_3_code 0 = .ok (.aload_n 0, 1) := by decide +kernel
theorem own_d_jdk_42_method_3_1 : decode jdk_42_method_3_code 1 = .ok (.aload_n 1, 1) := by decide +kernel
theorem own_d_jdk_42_method_3_2 : decode jdk_42_method_3_code 2 = .ok (.iconst 0, 1) := by decide +kernel
theorem own_d_jdk_42_method_3_3 : decode jdk_42_method_3_code 3 = .ok (.aload_n 1, 1) := by decide +kernel
theorem own_d_jdk_42_method_3_4 : decode jdk_42_method_3_code 4 = .ok (.arraylength, 1) := by decide +kernel
theorem own_d_jdk_42_method_3_5 : decode jdk_42_method_3_code 5 = .ok (.aconst_null, 1) := by decide +kernel
theorem own_d_jdk_42_method_3_6 : decode jdk_42_method_3_code 6 = .ok (.invokespecial 27, 3) := by decide +kernel
theorem own_pd21 : parseMethodDescriptor "([CIILjava/lang/Void;)V" = some ⟨[(.array .char), .int, .int, (.object "java/lang/Void")], none⟩ := by decide +kernel
theorem own_d_jdk_42_method_3_9 : decode jdk_42_method_3_code 9 = .ok (.return_, 1) := by decide +kernel
set_option maxRecDepth 65536 in
set_option maxHeartbeats 40000000 in
theorem own_emp1 (l : Launch) (Z : State) (a0 : Array Value) (cx : Ctx Z a0) (ws : List Jvm.Cond) (x : Addr) (b : Addr) (v0 : Value) (c0 : Value) (kc : ClassId) (vm0 : Vm) (h0 : Heap) (X00 : Ext Z.heap h0) (P0 : Exa Z h0 x "java/lang/String") (P1 : Fld Z h0 x "java/lang/String" "value" "[B" v0) (P2 : Fld Z h0 x "java/lang/String" "coder" "B" c0) (P3 : Z.heap.size ≤ x) (P4 : Safe Z consts_1 vm0 h0 x) (P5 : Arv Z h0 b kc .char (0 : Int32) [] (.int (0 : Int32))) :
    Met l (⟨"java/lang/String", "<init>", "([C)V"⟩ : MethodName) jdk_42_method_3_code 2 none ws ({ frames := 2, cells := 4, slots := 8, locals := 29 } : Room) Z consts_1 vm0 h0 #[(.ref x), (.ref b)] (fun rv vm h => ∃ (t : Addr), rv = none ∧ Keep h0 h [x] ∧ Str Z h x t ([] : List Int32) ∧ Safe Z consts_1 vm h x) := by
  obtain ⟨hw, hEL, ⟨zc, Scs, hzc⟩, ⟨fm, Sfm, hfm⟩, hK0⟩ := id cx
  have hSA := own_SA hw
  refine Met.of_walk (a0 := a0) #[.val (.ref x), .val (.ref b)] (plainFor_of_name own_pn13) X00 hEL (fun m => by first | (simp [entryFrame, mkF, argsToLocals, Value.category]; done) | rfl) ?_
  intro p e s m below meth c vm hx hby hml hret hnm hC0
  have lt_x : h0.size > x := P0.lt
  have L4 := hC0.safe lt_x P4
  have lt_b : h0.size > b := P5.lt
  refine gs (mkF m 1 #[.val (.ref x), .val (.ref b)] [(.ref x)]) (fun _ _ A kq => XS.aloadN A hx rfl (hb hby own_d_jdk_42_method_3_0) rfl rfl kq) ?_
  refine gs (mkF m 2 #[.val (.ref x), .val (.ref b)] [(.ref b), (.ref x)]) (fun _ _ A kq => XS.aloadN A hx rfl (hb hby own_d_jdk_42_method_3_1) rfl rfl kq) ?_
  refine gs (mkF m 3 #[.val (.ref x), .val (.ref b)] [(.int (0 : Int32)), (.ref b), (.ref x)]) (fun _ _ A kq => XS.iconst A hx rfl (hb hby own_d_jdk_42_method_3_2) kq) ?_
  refine gs (mkF m 4 #[.val (.ref x), .val (.ref b)] [(.ref b), (.int (0 : Int32)), (.ref b), (.ref x)]) (fun _ _ A kq => XS.aloadN A hx rfl (hb hby own_d_jdk_42_method_3_3) rfl rfl kq) ?_
  refine glen hx P5 5 (hb hby own_d_jdk_42_method_3_4) rfl ?_
  refine gs (mkF m 6 #[.val (.ref x), .val (.ref b)] [.null, (.int (0 : Int32)), (.int (0 : Int32)), (.ref b), (.ref x)]) (fun _ _ A kq => XS.aconstNull A hx rfl (hb hby own_d_jdk_42_method_3_5) kq) ?_
  refine ginfo fun _ _ O1 => ?_
  refine gcallI (y := (⟨"java/lang/String", "<init>", "([CIILjava/lang/Void;)V"⟩ : MethodName)) hx rfl (ow hw 7 rfl) (ow hw 8 rfl) (ow hw 10 rfl) (by decide) (fun hZ H hEL => Pay.of_met (W := 0) (own_emp4 l Z a0 cx [] (x) (b) (v0) (c0) vm h0 O1 P0 P1 P2 P3 L4) (ow hw 10 rfl) (ow hw 3 rfl) (by decide) (by decide) hZ H hEL) (a := x) 9 (argsL := [(.ref b), (.int (0 : Int32)), (.int (0 : Int32)), .null]) (rest := []) (lenOf own_pd21 rfl) rfl rfl (Nat.le_of_eq rfl) (by rw [hml]; rfl) (hb hby own_d_jdk_42_method_3_6) rfl (by decide) (by decide) ?_
  rintro _ vm1 h1 C1 ⟨t1, rfl, K1, q1_0, q1_1⟩
  have z1 := C1.2.1
  have lt_t1 : h1.size > t1 := q1_0.tlt
  refine gat (mkF m 9 #[.val (.ref x), .val (.ref b)] []) rfl ?_
  exact gretV hx hret (hb hby own_d_jdk_42_method_3_9) (by decide) (by decide) (fun vq Cq => ⟨t1, rfl, ((Keep.refl h0 [x]).trans K1 (allS (Or.inl (List.mem_of_getElem? (i := 0) rfl)) all0)), q1_0, (Cq.safe (show h1.size > x by omega) q1_1)⟩)
theorem own_d_jdk_42_method_66_0 : decode jdk_42_method_66_code 0 = .ok (.aload_n 0, 1) := by decide +kernel
theorem own_d_jdk_42_method_66_1 : decode jdk_42_method_66_code 1 = .ok (.aload_n 1, 1) := by decide +kernel
theorem own_d_jdk_42_method_66_2 : decode jdk_42_method_66_code 2 = .ok (.if_acmp .ne 5, 3) := by decide +kernel
theorem own_d_jdk_42_method_66_7 : decode jdk_42_method_66_code 7 = .ok (.aload_n 1, 1) := by decide +kernel
theorem own_d_jdk_42_method_66_8 : decode jdk_42_method_66_code 8 = .ok (.instanceof 10, 3) := by decide +kernel
theorem own_d_jdk_42_method_66_11 : decode jdk_42_method_66_code 11 = .ok (.ifCond .eq 43, 3) := by decide +kernel
theorem own_d_jdk_42_method_66_54 : decode jdk_42_method_66_code 54 = .ok (.iconst 0, 1) := by decide +kernel
theorem own_d_jdk_42_method_66_55 : decode jdk_42_method_66_code 55 = .ok (.ireturn, 1) := by decide +kernel
set_option maxRecDepth 65536 in
set_option maxHeartbeats 40000000 in
theorem own_eqNull (l : Launch) (Z : State) (a0 : Array Value) (cx : Ctx Z a0) (ws : List Jvm.Cond) (x : Addr) (vm0 : Vm) (h0 : Heap) (X00 : Ext Z.heap h0)  :
    Met l (⟨"java/lang/String", "equals", "(Ljava/lang/Object;)Z"⟩ : MethodName) jdk_42_method_66_code 3 (some .boolean) ws ({ frames := 0, cells := 0, slots := 0, locals := 0 } : Room) Z consts_1 vm0 h0 #[(.ref x), .null] (fun rv vm h => rv = some (.int (0 : Int32)) ∧ h0 = h) := by
  obtain ⟨hw, hEL, ⟨zc, Scs, hzc⟩, ⟨fm, Sfm, hfm⟩, hK0⟩ := id cx
  have hSA := own_SA hw
  refine Met.of_walk (a0 := a0) #[.val (.ref x), .val .null, .unset] (plainFor_of_name own_pn13) X00 hEL (fun m => by first | (simp [entryFrame, mkF, argsToLocals, Value.category]; done) | rfl) ?_
  intro p e s m below meth c vm hx hby hml hret hnm hC0
  refine gs (mkF m 1 #[.val (.ref x), .val .null, .unset] [(.ref x)]) (fun _ _ A kq => XS.aloadN A hx rfl (hb hby own_d_jdk_42_method_66_0) rfl rfl kq) ?_
  refine gs (mkF m 2 #[.val (.ref x), .val .null, .unset] [.null, (.ref x)]) (fun _ _ A kq => XS.aloadN A hx rfl (hb hby own_d_jdk_42_method_66_1) rfl rfl kq) ?_
  refine gx (mkF m 7 #[.val (.ref x), .val .null, .unset] []) (fun T locs X _ _ _ _ kq => Jvm.RoadKit.acmp (g := (mkF m 2 #[.val (.ref x), .val .null, .unset] [.null, (.ref x)])) X hx rfl rfl rfl (pc0 := 2) (pc' := 7) (same := false) rfl (hb hby own_d_jdk_42_method_66_2) rfl (decide_eq_false nofun) (by decide) (by decide) kq) ?_
  refine gs (mkF m 8 #[.val (.ref x), .val .null, .unset] [.null]) (fun _ _ A kq => XS.aloadN A hx rfl (hb hby own_d_jdk_42_method_66_7) rfl rfl kq) ?_
  refine gx (mkF m 11 #[.val (.ref x), .val .null, .unset] [(.int (0 : Int32))]) (fun T locs X _ _ _ => X.instanceofNull hx (g := (mkF m 8 #[.val (.ref x), .val .null, .unset] [.null])) rfl rfl (hb hby own_d_jdk_42_method_66_8)) ?_
  refine gs (mkF m 54 #[.val (.ref x), .val .null, .unset] []) (fun _ _ A kq => XS.ifYes A hx rfl (pc0 := 11) (pc' := 54) rfl (hb hby own_d_jdk_42_method_66_11) rfl ((if0 _ _).trans (teq (by decide)).1) (by decide) (by decide) kq) ?_
  refine gs (mkF m 55 #[.val (.ref x), .val .null, .unset] [(.int (0 : Int32))]) (fun _ _ A kq => XS.iconst A hx rfl (hb hby own_d_jdk_42_method_66_54) kq) ?_
  exact gretN (t := .boolean) hx hret (by simp) (hb hby own_d_jdk_42_method_66_55) (by decide) (by decide) (fun vq Cq => ⟨rfl, rfl⟩)
theorem own_d_prog_7_method_4_0 : decode prog_7_method_4_code 0 = .ok (.aload_n 0, 1) := by decide +kernel
theorem own_d_prog_7_method_4_1 : decode prog_7_method_4_code 1 = .ok (.getfield 29, 3) := by decide +kernel
theorem own_d_prog_7_method_4_4 : decode prog_7_method_4_code 4 = .ok (.areturn, 1) := by decide +kernel
theorem own_pn34 : plainName "com/example/tasks_to_members/taskstomembers/core/TaskAssignor" = true := by first | (simp [plainName, overriddenIn]; done) | decide +kernel
set_option maxRecDepth 65536 in
set_option maxHeartbeats 40000000 in
theorem own_config (l : Launch) (Z : State) (a0 : Array Value) (cx : Ctx Z a0) (ws : List Jvm.Cond) (x : Addr) (y : Addr) (vm0 : Vm) (h0 : Heap) (X00 : Ext Z.heap h0) (P0 : Fld Z h0 x "com/example/tasks_to_members/taskstomembers/core/TaskAssignor" "configName" "Ljava/lang/String;" (.ref y)) :
    Met l (⟨"com/example/tasks_to_members/taskstomembers/core/TaskAssignor", "configName", "()Ljava/lang/String;"⟩ : MethodName) prog_7_method_4_code 1 (some (.object "java/lang/String")) ws ({ frames := 0, cells := 0, slots := 0, locals := 0 } : Room) Z consts_1 vm0 h0 #[(.ref x)] (fun rv vm h => rv = some (.ref y) ∧ h0 = h) := by
  obtain ⟨hw, hEL, ⟨zc, Scs, hzc⟩, ⟨fm, Sfm, hfm⟩, hK0⟩ := id cx
  have hSA := own_SA hw
  refine Met.of_walk (a0 := a0) #[.val (.ref x)] (plainFor_of_name own_pn34) X00 hEL (fun m => by first | (simp [entryFrame, mkF, argsToLocals, Value.category]; done) | rfl) ?_
  intro p e s m below meth c vm hx hby hml hret hnm hC0
  have lt_x : h0.size > x := P0.lt
  refine gs (mkF m 1 #[.val (.ref x)] [(.ref x)]) (fun _ _ A kq => XS.aloadN A hx rfl (hb hby own_d_prog_7_method_4_0) rfl rfl kq) ?_
  refine ggetF (host := "") hx (Or.inl (ow hw 51 rfl)) Via.refl P0 4 (hb hby own_d_prog_7_method_4_1) rfl ?_
  exact gretA hx hret rfl rfl (hb hby own_d_prog_7_method_4_4) (by decide) (by decide) (fun vq Cq => ⟨rfl, rfl⟩)
theorem own_d_prog_7_method_1_0 : decode prog_7_method_1_code 0 = .ok (.getstatic 10, 3) := by decide +kernel
theorem own_d_prog_7_method_1_3 : decode prog_7_method_1_code 3 = .ok (.invokevirtual 14, 3) := by decide +kernel
theorem own_d_prog_7_method_1_6 : decode prog_7_method_1_code 6 = .ok (.checkcast 15, 3) := by decide +kernel
theorem own_d_prog_7_method_1_9 : decode prog_7_method_1_code 9 = .ok (.areturn, 1) := by decide +kernel
set_option maxRecDepth 65536 in
set_option maxHeartbeats 40000000 in
theorem own_values (l : Launch) (Z : State) (a0 : Array Value) (cx : Ctx Z a0) (ws : List Jvm.Cond) (va : Addr) (ak : Addr) (ah : Addr) (nk : Addr) (nh : Addr) (tk : Addr) (th : Addr) (kv : ClassId) (vm0 : Vm) (h0 : Heap) (X00 : Ext Z.heap h0) (hK : (OwnK Z va ak ah nk nh tk th kv)) :
    Met l (⟨"com/example/tasks_to_members/taskstomembers/core/TaskAssignor", "values", "()[Lcom/example/tasks_to_members/taskstomembers/core/TaskAssignor;"⟩ : MethodName) prog_7_method_1_code 0 (some (.array (.object "com/example/tasks_to_members/taskstomembers/core/TaskAssignor"))) ws ({ frames := 1, cells := 1, slots := 2, locals := 14 } : Room) Z consts_1 vm0 h0 #[] (fun rv vm h => ∃ (r : Addr), rv = some (.ref r) ∧ Keep h0 h [] ∧ h0.size ≤ r ∧ Exa Z h r "[Lcom/example/tasks_to_members/taskstomembers/core/TaskAssignor;" ∧ Arv Z h r kv (.object "com/example/tasks_to_members/taskstomembers/core/TaskAssignor") (2 : Int32) [(.ref ak), (.ref ah)] .null) := by
  obtain ⟨hw, hEL, ⟨zc, Scs, hzc⟩, ⟨fm, Sfm, hfm⟩, hK0⟩ := id cx
  have hSA := own_SA hw
  refine Met.of_walk (a0 := a0) #[] (plainFor_of_name own_pn34) X00 hEL (fun m => by first | (simp [entryFrame, mkF, argsToLocals, Value.category]; done) | rfl) ?_
  intro p e s m below meth c vm hx hby hml hret hnm hC0
  obtain ⟨Sva, Eva, Vva, Sak, Eak, Sah, Eah, Fnk, Snk, Fnh, Snh⟩ := id hK
  refine ginfo fun _ _ O1 => ?_
  have Eva_1 := Eva.ext O1
  have Vva_1 := Vva.ext O1
  have Eak_1 := Eak.ext O1
  have Eah_1 := Eah.ext O1
  have Fnk_1 := Fnk.ext O1
  have Snk_1 := Snk.ext O1
  have Fnh_1 := Fnh.ext O1
  have Snh_1 := Snh.ext O1
  have lt_va : h0.size > va := Eva_1.lt
  have lt_ak : h0.size > ak := Eak_1.lt
  have lt_ah : h0.size > ah := Eah_1.lt
  have lt_nk : h0.size > nk := Snk_1.1.lt
  have lt_tk : h0.size > tk := Snk_1.tlt
  have lt_nh : h0.size > nh := Snh_1.1.lt
  have lt_th : h0.size > th := Snh_1.tlt
  refine ggetS (host := "") hx (Or.inl (ow hw 37 rfl)) Via.refl Sva 3 (hb hby own_d_prog_7_method_1_0) rfl ?_
  refine gclone hx (ow hw 39 rfl) (ow hw 40 rfl) (ow hw 44 rfl) (ow hw 42 rfl) (ow hw 43 rfl) (ow hw 45 rfl) Vva_1 Eva_1 (cap := 2) (by decide) 6 (W := 0) (Nat.le_of_eq rfl) (by rw [hml]; rfl) (hb hby own_d_prog_7_method_1_3) rfl (by decide) (by decide) (by decide) (by decide) ?_
  intro b2 h2 g2 E2 C2 V2 A2 n2 L2
  have z2 := C2.2.1
  have lt_b2 : h2.size > b2 := V2.lt
  refine gcast hx (ow hw 49 rfl) (Ins.self A2) 9 (hb hby own_d_prog_7_method_1_6) rfl ?_
  exact gretA hx hret rfl rfl (hb hby own_d_prog_7_method_1_9) (by decide) (by decide) (fun vq Cq => ⟨b2, rfl, ((Keep.refl h0 []).ext E2), (by omega), A2, V2⟩)
theorem own_d_prog_7_method_5_0 : decode prog_7_method_5_code 0 = .ok (.invokestatic 33, 3) := by decide +kernel
theorem own_pd40 : parseMethodDescriptor "()[Lcom/example/tasks_to_members/taskstomembers/core/TaskAssignor;" = some ⟨[], some (.array (.object "com/example/tasks_to_members/taskstomembers/core/TaskAssignor"))⟩ := by decide +kernel
theorem own_d_prog_7_method_5_3 : decode prog_7_method_5_code 3 = .ok (.astore_n 1, 1) := by decide +kernel
theorem own_d_prog_7_method_5_4 : decode prog_7_method_5_code 4 = .ok (.aload_n 1, 1) := by decide +kernel
theorem own_d_prog_7_method_5_5 : decode prog_7_method_5_code 5 = .ok (.arraylength, 1) := by decide +kernel
theorem own_d_prog_7_method_5_6 : decode prog_7_method_5_code 6 = .ok (.istore_n 2, 1) := by decide +kernel
theorem own_d_prog_7_method_5_7 : decode prog_7_method_5_code 7 = .ok (.iconst 0, 1) := by decide +kernel
theorem own_d_prog_7_method_5_8 : decode prog_7_method_5_code 8 = .ok (.istore_n 3, 1) := by decide +kernel
theorem own_d_prog_7_method_5_9 : decode prog_7_method_5_code 9 = .ok (.iload_n 3, 1) := by decide +kernel
theorem own_d_prog_7_method_5_10 : decode prog_7_method_5_code 10 = .ok (.iload_n 2, 1) := by decide +kernel
theorem own_d_prog_7_method_5_11 : decode prog_7_method_5_code 11 = .ok (.if_icmp .ge 29, 3) := by decide +kernel
theorem own_d_prog_7_method_5_14 : decode prog_7_method_5_code 14 = .ok (.aload_n 1, 1) := by decide +kernel
theorem own_d_prog_7_method_5_15 : decode prog_7_method_5_code 15 = .ok (.iload_n 3, 1) := by decide +kernel
theorem own_d_prog_7_method_5_16 : decode prog_7_method_5_code 16 = .ok (.aaload, 1) := by decide +kernel
theorem own_d_prog_7_method_5_17 : decode prog_7_method_5_code 17 = .ok (.astore 4, 2) := by decide +kernel
theorem own_d_prog_7_method_5_19 : decode prog_7_method_5_code 19 = .ok (.aload 4, 2) := by decide +kernel
theorem own_d_prog_7_method_5_21 : decode prog_7_method_5_code 21 = .ok (.getfield 29, 3) := by decide +kernel
theorem own_d_prog_7_method_5_24 : decode prog_7_method_5_code 24 = .ok (.aload_n 0, 1) := by decide +kernel
theorem own_d_prog_7_method_5_25 : decode prog_7_method_5_code 25 = .ok (.invokevirtual 37, 3) := by decide +kernel
theorem own_pd58 : parseMethodDescriptor "(Ljava/lang/Object;)Z" = some ⟨[(.object "java/lang/Object")], some .boolean⟩ := by decide +kernel
theorem own_d_prog_7_method_5_28 : decode prog_7_method_5_code 28 = .ok (.ifCond .eq 6, 3) := by decide +kernel
theorem own_d_prog_7_method_5_31 : decode prog_7_method_5_code 31 = .ok (.aload 4, 2) := by decide +kernel
theorem own_d_prog_7_method_5_33 : decode prog_7_method_5_code 33 = .ok (.areturn, 1) := by decide +kernel
theorem own_d_prog_7_method_5_34 : decode prog_7_method_5_code 34 = .ok (.iinc 3 1, 3) := by decide +kernel
theorem own_d_prog_7_method_5_37 : decode prog_7_method_5_code 37 = .ok (.goto (-28), 3) := by decide +kernel
theorem own_d_prog_7_method_5_40 : decode prog_7_method_5_code 40 = .ok (.aconst_null, 1) := by decide +kernel
theorem own_d_prog_7_method_5_41 : decode prog_7_method_5_code 41 = .ok (.areturn, 1) := by decide +kernel
set_option maxRecDepth 65536 in
set_option maxHeartbeats 40000000 in
theorem own_namedG (l : Launch) (Z : State) (a0 : Array Value) (cx : Ctx Z a0) (ws : List Jvm.Cond) (y : Addr) (t : Addr) (cs : List Int32) (va : Addr) (ak : Addr) (ah : Addr) (nk : Addr) (nh : Addr) (tk : Addr) (th : Addr) (kv : ClassId) (vm0 : Vm) (h0 : Heap) (X00 : Ext Z.heap h0) (P0 : Str Z h0 y t cs) (hK : (OwnK Z va ak ah nk nh tk th kv)) :
    Met l (⟨"com/example/tasks_to_members/taskstomembers/core/TaskAssignor", "named", "(Ljava/lang/String;)Lcom/example/tasks_to_members/taskstomembers/core/TaskAssignor;"⟩ : MethodName) prog_7_method_5_code 5 (some (.object "com/example/tasks_to_members/taskstomembers/core/TaskAssignor")) ws ({ frames := 2, cells := 1, slots := 2, locals := 28 } : Room) Z consts_1 vm0 h0 #[(.ref y)] (fun rv vm h => rv = some (own_nm ak ah cs) ∧ Keep h0 h []) := by
  obtain ⟨hw, hEL, ⟨zc, Scs, hzc⟩, ⟨fm, Sfm, hfm⟩, hK0⟩ := id cx
  have hSA := own_SA hw
  refine Met.of_walk (a0 := a0) #[.val (.ref y), .unset, .unset, .unset, .unset] (plainFor_of_name own_pn34) X00 hEL (fun m => by first | (simp [entryFrame, mkF, argsToLocals, Value.category]; done) | rfl) ?_
  intro p e s m below meth c vm hx hby hml hret hnm hC0
  have lt_y : h0.size > y := P0.1.lt
  have lt_t : h0.size > t := P0.tlt
  obtain ⟨Sva, Eva, Vva, Sak, Eak, Sah, Eah, Fnk, Snk, Fnh, Snh⟩ := id hK
  refine ginfo fun _ _ O1 => ?_
  have Eva_1 := Eva.ext O1
  have Vva_1 := Vva.ext O1
  have Eak_1 := Eak.ext O1
  have Eah_1 := Eah.ext O1
  have Fnk_1 := Fnk.ext O1
  have Snk_1 := Snk.ext O1
  have Fnh_1 := Fnh.ext O1
  have Snh_1 := Snh.ext O1
  have lt_va : h0.size > va := Eva_1.lt
  have lt_ak : h0.size > ak := Eak_1.lt
  have lt_ah : h0.size > ah := Eah_1.lt
  have lt_nk : h0.size > nk := Snk_1.1.lt
  have lt_tk : h0.size > tk := Snk_1.tlt
  have lt_nh : h0.size > nh := Snh_1.1.lt
  have lt_th : h0.size > th := Snh_1.tlt
  by_cases c1 : [(115 : Int32), (116 : Int32), (105 : Int32), (99 : Int32), (107 : Int32), (121 : Int32)] = cs
  · refine ginfo fun _ _ O2 => ?_
    refine gcallS (y := (⟨"com/example/tasks_to_members/taskstomembers/core/TaskAssignor", "values", "()[Lcom/example/tasks_to_members/taskstomembers/core/TaskAssignor;"⟩ : MethodName)) hx (ow hw 34 rfl) (ow hw 35 rfl) (ow hw 32 rfl) (ow hw 36 rfl) (by decide) (fun hZ H hEL => Pay.of_met (W := 0) (own_values l Z a0 cx [] (va) (ak) (ah) (nk) (nh) (tk) (th) (kv) vm h0 O2 (by first | assumption | decide | omega)) (ow hw 36 rfl) (ow hw 32 rfl) (by decide) (by decide) hZ H hEL) 3 (argsL := []) (rest := []) (lenOf own_pd40 rfl) rfl rfl (Nat.le_of_eq rfl) (by rw [hml]; rfl) (hb hby own_d_prog_7_method_5_0) rfl (by decide) (by decide) ?_
    rintro _ vm2 h2 C2 ⟨r2, rfl, K2, q2_0, q2_1, q2_2⟩
    have z2 := C2.2.1
    have lt_r2 : h2.size > r2 := q2_1.lt
    refine gat (mkF m 3 #[.val (.ref y), .unset, .unset, .unset, .unset] [(.ref r2)]) rfl ?_
    refine gs (mkF m 4 #[.val (.ref y), .val (.ref r2), .unset, .unset, .unset] []) (fun _ _ A kq => XS.astoreN A hx rfl (hb hby own_d_prog_7_method_5_3) rfl rfl (l' := #[.val (.ref y), .val (.ref r2), .unset, .unset, .unset]) rfl kq) ?_
    refine gs (mkF m 5 #[.val (.ref y), .val (.ref r2), .unset, .unset, .unset] [(.ref r2)]) (fun _ _ A kq => XS.aloadN A hx rfl (hb hby own_d_prog_7_method_5_4) rfl rfl kq) ?_
    refine glen hx q2_2 6 (hb hby own_d_prog_7_method_5_5) rfl ?_
    refine gs (mkF m 7 #[.val (.ref y), .val (.ref r2), .val (.int (2 : Int32)), .unset, .unset] []) (fun _ _ A kq => XS.istoreN A hx rfl (hb hby own_d_prog_7_method_5_6) rfl (l' := #[.val (.ref y), .val (.ref r2), .val (.int (2 : Int32)), .unset, .unset]) rfl kq) ?_
    refine gs (mkF m 8 #[.val (.ref y), .val (.ref r2), .val (.int (2 : Int32)), .unset, .unset] [(.int (0 : Int32))]) (fun _ _ A kq => XS.iconst A hx rfl (hb hby own_d_prog_7_method_5_7) kq) ?_
    refine gs (mkF m 9 #[.val (.ref y), .val (.ref r2), .val (.int (2 : Int32)), .val (.int (0 : Int32)), .unset] []) (fun _ _ A kq => XS.istoreN A hx rfl (hb hby own_d_prog_7_method_5_8) rfl (l' := #[.val (.ref y), .val (.ref r2), .val (.int (2 : Int32)), .val (.int (0 : Int32)), .unset]) rfl kq) ?_
    refine gs (mkF m 10 #[.val (.ref y), .val (.ref r2), .val (.int (2 : Int32)), .val (.int (0 : Int32)), .unset] [(.int (0 : Int32))]) (fun _ _ A kq => XS.iloadN A hx rfl (hb hby own_d_prog_7_method_5_9) rfl  kq) ?_
    refine gs (mkF m 11 #[.val (.ref y), .val (.ref r2), .val (.int (2 : Int32)), .val (.int (0 : Int32)), .unset] [(.int (2 : Int32)), (.int (0 : Int32))]) (fun _ _ A kq => XS.iloadN A hx rfl (hb hby own_d_prog_7_method_5_10) rfl  kq) ?_
    refine gs (mkF m 14 #[.val (.ref y), .val (.ref r2), .val (.int (2 : Int32)), .val (.int (0 : Int32)), .unset] []) (fun _ _ A kq => XS.icmpNo A hx rfl (hb hby own_d_prog_7_method_5_11) rfl (tlt (by decide)).2.1 kq) ?_
    refine gs (mkF m 15 #[.val (.ref y), .val (.ref r2), .val (.int (2 : Int32)), .val (.int (0 : Int32)), .unset] [(.ref r2)]) (fun _ _ A kq => XS.aloadN A hx rfl (hb hby own_d_prog_7_method_5_14) rfl rfl kq) ?_
    refine gs (mkF m 16 #[.val (.ref y), .val (.ref r2), .val (.int (2 : Int32)), .val (.int (0 : Int32)), .unset] [(.int (0 : Int32)), (.ref r2)]) (fun _ _ A kq => XS.iloadN A hx rfl (hb hby own_d_prog_7_method_5_15) rfl  kq) ?_
    refine gldR hx q2_2 ⟨by decide, by decide⟩ (i := 0) rfl (v := (.ref ak)) rfl 17 (hb hby own_d_prog_7_method_5_16) rfl ?_
    refine gs (mkF m 19 #[.val (.ref y), .val (.ref r2), .val (.int (2 : Int32)), .val (.int (0 : Int32)), .val (.ref ak)] []) (fun _ _ A kq => XS.astore A hx rfl (hb hby own_d_prog_7_method_5_17) rfl rfl (l' := #[.val (.ref y), .val (.ref r2), .val (.int (2 : Int32)), .val (.int (0 : Int32)), .val (.ref ak)]) rfl kq) ?_
    refine gs (mkF m 21 #[.val (.ref y), .val (.ref r2), .val (.int (2 : Int32)), .val (.int (0 : Int32)), .val (.ref ak)] [(.ref ak)]) (fun _ _ A kq => XS.aload A hx rfl (hb hby own_d_prog_7_method_5_19) rfl rfl kq) ?_
    have f3 := (Fnk_1.keep K2 nin0)
    refine ggetF (host := "") hx (Or.inl (ow hw 51 rfl)) Via.refl f3 24 (hb hby own_d_prog_7_method_5_21) rfl ?_
    refine gs (mkF m 25 #[.val (.ref y), .val (.ref r2), .val (.int (2 : Int32)), .val (.int (0 : Int32)), .val (.ref ak)] [(.ref y), (.ref nk)]) (fun _ _ A kq => XS.aloadN A hx rfl (hb hby own_d_prog_7_method_5_24) rfl rfl kq) ?_
    have f5 := (Snk_1.keep K2 nin0 nin0)
    have f6 := (P0.keep K2 nin0 nin0)
    refine ginfo fun _ _ O4 => ?_
    refine gcallV (y := (⟨"java/lang/String", "equals", "(Ljava/lang/Object;)Z"⟩ : MethodName)) (z := (⟨"java/lang/String", "equals", "(Ljava/lang/Object;)Z"⟩ : MethodName)) hx (ow hw 53 rfl) (ow hw 54 rfl) (nfSel (ow hw 56 rfl)) (ow hw 56 rfl) (ow hw 55 rfl) (by decide) (fun hZ H hEL => own_payEqT (W := 0) (own_wEq hw) (ow hw 2 rfl) Scs hzc O4 f5 f6 c1 (by decide) (by decide) hZ H hEL) 28 (argsL := [(.ref y)]) (rest := []) f5.1 (lenOf own_pd58 rfl) rfl rfl (Nat.le_of_eq rfl) (by rw [hml]; rfl) (hb hby own_d_prog_7_method_5_25) rfl (by decide) (by decide) ?_
    rintro _ vm4 h4 C4 ⟨rfl, rfl⟩
    have z4 := C4.2.1
    refine gat (mkF m 28 #[.val (.ref y), .val (.ref r2), .val (.int (2 : Int32)), .val (.int (0 : Int32)), .val (.ref ak)] [(.int (1 : Int32))]) rfl ?_
    refine gs (mkF m 31 #[.val (.ref y), .val (.ref r2), .val (.int (2 : Int32)), .val (.int (0 : Int32)), .val (.ref ak)] []) (fun _ _ A kq => XS.ifNo A hx rfl (hb hby own_d_prog_7_method_5_28) rfl ((if0 _ _).trans (feq (by decide)).1) kq) ?_
    refine gs (mkF m 33 #[.val (.ref y), .val (.ref r2), .val (.int (2 : Int32)), .val (.int (0 : Int32)), .val (.ref ak)] [(.ref ak)]) (fun _ _ A kq => XS.aload A hx rfl (hb hby own_d_prog_7_method_5_31) rfl rfl kq) ?_
    exact gretA hx hret rfl rfl (hb hby own_d_prog_7_method_5_33) (by decide) (by decide) (fun vq Cq => ⟨(by rw [own_nm, if_pos c1]), ((Keep.refl h0 []).trans K2 all0)⟩)
  · by_cases c2 : [(104 : Int32), (105 : Int32), (103 : Int32), (104 : Int32), (108 : Int32), (121 : Int32), (95 : Int32), (97 : Int32), (118 : Int32), (97 : Int32), (105 : Int32), (108 : Int32), (97 : Int32), (98 : Int32), (108 : Int32), (101 : Int32)] = cs
    · refine ginfo fun _ _ O8 => ?_
      refine gcallS (y := (⟨"com/example/tasks_to_members/taskstomembers/core/TaskAssignor", "values", "()[Lcom/example/tasks_to_members/taskstomembers/core/TaskAssignor;"⟩ : MethodName)) hx (ow hw 34 rfl) (ow hw 35 rfl) (ow hw 32 rfl) (ow hw 36 rfl) (by decide) (fun hZ H hEL => Pay.of_met (W := 0) (own_values l Z a0 cx [] (va) (ak) (ah) (nk) (nh) (tk) (th) (kv) vm h0 O8 (by first | assumption | decide | omega)) (ow hw 36 rfl) (ow hw 32 rfl) (by decide) (by decide) hZ H hEL) 3 (argsL := []) (rest := []) (lenOf own_pd40 rfl) rfl rfl (Nat.le_of_eq rfl) (by rw [hml]; rfl) (hb hby own_d_prog_7_method_5_0) rfl (by decide) (by decide) ?_
      rintro _ vm8 h8 C8 ⟨r8, rfl, K8, q8_0, q8_1, q8_2⟩
      have z8 := C8.2.1
      have lt_r8 : h8.size > r8 := q8_1.lt
      refine gat (mkF m 3 #[.val (.ref y), .unset, .unset, .unset, .unset] [(.ref r8)]) rfl ?_
      refine gs (mkF m 4 #[.val (.ref y), .val (.ref r8), .unset, .unset, .unset] []) (fun _ _ A kq => XS.astoreN A hx rfl (hb hby own_d_prog_7_method_5_3) rfl rfl (l' := #[.val (.ref y), .val (.ref r8), .unset, .unset, .unset]) rfl kq) ?_
      refine gs (mkF m 5 #[.val (.ref y), .val (.ref r8), .unset, .unset, .unset] [(.ref r8)]) (fun _ _ A kq => XS.aloadN A hx rfl (hb hby own_d_prog_7_method_5_4) rfl rfl kq) ?_
      refine glen hx q8_2 6 (hb hby own_d_prog_7_method_5_5) rfl ?_
      refine gs (mkF m 7 #[.val (.ref y), .val (.ref r8), .val (.int (2 : Int32)), .unset, .unset] []) (fun _ _ A kq => XS.istoreN A hx rfl (hb hby own_d_prog_7_method_5_6) rfl (l' := #[.val (.ref y), .val (.ref r8), .val (.int (2 : Int32)), .unset, .unset]) rfl kq) ?_
      refine gs (mkF m 8 #[.val (.ref y), .val (.ref r8), .val (.int (2 : Int32)), .unset, .unset] [(.int (0 : Int32))]) (fun _ _ A kq => XS.iconst A hx rfl (hb hby own_d_prog_7_method_5_7) kq) ?_
      refine gs (mkF m 9 #[.val (.ref y), .val (.ref r8), .val (.int (2 : Int32)), .val (.int (0 : Int32)), .unset] []) (fun _ _ A kq => XS.istoreN A hx rfl (hb hby own_d_prog_7_method_5_8) rfl (l' := #[.val (.ref y), .val (.ref r8), .val (.int (2 : Int32)), .val (.int (0 : Int32)), .unset]) rfl kq) ?_
      refine gs (mkF m 10 #[.val (.ref y), .val (.ref r8), .val (.int (2 : Int32)), .val (.int (0 : Int32)), .unset] [(.int (0 : Int32))]) (fun _ _ A kq => XS.iloadN A hx rfl (hb hby own_d_prog_7_method_5_9) rfl  kq) ?_
      refine gs (mkF m 11 #[.val (.ref y), .val (.ref r8), .val (.int (2 : Int32)), .val (.int (0 : Int32)), .unset] [(.int (2 : Int32)), (.int (0 : Int32))]) (fun _ _ A kq => XS.iloadN A hx rfl (hb hby own_d_prog_7_method_5_10) rfl  kq) ?_
      refine gs (mkF m 14 #[.val (.ref y), .val (.ref r8), .val (.int (2 : Int32)), .val (.int (0 : Int32)), .unset] []) (fun _ _ A kq => XS.icmpNo A hx rfl (hb hby own_d_prog_7_method_5_11) rfl (tlt (by decide)).2.1 kq) ?_
      refine gs (mkF m 15 #[.val (.ref y), .val (.ref r8), .val (.int (2 : Int32)), .val (.int (0 : Int32)), .unset] [(.ref r8)]) (fun _ _ A kq => XS.aloadN A hx rfl (hb hby own_d_prog_7_method_5_14) rfl rfl kq) ?_
      refine gs (mkF m 16 #[.val (.ref y), .val (.ref r8), .val (.int (2 : Int32)), .val (.int (0 : Int32)), .unset] [(.int (0 : Int32)), (.ref r8)]) (fun _ _ A kq => XS.iloadN A hx rfl (hb hby own_d_prog_7_method_5_15) rfl  kq) ?_
      refine gldR hx q8_2 ⟨by decide, by decide⟩ (i := 0) rfl (v := (.ref ak)) rfl 17 (hb hby own_d_prog_7_method_5_16) rfl ?_
      refine gs (mkF m 19 #[.val (.ref y), .val (.ref r8), .val (.int (2 : Int32)), .val (.int (0 : Int32)), .val (.ref ak)] []) (fun _ _ A kq => XS.astore A hx rfl (hb hby own_d_prog_7_method_5_17) rfl rfl (l' := #[.val (.ref y), .val (.ref r8), .val (.int (2 : Int32)), .val (.int (0 : Int32)), .val (.ref ak)]) rfl kq) ?_
      refine gs (mkF m 21 #[.val (.ref y), .val (.ref r8), .val (.int (2 : Int32)), .val (.int (0 : Int32)), .val (.ref ak)] [(.ref ak)]) (fun _ _ A kq => XS.aload A hx rfl (hb hby own_d_prog_7_method_5_19) rfl rfl kq) ?_
      have f9 := (Fnk_1.keep K8 nin0)
      refine ggetF (host := "") hx (Or.inl (ow hw 51 rfl)) Via.refl f9 24 (hb hby own_d_prog_7_method_5_21) rfl ?_
      refine gs (mkF m 25 #[.val (.ref y), .val (.ref r8), .val (.int (2 : Int32)), .val (.int (0 : Int32)), .val (.ref ak)] [(.ref y), (.ref nk)]) (fun _ _ A kq => XS.aloadN A hx rfl (hb hby own_d_prog_7_method_5_24) rfl rfl kq) ?_
      have f11 := (Snk_1.keep K8 nin0 nin0)
      have f12 := (P0.keep K8 nin0 nin0)
      refine ginfo fun _ _ O10 => ?_
      refine gcallV (y := (⟨"java/lang/String", "equals", "(Ljava/lang/Object;)Z"⟩ : MethodName)) (z := (⟨"java/lang/String", "equals", "(Ljava/lang/Object;)Z"⟩ : MethodName)) hx (ow hw 53 rfl) (ow hw 54 rfl) (nfSel (ow hw 56 rfl)) (ow hw 56 rfl) (ow hw 55 rfl) (by decide) (fun hZ H hEL => own_payEqF (W := 0) (own_wEq hw) (ow hw 2 rfl) Scs hzc O10 f11 f12 c1 (by decide) (by decide) hZ H hEL) 28 (argsL := [(.ref y)]) (rest := []) f11.1 (lenOf own_pd58 rfl) rfl rfl (Nat.le_of_eq rfl) (by rw [hml]; rfl) (hb hby own_d_prog_7_method_5_25) rfl (by decide) (by decide) ?_
      rintro _ vm10 h10 C10 ⟨rfl, rfl⟩
      have z10 := C10.2.1
      refine gat (mkF m 28 #[.val (.ref y), .val (.ref r8), .val (.int (2 : Int32)), .val (.int (0 : Int32)), .val (.ref ak)] [(.int (0 : Int32))]) rfl ?_
      refine gs (mkF m 34 #[.val (.ref y), .val (.ref r8), .val (.int (2 : Int32)), .val (.int (0 : Int32)), .val (.ref ak)] []) (fun _ _ A kq => XS.ifYes A hx rfl (pc0 := 28) (pc' := 34) rfl (hb hby own_d_prog_7_method_5_28) rfl ((if0 _ _).trans (teq (by decide)).1) (by decide) (by decide) kq) ?_
      refine gs (mkF m 37 #[.val (.ref y), .val (.ref r8), .val (.int (2 : Int32)), .val (.int (1 : Int32)), .val (.ref ak)] []) (fun _ _ A kq => XS.iinc A hx rfl (hb hby own_d_prog_7_method_5_34) rfl (l' := #[.val (.ref y), .val (.ref r8), .val (.int (2 : Int32)), .val (.int (1 : Int32)), .val (.ref ak)]) rfl kq) ?_
      refine gs (mkF m 9 #[.val (.ref y), .val (.ref r8), .val (.int (2 : Int32)), .val (.int (1 : Int32)), .val (.ref ak)] []) (fun _ _ A kq => XS.goto A hx rfl (pc0 := 37) (pc' := 9) rfl (hb hby own_d_prog_7_method_5_37) (by decide) (by decide) kq) ?_
      refine gs (mkF m 10 #[.val (.ref y), .val (.ref r8), .val (.int (2 : Int32)), .val (.int (1 : Int32)), .val (.ref ak)] [(.int (1 : Int32))]) (fun _ _ A kq => XS.iloadN A hx rfl (hb hby own_d_prog_7_method_5_9) rfl  kq) ?_
      refine gs (mkF m 11 #[.val (.ref y), .val (.ref r8), .val (.int (2 : Int32)), .val (.int (1 : Int32)), .val (.ref ak)] [(.int (2 : Int32)), (.int (1 : Int32))]) (fun _ _ A kq => XS.iloadN A hx rfl (hb hby own_d_prog_7_method_5_10) rfl  kq) ?_
      refine gs (mkF m 14 #[.val (.ref y), .val (.ref r8), .val (.int (2 : Int32)), .val (.int (1 : Int32)), .val (.ref ak)] []) (fun _ _ A kq => XS.icmpNo A hx rfl (hb hby own_d_prog_7_method_5_11) rfl (tlt (by decide)).2.1 kq) ?_
      refine gs (mkF m 15 #[.val (.ref y), .val (.ref r8), .val (.int (2 : Int32)), .val (.int (1 : Int32)), .val (.ref ak)] [(.ref r8)]) (fun _ _ A kq => XS.aloadN A hx rfl (hb hby own_d_prog_7_method_5_14) rfl rfl kq) ?_
      refine gs (mkF m 16 #[.val (.ref y), .val (.ref r8), .val (.int (2 : Int32)), .val (.int (1 : Int32)), .val (.ref ak)] [(.int (1 : Int32)), (.ref r8)]) (fun _ _ A kq => XS.iloadN A hx rfl (hb hby own_d_prog_7_method_5_15) rfl  kq) ?_
      refine gldR hx q8_2 ⟨by decide, by decide⟩ (i := 1) rfl (v := (.ref ah)) rfl 17 (hb hby own_d_prog_7_method_5_16) rfl ?_
      refine gs (mkF m 19 #[.val (.ref y), .val (.ref r8), .val (.int (2 : Int32)), .val (.int (1 : Int32)), .val (.ref ah)] []) (fun _ _ A kq => XS.astore A hx rfl (hb hby own_d_prog_7_method_5_17) rfl rfl (l' := #[.val (.ref y), .val (.ref r8), .val (.int (2 : Int32)), .val (.int (1 : Int32)), .val (.ref ah)]) rfl kq) ?_
      refine gs (mkF m 21 #[.val (.ref y), .val (.ref r8), .val (.int (2 : Int32)), .val (.int (1 : Int32)), .val (.ref ah)] [(.ref ah)]) (fun _ _ A kq => XS.aload A hx rfl (hb hby own_d_prog_7_method_5_19) rfl rfl kq) ?_
      have f13 := (Fnh_1.keep K8 nin0)
      refine ggetF (host := "") hx (Or.inl (ow hw 51 rfl)) Via.refl f13 24 (hb hby own_d_prog_7_method_5_21) rfl ?_
      refine gs (mkF m 25 #[.val (.ref y), .val (.ref r8), .val (.int (2 : Int32)), .val (.int (1 : Int32)), .val (.ref ah)] [(.ref y), (.ref nh)]) (fun _ _ A kq => XS.aloadN A hx rfl (hb hby own_d_prog_7_method_5_24) rfl rfl kq) ?_
      have f15 := (Snh_1.keep K8 nin0 nin0)
      refine ginfo fun _ _ O14 => ?_
      refine gcallV (y := (⟨"java/lang/String", "equals", "(Ljava/lang/Object;)Z"⟩ : MethodName)) (z := (⟨"java/lang/String", "equals", "(Ljava/lang/Object;)Z"⟩ : MethodName)) hx (ow hw 53 rfl) (ow hw 54 rfl) (nfSel (ow hw 56 rfl)) (ow hw 56 rfl) (ow hw 55 rfl) (by decide) (fun hZ H hEL => own_payEqT (W := 0) (own_wEq hw) (ow hw 2 rfl) Scs hzc O14 f15 f12 c2 (by decide) (by decide) hZ H hEL) 28 (argsL := [(.ref y)]) (rest := []) f15.1 (lenOf own_pd58 rfl) rfl rfl (Nat.le_of_eq rfl) (by rw [hml]; rfl) (hb hby own_d_prog_7_method_5_25) rfl (by decide) (by decide) ?_
      rintro _ vm14 h14 C14 ⟨rfl, rfl⟩
      have z14 := C14.2.1
      refine gat (mkF m 28 #[.val (.ref y), .val (.ref r8), .val (.int (2 : Int32)), .val (.int (1 : Int32)), .val (.ref ah)] [(.int (1 : Int32))]) rfl ?_
      refine gs (mkF m 31 #[.val (.ref y), .val (.ref r8), .val (.int (2 : Int32)), .val (.int (1 : Int32)), .val (.ref ah)] []) (fun _ _ A kq => XS.ifNo A hx rfl (hb hby own_d_prog_7_method_5_28) rfl ((if0 _ _).trans (feq (by decide)).1) kq) ?_
      refine gs (mkF m 33 #[.val (.ref y), .val (.ref r8), .val (.int (2 : Int32)), .val (.int (1 : Int32)), .val (.ref ah)] [(.ref ah)]) (fun _ _ A kq => XS.aload A hx rfl (hb hby own_d_prog_7_method_5_31) rfl rfl kq) ?_
      exact gretA hx hret rfl rfl (hb hby own_d_prog_7_method_5_33) (by decide) (by decide) (fun vq Cq => ⟨(by rw [own_nm, if_neg c1, if_pos c2]), ((Keep.refl h0 []).trans K8 all0)⟩)
    · refine ginfo fun _ _ O17 => ?_
      refine gcallS (y := (⟨"com/example/tasks_to_members/taskstomembers/core/TaskAssignor", "values", "()[Lcom/example/tasks_to_members/taskstomembers/core/TaskAssignor;"⟩ : MethodName)) hx (ow hw 34 rfl) (ow hw 35 rfl) (ow hw 32 rfl) (ow hw 36 rfl) (by decide) (fun hZ H hEL => Pay.of_met (W := 0) (own_values l Z a0 cx [] (va) (ak) (ah) (nk) (nh) (tk) (th) (kv) vm h0 O17 (by first | assumption | decide | omega)) (ow hw 36 rfl) (ow hw 32 rfl) (by decide) (by decide) hZ H hEL) 3 (argsL := []) (rest := []) (lenOf own_pd40 rfl) rfl rfl (Nat.le_of_eq rfl) (by rw [hml]; rfl) (hb hby own_d_prog_7_method_5_0) rfl (by decide) (by decide) ?_
      rintro _ vm17 h17 C17 ⟨r17, rfl, K17, q17_0, q17_1, q17_2⟩
      have z17 := C17.2.1
      have lt_r17 : h17.size > r17 := q17_1.lt
      refine gat (mkF m 3 #[.val (.ref y), .unset, .unset, .unset, .unset] [(.ref r17)]) rfl ?_
      refine gs (mkF m 4 #[.val (.ref y), .val (.ref r17), .unset, .unset, .unset] []) (fun _ _ A kq => XS.astoreN A hx rfl (hb hby own_d_prog_7_method_5_3) rfl rfl (l' := #[.val (.ref y), .val (.ref r17), .unset, .unset, .unset]) rfl kq) ?_
      refine gs (mkF m 5 #[.val (.ref y), .val (.ref r17), .unset, .unset, .unset] [(.ref r17)]) (fun _ _ A kq => XS.aloadN A hx rfl (hb hby own_d_prog_7_method_5_4) rfl rfl kq) ?_
      refine glen hx q17_2 6 (hb hby own_d_prog_7_method_5_5) rfl ?_
      refine gs (mkF m 7 #[.val (.ref y), .val (.ref r17), .val (.int (2 : Int32)), .unset, .unset] []) (fun _ _ A kq => XS.istoreN A hx rfl (hb hby own_d_prog_7_method_5_6) rfl (l' := #[.val (.ref y), .val (.ref r17), .val (.int (2 : Int32)), .unset, .unset]) rfl kq) ?_
      refine gs (mkF m 8 #[.val (.ref y), .val (.ref r17), .val (.int (2 : Int32)), .unset, .unset] [(.int (0 : Int32))]) (fun _ _ A kq => XS.iconst A hx rfl (hb hby own_d_prog_7_method_5_7) kq) ?_
      refine gs (mkF m 9 #[.val (.ref y), .val (.ref r17), .val (.int (2 : Int32)), .val (.int (0 : Int32)), .unset] []) (fun _ _ A kq => XS.istoreN A hx rfl (hb hby own_d_prog_7_method_5_8) rfl (l' := #[.val (.ref y), .val (.ref r17), .val (.int (2 : Int32)), .val (.int (0 : Int32)), .unset]) rfl kq) ?_
      refine gs (mkF m 10 #[.val (.ref y), .val (.ref r17), .val (.int (2 : Int32)), .val (.int (0 : Int32)), .unset] [(.int (0 : Int32))]) (fun _ _ A kq => XS.iloadN A hx rfl (hb hby own_d_prog_7_method_5_9) rfl  kq) ?_
      refine gs (mkF m 11 #[.val (.ref y), .val (.ref r17), .val (.int (2 : Int32)), .val (.int (0 : Int32)), .unset] [(.int (2 : Int32)), (.int (0 : Int32))]) (fun _ _ A kq => XS.iloadN A hx rfl (hb hby own_d_prog_7_method_5_10) rfl  kq) ?_
      refine gs (mkF m 14 #[.val (.ref y), .val (.ref r17), .val (.int (2 : Int32)), .val (.int (0 : Int32)), .unset] []) (fun _ _ A kq => XS.icmpNo A hx rfl (hb hby own_d_prog_7_method_5_11) rfl (tlt (by decide)).2.1 kq) ?_
      refine gs (mkF m 15 #[.val (.ref y), .val (.ref r17), .val (.int (2 : Int32)), .val (.int (0 : Int32)), .unset] [(.ref r17)]) (fun _ _ A kq => XS.aloadN A hx rfl (hb hby own_d_prog_7_method_5_14) rfl rfl kq) ?_
      refine gs (mkF m 16 #[.val (.ref y), .val (.ref r17), .val (.int (2 : Int32)), .val (.int (0 : Int32)), .unset] [(.int (0 : Int32)), (.ref r17)]) (fun _ _ A kq => XS.iloadN A hx rfl (hb hby own_d_prog_7_method_5_15) rfl  kq) ?_
      refine gldR hx q17_2 ⟨by decide, by decide⟩ (i := 0) rfl (v := (.ref ak)) rfl 17 (hb hby own_d_prog_7_method_5_16) rfl ?_
      refine gs (mkF m 19 #[.val (.ref y), .val (.ref r17), .val (.int (2 : Int32)), .val (.int (0 : Int32)), .val (.ref ak)] []) (fun _ _ A kq => XS.astore A hx rfl (hb hby own_d_prog_7_method_5_17) rfl rfl (l' := #[.val (.ref y), .val (.ref r17), .val (.int (2 : Int32)), .val (.int (0 : Int32)), .val (.ref ak)]) rfl kq) ?_
      refine gs (mkF m 21 #[.val (.ref y), .val (.ref r17), .val (.int (2 : Int32)), .val (.int (0 : Int32)), .val (.ref ak)] [(.ref ak)]) (fun _ _ A kq => XS.aload A hx rfl (hb hby own_d_prog_7_method_5_19) rfl rfl kq) ?_
      have f18 := (Fnk_1.keep K17 nin0)
      refine ggetF (host := "") hx (Or.inl (ow hw 51 rfl)) Via.refl f18 24 (hb hby own_d_prog_7_method_5_21) rfl ?_
      refine gs (mkF m 25 #[.val (.ref y), .val (.ref r17), .val (.int (2 : Int32)), .val (.int (0 : Int32)), .val (.ref ak)] [(.ref y), (.ref nk)]) (fun _ _ A kq => XS.aloadN A hx rfl (hb hby own_d_prog_7_method_5_24) rfl rfl kq) ?_
      have f20 := (Snk_1.keep K17 nin0 nin0)
      have f21 := (P0.keep K17 nin0 nin0)
      refine ginfo fun _ _ O19 => ?_
      refine gcallV (y := (⟨"java/lang/String", "equals", "(Ljava/lang/Object;)Z"⟩ : MethodName)) (z := (⟨"java/lang/String", "equals", "(Ljava/lang/Object;)Z"⟩ : MethodName)) hx (ow hw 53 rfl) (ow hw 54 rfl) (nfSel (ow hw 56 rfl)) (ow hw 56 rfl) (ow hw 55 rfl) (by decide) (fun hZ H hEL => own_payEqF (W := 0) (own_wEq hw) (ow hw 2 rfl) Scs hzc O19 f20 f21 c1 (by decide) (by decide) hZ H hEL) 28 (argsL := [(.ref y)]) (rest := []) f20.1 (lenOf own_pd58 rfl) rfl rfl (Nat.le_of_eq rfl) (by rw [hml]; rfl) (hb hby own_d_prog_7_method_5_25) rfl (by decide) (by decide) ?_
      rintro _ vm19 h19 C19 ⟨rfl, rfl⟩
      have z19 := C19.2.1
      refine gat (mkF m 28 #[.val (.ref y), .val (.ref r17), .val (.int (2 : Int32)), .val (.int (0 : Int32)), .val (.ref ak)] [(.int (0 : Int32))]) rfl ?_
      refine gs (mkF m 34 #[.val (.ref y), .val (.ref r17), .val (.int (2 : Int32)), .val (.int (0 : Int32)), .val (.ref ak)] []) (fun _ _ A kq => XS.ifYes A hx rfl (pc0 := 28) (pc' := 34) rfl (hb hby own_d_prog_7_method_5_28) rfl ((if0 _ _).trans (teq (by decide)).1) (by decide) (by decide) kq) ?_
      refine gs (mkF m 37 #[.val (.ref y), .val (.ref r17), .val (.int (2 : Int32)), .val (.int (1 : Int32)), .val (.ref ak)] []) (fun _ _ A kq => XS.iinc A hx rfl (hb hby own_d_prog_7_method_5_34) rfl (l' := #[.val (.ref y), .val (.ref r17), .val (.int (2 : Int32)), .val (.int (1 : Int32)), .val (.ref ak)]) rfl kq) ?_
      refine gs (mkF m 9 #[.val (.ref y), .val (.ref r17), .val (.int (2 : Int32)), .val (.int (1 : Int32)), .val (.ref ak)] []) (fun _ _ A kq => XS.goto A hx rfl (pc0 := 37) (pc' := 9) rfl (hb hby own_d_prog_7_method_5_37) (by decide) (by decide) kq) ?_
      refine gs (mkF m 10 #[.val (.ref y), .val (.ref r17), .val (.int (2 : Int32)), .val (.int (1 : Int32)), .val (.ref ak)] [(.int (1 : Int32))]) (fun _ _ A kq => XS.iloadN A hx rfl (hb hby own_d_prog_7_method_5_9) rfl  kq) ?_
      refine gs (mkF m 11 #[.val (.ref y), .val (.ref r17), .val (.int (2 : Int32)), .val (.int (1 : Int32)), .val (.ref ak)] [(.int (2 : Int32)), (.int (1 : Int32))]) (fun _ _ A kq => XS.iloadN A hx rfl (hb hby own_d_prog_7_method_5_10) rfl  kq) ?_
      refine gs (mkF m 14 #[.val (.ref y), .val (.ref r17), .val (.int (2 : Int32)), .val (.int (1 : Int32)), .val (.ref ak)] []) (fun _ _ A kq => XS.icmpNo A hx rfl (hb hby own_d_prog_7_method_5_11) rfl (tlt (by decide)).2.1 kq) ?_
      refine gs (mkF m 15 #[.val (.ref y), .val (.ref r17), .val (.int (2 : Int32)), .val (.int (1 : Int32)), .val (.ref ak)] [(.ref r17)]) (fun _ _ A kq => XS.aloadN A hx rfl (hb hby own_d_prog_7_method_5_14) rfl rfl kq) ?_
      refine gs (mkF m 16 #[.val (.ref y), .val (.ref r17), .val (.int (2 : Int32)), .val (.int (1 : Int32)), .val (.ref ak)] [(.int (1 : Int32)), (.ref r17)]) (fun _ _ A kq => XS.iloadN A hx rfl (hb hby own_d_prog_7_method_5_15) rfl  kq) ?_
      refine gldR hx q17_2 ⟨by decide, by decide⟩ (i := 1) rfl (v := (.ref ah)) rfl 17 (hb hby own_d_prog_7_method_5_16) rfl ?_
      refine gs (mkF m 19 #[.val (.ref y), .val (.ref r17), .val (.int (2 : Int32)), .val (.int (1 : Int32)), .val (.ref ah)] []) (fun _ _ A kq => XS.astore A hx rfl (hb hby own_d_prog_7_method_5_17) rfl rfl (l' := #[.val (.ref y), .val (.ref r17), .val (.int (2 : Int32)), .val (.int (1 : Int32)), .val (.ref ah)]) rfl kq) ?_
      refine gs (mkF m 21 #[.val (.ref y), .val (.ref r17), .val (.int (2 : Int32)), .val (.int (1 : Int32)), .val (.ref ah)] [(.ref ah)]) (fun _ _ A kq => XS.aload A hx rfl (hb hby own_d_prog_7_method_5_19) rfl rfl kq) ?_
      have f22 := (Fnh_1.keep K17 nin0)
      refine ggetF (host := "") hx (Or.inl (ow hw 51 rfl)) Via.refl f22 24 (hb hby own_d_prog_7_method_5_21) rfl ?_
      refine gs (mkF m 25 #[.val (.ref y), .val (.ref r17), .val (.int (2 : Int32)), .val (.int (1 : Int32)), .val (.ref ah)] [(.ref y), (.ref nh)]) (fun _ _ A kq => XS.aloadN A hx rfl (hb hby own_d_prog_7_method_5_24) rfl rfl kq) ?_
      have f24 := (Snh_1.keep K17 nin0 nin0)
      refine ginfo fun _ _ O23 => ?_
      refine gcallV (y := (⟨"java/lang/String", "equals", "(Ljava/lang/Object;)Z"⟩ : MethodName)) (z := (⟨"java/lang/String", "equals", "(Ljava/lang/Object;)Z"⟩ : MethodName)) hx (ow hw 53 rfl) (ow hw 54 rfl) (nfSel (ow hw 56 rfl)) (ow hw 56 rfl) (ow hw 55 rfl) (by decide) (fun hZ H hEL => own_payEqF (W := 0) (own_wEq hw) (ow hw 2 rfl) Scs hzc O23 f24 f21 c2 (by decide) (by decide) hZ H hEL) 28 (argsL := [(.ref y)]) (rest := []) f24.1 (lenOf own_pd58 rfl) rfl rfl (Nat.le_of_eq rfl) (by rw [hml]; rfl) (hb hby own_d_prog_7_method_5_25) rfl (by decide) (by decide) ?_
      rintro _ vm23 h23 C23 ⟨rfl, rfl⟩
      have z23 := C23.2.1
      refine gat (mkF m 28 #[.val (.ref y), .val (.ref r17), .val (.int (2 : Int32)), .val (.int (1 : Int32)), .val (.ref ah)] [(.int (0 : Int32))]) rfl ?_
      refine gs (mkF m 34 #[.val (.ref y), .val (.ref r17), .val (.int (2 : Int32)), .val (.int (1 : Int32)), .val (.ref ah)] []) (fun _ _ A kq => XS.ifYes A hx rfl (pc0 := 28) (pc' := 34) rfl (hb hby own_d_prog_7_method_5_28) rfl ((if0 _ _).trans (teq (by decide)).1) (by decide) (by decide) kq) ?_
      refine gs (mkF m 37 #[.val (.ref y), .val (.ref r17), .val (.int (2 : Int32)), .val (.int (2 : Int32)), .val (.ref ah)] []) (fun _ _ A kq => XS.iinc A hx rfl (hb hby own_d_prog_7_method_5_34) rfl (l' := #[.val (.ref y), .val (.ref r17), .val (.int (2 : Int32)), .val (.int (2 : Int32)), .val (.ref ah)]) rfl kq) ?_
      refine gs (mkF m 9 #[.val (.ref y), .val (.ref r17), .val (.int (2 : Int32)), .val (.int (2 : Int32)), .val (.ref ah)] []) (fun _ _ A kq => XS.goto A hx rfl (pc0 := 37) (pc' := 9) rfl (hb hby own_d_prog_7_method_5_37) (by decide) (by decide) kq) ?_
      refine gs (mkF m 10 #[.val (.ref y), .val (.ref r17), .val (.int (2 : Int32)), .val (.int (2 : Int32)), .val (.ref ah)] [(.int (2 : Int32))]) (fun _ _ A kq => XS.iloadN A hx rfl (hb hby own_d_prog_7_method_5_9) rfl  kq) ?_
      refine gs (mkF m 11 #[.val (.ref y), .val (.ref r17), .val (.int (2 : Int32)), .val (.int (2 : Int32)), .val (.ref ah)] [(.int (2 : Int32)), (.int (2 : Int32))]) (fun _ _ A kq => XS.iloadN A hx rfl (hb hby own_d_prog_7_method_5_10) rfl  kq) ?_
      refine gs (mkF m 40 #[.val (.ref y), .val (.ref r17), .val (.int (2 : Int32)), .val (.int (2 : Int32)), .val (.ref ah)] []) (fun _ _ A kq => XS.icmpYes A hx rfl (pc0 := 11) (pc' := 40) rfl (hb hby own_d_prog_7_method_5_11) rfl (flt (by decide)).2.1 (by decide) (by decide) kq) ?_
      refine gs (mkF m 41 #[.val (.ref y), .val (.ref r17), .val (.int (2 : Int32)), .val (.int (2 : Int32)), .val (.ref ah)] [.null]) (fun _ _ A kq => XS.aconstNull A hx rfl (hb hby own_d_prog_7_method_5_40) kq) ?_
      exact gretA hx hret rfl rfl (hb hby own_d_prog_7_method_5_41) (by decide) (by decide) (fun vq Cq => ⟨(by rw [own_nm, if_neg c1, if_neg c2]), ((Keep.refl h0 []).trans K17 all0)⟩)
set_option maxRecDepth 65536 in
set_option maxHeartbeats 40000000 in
theorem own_namedK (l : Launch) (Z : State) (a0 : Array Value) (cx : Ctx Z a0) (ws : List Jvm.Cond) (y : Addr) (t : Addr) (va : Addr) (ak : Addr) (ah : Addr) (nk : Addr) (nh : Addr) (tk : Addr) (th : Addr) (kv : ClassId) (vm0 : Vm) (h0 : Heap) (X00 : Ext Z.heap h0) (P0 : Str Z h0 y t [(115 : Int32), (116 : Int32), (105 : Int32), (99 : Int32), (107 : Int32), (121 : Int32)]) (hK : (OwnK Z va ak ah nk nh tk th kv)) :
    Met l (⟨"com/example/tasks_to_members/taskstomembers/core/TaskAssignor", "named", "(Ljava/lang/String;)Lcom/example/tasks_to_members/taskstomembers/core/TaskAssignor;"⟩ : MethodName) prog_7_method_5_code 5 (some (.object "com/example/tasks_to_members/taskstomembers/core/TaskAssignor")) ws ({ frames := 2, cells := 1, slots := 2, locals := 28 } : Room) Z consts_1 vm0 h0 #[(.ref y)] (fun rv vm h => rv = some (.ref ak) ∧ Keep h0 h []) := by
  obtain ⟨hw, hEL, ⟨zc, Scs, hzc⟩, ⟨fm, Sfm, hfm⟩, hK0⟩ := id cx
  have hSA := own_SA hw
  refine Met.of_walk (a0 := a0) #[.val (.ref y), .unset, .unset, .unset, .unset] (plainFor_of_name own_pn34) X00 hEL (fun m => by first | (simp [entryFrame, mkF, argsToLocals, Value.category]; done) | rfl) ?_
  intro p e s m below meth c vm hx hby hml hret hnm hC0
  have lt_y : h0.size > y := P0.1.lt
  have lt_t : h0.size > t := P0.tlt
  obtain ⟨Sva, Eva, Vva, Sak, Eak, Sah, Eah, Fnk, Snk, Fnh, Snh⟩ := id hK
  refine ginfo fun _ _ O1 => ?_
  have Eva_1 := Eva.ext O1
  have Vva_1 := Vva.ext O1
  have Eak_1 := Eak.ext O1
  have Eah_1 := Eah.ext O1
  have Fnk_1 := Fnk.ext O1
  have Snk_1 := Snk.ext O1
  have Fnh_1 := Fnh.ext O1
  have Snh_1 := Snh.ext O1
  have lt_va : h0.size > va := Eva_1.lt
  have lt_ak : h0.size > ak := Eak_1.lt
  have lt_ah : h0.size > ah := Eah_1.lt
  have lt_nk : h0.size > nk := Snk_1.1.lt
  have lt_tk : h0.size > tk := Snk_1.tlt
  have lt_nh : h0.size > nh := Snh_1.1.lt
  have lt_th : h0.size > th := Snh_1.tlt
  refine ginfo fun _ _ O2 => ?_
  refine gcallS (y := (⟨"com/example/tasks_to_members/taskstomembers/core/TaskAssignor", "values", "()[Lcom/example/tasks_to_members/taskstomembers/core/TaskAssignor;"⟩ : MethodName)) hx (ow hw 34 rfl) (ow hw 35 rfl) (ow hw 32 rfl) (ow hw 36 rfl) (by decide) (fun hZ H hEL => Pay.of_met (W := 0) (own_values l Z a0 cx [] (va) (ak) (ah) (nk) (nh) (tk) (th) (kv) vm h0 O2 (by first | assumption | decide | omega)) (ow hw 36 rfl) (ow hw 32 rfl) (by decide) (by decide) hZ H hEL) 3 (argsL := []) (rest := []) (lenOf own_pd40 rfl) rfl rfl (Nat.le_of_eq rfl) (by rw [hml]; rfl) (hb hby own_d_prog_7_method_5_0) rfl (by decide) (by decide) ?_
  rintro _ vm2 h2 C2 ⟨r2, rfl, K2, q2_0, q2_1, q2_2⟩
  have z2 := C2.2.1
  have lt_r2 : h2.size > r2 := q2_1.lt
  refine gat (mkF m 3 #[.val (.ref y), .unset, .unset, .unset, .unset] [(.ref r2)]) rfl ?_
  refine gs (mkF m 4 #[.val (.ref y), .val (.ref r2), .unset, .unset, .unset] []) (fun _ _ A kq => XS.astoreN A hx rfl (hb hby own_d_prog_7_method_5_3) rfl rfl (l' := #[.val (.ref y), .val (.ref r2), .unset, .unset, .unset]) rfl kq) ?_
  refine gs (mkF m 5 #[.val (.ref y), .val (.ref r2), .unset, .unset, .unset] [(.ref r2)]) (fun _ _ A kq => XS.aloadN A hx rfl (hb hby own_d_prog_7_method_5_4) rfl rfl kq) ?_
  refine glen hx q2_2 6 (hb hby own_d_prog_7_method_5_5) rfl ?_
  refine gs (mkF m 7 #[.val (.ref y), .val (.ref r2), .val (.int (2 : Int32)), .unset, .unset] []) (fun _ _ A kq => XS.istoreN A hx rfl (hb hby own_d_prog_7_method_5_6) rfl (l' := #[.val (.ref y), .val (.ref r2), .val (.int (2 : Int32)), .unset, .unset]) rfl kq) ?_
  refine gs (mkF m 8 #[.val (.ref y), .val (.ref r2), .val (.int (2 : Int32)), .unset, .unset] [(.int (0 : Int32))]) (fun _ _ A kq => XS.iconst A hx rfl (hb hby own_d_prog_7_method_5_7) kq) ?_
  refine gs (mkF m 9 #[.val (.ref y), .val (.ref r2), .val (.int (2 : Int32)), .val (.int (0 : Int32)), .unset] []) (fun _ _ A kq => XS.istoreN A hx rfl (hb hby own_d_prog_7_method_5_8) rfl (l' := #[.val (.ref y), .val (.ref r2), .val (.int (2 : Int32)), .val (.int (0 : Int32)), .unset]) rfl kq) ?_
  refine gs (mkF m 10 #[.val (.ref y), .val (.ref r2), .val (.int (2 : Int32)), .val (.int (0 : Int32)), .unset] [(.int (0 : Int32))]) (fun _ _ A kq => XS.iloadN A hx rfl (hb hby own_d_prog_7_method_5_9) rfl  kq) ?_
  refine gs (mkF m 11 #[.val (.ref y), .val (.ref r2), .val (.int (2 : Int32)), .val (.int (0 : Int32)), .unset] [(.int (2 : Int32)), (.int (0 : Int32))]) (fun _ _ A kq => XS.iloadN A hx rfl (hb hby own_d_prog_7_method_5_10) rfl  kq) ?_
  refine gs (mkF m 14 #[.val (.ref y), .val (.ref r2), .val (.int (2 : Int32)), .val (.int (0 : Int32)), .unset] []) (fun _ _ A kq => XS.icmpNo A hx rfl (hb hby own_d_prog_7_method_5_11) rfl (tlt (by decide)).2.1 kq) ?_
  refine gs (mkF m 15 #[.val (.ref y), .val (.ref r2), .val (.int (2 : Int32)), .val (.int (0 : Int32)), .unset] [(.ref r2)]) (fun _ _ A kq => XS.aloadN A hx rfl (hb hby own_d_prog_7_method_5_14) rfl rfl kq) ?_
  refine gs (mkF m 16 #[.val (.ref y), .val (.ref r2), .val (.int (2 : Int32)), .val (.int (0 : Int32)), .unset] [(.int (0 : Int32)), (.ref r2)]) (fun _ _ A kq => XS.iloadN A hx rfl (hb hby own_d_prog_7_method_5_15) rfl  kq) ?_
  refine gldR hx q2_2 ⟨by decide, by decide⟩ (i := 0) rfl (v := (.ref ak)) rfl 17 (hb hby own_d_prog_7_method_5_16) rfl ?_
  refine gs (mkF m 19 #[.val (.ref y), .val (.ref r2), .val (.int (2 : Int32)), .val (.int (0 : Int32)), .val (.ref ak)] []) (fun _ _ A kq => XS.astore A hx rfl (hb hby own_d_prog_7_method_5_17) rfl rfl (l' := #[.val (.ref y), .val (.ref r2), .val (.int (2 : Int32)), .val (.int (0 : Int32)), .val (.ref ak)]) rfl kq) ?_
  refine gs (mkF m 21 #[.val (.ref y), .val (.ref r2), .val (.int (2 : Int32)), .val (.int (0 : Int32)), .val (.ref ak)] [(.ref ak)]) (fun _ _ A kq => XS.aload A hx rfl (hb hby own_d_prog_7_method_5_19) rfl rfl kq) ?_
  have f3 := (Fnk_1.keep K2 nin0)
  refine ggetF (host := "") hx (Or.inl (ow hw 51 rfl)) Via.refl f3 24 (hb hby own_d_prog_7_method_5_21) rfl ?_
  refine gs (mkF m 25 #[.val (.ref y), .val (.ref r2), .val (.int (2 : Int32)), .val (.int (0 : Int32)), .val (.ref ak)] [(.ref y), (.ref nk)]) (fun _ _ A kq => XS.aloadN A hx rfl (hb hby own_d_prog_7_method_5_24) rfl rfl kq) ?_
  have f5 := (Snk_1.keep K2 nin0 nin0)
  have f6 := (P0.keep K2 nin0 nin0)
  refine ginfo fun _ _ O4 => ?_
  refine gcallV (y := (⟨"java/lang/String", "equals", "(Ljava/lang/Object;)Z"⟩ : MethodName)) (z := (⟨"java/lang/String", "equals", "(Ljava/lang/Object;)Z"⟩ : MethodName)) hx (ow hw 53 rfl) (ow hw 54 rfl) (nfSel (ow hw 56 rfl)) (ow hw 56 rfl) (ow hw 55 rfl) (by decide) (fun hZ H hEL => own_payEqT (W := 0) (own_wEq hw) (ow hw 2 rfl) Scs hzc O4 f5 f6 rfl (by decide) (by decide) hZ H hEL) 28 (argsL := [(.ref y)]) (rest := []) f5.1 (lenOf own_pd58 rfl) rfl rfl (Nat.le_of_eq rfl) (by rw [hml]; rfl) (hb hby own_d_prog_7_method_5_25) rfl (by decide) (by decide) ?_
  rintro _ vm4 h4 C4 ⟨rfl, rfl⟩
  have z4 := C4.2.1
  refine gat (mkF m 28 #[.val (.ref y), .val (.ref r2), .val (.int (2 : Int32)), .val (.int (0 : Int32)), .val (.ref ak)] [(.int (1 : Int32))]) rfl ?_
  refine gs (mkF m 31 #[.val (.ref y), .val (.ref r2), .val (.int (2 : Int32)), .val (.int (0 : Int32)), .val (.ref ak)] []) (fun _ _ A kq => XS.ifNo A hx rfl (hb hby own_d_prog_7_method_5_28) rfl ((if0 _ _).trans (feq (by decide)).1) kq) ?_
  refine gs (mkF m 33 #[.val (.ref y), .val (.ref r2), .val (.int (2 : Int32)), .val (.int (0 : Int32)), .val (.ref ak)] [(.ref ak)]) (fun _ _ A kq => XS.aload A hx rfl (hb hby own_d_prog_7_method_5_31) rfl rfl kq) ?_
  exact gretA hx hret rfl rfl (hb hby own_d_prog_7_method_5_33) (by decide) (by decide) (fun vq Cq => ⟨rfl, ((Keep.refl h0 []).trans K2 all0)⟩)
set_option maxRecDepth 65536 in
set_option maxHeartbeats 40000000 in
theorem own_namedH (l : Launch) (Z : State) (a0 : Array Value) (cx : Ctx Z a0) (ws : List Jvm.Cond) (y : Addr) (t : Addr) (va : Addr) (ak : Addr) (ah : Addr) (nk : Addr) (nh : Addr) (tk : Addr) (th : Addr) (kv : ClassId) (vm0 : Vm) (h0 : Heap) (X00 : Ext Z.heap h0) (P0 : Str Z h0 y t [(104 : Int32), (105 : Int32), (103 : Int32), (104 : Int32), (108 : Int32), (121 : Int32), (95 : Int32), (97 : Int32), (118 : Int32), (97 : Int32), (105 : Int32), (108 : Int32), (97 : Int32), (98 : Int32), (108 : Int32), (101 : Int32)]) (hK : (OwnK Z va ak ah nk nh tk th kv)) :
    Met l (⟨"com/example/tasks_to_members/taskstomembers/core/TaskAssignor", "named", "(Ljava/lang/String;)Lcom/example/tasks_to_members/taskstomembers/core/TaskAssignor;"⟩ : MethodName) prog_7_method_5_code 5 (some (.object "com/example/tasks_to_members/taskstomembers/core/TaskAssignor")) ws ({ frames := 2, cells := 1, slots := 2, locals := 28 } : Room) Z consts_1 vm0 h0 #[(.ref y)] (fun rv vm h => rv = some (.ref ah) ∧ Keep h0 h []) := by
  obtain ⟨hw, hEL, ⟨zc, Scs, hzc⟩, ⟨fm, Sfm, hfm⟩, hK0⟩ := id cx
  have hSA := own_SA hw
  refine Met.of_walk (a0 := a0) #[.val (.ref y), .unset, .unset, .unset, .unset] (plainFor_of_name own_pn34) X00 hEL (fun m => by first | (simp [entryFrame, mkF, argsToLocals, Value.category]; done) | rfl) ?_
  intro p e s m below meth c vm hx hby hml hret hnm hC0
  have lt_y : h0.size > y := P0.1.lt
  have lt_t : h0.size > t := P0.tlt
  obtain ⟨Sva, Eva, Vva, Sak, Eak, Sah, Eah, Fnk, Snk, Fnh, Snh⟩ := id hK
  refine ginfo fun _ _ O1 => ?_
  have Eva_1 := Eva.ext O1
  have Vva_1 := Vva.ext O1
  have Eak_1 := Eak.ext O1
  have Eah_1 := Eah.ext O1
  have Fnk_1 := Fnk.ext O1
  have Snk_1 := Snk.ext O1
  have Fnh_1 := Fnh.ext O1
  have Snh_1 := Snh.ext O1
  have lt_va : h0.size > va := Eva_1.lt
  have lt_ak : h0.size > ak := Eak_1.lt
  have lt_ah : h0.size > ah := Eah_1.lt
  have lt_nk : h0.size > nk := Snk_1.1.lt
  have lt_tk : h0.size > tk := Snk_1.tlt
  have lt_nh : h0.size > nh := Snh_1.1.lt
  have lt_th : h0.size > th := Snh_1.tlt
  refine ginfo fun _ _ O2 => ?_
  refine gcallS (y := (⟨"com/example/tasks_to_members/taskstomembers/core/TaskAssignor", "values", "()[Lcom/example/tasks_to_members/taskstomembers/core/TaskAssignor;"⟩ : MethodName)) hx (ow hw 34 rfl) (ow hw 35 rfl) (ow hw 32 rfl) (ow hw 36 rfl) (by decide) (fun hZ H hEL => Pay.of_met (W := 0) (own_values l Z a0 cx [] (va) (ak) (ah) (nk) (nh) (tk) (th) (kv) vm h0 O2 (by first | assumption | decide | omega)) (ow hw 36 rfl) (ow hw 32 rfl) (by decide) (by decide) hZ H hEL) 3 (argsL := []) (rest := []) (lenOf own_pd40 rfl) rfl rfl (Nat.le_of_eq rfl) (by rw [hml]; rfl) (hb hby own_d_prog_7_method_5_0) rfl (by decide) (by decide) ?_
  rintro _ vm2 h2 C2 ⟨r2, rfl, K2, q2_0, q2_1, q2_2⟩
  have z2 := C2.2.1
  have lt_r2 : h2.size > r2 := q2_1.lt
  refine gat (mkF m 3 #[.val (.ref y), .unset, .unset, .unset, .unset] [(.ref r2)]) rfl ?_
  refine gs (mkF m 4 #[.val (.ref y), .val (.ref r2), .unset, .unset, .unset] []) (fun _ _ A kq => XS.astoreN A hx rfl (hb hby own_d_prog_7_method_5_3) rfl rfl (l' := #[.val (.ref y), .val (.ref r2), .unset, .unset, .unset]) rfl kq) ?_
  refine gs (mkF m 5 #[.val (.ref y), .val (.ref r2), .unset, .unset, .unset] [(.ref r2)]) (fun _ _ A kq => XS.aloadN A hx rfl (hb hby own_d_prog_7_method_5_4) rfl rfl kq) ?_
  refine glen hx q2_2 6 (hb hby own_d_prog_7_method_5_5) rfl ?_
  refine gs (mkF m 7 #[.val (.ref y), .val (.ref r2), .val (.int (2 : Int32)), .unset, .unset] []) (fun _ _ A kq => XS.istoreN A hx rfl (hb hby own_d_prog_7_method_5_6) rfl (l' := #[.val (.ref y), .val (.ref r2), .val (.int (2 : Int32)), .unset, .unset]) rfl kq) ?_
  refine gs (mkF m 8 #[.val (.ref y), .val (.ref r2), .val (.int (2 : Int32)), .unset, .unset] [(.int (0 : Int32))]) (fun _ _ A kq => XS.iconst A hx rfl (hb hby own_d_prog_7_method_5_7) kq) ?_
  refine gs (mkF m 9 #[.val (.ref y), .val (.ref r2), .val (.int (2 : Int32)), .val (.int (0 : Int32)), .unset] []) (fun _ _ A kq => XS.istoreN A hx rfl (hb hby own_d_prog_7_method_5_8) rfl (l' := #[.val (.ref y), .val (.ref r2), .val (.int (2 : Int32)), .val (.int (0 : Int32)), .unset]) rfl kq) ?_
  refine gs (mkF m 10 #[.val (.ref y), .val (.ref r2), .val (.int (2 : Int32)), .val (.int (0 : Int32)), .unset] [(.int (0 : Int32))]) (fun _ _ A kq => XS.iloadN A hx rfl (hb hby own_d_prog_7_method_5_9) rfl  kq) ?_
  refine gs (mkF m 11 #[.val (.ref y), .val (.ref r2), .val (.int (2 : Int32)), .val (.int (0 : Int32)), .unset] [(.int (2 : Int32)), (.int (0 : Int32))]) (fun _ _ A kq => XS.iloadN A hx rfl (hb hby own_d_prog_7_method_5_10) rfl  kq) ?_
  refine gs (mkF m 14 #[.val (.ref y), .val (.ref r2), .val (.int (2 : Int32)), .val (.int (0 : Int32)), .unset] []) (fun _ _ A kq => XS.icmpNo A hx rfl (hb hby own_d_prog_7_method_5_11) rfl (tlt (by decide)).2.1 kq) ?_
  refine gs (mkF m 15 #[.val (.ref y), .val (.ref r2), .val (.int (2 : Int32)), .val (.int (0 : Int32)), .unset] [(.ref r2)]) (fun _ _ A kq => XS.aloadN A hx rfl (hb hby own_d_prog_7_method_5_14) rfl rfl kq) ?_
  refine gs (mkF m 16 #[.val (.ref y), .val (.ref r2), .val (.int (2 : Int32)), .val (.int (0 : Int32)), .unset] [(.int (0 : Int32)), (.ref r2)]) (fun _ _ A kq => XS.iloadN A hx rfl (hb hby own_d_prog_7_method_5_15) rfl  kq) ?_
  refine gldR hx q2_2 ⟨by decide, by decide⟩ (i := 0) rfl (v := (.ref ak)) rfl 17 (hb hby own_d_prog_7_method_5_16) rfl ?_
  refine gs (mkF m 19 #[.val (.ref y), .val (.ref r2), .val (.int (2 : Int32)), .val (.int (0 : Int32)), .val (.ref ak)] []) (fun _ _ A kq => XS.astore A hx rfl (hb hby own_d_prog_7_method_5_17) rfl rfl (l' := #[.val (.ref y), .val (.ref r2), .val (.int (2 : Int32)), .val (.int (0 : Int32)), .val (.ref ak)]) rfl kq) ?_
  refine gs (mkF m 21 #[.val (.ref y), .val (.ref r2), .val (.int (2 : Int32)), .val (.int (0 : Int32)), .val (.ref ak)] [(.ref ak)]) (fun _ _ A kq => XS.aload A hx rfl (hb hby own_d_prog_7_method_5_19) rfl rfl kq) ?_
  have f3 := (Fnk_1.keep K2 nin0)
  refine ggetF (host := "") hx (Or.inl (ow hw 51 rfl)) Via.refl f3 24 (hb hby own_d_prog_7_method_5_21) rfl ?_
  refine gs (mkF m 25 #[.val (.ref y), .val (.ref r2), .val (.int (2 : Int32)), .val (.int (0 : Int32)), .val (.ref ak)] [(.ref y), (.ref nk)]) (fun _ _ A kq => XS.aloadN A hx rfl (hb hby own_d_prog_7_method_5_24) rfl rfl kq) ?_
  have f5 := (Snk_1.keep K2 nin0 nin0)
  have f6 := (P0.keep K2 nin0 nin0)
  refine ginfo fun _ _ O4 => ?_
  refine gcallV (y := (⟨"java/lang/String", "equals", "(Ljava/lang/Object;)Z"⟩ : MethodName)) (z := (⟨"java/lang/String", "equals", "(Ljava/lang/Object;)Z"⟩ : MethodName)) hx (ow hw 53 rfl) (ow hw 54 rfl) (nfSel (ow hw 56 rfl)) (ow hw 56 rfl) (ow hw 55 rfl) (by decide) (fun hZ H hEL => own_payEqF (W := 0) (own_wEq hw) (ow hw 2 rfl) Scs hzc O4 f5 f6 (by decide) (by decide) (by decide) hZ H hEL) 28 (argsL := [(.ref y)]) (rest := []) f5.1 (lenOf own_pd58 rfl) rfl rfl (Nat.le_of_eq rfl) (by rw [hml]; rfl) (hb hby own_d_prog_7_method_5_25) rfl (by decide) (by decide) ?_
  rintro _ vm4 h4 C4 ⟨rfl, rfl⟩
  have z4 := C4.2.1
  refine gat (mkF m 28 #[.val (.ref y), .val (.ref r2), .val (.int (2 : Int32)), .val (.int (0 : Int32)), .val (.ref ak)] [(.int (0 : Int32))]) rfl ?_
  refine gs (mkF m 34 #[.val (.ref y), .val (.ref r2), .val (.int (2 : Int32)), .val (.int (0 : Int32)), .val (.ref ak)] []) (fun _ _ A kq => XS.ifYes A hx rfl (pc0 := 28) (pc' := 34) rfl (hb hby own_d_prog_7_method_5_28) rfl ((if0 _ _).trans (teq (by decide)).1) (by decide) (by decide) kq) ?_
  refine gs (mkF m 37 #[.val (.ref y), .val (.ref r2), .val (.int (2 : Int32)), .val (.int (1 : Int32)), .val (.ref ak)] []) (fun _ _ A kq => XS.iinc A hx rfl (hb hby own_d_prog_7_method_5_34) rfl (l' := #[.val (.ref y), .val (.ref r2), .val (.int (2 : Int32)), .val (.int (1 : Int32)), .val (.ref ak)]) rfl kq) ?_
  refine gs (mkF m 9 #[.val (.ref y), .val (.ref r2), .val (.int (2 : Int32)), .val (.int (1 : Int32)), .val (.ref ak)] []) (fun _ _ A kq => XS.goto A hx rfl (pc0 := 37) (pc' := 9) rfl (hb hby own_d_prog_7_method_5_37) (by decide) (by decide) kq) ?_
  refine gs (mkF m 10 #[.val (.ref y), .val (.ref r2), .val (.int (2 : Int32)), .val (.int (1 : Int32)), .val (.ref ak)] [(.int (1 : Int32))]) (fun _ _ A kq => XS.iloadN A hx rfl (hb hby own_d_prog_7_method_5_9) rfl  kq) ?_
  refine gs (mkF m 11 #[.val (.ref y), .val (.ref r2), .val (.int (2 : Int32)), .val (.int (1 : Int32)), .val (.ref ak)] [(.int (2 : Int32)), (.int (1 : Int32))]) (fun _ _ A kq => XS.iloadN A hx rfl (hb hby own_d_prog_7_method_5_10) rfl  kq) ?_
  refine gs (mkF m 14 #[.val (.ref y), .val (.ref r2), .val (.int (2 : Int32)), .val (.int (1 : Int32)), .val (.ref ak)] []) (fun _ _ A kq => XS.icmpNo A hx rfl (hb hby own_d_prog_7_method_5_11) rfl (tlt (by decide)).2.1 kq) ?_
  refine gs (mkF m 15 #[.val (.ref y), .val (.ref r2), .val (.int (2 : Int32)), .val (.int (1 : Int32)), .val (.ref ak)] [(.ref r2)]) (fun _ _ A kq => XS.aloadN A hx rfl (hb hby own_d_prog_7_method_5_14) rfl rfl kq) ?_
  refine gs (mkF m 16 #[.val (.ref y), .val (.ref r2), .val (.int (2 : Int32)), .val (.int (1 : Int32)), .val (.ref ak)] [(.int (1 : Int32)), (.ref r2)]) (fun _ _ A kq => XS.iloadN A hx rfl (hb hby own_d_prog_7_method_5_15) rfl  kq) ?_
  refine gldR hx q2_2 ⟨by decide, by decide⟩ (i := 1) rfl (v := (.ref ah)) rfl 17 (hb hby own_d_prog_7_method_5_16) rfl ?_
  refine gs (mkF m 19 #[.val (.ref y), .val (.ref r2), .val (.int (2 : Int32)), .val (.int (1 : Int32)), .val (.ref ah)] []) (fun _ _ A kq => XS.astore A hx rfl (hb hby own_d_prog_7_method_5_17) rfl rfl (l' := #[.val (.ref y), .val (.ref r2), .val (.int (2 : Int32)), .val (.int (1 : Int32)), .val (.ref ah)]) rfl kq) ?_
  refine gs (mkF m 21 #[.val (.ref y), .val (.ref r2), .val (.int (2 : Int32)), .val (.int (1 : Int32)), .val (.ref ah)] [(.ref ah)]) (fun _ _ A kq => XS.aload A hx rfl (hb hby own_d_prog_7_method_5_19) rfl rfl kq) ?_
  have f7 := (Fnh_1.keep K2 nin0)
  refine ggetF (host := "") hx (Or.inl (ow hw 51 rfl)) Via.refl f7 24 (hb hby own_d_prog_7_method_5_21) rfl ?_
  refine gs (mkF m 25 #[.val (.ref y), .val (.ref r2), .val (.int (2 : Int32)), .val (.int (1 : Int32)), .val (.ref ah)] [(.ref y), (.ref nh)]) (fun _ _ A kq => XS.aloadN A hx rfl (hb hby own_d_prog_7_method_5_24) rfl rfl kq) ?_
  have f9 := (Snh_1.keep K2 nin0 nin0)
  refine ginfo fun _ _ O8 => ?_
  refine gcallV (y := (⟨"java/lang/String", "equals", "(Ljava/lang/Object;)Z"⟩ : MethodName)) (z := (⟨"java/lang/String", "equals", "(Ljava/lang/Object;)Z"⟩ : MethodName)) hx (ow hw 53 rfl) (ow hw 54 rfl) (nfSel (ow hw 56 rfl)) (ow hw 56 rfl) (ow hw 55 rfl) (by decide) (fun hZ H hEL => own_payEqT (W := 0) (own_wEq hw) (ow hw 2 rfl) Scs hzc O8 f9 f6 rfl (by decide) (by decide) hZ H hEL) 28 (argsL := [(.ref y)]) (rest := []) f9.1 (lenOf own_pd58 rfl) rfl rfl (Nat.le_of_eq rfl) (by rw [hml]; rfl) (hb hby own_d_prog_7_method_5_25) rfl (by decide) (by decide) ?_
  rintro _ vm8 h8 C8 ⟨rfl, rfl⟩
  have z8 := C8.2.1
  refine gat (mkF m 28 #[.val (.ref y), .val (.ref r2), .val (.int (2 : Int32)), .val (.int (1 : Int32)), .val (.ref ah)] [(.int (1 : Int32))]) rfl ?_
  refine gs (mkF m 31 #[.val (.ref y), .val (.ref r2), .val (.int (2 : Int32)), .val (.int (1 : Int32)), .val (.ref ah)] []) (fun _ _ A kq => XS.ifNo A hx rfl (hb hby own_d_prog_7_method_5_28) rfl ((if0 _ _).trans (feq (by decide)).1) kq) ?_
  refine gs (mkF m 33 #[.val (.ref y), .val (.ref r2), .val (.int (2 : Int32)), .val (.int (1 : Int32)), .val (.ref ah)] [(.ref ah)]) (fun _ _ A kq => XS.aload A hx rfl (hb hby own_d_prog_7_method_5_31) rfl rfl kq) ?_
  exact gretA hx hret rfl rfl (hb hby own_d_prog_7_method_5_33) (by decide) (by decide) (fun vq Cq => ⟨rfl, ((Keep.refl h0 []).trans K2 all0)⟩)
set_option maxRecDepth 65536 in
set_option maxHeartbeats 40000000 in
theorem own_namedN (l : Launch) (Z : State) (a0 : Array Value) (cx : Ctx Z a0) (ws : List Jvm.Cond) (va : Addr) (ak : Addr) (ah : Addr) (nk : Addr) (nh : Addr) (tk : Addr) (th : Addr) (kv : ClassId) (vm0 : Vm) (h0 : Heap) (X00 : Ext Z.heap h0) (hK : (OwnK Z va ak ah nk nh tk th kv)) :
    Met l (⟨"com/example/tasks_to_members/taskstomembers/core/TaskAssignor", "named", "(Ljava/lang/String;)Lcom/example/tasks_to_members/taskstomembers/core/TaskAssignor;"⟩ : MethodName) prog_7_method_5_code 5 (some (.object "com/example/tasks_to_members/taskstomembers/core/TaskAssignor")) ws ({ frames := 2, cells := 1, slots := 2, locals := 25 } : Room) Z consts_1 vm0 h0 #[.null] (fun rv vm h => rv = some .null ∧ Keep h0 h []) := by
  obtain ⟨hw, hEL, ⟨zc, Scs, hzc⟩, ⟨fm, Sfm, hfm⟩, hK0⟩ := id cx
  have hSA := own_SA hw
  refine Met.of_walk (a0 := a0) #[.val .null, .unset, .unset, .unset, .unset] (plainFor_of_name own_pn34) X00 hEL (fun m => by first | (simp [entryFrame, mkF, argsToLocals, Value.category]; done) | rfl) ?_
  intro p e s m below meth c vm hx hby hml hret hnm hC0
  obtain ⟨Sva, Eva, Vva, Sak, Eak, Sah, Eah, Fnk, Snk, Fnh, Snh⟩ := id hK
  refine ginfo fun _ _ O1 => ?_
  have Eva_1 := Eva.ext O1
  have Vva_1 := Vva.ext O1
  have Eak_1 := Eak.ext O1
  have Eah_1 := Eah.ext O1
  have Fnk_1 := Fnk.ext O1
  have Snk_1 := Snk.ext O1
  have Fnh_1 := Fnh.ext O1
  have Snh_1 := Snh.ext O1
  have lt_va : h0.size > va := Eva_1.lt
  have lt_ak : h0.size > ak := Eak_1.lt
  have lt_ah : h0.size > ah := Eah_1.lt
  have lt_nk : h0.size > nk := Snk_1.1.lt
  have lt_tk : h0.size > tk := Snk_1.tlt
  have lt_nh : h0.size > nh := Snh_1.1.lt
  have lt_th : h0.size > th := Snh_1.tlt
  refine ginfo fun _ _ O2 => ?_
  refine gcallS (y := (⟨"com/example/tasks_to_members/taskstomembers/core/TaskAssignor", "values", "()[Lcom/example/tasks_to_members/taskstomembers/core/TaskAssignor;"⟩ : MethodName)) hx (ow hw 34 rfl) (ow hw 35 rfl) (ow hw 32 rfl) (ow hw 36 rfl) (by decide) (fun hZ H hEL => Pay.of_met (W := 0) (own_values l Z a0 cx [] (va) (ak) (ah) (nk) (nh) (tk) (th) (kv) vm h0 O2 (by first | assumption | decide | omega)) (ow hw 36 rfl) (ow hw 32 rfl) (by decide) (by decide) hZ H hEL) 3 (argsL := []) (rest := []) (lenOf own_pd40 rfl) rfl rfl (Nat.le_of_eq rfl) (by rw [hml]; rfl) (hb hby own_d_prog_7_method_5_0) rfl (by decide) (by decide) ?_
  rintro _ vm2 h2 C2 ⟨r2, rfl, K2, q2_0, q2_1, q2_2⟩
  have z2 := C2.2.1
  have lt_r2 : h2.size > r2 := q2_1.lt
  refine gat (mkF m 3 #[.val .null, .unset, .unset, .unset, .unset] [(.ref r2)]) rfl ?_
  refine gs (mkF m 4 #[.val .null, .val (.ref r2), .unset, .unset, .unset] []) (fun _ _ A kq => XS.astoreN A hx rfl (hb hby own_d_prog_7_method_5_3) rfl rfl (l' := #[.val .null, .val (.ref r2), .unset, .unset, .unset]) rfl kq) ?_
  refine gs (mkF m 5 #[.val .null, .val (.ref r2), .unset, .unset, .unset] [(.ref r2)]) (fun _ _ A kq => XS.aloadN A hx rfl (hb hby own_d_prog_7_method_5_4) rfl rfl kq) ?_
  refine glen hx q2_2 6 (hb hby own_d_prog_7_method_5_5) rfl ?_
  refine gs (mkF m 7 #[.val .null, .val (.ref r2), .val (.int (2 : Int32)), .unset, .unset] []) (fun _ _ A kq => XS.istoreN A hx rfl (hb hby own_d_prog_7_method_5_6) rfl (l' := #[.val .null, .val (.ref r2), .val (.int (2 : Int32)), .unset, .unset]) rfl kq) ?_
  refine gs (mkF m 8 #[.val .null, .val (.ref r2), .val (.int (2 : Int32)), .unset, .unset] [(.int (0 : Int32))]) (fun _ _ A kq => XS.iconst A hx rfl (hb hby own_d_prog_7_method_5_7) kq) ?_
  refine gs (mkF m 9 #[.val .null, .val (.ref r2), .val (.int (2 : Int32)), .val (.int (0 : Int32)), .unset] []) (fun _ _ A kq => XS.istoreN A hx rfl (hb hby own_d_prog_7_method_5_8) rfl (l' := #[.val .null, .val (.ref r2), .val (.int (2 : Int32)), .val (.int (0 : Int32)), .unset]) rfl kq) ?_
  refine gs (mkF m 10 #[.val .null, .val (.ref r2), .val (.int (2 : Int32)), .val (.int (0 : Int32)), .unset] [(.int (0 : Int32))]) (fun _ _ A kq => XS.iloadN A hx rfl (hb hby own_d_prog_7_method_5_9) rfl  kq) ?_
  refine gs (mkF m 11 #[.val .null, .val (.ref r2), .val (.int (2 : Int32)), .val (.int (0 : Int32)), .unset] [(.int (2 : Int32)), (.int (0 : Int32))]) (fun _ _ A kq => XS.iloadN A hx rfl (hb hby own_d_prog_7_method_5_10) rfl  kq) ?_
  refine gs (mkF m 14 #[.val .null, .val (.ref r2), .val (.int (2 : Int32)), .val (.int (0 : Int32)), .unset] []) (fun _ _ A kq => XS.icmpNo A hx rfl (hb hby own_d_prog_7_method_5_11) rfl (tlt (by decide)).2.1 kq) ?_
  refine gs (mkF m 15 #[.val .null, .val (.ref r2), .val (.int (2 : Int32)), .val (.int (0 : Int32)), .unset] [(.ref r2)]) (fun _ _ A kq => XS.aloadN A hx rfl (hb hby own_d_prog_7_method_5_14) rfl rfl kq) ?_
  refine gs (mkF m 16 #[.val .null, .val (.ref r2), .val (.int (2 : Int32)), .val (.int (0 : Int32)), .unset] [(.int (0 : Int32)), (.ref r2)]) (fun _ _ A kq => XS.iloadN A hx rfl (hb hby own_d_prog_7_method_5_15) rfl  kq) ?_
  refine gldR hx q2_2 ⟨by decide, by decide⟩ (i := 0) rfl (v := (.ref ak)) rfl 17 (hb hby own_d_prog_7_method_5_16) rfl ?_
  refine gs (mkF m 19 #[.val .null, .val (.ref r2), .val (.int (2 : Int32)), .val (.int (0 : Int32)), .val (.ref ak)] []) (fun _ _ A kq => XS.astore A hx rfl (hb hby own_d_prog_7_method_5_17) rfl rfl (l' := #[.val .null, .val (.ref r2), .val (.int (2 : Int32)), .val (.int (0 : Int32)), .val (.ref ak)]) rfl kq) ?_
  refine gs (mkF m 21 #[.val .null, .val (.ref r2), .val (.int (2 : Int32)), .val (.int (0 : Int32)), .val (.ref ak)] [(.ref ak)]) (fun _ _ A kq => XS.aload A hx rfl (hb hby own_d_prog_7_method_5_19) rfl rfl kq) ?_
  have f3 := (Fnk_1.keep K2 nin0)
  refine ggetF (host := "") hx (Or.inl (ow hw 51 rfl)) Via.refl f3 24 (hb hby own_d_prog_7_method_5_21) rfl ?_
  refine gs (mkF m 25 #[.val .null, .val (.ref r2), .val (.int (2 : Int32)), .val (.int (0 : Int32)), .val (.ref ak)] [.null, (.ref nk)]) (fun _ _ A kq => XS.aloadN A hx rfl (hb hby own_d_prog_7_method_5_24) rfl rfl kq) ?_
  refine ginfo fun _ _ O4 => ?_
  refine gcallV (y := (⟨"java/lang/String", "equals", "(Ljava/lang/Object;)Z"⟩ : MethodName)) (z := (⟨"java/lang/String", "equals", "(Ljava/lang/Object;)Z"⟩ : MethodName)) hx (ow hw 53 rfl) (ow hw 54 rfl) (nfSel (ow hw 56 rfl)) (ow hw 56 rfl) (ow hw 55 rfl) (by decide) (fun hZ H hEL => Pay.of_met (W := 0) (own_eqNull l Z a0 cx [] (nk) vm2 h2 O4 ) (ow hw 57 rfl) (ow hw 3 rfl) (by decide) (by decide) hZ H hEL) 28 (argsL := [.null]) (rest := []) (Snk_1.1.keep K2) (lenOf own_pd58 rfl) rfl rfl (Nat.le_of_eq rfl) (by rw [hml]; rfl) (hb hby own_d_prog_7_method_5_25) rfl (by decide) (by decide) ?_
  rintro _ vm4 h4 C4 ⟨rfl, rfl⟩
  have z4 := C4.2.1
  refine gat (mkF m 28 #[.val .null, .val (.ref r2), .val (.int (2 : Int32)), .val (.int (0 : Int32)), .val (.ref ak)] [(.int (0 : Int32))]) rfl ?_
  refine gs (mkF m 34 #[.val .null, .val (.ref r2), .val (.int (2 : Int32)), .val (.int (0 : Int32)), .val (.ref ak)] []) (fun _ _ A kq => XS.ifYes A hx rfl (pc0 := 28) (pc' := 34) rfl (hb hby own_d_prog_7_method_5_28) rfl ((if0 _ _).trans (teq (by decide)).1) (by decide) (by decide) kq) ?_
  refine gs (mkF m 37 #[.val .null, .val (.ref r2), .val (.int (2 : Int32)), .val (.int (1 : Int32)), .val (.ref ak)] []) (fun _ _ A kq => XS.iinc A hx rfl (hb hby own_d_prog_7_method_5_34) rfl (l' := #[.val .null, .val (.ref r2), .val (.int (2 : Int32)), .val (.int (1 : Int32)), .val (.ref ak)]) rfl kq) ?_
  refine gs (mkF m 9 #[.val .null, .val (.ref r2), .val (.int (2 : Int32)), .val (.int (1 : Int32)), .val (.ref ak)] []) (fun _ _ A kq => XS.goto A hx rfl (pc0 := 37) (pc' := 9) rfl (hb hby own_d_prog_7_method_5_37) (by decide) (by decide) kq) ?_
  refine gs (mkF m 10 #[.val .null, .val (.ref r2), .val (.int (2 : Int32)), .val (.int (1 : Int32)), .val (.ref ak)] [(.int (1 : Int32))]) (fun _ _ A kq => XS.iloadN A hx rfl (hb hby own_d_prog_7_method_5_9) rfl  kq) ?_
  refine gs (mkF m 11 #[.val .null, .val (.ref r2), .val (.int (2 : Int32)), .val (.int (1 : Int32)), .val (.ref ak)] [(.int (2 : Int32)), (.int (1 : Int32))]) (fun _ _ A kq => XS.iloadN A hx rfl (hb hby own_d_prog_7_method_5_10) rfl  kq) ?_
  refine gs (mkF m 14 #[.val .null, .val (.ref r2), .val (.int (2 : Int32)), .val (.int (1 : Int32)), .val (.ref ak)] []) (fun _ _ A kq => XS.icmpNo A hx rfl (hb hby own_d_prog_7_method_5_11) rfl (tlt (by decide)).2.1 kq) ?_
  refine gs (mkF m 15 #[.val .null, .val (.ref r2), .val (.int (2 : Int32)), .val (.int (1 : Int32)), .val (.ref ak)] [(.ref r2)]) (fun _ _ A kq => XS.aloadN A hx rfl (hb hby own_d_prog_7_method_5_14) rfl rfl kq) ?_
  refine gs (mkF m 16 #[.val .null, .val (.ref r2), .val (.int (2 : Int32)), .val (.int (1 : Int32)), .val (.ref ak)] [(.int (1 : Int32)), (.ref r2)]) (fun _ _ A kq => XS.iloadN A hx rfl (hb hby own_d_prog_7_method_5_15) rfl  kq) ?_
  refine gldR hx q2_2 ⟨by decide, by decide⟩ (i := 1) rfl (v := (.ref ah)) rfl 17 (hb hby own_d_prog_7_method_5_16) rfl ?_
  refine gs (mkF m 19 #[.val .null, .val (.ref r2), .val (.int (2 : Int32)), .val (.int (1 : Int32)), .val (.ref ah)] []) (fun _ _ A kq => XS.astore A hx rfl (hb hby own_d_prog_7_method_5_17) rfl rfl (l' := #[.val .null, .val (.ref r2), .val (.int (2 : Int32)), .val (.int (1 : Int32)), .val (.ref ah)]) rfl kq) ?_
  refine gs (mkF m 21 #[.val .null, .val (.ref r2), .val (.int (2 : Int32)), .val (.int (1 : Int32)), .val (.ref ah)] [(.ref ah)]) (fun _ _ A kq => XS.aload A hx rfl (hb hby own_d_prog_7_method_5_19) rfl rfl kq) ?_
  have f5 := (Fnh_1.keep K2 nin0)
  refine ggetF (host := "") hx (Or.inl (ow hw 51 rfl)) Via.refl f5 24 (hb hby own_d_prog_7_method_5_21) rfl ?_
  refine gs (mkF m 25 #[.val .null, .val (.ref r2), .val (.int (2 : Int32)), .val (.int (1 : Int32)), .val (.ref ah)] [.null, (.ref nh)]) (fun _ _ A kq => XS.aloadN A hx rfl (hb hby own_d_prog_7_method_5_24) rfl rfl kq) ?_
  refine ginfo fun _ _ O6 => ?_
  refine gcallV (y := (⟨"java/lang/String", "equals", "(Ljava/lang/Object;)Z"⟩ : MethodName)) (z := (⟨"java/lang/String", "equals", "(Ljava/lang/Object;)Z"⟩ : MethodName)) hx (ow hw 53 rfl) (ow hw 54 rfl) (nfSel (ow hw 56 rfl)) (ow hw 56 rfl) (ow hw 55 rfl) (by decide) (fun hZ H hEL => Pay.of_met (W := 0) (own_eqNull l Z a0 cx [] (nh) vm4 h2 O6 ) (ow hw 57 rfl) (ow hw 3 rfl) (by decide) (by decide) hZ H hEL) 28 (argsL := [.null]) (rest := []) (Snh_1.1.keep K2) (lenOf own_pd58 rfl) rfl rfl (Nat.le_of_eq rfl) (by rw [hml]; rfl) (hb hby own_d_prog_7_method_5_25) rfl (by decide) (by decide) ?_
  rintro _ vm6 h6 C6 ⟨rfl, rfl⟩
  have z6 := C6.2.1
  refine gat (mkF m 28 #[.val .null, .val (.ref r2), .val (.int (2 : Int32)), .val (.int (1 : Int32)), .val (.ref ah)] [(.int (0 : Int32))]) rfl ?_
  refine gs (mkF m 34 #[.val .null, .val (.ref r2), .val (.int (2 : Int32)), .val (.int (1 : Int32)), .val (.ref ah)] []) (fun _ _ A kq => XS.ifYes A hx rfl (pc0 := 28) (pc' := 34) rfl (hb hby own_d_prog_7_method_5_28) rfl ((if0 _ _).trans (teq (by decide)).1) (by decide) (by decide) kq) ?_
  refine gs (mkF m 37 #[.val .null, .val (.ref r2), .val (.int (2 : Int32)), .val (.int (2 : Int32)), .val (.ref ah)] []) (fun _ _ A kq => XS.iinc A hx rfl (hb hby own_d_prog_7_method_5_34) rfl (l' := #[.val .null, .val (.ref r2), .val (.int (2 : Int32)), .val (.int (2 : Int32)), .val (.ref ah)]) rfl kq) ?_
  refine gs (mkF m 9 #[.val .null, .val (.ref r2), .val (.int (2 : Int32)), .val (.int (2 : Int32)), .val (.ref ah)] []) (fun _ _ A kq => XS.goto A hx rfl (pc0 := 37) (pc' := 9) rfl (hb hby own_d_prog_7_method_5_37) (by decide) (by decide) kq) ?_
  refine gs (mkF m 10 #[.val .null, .val (.ref r2), .val (.int (2 : Int32)), .val (.int (2 : Int32)), .val (.ref ah)] [(.int (2 : Int32))]) (fun _ _ A kq => XS.iloadN A hx rfl (hb hby own_d_prog_7_method_5_9) rfl  kq) ?_
  refine gs (mkF m 11 #[.val .null, .val (.ref r2), .val (.int (2 : Int32)), .val (.int (2 : Int32)), .val (.ref ah)] [(.int (2 : Int32)), (.int (2 : Int32))]) (fun _ _ A kq => XS.iloadN A hx rfl (hb hby own_d_prog_7_method_5_10) rfl  kq) ?_
  refine gs (mkF m 40 #[.val .null, .val (.ref r2), .val (.int (2 : Int32)), .val (.int (2 : Int32)), .val (.ref ah)] []) (fun _ _ A kq => XS.icmpYes A hx rfl (pc0 := 11) (pc' := 40) rfl (hb hby own_d_prog_7_method_5_11) rfl (flt (by decide)).2.1 (by decide) (by decide) kq) ?_
  refine gs (mkF m 41 #[.val .null, .val (.ref r2), .val (.int (2 : Int32)), .val (.int (2 : Int32)), .val (.ref ah)] [.null]) (fun _ _ A kq => XS.aconstNull A hx rfl (hb hby own_d_prog_7_method_5_40) kq) ?_
  exact gretA hx hret rfl rfl (hb hby own_d_prog_7_method_5_41) (by decide) (by decide) (fun vq Cq => ⟨rfl, ((Keep.refl h0 []).trans K2 all0)⟩)
theorem own_d_method_3_0 : decode method_3_code 0 = .ok (.aload_n 0, 1) := by decide +kernel
theorem own_d_method_3_1 : decode method_3_code 1 = .ok (.ifnonnull 5, 3) := by decide +kernel
theorem own_d_method_3_6 : decode method_3_code 6 = .ok (.aload_n 0, 1) := by decide +kernel
theorem own_d_method_3_7 : decode method_3_code 7 = .ok (.ldc 42, 2) := by decide +kernel
theorem own_d_method_3_9 : decode method_3_code 9 = .ok (.invokevirtual 44, 3) := by decide +kernel
theorem own_d_method_3_12 : decode method_3_code 12 = .ok (.ifCond .eq 7, 3) := by decide +kernel
theorem own_d_method_3_15 : decode method_3_code 15 = .ok (.getstatic 13, 3) := by decide +kernel
theorem own_d_method_3_18 : decode method_3_code 18 = .ok (.areturn, 1) := by decide +kernel
theorem own_d_method_3_19 : decode method_3_code 19 = .ok (.aload_n 0, 1) := by decide +kernel
theorem own_d_method_3_20 : decode method_3_code 20 = .ok (.ldc 48, 2) := by decide +kernel
theorem own_d_method_3_22 : decode method_3_code 22 = .ok (.invokevirtual 44, 3) := by decide +kernel
theorem own_d_method_3_25 : decode method_3_code 25 = .ok (.ifCond .eq 7, 3) := by decide +kernel
theorem own_d_method_3_28 : decode method_3_code 28 = .ok (.getstatic 7, 3) := by decide +kernel
theorem own_d_method_3_31 : decode method_3_code 31 = .ok (.areturn, 1) := by decide +kernel
theorem own_d_method_3_32 : decode method_3_code 32 = .ok (.aconst_null, 1) := by decide +kernel
theorem own_d_method_3_33 : decode method_3_code 33 = .ok (.areturn, 1) := by decide +kernel
theorem own_pn82 : plainName "com/example/tasks_to_members/taskstomembers/core/TaskAssignorNamedPinLaw" = true := by first | (simp [plainName, overriddenIn]; done) | decide +kernel
set_option maxRecDepth 65536 in
set_option maxHeartbeats 40000000 in
theorem own_expG (l : Launch) (Z : State) (a0 : Array Value) (cx : Ctx Z a0) (ws : List Jvm.Cond) (y : Addr) (t : Addr) (cs : List Int32) (va : Addr) (ak : Addr) (ah : Addr) (nk : Addr) (nh : Addr) (tk : Addr) (th : Addr) (kv : ClassId) (vm0 : Vm) (h0 : Heap) (X00 : Ext Z.heap h0) (P0 : Str Z h0 y t cs) (hK : (OwnK Z va ak ah nk nh tk th kv)) :
    Met l (⟨"com/example/tasks_to_members/taskstomembers/core/TaskAssignorNamedPinLaw", "expected", "(Ljava/lang/String;)Lcom/example/tasks_to_members/taskstomembers/core/TaskAssignor;"⟩ : MethodName) method_3_code 1 (some (.object "com/example/tasks_to_members/taskstomembers/core/TaskAssignor")) ws ({ frames := 2, cells := 4, slots := 96, locals := 28 } : Room) Z consts_1 vm0 h0 #[(.ref y)] (fun rv vm h => rv = some (own_nm ak ah cs) ∧ Keep h0 h []) := by
  obtain ⟨hw, hEL, ⟨zc, Scs, hzc⟩, ⟨fm, Sfm, hfm⟩, hK0⟩ := id cx
  have hSA := own_SA hw
  refine Met.of_walk (a0 := a0) #[.val (.ref y)] (plainFor_of_name own_pn82) X00 hEL (fun m => by first | (simp [entryFrame, mkF, argsToLocals, Value.category]; done) | rfl) ?_
  intro p e s m below meth c vm hx hby hml hret hnm hC0
  have lt_y : h0.size > y := P0.1.lt
  have lt_t : h0.size > t := P0.tlt
  obtain ⟨Sva, Eva, Vva, Sak, Eak, Sah, Eah, Fnk, Snk, Fnh, Snh⟩ := id hK
  by_cases c1 : [(115 : Int32), (116 : Int32), (105 : Int32), (99 : Int32), (107 : Int32), (121 : Int32)] = cs
  · refine gs (mkF m 1 #[.val (.ref y)] [(.ref y)]) (fun _ _ A kq => XS.aloadN A hx rfl (hb hby own_d_method_3_0) rfl rfl kq) ?_
    refine gs (mkF m 6 #[.val (.ref y)] []) (fun _ _ A kq => XS.ifnonnullYes A hx rfl (pc0 := 1) (pc' := 6) rfl (hb hby own_d_method_3_1) rfl (by decide) (by decide) kq) ?_
    refine gs (mkF m 7 #[.val (.ref y)] [(.ref y)]) (fun _ _ A kq => XS.aloadN A hx rfl (hb hby own_d_method_3_6) rfl rfl kq) ?_
    refine gldcR hx (ow hw 67 rfl) hSA (by decide) (n := 24) (by decide) (by decide) (vs := [Value.int (115 : Int32), Value.int (116 : Int32), Value.int (105 : Int32), Value.int (99 : Int32), Value.int (107 : Int32), Value.int (121 : Int32)]) (z := (6 : Int32)) (by decide +kernel) (by decide) (by decide) 9 (hb hby own_d_method_3_7) rfl (by decide) (by decide) ?_
    intro b1 t1 k1 vm1 h1 E1 C1 Q1a Q1b Q1c Q1d Q1e
    have z1 := C1.2.1
    have S1 : Str Z h1 b1 t1 [(115 : Int32), (116 : Int32), (105 : Int32), (99 : Int32), (107 : Int32), (121 : Int32)] := Str.lit Q1a Q1b Q1c Q1d (by decide) rfl rfl (by decide)
    have lt_b1 : h1.size > b1 := S1.1.lt
    have lt_t1 : h1.size > t1 := S1.tlt
    have f3 := (P0.ext E1)
    refine ginfo fun _ _ O2 => ?_
    refine gcallV (y := (⟨"java/lang/String", "equals", "(Ljava/lang/Object;)Z"⟩ : MethodName)) (z := (⟨"java/lang/String", "equals", "(Ljava/lang/Object;)Z"⟩ : MethodName)) hx (ow hw 70 rfl) (ow hw 54 rfl) (nfSel (ow hw 56 rfl)) (ow hw 56 rfl) (ow hw 55 rfl) (by decide) (fun hZ H hEL => own_payEqT (W := 0) (own_wEq hw) (ow hw 2 rfl) Scs hzc O2 f3 S1 c1.symm (by decide) (by decide) hZ H hEL) 12 (argsL := [(.ref b1)]) (rest := []) f3.1 (lenOf own_pd58 rfl) rfl rfl (Nat.le_of_eq rfl) (by rw [hml]; rfl) (hb hby own_d_method_3_9) rfl (by decide) (by decide) ?_
    rintro _ vm2 h2 C2 ⟨rfl, rfl⟩
    have z2 := C2.2.1
    refine gat (mkF m 12 #[.val (.ref y)] [(.int (1 : Int32))]) rfl ?_
    refine gs (mkF m 15 #[.val (.ref y)] []) (fun _ _ A kq => XS.ifNo A hx rfl (hb hby own_d_method_3_12) rfl ((if0 _ _).trans (feq (by decide)).1) kq) ?_
    refine ggetS (host := "") hx (Or.inl (ow hw 71 rfl)) Via.refl Sak 18 (hb hby own_d_method_3_15) rfl ?_
    exact gretA hx hret rfl rfl (hb hby own_d_method_3_18) (by decide) (by decide) (fun vq Cq => ⟨(by rw [own_nm, if_pos c1]), ((Keep.refl h0 []).ext E1)⟩)
  · by_cases c2 : [(104 : Int32), (105 : Int32), (103 : Int32), (104 : Int32), (108 : Int32), (121 : Int32), (95 : Int32), (97 : Int32), (118 : Int32), (97 : Int32), (105 : Int32), (108 : Int32), (97 : Int32), (98 : Int32), (108 : Int32), (101 : Int32)] = cs
    · refine gs (mkF m 1 #[.val (.ref y)] [(.ref y)]) (fun _ _ A kq => XS.aloadN A hx rfl (hb hby own_d_method_3_0) rfl rfl kq) ?_
      refine gs (mkF m 6 #[.val (.ref y)] []) (fun _ _ A kq => XS.ifnonnullYes A hx rfl (pc0 := 1) (pc' := 6) rfl (hb hby own_d_method_3_1) rfl (by decide) (by decide) kq) ?_
      refine gs (mkF m 7 #[.val (.ref y)] [(.ref y)]) (fun _ _ A kq => XS.aloadN A hx rfl (hb hby own_d_method_3_6) rfl rfl kq) ?_
      refine gldcR hx (ow hw 67 rfl) hSA (by decide) (n := 24) (by decide) (by decide) (vs := [Value.int (115 : Int32), Value.int (116 : Int32), Value.int (105 : Int32), Value.int (99 : Int32), Value.int (107 : Int32), Value.int (121 : Int32)]) (z := (6 : Int32)) (by decide +kernel) (by decide) (by decide) 9 (hb hby own_d_method_3_7) rfl (by decide) (by decide) ?_
      intro b5 t5 k5 vm5 h5 E5 C5 Q5a Q5b Q5c Q5d Q5e
      have z5 := C5.2.1
      have S5 : Str Z h5 b5 t5 [(115 : Int32), (116 : Int32), (105 : Int32), (99 : Int32), (107 : Int32), (121 : Int32)] := Str.lit Q5a Q5b Q5c Q5d (by decide) rfl rfl (by decide)
      have lt_b5 : h5.size > b5 := S5.1.lt
      have lt_t5 : h5.size > t5 := S5.tlt
      have f7 := (P0.ext E5)
      refine ginfo fun _ _ O6 => ?_
      refine gcallV (y := (⟨"java/lang/String", "equals", "(Ljava/lang/Object;)Z"⟩ : MethodName)) (z := (⟨"java/lang/String", "equals", "(Ljava/lang/Object;)Z"⟩ : MethodName)) hx (ow hw 70 rfl) (ow hw 54 rfl) (nfSel (ow hw 56 rfl)) (ow hw 56 rfl) (ow hw 55 rfl) (by decide) (fun hZ H hEL => own_payEqF (W := 0) (own_wEq hw) (ow hw 2 rfl) Scs hzc O6 f7 S5 (fun q => c1 q.symm) (by decide) (by decide) hZ H hEL) 12 (argsL := [(.ref b5)]) (rest := []) f7.1 (lenOf own_pd58 rfl) rfl rfl (Nat.le_of_eq rfl) (by rw [hml]; rfl) (hb hby own_d_method_3_9) rfl (by decide) (by decide) ?_
      rintro _ vm6 h6 C6 ⟨rfl, rfl⟩
      have z6 := C6.2.1
      refine gat (mkF m 12 #[.val (.ref y)] [(.int (0 : Int32))]) rfl ?_
      refine gs (mkF m 19 #[.val (.ref y)] []) (fun _ _ A kq => XS.ifYes A hx rfl (pc0 := 12) (pc' := 19) rfl (hb hby own_d_method_3_12) rfl ((if0 _ _).trans (teq (by decide)).1) (by decide) (by decide) kq) ?_
      refine gs (mkF m 20 #[.val (.ref y)] [(.ref y)]) (fun _ _ A kq => XS.aloadN A hx rfl (hb hby own_d_method_3_19) rfl rfl kq) ?_
      refine gldcR hx (ow hw 83 rfl) hSA (by decide) (n := 64) (by decide) (by decide) (vs := [Value.int (104 : Int32), Value.int (105 : Int32), Value.int (103 : Int32), Value.int (104 : Int32), Value.int (108 : Int32), Value.int (121 : Int32), Value.int (95 : Int32), Value.int (97 : Int32), Value.int (118 : Int32), Value.int (97 : Int32), Value.int (105 : Int32), Value.int (108 : Int32), Value.int (97 : Int32), Value.int (98 : Int32), Value.int (108 : Int32), Value.int (101 : Int32)]) (z := (16 : Int32)) (by decide +kernel) (by decide) (by decide) 22 (hb hby own_d_method_3_20) rfl (by decide) (by decide) ?_
      intro b8 t8 k8 vm8 h8 E8 C8 Q8a Q8b Q8c Q8d Q8e
      have z8 := C8.2.1
      have S8 : Str Z h8 b8 t8 [(104 : Int32), (105 : Int32), (103 : Int32), (104 : Int32), (108 : Int32), (121 : Int32), (95 : Int32), (97 : Int32), (118 : Int32), (97 : Int32), (105 : Int32), (108 : Int32), (97 : Int32), (98 : Int32), (108 : Int32), (101 : Int32)] := Str.lit Q8a Q8b Q8c Q8d (by decide) rfl rfl (by decide)
      have lt_b8 : h8.size > b8 := S8.1.lt
      have lt_t8 : h8.size > t8 := S8.tlt
      have f10 := (f7.ext E8)
      refine ginfo fun _ _ O9 => ?_
      refine gcallV (y := (⟨"java/lang/String", "equals", "(Ljava/lang/Object;)Z"⟩ : MethodName)) (z := (⟨"java/lang/String", "equals", "(Ljava/lang/Object;)Z"⟩ : MethodName)) hx (ow hw 70 rfl) (ow hw 54 rfl) (nfSel (ow hw 56 rfl)) (ow hw 56 rfl) (ow hw 55 rfl) (by decide) (fun hZ H hEL => own_payEqT (W := 0) (own_wEq hw) (ow hw 2 rfl) Scs hzc O9 f10 S8 c2.symm (by decide) (by decide) hZ H hEL) 25 (argsL := [(.ref b8)]) (rest := []) f10.1 (lenOf own_pd58 rfl) rfl rfl (Nat.le_of_eq rfl) (by rw [hml]; rfl) (hb hby own_d_method_3_22) rfl (by decide) (by decide) ?_
      rintro _ vm9 h9 C9 ⟨rfl, rfl⟩
      have z9 := C9.2.1
      refine gat (mkF m 25 #[.val (.ref y)] [(.int (1 : Int32))]) rfl ?_
      refine gs (mkF m 28 #[.val (.ref y)] []) (fun _ _ A kq => XS.ifNo A hx rfl (hb hby own_d_method_3_25) rfl ((if0 _ _).trans (feq (by decide)).1) kq) ?_
      refine ggetS (host := "") hx (Or.inl (ow hw 72 rfl)) Via.refl Sah 31 (hb hby own_d_method_3_28) rfl ?_
      exact gretA hx hret rfl rfl (hb hby own_d_method_3_31) (by decide) (by decide) (fun vq Cq => ⟨(by rw [own_nm, if_neg c1, if_pos c2]), (((Keep.refl h0 []).ext E5).ext E8)⟩)
    · refine gs (mkF m 1 #[.val (.ref y)] [(.ref y)]) (fun _ _ A kq => XS.aloadN A hx rfl (hb hby own_d_method_3_0) rfl rfl kq) ?_
      refine gs (mkF m 6 #[.val (.ref y)] []) (fun _ _ A kq => XS.ifnonnullYes A hx rfl (pc0 := 1) (pc' := 6) rfl (hb hby own_d_method_3_1) rfl (by decide) (by decide) kq) ?_
      refine gs (mkF m 7 #[.val (.ref y)] [(.ref y)]) (fun _ _ A kq => XS.aloadN A hx rfl (hb hby own_d_method_3_6) rfl rfl kq) ?_
      refine gldcR hx (ow hw 67 rfl) hSA (by decide) (n := 24) (by decide) (by decide) (vs := [Value.int (115 : Int32), Value.int (116 : Int32), Value.int (105 : Int32), Value.int (99 : Int32), Value.int (107 : Int32), Value.int (121 : Int32)]) (z := (6 : Int32)) (by decide +kernel) (by decide) (by decide) 9 (hb hby own_d_method_3_7) rfl (by decide) (by decide) ?_
      intro b12 t12 k12 vm12 h12 E12 C12 Q12a Q12b Q12c Q12d Q12e
      have z12 := C12.2.1
      have S12 : Str Z h12 b12 t12 [(115 : Int32), (116 : Int32), (105 : Int32), (99 : Int32), (107 : Int32), (121 : Int32)] := Str.lit Q12a Q12b Q12c Q12d (by decide) rfl rfl (by decide)
      have lt_b12 : h12.size > b12 := S12.1.lt
      have lt_t12 : h12.size > t12 := S12.tlt
      have f14 := (P0.ext E12)
      refine ginfo fun _ _ O13 => ?_
      refine gcallV (y := (⟨"java/lang/String", "equals", "(Ljava/lang/Object;)Z"⟩ : MethodName)) (z := (⟨"java/lang/String", "equals", "(Ljava/lang/Object;)Z"⟩ : MethodName)) hx (ow hw 70 rfl) (ow hw 54 rfl) (nfSel (ow hw 56 rfl)) (ow hw 56 rfl) (ow hw 55 rfl) (by decide) (fun hZ H hEL => own_payEqF (W := 0) (own_wEq hw) (ow hw 2 rfl) Scs hzc O13 f14 S12 (fun q => c1 q.symm) (by decide) (by decide) hZ H hEL) 12 (argsL := [(.ref b12)]) (rest := []) f14.1 (lenOf own_pd58 rfl) rfl rfl (Nat.le_of_eq rfl) (by rw [hml]; rfl) (hb hby own_d_method_3_9) rfl (by decide) (by decide) ?_
      rintro _ vm13 h13 C13 ⟨rfl, rfl⟩
      have z13 := C13.2.1
      refine gat (mkF m 12 #[.val (.ref y)] [(.int (0 : Int32))]) rfl ?_
      refine gs (mkF m 19 #[.val (.ref y)] []) (fun _ _ A kq => XS.ifYes A hx rfl (pc0 := 12) (pc' := 19) rfl (hb hby own_d_method_3_12) rfl ((if0 _ _).trans (teq (by decide)).1) (by decide) (by decide) kq) ?_
      refine gs (mkF m 20 #[.val (.ref y)] [(.ref y)]) (fun _ _ A kq => XS.aloadN A hx rfl (hb hby own_d_method_3_19) rfl rfl kq) ?_
      refine gldcR hx (ow hw 83 rfl) hSA (by decide) (n := 64) (by decide) (by decide) (vs := [Value.int (104 : Int32), Value.int (105 : Int32), Value.int (103 : Int32), Value.int (104 : Int32), Value.int (108 : Int32), Value.int (121 : Int32), Value.int (95 : Int32), Value.int (97 : Int32), Value.int (118 : Int32), Value.int (97 : Int32), Value.int (105 : Int32), Value.int (108 : Int32), Value.int (97 : Int32), Value.int (98 : Int32), Value.int (108 : Int32), Value.int (101 : Int32)]) (z := (16 : Int32)) (by decide +kernel) (by decide) (by decide) 22 (hb hby own_d_method_3_20) rfl (by decide) (by decide) ?_
      intro b15 t15 k15 vm15 h15 E15 C15 Q15a Q15b Q15c Q15d Q15e
      have z15 := C15.2.1
      have S15 : Str Z h15 b15 t15 [(104 : Int32), (105 : Int32), (103 : Int32), (104 : Int32), (108 : Int32), (121 : Int32), (95 : Int32), (97 : Int32), (118 : Int32), (97 : Int32), (105 : Int32), (108 : Int32), (97 : Int32), (98 : Int32), (108 : Int32), (101 : Int32)] := Str.lit Q15a Q15b Q15c Q15d (by decide) rfl rfl (by decide)
      have lt_b15 : h15.size > b15 := S15.1.lt
      have lt_t15 : h15.size > t15 := S15.tlt
      have f17 := (f14.ext E15)
      refine ginfo fun _ _ O16 => ?_
      refine gcallV (y := (⟨"java/lang/String", "equals", "(Ljava/lang/Object;)Z"⟩ : MethodName)) (z := (⟨"java/lang/String", "equals", "(Ljava/lang/Object;)Z"⟩ : MethodName)) hx (ow hw 70 rfl) (ow hw 54 rfl) (nfSel (ow hw 56 rfl)) (ow hw 56 rfl) (ow hw 55 rfl) (by decide) (fun hZ H hEL => own_payEqF (W := 0) (own_wEq hw) (ow hw 2 rfl) Scs hzc O16 f17 S15 (fun q => c2 q.symm) (by decide) (by decide) hZ H hEL) 25 (argsL := [(.ref b15)]) (rest := []) f17.1 (lenOf own_pd58 rfl) rfl rfl (Nat.le_of_eq rfl) (by rw [hml]; rfl) (hb hby own_d_method_3_22) rfl (by decide) (by decide) ?_
      rintro _ vm16 h16 C16 ⟨rfl, rfl⟩
      have z16 := C16.2.1
      refine gat (mkF m 25 #[.val (.ref y)] [(.int (0 : Int32))]) rfl ?_
      refine gs (mkF m 32 #[.val (.ref y)] []) (fun _ _ A kq => XS.ifYes A hx rfl (pc0 := 25) (pc' := 32) rfl (hb hby own_d_method_3_25) rfl ((if0 _ _).trans (teq (by decide)).1) (by decide) (by decide) kq) ?_
      refine gs (mkF m 33 #[.val (.ref y)] [.null]) (fun _ _ A kq => XS.aconstNull A hx rfl (hb hby own_d_method_3_32) kq) ?_
      exact gretA hx hret rfl rfl (hb hby own_d_method_3_33) (by decide) (by decide) (fun vq Cq => ⟨(by rw [own_nm, if_neg c1, if_neg c2]), (((Keep.refl h0 []).ext E12).ext E15)⟩)
theorem own_d_method_3_4 : decode method_3_code 4 = .ok (.aconst_null, 1) := by decide +kernel
theorem own_d_method_3_5 : decode method_3_code 5 = .ok (.areturn, 1) := by decide +kernel
set_option maxRecDepth 65536 in
set_option maxHeartbeats 40000000 in
theorem own_expN (l : Launch) (Z : State) (a0 : Array Value) (cx : Ctx Z a0) (ws : List Jvm.Cond) (va : Addr) (ak : Addr) (ah : Addr) (nk : Addr) (nh : Addr) (tk : Addr) (th : Addr) (kv : ClassId) (vm0 : Vm) (h0 : Heap) (X00 : Ext Z.heap h0) (hK : (OwnK Z va ak ah nk nh tk th kv)) :
    Met l (⟨"com/example/tasks_to_members/taskstomembers/core/TaskAssignorNamedPinLaw", "expected", "(Ljava/lang/String;)Lcom/example/tasks_to_members/taskstomembers/core/TaskAssignor;"⟩ : MethodName) method_3_code 1 (some (.object "com/example/tasks_to_members/taskstomembers/core/TaskAssignor")) ws ({ frames := 0, cells := 0, slots := 0, locals := 0 } : Room) Z consts_1 vm0 h0 #[.null] (fun rv vm h => rv = some .null ∧ Keep h0 h []) := by
  obtain ⟨hw, hEL, ⟨zc, Scs, hzc⟩, ⟨fm, Sfm, hfm⟩, hK0⟩ := id cx
  have hSA := own_SA hw
  refine Met.of_walk (a0 := a0) #[.val .null] (plainFor_of_name own_pn82) X00 hEL (fun m => by first | (simp [entryFrame, mkF, argsToLocals, Value.category]; done) | rfl) ?_
  intro p e s m below meth c vm hx hby hml hret hnm hC0
  obtain ⟨Sva, Eva, Vva, Sak, Eak, Sah, Eah, Fnk, Snk, Fnh, Snh⟩ := id hK
  refine gs (mkF m 1 #[.val .null] [.null]) (fun _ _ A kq => XS.aloadN A hx rfl (hb hby own_d_method_3_0) rfl rfl kq) ?_
  refine gs (mkF m 4 #[.val .null] []) (fun _ _ A kq => XS.ifnonnullNo A hx rfl (hb hby own_d_method_3_1) rfl kq) ?_
  refine gs (mkF m 5 #[.val .null] [.null]) (fun _ _ A kq => XS.aconstNull A hx rfl (hb hby own_d_method_3_4) kq) ?_
  exact gretA hx hret rfl rfl (hb hby own_d_method_3_5) (by decide) (by decide) (fun vq Cq => ⟨rfl, (Keep.refl h0 [])⟩)
theorem own_l255 (x : Int64) : 0 ≤ ((x &&& (255 : Int64)).toInt32).toInt ∧ ((x &&& (255 : Int64)).toInt32).toInt ≤ 255 := by
  have h := c_maskL x 255 8 (by decide) (by decide)
  have r : (x &&& (255 : Int64)).toInt32.toInt = (x &&& (255 : Int64)).toInt := by
    rw [Int64.toInt_toInt32]
    exact Int.bmod_eq_of_le (by omega) (by omega)
  omega
theorem own_lB (x : Int64) : B8 ((x &&& (255 : Int64)).toInt32) := by
  have h := own_l255 x
  have e1 : (0 : Int32).toInt = 0 := rfl
  have e2 : (255 : Int32).toInt = 255 := rfl
  exact ⟨by rw [Int32.lt_iff_toInt_lt, e1]; omega, by rw [Int32.lt_iff_toInt_lt, e2]; omega⟩
theorem own_l16 (x : Int64) : (((x &&& (255 : Int64)).toInt32).toUInt32.toUInt16.toUInt32.toInt32) = ((x &&& (255 : Int64)).toInt32) := by
  have h := own_l255 x
  have q := c_i2c ((x &&& (255 : Int64)).toInt32)
  apply Int32.toInt_inj.mp
  omega
theorem own_d_method_4_0 : decode method_4_code 0 = .ok (.bipush 6, 2) := by decide +kernel
theorem own_d_method_4_2 : decode method_4_code 2 = .ok (.newarray .char, 2) := by decide +kernel
theorem own_d_method_4_4 : decode method_4_code 4 = .ok (.dup, 1) := by decide +kernel
theorem own_d_method_4_5 : decode method_4_code 5 = .ok (.iconst 0, 1) := by decide +kernel
theorem own_d_method_4_6 : decode method_4_code 6 = .ok (.lload_n 0, 1) := by decide +kernel
theorem own_d_method_4_7 : decode method_4_code 7 = .ok (.ldc2_w 50, 3) := by decide +kernel
theorem own_d_method_4_10 : decode method_4_code 10 = .ok (.land, 1) := by decide +kernel
theorem own_d_method_4_11 : decode method_4_code 11 = .ok (.l2i, 1) := by decide +kernel
theorem own_d_method_4_12 : decode method_4_code 12 = .ok (.i2c, 1) := by decide +kernel
theorem own_d_method_4_13 : decode method_4_code 13 = .ok (.castore, 1) := by decide +kernel
theorem own_d_method_4_14 : decode method_4_code 14 = .ok (.dup, 1) := by decide +kernel
theorem own_d_method_4_15 : decode method_4_code 15 = .ok (.iconst 1, 1) := by decide +kernel
theorem own_d_method_4_16 : decode method_4_code 16 = .ok (.lload_n 0, 1) := by decide +kernel
theorem own_d_method_4_17 : decode method_4_code 17 = .ok (.bipush 8, 2) := by decide +kernel
theorem own_d_method_4_19 : decode method_4_code 19 = .ok (.lushr, 1) := by decide +kernel
theorem own_d_method_4_20 : decode method_4_code 20 = .ok (.ldc2_w 50, 3) := by decide +kernel
theorem own_d_method_4_23 : decode method_4_code 23 = .ok (.land, 1) := by decide +kernel
theorem own_d_method_4_24 : decode method_4_code 24 = .ok (.l2i, 1) := by decide +kernel
theorem own_d_method_4_25 : decode method_4_code 25 = .ok (.i2c, 1) := by decide +kernel
theorem own_d_method_4_26 : decode method_4_code 26 = .ok (.castore, 1) := by decide +kernel
theorem own_d_method_4_27 : decode method_4_code 27 = .ok (.dup, 1) := by decide +kernel
theorem own_d_method_4_28 : decode method_4_code 28 = .ok (.iconst 2, 1) := by decide +kernel
theorem own_d_method_4_29 : decode method_4_code 29 = .ok (.lload_n 0, 1) := by decide +kernel
theorem own_d_method_4_30 : decode method_4_code 30 = .ok (.bipush 16, 2) := by decide +kernel
theorem own_d_method_4_32 : decode method_4_code 32 = .ok (.lushr, 1) := by decide +kernel
theorem own_d_method_4_33 : decode method_4_code 33 = .ok (.ldc2_w 50, 3) := by decide +kernel
theorem own_d_method_4_36 : decode method_4_code 36 = .ok (.land, 1) := by decide +kernel
theorem own_d_method_4_37 : decode method_4_code 37 = .ok (.l2i, 1) := by decide +kernel
theorem own_d_method_4_38 : decode method_4_code 38 = .ok (.i2c, 1) := by decide +kernel
theorem own_d_method_4_39 : decode method_4_code 39 = .ok (.castore, 1) := by decide +kernel
theorem own_d_method_4_40 : decode method_4_code 40 = .ok (.dup, 1) := by decide +kernel
theorem own_d_method_4_41 : decode method_4_code 41 = .ok (.iconst 3, 1) := by decide +kernel
theorem own_d_method_4_42 : decode method_4_code 42 = .ok (.lload_n 0, 1) := by decide +kernel
theorem own_d_method_4_43 : decode method_4_code 43 = .ok (.bipush 24, 2) := by decide +kernel
theorem own_d_method_4_45 : decode method_4_code 45 = .ok (.lushr, 1) := by decide +kernel
theorem own_d_method_4_46 : decode method_4_code 46 = .ok (.ldc2_w 50, 3) := by decide +kernel
theorem own_d_method_4_49 : decode method_4_code 49 = .ok (.land, 1) := by decide +kernel
theorem own_d_method_4_50 : decode method_4_code 50 = .ok (.l2i, 1) := by decide +kernel
theorem own_d_method_4_51 : decode method_4_code 51 = .ok (.i2c, 1) := by decide +kernel
theorem own_d_method_4_52 : decode method_4_code 52 = .ok (.castore, 1) := by decide +kernel
theorem own_d_method_4_53 : decode method_4_code 53 = .ok (.dup, 1) := by decide +kernel
theorem own_d_method_4_54 : decode method_4_code 54 = .ok (.iconst 4, 1) := by decide +kernel
theorem own_d_method_4_55 : decode method_4_code 55 = .ok (.lload_n 0, 1) := by decide +kernel
theorem own_d_method_4_56 : decode method_4_code 56 = .ok (.bipush 32, 2) := by decide +kernel
theorem own_d_method_4_58 : decode method_4_code 58 = .ok (.lushr, 1) := by decide +kernel
theorem own_d_method_4_59 : decode method_4_code 59 = .ok (.ldc2_w 50, 3) := by decide +kernel
theorem own_d_method_4_62 : decode method_4_code 62 = .ok (.land, 1) := by decide +kernel
theorem own_d_method_4_63 : decode method_4_code 63 = .ok (.l2i, 1) := by decide +kernel
theorem own_d_method_4_64 : decode method_4_code 64 = .ok (.i2c, 1) := by decide +kernel
theorem own_d_method_4_65 : decode method_4_code 65 = .ok (.castore, 1) := by decide +kernel
theorem own_d_method_4_66 : decode method_4_code 66 = .ok (.dup, 1) := by decide +kernel
theorem own_d_method_4_67 : decode method_4_code 67 = .ok (.iconst 5, 1) := by decide +kernel
theorem own_d_method_4_68 : decode method_4_code 68 = .ok (.lload_n 0, 1) := by decide +kernel
theorem own_d_method_4_69 : decode method_4_code 69 = .ok (.bipush 40, 2) := by decide +kernel
theorem own_d_method_4_71 : decode method_4_code 71 = .ok (.lushr, 1) := by decide +kernel
theorem own_d_method_4_72 : decode method_4_code 72 = .ok (.ldc2_w 50, 3) := by decide +kernel
theorem own_d_method_4_75 : decode method_4_code 75 = .ok (.land, 1) := by decide +kernel
theorem own_d_method_4_76 : decode method_4_code 76 = .ok (.l2i, 1) := by decide +kernel
theorem own_d_method_4_77 : decode method_4_code 77 = .ok (.i2c, 1) := by decide +kernel
theorem own_d_method_4_78 : decode method_4_code 78 = .ok (.castore, 1) := by decide +kernel
theorem own_d_method_4_79 : decode method_4_code 79 = .ok (.astore_n 2, 1) := by decide +kernel
theorem own_d_method_4_80 : decode method_4_code 80 = .ok (.new 34, 3) := by decide +kernel
theorem own_d_method_4_83 : decode method_4_code 83 = .ok (.dup, 1) := by decide +kernel
theorem own_d_method_4_84 : decode method_4_code 84 = .ok (.aload_n 2, 1) := by decide +kernel
theorem own_d_method_4_85 : decode method_4_code 85 = .ok (.invokespecial 36, 3) := by decide +kernel
theorem own_pd150 : parseMethodDescriptor "([C)V" = some ⟨[(.array .char)], none⟩ := by decide +kernel
theorem own_d_method_4_88 : decode method_4_code 88 = .ok (.areturn, 1) := by decide +kernel
set_option maxRecDepth 65536 in
set_option maxHeartbeats 40000000 in
theorem own_drawn6 (l : Launch) (Z : State) (a0 : Array Value) (cx : Ctx Z a0) (ws : List Jvm.Cond) (x : Int64) (vm0 : Vm) (h0 : Heap) (X00 : Ext Z.heap h0)  :
    Met l (⟨"com/example/tasks_to_members/taskstomembers/core/TaskAssignorNamedPinLaw", "drawn6", "(J)Ljava/lang/String;"⟩ : MethodName) method_4_code 3 (some (.object "java/lang/String")) ws ({ frames := 4, cells := 3, slots := 16, locals := 66 } : Room) Z consts_1 vm0 h0 #[(.long x)] (fun rv vm h => ∃ (r : Addr), ∃ (t : Addr), ∃ (cs : List Int32), rv = some (.ref r) ∧ Keep h0 h [] ∧ Str Z h r t cs) := by
  obtain ⟨hw, hEL, ⟨zc, Scs, hzc⟩, ⟨fm, Sfm, hfm⟩, hK0⟩ := id cx
  have hSA := own_SA hw
  refine Met.of_walk (a0 := a0) #[.val (.long x), .second, .unset] (plainFor_of_name own_pn82) X00 hEL (fun m => by first | (simp [entryFrame, mkF, argsToLocals, Value.category]; done) | rfl) ?_
  intro p e s m below meth c vm hx hby hml hret hnm hC0
  refine gs (mkF m 2 #[.val (.long x), .second, .unset] [(.int (6 : Int32))]) (fun _ _ A kq => XS.bipush A hx rfl (hb hby own_d_method_4_0) kq) ?_
  refine gnewP hx (ow hw 0 rfl) (n := (6 : Int32)) (by decide) (cap := 6) (by decide) (by decide) 4 (hb hby own_d_method_4_2) rfl (by decide) (by decide) ?_
  intro b1 h1 k1 g1 E1 C1 V1 n1 L1
  have z1 := C1.2.1
  have V1 : Arv Z h1 b1 k1 .char (6 : Int32) [(.int (0 : Int32)), (.int (0 : Int32)), (.int (0 : Int32)), (.int (0 : Int32)), (.int (0 : Int32)), (.int (0 : Int32))] (.int (0 : Int32)) := V1.pad (pad_rep [] (.int (0 : Int32)) 6)
  have lt_b1 : h1.size > b1 := V1.lt
  refine gs (mkF m 5 #[.val (.long x), .second, .unset] [(.ref b1), (.ref b1)]) (fun _ _ A kq => XS.dup A hx rfl (hb hby own_d_method_4_4) rfl rfl kq) ?_
  refine gs (mkF m 6 #[.val (.long x), .second, .unset] [(.int (0 : Int32)), (.ref b1), (.ref b1)]) (fun _ _ A kq => XS.iconst A hx rfl (hb hby own_d_method_4_5) kq) ?_
  refine gs (mkF m 7 #[.val (.long x), .second, .unset] [(.long x), (.int (0 : Int32)), (.ref b1), (.ref b1)]) (fun _ _ A kq => XS.lloadN A hx rfl (hb hby own_d_method_4_6) rfl  kq) ?_
  refine gldcJ hx (ow hw 82 rfl) 10 (hb hby own_d_method_4_7) rfl ?_
  refine gs (mkF m 11 #[.val (.long x), .second, .unset] [(.long (x &&& (255 : Int64))), (.int (0 : Int32)), (.ref b1), (.ref b1)]) (fun _ _ A kq => XS.land A hx rfl (hb hby own_d_method_4_10) rfl kq) ?_
  refine gs (mkF m 12 #[.val (.long x), .second, .unset] [(.int ((x &&& (255 : Int64)).toInt32)), (.int (0 : Int32)), (.ref b1), (.ref b1)]) (fun _ _ A kq => XS.l2i A hx rfl (hb hby own_d_method_4_11) rfl kq) ?_
  refine gi2c hx (own_l16 _) 13 (hb hby own_d_method_4_12) rfl ?_
  refine gstC hx V1 ⟨by decide, by decide⟩ (i := 0) rfl (Nat.le_of_ble_eq_true rfl) (y := ((x &&& (255 : Int64)).toInt32)) (own_l16 _) n1 14 (hb hby own_d_method_4_13) rfl ?_
  intro h3 W3 C3 V3
  have z3 := C3.2.1
  replace V3 : Arv Z h3 b1 k1 .char (6 : Int32) [(.int ((x &&& (255 : Int64)).toInt32)), (.int (0 : Int32)), (.int (0 : Int32)), (.int (0 : Int32)), (.int (0 : Int32)), (.int (0 : Int32))] (.int (0 : Int32)) := V3
  refine gs (mkF m 15 #[.val (.long x), .second, .unset] [(.ref b1), (.ref b1)]) (fun _ _ A kq => XS.dup A hx rfl (hb hby own_d_method_4_14) rfl rfl kq) ?_
  refine gs (mkF m 16 #[.val (.long x), .second, .unset] [(.int (1 : Int32)), (.ref b1), (.ref b1)]) (fun _ _ A kq => XS.iconst A hx rfl (hb hby own_d_method_4_15) kq) ?_
  refine gs (mkF m 17 #[.val (.long x), .second, .unset] [(.long x), (.int (1 : Int32)), (.ref b1), (.ref b1)]) (fun _ _ A kq => XS.lloadN A hx rfl (hb hby own_d_method_4_16) rfl  kq) ?_
  refine gs (mkF m 19 #[.val (.long x), .second, .unset] [(.int (8 : Int32)), (.long x), (.int (1 : Int32)), (.ref b1), (.ref b1)]) (fun _ _ A kq => XS.bipush A hx rfl (hb hby own_d_method_4_17) kq) ?_
  refine gs (mkF m 20 #[.val (.long x), .second, .unset] [(.long ((x.toUInt64 >>> ((8 : Int32) &&& 0x3f).toInt64.toUInt64).toInt64)), (.int (1 : Int32)), (.ref b1), (.ref b1)]) (fun _ _ A kq => XS.lushr A hx rfl (hb hby own_d_method_4_19) rfl kq) ?_
  refine gldcJ hx (ow hw 82 rfl) 23 (hb hby own_d_method_4_20) rfl ?_
  refine gs (mkF m 24 #[.val (.long x), .second, .unset] [(.long (((x.toUInt64 >>> ((8 : Int32) &&& 0x3f).toInt64.toUInt64).toInt64) &&& (255 : Int64))), (.int (1 : Int32)), (.ref b1), (.ref b1)]) (fun _ _ A kq => XS.land A hx rfl (hb hby own_d_method_4_23) rfl kq) ?_
  refine gs (mkF m 25 #[.val (.long x), .second, .unset] [(.int ((((x.toUInt64 >>> ((8 : Int32) &&& 0x3f).toInt64.toUInt64).toInt64) &&& (255 : Int64)).toInt32)), (.int (1 : Int32)), (.ref b1), (.ref b1)]) (fun _ _ A kq => XS.l2i A hx rfl (hb hby own_d_method_4_24) rfl kq) ?_
  refine gi2c hx (own_l16 _) 26 (hb hby own_d_method_4_25) rfl ?_
  refine gstC hx V3 ⟨by decide, by decide⟩ (i := 1) rfl (Nat.le_of_ble_eq_true rfl) (y := ((((x.toUInt64 >>> ((8 : Int32) &&& 0x3f).toInt64.toUInt64).toInt64) &&& (255 : Int64)).toInt32)) (own_l16 _) n1 27 (hb hby own_d_method_4_26) rfl ?_
  intro h5 W5 C5 V5
  have z5 := C5.2.1
  replace V5 : Arv Z h5 b1 k1 .char (6 : Int32) [(.int ((x &&& (255 : Int64)).toInt32)), (.int ((((x.toUInt64 >>> ((8 : Int32) &&& 0x3f).toInt64.toUInt64).toInt64) &&& (255 : Int64)).toInt32)), (.int (0 : Int32)), (.int (0 : Int32)), (.int (0 : Int32)), (.int (0 : Int32))] (.int (0 : Int32)) := V5
  refine gs (mkF m 28 #[.val (.long x), .second, .unset] [(.ref b1), (.ref b1)]) (fun _ _ A kq => XS.dup A hx rfl (hb hby own_d_method_4_27) rfl rfl kq) ?_
  refine gs (mkF m 29 #[.val (.long x), .second, .unset] [(.int (2 : Int32)), (.ref b1), (.ref b1)]) (fun _ _ A kq => XS.iconst A hx rfl (hb hby own_d_method_4_28) kq) ?_
  refine gs (mkF m 30 #[.val (.long x), .second, .unset] [(.long x), (.int (2 : Int32)), (.ref b1), (.ref b1)]) (fun _ _ A kq => XS.lloadN A hx rfl (hb hby own_d_method_4_29) rfl  kq) ?_
  refine gs (mkF m 32 #[.val (.long x), .second, .unset] [(.int (16 : Int32)), (.long x), (.int (2 : Int32)), (.ref b1), (.ref b1)]) (fun _ _ A kq => XS.bipush A hx rfl (hb hby own_d_method_4_30) kq) ?_
  refine gs (mkF m 33 #[.val (.long x), .second, .unset] [(.long ((x.toUInt64 >>> ((16 : Int32) &&& 0x3f).toInt64.toUInt64).toInt64)), (.int (2 : Int32)), (.ref b1), (.ref b1)]) (fun _ _ A kq => XS.lushr A hx rfl (hb hby own_d_method_4_32) rfl kq) ?_
  refine gldcJ hx (ow hw 82 rfl) 36 (hb hby own_d_method_4_33) rfl ?_
  refine gs (mkF m 37 #[.val (.long x), .second, .unset] [(.long (((x.toUInt64 >>> ((16 : Int32) &&& 0x3f).toInt64.toUInt64).toInt64) &&& (255 : Int64))), (.int (2 : Int32)), (.ref b1), (.ref b1)]) (fun _ _ A kq => XS.land A hx rfl (hb hby own_d_method_4_36) rfl kq) ?_
  refine gs (mkF m 38 #[.val (.long x), .second, .unset] [(.int ((((x.toUInt64 >>> ((16 : Int32) &&& 0x3f).toInt64.toUInt64).toInt64) &&& (255 : Int64)).toInt32)), (.int (2 : Int32)), (.ref b1), (.ref b1)]) (fun _ _ A kq => XS.l2i A hx rfl (hb hby own_d_method_4_37) rfl kq) ?_
  refine gi2c hx (own_l16 _) 39 (hb hby own_d_method_4_38) rfl ?_
  refine gstC hx V5 ⟨by decide, by decide⟩ (i := 2) rfl (Nat.le_of_ble_eq_true rfl) (y := ((((x.toUInt64 >>> ((16 : Int32) &&& 0x3f).toInt64.toUInt64).toInt64) &&& (255 : Int64)).toInt32)) (own_l16 _) n1 40 (hb hby own_d_method_4_39) rfl ?_
  intro h7 W7 C7 V7
  have z7 := C7.2.1
  replace V7 : Arv Z h7 b1 k1 .char (6 : Int32) [(.int ((x &&& (255 : Int64)).toInt32)), (.int ((((x.toUInt64 >>> ((8 : Int32) &&& 0x3f).toInt64.toUInt64).toInt64) &&& (255 : Int64)).toInt32)), (.int ((((x.toUInt64 >>> ((16 : Int32) &&& 0x3f).toInt64.toUInt64).toInt64) &&& (255 : Int64)).toInt32)), (.int (0 : Int32)), (.int (0 : Int32)), (.int (0 : Int32))] (.int (0 : Int32)) := V7
  refine gs (mkF m 41 #[.val (.long x), .second, .unset] [(.ref b1), (.ref b1)]) (fun _ _ A kq => XS.dup A hx rfl (hb hby own_d_method_4_40) rfl rfl kq) ?_
  refine gs (mkF m 42 #[.val (.long x), .second, .unset] [(.int (3 : Int32)), (.ref b1), (.ref b1)]) (fun _ _ A kq => XS.iconst A hx rfl (hb hby own_d_method_4_41) kq) ?_
  refine gs (mkF m 43 #[.val (.long x), .second, .unset] [(.long x), (.int (3 : Int32)), (.ref b1), (.ref b1)]) (fun _ _ A kq => XS.lloadN A hx rfl (hb hby own_d_method_4_42) rfl  kq) ?_
  refine gs (mkF m 45 #[.val (.long x), .second, .unset] [(.int (24 : Int32)), (.long x), (.int (3 : Int32)), (.ref b1), (.ref b1)]) (fun _ _ A kq => XS.bipush A hx rfl (hb hby own_d_method_4_43) kq) ?_
  refine gs (mkF m 46 #[.val (.long x), .second, .unset] [(.long ((x.toUInt64 >>> ((24 : Int32) &&& 0x3f).toInt64.toUInt64).toInt64)), (.int (3 : Int32)), (.ref b1), (.ref b1)]) (fun _ _ A kq => XS.lushr A hx rfl (hb hby own_d_method_4_45) rfl kq) ?_
  refine gldcJ hx (ow hw 82 rfl) 49 (hb hby own_d_method_4_46) rfl ?_
  refine gs (mkF m 50 #[.val (.long x), .second, .unset] [(.long (((x.toUInt64 >>> ((24 : Int32) &&& 0x3f).toInt64.toUInt64).toInt64) &&& (255 : Int64))), (.int (3 : Int32)), (.ref b1), (.ref b1)]) (fun _ _ A kq => XS.land A hx rfl (hb hby own_d_method_4_49) rfl kq) ?_
  refine gs (mkF m 51 #[.val (.long x), .second, .unset] [(.int ((((x.toUInt64 >>> ((24 : Int32) &&& 0x3f).toInt64.toUInt64).toInt64) &&& (255 : Int64)).toInt32)), (.int (3 : Int32)), (.ref b1), (.ref b1)]) (fun _ _ A kq => XS.l2i A hx rfl (hb hby own_d_method_4_50) rfl kq) ?_
  refine gi2c hx (own_l16 _) 52 (hb hby own_d_method_4_51) rfl ?_
  refine gstC hx V7 ⟨by decide, by decide⟩ (i := 3) rfl (Nat.le_of_ble_eq_true rfl) (y := ((((x.toUInt64 >>> ((24 : Int32) &&& 0x3f).toInt64.toUInt64).toInt64) &&& (255 : Int64)).toInt32)) (own_l16 _) n1 53 (hb hby own_d_method_4_52) rfl ?_
  intro h9 W9 C9 V9
  have z9 := C9.2.1
  replace V9 : Arv Z h9 b1 k1 .char (6 : Int32) [(.int ((x &&& (255 : Int64)).toInt32)), (.int ((((x.toUInt64 >>> ((8 : Int32) &&& 0x3f).toInt64.toUInt64).toInt64) &&& (255 : Int64)).toInt32)), (.int ((((x.toUInt64 >>> ((16 : Int32) &&& 0x3f).toInt64.toUInt64).toInt64) &&& (255 : Int64)).toInt32)), (.int ((((x.toUInt64 >>> ((24 : Int32) &&& 0x3f).toInt64.toUInt64).toInt64) &&& (255 : Int64)).toInt32)), (.int (0 : Int32)), (.int (0 : Int32))] (.int (0 : Int32)) := V9
  refine gs (mkF m 54 #[.val (.long x), .second, .unset] [(.ref b1), (.ref b1)]) (fun _ _ A kq => XS.dup A hx rfl (hb hby own_d_method_4_53) rfl rfl kq) ?_
  refine gs (mkF m 55 #[.val (.long x), .second, .unset] [(.int (4 : Int32)), (.ref b1), (.ref b1)]) (fun _ _ A kq => XS.iconst A hx rfl (hb hby own_d_method_4_54) kq) ?_
  refine gs (mkF m 56 #[.val (.long x), .second, .unset] [(.long x), (.int (4 : Int32)), (.ref b1), (.ref b1)]) (fun _ _ A kq => XS.lloadN A hx rfl (hb hby own_d_method_4_55) rfl  kq) ?_
  refine gs (mkF m 58 #[.val (.long x), .second, .unset] [(.int (32 : Int32)), (.long x), (.int (4 : Int32)), (.ref b1), (.ref b1)]) (fun _ _ A kq => XS.bipush A hx rfl (hb hby own_d_method_4_56) kq) ?_
  refine gs (mkF m 59 #[.val (.long x), .second, .unset] [(.long ((x.toUInt64 >>> ((32 : Int32) &&& 0x3f).toInt64.toUInt64).toInt64)), (.int (4 : Int32)), (.ref b1), (.ref b1)]) (fun _ _ A kq => XS.lushr A hx rfl (hb hby own_d_method_4_58) rfl kq) ?_
  refine gldcJ hx (ow hw 82 rfl) 62 (hb hby own_d_method_4_59) rfl ?_
  refine gs (mkF m 63 #[.val (.long x), .second, .unset] [(.long (((x.toUInt64 >>> ((32 : Int32) &&& 0x3f).toInt64.toUInt64).toInt64) &&& (255 : Int64))), (.int (4 : Int32)), (.ref b1), (.ref b1)]) (fun _ _ A kq => XS.land A hx rfl (hb hby own_d_method_4_62) rfl kq) ?_
  refine gs (mkF m 64 #[.val (.long x), .second, .unset] [(.int ((((x.toUInt64 >>> ((32 : Int32) &&& 0x3f).toInt64.toUInt64).toInt64) &&& (255 : Int64)).toInt32)), (.int (4 : Int32)), (.ref b1), (.ref b1)]) (fun _ _ A kq => XS.l2i A hx rfl (hb hby own_d_method_4_63) rfl kq) ?_
  refine gi2c hx (own_l16 _) 65 (hb hby own_d_method_4_64) rfl ?_
  refine gstC hx V9 ⟨by decide, by decide⟩ (i := 4) rfl (Nat.le_of_ble_eq_true rfl) (y := ((((x.toUInt64 >>> ((32 : Int32) &&& 0x3f).toInt64.toUInt64).toInt64) &&& (255 : Int64)).toInt32)) (own_l16 _) n1 66 (hb hby own_d_method_4_65) rfl ?_
  intro h11 W11 C11 V11
  have z11 := C11.2.1
  replace V11 : Arv Z h11 b1 k1 .char (6 : Int32) [(.int ((x &&& (255 : Int64)).toInt32)), (.int ((((x.toUInt64 >>> ((8 : Int32) &&& 0x3f).toInt64.toUInt64).toInt64) &&& (255 : Int64)).toInt32)), (.int ((((x.toUInt64 >>> ((16 : Int32) &&& 0x3f).toInt64.toUInt64).toInt64) &&& (255 : Int64)).toInt32)), (.int ((((x.toUInt64 >>> ((24 : Int32) &&& 0x3f).toInt64.toUInt64).toInt64) &&& (255 : Int64)).toInt32)), (.int ((((x.toUInt64 >>> ((32 : Int32) &&& 0x3f).toInt64.toUInt64).toInt64) &&& (255 : Int64)).toInt32)), (.int (0 : Int32))] (.int (0 : Int32)) := V11
  refine gs (mkF m 67 #[.val (.long x), .second, .unset] [(.ref b1), (.ref b1)]) (fun _ _ A kq => XS.dup A hx rfl (hb hby own_d_method_4_66) rfl rfl kq) ?_
  refine gs (mkF m 68 #[.val (.long x), .second, .unset] [(.int (5 : Int32)), (.ref b1), (.ref b1)]) (fun _ _ A kq => XS.iconst A hx rfl (hb hby own_d_method_4_67) kq) ?_
  refine gs (mkF m 69 #[.val (.long x), .second, .unset] [(.long x), (.int (5 : Int32)), (.ref b1), (.ref b1)]) (fun _ _ A kq => XS.lloadN A hx rfl (hb hby own_d_method_4_68) rfl  kq) ?_
  refine gs (mkF m 71 #[.val (.long x), .second, .unset] [(.int (40 : Int32)), (.long x), (.int (5 : Int32)), (.ref b1), (.ref b1)]) (fun _ _ A kq => XS.bipush A hx rfl (hb hby own_d_method_4_69) kq) ?_
  refine gs (mkF m 72 #[.val (.long x), .second, .unset] [(.long ((x.toUInt64 >>> ((40 : Int32) &&& 0x3f).toInt64.toUInt64).toInt64)), (.int (5 : Int32)), (.ref b1), (.ref b1)]) (fun _ _ A kq => XS.lushr A hx rfl (hb hby own_d_method_4_71) rfl kq) ?_
  refine gldcJ hx (ow hw 82 rfl) 75 (hb hby own_d_method_4_72) rfl ?_
  refine gs (mkF m 76 #[.val (.long x), .second, .unset] [(.long (((x.toUInt64 >>> ((40 : Int32) &&& 0x3f).toInt64.toUInt64).toInt64) &&& (255 : Int64))), (.int (5 : Int32)), (.ref b1), (.ref b1)]) (fun _ _ A kq => XS.land A hx rfl (hb hby own_d_method_4_75) rfl kq) ?_
  refine gs (mkF m 77 #[.val (.long x), .second, .unset] [(.int ((((x.toUInt64 >>> ((40 : Int32) &&& 0x3f).toInt64.toUInt64).toInt64) &&& (255 : Int64)).toInt32)), (.int (5 : Int32)), (.ref b1), (.ref b1)]) (fun _ _ A kq => XS.l2i A hx rfl (hb hby own_d_method_4_76) rfl kq) ?_
  refine gi2c hx (own_l16 _) 78 (hb hby own_d_method_4_77) rfl ?_
  refine gstC hx V11 ⟨by decide, by decide⟩ (i := 5) rfl (Nat.le_of_ble_eq_true rfl) (y := ((((x.toUInt64 >>> ((40 : Int32) &&& 0x3f).toInt64.toUInt64).toInt64) &&& (255 : Int64)).toInt32)) (own_l16 _) n1 79 (hb hby own_d_method_4_78) rfl ?_
  intro h13 W13 C13 V13
  have z13 := C13.2.1
  replace V13 : Arv Z h13 b1 k1 .char (6 : Int32) [(.int ((x &&& (255 : Int64)).toInt32)), (.int ((((x.toUInt64 >>> ((8 : Int32) &&& 0x3f).toInt64.toUInt64).toInt64) &&& (255 : Int64)).toInt32)), (.int ((((x.toUInt64 >>> ((16 : Int32) &&& 0x3f).toInt64.toUInt64).toInt64) &&& (255 : Int64)).toInt32)), (.int ((((x.toUInt64 >>> ((24 : Int32) &&& 0x3f).toInt64.toUInt64).toInt64) &&& (255 : Int64)).toInt32)), (.int ((((x.toUInt64 >>> ((32 : Int32) &&& 0x3f).toInt64.toUInt64).toInt64) &&& (255 : Int64)).toInt32)), (.int ((((x.toUInt64 >>> ((40 : Int32) &&& 0x3f).toInt64.toUInt64).toInt64) &&& (255 : Int64)).toInt32))] (.int (0 : Int32)) := V13
  refine gs (mkF m 80 #[.val (.long x), .second, .val (.ref b1)] []) (fun _ _ A kq => XS.astoreN A hx rfl (hb hby own_d_method_4_79) rfl rfl (l' := #[.val (.long x), .second, .val (.ref b1)]) rfl kq) ?_
  refine gnewO hx (ow hw 1 rfl) (ow hw 2 rfl) (ow hw 3 rfl) 83 (hb hby own_d_method_4_80) rfl (by decide) (by decide) ?_
  intro b14 h14 g14 E14 C14 A14 D14 n14 L14
  have z14 := C14.2.1
  have lt_b14 : h14.size > b14 := A14.lt
  have F14_coder : Fld Z h14 b14 "java/lang/String" "coder" "B" (.int (0 : Int32)) := D14 (Or.inr (ow hw 27 rfl)) (ty := .byte) (by decide)
  have F14_value : Fld Z h14 b14 "java/lang/String" "value" "[B" .null := D14 (Or.inr (ow hw 29 rfl)) (ty := (.array .byte)) (by decide)
  refine gs (mkF m 84 #[.val (.long x), .second, .val (.ref b1)] [(.ref b14), (.ref b14)]) (fun _ _ A kq => XS.dup A hx rfl (hb hby own_d_method_4_83) rfl rfl kq) ?_
  refine gs (mkF m 85 #[.val (.long x), .second, .val (.ref b1)] [(.ref b1), (.ref b14), (.ref b14)]) (fun _ _ A kq => XS.aloadN A hx rfl (hb hby own_d_method_4_84) rfl rfl kq) ?_
  have f16 := (V13.ext E14)
  refine ginfo fun _ _ O15 => ?_
  refine gcallI (y := (⟨"java/lang/String", "<init>", "([C)V"⟩ : MethodName)) hx rfl (ow hw 4 rfl) (ow hw 5 rfl) (ow hw 6 rfl) (by decide) (fun hZ H hEL => own_payNew (W := 1) (own_wNew hw) (ow hw 2 rfl) Scs hzc O15 (cs := [((x &&& (255 : Int64)).toInt32), ((((x.toUInt64 >>> ((8 : Int32) &&& 0x3f).toInt64.toUInt64).toInt64) &&& (255 : Int64)).toInt32), ((((x.toUInt64 >>> ((16 : Int32) &&& 0x3f).toInt64.toUInt64).toInt64) &&& (255 : Int64)).toInt32), ((((x.toUInt64 >>> ((24 : Int32) &&& 0x3f).toInt64.toUInt64).toInt64) &&& (255 : Int64)).toInt32), ((((x.toUInt64 >>> ((32 : Int32) &&& 0x3f).toInt64.toUInt64).toInt64) &&& (255 : Int64)).toInt32), ((((x.toUInt64 >>> ((40 : Int32) &&& 0x3f).toInt64.toUInt64).toInt64) &&& (255 : Int64)).toInt32)]) (n := 6) n14 A14 F14_value F14_coder f16 rfl rfl (by decide) (by decide) (bcons (own_lB _) (bcons (own_lB _) (bcons (own_lB _) (bcons (own_lB _) (bcons (own_lB _) (bcons (own_lB _) bnil)))))) L14 (by decide) (by decide) hZ H hEL) (a := b14) 88 (argsL := [(.ref b1)]) (rest := [(.ref b14)]) (lenOf own_pd150 rfl) rfl rfl (Nat.le_of_eq rfl) (by rw [hml]; rfl) (hb hby own_d_method_4_85) rfl (by decide) (by decide) ?_
  rintro _ vm15 h15 C15 ⟨t15, rfl, K15, g15, S15⟩
  have z15 := C15.2.1
  have lt_t15 : h15.size > t15 := S15.tlt
  refine gat (mkF m 88 #[.val (.long x), .second, .val (.ref b1)] [(.ref b14)]) rfl ?_
  exact gretA hx hret rfl rfl (hb hby own_d_method_4_88) (by decide) (by decide) (fun vq Cq => ⟨b14, t15, [((x &&& (255 : Int64)).toInt32), ((((x.toUInt64 >>> ((8 : Int32) &&& 0x3f).toInt64.toUInt64).toInt64) &&& (255 : Int64)).toInt32), ((((x.toUInt64 >>> ((16 : Int32) &&& 0x3f).toInt64.toUInt64).toInt64) &&& (255 : Int64)).toInt32), ((((x.toUInt64 >>> ((24 : Int32) &&& 0x3f).toInt64.toUInt64).toInt64) &&& (255 : Int64)).toInt32), ((((x.toUInt64 >>> ((32 : Int32) &&& 0x3f).toInt64.toUInt64).toInt64) &&& (255 : Int64)).toInt32), ((((x.toUInt64 >>> ((40 : Int32) &&& 0x3f).toInt64.toUInt64).toInt64) &&& (255 : Int64)).toInt32)], rfl, ((((((((((Keep.refl h0 []).ext E1).wr W3 (Or.inr (by omega))).wr W5 (Or.inr (by omega))).wr W7 (Or.inr (by omega))).wr W9 (Or.inr (by omega))).wr W11 (Or.inr (by omega))).wr W13 (Or.inr (by omega))).ext E14).trans K15 (allS (Or.inr (by omega)) all0)), S15⟩)
theorem own_d_method_5_0 : decode method_5_code 0 = .ok (.lload_n 0, 1) := by decide +kernel
theorem own_d_method_5_1 : decode method_5_code 1 = .ok (.ldc2_w 52, 3) := by decide +kernel
theorem own_d_method_5_4 : decode method_5_code 4 = .ok (.land, 1) := by decide +kernel
theorem own_d_method_5_5 : decode method_5_code 5 = .ok (.l2i, 1) := by decide +kernel
theorem own_d_method_5_6 : decode method_5_code 6 = .ok (.istore_n 2, 1) := by decide +kernel
theorem own_d_method_5_7 : decode method_5_code 7 = .ok (.lload_n 0, 1) := by decide +kernel
theorem own_d_method_5_8 : decode method_5_code 8 = .ok (.bipush 8, 2) := by decide +kernel
theorem own_d_method_5_10 : decode method_5_code 10 = .ok (.lushr, 1) := by decide +kernel
theorem own_d_method_5_11 : decode method_5_code 11 = .ok (.ldc2_w 50, 3) := by decide +kernel
theorem own_d_method_5_14 : decode method_5_code 14 = .ok (.land, 1) := by decide +kernel
theorem own_d_method_5_15 : decode method_5_code 15 = .ok (.l2i, 1) := by decide +kernel
theorem own_d_method_5_16 : decode method_5_code 16 = .ok (.i2c, 1) := by decide +kernel
theorem own_d_method_5_17 : decode method_5_code 17 = .ok (.istore_n 3, 1) := by decide +kernel
theorem own_d_method_5_18 : decode method_5_code 18 = .ok (.lload_n 0, 1) := by decide +kernel
theorem own_d_method_5_19 : decode method_5_code 19 = .ok (.bipush 16, 2) := by decide +kernel
theorem own_d_method_5_21 : decode method_5_code 21 = .ok (.lushr, 1) := by decide +kernel
theorem own_d_method_5_22 : decode method_5_code 22 = .ok (.ldc2_w 50, 3) := by decide +kernel
theorem own_d_method_5_25 : decode method_5_code 25 = .ok (.land, 1) := by decide +kernel
theorem own_d_method_5_26 : decode method_5_code 26 = .ok (.l2i, 1) := by decide +kernel
theorem own_d_method_5_27 : decode method_5_code 27 = .ok (.i2c, 1) := by decide +kernel
theorem own_d_method_5_28 : decode method_5_code 28 = .ok (.istore 4, 2) := by decide +kernel
theorem own_d_method_5_30 : decode method_5_code 30 = .ok (.lload_n 0, 1) := by decide +kernel
theorem own_d_method_5_31 : decode method_5_code 31 = .ok (.bipush 24, 2) := by decide +kernel
theorem own_d_method_5_33 : decode method_5_code 33 = .ok (.lushr, 1) := by decide +kernel
theorem own_d_method_5_34 : decode method_5_code 34 = .ok (.ldc2_w 50, 3) := by decide +kernel
theorem own_d_method_5_37 : decode method_5_code 37 = .ok (.land, 1) := by decide +kernel
theorem own_d_method_5_38 : decode method_5_code 38 = .ok (.l2i, 1) := by decide +kernel
theorem own_d_method_5_39 : decode method_5_code 39 = .ok (.i2c, 1) := by decide +kernel
theorem own_d_method_5_40 : decode method_5_code 40 = .ok (.istore 5, 2) := by decide +kernel
theorem own_d_method_5_42 : decode method_5_code 42 = .ok (.iload_n 2, 1) := by decide +kernel
theorem own_d_method_5_43 : decode method_5_code 43 = .ok (.ifCond .ne 14, 3) := by decide +kernel
theorem own_d_method_5_46 : decode method_5_code 46 = .ok (.new 34, 3) := by decide +kernel
theorem own_d_method_5_49 : decode method_5_code 49 = .ok (.dup, 1) := by decide +kernel
theorem own_d_method_5_50 : decode method_5_code 50 = .ok (.iconst 0, 1) := by decide +kernel
theorem own_d_method_5_51 : decode method_5_code 51 = .ok (.newarray .char, 2) := by decide +kernel
theorem own_d_method_5_53 : decode method_5_code 53 = .ok (.invokespecial 36, 3) := by decide +kernel
theorem own_d_method_5_56 : decode method_5_code 56 = .ok (.areturn, 1) := by decide +kernel
theorem own_d_method_5_57 : decode method_5_code 57 = .ok (.iload_n 2, 1) := by decide +kernel
theorem own_d_method_5_58 : decode method_5_code 58 = .ok (.iconst 1, 1) := by decide +kernel
theorem own_d_method_5_59 : decode method_5_code 59 = .ok (.if_icmp .ne 18, 3) := by decide +kernel
theorem own_d_method_5_62 : decode method_5_code 62 = .ok (.new 34, 3) := by decide +kernel
theorem own_d_method_5_65 : decode method_5_code 65 = .ok (.dup, 1) := by decide +kernel
theorem own_d_method_5_66 : decode method_5_code 66 = .ok (.iconst 1, 1) := by decide +kernel
theorem own_d_method_5_67 : decode method_5_code 67 = .ok (.newarray .char, 2) := by decide +kernel
theorem own_d_method_5_69 : decode method_5_code 69 = .ok (.dup, 1) := by decide +kernel
theorem own_d_method_5_70 : decode method_5_code 70 = .ok (.iconst 0, 1) := by decide +kernel
theorem own_d_method_5_71 : decode method_5_code 71 = .ok (.iload_n 3, 1) := by decide +kernel
theorem own_d_method_5_72 : decode method_5_code 72 = .ok (.castore, 1) := by decide +kernel
theorem own_d_method_5_73 : decode method_5_code 73 = .ok (.invokespecial 36, 3) := by decide +kernel
theorem own_d_method_5_76 : decode method_5_code 76 = .ok (.areturn, 1) := by decide +kernel
theorem own_d_method_5_77 : decode method_5_code 77 = .ok (.iload_n 2, 1) := by decide +kernel
theorem own_d_method_5_78 : decode method_5_code 78 = .ok (.iconst 2, 1) := by decide +kernel
theorem own_d_method_5_79 : decode method_5_code 79 = .ok (.if_icmp .ne 23, 3) := by decide +kernel
theorem own_d_method_5_82 : decode method_5_code 82 = .ok (.new 34, 3) := by decide +kernel
theorem own_d_method_5_85 : decode method_5_code 85 = .ok (.dup, 1) := by decide +kernel
theorem own_d_method_5_86 : decode method_5_code 86 = .ok (.iconst 2, 1) := by decide +kernel
theorem own_d_method_5_87 : decode method_5_code 87 = .ok (.newarray .char, 2) := by decide +kernel
theorem own_d_method_5_89 : decode method_5_code 89 = .ok (.dup, 1) := by decide +kernel
theorem own_d_method_5_90 : decode method_5_code 90 = .ok (.iconst 0, 1) := by decide +kernel
theorem own_d_method_5_91 : decode method_5_code 91 = .ok (.iload_n 3, 1) := by decide +kernel
theorem own_d_method_5_92 : decode method_5_code 92 = .ok (.castore, 1) := by decide +kernel
theorem own_d_method_5_93 : decode method_5_code 93 = .ok (.dup, 1) := by decide +kernel
theorem own_d_method_5_94 : decode method_5_code 94 = .ok (.iconst 1, 1) := by decide +kernel
theorem own_d_method_5_95 : decode method_5_code 95 = .ok (.iload 4, 2) := by decide +kernel
theorem own_d_method_5_97 : decode method_5_code 97 = .ok (.castore, 1) := by decide +kernel
theorem own_d_method_5_98 : decode method_5_code 98 = .ok (.invokespecial 36, 3) := by decide +kernel
theorem own_d_method_5_101 : decode method_5_code 101 = .ok (.areturn, 1) := by decide +kernel
theorem own_d_method_5_102 : decode method_5_code 102 = .ok (.new 34, 3) := by decide +kernel
theorem own_d_method_5_105 : decode method_5_code 105 = .ok (.dup, 1) := by decide +kernel
theorem own_d_method_5_106 : decode method_5_code 106 = .ok (.iconst 3, 1) := by decide +kernel
theorem own_d_method_5_107 : decode method_5_code 107 = .ok (.newarray .char, 2) := by decide +kernel
theorem own_d_method_5_109 : decode method_5_code 109 = .ok (.dup, 1) := by decide +kernel
theorem own_d_method_5_110 : decode method_5_code 110 = .ok (.iconst 0, 1) := by decide +kernel
theorem own_d_method_5_111 : decode method_5_code 111 = .ok (.iload_n 3, 1) := by decide +kernel
theorem own_d_method_5_112 : decode method_5_code 112 = .ok (.castore, 1) := by decide +kernel
theorem own_d_method_5_113 : decode method_5_code 113 = .ok (.dup, 1) := by decide +kernel
theorem own_d_method_5_114 : decode method_5_code 114 = .ok (.iconst 1, 1) := by decide +kernel
theorem own_d_method_5_115 : decode method_5_code 115 = .ok (.iload 4, 2) := by decide +kernel
theorem own_d_method_5_117 : decode method_5_code 117 = .ok (.castore, 1) := by decide +kernel
theorem own_d_method_5_118 : decode method_5_code 118 = .ok (.dup, 1) := by decide +kernel
theorem own_d_method_5_119 : decode method_5_code 119 = .ok (.iconst 2, 1) := by decide +kernel
theorem own_d_method_5_120 : decode method_5_code 120 = .ok (.iload 5, 2) := by decide +kernel
theorem own_d_method_5_122 : decode method_5_code 122 = .ok (.castore, 1) := by decide +kernel
theorem own_d_method_5_123 : decode method_5_code 123 = .ok (.invokespecial 36, 3) := by decide +kernel
theorem own_d_method_5_126 : decode method_5_code 126 = .ok (.areturn, 1) := by decide +kernel
set_option maxRecDepth 65536 in
set_option maxHeartbeats 40000000 in
theorem own_drawnS (l : Launch) (Z : State) (a0 : Array Value) (cx : Ctx Z a0) (ws : List Jvm.Cond) (x : Int64) (vm0 : Vm) (h0 : Heap) (X00 : Ext Z.heap h0)  :
    Met l (⟨"com/example/tasks_to_members/taskstomembers/core/TaskAssignorNamedPinLaw", "drawnShort", "(J)Ljava/lang/String;"⟩ : MethodName) method_5_code 6 (some (.object "java/lang/String")) ws ({ frames := 4, cells := 6, slots := 12, locals := 66 } : Room) Z consts_1 vm0 h0 #[(.long x)] (fun rv vm h => ∃ (r : Addr), ∃ (t : Addr), ∃ (cs : List Int32), rv = some (.ref r) ∧ Keep h0 h [] ∧ Str Z h r t cs) := by
  obtain ⟨hw, hEL, ⟨zc, Scs, hzc⟩, ⟨fm, Sfm, hfm⟩, hK0⟩ := id cx
  have hSA := own_SA hw
  refine Met.of_walk (a0 := a0) #[.val (.long x), .second, .unset, .unset, .unset, .unset] (plainFor_of_name own_pn82) X00 hEL (fun m => by first | (simp [entryFrame, mkF, argsToLocals, Value.category]; done) | rfl) ?_
  intro p e s m below meth c vm hx hby hml hret hnm hC0
  refine gs (mkF m 1 #[.val (.long x), .second, .unset, .unset, .unset, .unset] [(.long x)]) (fun _ _ A kq => XS.lloadN A hx rfl (hb hby own_d_method_5_0) rfl  kq) ?_
  refine gldcJ hx (ow hw 81 rfl) 4 (hb hby own_d_method_5_1) rfl ?_
  refine gs (mkF m 5 #[.val (.long x), .second, .unset, .unset, .unset, .unset] [(.long (x &&& (3 : Int64)))]) (fun _ _ A kq => XS.land A hx rfl (hb hby own_d_method_5_4) rfl kq) ?_
  refine gs (mkF m 6 #[.val (.long x), .second, .unset, .unset, .unset, .unset] [(.int ((x &&& (3 : Int64)).toInt32))]) (fun _ _ A kq => XS.l2i A hx rfl (hb hby own_d_method_5_5) rfl kq) ?_
  refine gs (mkF m 7 #[.val (.long x), .second, .val (.int ((x &&& (3 : Int64)).toInt32)), .unset, .unset, .unset] []) (fun _ _ A kq => XS.istoreN A hx rfl (hb hby own_d_method_5_6) rfl (l' := #[.val (.long x), .second, .val (.int ((x &&& (3 : Int64)).toInt32)), .unset, .unset, .unset]) rfl kq) ?_
  refine gs (mkF m 8 #[.val (.long x), .second, .val (.int ((x &&& (3 : Int64)).toInt32)), .unset, .unset, .unset] [(.long x)]) (fun _ _ A kq => XS.lloadN A hx rfl (hb hby own_d_method_5_7) rfl  kq) ?_
  refine gs (mkF m 10 #[.val (.long x), .second, .val (.int ((x &&& (3 : Int64)).toInt32)), .unset, .unset, .unset] [(.int (8 : Int32)), (.long x)]) (fun _ _ A kq => XS.bipush A hx rfl (hb hby own_d_method_5_8) kq) ?_
  refine gs (mkF m 11 #[.val (.long x), .second, .val (.int ((x &&& (3 : Int64)).toInt32)), .unset, .unset, .unset] [(.long ((x.toUInt64 >>> ((8 : Int32) &&& 0x3f).toInt64.toUInt64).toInt64))]) (fun _ _ A kq => XS.lushr A hx rfl (hb hby own_d_method_5_10) rfl kq) ?_
  refine gldcJ hx (ow hw 82 rfl) 14 (hb hby own_d_method_5_11) rfl ?_
  refine gs (mkF m 15 #[.val (.long x), .second, .val (.int ((x &&& (3 : Int64)).toInt32)), .unset, .unset, .unset] [(.long (((x.toUInt64 >>> ((8 : Int32) &&& 0x3f).toInt64.toUInt64).toInt64) &&& (255 : Int64)))]) (fun _ _ A kq => XS.land A hx rfl (hb hby own_d_method_5_14) rfl kq) ?_
  refine gs (mkF m 16 #[.val (.long x), .second, .val (.int ((x &&& (3 : Int64)).toInt32)), .unset, .unset, .unset] [(.int ((((x.toUInt64 >>> ((8 : Int32) &&& 0x3f).toInt64.toUInt64).toInt64) &&& (255 : Int64)).toInt32))]) (fun _ _ A kq => XS.l2i A hx rfl (hb hby own_d_method_5_15) rfl kq) ?_
  refine gi2c hx (own_l16 _) 17 (hb hby own_d_method_5_16) rfl ?_
  refine gs (mkF m 18 #[.val (.long x), .second, .val (.int ((x &&& (3 : Int64)).toInt32)), .val (.int ((((x.toUInt64 >>> ((8 : Int32) &&& 0x3f).toInt64.toUInt64).toInt64) &&& (255 : Int64)).toInt32)), .unset, .unset] []) (fun _ _ A kq => XS.istoreN A hx rfl (hb hby own_d_method_5_17) rfl (l' := #[.val (.long x), .second, .val (.int ((x &&& (3 : Int64)).toInt32)), .val (.int ((((x.toUInt64 >>> ((8 : Int32) &&& 0x3f).toInt64.toUInt64).toInt64) &&& (255 : Int64)).toInt32)), .unset, .unset]) rfl kq) ?_
  refine gs (mkF m 19 #[.val (.long x), .second, .val (.int ((x &&& (3 : Int64)).toInt32)), .val (.int ((((x.toUInt64 >>> ((8 : Int32) &&& 0x3f).toInt64.toUInt64).toInt64) &&& (255 : Int64)).toInt32)), .unset, .unset] [(.long x)]) (fun _ _ A kq => XS.lloadN A hx rfl (hb hby own_d_method_5_18) rfl  kq) ?_
  refine gs (mkF m 21 #[.val (.long x), .second, .val (.int ((x &&& (3 : Int64)).toInt32)), .val (.int ((((x.toUInt64 >>> ((8 : Int32) &&& 0x3f).toInt64.toUInt64).toInt64) &&& (255 : Int64)).toInt32)), .unset, .unset] [(.int (16 : Int32)), (.long x)]) (fun _ _ A kq => XS.bipush A hx rfl (hb hby own_d_method_5_19) kq) ?_
  refine gs (mkF m 22 #[.val (.long x), .second, .val (.int ((x &&& (3 : Int64)).toInt32)), .val (.int ((((x.toUInt64 >>> ((8 : Int32) &&& 0x3f).toInt64.toUInt64).toInt64) &&& (255 : Int64)).toInt32)), .unset, .unset] [(.long ((x.toUInt64 >>> ((16 : Int32) &&& 0x3f).toInt64.toUInt64).toInt64))]) (fun _ _ A kq => XS.lushr A hx rfl (hb hby own_d_method_5_21) rfl kq) ?_
  refine gldcJ hx (ow hw 82 rfl) 25 (hb hby own_d_method_5_22) rfl ?_
  refine gs (mkF m 26 #[.val (.long x), .second, .val (.int ((x &&& (3 : Int64)).toInt32)), .val (.int ((((x.toUInt64 >>> ((8 : Int32) &&& 0x3f).toInt64.toUInt64).toInt64) &&& (255 : Int64)).toInt32)), .unset, .unset] [(.long (((x.toUInt64 >>> ((16 : Int32) &&& 0x3f).toInt64.toUInt64).toInt64) &&& (255 : Int64)))]) (fun _ _ A kq => XS.land A hx rfl (hb hby own_d_method_5_25) rfl kq) ?_
  refine gs (mkF m 27 #[.val (.long x), .second, .val (.int ((x &&& (3 : Int64)).toInt32)), .val (.int ((((x.toUInt64 >>> ((8 : Int32) &&& 0x3f).toInt64.toUInt64).toInt64) &&& (255 : Int64)).toInt32)), .unset, .unset] [(.int ((((x.toUInt64 >>> ((16 : Int32) &&& 0x3f).toInt64.toUInt64).toInt64) &&& (255 : Int64)).toInt32))]) (fun _ _ A kq => XS.l2i A hx rfl (hb hby own_d_method_5_26) rfl kq) ?_
  refine gi2c hx (own_l16 _) 28 (hb hby own_d_method_5_27) rfl ?_
  refine gs (mkF m 30 #[.val (.long x), .second, .val (.int ((x &&& (3 : Int64)).toInt32)), .val (.int ((((x.toUInt64 >>> ((8 : Int32) &&& 0x3f).toInt64.toUInt64).toInt64) &&& (255 : Int64)).toInt32)), .val (.int ((((x.toUInt64 >>> ((16 : Int32) &&& 0x3f).toInt64.toUInt64).toInt64) &&& (255 : Int64)).toInt32)), .unset] []) (fun _ _ A kq => XS.istore A hx rfl (hb hby own_d_method_5_28) rfl (l' := #[.val (.long x), .second, .val (.int ((x &&& (3 : Int64)).toInt32)), .val (.int ((((x.toUInt64 >>> ((8 : Int32) &&& 0x3f).toInt64.toUInt64).toInt64) &&& (255 : Int64)).toInt32)), .val (.int ((((x.toUInt64 >>> ((16 : Int32) &&& 0x3f).toInt64.toUInt64).toInt64) &&& (255 : Int64)).toInt32)), .unset]) rfl kq) ?_
  refine gs (mkF m 31 #[.val (.long x), .second, .val (.int ((x &&& (3 : Int64)).toInt32)), .val (.int ((((x.toUInt64 >>> ((8 : Int32) &&& 0x3f).toInt64.toUInt64).toInt64) &&& (255 : Int64)).toInt32)), .val (.int ((((x.toUInt64 >>> ((16 : Int32) &&& 0x3f).toInt64.toUInt64).toInt64) &&& (255 : Int64)).toInt32)), .unset] [(.long x)]) (fun _ _ A kq => XS.lloadN A hx rfl (hb hby own_d_method_5_30) rfl  kq) ?_
  refine gs (mkF m 33 #[.val (.long x), .second, .val (.int ((x &&& (3 : Int64)).toInt32)), .val (.int ((((x.toUInt64 >>> ((8 : Int32) &&& 0x3f).toInt64.toUInt64).toInt64) &&& (255 : Int64)).toInt32)), .val (.int ((((x.toUInt64 >>> ((16 : Int32) &&& 0x3f).toInt64.toUInt64).toInt64) &&& (255 : Int64)).toInt32)), .unset] [(.int (24 : Int32)), (.long x)]) (fun _ _ A kq => XS.bipush A hx rfl (hb hby own_d_method_5_31) kq) ?_
  refine gs (mkF m 34 #[.val (.long x), .second, .val (.int ((x &&& (3 : Int64)).toInt32)), .val (.int ((((x.toUInt64 >>> ((8 : Int32) &&& 0x3f).toInt64.toUInt64).toInt64) &&& (255 : Int64)).toInt32)), .val (.int ((((x.toUInt64 >>> ((16 : Int32) &&& 0x3f).toInt64.toUInt64).toInt64) &&& (255 : Int64)).toInt32)), .unset] [(.long ((x.toUInt64 >>> ((24 : Int32) &&& 0x3f).toInt64.toUInt64).toInt64))]) (fun _ _ A kq => XS.lushr A hx rfl (hb hby own_d_method_5_33) rfl kq) ?_
  refine gldcJ hx (ow hw 82 rfl) 37 (hb hby own_d_method_5_34) rfl ?_
  refine gs (mkF m 38 #[.val (.long x), .second, .val (.int ((x &&& (3 : Int64)).toInt32)), .val (.int ((((x.toUInt64 >>> ((8 : Int32) &&& 0x3f).toInt64.toUInt64).toInt64) &&& (255 : Int64)).toInt32)), .val (.int ((((x.toUInt64 >>> ((16 : Int32) &&& 0x3f).toInt64.toUInt64).toInt64) &&& (255 : Int64)).toInt32)), .unset] [(.long (((x.toUInt64 >>> ((24 : Int32) &&& 0x3f).toInt64.toUInt64).toInt64) &&& (255 : Int64)))]) (fun _ _ A kq => XS.land A hx rfl (hb hby own_d_method_5_37) rfl kq) ?_
  refine gs (mkF m 39 #[.val (.long x), .second, .val (.int ((x &&& (3 : Int64)).toInt32)), .val (.int ((((x.toUInt64 >>> ((8 : Int32) &&& 0x3f).toInt64.toUInt64).toInt64) &&& (255 : Int64)).toInt32)), .val (.int ((((x.toUInt64 >>> ((16 : Int32) &&& 0x3f).toInt64.toUInt64).toInt64) &&& (255 : Int64)).toInt32)), .unset] [(.int ((((x.toUInt64 >>> ((24 : Int32) &&& 0x3f).toInt64.toUInt64).toInt64) &&& (255 : Int64)).toInt32))]) (fun _ _ A kq => XS.l2i A hx rfl (hb hby own_d_method_5_38) rfl kq) ?_
  refine gi2c hx (own_l16 _) 40 (hb hby own_d_method_5_39) rfl ?_
  refine gs (mkF m 42 #[.val (.long x), .second, .val (.int ((x &&& (3 : Int64)).toInt32)), .val (.int ((((x.toUInt64 >>> ((8 : Int32) &&& 0x3f).toInt64.toUInt64).toInt64) &&& (255 : Int64)).toInt32)), .val (.int ((((x.toUInt64 >>> ((16 : Int32) &&& 0x3f).toInt64.toUInt64).toInt64) &&& (255 : Int64)).toInt32)), .val (.int ((((x.toUInt64 >>> ((24 : Int32) &&& 0x3f).toInt64.toUInt64).toInt64) &&& (255 : Int64)).toInt32))] []) (fun _ _ A kq => XS.istore A hx rfl (hb hby own_d_method_5_40) rfl (l' := #[.val (.long x), .second, .val (.int ((x &&& (3 : Int64)).toInt32)), .val (.int ((((x.toUInt64 >>> ((8 : Int32) &&& 0x3f).toInt64.toUInt64).toInt64) &&& (255 : Int64)).toInt32)), .val (.int ((((x.toUInt64 >>> ((16 : Int32) &&& 0x3f).toInt64.toUInt64).toInt64) &&& (255 : Int64)).toInt32)), .val (.int ((((x.toUInt64 >>> ((24 : Int32) &&& 0x3f).toInt64.toUInt64).toInt64) &&& (255 : Int64)).toInt32))]) rfl kq) ?_
  refine gs (mkF m 43 #[.val (.long x), .second, .val (.int ((x &&& (3 : Int64)).toInt32)), .val (.int ((((x.toUInt64 >>> ((8 : Int32) &&& 0x3f).toInt64.toUInt64).toInt64) &&& (255 : Int64)).toInt32)), .val (.int ((((x.toUInt64 >>> ((16 : Int32) &&& 0x3f).toInt64.toUInt64).toInt64) &&& (255 : Int64)).toInt32)), .val (.int ((((x.toUInt64 >>> ((24 : Int32) &&& 0x3f).toInt64.toUInt64).toInt64) &&& (255 : Int64)).toInt32))] [(.int ((x &&& (3 : Int64)).toInt32))]) (fun _ _ A kq => XS.iloadN A hx rfl (hb hby own_d_method_5_42) rfl  kq) ?_
  by_cases e0 : ((x &&& (3 : Int64)).toInt32) = (0 : Int32)
  · refine gs (mkF m 46 #[.val (.long x), .second, .val (.int ((x &&& (3 : Int64)).toInt32)), .val (.int ((((x.toUInt64 >>> ((8 : Int32) &&& 0x3f).toInt64.toUInt64).toInt64) &&& (255 : Int64)).toInt32)), .val (.int ((((x.toUInt64 >>> ((16 : Int32) &&& 0x3f).toInt64.toUInt64).toInt64) &&& (255 : Int64)).toInt32)), .val (.int ((((x.toUInt64 >>> ((24 : Int32) &&& 0x3f).toInt64.toUInt64).toInt64) &&& (255 : Int64)).toInt32))] []) (fun _ _ A kq => XS.ifNo A hx rfl (hb hby own_d_method_5_43) rfl ((if0 _ _).trans (teq e0).2) kq) ?_
    refine gnewO hx (ow hw 1 rfl) (ow hw 2 rfl) (ow hw 3 rfl) 49 (hb hby own_d_method_5_46) rfl (by decide) (by decide) ?_
    intro b5 h5 g5 E5 C5 A5 D5 n5 L5
    have z5 := C5.2.1
    have lt_b5 : h5.size > b5 := A5.lt
    have F5_coder : Fld Z h5 b5 "java/lang/String" "coder" "B" (.int (0 : Int32)) := D5 (Or.inr (ow hw 27 rfl)) (ty := .byte) (by decide)
    have F5_value : Fld Z h5 b5 "java/lang/String" "value" "[B" .null := D5 (Or.inr (ow hw 29 rfl)) (ty := (.array .byte)) (by decide)
    refine gs (mkF m 50 #[.val (.long x), .second, .val (.int ((x &&& (3 : Int64)).toInt32)), .val (.int ((((x.toUInt64 >>> ((8 : Int32) &&& 0x3f).toInt64.toUInt64).toInt64) &&& (255 : Int64)).toInt32)), .val (.int ((((x.toUInt64 >>> ((16 : Int32) &&& 0x3f).toInt64.toUInt64).toInt64) &&& (255 : Int64)).toInt32)), .val (.int ((((x.toUInt64 >>> ((24 : Int32) &&& 0x3f).toInt64.toUInt64).toInt64) &&& (255 : Int64)).toInt32))] [(.ref b5), (.ref b5)]) (fun _ _ A kq => XS.dup A hx rfl (hb hby own_d_method_5_49) rfl rfl kq) ?_
    refine gs (mkF m 51 #[.val (.long x), .second, .val (.int ((x &&& (3 : Int64)).toInt32)), .val (.int ((((x.toUInt64 >>> ((8 : Int32) &&& 0x3f).toInt64.toUInt64).toInt64) &&& (255 : Int64)).toInt32)), .val (.int ((((x.toUInt64 >>> ((16 : Int32) &&& 0x3f).toInt64.toUInt64).toInt64) &&& (255 : Int64)).toInt32)), .val (.int ((((x.toUInt64 >>> ((24 : Int32) &&& 0x3f).toInt64.toUInt64).toInt64) &&& (255 : Int64)).toInt32))] [(.int (0 : Int32)), (.ref b5), (.ref b5)]) (fun _ _ A kq => XS.iconst A hx rfl (hb hby own_d_method_5_50) kq) ?_
    refine gnewP hx (ow hw 0 rfl) (n := (0 : Int32)) (by decide) (cap := 0) (by decide) (by decide) 53 (hb hby own_d_method_5_51) rfl (by decide) (by decide) ?_
    intro b6 h6 k6 g6 E6 C6 V6 n6 L6
    have z6 := C6.2.1
    have V6 : Arv Z h6 b6 k6 .char (0 : Int32) [] (.int (0 : Int32)) := V6.pad (pad_rep [] (.int (0 : Int32)) 0)
    have lt_b6 : h6.size > b6 := V6.lt
    have f8 := (A5.ext E6)
    have f9 := (F5_value.ext E6)
    have f10 := (F5_coder.ext E6)
    have f11 := (C6.safe (show h5.size > b5 by omega) L5)
    refine ginfo fun _ _ O7 => ?_
    refine gcallI (y := (⟨"java/lang/String", "<init>", "([C)V"⟩ : MethodName)) hx rfl (ow hw 4 rfl) (ow hw 5 rfl) (ow hw 6 rfl) (by decide) (fun hZ H hEL => Pay.of_met (W := 1) (own_emp1 l Z a0 cx [] (b5) (b6) (.null) ((.int (0 : Int32))) (k6) vm h6 O7 f8 f9 f10 n5 f11 V6) (ow hw 6 rfl) (ow hw 3 rfl) (by decide) (by decide) hZ H hEL) (a := b5) 56 (argsL := [(.ref b6)]) (rest := [(.ref b5)]) (lenOf own_pd150 rfl) rfl rfl (Nat.le_of_eq rfl) (by rw [hml]; rfl) (hb hby own_d_method_5_53) rfl (by decide) (by decide) ?_
    rintro _ vm7 h7 C7 ⟨t7, rfl, K7, q7_0, q7_1⟩
    have z7 := C7.2.1
    have lt_t7 : h7.size > t7 := q7_0.tlt
    refine gat (mkF m 56 #[.val (.long x), .second, .val (.int ((x &&& (3 : Int64)).toInt32)), .val (.int ((((x.toUInt64 >>> ((8 : Int32) &&& 0x3f).toInt64.toUInt64).toInt64) &&& (255 : Int64)).toInt32)), .val (.int ((((x.toUInt64 >>> ((16 : Int32) &&& 0x3f).toInt64.toUInt64).toInt64) &&& (255 : Int64)).toInt32)), .val (.int ((((x.toUInt64 >>> ((24 : Int32) &&& 0x3f).toInt64.toUInt64).toInt64) &&& (255 : Int64)).toInt32))] [(.ref b5)]) rfl ?_
    exact gretA hx hret rfl rfl (hb hby own_d_method_5_56) (by decide) (by decide) (fun vq Cq => ⟨b5, t7, ([] : List Int32), rfl, ((((Keep.refl h0 []).ext E5).ext E6).trans K7 (allS (Or.inr (by omega)) all0)), q7_0⟩)
  · refine gs (mkF m 57 #[.val (.long x), .second, .val (.int ((x &&& (3 : Int64)).toInt32)), .val (.int ((((x.toUInt64 >>> ((8 : Int32) &&& 0x3f).toInt64.toUInt64).toInt64) &&& (255 : Int64)).toInt32)), .val (.int ((((x.toUInt64 >>> ((16 : Int32) &&& 0x3f).toInt64.toUInt64).toInt64) &&& (255 : Int64)).toInt32)), .val (.int ((((x.toUInt64 >>> ((24 : Int32) &&& 0x3f).toInt64.toUInt64).toInt64) &&& (255 : Int64)).toInt32))] []) (fun _ _ A kq => XS.ifYes A hx rfl (pc0 := 43) (pc' := 57) rfl (hb hby own_d_method_5_43) rfl ((if0 _ _).trans (feq e0).2) (by decide) (by decide) kq) ?_
    refine gs (mkF m 58 #[.val (.long x), .second, .val (.int ((x &&& (3 : Int64)).toInt32)), .val (.int ((((x.toUInt64 >>> ((8 : Int32) &&& 0x3f).toInt64.toUInt64).toInt64) &&& (255 : Int64)).toInt32)), .val (.int ((((x.toUInt64 >>> ((16 : Int32) &&& 0x3f).toInt64.toUInt64).toInt64) &&& (255 : Int64)).toInt32)), .val (.int ((((x.toUInt64 >>> ((24 : Int32) &&& 0x3f).toInt64.toUInt64).toInt64) &&& (255 : Int64)).toInt32))] [(.int ((x &&& (3 : Int64)).toInt32))]) (fun _ _ A kq => XS.iloadN A hx rfl (hb hby own_d_method_5_57) rfl  kq) ?_
    refine gs (mkF m 59 #[.val (.long x), .second, .val (.int ((x &&& (3 : Int64)).toInt32)), .val (.int ((((x.toUInt64 >>> ((8 : Int32) &&& 0x3f).toInt64.toUInt64).toInt64) &&& (255 : Int64)).toInt32)), .val (.int ((((x.toUInt64 >>> ((16 : Int32) &&& 0x3f).toInt64.toUInt64).toInt64) &&& (255 : Int64)).toInt32)), .val (.int ((((x.toUInt64 >>> ((24 : Int32) &&& 0x3f).toInt64.toUInt64).toInt64) &&& (255 : Int64)).toInt32))] [(.int (1 : Int32)), (.int ((x &&& (3 : Int64)).toInt32))]) (fun _ _ A kq => XS.iconst A hx rfl (hb hby own_d_method_5_58) kq) ?_
    by_cases e1 : ((x &&& (3 : Int64)).toInt32) = (1 : Int32)
    · refine gs (mkF m 62 #[.val (.long x), .second, .val (.int ((x &&& (3 : Int64)).toInt32)), .val (.int ((((x.toUInt64 >>> ((8 : Int32) &&& 0x3f).toInt64.toUInt64).toInt64) &&& (255 : Int64)).toInt32)), .val (.int ((((x.toUInt64 >>> ((16 : Int32) &&& 0x3f).toInt64.toUInt64).toInt64) &&& (255 : Int64)).toInt32)), .val (.int ((((x.toUInt64 >>> ((24 : Int32) &&& 0x3f).toInt64.toUInt64).toInt64) &&& (255 : Int64)).toInt32))] []) (fun _ _ A kq => XS.icmpNo A hx rfl (hb hby own_d_method_5_59) rfl (teq e1).2 kq) ?_
      refine gnewO hx (ow hw 1 rfl) (ow hw 2 rfl) (ow hw 3 rfl) 65 (hb hby own_d_method_5_62) rfl (by decide) (by decide) ?_
      intro b13 h13 g13 E13 C13 A13 D13 n13 L13
      have z13 := C13.2.1
      have lt_b13 : h13.size > b13 := A13.lt
      have F13_coder : Fld Z h13 b13 "java/lang/String" "coder" "B" (.int (0 : Int32)) := D13 (Or.inr (ow hw 27 rfl)) (ty := .byte) (by decide)
      have F13_value : Fld Z h13 b13 "java/lang/String" "value" "[B" .null := D13 (Or.inr (ow hw 29 rfl)) (ty := (.array .byte)) (by decide)
      refine gs (mkF m 66 #[.val (.long x), .second, .val (.int ((x &&& (3 : Int64)).toInt32)), .val (.int ((((x.toUInt64 >>> ((8 : Int32) &&& 0x3f).toInt64.toUInt64).toInt64) &&& (255 : Int64)).toInt32)), .val (.int ((((x.toUInt64 >>> ((16 : Int32) &&& 0x3f).toInt64.toUInt64).toInt64) &&& (255 : Int64)).toInt32)), .val (.int ((((x.toUInt64 >>> ((24 : Int32) &&& 0x3f).toInt64.toUInt64).toInt64) &&& (255 : Int64)).toInt32))] [(.ref b13), (.ref b13)]) (fun _ _ A kq => XS.dup A hx rfl (hb hby own_d_method_5_65) rfl rfl kq) ?_
      refine gs (mkF m 67 #[.val (.long x), .second, .val (.int ((x &&& (3 : Int64)).toInt32)), .val (.int ((((x.toUInt64 >>> ((8 : Int32) &&& 0x3f).toInt64.toUInt64).toInt64) &&& (255 : Int64)).toInt32)), .val (.int ((((x.toUInt64 >>> ((16 : Int32) &&& 0x3f).toInt64.toUInt64).toInt64) &&& (255 : Int64)).toInt32)), .val (.int ((((x.toUInt64 >>> ((24 : Int32) &&& 0x3f).toInt64.toUInt64).toInt64) &&& (255 : Int64)).toInt32))] [(.int (1 : Int32)), (.ref b13), (.ref b13)]) (fun _ _ A kq => XS.iconst A hx rfl (hb hby own_d_method_5_66) kq) ?_
      refine gnewP hx (ow hw 0 rfl) (n := (1 : Int32)) (by decide) (cap := 1) (by decide) (by decide) 69 (hb hby own_d_method_5_67) rfl (by decide) (by decide) ?_
      intro b14 h14 k14 g14 E14 C14 V14 n14 L14
      have z14 := C14.2.1
      have V14 : Arv Z h14 b14 k14 .char (1 : Int32) [(.int (0 : Int32))] (.int (0 : Int32)) := V14.pad (pad_rep [] (.int (0 : Int32)) 1)
      have lt_b14 : h14.size > b14 := V14.lt
      refine gs (mkF m 70 #[.val (.long x), .second, .val (.int ((x &&& (3 : Int64)).toInt32)), .val (.int ((((x.toUInt64 >>> ((8 : Int32) &&& 0x3f).toInt64.toUInt64).toInt64) &&& (255 : Int64)).toInt32)), .val (.int ((((x.toUInt64 >>> ((16 : Int32) &&& 0x3f).toInt64.toUInt64).toInt64) &&& (255 : Int64)).toInt32)), .val (.int ((((x.toUInt64 >>> ((24 : Int32) &&& 0x3f).toInt64.toUInt64).toInt64) &&& (255 : Int64)).toInt32))] [(.ref b14), (.ref b14), (.ref b13), (.ref b13)]) (fun _ _ A kq => XS.dup A hx rfl (hb hby own_d_method_5_69) rfl rfl kq) ?_
      refine gs (mkF m 71 #[.val (.long x), .second, .val (.int ((x &&& (3 : Int64)).toInt32)), .val (.int ((((x.toUInt64 >>> ((8 : Int32) &&& 0x3f).toInt64.toUInt64).toInt64) &&& (255 : Int64)).toInt32)), .val (.int ((((x.toUInt64 >>> ((16 : Int32) &&& 0x3f).toInt64.toUInt64).toInt64) &&& (255 : Int64)).toInt32)), .val (.int ((((x.toUInt64 >>> ((24 : Int32) &&& 0x3f).toInt64.toUInt64).toInt64) &&& (255 : Int64)).toInt32))] [(.int (0 : Int32)), (.ref b14), (.ref b14), (.ref b13), (.ref b13)]) (fun _ _ A kq => XS.iconst A hx rfl (hb hby own_d_method_5_70) kq) ?_
      refine gs (mkF m 72 #[.val (.long x), .second, .val (.int ((x &&& (3 : Int64)).toInt32)), .val (.int ((((x.toUInt64 >>> ((8 : Int32) &&& 0x3f).toInt64.toUInt64).toInt64) &&& (255 : Int64)).toInt32)), .val (.int ((((x.toUInt64 >>> ((16 : Int32) &&& 0x3f).toInt64.toUInt64).toInt64) &&& (255 : Int64)).toInt32)), .val (.int ((((x.toUInt64 >>> ((24 : Int32) &&& 0x3f).toInt64.toUInt64).toInt64) &&& (255 : Int64)).toInt32))] [(.int ((((x.toUInt64 >>> ((8 : Int32) &&& 0x3f).toInt64.toUInt64).toInt64) &&& (255 : Int64)).toInt32)), (.int (0 : Int32)), (.ref b14), (.ref b14), (.ref b13), (.ref b13)]) (fun _ _ A kq => XS.iloadN A hx rfl (hb hby own_d_method_5_71) rfl  kq) ?_
      refine gstC hx V14 ⟨by decide, by decide⟩ (i := 0) rfl (Nat.le_of_ble_eq_true rfl) (y := ((((x.toUInt64 >>> ((8 : Int32) &&& 0x3f).toInt64.toUInt64).toInt64) &&& (255 : Int64)).toInt32)) (own_l16 _) n14 73 (hb hby own_d_method_5_72) rfl ?_
      intro h15 W15 C15 V15
      have z15 := C15.2.1
      replace V15 : Arv Z h15 b14 k14 .char (1 : Int32) [(.int ((((x.toUInt64 >>> ((8 : Int32) &&& 0x3f).toInt64.toUInt64).toInt64) &&& (255 : Int64)).toInt32))] (.int (0 : Int32)) := V15
      have f17 := ((A13.ext E14).wr W15)
      have f18 := ((F13_value.ext E14).other W15 (Or.inl (Nat.ne_of_lt (by omega))))
      have f19 := ((F13_coder.ext E14).other W15 (Or.inl (Nat.ne_of_lt (by omega))))
      have f20 := (C15.safe (show h14.size > b13 by omega) (C14.safe (show h13.size > b13 by omega) L13))
      refine ginfo fun _ _ O16 => ?_
      refine gcallI (y := (⟨"java/lang/String", "<init>", "([C)V"⟩ : MethodName)) hx rfl (ow hw 4 rfl) (ow hw 5 rfl) (ow hw 6 rfl) (by decide) (fun hZ H hEL => own_payNew (W := 1) (own_wNew hw) (ow hw 2 rfl) Scs hzc O16 (cs := [((((x.toUInt64 >>> ((8 : Int32) &&& 0x3f).toInt64.toUInt64).toInt64) &&& (255 : Int64)).toInt32)]) (n := 1) n13 f17 f18 f19 V15 rfl rfl (by decide) (by decide) (bcons (own_lB _) bnil) f20 (by decide) (by decide) hZ H hEL) (a := b13) 76 (argsL := [(.ref b14)]) (rest := [(.ref b13)]) (lenOf own_pd150 rfl) rfl rfl (Nat.le_of_eq rfl) (by rw [hml]; rfl) (hb hby own_d_method_5_73) rfl (by decide) (by decide) ?_
      rintro _ vm16 h16 C16 ⟨t16, rfl, K16, g16, S16⟩
      have z16 := C16.2.1
      have lt_t16 : h16.size > t16 := S16.tlt
      refine gat (mkF m 76 #[.val (.long x), .second, .val (.int ((x &&& (3 : Int64)).toInt32)), .val (.int ((((x.toUInt64 >>> ((8 : Int32) &&& 0x3f).toInt64.toUInt64).toInt64) &&& (255 : Int64)).toInt32)), .val (.int ((((x.toUInt64 >>> ((16 : Int32) &&& 0x3f).toInt64.toUInt64).toInt64) &&& (255 : Int64)).toInt32)), .val (.int ((((x.toUInt64 >>> ((24 : Int32) &&& 0x3f).toInt64.toUInt64).toInt64) &&& (255 : Int64)).toInt32))] [(.ref b13)]) rfl ?_
      exact gretA hx hret rfl rfl (hb hby own_d_method_5_76) (by decide) (by decide) (fun vq Cq => ⟨b13, t16, [((((x.toUInt64 >>> ((8 : Int32) &&& 0x3f).toInt64.toUInt64).toInt64) &&& (255 : Int64)).toInt32)], rfl, (((((Keep.refl h0 []).ext E13).ext E14).wr W15 (Or.inr (by omega))).trans K16 (allS (Or.inr (by omega)) all0)), S16⟩)
    · refine gs (mkF m 77 #[.val (.long x), .second, .val (.int ((x &&& (3 : Int64)).toInt32)), .val (.int ((((x.toUInt64 >>> ((8 : Int32) &&& 0x3f).toInt64.toUInt64).toInt64) &&& (255 : Int64)).toInt32)), .val (.int ((((x.toUInt64 >>> ((16 : Int32) &&& 0x3f).toInt64.toUInt64).toInt64) &&& (255 : Int64)).toInt32)), .val (.int ((((x.toUInt64 >>> ((24 : Int32) &&& 0x3f).toInt64.toUInt64).toInt64) &&& (255 : Int64)).toInt32))] []) (fun _ _ A kq => XS.icmpYes A hx rfl (pc0 := 59) (pc' := 77) rfl (hb hby own_d_method_5_59) rfl (feq e1).2 (by decide) (by decide) kq) ?_
      refine gs (mkF m 78 #[.val (.long x), .second, .val (.int ((x &&& (3 : Int64)).toInt32)), .val (.int ((((x.toUInt64 >>> ((8 : Int32) &&& 0x3f).toInt64.toUInt64).toInt64) &&& (255 : Int64)).toInt32)), .val (.int ((((x.toUInt64 >>> ((16 : Int32) &&& 0x3f).toInt64.toUInt64).toInt64) &&& (255 : Int64)).toInt32)), .val (.int ((((x.toUInt64 >>> ((24 : Int32) &&& 0x3f).toInt64.toUInt64).toInt64) &&& (255 : Int64)).toInt32))] [(.int ((x &&& (3 : Int64)).toInt32))]) (fun _ _ A kq => XS.iloadN A hx rfl (hb hby own_d_method_5_77) rfl  kq) ?_
      refine gs (mkF m 79 #[.val (.long x), .second, .val (.int ((x &&& (3 : Int64)).toInt32)), .val (.int ((((x.toUInt64 >>> ((8 : Int32) &&& 0x3f).toInt64.toUInt64).toInt64) &&& (255 : Int64)).toInt32)), .val (.int ((((x.toUInt64 >>> ((16 : Int32) &&& 0x3f).toInt64.toUInt64).toInt64) &&& (255 : Int64)).toInt32)), .val (.int ((((x.toUInt64 >>> ((24 : Int32) &&& 0x3f).toInt64.toUInt64).toInt64) &&& (255 : Int64)).toInt32))] [(.int (2 : Int32)), (.int ((x &&& (3 : Int64)).toInt32))]) (fun _ _ A kq => XS.iconst A hx rfl (hb hby own_d_method_5_78) kq) ?_
      by_cases e2 : ((x &&& (3 : Int64)).toInt32) = (2 : Int32)
      · refine gs (mkF m 82 #[.val (.long x), .second, .val (.int ((x &&& (3 : Int64)).toInt32)), .val (.int ((((x.toUInt64 >>> ((8 : Int32) &&& 0x3f).toInt64.toUInt64).toInt64) &&& (255 : Int64)).toInt32)), .val (.int ((((x.toUInt64 >>> ((16 : Int32) &&& 0x3f).toInt64.toUInt64).toInt64) &&& (255 : Int64)).toInt32)), .val (.int ((((x.toUInt64 >>> ((24 : Int32) &&& 0x3f).toInt64.toUInt64).toInt64) &&& (255 : Int64)).toInt32))] []) (fun _ _ A kq => XS.icmpNo A hx rfl (hb hby own_d_method_5_79) rfl (teq e2).2 kq) ?_
        refine gnewO hx (ow hw 1 rfl) (ow hw 2 rfl) (ow hw 3 rfl) 85 (hb hby own_d_method_5_82) rfl (by decide) (by decide) ?_
        intro b22 h22 g22 E22 C22 A22 D22 n22 L22
        have z22 := C22.2.1
        have lt_b22 : h22.size > b22 := A22.lt
        have F22_coder : Fld Z h22 b22 "java/lang/String" "coder" "B" (.int (0 : Int32)) := D22 (Or.inr (ow hw 27 rfl)) (ty := .byte) (by decide)
        have F22_value : Fld Z h22 b22 "java/lang/String" "value" "[B" .null := D22 (Or.inr (ow hw 29 rfl)) (ty := (.array .byte)) (by decide)
        refine gs (mkF m 86 #[.val (.long x), .second, .val (.int ((x &&& (3 : Int64)).toInt32)), .val (.int ((((x.toUInt64 >>> ((8 : Int32) &&& 0x3f).toInt64.toUInt64).toInt64) &&& (255 : Int64)).toInt32)), .val (.int ((((x.toUInt64 >>> ((16 : Int32) &&& 0x3f).toInt64.toUInt64).toInt64) &&& (255 : Int64)).toInt32)), .val (.int ((((x.toUInt64 >>> ((24 : Int32) &&& 0x3f).toInt64.toUInt64).toInt64) &&& (255 : Int64)).toInt32))] [(.ref b22), (.ref b22)]) (fun _ _ A kq => XS.dup A hx rfl (hb hby own_d_method_5_85) rfl rfl kq) ?_
        refine gs (mkF m 87 #[.val (.long x), .second, .val (.int ((x &&& (3 : Int64)).toInt32)), .val (.int ((((x.toUInt64 >>> ((8 : Int32) &&& 0x3f).toInt64.toUInt64).toInt64) &&& (255 : Int64)).toInt32)), .val (.int ((((x.toUInt64 >>> ((16 : Int32) &&& 0x3f).toInt64.toUInt64).toInt64) &&& (255 : Int64)).toInt32)), .val (.int ((((x.toUInt64 >>> ((24 : Int32) &&& 0x3f).toInt64.toUInt64).toInt64) &&& (255 : Int64)).toInt32))] [(.int (2 : Int32)), (.ref b22), (.ref b22)]) (fun _ _ A kq => XS.iconst A hx rfl (hb hby own_d_method_5_86) kq) ?_
        refine gnewP hx (ow hw 0 rfl) (n := (2 : Int32)) (by decide) (cap := 2) (by decide) (by decide) 89 (hb hby own_d_method_5_87) rfl (by decide) (by decide) ?_
        intro b23 h23 k23 g23 E23 C23 V23 n23 L23
        have z23 := C23.2.1
        have V23 : Arv Z h23 b23 k23 .char (2 : Int32) [(.int (0 : Int32)), (.int (0 : Int32))] (.int (0 : Int32)) := V23.pad (pad_rep [] (.int (0 : Int32)) 2)
        have lt_b23 : h23.size > b23 := V23.lt
        refine gs (mkF m 90 #[.val (.long x), .second, .val (.int ((x &&& (3 : Int64)).toInt32)), .val (.int ((((x.toUInt64 >>> ((8 : Int32) &&& 0x3f).toInt64.toUInt64).toInt64) &&& (255 : Int64)).toInt32)), .val (.int ((((x.toUInt64 >>> ((16 : Int32) &&& 0x3f).toInt64.toUInt64).toInt64) &&& (255 : Int64)).toInt32)), .val (.int ((((x.toUInt64 >>> ((24 : Int32) &&& 0x3f).toInt64.toUInt64).toInt64) &&& (255 : Int64)).toInt32))] [(.ref b23), (.ref b23), (.ref b22), (.ref b22)]) (fun _ _ A kq => XS.dup A hx rfl (hb hby own_d_method_5_89) rfl rfl kq) ?_
        refine gs (mkF m 91 #[.val (.long x), .second, .val (.int ((x &&& (3 : Int64)).toInt32)), .val (.int ((((x.toUInt64 >>> ((8 : Int32) &&& 0x3f).toInt64.toUInt64).toInt64) &&& (255 : Int64)).toInt32)), .val (.int ((((x.toUInt64 >>> ((16 : Int32) &&& 0x3f).toInt64.toUInt64).toInt64) &&& (255 : Int64)).toInt32)), .val (.int ((((x.toUInt64 >>> ((24 : Int32) &&& 0x3f).toInt64.toUInt64).toInt64) &&& (255 : Int64)).toInt32))] [(.int (0 : Int32)), (.ref b23), (.ref b23), (.ref b22), (.ref b22)]) (fun _ _ A kq => XS.iconst A hx rfl (hb hby own_d_method_5_90) kq) ?_
        refine gs (mkF m 92 #[.val (.long x), .second, .val (.int ((x &&& (3 : Int64)).toInt32)), .val (.int ((((x.toUInt64 >>> ((8 : Int32) &&& 0x3f).toInt64.toUInt64).toInt64) &&& (255 : Int64)).toInt32)), .val (.int ((((x.toUInt64 >>> ((16 : Int32) &&& 0x3f).toInt64.toUInt64).toInt64) &&& (255 : Int64)).toInt32)), .val (.int ((((x.toUInt64 >>> ((24 : Int32) &&& 0x3f).toInt64.toUInt64).toInt64) &&& (255 : Int64)).toInt32))] [(.int ((((x.toUInt64 >>> ((8 : Int32) &&& 0x3f).toInt64.toUInt64).toInt64) &&& (255 : Int64)).toInt32)), (.int (0 : Int32)), (.ref b23), (.ref b23), (.ref b22), (.ref b22)]) (fun _ _ A kq => XS.iloadN A hx rfl (hb hby own_d_method_5_91) rfl  kq) ?_
        refine gstC hx V23 ⟨by decide, by decide⟩ (i := 0) rfl (Nat.le_of_ble_eq_true rfl) (y := ((((x.toUInt64 >>> ((8 : Int32) &&& 0x3f).toInt64.toUInt64).toInt64) &&& (255 : Int64)).toInt32)) (own_l16 _) n23 93 (hb hby own_d_method_5_92) rfl ?_
        intro h24 W24 C24 V24
        have z24 := C24.2.1
        replace V24 : Arv Z h24 b23 k23 .char (2 : Int32) [(.int ((((x.toUInt64 >>> ((8 : Int32) &&& 0x3f).toInt64.toUInt64).toInt64) &&& (255 : Int64)).toInt32)), (.int (0 : Int32))] (.int (0 : Int32)) := V24
        refine gs (mkF m 94 #[.val (.long x), .second, .val (.int ((x &&& (3 : Int64)).toInt32)), .val (.int ((((x.toUInt64 >>> ((8 : Int32) &&& 0x3f).toInt64.toUInt64).toInt64) &&& (255 : Int64)).toInt32)), .val (.int ((((x.toUInt64 >>> ((16 : Int32) &&& 0x3f).toInt64.toUInt64).toInt64) &&& (255 : Int64)).toInt32)), .val (.int ((((x.toUInt64 >>> ((24 : Int32) &&& 0x3f).toInt64.toUInt64).toInt64) &&& (255 : Int64)).toInt32))] [(.ref b23), (.ref b23), (.ref b22), (.ref b22)]) (fun _ _ A kq => XS.dup A hx rfl (hb hby own_d_method_5_93) rfl rfl kq) ?_
        refine gs (mkF m 95 #[.val (.long x), .second, .val (.int ((x &&& (3 : Int64)).toInt32)), .val (.int ((((x.toUInt64 >>> ((8 : Int32) &&& 0x3f).toInt64.toUInt64).toInt64) &&& (255 : Int64)).toInt32)), .val (.int ((((x.toUInt64 >>> ((16 : Int32) &&& 0x3f).toInt64.toUInt64).toInt64) &&& (255 : Int64)).toInt32)), .val (.int ((((x.toUInt64 >>> ((24 : Int32) &&& 0x3f).toInt64.toUInt64).toInt64) &&& (255 : Int64)).toInt32))] [(.int (1 : Int32)), (.ref b23), (.ref b23), (.ref b22), (.ref b22)]) (fun _ _ A kq => XS.iconst A hx rfl (hb hby own_d_method_5_94) kq) ?_
        refine gs (mkF m 97 #[.val (.long x), .second, .val (.int ((x &&& (3 : Int64)).toInt32)), .val (.int ((((x.toUInt64 >>> ((8 : Int32) &&& 0x3f).toInt64.toUInt64).toInt64) &&& (255 : Int64)).toInt32)), .val (.int ((((x.toUInt64 >>> ((16 : Int32) &&& 0x3f).toInt64.toUInt64).toInt64) &&& (255 : Int64)).toInt32)), .val (.int ((((x.toUInt64 >>> ((24 : Int32) &&& 0x3f).toInt64.toUInt64).toInt64) &&& (255 : Int64)).toInt32))] [(.int ((((x.toUInt64 >>> ((16 : Int32) &&& 0x3f).toInt64.toUInt64).toInt64) &&& (255 : Int64)).toInt32)), (.int (1 : Int32)), (.ref b23), (.ref b23), (.ref b22), (.ref b22)]) (fun _ _ A kq => XS.iload A hx rfl (hb hby own_d_method_5_95) rfl  kq) ?_
        refine gstC hx V24 ⟨by decide, by decide⟩ (i := 1) rfl (Nat.le_of_ble_eq_true rfl) (y := ((((x.toUInt64 >>> ((16 : Int32) &&& 0x3f).toInt64.toUInt64).toInt64) &&& (255 : Int64)).toInt32)) (own_l16 _) n23 98 (hb hby own_d_method_5_97) rfl ?_
        intro h25 W25 C25 V25
        have z25 := C25.2.1
        replace V25 : Arv Z h25 b23 k23 .char (2 : Int32) [(.int ((((x.toUInt64 >>> ((8 : Int32) &&& 0x3f).toInt64.toUInt64).toInt64) &&& (255 : Int64)).toInt32)), (.int ((((x.toUInt64 >>> ((16 : Int32) &&& 0x3f).toInt64.toUInt64).toInt64) &&& (255 : Int64)).toInt32))] (.int (0 : Int32)) := V25
        have f27 := (((A22.ext E23).wr W24).wr W25)
        have f28 := (((F22_value.ext E23).other W24 (Or.inl (Nat.ne_of_lt (by omega)))).other W25 (Or.inl (Nat.ne_of_lt (by omega))))
        have f29 := (((F22_coder.ext E23).other W24 (Or.inl (Nat.ne_of_lt (by omega)))).other W25 (Or.inl (Nat.ne_of_lt (by omega))))
        have f30 := (C25.safe (show h24.size > b22 by omega) (C24.safe (show h23.size > b22 by omega) (C23.safe (show h22.size > b22 by omega) L22)))
        refine ginfo fun _ _ O26 => ?_
        refine gcallI (y := (⟨"java/lang/String", "<init>", "([C)V"⟩ : MethodName)) hx rfl (ow hw 4 rfl) (ow hw 5 rfl) (ow hw 6 rfl) (by decide) (fun hZ H hEL => own_payNew (W := 1) (own_wNew hw) (ow hw 2 rfl) Scs hzc O26 (cs := [((((x.toUInt64 >>> ((8 : Int32) &&& 0x3f).toInt64.toUInt64).toInt64) &&& (255 : Int64)).toInt32), ((((x.toUInt64 >>> ((16 : Int32) &&& 0x3f).toInt64.toUInt64).toInt64) &&& (255 : Int64)).toInt32)]) (n := 2) n22 f27 f28 f29 V25 rfl rfl (by decide) (by decide) (bcons (own_lB _) (bcons (own_lB _) bnil)) f30 (by decide) (by decide) hZ H hEL) (a := b22) 101 (argsL := [(.ref b23)]) (rest := [(.ref b22)]) (lenOf own_pd150 rfl) rfl rfl (Nat.le_of_eq rfl) (by rw [hml]; rfl) (hb hby own_d_method_5_98) rfl (by decide) (by decide) ?_
        rintro _ vm26 h26 C26 ⟨t26, rfl, K26, g26, S26⟩
        have z26 := C26.2.1
        have lt_t26 : h26.size > t26 := S26.tlt
        refine gat (mkF m 101 #[.val (.long x), .second, .val (.int ((x &&& (3 : Int64)).toInt32)), .val (.int ((((x.toUInt64 >>> ((8 : Int32) &&& 0x3f).toInt64.toUInt64).toInt64) &&& (255 : Int64)).toInt32)), .val (.int ((((x.toUInt64 >>> ((16 : Int32) &&& 0x3f).toInt64.toUInt64).toInt64) &&& (255 : Int64)).toInt32)), .val (.int ((((x.toUInt64 >>> ((24 : Int32) &&& 0x3f).toInt64.toUInt64).toInt64) &&& (255 : Int64)).toInt32))] [(.ref b22)]) rfl ?_
        exact gretA hx hret rfl rfl (hb hby own_d_method_5_101) (by decide) (by decide) (fun vq Cq => ⟨b22, t26, [((((x.toUInt64 >>> ((8 : Int32) &&& 0x3f).toInt64.toUInt64).toInt64) &&& (255 : Int64)).toInt32), ((((x.toUInt64 >>> ((16 : Int32) &&& 0x3f).toInt64.toUInt64).toInt64) &&& (255 : Int64)).toInt32)], rfl, ((((((Keep.refl h0 []).ext E22).ext E23).wr W24 (Or.inr (by omega))).wr W25 (Or.inr (by omega))).trans K26 (allS (Or.inr (by omega)) all0)), S26⟩)
      · refine gs (mkF m 102 #[.val (.long x), .second, .val (.int ((x &&& (3 : Int64)).toInt32)), .val (.int ((((x.toUInt64 >>> ((8 : Int32) &&& 0x3f).toInt64.toUInt64).toInt64) &&& (255 : Int64)).toInt32)), .val (.int ((((x.toUInt64 >>> ((16 : Int32) &&& 0x3f).toInt64.toUInt64).toInt64) &&& (255 : Int64)).toInt32)), .val (.int ((((x.toUInt64 >>> ((24 : Int32) &&& 0x3f).toInt64.toUInt64).toInt64) &&& (255 : Int64)).toInt32))] []) (fun _ _ A kq => XS.icmpYes A hx rfl (pc0 := 79) (pc' := 102) rfl (hb hby own_d_method_5_79) rfl (feq e2).2 (by decide) (by decide) kq) ?_
        refine gnewO hx (ow hw 1 rfl) (ow hw 2 rfl) (ow hw 3 rfl) 105 (hb hby own_d_method_5_102) rfl (by decide) (by decide) ?_
        intro b32 h32 g32 E32 C32 A32 D32 n32 L32
        have z32 := C32.2.1
        have lt_b32 : h32.size > b32 := A32.lt
        have F32_coder : Fld Z h32 b32 "java/lang/String" "coder" "B" (.int (0 : Int32)) := D32 (Or.inr (ow hw 27 rfl)) (ty := .byte) (by decide)
        have F32_value : Fld Z h32 b32 "java/lang/String" "value" "[B" .null := D32 (Or.inr (ow hw 29 rfl)) (ty := (.array .byte)) (by decide)
        refine gs (mkF m 106 #[.val (.long x), .second, .val (.int ((x &&& (3 : Int64)).toInt32)), .val (.int ((((x.toUInt64 >>> ((8 : Int32) &&& 0x3f).toInt64.toUInt64).toInt64) &&& (255 : Int64)).toInt32)), .val (.int ((((x.toUInt64 >>> ((16 : Int32) &&& 0x3f).toInt64.toUInt64).toInt64) &&& (255 : Int64)).toInt32)), .val (.int ((((x.toUInt64 >>> ((24 : Int32) &&& 0x3f).toInt64.toUInt64).toInt64) &&& (255 : Int64)).toInt32))] [(.ref b32), (.ref b32)]) (fun _ _ A kq => XS.dup A hx rfl (hb hby own_d_method_5_105) rfl rfl kq) ?_
        refine gs (mkF m 107 #[.val (.long x), .second, .val (.int ((x &&& (3 : Int64)).toInt32)), .val (.int ((((x.toUInt64 >>> ((8 : Int32) &&& 0x3f).toInt64.toUInt64).toInt64) &&& (255 : Int64)).toInt32)), .val (.int ((((x.toUInt64 >>> ((16 : Int32) &&& 0x3f).toInt64.toUInt64).toInt64) &&& (255 : Int64)).toInt32)), .val (.int ((((x.toUInt64 >>> ((24 : Int32) &&& 0x3f).toInt64.toUInt64).toInt64) &&& (255 : Int64)).toInt32))] [(.int (3 : Int32)), (.ref b32), (.ref b32)]) (fun _ _ A kq => XS.iconst A hx rfl (hb hby own_d_method_5_106) kq) ?_
        refine gnewP hx (ow hw 0 rfl) (n := (3 : Int32)) (by decide) (cap := 3) (by decide) (by decide) 109 (hb hby own_d_method_5_107) rfl (by decide) (by decide) ?_
        intro b33 h33 k33 g33 E33 C33 V33 n33 L33
        have z33 := C33.2.1
        have V33 : Arv Z h33 b33 k33 .char (3 : Int32) [(.int (0 : Int32)), (.int (0 : Int32)), (.int (0 : Int32))] (.int (0 : Int32)) := V33.pad (pad_rep [] (.int (0 : Int32)) 3)
        have lt_b33 : h33.size > b33 := V33.lt
        refine gs (mkF m 110 #[.val (.long x), .second, .val (.int ((x &&& (3 : Int64)).toInt32)), .val (.int ((((x.toUInt64 >>> ((8 : Int32) &&& 0x3f).toInt64.toUInt64).toInt64) &&& (255 : Int64)).toInt32)), .val (.int ((((x.toUInt64 >>> ((16 : Int32) &&& 0x3f).toInt64.toUInt64).toInt64) &&& (255 : Int64)).toInt32)), .val (.int ((((x.toUInt64 >>> ((24 : Int32) &&& 0x3f).toInt64.toUInt64).toInt64) &&& (255 : Int64)).toInt32))] [(.ref b33), (.ref b33), (.ref b32), (.ref b32)]) (fun _ _ A kq => XS.dup A hx rfl (hb hby own_d_method_5_109) rfl rfl kq) ?_
        refine gs (mkF m 111 #[.val (.long x), .second, .val (.int ((x &&& (3 : Int64)).toInt32)), .val (.int ((((x.toUInt64 >>> ((8 : Int32) &&& 0x3f).toInt64.toUInt64).toInt64) &&& (255 : Int64)).toInt32)), .val (.int ((((x.toUInt64 >>> ((16 : Int32) &&& 0x3f).toInt64.toUInt64).toInt64) &&& (255 : Int64)).toInt32)), .val (.int ((((x.toUInt64 >>> ((24 : Int32) &&& 0x3f).toInt64.toUInt64).toInt64) &&& (255 : Int64)).toInt32))] [(.int (0 : Int32)), (.ref b33), (.ref b33), (.ref b32), (.ref b32)]) (fun _ _ A kq => XS.iconst A hx rfl (hb hby own_d_method_5_110) kq) ?_
        refine gs (mkF m 112 #[.val (.long x), .second, .val (.int ((x &&& (3 : Int64)).toInt32)), .val (.int ((((x.toUInt64 >>> ((8 : Int32) &&& 0x3f).toInt64.toUInt64).toInt64) &&& (255 : Int64)).toInt32)), .val (.int ((((x.toUInt64 >>> ((16 : Int32) &&& 0x3f).toInt64.toUInt64).toInt64) &&& (255 : Int64)).toInt32)), .val (.int ((((x.toUInt64 >>> ((24 : Int32) &&& 0x3f).toInt64.toUInt64).toInt64) &&& (255 : Int64)).toInt32))] [(.int ((((x.toUInt64 >>> ((8 : Int32) &&& 0x3f).toInt64.toUInt64).toInt64) &&& (255 : Int64)).toInt32)), (.int (0 : Int32)), (.ref b33), (.ref b33), (.ref b32), (.ref b32)]) (fun _ _ A kq => XS.iloadN A hx rfl (hb hby own_d_method_5_111) rfl  kq) ?_
        refine gstC hx V33 ⟨by decide, by decide⟩ (i := 0) rfl (Nat.le_of_ble_eq_true rfl) (y := ((((x.toUInt64 >>> ((8 : Int32) &&& 0x3f).toInt64.toUInt64).toInt64) &&& (255 : Int64)).toInt32)) (own_l16 _) n33 113 (hb hby own_d_method_5_112) rfl ?_
        intro h34 W34 C34 V34
        have z34 := C34.2.1
        replace V34 : Arv Z h34 b33 k33 .char (3 : Int32) [(.int ((((x.toUInt64 >>> ((8 : Int32) &&& 0x3f).toInt64.toUInt64).toInt64) &&& (255 : Int64)).toInt32)), (.int (0 : Int32)), (.int (0 : Int32))] (.int (0 : Int32)) := V34
        refine gs (mkF m 114 #[.val (.long x), .second, .val (.int ((x &&& (3 : Int64)).toInt32)), .val (.int ((((x.toUInt64 >>> ((8 : Int32) &&& 0x3f).toInt64.toUInt64).toInt64) &&& (255 : Int64)).toInt32)), .val (.int ((((x.toUInt64 >>> ((16 : Int32) &&& 0x3f).toInt64.toUInt64).toInt64) &&& (255 : Int64)).toInt32)), .val (.int ((((x.toUInt64 >>> ((24 : Int32) &&& 0x3f).toInt64.toUInt64).toInt64) &&& (255 : Int64)).toInt32))] [(.ref b33), (.ref b33), (.ref b32), (.ref b32)]) (fun _ _ A kq => XS.dup A hx rfl (hb hby own_d_method_5_113) rfl rfl kq) ?_
        refine gs (mkF m 115 #[.val (.long x), .second, .val (.int ((x &&& (3 : Int64)).toInt32)), .val (.int ((((x.toUInt64 >>> ((8 : Int32) &&& 0x3f).toInt64.toUInt64).toInt64) &&& (255 : Int64)).toInt32)), .val (.int ((((x.toUInt64 >>> ((16 : Int32) &&& 0x3f).toInt64.toUInt64).toInt64) &&& (255 : Int64)).toInt32)), .val (.int ((((x.toUInt64 >>> ((24 : Int32) &&& 0x3f).toInt64.toUInt64).toInt64) &&& (255 : Int64)).toInt32))] [(.int (1 : Int32)), (.ref b33), (.ref b33), (.ref b32), (.ref b32)]) (fun _ _ A kq => XS.iconst A hx rfl (hb hby own_d_method_5_114) kq) ?_
        refine gs (mkF m 117 #[.val (.long x), .second, .val (.int ((x &&& (3 : Int64)).toInt32)), .val (.int ((((x.toUInt64 >>> ((8 : Int32) &&& 0x3f).toInt64.toUInt64).toInt64) &&& (255 : Int64)).toInt32)), .val (.int ((((x.toUInt64 >>> ((16 : Int32) &&& 0x3f).toInt64.toUInt64).toInt64) &&& (255 : Int64)).toInt32)), .val (.int ((((x.toUInt64 >>> ((24 : Int32) &&& 0x3f).toInt64.toUInt64).toInt64) &&& (255 : Int64)).toInt32))] [(.int ((((x.toUInt64 >>> ((16 : Int32) &&& 0x3f).toInt64.toUInt64).toInt64) &&& (255 : Int64)).toInt32)), (.int (1 : Int32)), (.ref b33), (.ref b33), (.ref b32), (.ref b32)]) (fun _ _ A kq => XS.iload A hx rfl (hb hby own_d_method_5_115) rfl  kq) ?_
        refine gstC hx V34 ⟨by decide, by decide⟩ (i := 1) rfl (Nat.le_of_ble_eq_true rfl) (y := ((((x.toUInt64 >>> ((16 : Int32) &&& 0x3f).toInt64.toUInt64).toInt64) &&& (255 : Int64)).toInt32)) (own_l16 _) n33 118 (hb hby own_d_method_5_117) rfl ?_
        intro h35 W35 C35 V35
        have z35 := C35.2.1
        replace V35 : Arv Z h35 b33 k33 .char (3 : Int32) [(.int ((((x.toUInt64 >>> ((8 : Int32) &&& 0x3f).toInt64.toUInt64).toInt64) &&& (255 : Int64)).toInt32)), (.int ((((x.toUInt64 >>> ((16 : Int32) &&& 0x3f).toInt64.toUInt64).toInt64) &&& (255 : Int64)).toInt32)), (.int (0 : Int32))] (.int (0 : Int32)) := V35
        refine gs (mkF m 119 #[.val (.long x), .second, .val (.int ((x &&& (3 : Int64)).toInt32)), .val (.int ((((x.toUInt64 >>> ((8 : Int32) &&& 0x3f).toInt64.toUInt64).toInt64) &&& (255 : Int64)).toInt32)), .val (.int ((((x.toUInt64 >>> ((16 : Int32) &&& 0x3f).toInt64.toUInt64).toInt64) &&& (255 : Int64)).toInt32)), .val (.int ((((x.toUInt64 >>> ((24 : Int32) &&& 0x3f).toInt64.toUInt64).toInt64) &&& (255 : Int64)).toInt32))] [(.ref b33), (.ref b33), (.ref b32), (.ref b32)]) (fun _ _ A kq => XS.dup A hx rfl (hb hby own_d_method_5_118) rfl rfl kq) ?_
        refine gs (mkF m 120 #[.val (.long x), .second, .val (.int ((x &&& (3 : Int64)).toInt32)), .val (.int ((((x.toUInt64 >>> ((8 : Int32) &&& 0x3f).toInt64.toUInt64).toInt64) &&& (255 : Int64)).toInt32)), .val (.int ((((x.toUInt64 >>> ((16 : Int32) &&& 0x3f).toInt64.toUInt64).toInt64) &&& (255 : Int64)).toInt32)), .val (.int ((((x.toUInt64 >>> ((24 : Int32) &&& 0x3f).toInt64.toUInt64).toInt64) &&& (255 : Int64)).toInt32))] [(.int (2 : Int32)), (.ref b33), (.ref b33), (.ref b32), (.ref b32)]) (fun _ _ A kq => XS.iconst A hx rfl (hb hby own_d_method_5_119) kq) ?_
        refine gs (mkF m 122 #[.val (.long x), .second, .val (.int ((x &&& (3 : Int64)).toInt32)), .val (.int ((((x.toUInt64 >>> ((8 : Int32) &&& 0x3f).toInt64.toUInt64).toInt64) &&& (255 : Int64)).toInt32)), .val (.int ((((x.toUInt64 >>> ((16 : Int32) &&& 0x3f).toInt64.toUInt64).toInt64) &&& (255 : Int64)).toInt32)), .val (.int ((((x.toUInt64 >>> ((24 : Int32) &&& 0x3f).toInt64.toUInt64).toInt64) &&& (255 : Int64)).toInt32))] [(.int ((((x.toUInt64 >>> ((24 : Int32) &&& 0x3f).toInt64.toUInt64).toInt64) &&& (255 : Int64)).toInt32)), (.int (2 : Int32)), (.ref b33), (.ref b33), (.ref b32), (.ref b32)]) (fun _ _ A kq => XS.iload A hx rfl (hb hby own_d_method_5_120) rfl  kq) ?_
        refine gstC hx V35 ⟨by decide, by decide⟩ (i := 2) rfl (Nat.le_of_ble_eq_true rfl) (y := ((((x.toUInt64 >>> ((24 : Int32) &&& 0x3f).toInt64.toUInt64).toInt64) &&& (255 : Int64)).toInt32)) (own_l16 _) n33 123 (hb hby own_d_method_5_122) rfl ?_
        intro h36 W36 C36 V36
        have z36 := C36.2.1
        replace V36 : Arv Z h36 b33 k33 .char (3 : Int32) [(.int ((((x.toUInt64 >>> ((8 : Int32) &&& 0x3f).toInt64.toUInt64).toInt64) &&& (255 : Int64)).toInt32)), (.int ((((x.toUInt64 >>> ((16 : Int32) &&& 0x3f).toInt64.toUInt64).toInt64) &&& (255 : Int64)).toInt32)), (.int ((((x.toUInt64 >>> ((24 : Int32) &&& 0x3f).toInt64.toUInt64).toInt64) &&& (255 : Int64)).toInt32))] (.int (0 : Int32)) := V36
        have f38 := ((((A32.ext E33).wr W34).wr W35).wr W36)
        have f39 := ((((F32_value.ext E33).other W34 (Or.inl (Nat.ne_of_lt (by omega)))).other W35 (Or.inl (Nat.ne_of_lt (by omega)))).other W36 (Or.inl (Nat.ne_of_lt (by omega))))
        have f40 := ((((F32_coder.ext E33).other W34 (Or.inl (Nat.ne_of_lt (by omega)))).other W35 (Or.inl (Nat.ne_of_lt (by omega)))).other W36 (Or.inl (Nat.ne_of_lt (by omega))))
        have f41 := (C36.safe (show h35.size > b32 by omega) (C35.safe (show h34.size > b32 by omega) (C34.safe (show h33.size > b32 by omega) (C33.safe (show h32.size > b32 by omega) L32))))
        refine ginfo fun _ _ O37 => ?_
        refine gcallI (y := (⟨"java/lang/String", "<init>", "([C)V"⟩ : MethodName)) hx rfl (ow hw 4 rfl) (ow hw 5 rfl) (ow hw 6 rfl) (by decide) (fun hZ H hEL => own_payNew (W := 1) (own_wNew hw) (ow hw 2 rfl) Scs hzc O37 (cs := [((((x.toUInt64 >>> ((8 : Int32) &&& 0x3f).toInt64.toUInt64).toInt64) &&& (255 : Int64)).toInt32), ((((x.toUInt64 >>> ((16 : Int32) &&& 0x3f).toInt64.toUInt64).toInt64) &&& (255 : Int64)).toInt32), ((((x.toUInt64 >>> ((24 : Int32) &&& 0x3f).toInt64.toUInt64).toInt64) &&& (255 : Int64)).toInt32)]) (n := 3) n32 f38 f39 f40 V36 rfl rfl (by decide) (by decide) (bcons (own_lB _) (bcons (own_lB _) (bcons (own_lB _) bnil))) f41 (by decide) (by decide) hZ H hEL) (a := b32) 126 (argsL := [(.ref b33)]) (rest := [(.ref b32)]) (lenOf own_pd150 rfl) rfl rfl (Nat.le_of_eq rfl) (by rw [hml]; rfl) (hb hby own_d_method_5_123) rfl (by decide) (by decide) ?_
        rintro _ vm37 h37 C37 ⟨t37, rfl, K37, g37, S37⟩
        have z37 := C37.2.1
        have lt_t37 : h37.size > t37 := S37.tlt
        refine gat (mkF m 126 #[.val (.long x), .second, .val (.int ((x &&& (3 : Int64)).toInt32)), .val (.int ((((x.toUInt64 >>> ((8 : Int32) &&& 0x3f).toInt64.toUInt64).toInt64) &&& (255 : Int64)).toInt32)), .val (.int ((((x.toUInt64 >>> ((16 : Int32) &&& 0x3f).toInt64.toUInt64).toInt64) &&& (255 : Int64)).toInt32)), .val (.int ((((x.toUInt64 >>> ((24 : Int32) &&& 0x3f).toInt64.toUInt64).toInt64) &&& (255 : Int64)).toInt32))] [(.ref b32)]) rfl ?_
        exact gretA hx hret rfl rfl (hb hby own_d_method_5_126) (by decide) (by decide) (fun vq Cq => ⟨b32, t37, [((((x.toUInt64 >>> ((8 : Int32) &&& 0x3f).toInt64.toUInt64).toInt64) &&& (255 : Int64)).toInt32), ((((x.toUInt64 >>> ((16 : Int32) &&& 0x3f).toInt64.toUInt64).toInt64) &&& (255 : Int64)).toInt32), ((((x.toUInt64 >>> ((24 : Int32) &&& 0x3f).toInt64.toUInt64).toInt64) &&& (255 : Int64)).toInt32)], rfl, (((((((Keep.refl h0 []).ext E32).ext E33).wr W34 (Or.inr (by omega))).wr W35 (Or.inr (by omega))).wr W36 (Or.inr (by omega))).trans K37 (allS (Or.inr (by omega)) all0)), S37⟩)
theorem own_ix (x n : Int32) (k : Nat) (hn : n.toInt = (k : Nat)) (hk : 0 < k) (hk2 : k < 100) : (¬ ((x &&& (2147483647 : Int32)) % n) < 0 ∧ ((x &&& (2147483647 : Int32)) % n) < n) ∧ ((x &&& (2147483647 : Int32)) % n).toNatClampNeg < k := by
  have h1 := c_mask x 2147483647 31 (by decide) (by decide)
  generalize (x &&& (2147483647 : Int32)) = y at *
  have h2 := c_irem y n k hn
  have h0 : (0 : Int32).toInt = 0 := rfl
  have h3 : 0 ≤ y.toInt := by omega
  have h2 := h2.1 h3
  have e1 := Int.emod_nonneg y.toInt (show (k : Int) ≠ 0 by omega)
  have e2 := Int.emod_lt_of_pos y.toInt (show 0 < (k : Int) by omega)
  generalize y.toInt % (k : Int) = r at *
  refine ⟨⟨?_, ?_⟩, ?_⟩
  · rw [Int32.lt_iff_toInt_lt, h0]; omega
  · rw [Int32.lt_iff_toInt_lt]; omega
  · rw [Int32.toNatClampNeg]; omega
theorem own_pd237 : parseMethodDescriptor "()Ljava/lang/String;" = some ⟨[], some (.object "java/lang/String")⟩ := by decide +kernel
theorem own_pd238 : parseMethodDescriptor "(Ljava/lang/String;)Lcom/example/tasks_to_members/taskstomembers/core/TaskAssignor;" = some ⟨[(.object "java/lang/String")], some (.object "com/example/tasks_to_members/taskstomembers/core/TaskAssignor")⟩ := by decide +kernel
theorem own_pd239 : parseMethodDescriptor "(J)Ljava/lang/String;" = some ⟨[.long], some (.object "java/lang/String")⟩ := by decide +kernel
set_option maxRecDepth 65536 in
set_option maxHeartbeats 40000000 in
theorem own_law (l : Launch) (Z : State) (a0 : Array Value) (cx : Ctx Z a0) (ws : List Jvm.Cond) (x0 : Int32) (x1 : Int32) (x2 : Int32) (x3 : Int64) (x4 : Int64) (vm0 : Vm) (h0 : Heap) (X00 : Ext Z.heap h0)  :
    Met l x code maxLocals ret ws room_1 Z consts_1 vm0 h0 #[(.int x0), (.int x1), (.int x2), (.long x3), (.long x4)] (fun rv vm h => rv = some (.int (1 : Int32)) ∧ Keep h0 h []) := by
  obtain ⟨hw, hEL, ⟨zc, Scs, hzc⟩, ⟨fm, Sfm, hfm⟩, hK0⟩ := id cx
  have hSA := own_SA hw
  refine Met.of_walk (a0 := a0) #[.val (.int x0), .val (.int x1), .val (.int x2), .val (.long x3), .second, .val (.long x4), .second, .unset, .unset, .unset, .unset, .unset] (plainFor_of_name own_pn82) X00 hEL (fun m => by first | (simp [entryFrame, mkF, argsToLocals, Value.category, maxLocals]; done) | rfl) ?_
  intro p e s m below meth c vm hx hby hml hret hnm hC0
  obtain ⟨va, ak, ah, nk, nh, tk, th, kv, hK1⟩ := hK0
  have hK : OwnK Z va ak ah nk nh tk th kv := hK1
  obtain ⟨Sva, Eva, Vva, Sak, Eak, Sah, Eah, Fnk, Snk, Fnh, Snh⟩ := id hK
  refine gs (mkF m 1 #[.val (.int x0), .val (.int x1), .val (.int x2), .val (.long x3), .second, .val (.long x4), .second, .unset, .unset, .unset, .unset, .unset] [(.int x0)]) (fun _ _ A kq => XS.iloadN A hx rfl (hb hby at_0) rfl  kq) ?_
  refine gs (mkF m 3 #[.val (.int x0), .val (.int x1), .val (.int x2), .val (.long x3), .second, .val (.long x4), .second, .unset, .unset, .unset, .unset, .unset] [(.int (7 : Int32)), (.int x0)]) (fun _ _ A kq => XS.bipush A hx rfl (hb hby at_1) kq) ?_
  refine gs (mkF m 4 #[.val (.int x0), .val (.int x1), .val (.int x2), .val (.long x3), .second, .val (.long x4), .second, .unset, .unset, .unset, .unset, .unset] [(.int (x0 &&& (7 : Int32)))]) (fun _ _ A kq => XS.iand A hx rfl (hb hby at_3) rfl kq) ?_
  refine gs (mkF m 6 #[.val (.int x0), .val (.int x1), .val (.int x2), .val (.long x3), .second, .val (.long x4), .second, .val (.int (x0 &&& (7 : Int32))), .unset, .unset, .unset, .unset] []) (fun _ _ A kq => XS.istore A hx rfl (hb hby at_4) rfl (l' := #[.val (.int x0), .val (.int x1), .val (.int x2), .val (.long x3), .second, .val (.long x4), .second, .val (.int (x0 &&& (7 : Int32))), .unset, .unset, .unset, .unset]) rfl kq) ?_
  refine gs (mkF m 7 #[.val (.int x0), .val (.int x1), .val (.int x2), .val (.long x3), .second, .val (.long x4), .second, .val (.int (x0 &&& (7 : Int32))), .unset, .unset, .unset, .unset] [(.int x0)]) (fun _ _ A kq => XS.iloadN A hx rfl (hb hby at_6) rfl  kq) ?_
  refine gs (mkF m 8 #[.val (.int x0), .val (.int x1), .val (.int x2), .val (.long x3), .second, .val (.long x4), .second, .val (.int (x0 &&& (7 : Int32))), .unset, .unset, .unset, .unset] [(.int (3 : Int32)), (.int x0)]) (fun _ _ A kq => XS.iconst A hx rfl (hb hby at_7) kq) ?_
  refine gs (mkF m 9 #[.val (.int x0), .val (.int x1), .val (.int x2), .val (.long x3), .second, .val (.long x4), .second, .val (.int (x0 &&& (7 : Int32))), .unset, .unset, .unset, .unset] [(.int ((x0.toUInt32 >>> ((3 : Int32) &&& 31).toUInt32).toInt32))]) (fun _ _ A kq => XS.iushr A hx rfl (hb hby at_8) rfl kq) ?_
  refine gs (mkF m 10 #[.val (.int x0), .val (.int x1), .val (.int x2), .val (.long x3), .second, .val (.long x4), .second, .val (.int (x0 &&& (7 : Int32))), .unset, .unset, .unset, .unset] [(.int (1 : Int32)), (.int ((x0.toUInt32 >>> ((3 : Int32) &&& 31).toUInt32).toInt32))]) (fun _ _ A kq => XS.iconst A hx rfl (hb hby at_9) kq) ?_
  refine gs (mkF m 11 #[.val (.int x0), .val (.int x1), .val (.int x2), .val (.long x3), .second, .val (.long x4), .second, .val (.int (x0 &&& (7 : Int32))), .unset, .unset, .unset, .unset] [(.int (((x0.toUInt32 >>> ((3 : Int32) &&& 31).toUInt32).toInt32) &&& (1 : Int32)))]) (fun _ _ A kq => XS.iand A hx rfl (hb hby at_10) rfl kq) ?_
  by_cases f1 : (((x0.toUInt32 >>> ((3 : Int32) &&& 31).toUInt32).toInt32) &&& (1 : Int32)) = (0 : Int32)
  · refine gs (mkF m 18 #[.val (.int x0), .val (.int x1), .val (.int x2), .val (.long x3), .second, .val (.long x4), .second, .val (.int (x0 &&& (7 : Int32))), .unset, .unset, .unset, .unset] []) (fun _ _ A kq => XS.ifYes A hx rfl (pc0 := 11) (pc' := 18) rfl (hb hby at_11) rfl ((if0 _ _).trans (teq f1).1) (by decide) (by decide) kq) ?_
    refine gs (mkF m 19 #[.val (.int x0), .val (.int x1), .val (.int x2), .val (.long x3), .second, .val (.long x4), .second, .val (.int (x0 &&& (7 : Int32))), .unset, .unset, .unset, .unset] [(.int (0 : Int32))]) (fun _ _ A kq => XS.iconst A hx rfl (hb hby at_18) kq) ?_
    refine gs (mkF m 21 #[.val (.int x0), .val (.int x1), .val (.int x2), .val (.long x3), .second, .val (.long x4), .second, .val (.int (x0 &&& (7 : Int32))), .val (.int (0 : Int32)), .unset, .unset, .unset] []) (fun _ _ A kq => XS.istore A hx rfl (hb hby at_19) rfl (l' := #[.val (.int x0), .val (.int x1), .val (.int x2), .val (.long x3), .second, .val (.long x4), .second, .val (.int (x0 &&& (7 : Int32))), .val (.int (0 : Int32)), .unset, .unset, .unset]) rfl kq) ?_
    refine gs (mkF m 22 #[.val (.int x0), .val (.int x1), .val (.int x2), .val (.long x3), .second, .val (.long x4), .second, .val (.int (x0 &&& (7 : Int32))), .val (.int (0 : Int32)), .unset, .unset, .unset] [(.int x2)]) (fun _ _ A kq => XS.iloadN A hx rfl (hb hby at_21) rfl  kq) ?_
    refine gs (mkF m 25 #[.val (.int x0), .val (.int x1), .val (.int x2), .val (.long x3), .second, .val (.long x4), .second, .val (.int (x0 &&& (7 : Int32))), .val (.int (0 : Int32)), .unset, .unset, .unset] [(.int (255 : Int32)), (.int x2)]) (fun _ _ A kq => XS.sipush A hx rfl (hb hby at_22) kq) ?_
    refine gs (mkF m 26 #[.val (.int x0), .val (.int x1), .val (.int x2), .val (.long x3), .second, .val (.long x4), .second, .val (.int (x0 &&& (7 : Int32))), .val (.int (0 : Int32)), .unset, .unset, .unset] [(.int (x2 &&& (255 : Int32)))]) (fun _ _ A kq => XS.iand A hx rfl (hb hby at_25) rfl kq) ?_
    refine gi2c hx (i2c_mask _) 27 (hb hby at_26) rfl ?_
    refine gs (mkF m 29 #[.val (.int x0), .val (.int x1), .val (.int x2), .val (.long x3), .second, .val (.long x4), .second, .val (.int (x0 &&& (7 : Int32))), .val (.int (0 : Int32)), .val (.int (x2 &&& (255 : Int32))), .unset, .unset] []) (fun _ _ A kq => XS.istore A hx rfl (hb hby at_27) rfl (l' := #[.val (.int x0), .val (.int x1), .val (.int x2), .val (.long x3), .second, .val (.long x4), .second, .val (.int (x0 &&& (7 : Int32))), .val (.int (0 : Int32)), .val (.int (x2 &&& (255 : Int32))), .unset, .unset]) rfl kq) ?_
    refine gs (mkF m 31 #[.val (.int x0), .val (.int x1), .val (.int x2), .val (.long x3), .second, .val (.long x4), .second, .val (.int (x0 &&& (7 : Int32))), .val (.int (0 : Int32)), .val (.int (x2 &&& (255 : Int32))), .unset, .unset] [(.int (x0 &&& (7 : Int32)))]) (fun _ _ A kq => XS.iload A hx rfl (hb hby at_29) rfl  kq) ?_
    refine gs (mkF m 33 #[.val (.int x0), .val (.int x1), .val (.int x2), .val (.long x3), .second, .val (.long x4), .second, .val (.int (x0 &&& (7 : Int32))), .val (.int (0 : Int32)), .val (.int (x2 &&& (255 : Int32))), .unset, .unset] [(.int (7 : Int32)), (.int (x0 &&& (7 : Int32)))]) (fun _ _ A kq => XS.bipush A hx rfl (hb hby at_31) kq) ?_
    by_cases k7 : (x0 &&& (7 : Int32)) = (7 : Int32)
    · refine gs (mkF m 36 #[.val (.int x0), .val (.int x1), .val (.int x2), .val (.long x3), .second, .val (.long x4), .second, .val (.int (x0 &&& (7 : Int32))), .val (.int (0 : Int32)), .val (.int (x2 &&& (255 : Int32))), .unset, .unset] []) (fun _ _ A kq => XS.icmpNo A hx rfl (hb hby at_33) rfl (teq k7).2 kq) ?_
      refine gs (mkF m 38 #[.val (.int x0), .val (.int x1), .val (.int x2), .val (.long x3), .second, .val (.long x4), .second, .val (.int (x0 &&& (7 : Int32))), .val (.int (0 : Int32)), .val (.int (x2 &&& (255 : Int32))), .unset, .unset] [(.int (0 : Int32))]) (fun _ _ A kq => XS.iload A hx rfl (hb hby at_36) rfl  kq) ?_
      refine gs (mkF m 47 #[.val (.int x0), .val (.int x1), .val (.int x2), .val (.long x3), .second, .val (.long x4), .second, .val (.int (x0 &&& (7 : Int32))), .val (.int (0 : Int32)), .val (.int (x2 &&& (255 : Int32))), .unset, .unset] []) (fun _ _ A kq => XS.ifYes A hx rfl (pc0 := 38) (pc' := 47) rfl (hb hby at_38) rfl ((if0 _ _).trans (teq (by decide)).1) (by decide) (by decide) kq) ?_
      refine ggetS (host := "") hx (Or.inl (ow hw 71 rfl)) Via.refl Sak 50 (hb hby at_47) rfl ?_
      refine gs (mkF m 52 #[.val (.int x0), .val (.int x1), .val (.int x2), .val (.long x3), .second, .val (.long x4), .second, .val (.int (x0 &&& (7 : Int32))), .val (.int (0 : Int32)), .val (.int (x2 &&& (255 : Int32))), .val (.ref ak), .unset] []) (fun _ _ A kq => XS.astore A hx rfl (hb hby at_50) rfl rfl (l' := #[.val (.int x0), .val (.int x1), .val (.int x2), .val (.long x3), .second, .val (.long x4), .second, .val (.int (x0 &&& (7 : Int32))), .val (.int (0 : Int32)), .val (.int (x2 &&& (255 : Int32))), .val (.ref ak), .unset]) rfl kq) ?_
      refine ginfo fun _ _ O1 => ?_
      have Eva_1 := Eva.ext O1
      have Vva_1 := Vva.ext O1
      have Eak_1 := Eak.ext O1
      have Eah_1 := Eah.ext O1
      have Fnk_1 := Fnk.ext O1
      have Snk_1 := Snk.ext O1
      have Fnh_1 := Fnh.ext O1
      have Snh_1 := Snh.ext O1
      have lt_va : h0.size > va := Eva_1.lt
      have lt_ak : h0.size > ak := Eak_1.lt
      have lt_ah : h0.size > ah := Eah_1.lt
      have lt_nk : h0.size > nk := Snk_1.1.lt
      have lt_tk : h0.size > tk := Snk_1.tlt
      have lt_nh : h0.size > nh := Snh_1.1.lt
      have lt_th : h0.size > th := Snh_1.tlt
      refine gs (mkF m 54 #[.val (.int x0), .val (.int x1), .val (.int x2), .val (.long x3), .second, .val (.long x4), .second, .val (.int (x0 &&& (7 : Int32))), .val (.int (0 : Int32)), .val (.int (x2 &&& (255 : Int32))), .val (.ref ak), .unset] [(.ref ak)]) (fun _ _ A kq => XS.aload A hx rfl (hb hby at_52) rfl rfl kq) ?_
      refine ginfo fun _ _ O2 => ?_
      refine gcallV (y := (⟨"com/example/tasks_to_members/taskstomembers/core/TaskAssignor", "configName", "()Ljava/lang/String;"⟩ : MethodName)) (z := (⟨"com/example/tasks_to_members/taskstomembers/core/TaskAssignor", "configName", "()Ljava/lang/String;"⟩ : MethodName)) hx (ow hw 73 rfl) (ow hw 74 rfl) (nfSel (ow hw 76 rfl)) (ow hw 76 rfl) (ow hw 75 rfl) (by decide) (fun hZ H hEL => Pay.of_met (W := 0) (own_config l Z a0 cx [] (ak) (nk) vm h0 O2 Fnk_1) (ow hw 77 rfl) (ow hw 32 rfl) (by decide) (by decide) hZ H hEL) 57 (argsL := []) (rest := []) Eak_1 (lenOf own_pd237 rfl) rfl rfl (Nat.le_of_eq rfl) (by rw [hml]; rfl) (hb hby at_54) rfl (by decide) (by decide) ?_
      rintro _ vm2 h2 C2 ⟨rfl, rfl⟩
      have z2 := C2.2.1
      refine gat (mkF m 57 #[.val (.int x0), .val (.int x1), .val (.int x2), .val (.long x3), .second, .val (.long x4), .second, .val (.int (x0 &&& (7 : Int32))), .val (.int (0 : Int32)), .val (.int (x2 &&& (255 : Int32))), .val (.ref ak), .unset] [(.ref nk)]) rfl ?_
      refine ginfo fun _ _ O3 => ?_
      refine gcallS (y := (⟨"com/example/tasks_to_members/taskstomembers/core/TaskAssignor", "named", "(Ljava/lang/String;)Lcom/example/tasks_to_members/taskstomembers/core/TaskAssignor;"⟩ : MethodName)) hx (ow hw 30 rfl) (ow hw 31 rfl) (ow hw 32 rfl) (ow hw 33 rfl) (by decide) (fun hZ H hEL => Pay.of_met (W := 0) (own_namedK l Z a0 cx [] (nk) (tk) (va) (ak) (ah) (nk) (nh) (tk) (th) (kv) vm2 h0 O3 Snk_1 (by first | assumption | decide | omega)) (ow hw 33 rfl) (ow hw 32 rfl) (by decide) (by decide) hZ H hEL) 60 (argsL := [(.ref nk)]) (rest := []) (lenOf own_pd238 rfl) rfl rfl (Nat.le_of_eq rfl) (by rw [hml]; rfl) (hb hby at_57) rfl (by decide) (by decide) ?_
      rintro _ vm3 h3 C3 ⟨rfl, K3⟩
      have z3 := C3.2.1
      refine gat (mkF m 60 #[.val (.int x0), .val (.int x1), .val (.int x2), .val (.long x3), .second, .val (.long x4), .second, .val (.int (x0 &&& (7 : Int32))), .val (.int (0 : Int32)), .val (.int (x2 &&& (255 : Int32))), .val (.ref ak), .unset] [(.ref ak)]) rfl ?_
      refine gs (mkF m 62 #[.val (.int x0), .val (.int x1), .val (.int x2), .val (.long x3), .second, .val (.long x4), .second, .val (.int (x0 &&& (7 : Int32))), .val (.int (0 : Int32)), .val (.int (x2 &&& (255 : Int32))), .val (.ref ak), .unset] [(.ref ak), (.ref ak)]) (fun _ _ A kq => XS.aload A hx rfl (hb hby at_60) rfl rfl kq) ?_
      refine gx (mkF m 65 #[.val (.int x0), .val (.int x1), .val (.int x2), .val (.long x3), .second, .val (.long x4), .second, .val (.int (x0 &&& (7 : Int32))), .val (.int (0 : Int32)), .val (.int (x2 &&& (255 : Int32))), .val (.ref ak), .unset] []) (fun T locs X _ _ _ _ kq => Jvm.RoadKit.acmp (g := (mkF m 62 #[.val (.int x0), .val (.int x1), .val (.int x2), .val (.long x3), .second, .val (.long x4), .second, .val (.int (x0 &&& (7 : Int32))), .val (.int (0 : Int32)), .val (.int (x2 &&& (255 : Int32))), .val (.ref ak), .unset] [(.ref ak), (.ref ak)])) X hx rfl rfl rfl (pc0 := 62) (pc' := 65) (same := true) rfl (hb hby at_62) rfl (decide_eq_true rfl) (by decide) (by decide) kq) ?_
      refine gs (mkF m 66 #[.val (.int x0), .val (.int x1), .val (.int x2), .val (.long x3), .second, .val (.long x4), .second, .val (.int (x0 &&& (7 : Int32))), .val (.int (0 : Int32)), .val (.int (x2 &&& (255 : Int32))), .val (.ref ak), .unset] [(.int (1 : Int32))]) (fun _ _ A kq => XS.iconst A hx rfl (hb hby at_65) kq) ?_
      refine gs (mkF m 70 #[.val (.int x0), .val (.int x1), .val (.int x2), .val (.long x3), .second, .val (.long x4), .second, .val (.int (x0 &&& (7 : Int32))), .val (.int (0 : Int32)), .val (.int (x2 &&& (255 : Int32))), .val (.ref ak), .unset] [(.int (1 : Int32))]) (fun _ _ A kq => XS.goto A hx rfl (pc0 := 66) (pc' := 70) rfl (hb hby at_66) (by decide) (by decide) kq) ?_
      exact gretN (t := .boolean) hx hret (by simp) (hb hby at_70) (by decide) (by decide) (fun vq Cq => ⟨rfl, ((Keep.refl h0 []).trans K3 all0)⟩)
    · refine gs (mkF m 71 #[.val (.int x0), .val (.int x1), .val (.int x2), .val (.long x3), .second, .val (.long x4), .second, .val (.int (x0 &&& (7 : Int32))), .val (.int (0 : Int32)), .val (.int (x2 &&& (255 : Int32))), .unset, .unset] []) (fun _ _ A kq => XS.icmpYes A hx rfl (pc0 := 33) (pc' := 71) rfl (hb hby at_33) rfl (feq k7).2 (by decide) (by decide) kq) ?_
      refine gs (mkF m 73 #[.val (.int x0), .val (.int x1), .val (.int x2), .val (.long x3), .second, .val (.long x4), .second, .val (.int (x0 &&& (7 : Int32))), .val (.int (0 : Int32)), .val (.int (x2 &&& (255 : Int32))), .unset, .unset] [(.int (x0 &&& (7 : Int32)))]) (fun _ _ A kq => XS.iload A hx rfl (hb hby at_71) rfl  kq) ?_
      refine gs (mkF m 75 #[.val (.int x0), .val (.int x1), .val (.int x2), .val (.long x3), .second, .val (.long x4), .second, .val (.int (x0 &&& (7 : Int32))), .val (.int (0 : Int32)), .val (.int (x2 &&& (255 : Int32))), .unset, .unset] [(.int (6 : Int32)), (.int (x0 &&& (7 : Int32)))]) (fun _ _ A kq => XS.bipush A hx rfl (hb hby at_73) kq) ?_
      by_cases k6 : (x0 &&& (7 : Int32)) = (6 : Int32)
      · refine gs (mkF m 78 #[.val (.int x0), .val (.int x1), .val (.int x2), .val (.long x3), .second, .val (.long x4), .second, .val (.int (x0 &&& (7 : Int32))), .val (.int (0 : Int32)), .val (.int (x2 &&& (255 : Int32))), .unset, .unset] []) (fun _ _ A kq => XS.icmpNo A hx rfl (hb hby at_75) rfl (teq k6).2 kq) ?_
        refine gs (mkF m 79 #[.val (.int x0), .val (.int x1), .val (.int x2), .val (.long x3), .second, .val (.long x4), .second, .val (.int (x0 &&& (7 : Int32))), .val (.int (0 : Int32)), .val (.int (x2 &&& (255 : Int32))), .unset, .unset] [.null]) (fun _ _ A kq => XS.aconstNull A hx rfl (hb hby at_78) kq) ?_
        refine gs (mkF m 81 #[.val (.int x0), .val (.int x1), .val (.int x2), .val (.long x3), .second, .val (.long x4), .second, .val (.int (x0 &&& (7 : Int32))), .val (.int (0 : Int32)), .val (.int (x2 &&& (255 : Int32))), .val .null, .unset] []) (fun _ _ A kq => XS.astore A hx rfl (hb hby at_79) rfl rfl (l' := #[.val (.int x0), .val (.int x1), .val (.int x2), .val (.long x3), .second, .val (.long x4), .second, .val (.int (x0 &&& (7 : Int32))), .val (.int (0 : Int32)), .val (.int (x2 &&& (255 : Int32))), .val .null, .unset]) rfl kq) ?_
        refine gs (mkF m 588 #[.val (.int x0), .val (.int x1), .val (.int x2), .val (.long x3), .second, .val (.long x4), .second, .val (.int (x0 &&& (7 : Int32))), .val (.int (0 : Int32)), .val (.int (x2 &&& (255 : Int32))), .val .null, .unset] []) (fun _ _ A kq => XS.goto A hx rfl (pc0 := 81) (pc' := 588) rfl (hb hby at_81) (by decide) (by decide) kq) ?_
        refine gs (mkF m 590 #[.val (.int x0), .val (.int x1), .val (.int x2), .val (.long x3), .second, .val (.long x4), .second, .val (.int (x0 &&& (7 : Int32))), .val (.int (0 : Int32)), .val (.int (x2 &&& (255 : Int32))), .val .null, .unset] [.null]) (fun _ _ A kq => XS.aload A hx rfl (hb hby at_588) rfl rfl kq) ?_
        refine ginfo fun _ _ O5 => ?_
        refine gcallS (y := (⟨"com/example/tasks_to_members/taskstomembers/core/TaskAssignor", "named", "(Ljava/lang/String;)Lcom/example/tasks_to_members/taskstomembers/core/TaskAssignor;"⟩ : MethodName)) hx (ow hw 30 rfl) (ow hw 31 rfl) (ow hw 32 rfl) (ow hw 33 rfl) (by decide) (fun hZ H hEL => Pay.of_met (W := 0) (own_namedN l Z a0 cx [] (va) (ak) (ah) (nk) (nh) (tk) (th) (kv) vm h0 O5 (by first | assumption | decide | omega)) (ow hw 33 rfl) (ow hw 32 rfl) (by decide) (by decide) hZ H hEL) 593 (argsL := [.null]) (rest := []) (lenOf own_pd238 rfl) rfl rfl (Nat.le_of_eq rfl) (by rw [hml]; rfl) (hb hby at_590) rfl (by decide) (by decide) ?_
        rintro _ vm5 h5 C5 ⟨rfl, K5⟩
        have z5 := C5.2.1
        refine gat (mkF m 593 #[.val (.int x0), .val (.int x1), .val (.int x2), .val (.long x3), .second, .val (.long x4), .second, .val (.int (x0 &&& (7 : Int32))), .val (.int (0 : Int32)), .val (.int (x2 &&& (255 : Int32))), .val .null, .unset] [.null]) rfl ?_
        refine gs (mkF m 595 #[.val (.int x0), .val (.int x1), .val (.int x2), .val (.long x3), .second, .val (.long x4), .second, .val (.int (x0 &&& (7 : Int32))), .val (.int (0 : Int32)), .val (.int (x2 &&& (255 : Int32))), .val .null, .unset] [.null, .null]) (fun _ _ A kq => XS.aload A hx rfl (hb hby at_593) rfl rfl kq) ?_
        refine ginfo fun _ _ O6 => ?_
        refine gcallS (y := (⟨"com/example/tasks_to_members/taskstomembers/core/TaskAssignorNamedPinLaw", "expected", "(Ljava/lang/String;)Lcom/example/tasks_to_members/taskstomembers/core/TaskAssignor;"⟩ : MethodName)) hx (ow hw 63 rfl) (ow hw 64 rfl) (ow hw 65 rfl) (ow hw 66 rfl) (by decide) (fun hZ H hEL => Pay.of_met (W := 1) (own_expN l Z a0 cx [] (va) (ak) (ah) (nk) (nh) (tk) (th) (kv) vm5 h5 O6 (by first | assumption | decide | omega)) (ow hw 66 rfl) (ow hw 65 rfl) (by decide) (by decide) hZ H hEL) 598 (argsL := [.null]) (rest := [.null]) (lenOf own_pd238 rfl) rfl rfl (Nat.le_of_eq rfl) (by rw [hml]; rfl) (hb hby at_595) rfl (by decide) (by decide) ?_
        rintro _ vm6 h6 C6 ⟨rfl, K6⟩
        have z6 := C6.2.1
        refine gat (mkF m 598 #[.val (.int x0), .val (.int x1), .val (.int x2), .val (.long x3), .second, .val (.long x4), .second, .val (.int (x0 &&& (7 : Int32))), .val (.int (0 : Int32)), .val (.int (x2 &&& (255 : Int32))), .val .null, .unset] [.null, .null]) rfl ?_
        refine gx (mkF m 601 #[.val (.int x0), .val (.int x1), .val (.int x2), .val (.long x3), .second, .val (.long x4), .second, .val (.int (x0 &&& (7 : Int32))), .val (.int (0 : Int32)), .val (.int (x2 &&& (255 : Int32))), .val .null, .unset] []) (fun T locs X _ _ _ _ kq => Jvm.RoadKit.acmp (g := (mkF m 598 #[.val (.int x0), .val (.int x1), .val (.int x2), .val (.long x3), .second, .val (.long x4), .second, .val (.int (x0 &&& (7 : Int32))), .val (.int (0 : Int32)), .val (.int (x2 &&& (255 : Int32))), .val .null, .unset] [.null, .null])) X hx rfl rfl rfl (pc0 := 598) (pc' := 601) (same := true) rfl (hb hby at_598) rfl (decide_eq_true rfl) (by decide) (by decide) kq) ?_
        refine gs (mkF m 602 #[.val (.int x0), .val (.int x1), .val (.int x2), .val (.long x3), .second, .val (.long x4), .second, .val (.int (x0 &&& (7 : Int32))), .val (.int (0 : Int32)), .val (.int (x2 &&& (255 : Int32))), .val .null, .unset] [(.int (1 : Int32))]) (fun _ _ A kq => XS.iconst A hx rfl (hb hby at_601) kq) ?_
        refine gs (mkF m 606 #[.val (.int x0), .val (.int x1), .val (.int x2), .val (.long x3), .second, .val (.long x4), .second, .val (.int (x0 &&& (7 : Int32))), .val (.int (0 : Int32)), .val (.int (x2 &&& (255 : Int32))), .val .null, .unset] [(.int (1 : Int32))]) (fun _ _ A kq => XS.goto A hx rfl (pc0 := 602) (pc' := 606) rfl (hb hby at_602) (by decide) (by decide) kq) ?_
        exact gretN (t := .boolean) hx hret (by simp) (hb hby at_606) (by decide) (by decide) (fun vq Cq => ⟨rfl, (((Keep.refl h0 []).trans K5 all0).trans K6 all0)⟩)
      · refine gs (mkF m 84 #[.val (.int x0), .val (.int x1), .val (.int x2), .val (.long x3), .second, .val (.long x4), .second, .val (.int (x0 &&& (7 : Int32))), .val (.int (0 : Int32)), .val (.int (x2 &&& (255 : Int32))), .unset, .unset] []) (fun _ _ A kq => XS.icmpYes A hx rfl (pc0 := 75) (pc' := 84) rfl (hb hby at_75) rfl (feq k6).2 (by decide) (by decide) kq) ?_
        refine gjoin (fun vmJ hJ gJ => ∃ (sx8 : Addr), ∃ (t8 : Addr), ∃ (cs8 : List Int32), ∃ (wl8 : Slot), gJ = (mkF m 588 #[.val (.int x0), .val (.int x1), .val (.int x2), .val (.long x3), .second, .val (.long x4), .second, .val (.int (x0 &&& (7 : Int32))), .val (.int (0 : Int32)), .val (.int (x2 &&& (255 : Int32))), .val (.ref sx8), wl8] []) ∧ Keep h0 hJ [] ∧ CHr Z consts_1 vm h0 vmJ hJ ∧ Str Z hJ sx8 t8 cs8) 6 18 ?_ ?_
        · rintro vm8 h8 _ ⟨sx8, t8, cs8, wl8, rfl, K8, C8, q8_0⟩
          have z8 := C8.2.1
          have lt_sx8 : h8.size > sx8 := q8_0.1.lt
          have lt_t8 : h8.size > t8 := q8_0.tlt
          refine gs (mkF m 590 #[.val (.int x0), .val (.int x1), .val (.int x2), .val (.long x3), .second, .val (.long x4), .second, .val (.int (x0 &&& (7 : Int32))), .val (.int (0 : Int32)), .val (.int (x2 &&& (255 : Int32))), .val (.ref sx8), wl8] [(.ref sx8)]) (fun _ _ A kq => XS.aload A hx rfl (hb hby at_588) rfl rfl kq) ?_
          refine ginfo fun _ _ O54 => ?_
          refine gcallS (y := (⟨"com/example/tasks_to_members/taskstomembers/core/TaskAssignor", "named", "(Ljava/lang/String;)Lcom/example/tasks_to_members/taskstomembers/core/TaskAssignor;"⟩ : MethodName)) hx (ow hw 30 rfl) (ow hw 31 rfl) (ow hw 32 rfl) (ow hw 33 rfl) (by decide) (fun hZ H hEL => Pay.of_met (W := 0) (own_namedG l Z a0 cx [] (sx8) (t8) (cs8) (va) (ak) (ah) (nk) (nh) (tk) (th) (kv) vm8 h8 O54 q8_0 (by first | assumption | decide | omega)) (ow hw 33 rfl) (ow hw 32 rfl) (by decide) (by decide) hZ H hEL) 593 (argsL := [(.ref sx8)]) (rest := []) (lenOf own_pd238 rfl) rfl rfl (Nat.le_of_eq rfl) (by rw [hml]; rfl) (hb hby at_590) rfl (by decide) (by decide) ?_
          rintro _ vm54 h54 C54 ⟨rfl, K54⟩
          have z54 := C54.2.1
          refine gat (mkF m 593 #[.val (.int x0), .val (.int x1), .val (.int x2), .val (.long x3), .second, .val (.long x4), .second, .val (.int (x0 &&& (7 : Int32))), .val (.int (0 : Int32)), .val (.int (x2 &&& (255 : Int32))), .val (.ref sx8), wl8] [(own_nm ak ah cs8)]) rfl ?_
          refine gs (mkF m 595 #[.val (.int x0), .val (.int x1), .val (.int x2), .val (.long x3), .second, .val (.long x4), .second, .val (.int (x0 &&& (7 : Int32))), .val (.int (0 : Int32)), .val (.int (x2 &&& (255 : Int32))), .val (.ref sx8), wl8] [(.ref sx8), (own_nm ak ah cs8)]) (fun _ _ A kq => XS.aload A hx rfl (hb hby at_593) rfl rfl kq) ?_
          have f56 := (q8_0.keep K54 nin0 nin0)
          refine ginfo fun _ _ O55 => ?_
          refine gcallS (y := (⟨"com/example/tasks_to_members/taskstomembers/core/TaskAssignorNamedPinLaw", "expected", "(Ljava/lang/String;)Lcom/example/tasks_to_members/taskstomembers/core/TaskAssignor;"⟩ : MethodName)) hx (ow hw 63 rfl) (ow hw 64 rfl) (ow hw 65 rfl) (ow hw 66 rfl) (by decide) (fun hZ H hEL => Pay.of_met (W := 1) (own_expG l Z a0 cx [] (sx8) (t8) (cs8) (va) (ak) (ah) (nk) (nh) (tk) (th) (kv) vm54 h54 O55 f56 (by first | assumption | decide | omega)) (ow hw 66 rfl) (ow hw 65 rfl) (by decide) (by decide) hZ H hEL) 598 (argsL := [(.ref sx8)]) (rest := [(own_nm ak ah cs8)]) (lenOf own_pd238 rfl) rfl rfl (Nat.le_of_eq (by rw [List.map_cons, List.sum_cons, catR (own_nmR _ _ _)] <;> rfl)) (by rw [hml]; rfl) (hb hby at_595) rfl (by decide) (by decide) ?_
          rintro _ vm55 h55 C55 ⟨rfl, K55⟩
          have z55 := C55.2.1
          refine gat (mkF m 598 #[.val (.int x0), .val (.int x1), .val (.int x2), .val (.long x3), .second, .val (.long x4), .second, .val (.int (x0 &&& (7 : Int32))), .val (.int (0 : Int32)), .val (.int (x2 &&& (255 : Int32))), .val (.ref sx8), wl8] [(own_nm ak ah cs8), (own_nm ak ah cs8)]) rfl ?_
          refine gx (mkF m 601 #[.val (.int x0), .val (.int x1), .val (.int x2), .val (.long x3), .second, .val (.long x4), .second, .val (.int (x0 &&& (7 : Int32))), .val (.int (0 : Int32)), .val (.int (x2 &&& (255 : Int32))), .val (.ref sx8), wl8] []) (fun T locs X _ _ _ _ kq => Jvm.RoadKit.acmp (g := (mkF m 598 #[.val (.int x0), .val (.int x1), .val (.int x2), .val (.long x3), .second, .val (.long x4), .second, .val (.int (x0 &&& (7 : Int32))), .val (.int (0 : Int32)), .val (.int (x2 &&& (255 : Int32))), .val (.ref sx8), wl8] [(own_nm ak ah cs8), (own_nm ak ah cs8)])) X hx rfl (own_nmR _ _ _) (own_nmR _ _ _) (pc0 := 598) (pc' := 601) (same := true) rfl (hb hby at_598) rfl (decide_eq_true rfl) (by decide) (by decide) kq) ?_
          refine gs (mkF m 602 #[.val (.int x0), .val (.int x1), .val (.int x2), .val (.long x3), .second, .val (.long x4), .second, .val (.int (x0 &&& (7 : Int32))), .val (.int (0 : Int32)), .val (.int (x2 &&& (255 : Int32))), .val (.ref sx8), wl8] [(.int (1 : Int32))]) (fun _ _ A kq => XS.iconst A hx rfl (hb hby at_601) kq) ?_
          refine gs (mkF m 606 #[.val (.int x0), .val (.int x1), .val (.int x2), .val (.long x3), .second, .val (.long x4), .second, .val (.int (x0 &&& (7 : Int32))), .val (.int (0 : Int32)), .val (.int (x2 &&& (255 : Int32))), .val (.ref sx8), wl8] [(.int (1 : Int32))]) (fun _ _ A kq => XS.goto A hx rfl (pc0 := 602) (pc' := 606) rfl (hb hby at_602) (by decide) (by decide) kq) ?_
          exact gretN (t := .boolean) hx hret (by simp) (hb hby at_606) (by decide) (by decide) (fun vq Cq => ⟨rfl, ((((Keep.refl h0 []).trans K8 all0).trans K54 all0).trans K55 all0)⟩)
        · intro J8
          refine gs (mkF m 86 #[.val (.int x0), .val (.int x1), .val (.int x2), .val (.long x3), .second, .val (.long x4), .second, .val (.int (x0 &&& (7 : Int32))), .val (.int (0 : Int32)), .val (.int (x2 &&& (255 : Int32))), .unset, .unset] [(.int (x0 &&& (7 : Int32)))]) (fun _ _ A kq => XS.iload A hx rfl (hb hby at_84) rfl  kq) ?_
          refine gs (mkF m 87 #[.val (.int x0), .val (.int x1), .val (.int x2), .val (.long x3), .second, .val (.long x4), .second, .val (.int (x0 &&& (7 : Int32))), .val (.int (0 : Int32)), .val (.int (x2 &&& (255 : Int32))), .unset, .unset] [(.int (4 : Int32)), (.int (x0 &&& (7 : Int32)))]) (fun _ _ A kq => XS.iconst A hx rfl (hb hby at_86) kq) ?_
          by_cases k4 : (x0 &&& (7 : Int32)) = (4 : Int32)
          · refine gs (mkF m 90 #[.val (.int x0), .val (.int x1), .val (.int x2), .val (.long x3), .second, .val (.long x4), .second, .val (.int (x0 &&& (7 : Int32))), .val (.int (0 : Int32)), .val (.int (x2 &&& (255 : Int32))), .unset, .unset] []) (fun _ _ A kq => XS.icmpNo A hx rfl (hb hby at_87) rfl (teq k4).2 kq) ?_
            refine gs (mkF m 91 #[.val (.int x0), .val (.int x1), .val (.int x2), .val (.long x3), .second, .val (.long x4), .second, .val (.int (x0 &&& (7 : Int32))), .val (.int (0 : Int32)), .val (.int (x2 &&& (255 : Int32))), .unset, .unset] [(.long x3)]) (fun _ _ A kq => XS.lloadN A hx rfl (hb hby at_90) rfl  kq) ?_
            refine ginfo fun _ _ O9 => ?_
            refine gcallS (y := (⟨"com/example/tasks_to_members/taskstomembers/core/TaskAssignorNamedPinLaw", "drawn6", "(J)Ljava/lang/String;"⟩ : MethodName)) hx (ow hw 84 rfl) (ow hw 85 rfl) (ow hw 65 rfl) (ow hw 86 rfl) (by decide) (fun hZ H hEL => Pay.of_met (W := 0) (own_drawn6 l Z a0 cx [] (x3) vm h0 O9 ) (ow hw 86 rfl) (ow hw 65 rfl) (by decide) (by decide) hZ H hEL) 94 (argsL := [(.long x3)]) (rest := []) (lenOf own_pd239 rfl) rfl rfl (Nat.le_of_eq rfl) (by rw [hml]; rfl) (hb hby at_91) rfl (by decide) (by decide) ?_
            rintro _ vm9 h9 C9 ⟨r9, t9, cs9, rfl, K9, q9_0⟩
            have z9 := C9.2.1
            have lt_r9 : h9.size > r9 := q9_0.1.lt
            have lt_t9 : h9.size > t9 := q9_0.tlt
            refine gat (mkF m 94 #[.val (.int x0), .val (.int x1), .val (.int x2), .val (.long x3), .second, .val (.long x4), .second, .val (.int (x0 &&& (7 : Int32))), .val (.int (0 : Int32)), .val (.int (x2 &&& (255 : Int32))), .unset, .unset] [(.ref r9)]) rfl ?_
            refine gs (mkF m 96 #[.val (.int x0), .val (.int x1), .val (.int x2), .val (.long x3), .second, .val (.long x4), .second, .val (.int (x0 &&& (7 : Int32))), .val (.int (0 : Int32)), .val (.int (x2 &&& (255 : Int32))), .val (.ref r9), .unset] []) (fun _ _ A kq => XS.astore A hx rfl (hb hby at_94) rfl rfl (l' := #[.val (.int x0), .val (.int x1), .val (.int x2), .val (.long x3), .second, .val (.long x4), .second, .val (.int (x0 &&& (7 : Int32))), .val (.int (0 : Int32)), .val (.int (x2 &&& (255 : Int32))), .val (.ref r9), .unset]) rfl kq) ?_
            refine gs (mkF m 588 #[.val (.int x0), .val (.int x1), .val (.int x2), .val (.long x3), .second, .val (.long x4), .second, .val (.int (x0 &&& (7 : Int32))), .val (.int (0 : Int32)), .val (.int (x2 &&& (255 : Int32))), .val (.ref r9), .unset] []) (fun _ _ A kq => XS.goto A hx rfl (pc0 := 96) (pc' := 588) rfl (hb hby at_96) (by decide) (by decide) kq) ?_
            exact gmono (by decide) (by decide) (J8 _ _ _ ⟨r9, t9, cs9, (.unset), rfl, ((Keep.refl h0 []).trans K9 all0), C9, q9_0⟩)
          · refine gs (mkF m 99 #[.val (.int x0), .val (.int x1), .val (.int x2), .val (.long x3), .second, .val (.long x4), .second, .val (.int (x0 &&& (7 : Int32))), .val (.int (0 : Int32)), .val (.int (x2 &&& (255 : Int32))), .unset, .unset] []) (fun _ _ A kq => XS.icmpYes A hx rfl (pc0 := 87) (pc' := 99) rfl (hb hby at_87) rfl (feq k4).2 (by decide) (by decide) kq) ?_
            refine gs (mkF m 101 #[.val (.int x0), .val (.int x1), .val (.int x2), .val (.long x3), .second, .val (.long x4), .second, .val (.int (x0 &&& (7 : Int32))), .val (.int (0 : Int32)), .val (.int (x2 &&& (255 : Int32))), .unset, .unset] [(.int (x0 &&& (7 : Int32)))]) (fun _ _ A kq => XS.iload A hx rfl (hb hby at_99) rfl  kq) ?_
            refine gs (mkF m 102 #[.val (.int x0), .val (.int x1), .val (.int x2), .val (.long x3), .second, .val (.long x4), .second, .val (.int (x0 &&& (7 : Int32))), .val (.int (0 : Int32)), .val (.int (x2 &&& (255 : Int32))), .unset, .unset] [(.int (5 : Int32)), (.int (x0 &&& (7 : Int32)))]) (fun _ _ A kq => XS.iconst A hx rfl (hb hby at_101) kq) ?_
            by_cases k5 : (x0 &&& (7 : Int32)) = (5 : Int32)
            · refine gs (mkF m 105 #[.val (.int x0), .val (.int x1), .val (.int x2), .val (.long x3), .second, .val (.long x4), .second, .val (.int (x0 &&& (7 : Int32))), .val (.int (0 : Int32)), .val (.int (x2 &&& (255 : Int32))), .unset, .unset] []) (fun _ _ A kq => XS.icmpNo A hx rfl (hb hby at_102) rfl (teq k5).2 kq) ?_
              refine gs (mkF m 107 #[.val (.int x0), .val (.int x1), .val (.int x2), .val (.long x3), .second, .val (.long x4), .second, .val (.int (x0 &&& (7 : Int32))), .val (.int (0 : Int32)), .val (.int (x2 &&& (255 : Int32))), .unset, .unset] [(.long x4)]) (fun _ _ A kq => XS.lload A hx rfl (hb hby at_105) rfl  kq) ?_
              refine ginfo fun _ _ O10 => ?_
              refine gcallS (y := (⟨"com/example/tasks_to_members/taskstomembers/core/TaskAssignorNamedPinLaw", "drawnShort", "(J)Ljava/lang/String;"⟩ : MethodName)) hx (ow hw 78 rfl) (ow hw 79 rfl) (ow hw 65 rfl) (ow hw 80 rfl) (by decide) (fun hZ H hEL => Pay.of_met (W := 0) (own_drawnS l Z a0 cx [] (x4) vm h0 O10 ) (ow hw 80 rfl) (ow hw 65 rfl) (by decide) (by decide) hZ H hEL) 110 (argsL := [(.long x4)]) (rest := []) (lenOf own_pd239 rfl) rfl rfl (Nat.le_of_eq rfl) (by rw [hml]; rfl) (hb hby at_107) rfl (by decide) (by decide) ?_
              rintro _ vm10 h10 C10 ⟨r10, t10, cs10, rfl, K10, q10_0⟩
              have z10 := C10.2.1
              have lt_r10 : h10.size > r10 := q10_0.1.lt
              have lt_t10 : h10.size > t10 := q10_0.tlt
              refine gat (mkF m 110 #[.val (.int x0), .val (.int x1), .val (.int x2), .val (.long x3), .second, .val (.long x4), .second, .val (.int (x0 &&& (7 : Int32))), .val (.int (0 : Int32)), .val (.int (x2 &&& (255 : Int32))), .unset, .unset] [(.ref r10)]) rfl ?_
              refine gs (mkF m 112 #[.val (.int x0), .val (.int x1), .val (.int x2), .val (.long x3), .second, .val (.long x4), .second, .val (.int (x0 &&& (7 : Int32))), .val (.int (0 : Int32)), .val (.int (x2 &&& (255 : Int32))), .val (.ref r10), .unset] []) (fun _ _ A kq => XS.astore A hx rfl (hb hby at_110) rfl rfl (l' := #[.val (.int x0), .val (.int x1), .val (.int x2), .val (.long x3), .second, .val (.long x4), .second, .val (.int (x0 &&& (7 : Int32))), .val (.int (0 : Int32)), .val (.int (x2 &&& (255 : Int32))), .val (.ref r10), .unset]) rfl kq) ?_
              refine gs (mkF m 588 #[.val (.int x0), .val (.int x1), .val (.int x2), .val (.long x3), .second, .val (.long x4), .second, .val (.int (x0 &&& (7 : Int32))), .val (.int (0 : Int32)), .val (.int (x2 &&& (255 : Int32))), .val (.ref r10), .unset] []) (fun _ _ A kq => XS.goto A hx rfl (pc0 := 112) (pc' := 588) rfl (hb hby at_112) (by decide) (by decide) kq) ?_
              exact gmono (by decide) (by decide) (J8 _ _ _ ⟨r10, t10, cs10, (.unset), rfl, ((Keep.refl h0 []).trans K10 all0), C10, q10_0⟩)
            · refine gs (mkF m 115 #[.val (.int x0), .val (.int x1), .val (.int x2), .val (.long x3), .second, .val (.long x4), .second, .val (.int (x0 &&& (7 : Int32))), .val (.int (0 : Int32)), .val (.int (x2 &&& (255 : Int32))), .unset, .unset] []) (fun _ _ A kq => XS.icmpYes A hx rfl (pc0 := 102) (pc' := 115) rfl (hb hby at_102) rfl (feq k5).2 (by decide) (by decide) kq) ?_
              refine gs (mkF m 117 #[.val (.int x0), .val (.int x1), .val (.int x2), .val (.long x3), .second, .val (.long x4), .second, .val (.int (x0 &&& (7 : Int32))), .val (.int (0 : Int32)), .val (.int (x2 &&& (255 : Int32))), .unset, .unset] [(.int (x0 &&& (7 : Int32)))]) (fun _ _ A kq => XS.iload A hx rfl (hb hby at_115) rfl  kq) ?_
              by_cases k0 : (x0 &&& (7 : Int32)) = (0 : Int32)
              · refine gs (mkF m 126 #[.val (.int x0), .val (.int x1), .val (.int x2), .val (.long x3), .second, .val (.long x4), .second, .val (.int (x0 &&& (7 : Int32))), .val (.int (0 : Int32)), .val (.int (x2 &&& (255 : Int32))), .unset, .unset] []) (fun _ _ A kq => XS.ifYes A hx rfl (pc0 := 117) (pc' := 126) rfl (hb hby at_117) rfl ((if0 _ _).trans (teq k0).1) (by decide) (by decide) kq) ?_
                refine gs (mkF m 128 #[.val (.int x0), .val (.int x1), .val (.int x2), .val (.long x3), .second, .val (.long x4), .second, .val (.int (x0 &&& (7 : Int32))), .val (.int (0 : Int32)), .val (.int (x2 &&& (255 : Int32))), .unset, .unset] [(.int (0 : Int32))]) (fun _ _ A kq => XS.iload A hx rfl (hb hby at_126) rfl  kq) ?_
                refine gs (mkF m 230 #[.val (.int x0), .val (.int x1), .val (.int x2), .val (.long x3), .second, .val (.long x4), .second, .val (.int (x0 &&& (7 : Int32))), .val (.int (0 : Int32)), .val (.int (x2 &&& (255 : Int32))), .unset, .unset] []) (fun _ _ A kq => XS.ifYes A hx rfl (pc0 := 128) (pc' := 230) rfl (hb hby at_128) rfl ((if0 _ _).trans (teq (by decide)).1) (by decide) (by decide) kq) ?_
                refine gs (mkF m 232 #[.val (.int x0), .val (.int x1), .val (.int x2), .val (.long x3), .second, .val (.long x4), .second, .val (.int (x0 &&& (7 : Int32))), .val (.int (0 : Int32)), .val (.int (x2 &&& (255 : Int32))), .unset, .unset] [(.int (6 : Int32))]) (fun _ _ A kq => XS.bipush A hx rfl (hb hby at_230) kq) ?_
                refine gnewP hx (ow hw 0 rfl) (n := (6 : Int32)) (by decide) (cap := 6) (by decide) (by decide) 234 (hb hby at_232) rfl (by decide) (by decide) ?_
                intro b11 h11 k11 g11 E11 C11 V11 n11 L11
                have z11 := C11.2.1
                have V11 : Arv Z h11 b11 k11 .char (6 : Int32) [(.int (0 : Int32)), (.int (0 : Int32)), (.int (0 : Int32)), (.int (0 : Int32)), (.int (0 : Int32)), (.int (0 : Int32))] (.int (0 : Int32)) := V11.pad (pad_rep [] (.int (0 : Int32)) 6)
                have lt_b11 : h11.size > b11 := V11.lt
                refine gs (mkF m 235 #[.val (.int x0), .val (.int x1), .val (.int x2), .val (.long x3), .second, .val (.long x4), .second, .val (.int (x0 &&& (7 : Int32))), .val (.int (0 : Int32)), .val (.int (x2 &&& (255 : Int32))), .unset, .unset] [(.ref b11), (.ref b11)]) (fun _ _ A kq => XS.dup A hx rfl (hb hby at_234) rfl rfl kq) ?_
                refine gs (mkF m 236 #[.val (.int x0), .val (.int x1), .val (.int x2), .val (.long x3), .second, .val (.long x4), .second, .val (.int (x0 &&& (7 : Int32))), .val (.int (0 : Int32)), .val (.int (x2 &&& (255 : Int32))), .unset, .unset] [(.int (0 : Int32)), (.ref b11), (.ref b11)]) (fun _ _ A kq => XS.iconst A hx rfl (hb hby at_235) kq) ?_
                refine gs (mkF m 238 #[.val (.int x0), .val (.int x1), .val (.int x2), .val (.long x3), .second, .val (.long x4), .second, .val (.int (x0 &&& (7 : Int32))), .val (.int (0 : Int32)), .val (.int (x2 &&& (255 : Int32))), .unset, .unset] [(.int (115 : Int32)), (.int (0 : Int32)), (.ref b11), (.ref b11)]) (fun _ _ A kq => XS.bipush A hx rfl (hb hby at_236) kq) ?_
                refine gstC hx V11 ⟨by decide, by decide⟩ (i := 0) rfl (Nat.le_of_ble_eq_true rfl) (y := (115 : Int32)) (by decide) n11 239 (hb hby at_238) rfl ?_
                intro h12 W12 C12 V12
                have z12 := C12.2.1
                replace V12 : Arv Z h12 b11 k11 .char (6 : Int32) [(.int (115 : Int32)), (.int (0 : Int32)), (.int (0 : Int32)), (.int (0 : Int32)), (.int (0 : Int32)), (.int (0 : Int32))] (.int (0 : Int32)) := V12
                refine gs (mkF m 240 #[.val (.int x0), .val (.int x1), .val (.int x2), .val (.long x3), .second, .val (.long x4), .second, .val (.int (x0 &&& (7 : Int32))), .val (.int (0 : Int32)), .val (.int (x2 &&& (255 : Int32))), .unset, .unset] [(.ref b11), (.ref b11)]) (fun _ _ A kq => XS.dup A hx rfl (hb hby at_239) rfl rfl kq) ?_
                refine gs (mkF m 241 #[.val (.int x0), .val (.int x1), .val (.int x2), .val (.long x3), .second, .val (.long x4), .second, .val (.int (x0 &&& (7 : Int32))), .val (.int (0 : Int32)), .val (.int (x2 &&& (255 : Int32))), .unset, .unset] [(.int (1 : Int32)), (.ref b11), (.ref b11)]) (fun _ _ A kq => XS.iconst A hx rfl (hb hby at_240) kq) ?_
                refine gs (mkF m 243 #[.val (.int x0), .val (.int x1), .val (.int x2), .val (.long x3), .second, .val (.long x4), .second, .val (.int (x0 &&& (7 : Int32))), .val (.int (0 : Int32)), .val (.int (x2 &&& (255 : Int32))), .unset, .unset] [(.int (116 : Int32)), (.int (1 : Int32)), (.ref b11), (.ref b11)]) (fun _ _ A kq => XS.bipush A hx rfl (hb hby at_241) kq) ?_
                refine gstC hx V12 ⟨by decide, by decide⟩ (i := 1) rfl (Nat.le_of_ble_eq_true rfl) (y := (116 : Int32)) (by decide) n11 244 (hb hby at_243) rfl ?_
                intro h13 W13 C13 V13
                have z13 := C13.2.1
                replace V13 : Arv Z h13 b11 k11 .char (6 : Int32) [(.int (115 : Int32)), (.int (116 : Int32)), (.int (0 : Int32)), (.int (0 : Int32)), (.int (0 : Int32)), (.int (0 : Int32))] (.int (0 : Int32)) := V13
                refine gs (mkF m 245 #[.val (.int x0), .val (.int x1), .val (.int x2), .val (.long x3), .second, .val (.long x4), .second, .val (.int (x0 &&& (7 : Int32))), .val (.int (0 : Int32)), .val (.int (x2 &&& (255 : Int32))), .unset, .unset] [(.ref b11), (.ref b11)]) (fun _ _ A kq => XS.dup A hx rfl (hb hby at_244) rfl rfl kq) ?_
                refine gs (mkF m 246 #[.val (.int x0), .val (.int x1), .val (.int x2), .val (.long x3), .second, .val (.long x4), .second, .val (.int (x0 &&& (7 : Int32))), .val (.int (0 : Int32)), .val (.int (x2 &&& (255 : Int32))), .unset, .unset] [(.int (2 : Int32)), (.ref b11), (.ref b11)]) (fun _ _ A kq => XS.iconst A hx rfl (hb hby at_245) kq) ?_
                refine gs (mkF m 248 #[.val (.int x0), .val (.int x1), .val (.int x2), .val (.long x3), .second, .val (.long x4), .second, .val (.int (x0 &&& (7 : Int32))), .val (.int (0 : Int32)), .val (.int (x2 &&& (255 : Int32))), .unset, .unset] [(.int (105 : Int32)), (.int (2 : Int32)), (.ref b11), (.ref b11)]) (fun _ _ A kq => XS.bipush A hx rfl (hb hby at_246) kq) ?_
                refine gstC hx V13 ⟨by decide, by decide⟩ (i := 2) rfl (Nat.le_of_ble_eq_true rfl) (y := (105 : Int32)) (by decide) n11 249 (hb hby at_248) rfl ?_
                intro h14 W14 C14 V14
                have z14 := C14.2.1
                replace V14 : Arv Z h14 b11 k11 .char (6 : Int32) [(.int (115 : Int32)), (.int (116 : Int32)), (.int (105 : Int32)), (.int (0 : Int32)), (.int (0 : Int32)), (.int (0 : Int32))] (.int (0 : Int32)) := V14
                refine gs (mkF m 250 #[.val (.int x0), .val (.int x1), .val (.int x2), .val (.long x3), .second, .val (.long x4), .second, .val (.int (x0 &&& (7 : Int32))), .val (.int (0 : Int32)), .val (.int (x2 &&& (255 : Int32))), .unset, .unset] [(.ref b11), (.ref b11)]) (fun _ _ A kq => XS.dup A hx rfl (hb hby at_249) rfl rfl kq) ?_
                refine gs (mkF m 251 #[.val (.int x0), .val (.int x1), .val (.int x2), .val (.long x3), .second, .val (.long x4), .second, .val (.int (x0 &&& (7 : Int32))), .val (.int (0 : Int32)), .val (.int (x2 &&& (255 : Int32))), .unset, .unset] [(.int (3 : Int32)), (.ref b11), (.ref b11)]) (fun _ _ A kq => XS.iconst A hx rfl (hb hby at_250) kq) ?_
                refine gs (mkF m 253 #[.val (.int x0), .val (.int x1), .val (.int x2), .val (.long x3), .second, .val (.long x4), .second, .val (.int (x0 &&& (7 : Int32))), .val (.int (0 : Int32)), .val (.int (x2 &&& (255 : Int32))), .unset, .unset] [(.int (99 : Int32)), (.int (3 : Int32)), (.ref b11), (.ref b11)]) (fun _ _ A kq => XS.bipush A hx rfl (hb hby at_251) kq) ?_
                refine gstC hx V14 ⟨by decide, by decide⟩ (i := 3) rfl (Nat.le_of_ble_eq_true rfl) (y := (99 : Int32)) (by decide) n11 254 (hb hby at_253) rfl ?_
                intro h15 W15 C15 V15
                have z15 := C15.2.1
                replace V15 : Arv Z h15 b11 k11 .char (6 : Int32) [(.int (115 : Int32)), (.int (116 : Int32)), (.int (105 : Int32)), (.int (99 : Int32)), (.int (0 : Int32)), (.int (0 : Int32))] (.int (0 : Int32)) := V15
                refine gs (mkF m 255 #[.val (.int x0), .val (.int x1), .val (.int x2), .val (.long x3), .second, .val (.long x4), .second, .val (.int (x0 &&& (7 : Int32))), .val (.int (0 : Int32)), .val (.int (x2 &&& (255 : Int32))), .unset, .unset] [(.ref b11), (.ref b11)]) (fun _ _ A kq => XS.dup A hx rfl (hb hby at_254) rfl rfl kq) ?_
                refine gs (mkF m 256 #[.val (.int x0), .val (.int x1), .val (.int x2), .val (.long x3), .second, .val (.long x4), .second, .val (.int (x0 &&& (7 : Int32))), .val (.int (0 : Int32)), .val (.int (x2 &&& (255 : Int32))), .unset, .unset] [(.int (4 : Int32)), (.ref b11), (.ref b11)]) (fun _ _ A kq => XS.iconst A hx rfl (hb hby at_255) kq) ?_
                refine gs (mkF m 258 #[.val (.int x0), .val (.int x1), .val (.int x2), .val (.long x3), .second, .val (.long x4), .second, .val (.int (x0 &&& (7 : Int32))), .val (.int (0 : Int32)), .val (.int (x2 &&& (255 : Int32))), .unset, .unset] [(.int (107 : Int32)), (.int (4 : Int32)), (.ref b11), (.ref b11)]) (fun _ _ A kq => XS.bipush A hx rfl (hb hby at_256) kq) ?_
                refine gstC hx V15 ⟨by decide, by decide⟩ (i := 4) rfl (Nat.le_of_ble_eq_true rfl) (y := (107 : Int32)) (by decide) n11 259 (hb hby at_258) rfl ?_
                intro h16 W16 C16 V16
                have z16 := C16.2.1
                replace V16 : Arv Z h16 b11 k11 .char (6 : Int32) [(.int (115 : Int32)), (.int (116 : Int32)), (.int (105 : Int32)), (.int (99 : Int32)), (.int (107 : Int32)), (.int (0 : Int32))] (.int (0 : Int32)) := V16
                refine gs (mkF m 260 #[.val (.int x0), .val (.int x1), .val (.int x2), .val (.long x3), .second, .val (.long x4), .second, .val (.int (x0 &&& (7 : Int32))), .val (.int (0 : Int32)), .val (.int (x2 &&& (255 : Int32))), .unset, .unset] [(.ref b11), (.ref b11)]) (fun _ _ A kq => XS.dup A hx rfl (hb hby at_259) rfl rfl kq) ?_
                refine gs (mkF m 261 #[.val (.int x0), .val (.int x1), .val (.int x2), .val (.long x3), .second, .val (.long x4), .second, .val (.int (x0 &&& (7 : Int32))), .val (.int (0 : Int32)), .val (.int (x2 &&& (255 : Int32))), .unset, .unset] [(.int (5 : Int32)), (.ref b11), (.ref b11)]) (fun _ _ A kq => XS.iconst A hx rfl (hb hby at_260) kq) ?_
                refine gs (mkF m 263 #[.val (.int x0), .val (.int x1), .val (.int x2), .val (.long x3), .second, .val (.long x4), .second, .val (.int (x0 &&& (7 : Int32))), .val (.int (0 : Int32)), .val (.int (x2 &&& (255 : Int32))), .unset, .unset] [(.int (121 : Int32)), (.int (5 : Int32)), (.ref b11), (.ref b11)]) (fun _ _ A kq => XS.bipush A hx rfl (hb hby at_261) kq) ?_
                refine gstC hx V16 ⟨by decide, by decide⟩ (i := 5) rfl (Nat.le_of_ble_eq_true rfl) (y := (121 : Int32)) (by decide) n11 264 (hb hby at_263) rfl ?_
                intro h17 W17 C17 V17
                have z17 := C17.2.1
                replace V17 : Arv Z h17 b11 k11 .char (6 : Int32) [(.int (115 : Int32)), (.int (116 : Int32)), (.int (105 : Int32)), (.int (99 : Int32)), (.int (107 : Int32)), (.int (121 : Int32))] (.int (0 : Int32)) := V17
                refine gs (mkF m 266 #[.val (.int x0), .val (.int x1), .val (.int x2), .val (.long x3), .second, .val (.long x4), .second, .val (.int (x0 &&& (7 : Int32))), .val (.int (0 : Int32)), .val (.int (x2 &&& (255 : Int32))), .unset, .val (.ref b11)] []) (fun _ _ A kq => XS.astore A hx rfl (hb hby at_264) rfl rfl (l' := #[.val (.int x0), .val (.int x1), .val (.int x2), .val (.long x3), .second, .val (.long x4), .second, .val (.int (x0 &&& (7 : Int32))), .val (.int (0 : Int32)), .val (.int (x2 &&& (255 : Int32))), .unset, .val (.ref b11)]) rfl kq) ?_
                refine gs (mkF m 558 #[.val (.int x0), .val (.int x1), .val (.int x2), .val (.long x3), .second, .val (.long x4), .second, .val (.int (x0 &&& (7 : Int32))), .val (.int (0 : Int32)), .val (.int (x2 &&& (255 : Int32))), .unset, .val (.ref b11)] []) (fun _ _ A kq => XS.goto A hx rfl (pc0 := 266) (pc' := 558) rfl (hb hby at_266) (by decide) (by decide) kq) ?_
                refine gs (mkF m 560 #[.val (.int x0), .val (.int x1), .val (.int x2), .val (.long x3), .second, .val (.long x4), .second, .val (.int (x0 &&& (7 : Int32))), .val (.int (0 : Int32)), .val (.int (x2 &&& (255 : Int32))), .unset, .val (.ref b11)] [(.int (x0 &&& (7 : Int32)))]) (fun _ _ A kq => XS.iload A hx rfl (hb hby at_558) rfl  kq) ?_
                refine gs (mkF m 561 #[.val (.int x0), .val (.int x1), .val (.int x2), .val (.long x3), .second, .val (.long x4), .second, .val (.int (x0 &&& (7 : Int32))), .val (.int (0 : Int32)), .val (.int (x2 &&& (255 : Int32))), .unset, .val (.ref b11)] [(.int (1 : Int32)), (.int (x0 &&& (7 : Int32)))]) (fun _ _ A kq => XS.iconst A hx rfl (hb hby at_560) kq) ?_
                refine gs (mkF m 577 #[.val (.int x0), .val (.int x1), .val (.int x2), .val (.long x3), .second, .val (.long x4), .second, .val (.int (x0 &&& (7 : Int32))), .val (.int (0 : Int32)), .val (.int (x2 &&& (255 : Int32))), .unset, .val (.ref b11)] []) (fun _ _ A kq => XS.icmpYes A hx rfl (pc0 := 561) (pc' := 577) rfl (hb hby at_561) rfl (feq (fun q => absurd (k0.symm.trans q) (by decide))).2 (by decide) (by decide) kq) ?_
                refine gnewO hx (ow hw 1 rfl) (ow hw 2 rfl) (ow hw 3 rfl) 580 (hb hby at_577) rfl (by decide) (by decide) ?_
                intro b18 h18 g18 E18 C18 A18 D18 n18 L18
                have z18 := C18.2.1
                have lt_b18 : h18.size > b18 := A18.lt
                have F18_coder : Fld Z h18 b18 "java/lang/String" "coder" "B" (.int (0 : Int32)) := D18 (Or.inr (ow hw 27 rfl)) (ty := .byte) (by decide)
                have F18_value : Fld Z h18 b18 "java/lang/String" "value" "[B" .null := D18 (Or.inr (ow hw 29 rfl)) (ty := (.array .byte)) (by decide)
                refine gs (mkF m 581 #[.val (.int x0), .val (.int x1), .val (.int x2), .val (.long x3), .second, .val (.long x4), .second, .val (.int (x0 &&& (7 : Int32))), .val (.int (0 : Int32)), .val (.int (x2 &&& (255 : Int32))), .unset, .val (.ref b11)] [(.ref b18), (.ref b18)]) (fun _ _ A kq => XS.dup A hx rfl (hb hby at_580) rfl rfl kq) ?_
                refine gs (mkF m 583 #[.val (.int x0), .val (.int x1), .val (.int x2), .val (.long x3), .second, .val (.long x4), .second, .val (.int (x0 &&& (7 : Int32))), .val (.int (0 : Int32)), .val (.int (x2 &&& (255 : Int32))), .unset, .val (.ref b11)] [(.ref b11), (.ref b18), (.ref b18)]) (fun _ _ A kq => XS.aload A hx rfl (hb hby at_581) rfl rfl kq) ?_
                have f20 := (V17.ext E18)
                refine ginfo fun _ _ O19 => ?_
                refine gcallI (y := (⟨"java/lang/String", "<init>", "([C)V"⟩ : MethodName)) hx rfl (ow hw 4 rfl) (ow hw 5 rfl) (ow hw 6 rfl) (by decide) (fun hZ H hEL => own_payNew (W := 1) (own_wNew hw) (ow hw 2 rfl) Scs hzc O19 (cs := [(115 : Int32), (116 : Int32), (105 : Int32), (99 : Int32), (107 : Int32), (121 : Int32)]) (n := 6) n18 A18 F18_value F18_coder f20 rfl rfl (by decide) (by decide) (bcons ⟨by decide, by decide⟩ (bcons ⟨by decide, by decide⟩ (bcons ⟨by decide, by decide⟩ (bcons ⟨by decide, by decide⟩ (bcons ⟨by decide, by decide⟩ (bcons ⟨by decide, by decide⟩ bnil)))))) L18 (by decide) (by decide) hZ H hEL) (a := b18) 586 (argsL := [(.ref b11)]) (rest := [(.ref b18)]) (lenOf own_pd150 rfl) rfl rfl (Nat.le_of_eq rfl) (by rw [hml]; rfl) (hb hby at_583) rfl (by decide) (by decide) ?_
                rintro _ vm19 h19 C19 ⟨t19, rfl, K19, g19, S19⟩
                have z19 := C19.2.1
                have lt_t19 : h19.size > t19 := S19.tlt
                refine gat (mkF m 586 #[.val (.int x0), .val (.int x1), .val (.int x2), .val (.long x3), .second, .val (.long x4), .second, .val (.int (x0 &&& (7 : Int32))), .val (.int (0 : Int32)), .val (.int (x2 &&& (255 : Int32))), .unset, .val (.ref b11)] [(.ref b18)]) rfl ?_
                refine gs (mkF m 588 #[.val (.int x0), .val (.int x1), .val (.int x2), .val (.long x3), .second, .val (.long x4), .second, .val (.int (x0 &&& (7 : Int32))), .val (.int (0 : Int32)), .val (.int (x2 &&& (255 : Int32))), .val (.ref b18), .val (.ref b11)] []) (fun _ _ A kq => XS.astore A hx rfl (hb hby at_586) rfl rfl (l' := #[.val (.int x0), .val (.int x1), .val (.int x2), .val (.long x3), .second, .val (.long x4), .second, .val (.int (x0 &&& (7 : Int32))), .val (.int (0 : Int32)), .val (.int (x2 &&& (255 : Int32))), .val (.ref b18), .val (.ref b11)]) rfl kq) ?_
                exact gmono (by decide) (by decide) (J8 _ _ _ ⟨b18, t19, [(115 : Int32), (116 : Int32), (105 : Int32), (99 : Int32), (107 : Int32), (121 : Int32)], (.val (.ref b11)), rfl, ((((((((((Keep.refl h0 []).ext E11).wr W12 (Or.inr (by omega))).wr W13 (Or.inr (by omega))).wr W14 (Or.inr (by omega))).wr W15 (Or.inr (by omega))).wr W16 (Or.inr (by omega))).wr W17 (Or.inr (by omega))).ext E18).trans K19 (allS (Or.inr (by omega)) all0)), ((((((((C11.trans C12).trans C13).trans C14).trans C15).trans C16).trans C17).trans C18).trans C19), S19⟩)
              · refine gs (mkF m 120 #[.val (.int x0), .val (.int x1), .val (.int x2), .val (.long x3), .second, .val (.long x4), .second, .val (.int (x0 &&& (7 : Int32))), .val (.int (0 : Int32)), .val (.int (x2 &&& (255 : Int32))), .unset, .unset] []) (fun _ _ A kq => XS.ifNo A hx rfl (hb hby at_117) rfl ((if0 _ _).trans (feq k0).1) kq) ?_
                refine gs (mkF m 122 #[.val (.int x0), .val (.int x1), .val (.int x2), .val (.long x3), .second, .val (.long x4), .second, .val (.int (x0 &&& (7 : Int32))), .val (.int (0 : Int32)), .val (.int (x2 &&& (255 : Int32))), .unset, .unset] [(.int (x0 &&& (7 : Int32)))]) (fun _ _ A kq => XS.iload A hx rfl (hb hby at_120) rfl  kq) ?_
                refine gs (mkF m 123 #[.val (.int x0), .val (.int x1), .val (.int x2), .val (.long x3), .second, .val (.long x4), .second, .val (.int (x0 &&& (7 : Int32))), .val (.int (0 : Int32)), .val (.int (x2 &&& (255 : Int32))), .unset, .unset] [(.int (1 : Int32)), (.int (x0 &&& (7 : Int32)))]) (fun _ _ A kq => XS.iconst A hx rfl (hb hby at_122) kq) ?_
                by_cases k1 : (x0 &&& (7 : Int32)) = (1 : Int32)
                · refine gs (mkF m 126 #[.val (.int x0), .val (.int x1), .val (.int x2), .val (.long x3), .second, .val (.long x4), .second, .val (.int (x0 &&& (7 : Int32))), .val (.int (0 : Int32)), .val (.int (x2 &&& (255 : Int32))), .unset, .unset] []) (fun _ _ A kq => XS.icmpNo A hx rfl (hb hby at_123) rfl (teq k1).2 kq) ?_
                  refine gs (mkF m 128 #[.val (.int x0), .val (.int x1), .val (.int x2), .val (.long x3), .second, .val (.long x4), .second, .val (.int (x0 &&& (7 : Int32))), .val (.int (0 : Int32)), .val (.int (x2 &&& (255 : Int32))), .unset, .unset] [(.int (0 : Int32))]) (fun _ _ A kq => XS.iload A hx rfl (hb hby at_126) rfl  kq) ?_
                  refine gs (mkF m 230 #[.val (.int x0), .val (.int x1), .val (.int x2), .val (.long x3), .second, .val (.long x4), .second, .val (.int (x0 &&& (7 : Int32))), .val (.int (0 : Int32)), .val (.int (x2 &&& (255 : Int32))), .unset, .unset] []) (fun _ _ A kq => XS.ifYes A hx rfl (pc0 := 128) (pc' := 230) rfl (hb hby at_128) rfl ((if0 _ _).trans (teq (by decide)).1) (by decide) (by decide) kq) ?_
                  refine gs (mkF m 232 #[.val (.int x0), .val (.int x1), .val (.int x2), .val (.long x3), .second, .val (.long x4), .second, .val (.int (x0 &&& (7 : Int32))), .val (.int (0 : Int32)), .val (.int (x2 &&& (255 : Int32))), .unset, .unset] [(.int (6 : Int32))]) (fun _ _ A kq => XS.bipush A hx rfl (hb hby at_230) kq) ?_
                  refine gnewP hx (ow hw 0 rfl) (n := (6 : Int32)) (by decide) (cap := 6) (by decide) (by decide) 234 (hb hby at_232) rfl (by decide) (by decide) ?_
                  intro b21 h21 k21 g21 E21 C21 V21 n21 L21
                  have z21 := C21.2.1
                  have V21 : Arv Z h21 b21 k21 .char (6 : Int32) [(.int (0 : Int32)), (.int (0 : Int32)), (.int (0 : Int32)), (.int (0 : Int32)), (.int (0 : Int32)), (.int (0 : Int32))] (.int (0 : Int32)) := V21.pad (pad_rep [] (.int (0 : Int32)) 6)
                  have lt_b21 : h21.size > b21 := V21.lt
                  refine gs (mkF m 235 #[.val (.int x0), .val (.int x1), .val (.int x2), .val (.long x3), .second, .val (.long x4), .second, .val (.int (x0 &&& (7 : Int32))), .val (.int (0 : Int32)), .val (.int (x2 &&& (255 : Int32))), .unset, .unset] [(.ref b21), (.ref b21)]) (fun _ _ A kq => XS.dup A hx rfl (hb hby at_234) rfl rfl kq) ?_
                  refine gs (mkF m 236 #[.val (.int x0), .val (.int x1), .val (.int x2), .val (.long x3), .second, .val (.long x4), .second, .val (.int (x0 &&& (7 : Int32))), .val (.int (0 : Int32)), .val (.int (x2 &&& (255 : Int32))), .unset, .unset] [(.int (0 : Int32)), (.ref b21), (.ref b21)]) (fun _ _ A kq => XS.iconst A hx rfl (hb hby at_235) kq) ?_
                  refine gs (mkF m 238 #[.val (.int x0), .val (.int x1), .val (.int x2), .val (.long x3), .second, .val (.long x4), .second, .val (.int (x0 &&& (7 : Int32))), .val (.int (0 : Int32)), .val (.int (x2 &&& (255 : Int32))), .unset, .unset] [(.int (115 : Int32)), (.int (0 : Int32)), (.ref b21), (.ref b21)]) (fun _ _ A kq => XS.bipush A hx rfl (hb hby at_236) kq) ?_
                  refine gstC hx V21 ⟨by decide, by decide⟩ (i := 0) rfl (Nat.le_of_ble_eq_true rfl) (y := (115 : Int32)) (by decide) n21 239 (hb hby at_238) rfl ?_
                  intro h22 W22 C22 V22
                  have z22 := C22.2.1
                  replace V22 : Arv Z h22 b21 k21 .char (6 : Int32) [(.int (115 : Int32)), (.int (0 : Int32)), (.int (0 : Int32)), (.int (0 : Int32)), (.int (0 : Int32)), (.int (0 : Int32))] (.int (0 : Int32)) := V22
                  refine gs (mkF m 240 #[.val (.int x0), .val (.int x1), .val (.int x2), .val (.long x3), .second, .val (.long x4), .second, .val (.int (x0 &&& (7 : Int32))), .val (.int (0 : Int32)), .val (.int (x2 &&& (255 : Int32))), .unset, .unset] [(.ref b21), (.ref b21)]) (fun _ _ A kq => XS.dup A hx rfl (hb hby at_239) rfl rfl kq) ?_
                  refine gs (mkF m 241 #[.val (.int x0), .val (.int x1), .val (.int x2), .val (.long x3), .second, .val (.long x4), .second, .val (.int (x0 &&& (7 : Int32))), .val (.int (0 : Int32)), .val (.int (x2 &&& (255 : Int32))), .unset, .unset] [(.int (1 : Int32)), (.ref b21), (.ref b21)]) (fun _ _ A kq => XS.iconst A hx rfl (hb hby at_240) kq) ?_
                  refine gs (mkF m 243 #[.val (.int x0), .val (.int x1), .val (.int x2), .val (.long x3), .second, .val (.long x4), .second, .val (.int (x0 &&& (7 : Int32))), .val (.int (0 : Int32)), .val (.int (x2 &&& (255 : Int32))), .unset, .unset] [(.int (116 : Int32)), (.int (1 : Int32)), (.ref b21), (.ref b21)]) (fun _ _ A kq => XS.bipush A hx rfl (hb hby at_241) kq) ?_
                  refine gstC hx V22 ⟨by decide, by decide⟩ (i := 1) rfl (Nat.le_of_ble_eq_true rfl) (y := (116 : Int32)) (by decide) n21 244 (hb hby at_243) rfl ?_
                  intro h23 W23 C23 V23
                  have z23 := C23.2.1
                  replace V23 : Arv Z h23 b21 k21 .char (6 : Int32) [(.int (115 : Int32)), (.int (116 : Int32)), (.int (0 : Int32)), (.int (0 : Int32)), (.int (0 : Int32)), (.int (0 : Int32))] (.int (0 : Int32)) := V23
                  refine gs (mkF m 245 #[.val (.int x0), .val (.int x1), .val (.int x2), .val (.long x3), .second, .val (.long x4), .second, .val (.int (x0 &&& (7 : Int32))), .val (.int (0 : Int32)), .val (.int (x2 &&& (255 : Int32))), .unset, .unset] [(.ref b21), (.ref b21)]) (fun _ _ A kq => XS.dup A hx rfl (hb hby at_244) rfl rfl kq) ?_
                  refine gs (mkF m 246 #[.val (.int x0), .val (.int x1), .val (.int x2), .val (.long x3), .second, .val (.long x4), .second, .val (.int (x0 &&& (7 : Int32))), .val (.int (0 : Int32)), .val (.int (x2 &&& (255 : Int32))), .unset, .unset] [(.int (2 : Int32)), (.ref b21), (.ref b21)]) (fun _ _ A kq => XS.iconst A hx rfl (hb hby at_245) kq) ?_
                  refine gs (mkF m 248 #[.val (.int x0), .val (.int x1), .val (.int x2), .val (.long x3), .second, .val (.long x4), .second, .val (.int (x0 &&& (7 : Int32))), .val (.int (0 : Int32)), .val (.int (x2 &&& (255 : Int32))), .unset, .unset] [(.int (105 : Int32)), (.int (2 : Int32)), (.ref b21), (.ref b21)]) (fun _ _ A kq => XS.bipush A hx rfl (hb hby at_246) kq) ?_
                  refine gstC hx V23 ⟨by decide, by decide⟩ (i := 2) rfl (Nat.le_of_ble_eq_true rfl) (y := (105 : Int32)) (by decide) n21 249 (hb hby at_248) rfl ?_
                  intro h24 W24 C24 V24
                  have z24 := C24.2.1
                  replace V24 : Arv Z h24 b21 k21 .char (6 : Int32) [(.int (115 : Int32)), (.int (116 : Int32)), (.int (105 : Int32)), (.int (0 : Int32)), (.int (0 : Int32)), (.int (0 : Int32))] (.int (0 : Int32)) := V24
                  refine gs (mkF m 250 #[.val (.int x0), .val (.int x1), .val (.int x2), .val (.long x3), .second, .val (.long x4), .second, .val (.int (x0 &&& (7 : Int32))), .val (.int (0 : Int32)), .val (.int (x2 &&& (255 : Int32))), .unset, .unset] [(.ref b21), (.ref b21)]) (fun _ _ A kq => XS.dup A hx rfl (hb hby at_249) rfl rfl kq) ?_
                  refine gs (mkF m 251 #[.val (.int x0), .val (.int x1), .val (.int x2), .val (.long x3), .second, .val (.long x4), .second, .val (.int (x0 &&& (7 : Int32))), .val (.int (0 : Int32)), .val (.int (x2 &&& (255 : Int32))), .unset, .unset] [(.int (3 : Int32)), (.ref b21), (.ref b21)]) (fun _ _ A kq => XS.iconst A hx rfl (hb hby at_250) kq) ?_
                  refine gs (mkF m 253 #[.val (.int x0), .val (.int x1), .val (.int x2), .val (.long x3), .second, .val (.long x4), .second, .val (.int (x0 &&& (7 : Int32))), .val (.int (0 : Int32)), .val (.int (x2 &&& (255 : Int32))), .unset, .unset] [(.int (99 : Int32)), (.int (3 : Int32)), (.ref b21), (.ref b21)]) (fun _ _ A kq => XS.bipush A hx rfl (hb hby at_251) kq) ?_
                  refine gstC hx V24 ⟨by decide, by decide⟩ (i := 3) rfl (Nat.le_of_ble_eq_true rfl) (y := (99 : Int32)) (by decide) n21 254 (hb hby at_253) rfl ?_
                  intro h25 W25 C25 V25
                  have z25 := C25.2.1
                  replace V25 : Arv Z h25 b21 k21 .char (6 : Int32) [(.int (115 : Int32)), (.int (116 : Int32)), (.int (105 : Int32)), (.int (99 : Int32)), (.int (0 : Int32)), (.int (0 : Int32))] (.int (0 : Int32)) := V25
                  refine gs (mkF m 255 #[.val (.int x0), .val (.int x1), .val (.int x2), .val (.long x3), .second, .val (.long x4), .second, .val (.int (x0 &&& (7 : Int32))), .val (.int (0 : Int32)), .val (.int (x2 &&& (255 : Int32))), .unset, .unset] [(.ref b21), (.ref b21)]) (fun _ _ A kq => XS.dup A hx rfl (hb hby at_254) rfl rfl kq) ?_
                  refine gs (mkF m 256 #[.val (.int x0), .val (.int x1), .val (.int x2), .val (.long x3), .second, .val (.long x4), .second, .val (.int (x0 &&& (7 : Int32))), .val (.int (0 : Int32)), .val (.int (x2 &&& (255 : Int32))), .unset, .unset] [(.int (4 : Int32)), (.ref b21), (.ref b21)]) (fun _ _ A kq => XS.iconst A hx rfl (hb hby at_255) kq) ?_
                  refine gs (mkF m 258 #[.val (.int x0), .val (.int x1), .val (.int x2), .val (.long x3), .second, .val (.long x4), .second, .val (.int (x0 &&& (7 : Int32))), .val (.int (0 : Int32)), .val (.int (x2 &&& (255 : Int32))), .unset, .unset] [(.int (107 : Int32)), (.int (4 : Int32)), (.ref b21), (.ref b21)]) (fun _ _ A kq => XS.bipush A hx rfl (hb hby at_256) kq) ?_
                  refine gstC hx V25 ⟨by decide, by decide⟩ (i := 4) rfl (Nat.le_of_ble_eq_true rfl) (y := (107 : Int32)) (by decide) n21 259 (hb hby at_258) rfl ?_
                  intro h26 W26 C26 V26
                  have z26 := C26.2.1
                  replace V26 : Arv Z h26 b21 k21 .char (6 : Int32) [(.int (115 : Int32)), (.int (116 : Int32)), (.int (105 : Int32)), (.int (99 : Int32)), (.int (107 : Int32)), (.int (0 : Int32))] (.int (0 : Int32)) := V26
                  refine gs (mkF m 260 #[.val (.int x0), .val (.int x1), .val (.int x2), .val (.long x3), .second, .val (.long x4), .second, .val (.int (x0 &&& (7 : Int32))), .val (.int (0 : Int32)), .val (.int (x2 &&& (255 : Int32))), .unset, .unset] [(.ref b21), (.ref b21)]) (fun _ _ A kq => XS.dup A hx rfl (hb hby at_259) rfl rfl kq) ?_
                  refine gs (mkF m 261 #[.val (.int x0), .val (.int x1), .val (.int x2), .val (.long x3), .second, .val (.long x4), .second, .val (.int (x0 &&& (7 : Int32))), .val (.int (0 : Int32)), .val (.int (x2 &&& (255 : Int32))), .unset, .unset] [(.int (5 : Int32)), (.ref b21), (.ref b21)]) (fun _ _ A kq => XS.iconst A hx rfl (hb hby at_260) kq) ?_
                  refine gs (mkF m 263 #[.val (.int x0), .val (.int x1), .val (.int x2), .val (.long x3), .second, .val (.long x4), .second, .val (.int (x0 &&& (7 : Int32))), .val (.int (0 : Int32)), .val (.int (x2 &&& (255 : Int32))), .unset, .unset] [(.int (121 : Int32)), (.int (5 : Int32)), (.ref b21), (.ref b21)]) (fun _ _ A kq => XS.bipush A hx rfl (hb hby at_261) kq) ?_
                  refine gstC hx V26 ⟨by decide, by decide⟩ (i := 5) rfl (Nat.le_of_ble_eq_true rfl) (y := (121 : Int32)) (by decide) n21 264 (hb hby at_263) rfl ?_
                  intro h27 W27 C27 V27
                  have z27 := C27.2.1
                  replace V27 : Arv Z h27 b21 k21 .char (6 : Int32) [(.int (115 : Int32)), (.int (116 : Int32)), (.int (105 : Int32)), (.int (99 : Int32)), (.int (107 : Int32)), (.int (121 : Int32))] (.int (0 : Int32)) := V27
                  refine gs (mkF m 266 #[.val (.int x0), .val (.int x1), .val (.int x2), .val (.long x3), .second, .val (.long x4), .second, .val (.int (x0 &&& (7 : Int32))), .val (.int (0 : Int32)), .val (.int (x2 &&& (255 : Int32))), .unset, .val (.ref b21)] []) (fun _ _ A kq => XS.astore A hx rfl (hb hby at_264) rfl rfl (l' := #[.val (.int x0), .val (.int x1), .val (.int x2), .val (.long x3), .second, .val (.long x4), .second, .val (.int (x0 &&& (7 : Int32))), .val (.int (0 : Int32)), .val (.int (x2 &&& (255 : Int32))), .unset, .val (.ref b21)]) rfl kq) ?_
                  refine gs (mkF m 558 #[.val (.int x0), .val (.int x1), .val (.int x2), .val (.long x3), .second, .val (.long x4), .second, .val (.int (x0 &&& (7 : Int32))), .val (.int (0 : Int32)), .val (.int (x2 &&& (255 : Int32))), .unset, .val (.ref b21)] []) (fun _ _ A kq => XS.goto A hx rfl (pc0 := 266) (pc' := 558) rfl (hb hby at_266) (by decide) (by decide) kq) ?_
                  refine gs (mkF m 560 #[.val (.int x0), .val (.int x1), .val (.int x2), .val (.long x3), .second, .val (.long x4), .second, .val (.int (x0 &&& (7 : Int32))), .val (.int (0 : Int32)), .val (.int (x2 &&& (255 : Int32))), .unset, .val (.ref b21)] [(.int (x0 &&& (7 : Int32)))]) (fun _ _ A kq => XS.iload A hx rfl (hb hby at_558) rfl  kq) ?_
                  refine gs (mkF m 561 #[.val (.int x0), .val (.int x1), .val (.int x2), .val (.long x3), .second, .val (.long x4), .second, .val (.int (x0 &&& (7 : Int32))), .val (.int (0 : Int32)), .val (.int (x2 &&& (255 : Int32))), .unset, .val (.ref b21)] [(.int (1 : Int32)), (.int (x0 &&& (7 : Int32)))]) (fun _ _ A kq => XS.iconst A hx rfl (hb hby at_560) kq) ?_
                  refine gs (mkF m 564 #[.val (.int x0), .val (.int x1), .val (.int x2), .val (.long x3), .second, .val (.long x4), .second, .val (.int (x0 &&& (7 : Int32))), .val (.int (0 : Int32)), .val (.int (x2 &&& (255 : Int32))), .unset, .val (.ref b21)] []) (fun _ _ A kq => XS.icmpNo A hx rfl (hb hby at_561) rfl (teq k1).2 kq) ?_
                  refine gs (mkF m 566 #[.val (.int x0), .val (.int x1), .val (.int x2), .val (.long x3), .second, .val (.long x4), .second, .val (.int (x0 &&& (7 : Int32))), .val (.int (0 : Int32)), .val (.int (x2 &&& (255 : Int32))), .unset, .val (.ref b21)] [(.ref b21)]) (fun _ _ A kq => XS.aload A hx rfl (hb hby at_564) rfl rfl kq) ?_
                  refine gs (mkF m 567 #[.val (.int x0), .val (.int x1), .val (.int x2), .val (.long x3), .second, .val (.long x4), .second, .val (.int (x0 &&& (7 : Int32))), .val (.int (0 : Int32)), .val (.int (x2 &&& (255 : Int32))), .unset, .val (.ref b21)] [(.int x1), (.ref b21)]) (fun _ _ A kq => XS.iloadN A hx rfl (hb hby at_566) rfl  kq) ?_
                  refine gldcI hx (ow hw 87 rfl) 569 (hb hby at_567) rfl ?_
                  refine gs (mkF m 570 #[.val (.int x0), .val (.int x1), .val (.int x2), .val (.long x3), .second, .val (.long x4), .second, .val (.int (x0 &&& (7 : Int32))), .val (.int (0 : Int32)), .val (.int (x2 &&& (255 : Int32))), .unset, .val (.ref b21)] [(.int (x1 &&& (2147483647 : Int32))), (.ref b21)]) (fun _ _ A kq => XS.iand A hx rfl (hb hby at_569) rfl kq) ?_
                  refine gs (mkF m 572 #[.val (.int x0), .val (.int x1), .val (.int x2), .val (.long x3), .second, .val (.long x4), .second, .val (.int (x0 &&& (7 : Int32))), .val (.int (0 : Int32)), .val (.int (x2 &&& (255 : Int32))), .unset, .val (.ref b21)] [(.ref b21), (.int (x1 &&& (2147483647 : Int32))), (.ref b21)]) (fun _ _ A kq => XS.aload A hx rfl (hb hby at_570) rfl rfl kq) ?_
                  refine glen hx V27 573 (hb hby at_572) rfl ?_
                  refine gx (mkF m 574 #[.val (.int x0), .val (.int x1), .val (.int x2), .val (.long x3), .second, .val (.long x4), .second, .val (.int (x0 &&& (7 : Int32))), .val (.int (0 : Int32)), .val (.int (x2 &&& (255 : Int32))), .unset, .val (.ref b21)] [(.int ((x1 &&& (2147483647 : Int32)) % (6 : Int32))), (.ref b21)]) (fun T locs X _ _ _ _ kq => iremM X hx rfl (hb hby at_573) rfl (by decide) kq) ?_
                  refine gs (mkF m 576 #[.val (.int x0), .val (.int x1), .val (.int x2), .val (.long x3), .second, .val (.long x4), .second, .val (.int (x0 &&& (7 : Int32))), .val (.int (0 : Int32)), .val (.int (x2 &&& (255 : Int32))), .unset, .val (.ref b21)] [(.int (x2 &&& (255 : Int32))), (.int ((x1 &&& (2147483647 : Int32)) % (6 : Int32))), (.ref b21)]) (fun _ _ A kq => XS.iload A hx rfl (hb hby at_574) rfl  kq) ?_
                  refine gstC hx V27 (own_ix x1 (6 : Int32) 6 rfl (by decide) (by decide)).1 (i := ((x1 &&& (2147483647 : Int32)) % (6 : Int32)).toNatClampNeg) rfl (own_ix x1 (6 : Int32) 6 rfl (by decide) (by decide)).2 (y := (x2 &&& (255 : Int32))) (narC _) n21 577 (hb hby at_576) rfl ?_
                  intro h29 W29 C29 V29
                  have z29 := C29.2.1
                  refine gnewO hx (ow hw 1 rfl) (ow hw 2 rfl) (ow hw 3 rfl) 580 (hb hby at_577) rfl (by decide) (by decide) ?_
                  intro b30 h30 g30 E30 C30 A30 D30 n30 L30
                  have z30 := C30.2.1
                  have lt_b30 : h30.size > b30 := A30.lt
                  have F30_coder : Fld Z h30 b30 "java/lang/String" "coder" "B" (.int (0 : Int32)) := D30 (Or.inr (ow hw 27 rfl)) (ty := .byte) (by decide)
                  have F30_value : Fld Z h30 b30 "java/lang/String" "value" "[B" .null := D30 (Or.inr (ow hw 29 rfl)) (ty := (.array .byte)) (by decide)
                  refine gs (mkF m 581 #[.val (.int x0), .val (.int x1), .val (.int x2), .val (.long x3), .second, .val (.long x4), .second, .val (.int (x0 &&& (7 : Int32))), .val (.int (0 : Int32)), .val (.int (x2 &&& (255 : Int32))), .unset, .val (.ref b21)] [(.ref b30), (.ref b30)]) (fun _ _ A kq => XS.dup A hx rfl (hb hby at_580) rfl rfl kq) ?_
                  refine gs (mkF m 583 #[.val (.int x0), .val (.int x1), .val (.int x2), .val (.long x3), .second, .val (.long x4), .second, .val (.int (x0 &&& (7 : Int32))), .val (.int (0 : Int32)), .val (.int (x2 &&& (255 : Int32))), .unset, .val (.ref b21)] [(.ref b21), (.ref b30), (.ref b30)]) (fun _ _ A kq => XS.aload A hx rfl (hb hby at_581) rfl rfl kq) ?_
                  have f33 := (V29.ext E30)
                  have VS32 : Arv Z h30 b21 k21 .char (6 : Int32) (([(115 : Int32), (116 : Int32), (105 : Int32), (99 : Int32), (107 : Int32), (121 : Int32)].set (((x1 &&& (2147483647 : Int32)) % (6 : Int32)).toNatClampNeg) (x2 &&& (255 : Int32))).map Value.int) (.int (0 : Int32)) := by rw [List.map_set]; exact f33
                  refine ginfo fun _ _ O31 => ?_
                  refine gcallI (y := (⟨"java/lang/String", "<init>", "([C)V"⟩ : MethodName)) hx rfl (ow hw 4 rfl) (ow hw 5 rfl) (ow hw 6 rfl) (by decide) (fun hZ H hEL => own_payNew (W := 1) (own_wNew hw) (ow hw 2 rfl) Scs hzc O31 (cs := ([(115 : Int32), (116 : Int32), (105 : Int32), (99 : Int32), (107 : Int32), (121 : Int32)].set (((x1 &&& (2147483647 : Int32)) % (6 : Int32)).toNatClampNeg) (x2 &&& (255 : Int32)))) (n := 6) n30 A30 F30_value F30_coder VS32 (List.length_set ..) rfl (by decide) (by decide) (bset (bcons ⟨by decide, by decide⟩ (bcons ⟨by decide, by decide⟩ (bcons ⟨by decide, by decide⟩ (bcons ⟨by decide, by decide⟩ (bcons ⟨by decide, by decide⟩ (bcons ⟨by decide, by decide⟩ bnil)))))) (b255 _)) L30 (by decide) (by decide) hZ H hEL) (a := b30) 586 (argsL := [(.ref b21)]) (rest := [(.ref b30)]) (lenOf own_pd150 rfl) rfl rfl (Nat.le_of_eq rfl) (by rw [hml]; rfl) (hb hby at_583) rfl (by decide) (by decide) ?_
                  rintro _ vm31 h31 C31 ⟨t31, rfl, K31, g31, S31⟩
                  have z31 := C31.2.1
                  have lt_t31 : h31.size > t31 := S31.tlt
                  refine gat (mkF m 586 #[.val (.int x0), .val (.int x1), .val (.int x2), .val (.long x3), .second, .val (.long x4), .second, .val (.int (x0 &&& (7 : Int32))), .val (.int (0 : Int32)), .val (.int (x2 &&& (255 : Int32))), .unset, .val (.ref b21)] [(.ref b30)]) rfl ?_
                  refine gs (mkF m 588 #[.val (.int x0), .val (.int x1), .val (.int x2), .val (.long x3), .second, .val (.long x4), .second, .val (.int (x0 &&& (7 : Int32))), .val (.int (0 : Int32)), .val (.int (x2 &&& (255 : Int32))), .val (.ref b30), .val (.ref b21)] []) (fun _ _ A kq => XS.astore A hx rfl (hb hby at_586) rfl rfl (l' := #[.val (.int x0), .val (.int x1), .val (.int x2), .val (.long x3), .second, .val (.long x4), .second, .val (.int (x0 &&& (7 : Int32))), .val (.int (0 : Int32)), .val (.int (x2 &&& (255 : Int32))), .val (.ref b30), .val (.ref b21)]) rfl kq) ?_
                  exact gmono (by decide) (by decide) (J8 _ _ _ ⟨b30, t31, ([(115 : Int32), (116 : Int32), (105 : Int32), (99 : Int32), (107 : Int32), (121 : Int32)].set (((x1 &&& (2147483647 : Int32)) % (6 : Int32)).toNatClampNeg) (x2 &&& (255 : Int32))), (.val (.ref b21)), rfl, (((((((((((Keep.refl h0 []).ext E21).wr W22 (Or.inr (by omega))).wr W23 (Or.inr (by omega))).wr W24 (Or.inr (by omega))).wr W25 (Or.inr (by omega))).wr W26 (Or.inr (by omega))).wr W27 (Or.inr (by omega))).wr W29 (Or.inr (by omega))).ext E30).trans K31 (allS (Or.inr (by omega)) all0)), (((((((((C21.trans C22).trans C23).trans C24).trans C25).trans C26).trans C27).trans C29).trans C30).trans C31), S31⟩)
                · refine gs (mkF m 269 #[.val (.int x0), .val (.int x1), .val (.int x2), .val (.long x3), .second, .val (.long x4), .second, .val (.int (x0 &&& (7 : Int32))), .val (.int (0 : Int32)), .val (.int (x2 &&& (255 : Int32))), .unset, .unset] []) (fun _ _ A kq => XS.icmpYes A hx rfl (pc0 := 123) (pc' := 269) rfl (hb hby at_123) rfl (feq k1).2 (by decide) (by decide) kq) ?_
                  refine gs (mkF m 271 #[.val (.int x0), .val (.int x1), .val (.int x2), .val (.long x3), .second, .val (.long x4), .second, .val (.int (x0 &&& (7 : Int32))), .val (.int (0 : Int32)), .val (.int (x2 &&& (255 : Int32))), .unset, .unset] [(.int (x0 &&& (7 : Int32)))]) (fun _ _ A kq => XS.iload A hx rfl (hb hby at_269) rfl  kq) ?_
                  refine gs (mkF m 272 #[.val (.int x0), .val (.int x1), .val (.int x2), .val (.long x3), .second, .val (.long x4), .second, .val (.int (x0 &&& (7 : Int32))), .val (.int (0 : Int32)), .val (.int (x2 &&& (255 : Int32))), .unset, .unset] [(.int (2 : Int32)), (.int (x0 &&& (7 : Int32)))]) (fun _ _ A kq => XS.iconst A hx rfl (hb hby at_271) kq) ?_
                  by_cases k2 : (x0 &&& (7 : Int32)) = (2 : Int32)
                  · refine gs (mkF m 275 #[.val (.int x0), .val (.int x1), .val (.int x2), .val (.long x3), .second, .val (.long x4), .second, .val (.int (x0 &&& (7 : Int32))), .val (.int (0 : Int32)), .val (.int (x2 &&& (255 : Int32))), .unset, .unset] []) (fun _ _ A kq => XS.icmpNo A hx rfl (hb hby at_272) rfl (teq k2).2 kq) ?_
                    refine gs (mkF m 277 #[.val (.int x0), .val (.int x1), .val (.int x2), .val (.long x3), .second, .val (.long x4), .second, .val (.int (x0 &&& (7 : Int32))), .val (.int (0 : Int32)), .val (.int (x2 &&& (255 : Int32))), .unset, .unset] [(.int (0 : Int32))]) (fun _ _ A kq => XS.iload A hx rfl (hb hby at_275) rfl  kq) ?_
                    refine gs (mkF m 373 #[.val (.int x0), .val (.int x1), .val (.int x2), .val (.long x3), .second, .val (.long x4), .second, .val (.int (x0 &&& (7 : Int32))), .val (.int (0 : Int32)), .val (.int (x2 &&& (255 : Int32))), .unset, .unset] []) (fun _ _ A kq => XS.ifYes A hx rfl (pc0 := 277) (pc' := 373) rfl (hb hby at_277) rfl ((if0 _ _).trans (teq (by decide)).1) (by decide) (by decide) kq) ?_
                    refine gs (mkF m 374 #[.val (.int x0), .val (.int x1), .val (.int x2), .val (.long x3), .second, .val (.long x4), .second, .val (.int (x0 &&& (7 : Int32))), .val (.int (0 : Int32)), .val (.int (x2 &&& (255 : Int32))), .unset, .unset] [(.int (5 : Int32))]) (fun _ _ A kq => XS.iconst A hx rfl (hb hby at_373) kq) ?_
                    refine gnewP hx (ow hw 0 rfl) (n := (5 : Int32)) (by decide) (cap := 5) (by decide) (by decide) 376 (hb hby at_374) rfl (by decide) (by decide) ?_
                    intro b34 h34 k34 g34 E34 C34 V34 n34 L34
                    have z34 := C34.2.1
                    have V34 : Arv Z h34 b34 k34 .char (5 : Int32) [(.int (0 : Int32)), (.int (0 : Int32)), (.int (0 : Int32)), (.int (0 : Int32)), (.int (0 : Int32))] (.int (0 : Int32)) := V34.pad (pad_rep [] (.int (0 : Int32)) 5)
                    have lt_b34 : h34.size > b34 := V34.lt
                    refine gs (mkF m 377 #[.val (.int x0), .val (.int x1), .val (.int x2), .val (.long x3), .second, .val (.long x4), .second, .val (.int (x0 &&& (7 : Int32))), .val (.int (0 : Int32)), .val (.int (x2 &&& (255 : Int32))), .unset, .unset] [(.ref b34), (.ref b34)]) (fun _ _ A kq => XS.dup A hx rfl (hb hby at_376) rfl rfl kq) ?_
                    refine gs (mkF m 378 #[.val (.int x0), .val (.int x1), .val (.int x2), .val (.long x3), .second, .val (.long x4), .second, .val (.int (x0 &&& (7 : Int32))), .val (.int (0 : Int32)), .val (.int (x2 &&& (255 : Int32))), .unset, .unset] [(.int (0 : Int32)), (.ref b34), (.ref b34)]) (fun _ _ A kq => XS.iconst A hx rfl (hb hby at_377) kq) ?_
                    refine gs (mkF m 380 #[.val (.int x0), .val (.int x1), .val (.int x2), .val (.long x3), .second, .val (.long x4), .second, .val (.int (x0 &&& (7 : Int32))), .val (.int (0 : Int32)), .val (.int (x2 &&& (255 : Int32))), .unset, .unset] [(.int (115 : Int32)), (.int (0 : Int32)), (.ref b34), (.ref b34)]) (fun _ _ A kq => XS.bipush A hx rfl (hb hby at_378) kq) ?_
                    refine gstC hx V34 ⟨by decide, by decide⟩ (i := 0) rfl (Nat.le_of_ble_eq_true rfl) (y := (115 : Int32)) (by decide) n34 381 (hb hby at_380) rfl ?_
                    intro h35 W35 C35 V35
                    have z35 := C35.2.1
                    replace V35 : Arv Z h35 b34 k34 .char (5 : Int32) [(.int (115 : Int32)), (.int (0 : Int32)), (.int (0 : Int32)), (.int (0 : Int32)), (.int (0 : Int32))] (.int (0 : Int32)) := V35
                    refine gs (mkF m 382 #[.val (.int x0), .val (.int x1), .val (.int x2), .val (.long x3), .second, .val (.long x4), .second, .val (.int (x0 &&& (7 : Int32))), .val (.int (0 : Int32)), .val (.int (x2 &&& (255 : Int32))), .unset, .unset] [(.ref b34), (.ref b34)]) (fun _ _ A kq => XS.dup A hx rfl (hb hby at_381) rfl rfl kq) ?_
                    refine gs (mkF m 383 #[.val (.int x0), .val (.int x1), .val (.int x2), .val (.long x3), .second, .val (.long x4), .second, .val (.int (x0 &&& (7 : Int32))), .val (.int (0 : Int32)), .val (.int (x2 &&& (255 : Int32))), .unset, .unset] [(.int (1 : Int32)), (.ref b34), (.ref b34)]) (fun _ _ A kq => XS.iconst A hx rfl (hb hby at_382) kq) ?_
                    refine gs (mkF m 385 #[.val (.int x0), .val (.int x1), .val (.int x2), .val (.long x3), .second, .val (.long x4), .second, .val (.int (x0 &&& (7 : Int32))), .val (.int (0 : Int32)), .val (.int (x2 &&& (255 : Int32))), .unset, .unset] [(.int (116 : Int32)), (.int (1 : Int32)), (.ref b34), (.ref b34)]) (fun _ _ A kq => XS.bipush A hx rfl (hb hby at_383) kq) ?_
                    refine gstC hx V35 ⟨by decide, by decide⟩ (i := 1) rfl (Nat.le_of_ble_eq_true rfl) (y := (116 : Int32)) (by decide) n34 386 (hb hby at_385) rfl ?_
                    intro h36 W36 C36 V36
                    have z36 := C36.2.1
                    replace V36 : Arv Z h36 b34 k34 .char (5 : Int32) [(.int (115 : Int32)), (.int (116 : Int32)), (.int (0 : Int32)), (.int (0 : Int32)), (.int (0 : Int32))] (.int (0 : Int32)) := V36
                    refine gs (mkF m 387 #[.val (.int x0), .val (.int x1), .val (.int x2), .val (.long x3), .second, .val (.long x4), .second, .val (.int (x0 &&& (7 : Int32))), .val (.int (0 : Int32)), .val (.int (x2 &&& (255 : Int32))), .unset, .unset] [(.ref b34), (.ref b34)]) (fun _ _ A kq => XS.dup A hx rfl (hb hby at_386) rfl rfl kq) ?_
                    refine gs (mkF m 388 #[.val (.int x0), .val (.int x1), .val (.int x2), .val (.long x3), .second, .val (.long x4), .second, .val (.int (x0 &&& (7 : Int32))), .val (.int (0 : Int32)), .val (.int (x2 &&& (255 : Int32))), .unset, .unset] [(.int (2 : Int32)), (.ref b34), (.ref b34)]) (fun _ _ A kq => XS.iconst A hx rfl (hb hby at_387) kq) ?_
                    refine gs (mkF m 390 #[.val (.int x0), .val (.int x1), .val (.int x2), .val (.long x3), .second, .val (.long x4), .second, .val (.int (x0 &&& (7 : Int32))), .val (.int (0 : Int32)), .val (.int (x2 &&& (255 : Int32))), .unset, .unset] [(.int (105 : Int32)), (.int (2 : Int32)), (.ref b34), (.ref b34)]) (fun _ _ A kq => XS.bipush A hx rfl (hb hby at_388) kq) ?_
                    refine gstC hx V36 ⟨by decide, by decide⟩ (i := 2) rfl (Nat.le_of_ble_eq_true rfl) (y := (105 : Int32)) (by decide) n34 391 (hb hby at_390) rfl ?_
                    intro h37 W37 C37 V37
                    have z37 := C37.2.1
                    replace V37 : Arv Z h37 b34 k34 .char (5 : Int32) [(.int (115 : Int32)), (.int (116 : Int32)), (.int (105 : Int32)), (.int (0 : Int32)), (.int (0 : Int32))] (.int (0 : Int32)) := V37
                    refine gs (mkF m 392 #[.val (.int x0), .val (.int x1), .val (.int x2), .val (.long x3), .second, .val (.long x4), .second, .val (.int (x0 &&& (7 : Int32))), .val (.int (0 : Int32)), .val (.int (x2 &&& (255 : Int32))), .unset, .unset] [(.ref b34), (.ref b34)]) (fun _ _ A kq => XS.dup A hx rfl (hb hby at_391) rfl rfl kq) ?_
                    refine gs (mkF m 393 #[.val (.int x0), .val (.int x1), .val (.int x2), .val (.long x3), .second, .val (.long x4), .second, .val (.int (x0 &&& (7 : Int32))), .val (.int (0 : Int32)), .val (.int (x2 &&& (255 : Int32))), .unset, .unset] [(.int (3 : Int32)), (.ref b34), (.ref b34)]) (fun _ _ A kq => XS.iconst A hx rfl (hb hby at_392) kq) ?_
                    refine gs (mkF m 395 #[.val (.int x0), .val (.int x1), .val (.int x2), .val (.long x3), .second, .val (.long x4), .second, .val (.int (x0 &&& (7 : Int32))), .val (.int (0 : Int32)), .val (.int (x2 &&& (255 : Int32))), .unset, .unset] [(.int (99 : Int32)), (.int (3 : Int32)), (.ref b34), (.ref b34)]) (fun _ _ A kq => XS.bipush A hx rfl (hb hby at_393) kq) ?_
                    refine gstC hx V37 ⟨by decide, by decide⟩ (i := 3) rfl (Nat.le_of_ble_eq_true rfl) (y := (99 : Int32)) (by decide) n34 396 (hb hby at_395) rfl ?_
                    intro h38 W38 C38 V38
                    have z38 := C38.2.1
                    replace V38 : Arv Z h38 b34 k34 .char (5 : Int32) [(.int (115 : Int32)), (.int (116 : Int32)), (.int (105 : Int32)), (.int (99 : Int32)), (.int (0 : Int32))] (.int (0 : Int32)) := V38
                    refine gs (mkF m 397 #[.val (.int x0), .val (.int x1), .val (.int x2), .val (.long x3), .second, .val (.long x4), .second, .val (.int (x0 &&& (7 : Int32))), .val (.int (0 : Int32)), .val (.int (x2 &&& (255 : Int32))), .unset, .unset] [(.ref b34), (.ref b34)]) (fun _ _ A kq => XS.dup A hx rfl (hb hby at_396) rfl rfl kq) ?_
                    refine gs (mkF m 398 #[.val (.int x0), .val (.int x1), .val (.int x2), .val (.long x3), .second, .val (.long x4), .second, .val (.int (x0 &&& (7 : Int32))), .val (.int (0 : Int32)), .val (.int (x2 &&& (255 : Int32))), .unset, .unset] [(.int (4 : Int32)), (.ref b34), (.ref b34)]) (fun _ _ A kq => XS.iconst A hx rfl (hb hby at_397) kq) ?_
                    refine gs (mkF m 400 #[.val (.int x0), .val (.int x1), .val (.int x2), .val (.long x3), .second, .val (.long x4), .second, .val (.int (x0 &&& (7 : Int32))), .val (.int (0 : Int32)), .val (.int (x2 &&& (255 : Int32))), .unset, .unset] [(.int (107 : Int32)), (.int (4 : Int32)), (.ref b34), (.ref b34)]) (fun _ _ A kq => XS.bipush A hx rfl (hb hby at_398) kq) ?_
                    refine gstC hx V38 ⟨by decide, by decide⟩ (i := 4) rfl (Nat.le_of_ble_eq_true rfl) (y := (107 : Int32)) (by decide) n34 401 (hb hby at_400) rfl ?_
                    intro h39 W39 C39 V39
                    have z39 := C39.2.1
                    replace V39 : Arv Z h39 b34 k34 .char (5 : Int32) [(.int (115 : Int32)), (.int (116 : Int32)), (.int (105 : Int32)), (.int (99 : Int32)), (.int (107 : Int32))] (.int (0 : Int32)) := V39
                    refine gs (mkF m 403 #[.val (.int x0), .val (.int x1), .val (.int x2), .val (.long x3), .second, .val (.long x4), .second, .val (.int (x0 &&& (7 : Int32))), .val (.int (0 : Int32)), .val (.int (x2 &&& (255 : Int32))), .unset, .val (.ref b34)] []) (fun _ _ A kq => XS.astore A hx rfl (hb hby at_401) rfl rfl (l' := #[.val (.int x0), .val (.int x1), .val (.int x2), .val (.long x3), .second, .val (.long x4), .second, .val (.int (x0 &&& (7 : Int32))), .val (.int (0 : Int32)), .val (.int (x2 &&& (255 : Int32))), .unset, .val (.ref b34)]) rfl kq) ?_
                    refine gs (mkF m 558 #[.val (.int x0), .val (.int x1), .val (.int x2), .val (.long x3), .second, .val (.long x4), .second, .val (.int (x0 &&& (7 : Int32))), .val (.int (0 : Int32)), .val (.int (x2 &&& (255 : Int32))), .unset, .val (.ref b34)] []) (fun _ _ A kq => XS.goto A hx rfl (pc0 := 403) (pc' := 558) rfl (hb hby at_403) (by decide) (by decide) kq) ?_
                    refine gs (mkF m 560 #[.val (.int x0), .val (.int x1), .val (.int x2), .val (.long x3), .second, .val (.long x4), .second, .val (.int (x0 &&& (7 : Int32))), .val (.int (0 : Int32)), .val (.int (x2 &&& (255 : Int32))), .unset, .val (.ref b34)] [(.int (x0 &&& (7 : Int32)))]) (fun _ _ A kq => XS.iload A hx rfl (hb hby at_558) rfl  kq) ?_
                    refine gs (mkF m 561 #[.val (.int x0), .val (.int x1), .val (.int x2), .val (.long x3), .second, .val (.long x4), .second, .val (.int (x0 &&& (7 : Int32))), .val (.int (0 : Int32)), .val (.int (x2 &&& (255 : Int32))), .unset, .val (.ref b34)] [(.int (1 : Int32)), (.int (x0 &&& (7 : Int32)))]) (fun _ _ A kq => XS.iconst A hx rfl (hb hby at_560) kq) ?_
                    refine gs (mkF m 577 #[.val (.int x0), .val (.int x1), .val (.int x2), .val (.long x3), .second, .val (.long x4), .second, .val (.int (x0 &&& (7 : Int32))), .val (.int (0 : Int32)), .val (.int (x2 &&& (255 : Int32))), .unset, .val (.ref b34)] []) (fun _ _ A kq => XS.icmpYes A hx rfl (pc0 := 561) (pc' := 577) rfl (hb hby at_561) rfl (feq k1).2 (by decide) (by decide) kq) ?_
                    refine gnewO hx (ow hw 1 rfl) (ow hw 2 rfl) (ow hw 3 rfl) 580 (hb hby at_577) rfl (by decide) (by decide) ?_
                    intro b40 h40 g40 E40 C40 A40 D40 n40 L40
                    have z40 := C40.2.1
                    have lt_b40 : h40.size > b40 := A40.lt
                    have F40_coder : Fld Z h40 b40 "java/lang/String" "coder" "B" (.int (0 : Int32)) := D40 (Or.inr (ow hw 27 rfl)) (ty := .byte) (by decide)
                    have F40_value : Fld Z h40 b40 "java/lang/String" "value" "[B" .null := D40 (Or.inr (ow hw 29 rfl)) (ty := (.array .byte)) (by decide)
                    refine gs (mkF m 581 #[.val (.int x0), .val (.int x1), .val (.int x2), .val (.long x3), .second, .val (.long x4), .second, .val (.int (x0 &&& (7 : Int32))), .val (.int (0 : Int32)), .val (.int (x2 &&& (255 : Int32))), .unset, .val (.ref b34)] [(.ref b40), (.ref b40)]) (fun _ _ A kq => XS.dup A hx rfl (hb hby at_580) rfl rfl kq) ?_
                    refine gs (mkF m 583 #[.val (.int x0), .val (.int x1), .val (.int x2), .val (.long x3), .second, .val (.long x4), .second, .val (.int (x0 &&& (7 : Int32))), .val (.int (0 : Int32)), .val (.int (x2 &&& (255 : Int32))), .unset, .val (.ref b34)] [(.ref b34), (.ref b40), (.ref b40)]) (fun _ _ A kq => XS.aload A hx rfl (hb hby at_581) rfl rfl kq) ?_
                    have f42 := (V39.ext E40)
                    refine ginfo fun _ _ O41 => ?_
                    refine gcallI (y := (⟨"java/lang/String", "<init>", "([C)V"⟩ : MethodName)) hx rfl (ow hw 4 rfl) (ow hw 5 rfl) (ow hw 6 rfl) (by decide) (fun hZ H hEL => own_payNew (W := 1) (own_wNew hw) (ow hw 2 rfl) Scs hzc O41 (cs := [(115 : Int32), (116 : Int32), (105 : Int32), (99 : Int32), (107 : Int32)]) (n := 5) n40 A40 F40_value F40_coder f42 rfl rfl (by decide) (by decide) (bcons ⟨by decide, by decide⟩ (bcons ⟨by decide, by decide⟩ (bcons ⟨by decide, by decide⟩ (bcons ⟨by decide, by decide⟩ (bcons ⟨by decide, by decide⟩ bnil))))) L40 (by decide) (by decide) hZ H hEL) (a := b40) 586 (argsL := [(.ref b34)]) (rest := [(.ref b40)]) (lenOf own_pd150 rfl) rfl rfl (Nat.le_of_eq rfl) (by rw [hml]; rfl) (hb hby at_583) rfl (by decide) (by decide) ?_
                    rintro _ vm41 h41 C41 ⟨t41, rfl, K41, g41, S41⟩
                    have z41 := C41.2.1
                    have lt_t41 : h41.size > t41 := S41.tlt
                    refine gat (mkF m 586 #[.val (.int x0), .val (.int x1), .val (.int x2), .val (.long x3), .second, .val (.long x4), .second, .val (.int (x0 &&& (7 : Int32))), .val (.int (0 : Int32)), .val (.int (x2 &&& (255 : Int32))), .unset, .val (.ref b34)] [(.ref b40)]) rfl ?_
                    refine gs (mkF m 588 #[.val (.int x0), .val (.int x1), .val (.int x2), .val (.long x3), .second, .val (.long x4), .second, .val (.int (x0 &&& (7 : Int32))), .val (.int (0 : Int32)), .val (.int (x2 &&& (255 : Int32))), .val (.ref b40), .val (.ref b34)] []) (fun _ _ A kq => XS.astore A hx rfl (hb hby at_586) rfl rfl (l' := #[.val (.int x0), .val (.int x1), .val (.int x2), .val (.long x3), .second, .val (.long x4), .second, .val (.int (x0 &&& (7 : Int32))), .val (.int (0 : Int32)), .val (.int (x2 &&& (255 : Int32))), .val (.ref b40), .val (.ref b34)]) rfl kq) ?_
                    exact gmono (by decide) (by decide) (J8 _ _ _ ⟨b40, t41, [(115 : Int32), (116 : Int32), (105 : Int32), (99 : Int32), (107 : Int32)], (.val (.ref b34)), rfl, (((((((((Keep.refl h0 []).ext E34).wr W35 (Or.inr (by omega))).wr W36 (Or.inr (by omega))).wr W37 (Or.inr (by omega))).wr W38 (Or.inr (by omega))).wr W39 (Or.inr (by omega))).ext E40).trans K41 (allS (Or.inr (by omega)) all0)), (((((((C34.trans C35).trans C36).trans C37).trans C38).trans C39).trans C40).trans C41), S41⟩)
                  · refine gs (mkF m 406 #[.val (.int x0), .val (.int x1), .val (.int x2), .val (.long x3), .second, .val (.long x4), .second, .val (.int (x0 &&& (7 : Int32))), .val (.int (0 : Int32)), .val (.int (x2 &&& (255 : Int32))), .unset, .unset] []) (fun _ _ A kq => XS.icmpYes A hx rfl (pc0 := 272) (pc' := 406) rfl (hb hby at_272) rfl (feq k2).2 (by decide) (by decide) kq) ?_
                    refine gs (mkF m 408 #[.val (.int x0), .val (.int x1), .val (.int x2), .val (.long x3), .second, .val (.long x4), .second, .val (.int (x0 &&& (7 : Int32))), .val (.int (0 : Int32)), .val (.int (x2 &&& (255 : Int32))), .unset, .unset] [(.int (0 : Int32))]) (fun _ _ A kq => XS.iload A hx rfl (hb hby at_406) rfl  kq) ?_
                    refine gs (mkF m 516 #[.val (.int x0), .val (.int x1), .val (.int x2), .val (.long x3), .second, .val (.long x4), .second, .val (.int (x0 &&& (7 : Int32))), .val (.int (0 : Int32)), .val (.int (x2 &&& (255 : Int32))), .unset, .unset] []) (fun _ _ A kq => XS.ifYes A hx rfl (pc0 := 408) (pc' := 516) rfl (hb hby at_408) rfl ((if0 _ _).trans (teq (by decide)).1) (by decide) (by decide) kq) ?_
                    refine gs (mkF m 518 #[.val (.int x0), .val (.int x1), .val (.int x2), .val (.long x3), .second, .val (.long x4), .second, .val (.int (x0 &&& (7 : Int32))), .val (.int (0 : Int32)), .val (.int (x2 &&& (255 : Int32))), .unset, .unset] [(.int (7 : Int32))]) (fun _ _ A kq => XS.bipush A hx rfl (hb hby at_516) kq) ?_
                    refine gnewP hx (ow hw 0 rfl) (n := (7 : Int32)) (by decide) (cap := 7) (by decide) (by decide) 520 (hb hby at_518) rfl (by decide) (by decide) ?_
                    intro b43 h43 k43 g43 E43 C43 V43 n43 L43
                    have z43 := C43.2.1
                    have V43 : Arv Z h43 b43 k43 .char (7 : Int32) [(.int (0 : Int32)), (.int (0 : Int32)), (.int (0 : Int32)), (.int (0 : Int32)), (.int (0 : Int32)), (.int (0 : Int32)), (.int (0 : Int32))] (.int (0 : Int32)) := V43.pad (pad_rep [] (.int (0 : Int32)) 7)
                    have lt_b43 : h43.size > b43 := V43.lt
                    refine gs (mkF m 521 #[.val (.int x0), .val (.int x1), .val (.int x2), .val (.long x3), .second, .val (.long x4), .second, .val (.int (x0 &&& (7 : Int32))), .val (.int (0 : Int32)), .val (.int (x2 &&& (255 : Int32))), .unset, .unset] [(.ref b43), (.ref b43)]) (fun _ _ A kq => XS.dup A hx rfl (hb hby at_520) rfl rfl kq) ?_
                    refine gs (mkF m 522 #[.val (.int x0), .val (.int x1), .val (.int x2), .val (.long x3), .second, .val (.long x4), .second, .val (.int (x0 &&& (7 : Int32))), .val (.int (0 : Int32)), .val (.int (x2 &&& (255 : Int32))), .unset, .unset] [(.int (0 : Int32)), (.ref b43), (.ref b43)]) (fun _ _ A kq => XS.iconst A hx rfl (hb hby at_521) kq) ?_
                    refine gs (mkF m 524 #[.val (.int x0), .val (.int x1), .val (.int x2), .val (.long x3), .second, .val (.long x4), .second, .val (.int (x0 &&& (7 : Int32))), .val (.int (0 : Int32)), .val (.int (x2 &&& (255 : Int32))), .unset, .unset] [(.int (115 : Int32)), (.int (0 : Int32)), (.ref b43), (.ref b43)]) (fun _ _ A kq => XS.bipush A hx rfl (hb hby at_522) kq) ?_
                    refine gstC hx V43 ⟨by decide, by decide⟩ (i := 0) rfl (Nat.le_of_ble_eq_true rfl) (y := (115 : Int32)) (by decide) n43 525 (hb hby at_524) rfl ?_
                    intro h44 W44 C44 V44
                    have z44 := C44.2.1
                    replace V44 : Arv Z h44 b43 k43 .char (7 : Int32) [(.int (115 : Int32)), (.int (0 : Int32)), (.int (0 : Int32)), (.int (0 : Int32)), (.int (0 : Int32)), (.int (0 : Int32)), (.int (0 : Int32))] (.int (0 : Int32)) := V44
                    refine gs (mkF m 526 #[.val (.int x0), .val (.int x1), .val (.int x2), .val (.long x3), .second, .val (.long x4), .second, .val (.int (x0 &&& (7 : Int32))), .val (.int (0 : Int32)), .val (.int (x2 &&& (255 : Int32))), .unset, .unset] [(.ref b43), (.ref b43)]) (fun _ _ A kq => XS.dup A hx rfl (hb hby at_525) rfl rfl kq) ?_
                    refine gs (mkF m 527 #[.val (.int x0), .val (.int x1), .val (.int x2), .val (.long x3), .second, .val (.long x4), .second, .val (.int (x0 &&& (7 : Int32))), .val (.int (0 : Int32)), .val (.int (x2 &&& (255 : Int32))), .unset, .unset] [(.int (1 : Int32)), (.ref b43), (.ref b43)]) (fun _ _ A kq => XS.iconst A hx rfl (hb hby at_526) kq) ?_
                    refine gs (mkF m 529 #[.val (.int x0), .val (.int x1), .val (.int x2), .val (.long x3), .second, .val (.long x4), .second, .val (.int (x0 &&& (7 : Int32))), .val (.int (0 : Int32)), .val (.int (x2 &&& (255 : Int32))), .unset, .unset] [(.int (116 : Int32)), (.int (1 : Int32)), (.ref b43), (.ref b43)]) (fun _ _ A kq => XS.bipush A hx rfl (hb hby at_527) kq) ?_
                    refine gstC hx V44 ⟨by decide, by decide⟩ (i := 1) rfl (Nat.le_of_ble_eq_true rfl) (y := (116 : Int32)) (by decide) n43 530 (hb hby at_529) rfl ?_
                    intro h45 W45 C45 V45
                    have z45 := C45.2.1
                    replace V45 : Arv Z h45 b43 k43 .char (7 : Int32) [(.int (115 : Int32)), (.int (116 : Int32)), (.int (0 : Int32)), (.int (0 : Int32)), (.int (0 : Int32)), (.int (0 : Int32)), (.int (0 : Int32))] (.int (0 : Int32)) := V45
                    refine gs (mkF m 531 #[.val (.int x0), .val (.int x1), .val (.int x2), .val (.long x3), .second, .val (.long x4), .second, .val (.int (x0 &&& (7 : Int32))), .val (.int (0 : Int32)), .val (.int (x2 &&& (255 : Int32))), .unset, .unset] [(.ref b43), (.ref b43)]) (fun _ _ A kq => XS.dup A hx rfl (hb hby at_530) rfl rfl kq) ?_
                    refine gs (mkF m 532 #[.val (.int x0), .val (.int x1), .val (.int x2), .val (.long x3), .second, .val (.long x4), .second, .val (.int (x0 &&& (7 : Int32))), .val (.int (0 : Int32)), .val (.int (x2 &&& (255 : Int32))), .unset, .unset] [(.int (2 : Int32)), (.ref b43), (.ref b43)]) (fun _ _ A kq => XS.iconst A hx rfl (hb hby at_531) kq) ?_
                    refine gs (mkF m 534 #[.val (.int x0), .val (.int x1), .val (.int x2), .val (.long x3), .second, .val (.long x4), .second, .val (.int (x0 &&& (7 : Int32))), .val (.int (0 : Int32)), .val (.int (x2 &&& (255 : Int32))), .unset, .unset] [(.int (105 : Int32)), (.int (2 : Int32)), (.ref b43), (.ref b43)]) (fun _ _ A kq => XS.bipush A hx rfl (hb hby at_532) kq) ?_
                    refine gstC hx V45 ⟨by decide, by decide⟩ (i := 2) rfl (Nat.le_of_ble_eq_true rfl) (y := (105 : Int32)) (by decide) n43 535 (hb hby at_534) rfl ?_
                    intro h46 W46 C46 V46
                    have z46 := C46.2.1
                    replace V46 : Arv Z h46 b43 k43 .char (7 : Int32) [(.int (115 : Int32)), (.int (116 : Int32)), (.int (105 : Int32)), (.int (0 : Int32)), (.int (0 : Int32)), (.int (0 : Int32)), (.int (0 : Int32))] (.int (0 : Int32)) := V46
                    refine gs (mkF m 536 #[.val (.int x0), .val (.int x1), .val (.int x2), .val (.long x3), .second, .val (.long x4), .second, .val (.int (x0 &&& (7 : Int32))), .val (.int (0 : Int32)), .val (.int (x2 &&& (255 : Int32))), .unset, .unset] [(.ref b43), (.ref b43)]) (fun _ _ A kq => XS.dup A hx rfl (hb hby at_535) rfl rfl kq) ?_
                    refine gs (mkF m 537 #[.val (.int x0), .val (.int x1), .val (.int x2), .val (.long x3), .second, .val (.long x4), .second, .val (.int (x0 &&& (7 : Int32))), .val (.int (0 : Int32)), .val (.int (x2 &&& (255 : Int32))), .unset, .unset] [(.int (3 : Int32)), (.ref b43), (.ref b43)]) (fun _ _ A kq => XS.iconst A hx rfl (hb hby at_536) kq) ?_
                    refine gs (mkF m 539 #[.val (.int x0), .val (.int x1), .val (.int x2), .val (.long x3), .second, .val (.long x4), .second, .val (.int (x0 &&& (7 : Int32))), .val (.int (0 : Int32)), .val (.int (x2 &&& (255 : Int32))), .unset, .unset] [(.int (99 : Int32)), (.int (3 : Int32)), (.ref b43), (.ref b43)]) (fun _ _ A kq => XS.bipush A hx rfl (hb hby at_537) kq) ?_
                    refine gstC hx V46 ⟨by decide, by decide⟩ (i := 3) rfl (Nat.le_of_ble_eq_true rfl) (y := (99 : Int32)) (by decide) n43 540 (hb hby at_539) rfl ?_
                    intro h47 W47 C47 V47
                    have z47 := C47.2.1
                    replace V47 : Arv Z h47 b43 k43 .char (7 : Int32) [(.int (115 : Int32)), (.int (116 : Int32)), (.int (105 : Int32)), (.int (99 : Int32)), (.int (0 : Int32)), (.int (0 : Int32)), (.int (0 : Int32))] (.int (0 : Int32)) := V47
                    refine gs (mkF m 541 #[.val (.int x0), .val (.int x1), .val (.int x2), .val (.long x3), .second, .val (.long x4), .second, .val (.int (x0 &&& (7 : Int32))), .val (.int (0 : Int32)), .val (.int (x2 &&& (255 : Int32))), .unset, .unset] [(.ref b43), (.ref b43)]) (fun _ _ A kq => XS.dup A hx rfl (hb hby at_540) rfl rfl kq) ?_
                    refine gs (mkF m 542 #[.val (.int x0), .val (.int x1), .val (.int x2), .val (.long x3), .second, .val (.long x4), .second, .val (.int (x0 &&& (7 : Int32))), .val (.int (0 : Int32)), .val (.int (x2 &&& (255 : Int32))), .unset, .unset] [(.int (4 : Int32)), (.ref b43), (.ref b43)]) (fun _ _ A kq => XS.iconst A hx rfl (hb hby at_541) kq) ?_
                    refine gs (mkF m 544 #[.val (.int x0), .val (.int x1), .val (.int x2), .val (.long x3), .second, .val (.long x4), .second, .val (.int (x0 &&& (7 : Int32))), .val (.int (0 : Int32)), .val (.int (x2 &&& (255 : Int32))), .unset, .unset] [(.int (107 : Int32)), (.int (4 : Int32)), (.ref b43), (.ref b43)]) (fun _ _ A kq => XS.bipush A hx rfl (hb hby at_542) kq) ?_
                    refine gstC hx V47 ⟨by decide, by decide⟩ (i := 4) rfl (Nat.le_of_ble_eq_true rfl) (y := (107 : Int32)) (by decide) n43 545 (hb hby at_544) rfl ?_
                    intro h48 W48 C48 V48
                    have z48 := C48.2.1
                    replace V48 : Arv Z h48 b43 k43 .char (7 : Int32) [(.int (115 : Int32)), (.int (116 : Int32)), (.int (105 : Int32)), (.int (99 : Int32)), (.int (107 : Int32)), (.int (0 : Int32)), (.int (0 : Int32))] (.int (0 : Int32)) := V48
                    refine gs (mkF m 546 #[.val (.int x0), .val (.int x1), .val (.int x2), .val (.long x3), .second, .val (.long x4), .second, .val (.int (x0 &&& (7 : Int32))), .val (.int (0 : Int32)), .val (.int (x2 &&& (255 : Int32))), .unset, .unset] [(.ref b43), (.ref b43)]) (fun _ _ A kq => XS.dup A hx rfl (hb hby at_545) rfl rfl kq) ?_
                    refine gs (mkF m 547 #[.val (.int x0), .val (.int x1), .val (.int x2), .val (.long x3), .second, .val (.long x4), .second, .val (.int (x0 &&& (7 : Int32))), .val (.int (0 : Int32)), .val (.int (x2 &&& (255 : Int32))), .unset, .unset] [(.int (5 : Int32)), (.ref b43), (.ref b43)]) (fun _ _ A kq => XS.iconst A hx rfl (hb hby at_546) kq) ?_
                    refine gs (mkF m 549 #[.val (.int x0), .val (.int x1), .val (.int x2), .val (.long x3), .second, .val (.long x4), .second, .val (.int (x0 &&& (7 : Int32))), .val (.int (0 : Int32)), .val (.int (x2 &&& (255 : Int32))), .unset, .unset] [(.int (121 : Int32)), (.int (5 : Int32)), (.ref b43), (.ref b43)]) (fun _ _ A kq => XS.bipush A hx rfl (hb hby at_547) kq) ?_
                    refine gstC hx V48 ⟨by decide, by decide⟩ (i := 5) rfl (Nat.le_of_ble_eq_true rfl) (y := (121 : Int32)) (by decide) n43 550 (hb hby at_549) rfl ?_
                    intro h49 W49 C49 V49
                    have z49 := C49.2.1
                    replace V49 : Arv Z h49 b43 k43 .char (7 : Int32) [(.int (115 : Int32)), (.int (116 : Int32)), (.int (105 : Int32)), (.int (99 : Int32)), (.int (107 : Int32)), (.int (121 : Int32)), (.int (0 : Int32))] (.int (0 : Int32)) := V49
                    refine gs (mkF m 551 #[.val (.int x0), .val (.int x1), .val (.int x2), .val (.long x3), .second, .val (.long x4), .second, .val (.int (x0 &&& (7 : Int32))), .val (.int (0 : Int32)), .val (.int (x2 &&& (255 : Int32))), .unset, .unset] [(.ref b43), (.ref b43)]) (fun _ _ A kq => XS.dup A hx rfl (hb hby at_550) rfl rfl kq) ?_
                    refine gs (mkF m 553 #[.val (.int x0), .val (.int x1), .val (.int x2), .val (.long x3), .second, .val (.long x4), .second, .val (.int (x0 &&& (7 : Int32))), .val (.int (0 : Int32)), .val (.int (x2 &&& (255 : Int32))), .unset, .unset] [(.int (6 : Int32)), (.ref b43), (.ref b43)]) (fun _ _ A kq => XS.bipush A hx rfl (hb hby at_551) kq) ?_
                    refine gs (mkF m 555 #[.val (.int x0), .val (.int x1), .val (.int x2), .val (.long x3), .second, .val (.long x4), .second, .val (.int (x0 &&& (7 : Int32))), .val (.int (0 : Int32)), .val (.int (x2 &&& (255 : Int32))), .unset, .unset] [(.int (x2 &&& (255 : Int32))), (.int (6 : Int32)), (.ref b43), (.ref b43)]) (fun _ _ A kq => XS.iload A hx rfl (hb hby at_553) rfl  kq) ?_
                    refine gstC hx V49 ⟨by decide, by decide⟩ (i := 6) rfl (Nat.le_of_ble_eq_true rfl) (y := (x2 &&& (255 : Int32))) (narC _) n43 556 (hb hby at_555) rfl ?_
                    intro h50 W50 C50 V50
                    have z50 := C50.2.1
                    replace V50 : Arv Z h50 b43 k43 .char (7 : Int32) [(.int (115 : Int32)), (.int (116 : Int32)), (.int (105 : Int32)), (.int (99 : Int32)), (.int (107 : Int32)), (.int (121 : Int32)), (.int (x2 &&& (255 : Int32)))] (.int (0 : Int32)) := V50
                    refine gs (mkF m 558 #[.val (.int x0), .val (.int x1), .val (.int x2), .val (.long x3), .second, .val (.long x4), .second, .val (.int (x0 &&& (7 : Int32))), .val (.int (0 : Int32)), .val (.int (x2 &&& (255 : Int32))), .unset, .val (.ref b43)] []) (fun _ _ A kq => XS.astore A hx rfl (hb hby at_556) rfl rfl (l' := #[.val (.int x0), .val (.int x1), .val (.int x2), .val (.long x3), .second, .val (.long x4), .second, .val (.int (x0 &&& (7 : Int32))), .val (.int (0 : Int32)), .val (.int (x2 &&& (255 : Int32))), .unset, .val (.ref b43)]) rfl kq) ?_
                    refine gs (mkF m 560 #[.val (.int x0), .val (.int x1), .val (.int x2), .val (.long x3), .second, .val (.long x4), .second, .val (.int (x0 &&& (7 : Int32))), .val (.int (0 : Int32)), .val (.int (x2 &&& (255 : Int32))), .unset, .val (.ref b43)] [(.int (x0 &&& (7 : Int32)))]) (fun _ _ A kq => XS.iload A hx rfl (hb hby at_558) rfl  kq) ?_
                    refine gs (mkF m 561 #[.val (.int x0), .val (.int x1), .val (.int x2), .val (.long x3), .second, .val (.long x4), .second, .val (.int (x0 &&& (7 : Int32))), .val (.int (0 : Int32)), .val (.int (x2 &&& (255 : Int32))), .unset, .val (.ref b43)] [(.int (1 : Int32)), (.int (x0 &&& (7 : Int32)))]) (fun _ _ A kq => XS.iconst A hx rfl (hb hby at_560) kq) ?_
                    refine gs (mkF m 577 #[.val (.int x0), .val (.int x1), .val (.int x2), .val (.long x3), .second, .val (.long x4), .second, .val (.int (x0 &&& (7 : Int32))), .val (.int (0 : Int32)), .val (.int (x2 &&& (255 : Int32))), .unset, .val (.ref b43)] []) (fun _ _ A kq => XS.icmpYes A hx rfl (pc0 := 561) (pc' := 577) rfl (hb hby at_561) rfl (feq k1).2 (by decide) (by decide) kq) ?_
                    refine gnewO hx (ow hw 1 rfl) (ow hw 2 rfl) (ow hw 3 rfl) 580 (hb hby at_577) rfl (by decide) (by decide) ?_
                    intro b51 h51 g51 E51 C51 A51 D51 n51 L51
                    have z51 := C51.2.1
                    have lt_b51 : h51.size > b51 := A51.lt
                    have F51_coder : Fld Z h51 b51 "java/lang/String" "coder" "B" (.int (0 : Int32)) := D51 (Or.inr (ow hw 27 rfl)) (ty := .byte) (by decide)
                    have F51_value : Fld Z h51 b51 "java/lang/String" "value" "[B" .null := D51 (Or.inr (ow hw 29 rfl)) (ty := (.array .byte)) (by decide)
                    refine gs (mkF m 581 #[.val (.int x0), .val (.int x1), .val (.int x2), .val (.long x3), .second, .val (.long x4), .second, .val (.int (x0 &&& (7 : Int32))), .val (.int (0 : Int32)), .val (.int (x2 &&& (255 : Int32))), .unset, .val (.ref b43)] [(.ref b51), (.ref b51)]) (fun _ _ A kq => XS.dup A hx rfl (hb hby at_580) rfl rfl kq) ?_
                    refine gs (mkF m 583 #[.val (.int x0), .val (.int x1), .val (.int x2), .val (.long x3), .second, .val (.long x4), .second, .val (.int (x0 &&& (7 : Int32))), .val (.int (0 : Int32)), .val (.int (x2 &&& (255 : Int32))), .unset, .val (.ref b43)] [(.ref b43), (.ref b51), (.ref b51)]) (fun _ _ A kq => XS.aload A hx rfl (hb hby at_581) rfl rfl kq) ?_
                    have f53 := (V50.ext E51)
                    refine ginfo fun _ _ O52 => ?_
                    refine gcallI (y := (⟨"java/lang/String", "<init>", "([C)V"⟩ : MethodName)) hx rfl (ow hw 4 rfl) (ow hw 5 rfl) (ow hw 6 rfl) (by decide) (fun hZ H hEL => own_payNew (W := 1) (own_wNew hw) (ow hw 2 rfl) Scs hzc O52 (cs := [(115 : Int32), (116 : Int32), (105 : Int32), (99 : Int32), (107 : Int32), (121 : Int32), (x2 &&& (255 : Int32))]) (n := 7) n51 A51 F51_value F51_coder f53 rfl rfl (by decide) (by decide) (bcons ⟨by decide, by decide⟩ (bcons ⟨by decide, by decide⟩ (bcons ⟨by decide, by decide⟩ (bcons ⟨by decide, by decide⟩ (bcons ⟨by decide, by decide⟩ (bcons ⟨by decide, by decide⟩ (bcons (b255 _) bnil))))))) L51 (by decide) (by decide) hZ H hEL) (a := b51) 586 (argsL := [(.ref b43)]) (rest := [(.ref b51)]) (lenOf own_pd150 rfl) rfl rfl (Nat.le_of_eq rfl) (by rw [hml]; rfl) (hb hby at_583) rfl (by decide) (by decide) ?_
                    rintro _ vm52 h52 C52 ⟨t52, rfl, K52, g52, S52⟩
                    have z52 := C52.2.1
                    have lt_t52 : h52.size > t52 := S52.tlt
                    refine gat (mkF m 586 #[.val (.int x0), .val (.int x1), .val (.int x2), .val (.long x3), .second, .val (.long x4), .second, .val (.int (x0 &&& (7 : Int32))), .val (.int (0 : Int32)), .val (.int (x2 &&& (255 : Int32))), .unset, .val (.ref b43)] [(.ref b51)]) rfl ?_
                    refine gs (mkF m 588 #[.val (.int x0), .val (.int x1), .val (.int x2), .val (.long x3), .second, .val (.long x4), .second, .val (.int (x0 &&& (7 : Int32))), .val (.int (0 : Int32)), .val (.int (x2 &&& (255 : Int32))), .val (.ref b51), .val (.ref b43)] []) (fun _ _ A kq => XS.astore A hx rfl (hb hby at_586) rfl rfl (l' := #[.val (.int x0), .val (.int x1), .val (.int x2), .val (.long x3), .second, .val (.long x4), .second, .val (.int (x0 &&& (7 : Int32))), .val (.int (0 : Int32)), .val (.int (x2 &&& (255 : Int32))), .val (.ref b51), .val (.ref b43)]) rfl kq) ?_
                    exact gmono (by decide) (by decide) (J8 _ _ _ ⟨b51, t52, [(115 : Int32), (116 : Int32), (105 : Int32), (99 : Int32), (107 : Int32), (121 : Int32), (x2 &&& (255 : Int32))], (.val (.ref b43)), rfl, (((((((((((Keep.refl h0 []).ext E43).wr W44 (Or.inr (by omega))).wr W45 (Or.inr (by omega))).wr W46 (Or.inr (by omega))).wr W47 (Or.inr (by omega))).wr W48 (Or.inr (by omega))).wr W49 (Or.inr (by omega))).wr W50 (Or.inr (by omega))).ext E51).trans K52 (allS (Or.inr (by omega)) all0)), (((((((((C43.trans C44).trans C45).trans C46).trans C47).trans C48).trans C49).trans C50).trans C51).trans C52), S52⟩)
  · refine gs (mkF m 14 #[.val (.int x0), .val (.int x1), .val (.int x2), .val (.long x3), .second, .val (.long x4), .second, .val (.int (x0 &&& (7 : Int32))), .unset, .unset, .unset, .unset] []) (fun _ _ A kq => XS.ifNo A hx rfl (hb hby at_11) rfl ((if0 _ _).trans (feq f1).1) kq) ?_
    refine gs (mkF m 15 #[.val (.int x0), .val (.int x1), .val (.int x2), .val (.long x3), .second, .val (.long x4), .second, .val (.int (x0 &&& (7 : Int32))), .unset, .unset, .unset, .unset] [(.int (1 : Int32))]) (fun _ _ A kq => XS.iconst A hx rfl (hb hby at_14) kq) ?_
    refine gs (mkF m 19 #[.val (.int x0), .val (.int x1), .val (.int x2), .val (.long x3), .second, .val (.long x4), .second, .val (.int (x0 &&& (7 : Int32))), .unset, .unset, .unset, .unset] [(.int (1 : Int32))]) (fun _ _ A kq => XS.goto A hx rfl (pc0 := 15) (pc' := 19) rfl (hb hby at_15) (by decide) (by decide) kq) ?_
    refine gs (mkF m 21 #[.val (.int x0), .val (.int x1), .val (.int x2), .val (.long x3), .second, .val (.long x4), .second, .val (.int (x0 &&& (7 : Int32))), .val (.int (1 : Int32)), .unset, .unset, .unset] []) (fun _ _ A kq => XS.istore A hx rfl (hb hby at_19) rfl (l' := #[.val (.int x0), .val (.int x1), .val (.int x2), .val (.long x3), .second, .val (.long x4), .second, .val (.int (x0 &&& (7 : Int32))), .val (.int (1 : Int32)), .unset, .unset, .unset]) rfl kq) ?_
    refine gs (mkF m 22 #[.val (.int x0), .val (.int x1), .val (.int x2), .val (.long x3), .second, .val (.long x4), .second, .val (.int (x0 &&& (7 : Int32))), .val (.int (1 : Int32)), .unset, .unset, .unset] [(.int x2)]) (fun _ _ A kq => XS.iloadN A hx rfl (hb hby at_21) rfl  kq) ?_
    refine gs (mkF m 25 #[.val (.int x0), .val (.int x1), .val (.int x2), .val (.long x3), .second, .val (.long x4), .second, .val (.int (x0 &&& (7 : Int32))), .val (.int (1 : Int32)), .unset, .unset, .unset] [(.int (255 : Int32)), (.int x2)]) (fun _ _ A kq => XS.sipush A hx rfl (hb hby at_22) kq) ?_
    refine gs (mkF m 26 #[.val (.int x0), .val (.int x1), .val (.int x2), .val (.long x3), .second, .val (.long x4), .second, .val (.int (x0 &&& (7 : Int32))), .val (.int (1 : Int32)), .unset, .unset, .unset] [(.int (x2 &&& (255 : Int32)))]) (fun _ _ A kq => XS.iand A hx rfl (hb hby at_25) rfl kq) ?_
    refine gi2c hx (i2c_mask _) 27 (hb hby at_26) rfl ?_
    refine gs (mkF m 29 #[.val (.int x0), .val (.int x1), .val (.int x2), .val (.long x3), .second, .val (.long x4), .second, .val (.int (x0 &&& (7 : Int32))), .val (.int (1 : Int32)), .val (.int (x2 &&& (255 : Int32))), .unset, .unset] []) (fun _ _ A kq => XS.istore A hx rfl (hb hby at_27) rfl (l' := #[.val (.int x0), .val (.int x1), .val (.int x2), .val (.long x3), .second, .val (.long x4), .second, .val (.int (x0 &&& (7 : Int32))), .val (.int (1 : Int32)), .val (.int (x2 &&& (255 : Int32))), .unset, .unset]) rfl kq) ?_
    refine gs (mkF m 31 #[.val (.int x0), .val (.int x1), .val (.int x2), .val (.long x3), .second, .val (.long x4), .second, .val (.int (x0 &&& (7 : Int32))), .val (.int (1 : Int32)), .val (.int (x2 &&& (255 : Int32))), .unset, .unset] [(.int (x0 &&& (7 : Int32)))]) (fun _ _ A kq => XS.iload A hx rfl (hb hby at_29) rfl  kq) ?_
    refine gs (mkF m 33 #[.val (.int x0), .val (.int x1), .val (.int x2), .val (.long x3), .second, .val (.long x4), .second, .val (.int (x0 &&& (7 : Int32))), .val (.int (1 : Int32)), .val (.int (x2 &&& (255 : Int32))), .unset, .unset] [(.int (7 : Int32)), (.int (x0 &&& (7 : Int32)))]) (fun _ _ A kq => XS.bipush A hx rfl (hb hby at_31) kq) ?_
    by_cases k7 : (x0 &&& (7 : Int32)) = (7 : Int32)
    · refine gs (mkF m 36 #[.val (.int x0), .val (.int x1), .val (.int x2), .val (.long x3), .second, .val (.long x4), .second, .val (.int (x0 &&& (7 : Int32))), .val (.int (1 : Int32)), .val (.int (x2 &&& (255 : Int32))), .unset, .unset] []) (fun _ _ A kq => XS.icmpNo A hx rfl (hb hby at_33) rfl (teq k7).2 kq) ?_
      refine gs (mkF m 38 #[.val (.int x0), .val (.int x1), .val (.int x2), .val (.long x3), .second, .val (.long x4), .second, .val (.int (x0 &&& (7 : Int32))), .val (.int (1 : Int32)), .val (.int (x2 &&& (255 : Int32))), .unset, .unset] [(.int (1 : Int32))]) (fun _ _ A kq => XS.iload A hx rfl (hb hby at_36) rfl  kq) ?_
      refine gs (mkF m 41 #[.val (.int x0), .val (.int x1), .val (.int x2), .val (.long x3), .second, .val (.long x4), .second, .val (.int (x0 &&& (7 : Int32))), .val (.int (1 : Int32)), .val (.int (x2 &&& (255 : Int32))), .unset, .unset] []) (fun _ _ A kq => XS.ifNo A hx rfl (hb hby at_38) rfl ((if0 _ _).trans (feq (by decide)).1) kq) ?_
      refine ggetS (host := "") hx (Or.inl (ow hw 72 rfl)) Via.refl Sah 44 (hb hby at_41) rfl ?_
      refine gs (mkF m 50 #[.val (.int x0), .val (.int x1), .val (.int x2), .val (.long x3), .second, .val (.long x4), .second, .val (.int (x0 &&& (7 : Int32))), .val (.int (1 : Int32)), .val (.int (x2 &&& (255 : Int32))), .unset, .unset] [(.ref ah)]) (fun _ _ A kq => XS.goto A hx rfl (pc0 := 44) (pc' := 50) rfl (hb hby at_44) (by decide) (by decide) kq) ?_
      refine gs (mkF m 52 #[.val (.int x0), .val (.int x1), .val (.int x2), .val (.long x3), .second, .val (.long x4), .second, .val (.int (x0 &&& (7 : Int32))), .val (.int (1 : Int32)), .val (.int (x2 &&& (255 : Int32))), .val (.ref ah), .unset] []) (fun _ _ A kq => XS.astore A hx rfl (hb hby at_50) rfl rfl (l' := #[.val (.int x0), .val (.int x1), .val (.int x2), .val (.long x3), .second, .val (.long x4), .second, .val (.int (x0 &&& (7 : Int32))), .val (.int (1 : Int32)), .val (.int (x2 &&& (255 : Int32))), .val (.ref ah), .unset]) rfl kq) ?_
      refine ginfo fun _ _ O58 => ?_
      have Eva_58 := Eva.ext O58
      have Vva_58 := Vva.ext O58
      have Eak_58 := Eak.ext O58
      have Eah_58 := Eah.ext O58
      have Fnk_58 := Fnk.ext O58
      have Snk_58 := Snk.ext O58
      have Fnh_58 := Fnh.ext O58
      have Snh_58 := Snh.ext O58
      have lt_va : h0.size > va := Eva_58.lt
      have lt_ak : h0.size > ak := Eak_58.lt
      have lt_ah : h0.size > ah := Eah_58.lt
      have lt_nk : h0.size > nk := Snk_58.1.lt
      have lt_tk : h0.size > tk := Snk_58.tlt
      have lt_nh : h0.size > nh := Snh_58.1.lt
      have lt_th : h0.size > th := Snh_58.tlt
      refine gs (mkF m 54 #[.val (.int x0), .val (.int x1), .val (.int x2), .val (.long x3), .second, .val (.long x4), .second, .val (.int (x0 &&& (7 : Int32))), .val (.int (1 : Int32)), .val (.int (x2 &&& (255 : Int32))), .val (.ref ah), .unset] [(.ref ah)]) (fun _ _ A kq => XS.aload A hx rfl (hb hby at_52) rfl rfl kq) ?_
      refine ginfo fun _ _ O59 => ?_
      refine gcallV (y := (⟨"com/example/tasks_to_members/taskstomembers/core/TaskAssignor", "configName", "()Ljava/lang/String;"⟩ : MethodName)) (z := (⟨"com/example/tasks_to_members/taskstomembers/core/TaskAssignor", "configName", "()Ljava/lang/String;"⟩ : MethodName)) hx (ow hw 73 rfl) (ow hw 74 rfl) (nfSel (ow hw 76 rfl)) (ow hw 76 rfl) (ow hw 75 rfl) (by decide) (fun hZ H hEL => Pay.of_met (W := 0) (own_config l Z a0 cx [] (ah) (nh) vm h0 O59 Fnh_58) (ow hw 77 rfl) (ow hw 32 rfl) (by decide) (by decide) hZ H hEL) 57 (argsL := []) (rest := []) Eah_58 (lenOf own_pd237 rfl) rfl rfl (Nat.le_of_eq rfl) (by rw [hml]; rfl) (hb hby at_54) rfl (by decide) (by decide) ?_
      rintro _ vm59 h59 C59 ⟨rfl, rfl⟩
      have z59 := C59.2.1
      refine gat (mkF m 57 #[.val (.int x0), .val (.int x1), .val (.int x2), .val (.long x3), .second, .val (.long x4), .second, .val (.int (x0 &&& (7 : Int32))), .val (.int (1 : Int32)), .val (.int (x2 &&& (255 : Int32))), .val (.ref ah), .unset] [(.ref nh)]) rfl ?_
      refine ginfo fun _ _ O60 => ?_
      refine gcallS (y := (⟨"com/example/tasks_to_members/taskstomembers/core/TaskAssignor", "named", "(Ljava/lang/String;)Lcom/example/tasks_to_members/taskstomembers/core/TaskAssignor;"⟩ : MethodName)) hx (ow hw 30 rfl) (ow hw 31 rfl) (ow hw 32 rfl) (ow hw 33 rfl) (by decide) (fun hZ H hEL => Pay.of_met (W := 0) (own_namedH l Z a0 cx [] (nh) (th) (va) (ak) (ah) (nk) (nh) (tk) (th) (kv) vm59 h0 O60 Snh_58 (by first | assumption | decide | omega)) (ow hw 33 rfl) (ow hw 32 rfl) (by decide) (by decide) hZ H hEL) 60 (argsL := [(.ref nh)]) (rest := []) (lenOf own_pd238 rfl) rfl rfl (Nat.le_of_eq rfl) (by rw [hml]; rfl) (hb hby at_57) rfl (by decide) (by decide) ?_
      rintro _ vm60 h60 C60 ⟨rfl, K60⟩
      have z60 := C60.2.1
      refine gat (mkF m 60 #[.val (.int x0), .val (.int x1), .val (.int x2), .val (.long x3), .second, .val (.long x4), .second, .val (.int (x0 &&& (7 : Int32))), .val (.int (1 : Int32)), .val (.int (x2 &&& (255 : Int32))), .val (.ref ah), .unset] [(.ref ah)]) rfl ?_
      refine gs (mkF m 62 #[.val (.int x0), .val (.int x1), .val (.int x2), .val (.long x3), .second, .val (.long x4), .second, .val (.int (x0 &&& (7 : Int32))), .val (.int (1 : Int32)), .val (.int (x2 &&& (255 : Int32))), .val (.ref ah), .unset] [(.ref ah), (.ref ah)]) (fun _ _ A kq => XS.aload A hx rfl (hb hby at_60) rfl rfl kq) ?_
      refine gx (mkF m 65 #[.val (.int x0), .val (.int x1), .val (.int x2), .val (.long x3), .second, .val (.long x4), .second, .val (.int (x0 &&& (7 : Int32))), .val (.int (1 : Int32)), .val (.int (x2 &&& (255 : Int32))), .val (.ref ah), .unset] []) (fun T locs X _ _ _ _ kq => Jvm.RoadKit.acmp (g := (mkF m 62 #[.val (.int x0), .val (.int x1), .val (.int x2), .val (.long x3), .second, .val (.long x4), .second, .val (.int (x0 &&& (7 : Int32))), .val (.int (1 : Int32)), .val (.int (x2 &&& (255 : Int32))), .val (.ref ah), .unset] [(.ref ah), (.ref ah)])) X hx rfl rfl rfl (pc0 := 62) (pc' := 65) (same := true) rfl (hb hby at_62) rfl (decide_eq_true rfl) (by decide) (by decide) kq) ?_
      refine gs (mkF m 66 #[.val (.int x0), .val (.int x1), .val (.int x2), .val (.long x3), .second, .val (.long x4), .second, .val (.int (x0 &&& (7 : Int32))), .val (.int (1 : Int32)), .val (.int (x2 &&& (255 : Int32))), .val (.ref ah), .unset] [(.int (1 : Int32))]) (fun _ _ A kq => XS.iconst A hx rfl (hb hby at_65) kq) ?_
      refine gs (mkF m 70 #[.val (.int x0), .val (.int x1), .val (.int x2), .val (.long x3), .second, .val (.long x4), .second, .val (.int (x0 &&& (7 : Int32))), .val (.int (1 : Int32)), .val (.int (x2 &&& (255 : Int32))), .val (.ref ah), .unset] [(.int (1 : Int32))]) (fun _ _ A kq => XS.goto A hx rfl (pc0 := 66) (pc' := 70) rfl (hb hby at_66) (by decide) (by decide) kq) ?_
      exact gretN (t := .boolean) hx hret (by simp) (hb hby at_70) (by decide) (by decide) (fun vq Cq => ⟨rfl, ((Keep.refl h0 []).trans K60 all0)⟩)
    · refine gs (mkF m 71 #[.val (.int x0), .val (.int x1), .val (.int x2), .val (.long x3), .second, .val (.long x4), .second, .val (.int (x0 &&& (7 : Int32))), .val (.int (1 : Int32)), .val (.int (x2 &&& (255 : Int32))), .unset, .unset] []) (fun _ _ A kq => XS.icmpYes A hx rfl (pc0 := 33) (pc' := 71) rfl (hb hby at_33) rfl (feq k7).2 (by decide) (by decide) kq) ?_
      refine gs (mkF m 73 #[.val (.int x0), .val (.int x1), .val (.int x2), .val (.long x3), .second, .val (.long x4), .second, .val (.int (x0 &&& (7 : Int32))), .val (.int (1 : Int32)), .val (.int (x2 &&& (255 : Int32))), .unset, .unset] [(.int (x0 &&& (7 : Int32)))]) (fun _ _ A kq => XS.iload A hx rfl (hb hby at_71) rfl  kq) ?_
      refine gs (mkF m 75 #[.val (.int x0), .val (.int x1), .val (.int x2), .val (.long x3), .second, .val (.long x4), .second, .val (.int (x0 &&& (7 : Int32))), .val (.int (1 : Int32)), .val (.int (x2 &&& (255 : Int32))), .unset, .unset] [(.int (6 : Int32)), (.int (x0 &&& (7 : Int32)))]) (fun _ _ A kq => XS.bipush A hx rfl (hb hby at_73) kq) ?_
      by_cases k6 : (x0 &&& (7 : Int32)) = (6 : Int32)
      · refine gs (mkF m 78 #[.val (.int x0), .val (.int x1), .val (.int x2), .val (.long x3), .second, .val (.long x4), .second, .val (.int (x0 &&& (7 : Int32))), .val (.int (1 : Int32)), .val (.int (x2 &&& (255 : Int32))), .unset, .unset] []) (fun _ _ A kq => XS.icmpNo A hx rfl (hb hby at_75) rfl (teq k6).2 kq) ?_
        refine gs (mkF m 79 #[.val (.int x0), .val (.int x1), .val (.int x2), .val (.long x3), .second, .val (.long x4), .second, .val (.int (x0 &&& (7 : Int32))), .val (.int (1 : Int32)), .val (.int (x2 &&& (255 : Int32))), .unset, .unset] [.null]) (fun _ _ A kq => XS.aconstNull A hx rfl (hb hby at_78) kq) ?_
        refine gs (mkF m 81 #[.val (.int x0), .val (.int x1), .val (.int x2), .val (.long x3), .second, .val (.long x4), .second, .val (.int (x0 &&& (7 : Int32))), .val (.int (1 : Int32)), .val (.int (x2 &&& (255 : Int32))), .val .null, .unset] []) (fun _ _ A kq => XS.astore A hx rfl (hb hby at_79) rfl rfl (l' := #[.val (.int x0), .val (.int x1), .val (.int x2), .val (.long x3), .second, .val (.long x4), .second, .val (.int (x0 &&& (7 : Int32))), .val (.int (1 : Int32)), .val (.int (x2 &&& (255 : Int32))), .val .null, .unset]) rfl kq) ?_
        refine gs (mkF m 588 #[.val (.int x0), .val (.int x1), .val (.int x2), .val (.long x3), .second, .val (.long x4), .second, .val (.int (x0 &&& (7 : Int32))), .val (.int (1 : Int32)), .val (.int (x2 &&& (255 : Int32))), .val .null, .unset] []) (fun _ _ A kq => XS.goto A hx rfl (pc0 := 81) (pc' := 588) rfl (hb hby at_81) (by decide) (by decide) kq) ?_
        refine gs (mkF m 590 #[.val (.int x0), .val (.int x1), .val (.int x2), .val (.long x3), .second, .val (.long x4), .second, .val (.int (x0 &&& (7 : Int32))), .val (.int (1 : Int32)), .val (.int (x2 &&& (255 : Int32))), .val .null, .unset] [.null]) (fun _ _ A kq => XS.aload A hx rfl (hb hby at_588) rfl rfl kq) ?_
        refine ginfo fun _ _ O62 => ?_
        refine gcallS (y := (⟨"com/example/tasks_to_members/taskstomembers/core/TaskAssignor", "named", "(Ljava/lang/String;)Lcom/example/tasks_to_members/taskstomembers/core/TaskAssignor;"⟩ : MethodName)) hx (ow hw 30 rfl) (ow hw 31 rfl) (ow hw 32 rfl) (ow hw 33 rfl) (by decide) (fun hZ H hEL => Pay.of_met (W := 0) (own_namedN l Z a0 cx [] (va) (ak) (ah) (nk) (nh) (tk) (th) (kv) vm h0 O62 (by first | assumption | decide | omega)) (ow hw 33 rfl) (ow hw 32 rfl) (by decide) (by decide) hZ H hEL) 593 (argsL := [.null]) (rest := []) (lenOf own_pd238 rfl) rfl rfl (Nat.le_of_eq rfl) (by rw [hml]; rfl) (hb hby at_590) rfl (by decide) (by decide) ?_
        rintro _ vm62 h62 C62 ⟨rfl, K62⟩
        have z62 := C62.2.1
        refine gat (mkF m 593 #[.val (.int x0), .val (.int x1), .val (.int x2), .val (.long x3), .second, .val (.long x4), .second, .val (.int (x0 &&& (7 : Int32))), .val (.int (1 : Int32)), .val (.int (x2 &&& (255 : Int32))), .val .null, .unset] [.null]) rfl ?_
        refine gs (mkF m 595 #[.val (.int x0), .val (.int x1), .val (.int x2), .val (.long x3), .second, .val (.long x4), .second, .val (.int (x0 &&& (7 : Int32))), .val (.int (1 : Int32)), .val (.int (x2 &&& (255 : Int32))), .val .null, .unset] [.null, .null]) (fun _ _ A kq => XS.aload A hx rfl (hb hby at_593) rfl rfl kq) ?_
        refine ginfo fun _ _ O63 => ?_
        refine gcallS (y := (⟨"com/example/tasks_to_members/taskstomembers/core/TaskAssignorNamedPinLaw", "expected", "(Ljava/lang/String;)Lcom/example/tasks_to_members/taskstomembers/core/TaskAssignor;"⟩ : MethodName)) hx (ow hw 63 rfl) (ow hw 64 rfl) (ow hw 65 rfl) (ow hw 66 rfl) (by decide) (fun hZ H hEL => Pay.of_met (W := 1) (own_expN l Z a0 cx [] (va) (ak) (ah) (nk) (nh) (tk) (th) (kv) vm62 h62 O63 (by first | assumption | decide | omega)) (ow hw 66 rfl) (ow hw 65 rfl) (by decide) (by decide) hZ H hEL) 598 (argsL := [.null]) (rest := [.null]) (lenOf own_pd238 rfl) rfl rfl (Nat.le_of_eq rfl) (by rw [hml]; rfl) (hb hby at_595) rfl (by decide) (by decide) ?_
        rintro _ vm63 h63 C63 ⟨rfl, K63⟩
        have z63 := C63.2.1
        refine gat (mkF m 598 #[.val (.int x0), .val (.int x1), .val (.int x2), .val (.long x3), .second, .val (.long x4), .second, .val (.int (x0 &&& (7 : Int32))), .val (.int (1 : Int32)), .val (.int (x2 &&& (255 : Int32))), .val .null, .unset] [.null, .null]) rfl ?_
        refine gx (mkF m 601 #[.val (.int x0), .val (.int x1), .val (.int x2), .val (.long x3), .second, .val (.long x4), .second, .val (.int (x0 &&& (7 : Int32))), .val (.int (1 : Int32)), .val (.int (x2 &&& (255 : Int32))), .val .null, .unset] []) (fun T locs X _ _ _ _ kq => Jvm.RoadKit.acmp (g := (mkF m 598 #[.val (.int x0), .val (.int x1), .val (.int x2), .val (.long x3), .second, .val (.long x4), .second, .val (.int (x0 &&& (7 : Int32))), .val (.int (1 : Int32)), .val (.int (x2 &&& (255 : Int32))), .val .null, .unset] [.null, .null])) X hx rfl rfl rfl (pc0 := 598) (pc' := 601) (same := true) rfl (hb hby at_598) rfl (decide_eq_true rfl) (by decide) (by decide) kq) ?_
        refine gs (mkF m 602 #[.val (.int x0), .val (.int x1), .val (.int x2), .val (.long x3), .second, .val (.long x4), .second, .val (.int (x0 &&& (7 : Int32))), .val (.int (1 : Int32)), .val (.int (x2 &&& (255 : Int32))), .val .null, .unset] [(.int (1 : Int32))]) (fun _ _ A kq => XS.iconst A hx rfl (hb hby at_601) kq) ?_
        refine gs (mkF m 606 #[.val (.int x0), .val (.int x1), .val (.int x2), .val (.long x3), .second, .val (.long x4), .second, .val (.int (x0 &&& (7 : Int32))), .val (.int (1 : Int32)), .val (.int (x2 &&& (255 : Int32))), .val .null, .unset] [(.int (1 : Int32))]) (fun _ _ A kq => XS.goto A hx rfl (pc0 := 602) (pc' := 606) rfl (hb hby at_602) (by decide) (by decide) kq) ?_
        exact gretN (t := .boolean) hx hret (by simp) (hb hby at_606) (by decide) (by decide) (fun vq Cq => ⟨rfl, (((Keep.refl h0 []).trans K62 all0).trans K63 all0)⟩)
      · refine gs (mkF m 84 #[.val (.int x0), .val (.int x1), .val (.int x2), .val (.long x3), .second, .val (.long x4), .second, .val (.int (x0 &&& (7 : Int32))), .val (.int (1 : Int32)), .val (.int (x2 &&& (255 : Int32))), .unset, .unset] []) (fun _ _ A kq => XS.icmpYes A hx rfl (pc0 := 75) (pc' := 84) rfl (hb hby at_75) rfl (feq k6).2 (by decide) (by decide) kq) ?_
        refine gjoin (fun vmJ hJ gJ => ∃ (sx65 : Addr), ∃ (t65 : Addr), ∃ (cs65 : List Int32), ∃ (wl65 : Slot), gJ = (mkF m 588 #[.val (.int x0), .val (.int x1), .val (.int x2), .val (.long x3), .second, .val (.long x4), .second, .val (.int (x0 &&& (7 : Int32))), .val (.int (1 : Int32)), .val (.int (x2 &&& (255 : Int32))), .val (.ref sx65), wl65] []) ∧ Keep h0 hJ [] ∧ CHr Z consts_1 vm h0 vmJ hJ ∧ Str Z hJ sx65 t65 cs65) 6 38 ?_ ?_
        · rintro vm65 h65 _ ⟨sx65, t65, cs65, wl65, rfl, K65, C65, q65_0⟩
          have z65 := C65.2.1
          have lt_sx65 : h65.size > sx65 := q65_0.1.lt
          have lt_t65 : h65.size > t65 := q65_0.tlt
          refine gs (mkF m 590 #[.val (.int x0), .val (.int x1), .val (.int x2), .val (.long x3), .second, .val (.long x4), .second, .val (.int (x0 &&& (7 : Int32))), .val (.int (1 : Int32)), .val (.int (x2 &&& (255 : Int32))), .val (.ref sx65), wl65] [(.ref sx65)]) (fun _ _ A kq => XS.aload A hx rfl (hb hby at_588) rfl rfl kq) ?_
          refine ginfo fun _ _ O151 => ?_
          refine gcallS (y := (⟨"com/example/tasks_to_members/taskstomembers/core/TaskAssignor", "named", "(Ljava/lang/String;)Lcom/example/tasks_to_members/taskstomembers/core/TaskAssignor;"⟩ : MethodName)) hx (ow hw 30 rfl) (ow hw 31 rfl) (ow hw 32 rfl) (ow hw 33 rfl) (by decide) (fun hZ H hEL => Pay.of_met (W := 0) (own_namedG l Z a0 cx [] (sx65) (t65) (cs65) (va) (ak) (ah) (nk) (nh) (tk) (th) (kv) vm65 h65 O151 q65_0 (by first | assumption | decide | omega)) (ow hw 33 rfl) (ow hw 32 rfl) (by decide) (by decide) hZ H hEL) 593 (argsL := [(.ref sx65)]) (rest := []) (lenOf own_pd238 rfl) rfl rfl (Nat.le_of_eq rfl) (by rw [hml]; rfl) (hb hby at_590) rfl (by decide) (by decide) ?_
          rintro _ vm151 h151 C151 ⟨rfl, K151⟩
          have z151 := C151.2.1
          refine gat (mkF m 593 #[.val (.int x0), .val (.int x1), .val (.int x2), .val (.long x3), .second, .val (.long x4), .second, .val (.int (x0 &&& (7 : Int32))), .val (.int (1 : Int32)), .val (.int (x2 &&& (255 : Int32))), .val (.ref sx65), wl65] [(own_nm ak ah cs65)]) rfl ?_
          refine gs (mkF m 595 #[.val (.int x0), .val (.int x1), .val (.int x2), .val (.long x3), .second, .val (.long x4), .second, .val (.int (x0 &&& (7 : Int32))), .val (.int (1 : Int32)), .val (.int (x2 &&& (255 : Int32))), .val (.ref sx65), wl65] [(.ref sx65), (own_nm ak ah cs65)]) (fun _ _ A kq => XS.aload A hx rfl (hb hby at_593) rfl rfl kq) ?_
          have f153 := (q65_0.keep K151 nin0 nin0)
          refine ginfo fun _ _ O152 => ?_
          refine gcallS (y := (⟨"com/example/tasks_to_members/taskstomembers/core/TaskAssignorNamedPinLaw", "expected", "(Ljava/lang/String;)Lcom/example/tasks_to_members/taskstomembers/core/TaskAssignor;"⟩ : MethodName)) hx (ow hw 63 rfl) (ow hw 64 rfl) (ow hw 65 rfl) (ow hw 66 rfl) (by decide) (fun hZ H hEL => Pay.of_met (W := 1) (own_expG l Z a0 cx [] (sx65) (t65) (cs65) (va) (ak) (ah) (nk) (nh) (tk) (th) (kv) vm151 h151 O152 f153 (by first | assumption | decide | omega)) (ow hw 66 rfl) (ow hw 65 rfl) (by decide) (by decide) hZ H hEL) 598 (argsL := [(.ref sx65)]) (rest := [(own_nm ak ah cs65)]) (lenOf own_pd238 rfl) rfl rfl (Nat.le_of_eq (by rw [List.map_cons, List.sum_cons, catR (own_nmR _ _ _)] <;> rfl)) (by rw [hml]; rfl) (hb hby at_595) rfl (by decide) (by decide) ?_
          rintro _ vm152 h152 C152 ⟨rfl, K152⟩
          have z152 := C152.2.1
          refine gat (mkF m 598 #[.val (.int x0), .val (.int x1), .val (.int x2), .val (.long x3), .second, .val (.long x4), .second, .val (.int (x0 &&& (7 : Int32))), .val (.int (1 : Int32)), .val (.int (x2 &&& (255 : Int32))), .val (.ref sx65), wl65] [(own_nm ak ah cs65), (own_nm ak ah cs65)]) rfl ?_
          refine gx (mkF m 601 #[.val (.int x0), .val (.int x1), .val (.int x2), .val (.long x3), .second, .val (.long x4), .second, .val (.int (x0 &&& (7 : Int32))), .val (.int (1 : Int32)), .val (.int (x2 &&& (255 : Int32))), .val (.ref sx65), wl65] []) (fun T locs X _ _ _ _ kq => Jvm.RoadKit.acmp (g := (mkF m 598 #[.val (.int x0), .val (.int x1), .val (.int x2), .val (.long x3), .second, .val (.long x4), .second, .val (.int (x0 &&& (7 : Int32))), .val (.int (1 : Int32)), .val (.int (x2 &&& (255 : Int32))), .val (.ref sx65), wl65] [(own_nm ak ah cs65), (own_nm ak ah cs65)])) X hx rfl (own_nmR _ _ _) (own_nmR _ _ _) (pc0 := 598) (pc' := 601) (same := true) rfl (hb hby at_598) rfl (decide_eq_true rfl) (by decide) (by decide) kq) ?_
          refine gs (mkF m 602 #[.val (.int x0), .val (.int x1), .val (.int x2), .val (.long x3), .second, .val (.long x4), .second, .val (.int (x0 &&& (7 : Int32))), .val (.int (1 : Int32)), .val (.int (x2 &&& (255 : Int32))), .val (.ref sx65), wl65] [(.int (1 : Int32))]) (fun _ _ A kq => XS.iconst A hx rfl (hb hby at_601) kq) ?_
          refine gs (mkF m 606 #[.val (.int x0), .val (.int x1), .val (.int x2), .val (.long x3), .second, .val (.long x4), .second, .val (.int (x0 &&& (7 : Int32))), .val (.int (1 : Int32)), .val (.int (x2 &&& (255 : Int32))), .val (.ref sx65), wl65] [(.int (1 : Int32))]) (fun _ _ A kq => XS.goto A hx rfl (pc0 := 602) (pc' := 606) rfl (hb hby at_602) (by decide) (by decide) kq) ?_
          exact gretN (t := .boolean) hx hret (by simp) (hb hby at_606) (by decide) (by decide) (fun vq Cq => ⟨rfl, ((((Keep.refl h0 []).trans K65 all0).trans K151 all0).trans K152 all0)⟩)
        · intro J65
          refine gs (mkF m 86 #[.val (.int x0), .val (.int x1), .val (.int x2), .val (.long x3), .second, .val (.long x4), .second, .val (.int (x0 &&& (7 : Int32))), .val (.int (1 : Int32)), .val (.int (x2 &&& (255 : Int32))), .unset, .unset] [(.int (x0 &&& (7 : Int32)))]) (fun _ _ A kq => XS.iload A hx rfl (hb hby at_84) rfl  kq) ?_
          refine gs (mkF m 87 #[.val (.int x0), .val (.int x1), .val (.int x2), .val (.long x3), .second, .val (.long x4), .second, .val (.int (x0 &&& (7 : Int32))), .val (.int (1 : Int32)), .val (.int (x2 &&& (255 : Int32))), .unset, .unset] [(.int (4 : Int32)), (.int (x0 &&& (7 : Int32)))]) (fun _ _ A kq => XS.iconst A hx rfl (hb hby at_86) kq) ?_
          by_cases k4 : (x0 &&& (7 : Int32)) = (4 : Int32)
          · refine gs (mkF m 90 #[.val (.int x0), .val (.int x1), .val (.int x2), .val (.long x3), .second, .val (.long x4), .second, .val (.int (x0 &&& (7 : Int32))), .val (.int (1 : Int32)), .val (.int (x2 &&& (255 : Int32))), .unset, .unset] []) (fun _ _ A kq => XS.icmpNo A hx rfl (hb hby at_87) rfl (teq k4).2 kq) ?_
            refine gs (mkF m 91 #[.val (.int x0), .val (.int x1), .val (.int x2), .val (.long x3), .second, .val (.long x4), .second, .val (.int (x0 &&& (7 : Int32))), .val (.int (1 : Int32)), .val (.int (x2 &&& (255 : Int32))), .unset, .unset] [(.long x3)]) (fun _ _ A kq => XS.lloadN A hx rfl (hb hby at_90) rfl  kq) ?_
            refine ginfo fun _ _ O66 => ?_
            refine gcallS (y := (⟨"com/example/tasks_to_members/taskstomembers/core/TaskAssignorNamedPinLaw", "drawn6", "(J)Ljava/lang/String;"⟩ : MethodName)) hx (ow hw 84 rfl) (ow hw 85 rfl) (ow hw 65 rfl) (ow hw 86 rfl) (by decide) (fun hZ H hEL => Pay.of_met (W := 0) (own_drawn6 l Z a0 cx [] (x3) vm h0 O66 ) (ow hw 86 rfl) (ow hw 65 rfl) (by decide) (by decide) hZ H hEL) 94 (argsL := [(.long x3)]) (rest := []) (lenOf own_pd239 rfl) rfl rfl (Nat.le_of_eq rfl) (by rw [hml]; rfl) (hb hby at_91) rfl (by decide) (by decide) ?_
            rintro _ vm66 h66 C66 ⟨r66, t66, cs66, rfl, K66, q66_0⟩
            have z66 := C66.2.1
            have lt_r66 : h66.size > r66 := q66_0.1.lt
            have lt_t66 : h66.size > t66 := q66_0.tlt
            refine gat (mkF m 94 #[.val (.int x0), .val (.int x1), .val (.int x2), .val (.long x3), .second, .val (.long x4), .second, .val (.int (x0 &&& (7 : Int32))), .val (.int (1 : Int32)), .val (.int (x2 &&& (255 : Int32))), .unset, .unset] [(.ref r66)]) rfl ?_
            refine gs (mkF m 96 #[.val (.int x0), .val (.int x1), .val (.int x2), .val (.long x3), .second, .val (.long x4), .second, .val (.int (x0 &&& (7 : Int32))), .val (.int (1 : Int32)), .val (.int (x2 &&& (255 : Int32))), .val (.ref r66), .unset] []) (fun _ _ A kq => XS.astore A hx rfl (hb hby at_94) rfl rfl (l' := #[.val (.int x0), .val (.int x1), .val (.int x2), .val (.long x3), .second, .val (.long x4), .second, .val (.int (x0 &&& (7 : Int32))), .val (.int (1 : Int32)), .val (.int (x2 &&& (255 : Int32))), .val (.ref r66), .unset]) rfl kq) ?_
            refine gs (mkF m 588 #[.val (.int x0), .val (.int x1), .val (.int x2), .val (.long x3), .second, .val (.long x4), .second, .val (.int (x0 &&& (7 : Int32))), .val (.int (1 : Int32)), .val (.int (x2 &&& (255 : Int32))), .val (.ref r66), .unset] []) (fun _ _ A kq => XS.goto A hx rfl (pc0 := 96) (pc' := 588) rfl (hb hby at_96) (by decide) (by decide) kq) ?_
            exact gmono (by decide) (by decide) (J65 _ _ _ ⟨r66, t66, cs66, (.unset), rfl, ((Keep.refl h0 []).trans K66 all0), C66, q66_0⟩)
          · refine gs (mkF m 99 #[.val (.int x0), .val (.int x1), .val (.int x2), .val (.long x3), .second, .val (.long x4), .second, .val (.int (x0 &&& (7 : Int32))), .val (.int (1 : Int32)), .val (.int (x2 &&& (255 : Int32))), .unset, .unset] []) (fun _ _ A kq => XS.icmpYes A hx rfl (pc0 := 87) (pc' := 99) rfl (hb hby at_87) rfl (feq k4).2 (by decide) (by decide) kq) ?_
            refine gs (mkF m 101 #[.val (.int x0), .val (.int x1), .val (.int x2), .val (.long x3), .second, .val (.long x4), .second, .val (.int (x0 &&& (7 : Int32))), .val (.int (1 : Int32)), .val (.int (x2 &&& (255 : Int32))), .unset, .unset] [(.int (x0 &&& (7 : Int32)))]) (fun _ _ A kq => XS.iload A hx rfl (hb hby at_99) rfl  kq) ?_
            refine gs (mkF m 102 #[.val (.int x0), .val (.int x1), .val (.int x2), .val (.long x3), .second, .val (.long x4), .second, .val (.int (x0 &&& (7 : Int32))), .val (.int (1 : Int32)), .val (.int (x2 &&& (255 : Int32))), .unset, .unset] [(.int (5 : Int32)), (.int (x0 &&& (7 : Int32)))]) (fun _ _ A kq => XS.iconst A hx rfl (hb hby at_101) kq) ?_
            by_cases k5 : (x0 &&& (7 : Int32)) = (5 : Int32)
            · refine gs (mkF m 105 #[.val (.int x0), .val (.int x1), .val (.int x2), .val (.long x3), .second, .val (.long x4), .second, .val (.int (x0 &&& (7 : Int32))), .val (.int (1 : Int32)), .val (.int (x2 &&& (255 : Int32))), .unset, .unset] []) (fun _ _ A kq => XS.icmpNo A hx rfl (hb hby at_102) rfl (teq k5).2 kq) ?_
              refine gs (mkF m 107 #[.val (.int x0), .val (.int x1), .val (.int x2), .val (.long x3), .second, .val (.long x4), .second, .val (.int (x0 &&& (7 : Int32))), .val (.int (1 : Int32)), .val (.int (x2 &&& (255 : Int32))), .unset, .unset] [(.long x4)]) (fun _ _ A kq => XS.lload A hx rfl (hb hby at_105) rfl  kq) ?_
              refine ginfo fun _ _ O67 => ?_
              refine gcallS (y := (⟨"com/example/tasks_to_members/taskstomembers/core/TaskAssignorNamedPinLaw", "drawnShort", "(J)Ljava/lang/String;"⟩ : MethodName)) hx (ow hw 78 rfl) (ow hw 79 rfl) (ow hw 65 rfl) (ow hw 80 rfl) (by decide) (fun hZ H hEL => Pay.of_met (W := 0) (own_drawnS l Z a0 cx [] (x4) vm h0 O67 ) (ow hw 80 rfl) (ow hw 65 rfl) (by decide) (by decide) hZ H hEL) 110 (argsL := [(.long x4)]) (rest := []) (lenOf own_pd239 rfl) rfl rfl (Nat.le_of_eq rfl) (by rw [hml]; rfl) (hb hby at_107) rfl (by decide) (by decide) ?_
              rintro _ vm67 h67 C67 ⟨r67, t67, cs67, rfl, K67, q67_0⟩
              have z67 := C67.2.1
              have lt_r67 : h67.size > r67 := q67_0.1.lt
              have lt_t67 : h67.size > t67 := q67_0.tlt
              refine gat (mkF m 110 #[.val (.int x0), .val (.int x1), .val (.int x2), .val (.long x3), .second, .val (.long x4), .second, .val (.int (x0 &&& (7 : Int32))), .val (.int (1 : Int32)), .val (.int (x2 &&& (255 : Int32))), .unset, .unset] [(.ref r67)]) rfl ?_
              refine gs (mkF m 112 #[.val (.int x0), .val (.int x1), .val (.int x2), .val (.long x3), .second, .val (.long x4), .second, .val (.int (x0 &&& (7 : Int32))), .val (.int (1 : Int32)), .val (.int (x2 &&& (255 : Int32))), .val (.ref r67), .unset] []) (fun _ _ A kq => XS.astore A hx rfl (hb hby at_110) rfl rfl (l' := #[.val (.int x0), .val (.int x1), .val (.int x2), .val (.long x3), .second, .val (.long x4), .second, .val (.int (x0 &&& (7 : Int32))), .val (.int (1 : Int32)), .val (.int (x2 &&& (255 : Int32))), .val (.ref r67), .unset]) rfl kq) ?_
              refine gs (mkF m 588 #[.val (.int x0), .val (.int x1), .val (.int x2), .val (.long x3), .second, .val (.long x4), .second, .val (.int (x0 &&& (7 : Int32))), .val (.int (1 : Int32)), .val (.int (x2 &&& (255 : Int32))), .val (.ref r67), .unset] []) (fun _ _ A kq => XS.goto A hx rfl (pc0 := 112) (pc' := 588) rfl (hb hby at_112) (by decide) (by decide) kq) ?_
              exact gmono (by decide) (by decide) (J65 _ _ _ ⟨r67, t67, cs67, (.unset), rfl, ((Keep.refl h0 []).trans K67 all0), C67, q67_0⟩)
            · refine gs (mkF m 115 #[.val (.int x0), .val (.int x1), .val (.int x2), .val (.long x3), .second, .val (.long x4), .second, .val (.int (x0 &&& (7 : Int32))), .val (.int (1 : Int32)), .val (.int (x2 &&& (255 : Int32))), .unset, .unset] []) (fun _ _ A kq => XS.icmpYes A hx rfl (pc0 := 102) (pc' := 115) rfl (hb hby at_102) rfl (feq k5).2 (by decide) (by decide) kq) ?_
              refine gs (mkF m 117 #[.val (.int x0), .val (.int x1), .val (.int x2), .val (.long x3), .second, .val (.long x4), .second, .val (.int (x0 &&& (7 : Int32))), .val (.int (1 : Int32)), .val (.int (x2 &&& (255 : Int32))), .unset, .unset] [(.int (x0 &&& (7 : Int32)))]) (fun _ _ A kq => XS.iload A hx rfl (hb hby at_115) rfl  kq) ?_
              by_cases k0 : (x0 &&& (7 : Int32)) = (0 : Int32)
              · refine gs (mkF m 126 #[.val (.int x0), .val (.int x1), .val (.int x2), .val (.long x3), .second, .val (.long x4), .second, .val (.int (x0 &&& (7 : Int32))), .val (.int (1 : Int32)), .val (.int (x2 &&& (255 : Int32))), .unset, .unset] []) (fun _ _ A kq => XS.ifYes A hx rfl (pc0 := 117) (pc' := 126) rfl (hb hby at_117) rfl ((if0 _ _).trans (teq k0).1) (by decide) (by decide) kq) ?_
                refine gs (mkF m 128 #[.val (.int x0), .val (.int x1), .val (.int x2), .val (.long x3), .second, .val (.long x4), .second, .val (.int (x0 &&& (7 : Int32))), .val (.int (1 : Int32)), .val (.int (x2 &&& (255 : Int32))), .unset, .unset] [(.int (1 : Int32))]) (fun _ _ A kq => XS.iload A hx rfl (hb hby at_126) rfl  kq) ?_
                refine gs (mkF m 131 #[.val (.int x0), .val (.int x1), .val (.int x2), .val (.long x3), .second, .val (.long x4), .second, .val (.int (x0 &&& (7 : Int32))), .val (.int (1 : Int32)), .val (.int (x2 &&& (255 : Int32))), .unset, .unset] []) (fun _ _ A kq => XS.ifNo A hx rfl (hb hby at_128) rfl ((if0 _ _).trans (feq (by decide)).1) kq) ?_
                refine gs (mkF m 133 #[.val (.int x0), .val (.int x1), .val (.int x2), .val (.long x3), .second, .val (.long x4), .second, .val (.int (x0 &&& (7 : Int32))), .val (.int (1 : Int32)), .val (.int (x2 &&& (255 : Int32))), .unset, .unset] [(.int (16 : Int32))]) (fun _ _ A kq => XS.bipush A hx rfl (hb hby at_131) kq) ?_
                refine gnewP hx (ow hw 0 rfl) (n := (16 : Int32)) (by decide) (cap := 16) (by decide) (by decide) 135 (hb hby at_133) rfl (by decide) (by decide) ?_
                intro b68 h68 k68 g68 E68 C68 V68 n68 L68
                have z68 := C68.2.1
                have V68 : Arv Z h68 b68 k68 .char (16 : Int32) [(.int (0 : Int32)), (.int (0 : Int32)), (.int (0 : Int32)), (.int (0 : Int32)), (.int (0 : Int32)), (.int (0 : Int32)), (.int (0 : Int32)), (.int (0 : Int32)), (.int (0 : Int32)), (.int (0 : Int32)), (.int (0 : Int32)), (.int (0 : Int32)), (.int (0 : Int32)), (.int (0 : Int32)), (.int (0 : Int32)), (.int (0 : Int32))] (.int (0 : Int32)) := V68.pad (pad_rep [] (.int (0 : Int32)) 16)
                have lt_b68 : h68.size > b68 := V68.lt
                refine gs (mkF m 136 #[.val (.int x0), .val (.int x1), .val (.int x2), .val (.long x3), .second, .val (.long x4), .second, .val (.int (x0 &&& (7 : Int32))), .val (.int (1 : Int32)), .val (.int (x2 &&& (255 : Int32))), .unset, .unset] [(.ref b68), (.ref b68)]) (fun _ _ A kq => XS.dup A hx rfl (hb hby at_135) rfl rfl kq) ?_
                refine gs (mkF m 137 #[.val (.int x0), .val (.int x1), .val (.int x2), .val (.long x3), .second, .val (.long x4), .second, .val (.int (x0 &&& (7 : Int32))), .val (.int (1 : Int32)), .val (.int (x2 &&& (255 : Int32))), .unset, .unset] [(.int (0 : Int32)), (.ref b68), (.ref b68)]) (fun _ _ A kq => XS.iconst A hx rfl (hb hby at_136) kq) ?_
                refine gs (mkF m 139 #[.val (.int x0), .val (.int x1), .val (.int x2), .val (.long x3), .second, .val (.long x4), .second, .val (.int (x0 &&& (7 : Int32))), .val (.int (1 : Int32)), .val (.int (x2 &&& (255 : Int32))), .unset, .unset] [(.int (104 : Int32)), (.int (0 : Int32)), (.ref b68), (.ref b68)]) (fun _ _ A kq => XS.bipush A hx rfl (hb hby at_137) kq) ?_
                refine gstC hx V68 ⟨by decide, by decide⟩ (i := 0) rfl (Nat.le_of_ble_eq_true rfl) (y := (104 : Int32)) (by decide) n68 140 (hb hby at_139) rfl ?_
                intro h69 W69 C69 V69
                have z69 := C69.2.1
                replace V69 : Arv Z h69 b68 k68 .char (16 : Int32) [(.int (104 : Int32)), (.int (0 : Int32)), (.int (0 : Int32)), (.int (0 : Int32)), (.int (0 : Int32)), (.int (0 : Int32)), (.int (0 : Int32)), (.int (0 : Int32)), (.int (0 : Int32)), (.int (0 : Int32)), (.int (0 : Int32)), (.int (0 : Int32)), (.int (0 : Int32)), (.int (0 : Int32)), (.int (0 : Int32)), (.int (0 : Int32))] (.int (0 : Int32)) := V69
                refine gs (mkF m 141 #[.val (.int x0), .val (.int x1), .val (.int x2), .val (.long x3), .second, .val (.long x4), .second, .val (.int (x0 &&& (7 : Int32))), .val (.int (1 : Int32)), .val (.int (x2 &&& (255 : Int32))), .unset, .unset] [(.ref b68), (.ref b68)]) (fun _ _ A kq => XS.dup A hx rfl (hb hby at_140) rfl rfl kq) ?_
                refine gs (mkF m 142 #[.val (.int x0), .val (.int x1), .val (.int x2), .val (.long x3), .second, .val (.long x4), .second, .val (.int (x0 &&& (7 : Int32))), .val (.int (1 : Int32)), .val (.int (x2 &&& (255 : Int32))), .unset, .unset] [(.int (1 : Int32)), (.ref b68), (.ref b68)]) (fun _ _ A kq => XS.iconst A hx rfl (hb hby at_141) kq) ?_
                refine gs (mkF m 144 #[.val (.int x0), .val (.int x1), .val (.int x2), .val (.long x3), .second, .val (.long x4), .second, .val (.int (x0 &&& (7 : Int32))), .val (.int (1 : Int32)), .val (.int (x2 &&& (255 : Int32))), .unset, .unset] [(.int (105 : Int32)), (.int (1 : Int32)), (.ref b68), (.ref b68)]) (fun _ _ A kq => XS.bipush A hx rfl (hb hby at_142) kq) ?_
                refine gstC hx V69 ⟨by decide, by decide⟩ (i := 1) rfl (Nat.le_of_ble_eq_true rfl) (y := (105 : Int32)) (by decide) n68 145 (hb hby at_144) rfl ?_
                intro h70 W70 C70 V70
                have z70 := C70.2.1
                replace V70 : Arv Z h70 b68 k68 .char (16 : Int32) [(.int (104 : Int32)), (.int (105 : Int32)), (.int (0 : Int32)), (.int (0 : Int32)), (.int (0 : Int32)), (.int (0 : Int32)), (.int (0 : Int32)), (.int (0 : Int32)), (.int (0 : Int32)), (.int (0 : Int32)), (.int (0 : Int32)), (.int (0 : Int32)), (.int (0 : Int32)), (.int (0 : Int32)), (.int (0 : Int32)), (.int (0 : Int32))] (.int (0 : Int32)) := V70
                refine gs (mkF m 146 #[.val (.int x0), .val (.int x1), .val (.int x2), .val (.long x3), .second, .val (.long x4), .second, .val (.int (x0 &&& (7 : Int32))), .val (.int (1 : Int32)), .val (.int (x2 &&& (255 : Int32))), .unset, .unset] [(.ref b68), (.ref b68)]) (fun _ _ A kq => XS.dup A hx rfl (hb hby at_145) rfl rfl kq) ?_
                refine gs (mkF m 147 #[.val (.int x0), .val (.int x1), .val (.int x2), .val (.long x3), .second, .val (.long x4), .second, .val (.int (x0 &&& (7 : Int32))), .val (.int (1 : Int32)), .val (.int (x2 &&& (255 : Int32))), .unset, .unset] [(.int (2 : Int32)), (.ref b68), (.ref b68)]) (fun _ _ A kq => XS.iconst A hx rfl (hb hby at_146) kq) ?_
                refine gs (mkF m 149 #[.val (.int x0), .val (.int x1), .val (.int x2), .val (.long x3), .second, .val (.long x4), .second, .val (.int (x0 &&& (7 : Int32))), .val (.int (1 : Int32)), .val (.int (x2 &&& (255 : Int32))), .unset, .unset] [(.int (103 : Int32)), (.int (2 : Int32)), (.ref b68), (.ref b68)]) (fun _ _ A kq => XS.bipush A hx rfl (hb hby at_147) kq) ?_
                refine gstC hx V70 ⟨by decide, by decide⟩ (i := 2) rfl (Nat.le_of_ble_eq_true rfl) (y := (103 : Int32)) (by decide) n68 150 (hb hby at_149) rfl ?_
                intro h71 W71 C71 V71
                have z71 := C71.2.1
                replace V71 : Arv Z h71 b68 k68 .char (16 : Int32) [(.int (104 : Int32)), (.int (105 : Int32)), (.int (103 : Int32)), (.int (0 : Int32)), (.int (0 : Int32)), (.int (0 : Int32)), (.int (0 : Int32)), (.int (0 : Int32)), (.int (0 : Int32)), (.int (0 : Int32)), (.int (0 : Int32)), (.int (0 : Int32)), (.int (0 : Int32)), (.int (0 : Int32)), (.int (0 : Int32)), (.int (0 : Int32))] (.int (0 : Int32)) := V71
                refine gs (mkF m 151 #[.val (.int x0), .val (.int x1), .val (.int x2), .val (.long x3), .second, .val (.long x4), .second, .val (.int (x0 &&& (7 : Int32))), .val (.int (1 : Int32)), .val (.int (x2 &&& (255 : Int32))), .unset, .unset] [(.ref b68), (.ref b68)]) (fun _ _ A kq => XS.dup A hx rfl (hb hby at_150) rfl rfl kq) ?_
                refine gs (mkF m 152 #[.val (.int x0), .val (.int x1), .val (.int x2), .val (.long x3), .second, .val (.long x4), .second, .val (.int (x0 &&& (7 : Int32))), .val (.int (1 : Int32)), .val (.int (x2 &&& (255 : Int32))), .unset, .unset] [(.int (3 : Int32)), (.ref b68), (.ref b68)]) (fun _ _ A kq => XS.iconst A hx rfl (hb hby at_151) kq) ?_
                refine gs (mkF m 154 #[.val (.int x0), .val (.int x1), .val (.int x2), .val (.long x3), .second, .val (.long x4), .second, .val (.int (x0 &&& (7 : Int32))), .val (.int (1 : Int32)), .val (.int (x2 &&& (255 : Int32))), .unset, .unset] [(.int (104 : Int32)), (.int (3 : Int32)), (.ref b68), (.ref b68)]) (fun _ _ A kq => XS.bipush A hx rfl (hb hby at_152) kq) ?_
                refine gstC hx V71 ⟨by decide, by decide⟩ (i := 3) rfl (Nat.le_of_ble_eq_true rfl) (y := (104 : Int32)) (by decide) n68 155 (hb hby at_154) rfl ?_
                intro h72 W72 C72 V72
                have z72 := C72.2.1
                replace V72 : Arv Z h72 b68 k68 .char (16 : Int32) [(.int (104 : Int32)), (.int (105 : Int32)), (.int (103 : Int32)), (.int (104 : Int32)), (.int (0 : Int32)), (.int (0 : Int32)), (.int (0 : Int32)), (.int (0 : Int32)), (.int (0 : Int32)), (.int (0 : Int32)), (.int (0 : Int32)), (.int (0 : Int32)), (.int (0 : Int32)), (.int (0 : Int32)), (.int (0 : Int32)), (.int (0 : Int32))] (.int (0 : Int32)) := V72
                refine gs (mkF m 156 #[.val (.int x0), .val (.int x1), .val (.int x2), .val (.long x3), .second, .val (.long x4), .second, .val (.int (x0 &&& (7 : Int32))), .val (.int (1 : Int32)), .val (.int (x2 &&& (255 : Int32))), .unset, .unset] [(.ref b68), (.ref b68)]) (fun _ _ A kq => XS.dup A hx rfl (hb hby at_155) rfl rfl kq) ?_
                refine gs (mkF m 157 #[.val (.int x0), .val (.int x1), .val (.int x2), .val (.long x3), .second, .val (.long x4), .second, .val (.int (x0 &&& (7 : Int32))), .val (.int (1 : Int32)), .val (.int (x2 &&& (255 : Int32))), .unset, .unset] [(.int (4 : Int32)), (.ref b68), (.ref b68)]) (fun _ _ A kq => XS.iconst A hx rfl (hb hby at_156) kq) ?_
                refine gs (mkF m 159 #[.val (.int x0), .val (.int x1), .val (.int x2), .val (.long x3), .second, .val (.long x4), .second, .val (.int (x0 &&& (7 : Int32))), .val (.int (1 : Int32)), .val (.int (x2 &&& (255 : Int32))), .unset, .unset] [(.int (108 : Int32)), (.int (4 : Int32)), (.ref b68), (.ref b68)]) (fun _ _ A kq => XS.bipush A hx rfl (hb hby at_157) kq) ?_
                refine gstC hx V72 ⟨by decide, by decide⟩ (i := 4) rfl (Nat.le_of_ble_eq_true rfl) (y := (108 : Int32)) (by decide) n68 160 (hb hby at_159) rfl ?_
                intro h73 W73 C73 V73
                have z73 := C73.2.1
                replace V73 : Arv Z h73 b68 k68 .char (16 : Int32) [(.int (104 : Int32)), (.int (105 : Int32)), (.int (103 : Int32)), (.int (104 : Int32)), (.int (108 : Int32)), (.int (0 : Int32)), (.int (0 : Int32)), (.int (0 : Int32)), (.int (0 : Int32)), (.int (0 : Int32)), (.int (0 : Int32)), (.int (0 : Int32)), (.int (0 : Int32)), (.int (0 : Int32)), (.int (0 : Int32)), (.int (0 : Int32))] (.int (0 : Int32)) := V73
                refine gs (mkF m 161 #[.val (.int x0), .val (.int x1), .val (.int x2), .val (.long x3), .second, .val (.long x4), .second, .val (.int (x0 &&& (7 : Int32))), .val (.int (1 : Int32)), .val (.int (x2 &&& (255 : Int32))), .unset, .unset] [(.ref b68), (.ref b68)]) (fun _ _ A kq => XS.dup A hx rfl (hb hby at_160) rfl rfl kq) ?_
                refine gs (mkF m 162 #[.val (.int x0), .val (.int x1), .val (.int x2), .val (.long x3), .second, .val (.long x4), .second, .val (.int (x0 &&& (7 : Int32))), .val (.int (1 : Int32)), .val (.int (x2 &&& (255 : Int32))), .unset, .unset] [(.int (5 : Int32)), (.ref b68), (.ref b68)]) (fun _ _ A kq => XS.iconst A hx rfl (hb hby at_161) kq) ?_
                refine gs (mkF m 164 #[.val (.int x0), .val (.int x1), .val (.int x2), .val (.long x3), .second, .val (.long x4), .second, .val (.int (x0 &&& (7 : Int32))), .val (.int (1 : Int32)), .val (.int (x2 &&& (255 : Int32))), .unset, .unset] [(.int (121 : Int32)), (.int (5 : Int32)), (.ref b68), (.ref b68)]) (fun _ _ A kq => XS.bipush A hx rfl (hb hby at_162) kq) ?_
                refine gstC hx V73 ⟨by decide, by decide⟩ (i := 5) rfl (Nat.le_of_ble_eq_true rfl) (y := (121 : Int32)) (by decide) n68 165 (hb hby at_164) rfl ?_
                intro h74 W74 C74 V74
                have z74 := C74.2.1
                replace V74 : Arv Z h74 b68 k68 .char (16 : Int32) [(.int (104 : Int32)), (.int (105 : Int32)), (.int (103 : Int32)), (.int (104 : Int32)), (.int (108 : Int32)), (.int (121 : Int32)), (.int (0 : Int32)), (.int (0 : Int32)), (.int (0 : Int32)), (.int (0 : Int32)), (.int (0 : Int32)), (.int (0 : Int32)), (.int (0 : Int32)), (.int (0 : Int32)), (.int (0 : Int32)), (.int (0 : Int32))] (.int (0 : Int32)) := V74
                refine gs (mkF m 166 #[.val (.int x0), .val (.int x1), .val (.int x2), .val (.long x3), .second, .val (.long x4), .second, .val (.int (x0 &&& (7 : Int32))), .val (.int (1 : Int32)), .val (.int (x2 &&& (255 : Int32))), .unset, .unset] [(.ref b68), (.ref b68)]) (fun _ _ A kq => XS.dup A hx rfl (hb hby at_165) rfl rfl kq) ?_
                refine gs (mkF m 168 #[.val (.int x0), .val (.int x1), .val (.int x2), .val (.long x3), .second, .val (.long x4), .second, .val (.int (x0 &&& (7 : Int32))), .val (.int (1 : Int32)), .val (.int (x2 &&& (255 : Int32))), .unset, .unset] [(.int (6 : Int32)), (.ref b68), (.ref b68)]) (fun _ _ A kq => XS.bipush A hx rfl (hb hby at_166) kq) ?_
                refine gs (mkF m 170 #[.val (.int x0), .val (.int x1), .val (.int x2), .val (.long x3), .second, .val (.long x4), .second, .val (.int (x0 &&& (7 : Int32))), .val (.int (1 : Int32)), .val (.int (x2 &&& (255 : Int32))), .unset, .unset] [(.int (95 : Int32)), (.int (6 : Int32)), (.ref b68), (.ref b68)]) (fun _ _ A kq => XS.bipush A hx rfl (hb hby at_168) kq) ?_
                refine gstC hx V74 ⟨by decide, by decide⟩ (i := 6) rfl (Nat.le_of_ble_eq_true rfl) (y := (95 : Int32)) (by decide) n68 171 (hb hby at_170) rfl ?_
                intro h75 W75 C75 V75
                have z75 := C75.2.1
                replace V75 : Arv Z h75 b68 k68 .char (16 : Int32) [(.int (104 : Int32)), (.int (105 : Int32)), (.int (103 : Int32)), (.int (104 : Int32)), (.int (108 : Int32)), (.int (121 : Int32)), (.int (95 : Int32)), (.int (0 : Int32)), (.int (0 : Int32)), (.int (0 : Int32)), (.int (0 : Int32)), (.int (0 : Int32)), (.int (0 : Int32)), (.int (0 : Int32)), (.int (0 : Int32)), (.int (0 : Int32))] (.int (0 : Int32)) := V75
                refine gs (mkF m 172 #[.val (.int x0), .val (.int x1), .val (.int x2), .val (.long x3), .second, .val (.long x4), .second, .val (.int (x0 &&& (7 : Int32))), .val (.int (1 : Int32)), .val (.int (x2 &&& (255 : Int32))), .unset, .unset] [(.ref b68), (.ref b68)]) (fun _ _ A kq => XS.dup A hx rfl (hb hby at_171) rfl rfl kq) ?_
                refine gs (mkF m 174 #[.val (.int x0), .val (.int x1), .val (.int x2), .val (.long x3), .second, .val (.long x4), .second, .val (.int (x0 &&& (7 : Int32))), .val (.int (1 : Int32)), .val (.int (x2 &&& (255 : Int32))), .unset, .unset] [(.int (7 : Int32)), (.ref b68), (.ref b68)]) (fun _ _ A kq => XS.bipush A hx rfl (hb hby at_172) kq) ?_
                refine gs (mkF m 176 #[.val (.int x0), .val (.int x1), .val (.int x2), .val (.long x3), .second, .val (.long x4), .second, .val (.int (x0 &&& (7 : Int32))), .val (.int (1 : Int32)), .val (.int (x2 &&& (255 : Int32))), .unset, .unset] [(.int (97 : Int32)), (.int (7 : Int32)), (.ref b68), (.ref b68)]) (fun _ _ A kq => XS.bipush A hx rfl (hb hby at_174) kq) ?_
                refine gstC hx V75 ⟨by decide, by decide⟩ (i := 7) rfl (Nat.le_of_ble_eq_true rfl) (y := (97 : Int32)) (by decide) n68 177 (hb hby at_176) rfl ?_
                intro h76 W76 C76 V76
                have z76 := C76.2.1
                replace V76 : Arv Z h76 b68 k68 .char (16 : Int32) [(.int (104 : Int32)), (.int (105 : Int32)), (.int (103 : Int32)), (.int (104 : Int32)), (.int (108 : Int32)), (.int (121 : Int32)), (.int (95 : Int32)), (.int (97 : Int32)), (.int (0 : Int32)), (.int (0 : Int32)), (.int (0 : Int32)), (.int (0 : Int32)), (.int (0 : Int32)), (.int (0 : Int32)), (.int (0 : Int32)), (.int (0 : Int32))] (.int (0 : Int32)) := V76
                refine gs (mkF m 178 #[.val (.int x0), .val (.int x1), .val (.int x2), .val (.long x3), .second, .val (.long x4), .second, .val (.int (x0 &&& (7 : Int32))), .val (.int (1 : Int32)), .val (.int (x2 &&& (255 : Int32))), .unset, .unset] [(.ref b68), (.ref b68)]) (fun _ _ A kq => XS.dup A hx rfl (hb hby at_177) rfl rfl kq) ?_
                refine gs (mkF m 180 #[.val (.int x0), .val (.int x1), .val (.int x2), .val (.long x3), .second, .val (.long x4), .second, .val (.int (x0 &&& (7 : Int32))), .val (.int (1 : Int32)), .val (.int (x2 &&& (255 : Int32))), .unset, .unset] [(.int (8 : Int32)), (.ref b68), (.ref b68)]) (fun _ _ A kq => XS.bipush A hx rfl (hb hby at_178) kq) ?_
                refine gs (mkF m 182 #[.val (.int x0), .val (.int x1), .val (.int x2), .val (.long x3), .second, .val (.long x4), .second, .val (.int (x0 &&& (7 : Int32))), .val (.int (1 : Int32)), .val (.int (x2 &&& (255 : Int32))), .unset, .unset] [(.int (118 : Int32)), (.int (8 : Int32)), (.ref b68), (.ref b68)]) (fun _ _ A kq => XS.bipush A hx rfl (hb hby at_180) kq) ?_
                refine gstC hx V76 ⟨by decide, by decide⟩ (i := 8) rfl (Nat.le_of_ble_eq_true rfl) (y := (118 : Int32)) (by decide) n68 183 (hb hby at_182) rfl ?_
                intro h77 W77 C77 V77
                have z77 := C77.2.1
                replace V77 : Arv Z h77 b68 k68 .char (16 : Int32) [(.int (104 : Int32)), (.int (105 : Int32)), (.int (103 : Int32)), (.int (104 : Int32)), (.int (108 : Int32)), (.int (121 : Int32)), (.int (95 : Int32)), (.int (97 : Int32)), (.int (118 : Int32)), (.int (0 : Int32)), (.int (0 : Int32)), (.int (0 : Int32)), (.int (0 : Int32)), (.int (0 : Int32)), (.int (0 : Int32)), (.int (0 : Int32))] (.int (0 : Int32)) := V77
                refine gs (mkF m 184 #[.val (.int x0), .val (.int x1), .val (.int x2), .val (.long x3), .second, .val (.long x4), .second, .val (.int (x0 &&& (7 : Int32))), .val (.int (1 : Int32)), .val (.int (x2 &&& (255 : Int32))), .unset, .unset] [(.ref b68), (.ref b68)]) (fun _ _ A kq => XS.dup A hx rfl (hb hby at_183) rfl rfl kq) ?_
                refine gs (mkF m 186 #[.val (.int x0), .val (.int x1), .val (.int x2), .val (.long x3), .second, .val (.long x4), .second, .val (.int (x0 &&& (7 : Int32))), .val (.int (1 : Int32)), .val (.int (x2 &&& (255 : Int32))), .unset, .unset] [(.int (9 : Int32)), (.ref b68), (.ref b68)]) (fun _ _ A kq => XS.bipush A hx rfl (hb hby at_184) kq) ?_
                refine gs (mkF m 188 #[.val (.int x0), .val (.int x1), .val (.int x2), .val (.long x3), .second, .val (.long x4), .second, .val (.int (x0 &&& (7 : Int32))), .val (.int (1 : Int32)), .val (.int (x2 &&& (255 : Int32))), .unset, .unset] [(.int (97 : Int32)), (.int (9 : Int32)), (.ref b68), (.ref b68)]) (fun _ _ A kq => XS.bipush A hx rfl (hb hby at_186) kq) ?_
                refine gstC hx V77 ⟨by decide, by decide⟩ (i := 9) rfl (Nat.le_of_ble_eq_true rfl) (y := (97 : Int32)) (by decide) n68 189 (hb hby at_188) rfl ?_
                intro h78 W78 C78 V78
                have z78 := C78.2.1
                replace V78 : Arv Z h78 b68 k68 .char (16 : Int32) [(.int (104 : Int32)), (.int (105 : Int32)), (.int (103 : Int32)), (.int (104 : Int32)), (.int (108 : Int32)), (.int (121 : Int32)), (.int (95 : Int32)), (.int (97 : Int32)), (.int (118 : Int32)), (.int (97 : Int32)), (.int (0 : Int32)), (.int (0 : Int32)), (.int (0 : Int32)), (.int (0 : Int32)), (.int (0 : Int32)), (.int (0 : Int32))] (.int (0 : Int32)) := V78
                refine gs (mkF m 190 #[.val (.int x0), .val (.int x1), .val (.int x2), .val (.long x3), .second, .val (.long x4), .second, .val (.int (x0 &&& (7 : Int32))), .val (.int (1 : Int32)), .val (.int (x2 &&& (255 : Int32))), .unset, .unset] [(.ref b68), (.ref b68)]) (fun _ _ A kq => XS.dup A hx rfl (hb hby at_189) rfl rfl kq) ?_
                refine gs (mkF m 192 #[.val (.int x0), .val (.int x1), .val (.int x2), .val (.long x3), .second, .val (.long x4), .second, .val (.int (x0 &&& (7 : Int32))), .val (.int (1 : Int32)), .val (.int (x2 &&& (255 : Int32))), .unset, .unset] [(.int (10 : Int32)), (.ref b68), (.ref b68)]) (fun _ _ A kq => XS.bipush A hx rfl (hb hby at_190) kq) ?_
                refine gs (mkF m 194 #[.val (.int x0), .val (.int x1), .val (.int x2), .val (.long x3), .second, .val (.long x4), .second, .val (.int (x0 &&& (7 : Int32))), .val (.int (1 : Int32)), .val (.int (x2 &&& (255 : Int32))), .unset, .unset] [(.int (105 : Int32)), (.int (10 : Int32)), (.ref b68), (.ref b68)]) (fun _ _ A kq => XS.bipush A hx rfl (hb hby at_192) kq) ?_
                refine gstC hx V78 ⟨by decide, by decide⟩ (i := 10) rfl (Nat.le_of_ble_eq_true rfl) (y := (105 : Int32)) (by decide) n68 195 (hb hby at_194) rfl ?_
                intro h79 W79 C79 V79
                have z79 := C79.2.1
                replace V79 : Arv Z h79 b68 k68 .char (16 : Int32) [(.int (104 : Int32)), (.int (105 : Int32)), (.int (103 : Int32)), (.int (104 : Int32)), (.int (108 : Int32)), (.int (121 : Int32)), (.int (95 : Int32)), (.int (97 : Int32)), (.int (118 : Int32)), (.int (97 : Int32)), (.int (105 : Int32)), (.int (0 : Int32)), (.int (0 : Int32)), (.int (0 : Int32)), (.int (0 : Int32)), (.int (0 : Int32))] (.int (0 : Int32)) := V79
                refine gs (mkF m 196 #[.val (.int x0), .val (.int x1), .val (.int x2), .val (.long x3), .second, .val (.long x4), .second, .val (.int (x0 &&& (7 : Int32))), .val (.int (1 : Int32)), .val (.int (x2 &&& (255 : Int32))), .unset, .unset] [(.ref b68), (.ref b68)]) (fun _ _ A kq => XS.dup A hx rfl (hb hby at_195) rfl rfl kq) ?_
                refine gs (mkF m 198 #[.val (.int x0), .val (.int x1), .val (.int x2), .val (.long x3), .second, .val (.long x4), .second, .val (.int (x0 &&& (7 : Int32))), .val (.int (1 : Int32)), .val (.int (x2 &&& (255 : Int32))), .unset, .unset] [(.int (11 : Int32)), (.ref b68), (.ref b68)]) (fun _ _ A kq => XS.bipush A hx rfl (hb hby at_196) kq) ?_
                refine gs (mkF m 200 #[.val (.int x0), .val (.int x1), .val (.int x2), .val (.long x3), .second, .val (.long x4), .second, .val (.int (x0 &&& (7 : Int32))), .val (.int (1 : Int32)), .val (.int (x2 &&& (255 : Int32))), .unset, .unset] [(.int (108 : Int32)), (.int (11 : Int32)), (.ref b68), (.ref b68)]) (fun _ _ A kq => XS.bipush A hx rfl (hb hby at_198) kq) ?_
                refine gstC hx V79 ⟨by decide, by decide⟩ (i := 11) rfl (Nat.le_of_ble_eq_true rfl) (y := (108 : Int32)) (by decide) n68 201 (hb hby at_200) rfl ?_
                intro h80 W80 C80 V80
                have z80 := C80.2.1
                replace V80 : Arv Z h80 b68 k68 .char (16 : Int32) [(.int (104 : Int32)), (.int (105 : Int32)), (.int (103 : Int32)), (.int (104 : Int32)), (.int (108 : Int32)), (.int (121 : Int32)), (.int (95 : Int32)), (.int (97 : Int32)), (.int (118 : Int32)), (.int (97 : Int32)), (.int (105 : Int32)), (.int (108 : Int32)), (.int (0 : Int32)), (.int (0 : Int32)), (.int (0 : Int32)), (.int (0 : Int32))] (.int (0 : Int32)) := V80
                refine gs (mkF m 202 #[.val (.int x0), .val (.int x1), .val (.int x2), .val (.long x3), .second, .val (.long x4), .second, .val (.int (x0 &&& (7 : Int32))), .val (.int (1 : Int32)), .val (.int (x2 &&& (255 : Int32))), .unset, .unset] [(.ref b68), (.ref b68)]) (fun _ _ A kq => XS.dup A hx rfl (hb hby at_201) rfl rfl kq) ?_
                refine gs (mkF m 204 #[.val (.int x0), .val (.int x1), .val (.int x2), .val (.long x3), .second, .val (.long x4), .second, .val (.int (x0 &&& (7 : Int32))), .val (.int (1 : Int32)), .val (.int (x2 &&& (255 : Int32))), .unset, .unset] [(.int (12 : Int32)), (.ref b68), (.ref b68)]) (fun _ _ A kq => XS.bipush A hx rfl (hb hby at_202) kq) ?_
                refine gs (mkF m 206 #[.val (.int x0), .val (.int x1), .val (.int x2), .val (.long x3), .second, .val (.long x4), .second, .val (.int (x0 &&& (7 : Int32))), .val (.int (1 : Int32)), .val (.int (x2 &&& (255 : Int32))), .unset, .unset] [(.int (97 : Int32)), (.int (12 : Int32)), (.ref b68), (.ref b68)]) (fun _ _ A kq => XS.bipush A hx rfl (hb hby at_204) kq) ?_
                refine gstC hx V80 ⟨by decide, by decide⟩ (i := 12) rfl (Nat.le_of_ble_eq_true rfl) (y := (97 : Int32)) (by decide) n68 207 (hb hby at_206) rfl ?_
                intro h81 W81 C81 V81
                have z81 := C81.2.1
                replace V81 : Arv Z h81 b68 k68 .char (16 : Int32) [(.int (104 : Int32)), (.int (105 : Int32)), (.int (103 : Int32)), (.int (104 : Int32)), (.int (108 : Int32)), (.int (121 : Int32)), (.int (95 : Int32)), (.int (97 : Int32)), (.int (118 : Int32)), (.int (97 : Int32)), (.int (105 : Int32)), (.int (108 : Int32)), (.int (97 : Int32)), (.int (0 : Int32)), (.int (0 : Int32)), (.int (0 : Int32))] (.int (0 : Int32)) := V81
                refine gs (mkF m 208 #[.val (.int x0), .val (.int x1), .val (.int x2), .val (.long x3), .second, .val (.long x4), .second, .val (.int (x0 &&& (7 : Int32))), .val (.int (1 : Int32)), .val (.int (x2 &&& (255 : Int32))), .unset, .unset] [(.ref b68), (.ref b68)]) (fun _ _ A kq => XS.dup A hx rfl (hb hby at_207) rfl rfl kq) ?_
                refine gs (mkF m 210 #[.val (.int x0), .val (.int x1), .val (.int x2), .val (.long x3), .second, .val (.long x4), .second, .val (.int (x0 &&& (7 : Int32))), .val (.int (1 : Int32)), .val (.int (x2 &&& (255 : Int32))), .unset, .unset] [(.int (13 : Int32)), (.ref b68), (.ref b68)]) (fun _ _ A kq => XS.bipush A hx rfl (hb hby at_208) kq) ?_
                refine gs (mkF m 212 #[.val (.int x0), .val (.int x1), .val (.int x2), .val (.long x3), .second, .val (.long x4), .second, .val (.int (x0 &&& (7 : Int32))), .val (.int (1 : Int32)), .val (.int (x2 &&& (255 : Int32))), .unset, .unset] [(.int (98 : Int32)), (.int (13 : Int32)), (.ref b68), (.ref b68)]) (fun _ _ A kq => XS.bipush A hx rfl (hb hby at_210) kq) ?_
                refine gstC hx V81 ⟨by decide, by decide⟩ (i := 13) rfl (Nat.le_of_ble_eq_true rfl) (y := (98 : Int32)) (by decide) n68 213 (hb hby at_212) rfl ?_
                intro h82 W82 C82 V82
                have z82 := C82.2.1
                replace V82 : Arv Z h82 b68 k68 .char (16 : Int32) [(.int (104 : Int32)), (.int (105 : Int32)), (.int (103 : Int32)), (.int (104 : Int32)), (.int (108 : Int32)), (.int (121 : Int32)), (.int (95 : Int32)), (.int (97 : Int32)), (.int (118 : Int32)), (.int (97 : Int32)), (.int (105 : Int32)), (.int (108 : Int32)), (.int (97 : Int32)), (.int (98 : Int32)), (.int (0 : Int32)), (.int (0 : Int32))] (.int (0 : Int32)) := V82
                refine gs (mkF m 214 #[.val (.int x0), .val (.int x1), .val (.int x2), .val (.long x3), .second, .val (.long x4), .second, .val (.int (x0 &&& (7 : Int32))), .val (.int (1 : Int32)), .val (.int (x2 &&& (255 : Int32))), .unset, .unset] [(.ref b68), (.ref b68)]) (fun _ _ A kq => XS.dup A hx rfl (hb hby at_213) rfl rfl kq) ?_
                refine gs (mkF m 216 #[.val (.int x0), .val (.int x1), .val (.int x2), .val (.long x3), .second, .val (.long x4), .second, .val (.int (x0 &&& (7 : Int32))), .val (.int (1 : Int32)), .val (.int (x2 &&& (255 : Int32))), .unset, .unset] [(.int (14 : Int32)), (.ref b68), (.ref b68)]) (fun _ _ A kq => XS.bipush A hx rfl (hb hby at_214) kq) ?_
                refine gs (mkF m 218 #[.val (.int x0), .val (.int x1), .val (.int x2), .val (.long x3), .second, .val (.long x4), .second, .val (.int (x0 &&& (7 : Int32))), .val (.int (1 : Int32)), .val (.int (x2 &&& (255 : Int32))), .unset, .unset] [(.int (108 : Int32)), (.int (14 : Int32)), (.ref b68), (.ref b68)]) (fun _ _ A kq => XS.bipush A hx rfl (hb hby at_216) kq) ?_
                refine gstC hx V82 ⟨by decide, by decide⟩ (i := 14) rfl (Nat.le_of_ble_eq_true rfl) (y := (108 : Int32)) (by decide) n68 219 (hb hby at_218) rfl ?_
                intro h83 W83 C83 V83
                have z83 := C83.2.1
                replace V83 : Arv Z h83 b68 k68 .char (16 : Int32) [(.int (104 : Int32)), (.int (105 : Int32)), (.int (103 : Int32)), (.int (104 : Int32)), (.int (108 : Int32)), (.int (121 : Int32)), (.int (95 : Int32)), (.int (97 : Int32)), (.int (118 : Int32)), (.int (97 : Int32)), (.int (105 : Int32)), (.int (108 : Int32)), (.int (97 : Int32)), (.int (98 : Int32)), (.int (108 : Int32)), (.int (0 : Int32))] (.int (0 : Int32)) := V83
                refine gs (mkF m 220 #[.val (.int x0), .val (.int x1), .val (.int x2), .val (.long x3), .second, .val (.long x4), .second, .val (.int (x0 &&& (7 : Int32))), .val (.int (1 : Int32)), .val (.int (x2 &&& (255 : Int32))), .unset, .unset] [(.ref b68), (.ref b68)]) (fun _ _ A kq => XS.dup A hx rfl (hb hby at_219) rfl rfl kq) ?_
                refine gs (mkF m 222 #[.val (.int x0), .val (.int x1), .val (.int x2), .val (.long x3), .second, .val (.long x4), .second, .val (.int (x0 &&& (7 : Int32))), .val (.int (1 : Int32)), .val (.int (x2 &&& (255 : Int32))), .unset, .unset] [(.int (15 : Int32)), (.ref b68), (.ref b68)]) (fun _ _ A kq => XS.bipush A hx rfl (hb hby at_220) kq) ?_
                refine gs (mkF m 224 #[.val (.int x0), .val (.int x1), .val (.int x2), .val (.long x3), .second, .val (.long x4), .second, .val (.int (x0 &&& (7 : Int32))), .val (.int (1 : Int32)), .val (.int (x2 &&& (255 : Int32))), .unset, .unset] [(.int (101 : Int32)), (.int (15 : Int32)), (.ref b68), (.ref b68)]) (fun _ _ A kq => XS.bipush A hx rfl (hb hby at_222) kq) ?_
                refine gstC hx V83 ⟨by decide, by decide⟩ (i := 15) rfl (Nat.le_of_ble_eq_true rfl) (y := (101 : Int32)) (by decide) n68 225 (hb hby at_224) rfl ?_
                intro h84 W84 C84 V84
                have z84 := C84.2.1
                replace V84 : Arv Z h84 b68 k68 .char (16 : Int32) [(.int (104 : Int32)), (.int (105 : Int32)), (.int (103 : Int32)), (.int (104 : Int32)), (.int (108 : Int32)), (.int (121 : Int32)), (.int (95 : Int32)), (.int (97 : Int32)), (.int (118 : Int32)), (.int (97 : Int32)), (.int (105 : Int32)), (.int (108 : Int32)), (.int (97 : Int32)), (.int (98 : Int32)), (.int (108 : Int32)), (.int (101 : Int32))] (.int (0 : Int32)) := V84
                refine gs (mkF m 227 #[.val (.int x0), .val (.int x1), .val (.int x2), .val (.long x3), .second, .val (.long x4), .second, .val (.int (x0 &&& (7 : Int32))), .val (.int (1 : Int32)), .val (.int (x2 &&& (255 : Int32))), .unset, .val (.ref b68)] []) (fun _ _ A kq => XS.astore A hx rfl (hb hby at_225) rfl rfl (l' := #[.val (.int x0), .val (.int x1), .val (.int x2), .val (.long x3), .second, .val (.long x4), .second, .val (.int (x0 &&& (7 : Int32))), .val (.int (1 : Int32)), .val (.int (x2 &&& (255 : Int32))), .unset, .val (.ref b68)]) rfl kq) ?_
                refine gs (mkF m 558 #[.val (.int x0), .val (.int x1), .val (.int x2), .val (.long x3), .second, .val (.long x4), .second, .val (.int (x0 &&& (7 : Int32))), .val (.int (1 : Int32)), .val (.int (x2 &&& (255 : Int32))), .unset, .val (.ref b68)] []) (fun _ _ A kq => XS.goto A hx rfl (pc0 := 227) (pc' := 558) rfl (hb hby at_227) (by decide) (by decide) kq) ?_
                refine gs (mkF m 560 #[.val (.int x0), .val (.int x1), .val (.int x2), .val (.long x3), .second, .val (.long x4), .second, .val (.int (x0 &&& (7 : Int32))), .val (.int (1 : Int32)), .val (.int (x2 &&& (255 : Int32))), .unset, .val (.ref b68)] [(.int (x0 &&& (7 : Int32)))]) (fun _ _ A kq => XS.iload A hx rfl (hb hby at_558) rfl  kq) ?_
                refine gs (mkF m 561 #[.val (.int x0), .val (.int x1), .val (.int x2), .val (.long x3), .second, .val (.long x4), .second, .val (.int (x0 &&& (7 : Int32))), .val (.int (1 : Int32)), .val (.int (x2 &&& (255 : Int32))), .unset, .val (.ref b68)] [(.int (1 : Int32)), (.int (x0 &&& (7 : Int32)))]) (fun _ _ A kq => XS.iconst A hx rfl (hb hby at_560) kq) ?_
                refine gs (mkF m 577 #[.val (.int x0), .val (.int x1), .val (.int x2), .val (.long x3), .second, .val (.long x4), .second, .val (.int (x0 &&& (7 : Int32))), .val (.int (1 : Int32)), .val (.int (x2 &&& (255 : Int32))), .unset, .val (.ref b68)] []) (fun _ _ A kq => XS.icmpYes A hx rfl (pc0 := 561) (pc' := 577) rfl (hb hby at_561) rfl (feq (fun q => absurd (k0.symm.trans q) (by decide))).2 (by decide) (by decide) kq) ?_
                refine gnewO hx (ow hw 1 rfl) (ow hw 2 rfl) (ow hw 3 rfl) 580 (hb hby at_577) rfl (by decide) (by decide) ?_
                intro b85 h85 g85 E85 C85 A85 D85 n85 L85
                have z85 := C85.2.1
                have lt_b85 : h85.size > b85 := A85.lt
                have F85_coder : Fld Z h85 b85 "java/lang/String" "coder" "B" (.int (0 : Int32)) := D85 (Or.inr (ow hw 27 rfl)) (ty := .byte) (by decide)
                have F85_value : Fld Z h85 b85 "java/lang/String" "value" "[B" .null := D85 (Or.inr (ow hw 29 rfl)) (ty := (.array .byte)) (by decide)
                refine gs (mkF m 581 #[.val (.int x0), .val (.int x1), .val (.int x2), .val (.long x3), .second, .val (.long x4), .second, .val (.int (x0 &&& (7 : Int32))), .val (.int (1 : Int32)), .val (.int (x2 &&& (255 : Int32))), .unset, .val (.ref b68)] [(.ref b85), (.ref b85)]) (fun _ _ A kq => XS.dup A hx rfl (hb hby at_580) rfl rfl kq) ?_
                refine gs (mkF m 583 #[.val (.int x0), .val (.int x1), .val (.int x2), .val (.long x3), .second, .val (.long x4), .second, .val (.int (x0 &&& (7 : Int32))), .val (.int (1 : Int32)), .val (.int (x2 &&& (255 : Int32))), .unset, .val (.ref b68)] [(.ref b68), (.ref b85), (.ref b85)]) (fun _ _ A kq => XS.aload A hx rfl (hb hby at_581) rfl rfl kq) ?_
                have f87 := (V84.ext E85)
                refine ginfo fun _ _ O86 => ?_
                refine gcallI (y := (⟨"java/lang/String", "<init>", "([C)V"⟩ : MethodName)) hx rfl (ow hw 4 rfl) (ow hw 5 rfl) (ow hw 6 rfl) (by decide) (fun hZ H hEL => own_payNew (W := 1) (own_wNew hw) (ow hw 2 rfl) Scs hzc O86 (cs := [(104 : Int32), (105 : Int32), (103 : Int32), (104 : Int32), (108 : Int32), (121 : Int32), (95 : Int32), (97 : Int32), (118 : Int32), (97 : Int32), (105 : Int32), (108 : Int32), (97 : Int32), (98 : Int32), (108 : Int32), (101 : Int32)]) (n := 16) n85 A85 F85_value F85_coder f87 rfl rfl (by decide) (by decide) (bcons ⟨by decide, by decide⟩ (bcons ⟨by decide, by decide⟩ (bcons ⟨by decide, by decide⟩ (bcons ⟨by decide, by decide⟩ (bcons ⟨by decide, by decide⟩ (bcons ⟨by decide, by decide⟩ (bcons ⟨by decide, by decide⟩ (bcons ⟨by decide, by decide⟩ (bcons ⟨by decide, by decide⟩ (bcons ⟨by decide, by decide⟩ (bcons ⟨by decide, by decide⟩ (bcons ⟨by decide, by decide⟩ (bcons ⟨by decide, by decide⟩ (bcons ⟨by decide, by decide⟩ (bcons ⟨by decide, by decide⟩ (bcons ⟨by decide, by decide⟩ bnil)))))))))))))))) L85 (by decide) (by decide) hZ H hEL) (a := b85) 586 (argsL := [(.ref b68)]) (rest := [(.ref b85)]) (lenOf own_pd150 rfl) rfl rfl (Nat.le_of_eq rfl) (by rw [hml]; rfl) (hb hby at_583) rfl (by decide) (by decide) ?_
                rintro _ vm86 h86 C86 ⟨t86, rfl, K86, g86, S86⟩
                have z86 := C86.2.1
                have lt_t86 : h86.size > t86 := S86.tlt
                refine gat (mkF m 586 #[.val (.int x0), .val (.int x1), .val (.int x2), .val (.long x3), .second, .val (.long x4), .second, .val (.int (x0 &&& (7 : Int32))), .val (.int (1 : Int32)), .val (.int (x2 &&& (255 : Int32))), .unset, .val (.ref b68)] [(.ref b85)]) rfl ?_
                refine gs (mkF m 588 #[.val (.int x0), .val (.int x1), .val (.int x2), .val (.long x3), .second, .val (.long x4), .second, .val (.int (x0 &&& (7 : Int32))), .val (.int (1 : Int32)), .val (.int (x2 &&& (255 : Int32))), .val (.ref b85), .val (.ref b68)] []) (fun _ _ A kq => XS.astore A hx rfl (hb hby at_586) rfl rfl (l' := #[.val (.int x0), .val (.int x1), .val (.int x2), .val (.long x3), .second, .val (.long x4), .second, .val (.int (x0 &&& (7 : Int32))), .val (.int (1 : Int32)), .val (.int (x2 &&& (255 : Int32))), .val (.ref b85), .val (.ref b68)]) rfl kq) ?_
                exact gmono (by decide) (by decide) (J65 _ _ _ ⟨b85, t86, [(104 : Int32), (105 : Int32), (103 : Int32), (104 : Int32), (108 : Int32), (121 : Int32), (95 : Int32), (97 : Int32), (118 : Int32), (97 : Int32), (105 : Int32), (108 : Int32), (97 : Int32), (98 : Int32), (108 : Int32), (101 : Int32)], (.val (.ref b68)), rfl, ((((((((((((((((((((Keep.refl h0 []).ext E68).wr W69 (Or.inr (by omega))).wr W70 (Or.inr (by omega))).wr W71 (Or.inr (by omega))).wr W72 (Or.inr (by omega))).wr W73 (Or.inr (by omega))).wr W74 (Or.inr (by omega))).wr W75 (Or.inr (by omega))).wr W76 (Or.inr (by omega))).wr W77 (Or.inr (by omega))).wr W78 (Or.inr (by omega))).wr W79 (Or.inr (by omega))).wr W80 (Or.inr (by omega))).wr W81 (Or.inr (by omega))).wr W82 (Or.inr (by omega))).wr W83 (Or.inr (by omega))).wr W84 (Or.inr (by omega))).ext E85).trans K86 (allS (Or.inr (by omega)) all0)), ((((((((((((((((((C68.trans C69).trans C70).trans C71).trans C72).trans C73).trans C74).trans C75).trans C76).trans C77).trans C78).trans C79).trans C80).trans C81).trans C82).trans C83).trans C84).trans C85).trans C86), S86⟩)
              · refine gs (mkF m 120 #[.val (.int x0), .val (.int x1), .val (.int x2), .val (.long x3), .second, .val (.long x4), .second, .val (.int (x0 &&& (7 : Int32))), .val (.int (1 : Int32)), .val (.int (x2 &&& (255 : Int32))), .unset, .unset] []) (fun _ _ A kq => XS.ifNo A hx rfl (hb hby at_117) rfl ((if0 _ _).trans (feq k0).1) kq) ?_
                refine gs (mkF m 122 #[.val (.int x0), .val (.int x1), .val (.int x2), .val (.long x3), .second, .val (.long x4), .second, .val (.int (x0 &&& (7 : Int32))), .val (.int (1 : Int32)), .val (.int (x2 &&& (255 : Int32))), .unset, .unset] [(.int (x0 &&& (7 : Int32)))]) (fun _ _ A kq => XS.iload A hx rfl (hb hby at_120) rfl  kq) ?_
                refine gs (mkF m 123 #[.val (.int x0), .val (.int x1), .val (.int x2), .val (.long x3), .second, .val (.long x4), .second, .val (.int (x0 &&& (7 : Int32))), .val (.int (1 : Int32)), .val (.int (x2 &&& (255 : Int32))), .unset, .unset] [(.int (1 : Int32)), (.int (x0 &&& (7 : Int32)))]) (fun _ _ A kq => XS.iconst A hx rfl (hb hby at_122) kq) ?_
                by_cases k1 : (x0 &&& (7 : Int32)) = (1 : Int32)
                · refine gs (mkF m 126 #[.val (.int x0), .val (.int x1), .val (.int x2), .val (.long x3), .second, .val (.long x4), .second, .val (.int (x0 &&& (7 : Int32))), .val (.int (1 : Int32)), .val (.int (x2 &&& (255 : Int32))), .unset, .unset] []) (fun _ _ A kq => XS.icmpNo A hx rfl (hb hby at_123) rfl (teq k1).2 kq) ?_
                  refine gs (mkF m 128 #[.val (.int x0), .val (.int x1), .val (.int x2), .val (.long x3), .second, .val (.long x4), .second, .val (.int (x0 &&& (7 : Int32))), .val (.int (1 : Int32)), .val (.int (x2 &&& (255 : Int32))), .unset, .unset] [(.int (1 : Int32))]) (fun _ _ A kq => XS.iload A hx rfl (hb hby at_126) rfl  kq) ?_
                  refine gs (mkF m 131 #[.val (.int x0), .val (.int x1), .val (.int x2), .val (.long x3), .second, .val (.long x4), .second, .val (.int (x0 &&& (7 : Int32))), .val (.int (1 : Int32)), .val (.int (x2 &&& (255 : Int32))), .unset, .unset] []) (fun _ _ A kq => XS.ifNo A hx rfl (hb hby at_128) rfl ((if0 _ _).trans (feq (by decide)).1) kq) ?_
                  refine gs (mkF m 133 #[.val (.int x0), .val (.int x1), .val (.int x2), .val (.long x3), .second, .val (.long x4), .second, .val (.int (x0 &&& (7 : Int32))), .val (.int (1 : Int32)), .val (.int (x2 &&& (255 : Int32))), .unset, .unset] [(.int (16 : Int32))]) (fun _ _ A kq => XS.bipush A hx rfl (hb hby at_131) kq) ?_
                  refine gnewP hx (ow hw 0 rfl) (n := (16 : Int32)) (by decide) (cap := 16) (by decide) (by decide) 135 (hb hby at_133) rfl (by decide) (by decide) ?_
                  intro b88 h88 k88 g88 E88 C88 V88 n88 L88
                  have z88 := C88.2.1
                  have V88 : Arv Z h88 b88 k88 .char (16 : Int32) [(.int (0 : Int32)), (.int (0 : Int32)), (.int (0 : Int32)), (.int (0 : Int32)), (.int (0 : Int32)), (.int (0 : Int32)), (.int (0 : Int32)), (.int (0 : Int32)), (.int (0 : Int32)), (.int (0 : Int32)), (.int (0 : Int32)), (.int (0 : Int32)), (.int (0 : Int32)), (.int (0 : Int32)), (.int (0 : Int32)), (.int (0 : Int32))] (.int (0 : Int32)) := V88.pad (pad_rep [] (.int (0 : Int32)) 16)
                  have lt_b88 : h88.size > b88 := V88.lt
                  refine gs (mkF m 136 #[.val (.int x0), .val (.int x1), .val (.int x2), .val (.long x3), .second, .val (.long x4), .second, .val (.int (x0 &&& (7 : Int32))), .val (.int (1 : Int32)), .val (.int (x2 &&& (255 : Int32))), .unset, .unset] [(.ref b88), (.ref b88)]) (fun _ _ A kq => XS.dup A hx rfl (hb hby at_135) rfl rfl kq) ?_
                  refine gs (mkF m 137 #[.val (.int x0), .val (.int x1), .val (.int x2), .val (.long x3), .second, .val (.long x4), .second, .val (.int (x0 &&& (7 : Int32))), .val (.int (1 : Int32)), .val (.int (x2 &&& (255 : Int32))), .unset, .unset] [(.int (0 : Int32)), (.ref b88), (.ref b88)]) (fun _ _ A kq => XS.iconst A hx rfl (hb hby at_136) kq) ?_
                  refine gs (mkF m 139 #[.val (.int x0), .val (.int x1), .val (.int x2), .val (.long x3), .second, .val (.long x4), .second, .val (.int (x0 &&& (7 : Int32))), .val (.int (1 : Int32)), .val (.int (x2 &&& (255 : Int32))), .unset, .unset] [(.int (104 : Int32)), (.int (0 : Int32)), (.ref b88), (.ref b88)]) (fun _ _ A kq => XS.bipush A hx rfl (hb hby at_137) kq) ?_
                  refine gstC hx V88 ⟨by decide, by decide⟩ (i := 0) rfl (Nat.le_of_ble_eq_true rfl) (y := (104 : Int32)) (by decide) n88 140 (hb hby at_139) rfl ?_
                  intro h89 W89 C89 V89
                  have z89 := C89.2.1
                  replace V89 : Arv Z h89 b88 k88 .char (16 : Int32) [(.int (104 : Int32)), (.int (0 : Int32)), (.int (0 : Int32)), (.int (0 : Int32)), (.int (0 : Int32)), (.int (0 : Int32)), (.int (0 : Int32)), (.int (0 : Int32)), (.int (0 : Int32)), (.int (0 : Int32)), (.int (0 : Int32)), (.int (0 : Int32)), (.int (0 : Int32)), (.int (0 : Int32)), (.int (0 : Int32)), (.int (0 : Int32))] (.int (0 : Int32)) := V89
                  refine gs (mkF m 141 #[.val (.int x0), .val (.int x1), .val (.int x2), .val (.long x3), .second, .val (.long x4), .second, .val (.int (x0 &&& (7 : Int32))), .val (.int (1 : Int32)), .val (.int (x2 &&& (255 : Int32))), .unset, .unset] [(.ref b88), (.ref b88)]) (fun _ _ A kq => XS.dup A hx rfl (hb hby at_140) rfl rfl kq) ?_
                  refine gs (mkF m 142 #[.val (.int x0), .val (.int x1), .val (.int x2), .val (.long x3), .second, .val (.long x4), .second, .val (.int (x0 &&& (7 : Int32))), .val (.int (1 : Int32)), .val (.int (x2 &&& (255 : Int32))), .unset, .unset] [(.int (1 : Int32)), (.ref b88), (.ref b88)]) (fun _ _ A kq => XS.iconst A hx rfl (hb hby at_141) kq) ?_
                  refine gs (mkF m 144 #[.val (.int x0), .val (.int x1), .val (.int x2), .val (.long x3), .second, .val (.long x4), .second, .val (.int (x0 &&& (7 : Int32))), .val (.int (1 : Int32)), .val (.int (x2 &&& (255 : Int32))), .unset, .unset] [(.int (105 : Int32)), (.int (1 : Int32)), (.ref b88), (.ref b88)]) (fun _ _ A kq => XS.bipush A hx rfl (hb hby at_142) kq) ?_
                  refine gstC hx V89 ⟨by decide, by decide⟩ (i := 1) rfl (Nat.le_of_ble_eq_true rfl) (y := (105 : Int32)) (by decide) n88 145 (hb hby at_144) rfl ?_
                  intro h90 W90 C90 V90
                  have z90 := C90.2.1
                  replace V90 : Arv Z h90 b88 k88 .char (16 : Int32) [(.int (104 : Int32)), (.int (105 : Int32)), (.int (0 : Int32)), (.int (0 : Int32)), (.int (0 : Int32)), (.int (0 : Int32)), (.int (0 : Int32)), (.int (0 : Int32)), (.int (0 : Int32)), (.int (0 : Int32)), (.int (0 : Int32)), (.int (0 : Int32)), (.int (0 : Int32)), (.int (0 : Int32)), (.int (0 : Int32)), (.int (0 : Int32))] (.int (0 : Int32)) := V90
                  refine gs (mkF m 146 #[.val (.int x0), .val (.int x1), .val (.int x2), .val (.long x3), .second, .val (.long x4), .second, .val (.int (x0 &&& (7 : Int32))), .val (.int (1 : Int32)), .val (.int (x2 &&& (255 : Int32))), .unset, .unset] [(.ref b88), (.ref b88)]) (fun _ _ A kq => XS.dup A hx rfl (hb hby at_145) rfl rfl kq) ?_
                  refine gs (mkF m 147 #[.val (.int x0), .val (.int x1), .val (.int x2), .val (.long x3), .second, .val (.long x4), .second, .val (.int (x0 &&& (7 : Int32))), .val (.int (1 : Int32)), .val (.int (x2 &&& (255 : Int32))), .unset, .unset] [(.int (2 : Int32)), (.ref b88), (.ref b88)]) (fun _ _ A kq => XS.iconst A hx rfl (hb hby at_146) kq) ?_
                  refine gs (mkF m 149 #[.val (.int x0), .val (.int x1), .val (.int x2), .val (.long x3), .second, .val (.long x4), .second, .val (.int (x0 &&& (7 : Int32))), .val (.int (1 : Int32)), .val (.int (x2 &&& (255 : Int32))), .unset, .unset] [(.int (103 : Int32)), (.int (2 : Int32)), (.ref b88), (.ref b88)]) (fun _ _ A kq => XS.bipush A hx rfl (hb hby at_147) kq) ?_
                  refine gstC hx V90 ⟨by decide, by decide⟩ (i := 2) rfl (Nat.le_of_ble_eq_true rfl) (y := (103 : Int32)) (by decide) n88 150 (hb hby at_149) rfl ?_
                  intro h91 W91 C91 V91
                  have z91 := C91.2.1
                  replace V91 : Arv Z h91 b88 k88 .char (16 : Int32) [(.int (104 : Int32)), (.int (105 : Int32)), (.int (103 : Int32)), (.int (0 : Int32)), (.int (0 : Int32)), (.int (0 : Int32)), (.int (0 : Int32)), (.int (0 : Int32)), (.int (0 : Int32)), (.int (0 : Int32)), (.int (0 : Int32)), (.int (0 : Int32)), (.int (0 : Int32)), (.int (0 : Int32)), (.int (0 : Int32)), (.int (0 : Int32))] (.int (0 : Int32)) := V91
                  refine gs (mkF m 151 #[.val (.int x0), .val (.int x1), .val (.int x2), .val (.long x3), .second, .val (.long x4), .second, .val (.int (x0 &&& (7 : Int32))), .val (.int (1 : Int32)), .val (.int (x2 &&& (255 : Int32))), .unset, .unset] [(.ref b88), (.ref b88)]) (fun _ _ A kq => XS.dup A hx rfl (hb hby at_150) rfl rfl kq) ?_
                  refine gs (mkF m 152 #[.val (.int x0), .val (.int x1), .val (.int x2), .val (.long x3), .second, .val (.long x4), .second, .val (.int (x0 &&& (7 : Int32))), .val (.int (1 : Int32)), .val (.int (x2 &&& (255 : Int32))), .unset, .unset] [(.int (3 : Int32)), (.ref b88), (.ref b88)]) (fun _ _ A kq => XS.iconst A hx rfl (hb hby at_151) kq) ?_
                  refine gs (mkF m 154 #[.val (.int x0), .val (.int x1), .val (.int x2), .val (.long x3), .second, .val (.long x4), .second, .val (.int (x0 &&& (7 : Int32))), .val (.int (1 : Int32)), .val (.int (x2 &&& (255 : Int32))), .unset, .unset] [(.int (104 : Int32)), (.int (3 : Int32)), (.ref b88), (.ref b88)]) (fun _ _ A kq => XS.bipush A hx rfl (hb hby at_152) kq) ?_
                  refine gstC hx V91 ⟨by decide, by decide⟩ (i := 3) rfl (Nat.le_of_ble_eq_true rfl) (y := (104 : Int32)) (by decide) n88 155 (hb hby at_154) rfl ?_
                  intro h92 W92 C92 V92
                  have z92 := C92.2.1
                  replace V92 : Arv Z h92 b88 k88 .char (16 : Int32) [(.int (104 : Int32)), (.int (105 : Int32)), (.int (103 : Int32)), (.int (104 : Int32)), (.int (0 : Int32)), (.int (0 : Int32)), (.int (0 : Int32)), (.int (0 : Int32)), (.int (0 : Int32)), (.int (0 : Int32)), (.int (0 : Int32)), (.int (0 : Int32)), (.int (0 : Int32)), (.int (0 : Int32)), (.int (0 : Int32)), (.int (0 : Int32))] (.int (0 : Int32)) := V92
                  refine gs (mkF m 156 #[.val (.int x0), .val (.int x1), .val (.int x2), .val (.long x3), .second, .val (.long x4), .second, .val (.int (x0 &&& (7 : Int32))), .val (.int (1 : Int32)), .val (.int (x2 &&& (255 : Int32))), .unset, .unset] [(.ref b88), (.ref b88)]) (fun _ _ A kq => XS.dup A hx rfl (hb hby at_155) rfl rfl kq) ?_
                  refine gs (mkF m 157 #[.val (.int x0), .val (.int x1), .val (.int x2), .val (.long x3), .second, .val (.long x4), .second, .val (.int (x0 &&& (7 : Int32))), .val (.int (1 : Int32)), .val (.int (x2 &&& (255 : Int32))), .unset, .unset] [(.int (4 : Int32)), (.ref b88), (.ref b88)]) (fun _ _ A kq => XS.iconst A hx rfl (hb hby at_156) kq) ?_
                  refine gs (mkF m 159 #[.val (.int x0), .val (.int x1), .val (.int x2), .val (.long x3), .second, .val (.long x4), .second, .val (.int (x0 &&& (7 : Int32))), .val (.int (1 : Int32)), .val (.int (x2 &&& (255 : Int32))), .unset, .unset] [(.int (108 : Int32)), (.int (4 : Int32)), (.ref b88), (.ref b88)]) (fun _ _ A kq => XS.bipush A hx rfl (hb hby at_157) kq) ?_
                  refine gstC hx V92 ⟨by decide, by decide⟩ (i := 4) rfl (Nat.le_of_ble_eq_true rfl) (y := (108 : Int32)) (by decide) n88 160 (hb hby at_159) rfl ?_
                  intro h93 W93 C93 V93
                  have z93 := C93.2.1
                  replace V93 : Arv Z h93 b88 k88 .char (16 : Int32) [(.int (104 : Int32)), (.int (105 : Int32)), (.int (103 : Int32)), (.int (104 : Int32)), (.int (108 : Int32)), (.int (0 : Int32)), (.int (0 : Int32)), (.int (0 : Int32)), (.int (0 : Int32)), (.int (0 : Int32)), (.int (0 : Int32)), (.int (0 : Int32)), (.int (0 : Int32)), (.int (0 : Int32)), (.int (0 : Int32)), (.int (0 : Int32))] (.int (0 : Int32)) := V93
                  refine gs (mkF m 161 #[.val (.int x0), .val (.int x1), .val (.int x2), .val (.long x3), .second, .val (.long x4), .second, .val (.int (x0 &&& (7 : Int32))), .val (.int (1 : Int32)), .val (.int (x2 &&& (255 : Int32))), .unset, .unset] [(.ref b88), (.ref b88)]) (fun _ _ A kq => XS.dup A hx rfl (hb hby at_160) rfl rfl kq) ?_
                  refine gs (mkF m 162 #[.val (.int x0), .val (.int x1), .val (.int x2), .val (.long x3), .second, .val (.long x4), .second, .val (.int (x0 &&& (7 : Int32))), .val (.int (1 : Int32)), .val (.int (x2 &&& (255 : Int32))), .unset, .unset] [(.int (5 : Int32)), (.ref b88), (.ref b88)]) (fun _ _ A kq => XS.iconst A hx rfl (hb hby at_161) kq) ?_
                  refine gs (mkF m 164 #[.val (.int x0), .val (.int x1), .val (.int x2), .val (.long x3), .second, .val (.long x4), .second, .val (.int (x0 &&& (7 : Int32))), .val (.int (1 : Int32)), .val (.int (x2 &&& (255 : Int32))), .unset, .unset] [(.int (121 : Int32)), (.int (5 : Int32)), (.ref b88), (.ref b88)]) (fun _ _ A kq => XS.bipush A hx rfl (hb hby at_162) kq) ?_
                  refine gstC hx V93 ⟨by decide, by decide⟩ (i := 5) rfl (Nat.le_of_ble_eq_true rfl) (y := (121 : Int32)) (by decide) n88 165 (hb hby at_164) rfl ?_
                  intro h94 W94 C94 V94
                  have z94 := C94.2.1
                  replace V94 : Arv Z h94 b88 k88 .char (16 : Int32) [(.int (104 : Int32)), (.int (105 : Int32)), (.int (103 : Int32)), (.int (104 : Int32)), (.int (108 : Int32)), (.int (121 : Int32)), (.int (0 : Int32)), (.int (0 : Int32)), (.int (0 : Int32)), (.int (0 : Int32)), (.int (0 : Int32)), (.int (0 : Int32)), (.int (0 : Int32)), (.int (0 : Int32)), (.int (0 : Int32)), (.int (0 : Int32))] (.int (0 : Int32)) := V94
                  refine gs (mkF m 166 #[.val (.int x0), .val (.int x1), .val (.int x2), .val (.long x3), .second, .val (.long x4), .second, .val (.int (x0 &&& (7 : Int32))), .val (.int (1 : Int32)), .val (.int (x2 &&& (255 : Int32))), .unset, .unset] [(.ref b88), (.ref b88)]) (fun _ _ A kq => XS.dup A hx rfl (hb hby at_165) rfl rfl kq) ?_
                  refine gs (mkF m 168 #[.val (.int x0), .val (.int x1), .val (.int x2), .val (.long x3), .second, .val (.long x4), .second, .val (.int (x0 &&& (7 : Int32))), .val (.int (1 : Int32)), .val (.int (x2 &&& (255 : Int32))), .unset, .unset] [(.int (6 : Int32)), (.ref b88), (.ref b88)]) (fun _ _ A kq => XS.bipush A hx rfl (hb hby at_166) kq) ?_
                  refine gs (mkF m 170 #[.val (.int x0), .val (.int x1), .val (.int x2), .val (.long x3), .second, .val (.long x4), .second, .val (.int (x0 &&& (7 : Int32))), .val (.int (1 : Int32)), .val (.int (x2 &&& (255 : Int32))), .unset, .unset] [(.int (95 : Int32)), (.int (6 : Int32)), (.ref b88), (.ref b88)]) (fun _ _ A kq => XS.bipush A hx rfl (hb hby at_168) kq) ?_
                  refine gstC hx V94 ⟨by decide, by decide⟩ (i := 6) rfl (Nat.le_of_ble_eq_true rfl) (y := (95 : Int32)) (by decide) n88 171 (hb hby at_170) rfl ?_
                  intro h95 W95 C95 V95
                  have z95 := C95.2.1
                  replace V95 : Arv Z h95 b88 k88 .char (16 : Int32) [(.int (104 : Int32)), (.int (105 : Int32)), (.int (103 : Int32)), (.int (104 : Int32)), (.int (108 : Int32)), (.int (121 : Int32)), (.int (95 : Int32)), (.int (0 : Int32)), (.int (0 : Int32)), (.int (0 : Int32)), (.int (0 : Int32)), (.int (0 : Int32)), (.int (0 : Int32)), (.int (0 : Int32)), (.int (0 : Int32)), (.int (0 : Int32))] (.int (0 : Int32)) := V95
                  refine gs (mkF m 172 #[.val (.int x0), .val (.int x1), .val (.int x2), .val (.long x3), .second, .val (.long x4), .second, .val (.int (x0 &&& (7 : Int32))), .val (.int (1 : Int32)), .val (.int (x2 &&& (255 : Int32))), .unset, .unset] [(.ref b88), (.ref b88)]) (fun _ _ A kq => XS.dup A hx rfl (hb hby at_171) rfl rfl kq) ?_
                  refine gs (mkF m 174 #[.val (.int x0), .val (.int x1), .val (.int x2), .val (.long x3), .second, .val (.long x4), .second, .val (.int (x0 &&& (7 : Int32))), .val (.int (1 : Int32)), .val (.int (x2 &&& (255 : Int32))), .unset, .unset] [(.int (7 : Int32)), (.ref b88), (.ref b88)]) (fun _ _ A kq => XS.bipush A hx rfl (hb hby at_172) kq) ?_
                  refine gs (mkF m 176 #[.val (.int x0), .val (.int x1), .val (.int x2), .val (.long x3), .second, .val (.long x4), .second, .val (.int (x0 &&& (7 : Int32))), .val (.int (1 : Int32)), .val (.int (x2 &&& (255 : Int32))), .unset, .unset] [(.int (97 : Int32)), (.int (7 : Int32)), (.ref b88), (.ref b88)]) (fun _ _ A kq => XS.bipush A hx rfl (hb hby at_174) kq) ?_
                  refine gstC hx V95 ⟨by decide, by decide⟩ (i := 7) rfl (Nat.le_of_ble_eq_true rfl) (y := (97 : Int32)) (by decide) n88 177 (hb hby at_176) rfl ?_
                  intro h96 W96 C96 V96
                  have z96 := C96.2.1
                  replace V96 : Arv Z h96 b88 k88 .char (16 : Int32) [(.int (104 : Int32)), (.int (105 : Int32)), (.int (103 : Int32)), (.int (104 : Int32)), (.int (108 : Int32)), (.int (121 : Int32)), (.int (95 : Int32)), (.int (97 : Int32)), (.int (0 : Int32)), (.int (0 : Int32)), (.int (0 : Int32)), (.int (0 : Int32)), (.int (0 : Int32)), (.int (0 : Int32)), (.int (0 : Int32)), (.int (0 : Int32))] (.int (0 : Int32)) := V96
                  refine gs (mkF m 178 #[.val (.int x0), .val (.int x1), .val (.int x2), .val (.long x3), .second, .val (.long x4), .second, .val (.int (x0 &&& (7 : Int32))), .val (.int (1 : Int32)), .val (.int (x2 &&& (255 : Int32))), .unset, .unset] [(.ref b88), (.ref b88)]) (fun _ _ A kq => XS.dup A hx rfl (hb hby at_177) rfl rfl kq) ?_
                  refine gs (mkF m 180 #[.val (.int x0), .val (.int x1), .val (.int x2), .val (.long x3), .second, .val (.long x4), .second, .val (.int (x0 &&& (7 : Int32))), .val (.int (1 : Int32)), .val (.int (x2 &&& (255 : Int32))), .unset, .unset] [(.int (8 : Int32)), (.ref b88), (.ref b88)]) (fun _ _ A kq => XS.bipush A hx rfl (hb hby at_178) kq) ?_
                  refine gs (mkF m 182 #[.val (.int x0), .val (.int x1), .val (.int x2), .val (.long x3), .second, .val (.long x4), .second, .val (.int (x0 &&& (7 : Int32))), .val (.int (1 : Int32)), .val (.int (x2 &&& (255 : Int32))), .unset, .unset] [(.int (118 : Int32)), (.int (8 : Int32)), (.ref b88), (.ref b88)]) (fun _ _ A kq => XS.bipush A hx rfl (hb hby at_180) kq) ?_
                  refine gstC hx V96 ⟨by decide, by decide⟩ (i := 8) rfl (Nat.le_of_ble_eq_true rfl) (y := (118 : Int32)) (by decide) n88 183 (hb hby at_182) rfl ?_
                  intro h97 W97 C97 V97
                  have z97 := C97.2.1
                  replace V97 : Arv Z h97 b88 k88 .char (16 : Int32) [(.int (104 : Int32)), (.int (105 : Int32)), (.int (103 : Int32)), (.int (104 : Int32)), (.int (108 : Int32)), (.int (121 : Int32)), (.int (95 : Int32)), (.int (97 : Int32)), (.int (118 : Int32)), (.int (0 : Int32)), (.int (0 : Int32)), (.int (0 : Int32)), (.int (0 : Int32)), (.int (0 : Int32)), (.int (0 : Int32)), (.int (0 : Int32))] (.int (0 : Int32)) := V97
                  refine gs (mkF m 184 #[.val (.int x0), .val (.int x1), .val (.int x2), .val (.long x3), .second, .val (.long x4), .second, .val (.int (x0 &&& (7 : Int32))), .val (.int (1 : Int32)), .val (.int (x2 &&& (255 : Int32))), .unset, .unset] [(.ref b88), (.ref b88)]) (fun _ _ A kq => XS.dup A hx rfl (hb hby at_183) rfl rfl kq) ?_
                  refine gs (mkF m 186 #[.val (.int x0), .val (.int x1), .val (.int x2), .val (.long x3), .second, .val (.long x4), .second, .val (.int (x0 &&& (7 : Int32))), .val (.int (1 : Int32)), .val (.int (x2 &&& (255 : Int32))), .unset, .unset] [(.int (9 : Int32)), (.ref b88), (.ref b88)]) (fun _ _ A kq => XS.bipush A hx rfl (hb hby at_184) kq) ?_
                  refine gs (mkF m 188 #[.val (.int x0), .val (.int x1), .val (.int x2), .val (.long x3), .second, .val (.long x4), .second, .val (.int (x0 &&& (7 : Int32))), .val (.int (1 : Int32)), .val (.int (x2 &&& (255 : Int32))), .unset, .unset] [(.int (97 : Int32)), (.int (9 : Int32)), (.ref b88), (.ref b88)]) (fun _ _ A kq => XS.bipush A hx rfl (hb hby at_186) kq) ?_
                  refine gstC hx V97 ⟨by decide, by decide⟩ (i := 9) rfl (Nat.le_of_ble_eq_true rfl) (y := (97 : Int32)) (by decide) n88 189 (hb hby at_188) rfl ?_
                  intro h98 W98 C98 V98
                  have z98 := C98.2.1
                  replace V98 : Arv Z h98 b88 k88 .char (16 : Int32) [(.int (104 : Int32)), (.int (105 : Int32)), (.int (103 : Int32)), (.int (104 : Int32)), (.int (108 : Int32)), (.int (121 : Int32)), (.int (95 : Int32)), (.int (97 : Int32)), (.int (118 : Int32)), (.int (97 : Int32)), (.int (0 : Int32)), (.int (0 : Int32)), (.int (0 : Int32)), (.int (0 : Int32)), (.int (0 : Int32)), (.int (0 : Int32))] (.int (0 : Int32)) := V98
                  refine gs (mkF m 190 #[.val (.int x0), .val (.int x1), .val (.int x2), .val (.long x3), .second, .val (.long x4), .second, .val (.int (x0 &&& (7 : Int32))), .val (.int (1 : Int32)), .val (.int (x2 &&& (255 : Int32))), .unset, .unset] [(.ref b88), (.ref b88)]) (fun _ _ A kq => XS.dup A hx rfl (hb hby at_189) rfl rfl kq) ?_
                  refine gs (mkF m 192 #[.val (.int x0), .val (.int x1), .val (.int x2), .val (.long x3), .second, .val (.long x4), .second, .val (.int (x0 &&& (7 : Int32))), .val (.int (1 : Int32)), .val (.int (x2 &&& (255 : Int32))), .unset, .unset] [(.int (10 : Int32)), (.ref b88), (.ref b88)]) (fun _ _ A kq => XS.bipush A hx rfl (hb hby at_190) kq) ?_
                  refine gs (mkF m 194 #[.val (.int x0), .val (.int x1), .val (.int x2), .val (.long x3), .second, .val (.long x4), .second, .val (.int (x0 &&& (7 : Int32))), .val (.int (1 : Int32)), .val (.int (x2 &&& (255 : Int32))), .unset, .unset] [(.int (105 : Int32)), (.int (10 : Int32)), (.ref b88), (.ref b88)]) (fun _ _ A kq => XS.bipush A hx rfl (hb hby at_192) kq) ?_
                  refine gstC hx V98 ⟨by decide, by decide⟩ (i := 10) rfl (Nat.le_of_ble_eq_true rfl) (y := (105 : Int32)) (by decide) n88 195 (hb hby at_194) rfl ?_
                  intro h99 W99 C99 V99
                  have z99 := C99.2.1
                  replace V99 : Arv Z h99 b88 k88 .char (16 : Int32) [(.int (104 : Int32)), (.int (105 : Int32)), (.int (103 : Int32)), (.int (104 : Int32)), (.int (108 : Int32)), (.int (121 : Int32)), (.int (95 : Int32)), (.int (97 : Int32)), (.int (118 : Int32)), (.int (97 : Int32)), (.int (105 : Int32)), (.int (0 : Int32)), (.int (0 : Int32)), (.int (0 : Int32)), (.int (0 : Int32)), (.int (0 : Int32))] (.int (0 : Int32)) := V99
                  refine gs (mkF m 196 #[.val (.int x0), .val (.int x1), .val (.int x2), .val (.long x3), .second, .val (.long x4), .second, .val (.int (x0 &&& (7 : Int32))), .val (.int (1 : Int32)), .val (.int (x2 &&& (255 : Int32))), .unset, .unset] [(.ref b88), (.ref b88)]) (fun _ _ A kq => XS.dup A hx rfl (hb hby at_195) rfl rfl kq) ?_
                  refine gs (mkF m 198 #[.val (.int x0), .val (.int x1), .val (.int x2), .val (.long x3), .second, .val (.long x4), .second, .val (.int (x0 &&& (7 : Int32))), .val (.int (1 : Int32)), .val (.int (x2 &&& (255 : Int32))), .unset, .unset] [(.int (11 : Int32)), (.ref b88), (.ref b88)]) (fun _ _ A kq => XS.bipush A hx rfl (hb hby at_196) kq) ?_
                  refine gs (mkF m 200 #[.val (.int x0), .val (.int x1), .val (.int x2), .val (.long x3), .second, .val (.long x4), .second, .val (.int (x0 &&& (7 : Int32))), .val (.int (1 : Int32)), .val (.int (x2 &&& (255 : Int32))), .unset, .unset] [(.int (108 : Int32)), (.int (11 : Int32)), (.ref b88), (.ref b88)]) (fun _ _ A kq => XS.bipush A hx rfl (hb hby at_198) kq) ?_
                  refine gstC hx V99 ⟨by decide, by decide⟩ (i := 11) rfl (Nat.le_of_ble_eq_true rfl) (y := (108 : Int32)) (by decide) n88 201 (hb hby at_200) rfl ?_
                  intro h100 W100 C100 V100
                  have z100 := C100.2.1
                  replace V100 : Arv Z h100 b88 k88 .char (16 : Int32) [(.int (104 : Int32)), (.int (105 : Int32)), (.int (103 : Int32)), (.int (104 : Int32)), (.int (108 : Int32)), (.int (121 : Int32)), (.int (95 : Int32)), (.int (97 : Int32)), (.int (118 : Int32)), (.int (97 : Int32)), (.int (105 : Int32)), (.int (108 : Int32)), (.int (0 : Int32)), (.int (0 : Int32)), (.int (0 : Int32)), (.int (0 : Int32))] (.int (0 : Int32)) := V100
                  refine gs (mkF m 202 #[.val (.int x0), .val (.int x1), .val (.int x2), .val (.long x3), .second, .val (.long x4), .second, .val (.int (x0 &&& (7 : Int32))), .val (.int (1 : Int32)), .val (.int (x2 &&& (255 : Int32))), .unset, .unset] [(.ref b88), (.ref b88)]) (fun _ _ A kq => XS.dup A hx rfl (hb hby at_201) rfl rfl kq) ?_
                  refine gs (mkF m 204 #[.val (.int x0), .val (.int x1), .val (.int x2), .val (.long x3), .second, .val (.long x4), .second, .val (.int (x0 &&& (7 : Int32))), .val (.int (1 : Int32)), .val (.int (x2 &&& (255 : Int32))), .unset, .unset] [(.int (12 : Int32)), (.ref b88), (.ref b88)]) (fun _ _ A kq => XS.bipush A hx rfl (hb hby at_202) kq) ?_
                  refine gs (mkF m 206 #[.val (.int x0), .val (.int x1), .val (.int x2), .val (.long x3), .second, .val (.long x4), .second, .val (.int (x0 &&& (7 : Int32))), .val (.int (1 : Int32)), .val (.int (x2 &&& (255 : Int32))), .unset, .unset] [(.int (97 : Int32)), (.int (12 : Int32)), (.ref b88), (.ref b88)]) (fun _ _ A kq => XS.bipush A hx rfl (hb hby at_204) kq) ?_
                  refine gstC hx V100 ⟨by decide, by decide⟩ (i := 12) rfl (Nat.le_of_ble_eq_true rfl) (y := (97 : Int32)) (by decide) n88 207 (hb hby at_206) rfl ?_
                  intro h101 W101 C101 V101
                  have z101 := C101.2.1
                  replace V101 : Arv Z h101 b88 k88 .char (16 : Int32) [(.int (104 : Int32)), (.int (105 : Int32)), (.int (103 : Int32)), (.int (104 : Int32)), (.int (108 : Int32)), (.int (121 : Int32)), (.int (95 : Int32)), (.int (97 : Int32)), (.int (118 : Int32)), (.int (97 : Int32)), (.int (105 : Int32)), (.int (108 : Int32)), (.int (97 : Int32)), (.int (0 : Int32)), (.int (0 : Int32)), (.int (0 : Int32))] (.int (0 : Int32)) := V101
                  refine gs (mkF m 208 #[.val (.int x0), .val (.int x1), .val (.int x2), .val (.long x3), .second, .val (.long x4), .second, .val (.int (x0 &&& (7 : Int32))), .val (.int (1 : Int32)), .val (.int (x2 &&& (255 : Int32))), .unset, .unset] [(.ref b88), (.ref b88)]) (fun _ _ A kq => XS.dup A hx rfl (hb hby at_207) rfl rfl kq) ?_
                  refine gs (mkF m 210 #[.val (.int x0), .val (.int x1), .val (.int x2), .val (.long x3), .second, .val (.long x4), .second, .val (.int (x0 &&& (7 : Int32))), .val (.int (1 : Int32)), .val (.int (x2 &&& (255 : Int32))), .unset, .unset] [(.int (13 : Int32)), (.ref b88), (.ref b88)]) (fun _ _ A kq => XS.bipush A hx rfl (hb hby at_208) kq) ?_
                  refine gs (mkF m 212 #[.val (.int x0), .val (.int x1), .val (.int x2), .val (.long x3), .second, .val (.long x4), .second, .val (.int (x0 &&& (7 : Int32))), .val (.int (1 : Int32)), .val (.int (x2 &&& (255 : Int32))), .unset, .unset] [(.int (98 : Int32)), (.int (13 : Int32)), (.ref b88), (.ref b88)]) (fun _ _ A kq => XS.bipush A hx rfl (hb hby at_210) kq) ?_
                  refine gstC hx V101 ⟨by decide, by decide⟩ (i := 13) rfl (Nat.le_of_ble_eq_true rfl) (y := (98 : Int32)) (by decide) n88 213 (hb hby at_212) rfl ?_
                  intro h102 W102 C102 V102
                  have z102 := C102.2.1
                  replace V102 : Arv Z h102 b88 k88 .char (16 : Int32) [(.int (104 : Int32)), (.int (105 : Int32)), (.int (103 : Int32)), (.int (104 : Int32)), (.int (108 : Int32)), (.int (121 : Int32)), (.int (95 : Int32)), (.int (97 : Int32)), (.int (118 : Int32)), (.int (97 : Int32)), (.int (105 : Int32)), (.int (108 : Int32)), (.int (97 : Int32)), (.int (98 : Int32)), (.int (0 : Int32)), (.int (0 : Int32))] (.int (0 : Int32)) := V102
                  refine gs (mkF m 214 #[.val (.int x0), .val (.int x1), .val (.int x2), .val (.long x3), .second, .val (.long x4), .second, .val (.int (x0 &&& (7 : Int32))), .val (.int (1 : Int32)), .val (.int (x2 &&& (255 : Int32))), .unset, .unset] [(.ref b88), (.ref b88)]) (fun _ _ A kq => XS.dup A hx rfl (hb hby at_213) rfl rfl kq) ?_
                  refine gs (mkF m 216 #[.val (.int x0), .val (.int x1), .val (.int x2), .val (.long x3), .second, .val (.long x4), .second, .val (.int (x0 &&& (7 : Int32))), .val (.int (1 : Int32)), .val (.int (x2 &&& (255 : Int32))), .unset, .unset] [(.int (14 : Int32)), (.ref b88), (.ref b88)]) (fun _ _ A kq => XS.bipush A hx rfl (hb hby at_214) kq) ?_
                  refine gs (mkF m 218 #[.val (.int x0), .val (.int x1), .val (.int x2), .val (.long x3), .second, .val (.long x4), .second, .val (.int (x0 &&& (7 : Int32))), .val (.int (1 : Int32)), .val (.int (x2 &&& (255 : Int32))), .unset, .unset] [(.int (108 : Int32)), (.int (14 : Int32)), (.ref b88), (.ref b88)]) (fun _ _ A kq => XS.bipush A hx rfl (hb hby at_216) kq) ?_
                  refine gstC hx V102 ⟨by decide, by decide⟩ (i := 14) rfl (Nat.le_of_ble_eq_true rfl) (y := (108 : Int32)) (by decide) n88 219 (hb hby at_218) rfl ?_
                  intro h103 W103 C103 V103
                  have z103 := C103.2.1
                  replace V103 : Arv Z h103 b88 k88 .char (16 : Int32) [(.int (104 : Int32)), (.int (105 : Int32)), (.int (103 : Int32)), (.int (104 : Int32)), (.int (108 : Int32)), (.int (121 : Int32)), (.int (95 : Int32)), (.int (97 : Int32)), (.int (118 : Int32)), (.int (97 : Int32)), (.int (105 : Int32)), (.int (108 : Int32)), (.int (97 : Int32)), (.int (98 : Int32)), (.int (108 : Int32)), (.int (0 : Int32))] (.int (0 : Int32)) := V103
                  refine gs (mkF m 220 #[.val (.int x0), .val (.int x1), .val (.int x2), .val (.long x3), .second, .val (.long x4), .second, .val (.int (x0 &&& (7 : Int32))), .val (.int (1 : Int32)), .val (.int (x2 &&& (255 : Int32))), .unset, .unset] [(.ref b88), (.ref b88)]) (fun _ _ A kq => XS.dup A hx rfl (hb hby at_219) rfl rfl kq) ?_
                  refine gs (mkF m 222 #[.val (.int x0), .val (.int x1), .val (.int x2), .val (.long x3), .second, .val (.long x4), .second, .val (.int (x0 &&& (7 : Int32))), .val (.int (1 : Int32)), .val (.int (x2 &&& (255 : Int32))), .unset, .unset] [(.int (15 : Int32)), (.ref b88), (.ref b88)]) (fun _ _ A kq => XS.bipush A hx rfl (hb hby at_220) kq) ?_
                  refine gs (mkF m 224 #[.val (.int x0), .val (.int x1), .val (.int x2), .val (.long x3), .second, .val (.long x4), .second, .val (.int (x0 &&& (7 : Int32))), .val (.int (1 : Int32)), .val (.int (x2 &&& (255 : Int32))), .unset, .unset] [(.int (101 : Int32)), (.int (15 : Int32)), (.ref b88), (.ref b88)]) (fun _ _ A kq => XS.bipush A hx rfl (hb hby at_222) kq) ?_
                  refine gstC hx V103 ⟨by decide, by decide⟩ (i := 15) rfl (Nat.le_of_ble_eq_true rfl) (y := (101 : Int32)) (by decide) n88 225 (hb hby at_224) rfl ?_
                  intro h104 W104 C104 V104
                  have z104 := C104.2.1
                  replace V104 : Arv Z h104 b88 k88 .char (16 : Int32) [(.int (104 : Int32)), (.int (105 : Int32)), (.int (103 : Int32)), (.int (104 : Int32)), (.int (108 : Int32)), (.int (121 : Int32)), (.int (95 : Int32)), (.int (97 : Int32)), (.int (118 : Int32)), (.int (97 : Int32)), (.int (105 : Int32)), (.int (108 : Int32)), (.int (97 : Int32)), (.int (98 : Int32)), (.int (108 : Int32)), (.int (101 : Int32))] (.int (0 : Int32)) := V104
                  refine gs (mkF m 227 #[.val (.int x0), .val (.int x1), .val (.int x2), .val (.long x3), .second, .val (.long x4), .second, .val (.int (x0 &&& (7 : Int32))), .val (.int (1 : Int32)), .val (.int (x2 &&& (255 : Int32))), .unset, .val (.ref b88)] []) (fun _ _ A kq => XS.astore A hx rfl (hb hby at_225) rfl rfl (l' := #[.val (.int x0), .val (.int x1), .val (.int x2), .val (.long x3), .second, .val (.long x4), .second, .val (.int (x0 &&& (7 : Int32))), .val (.int (1 : Int32)), .val (.int (x2 &&& (255 : Int32))), .unset, .val (.ref b88)]) rfl kq) ?_
                  refine gs (mkF m 558 #[.val (.int x0), .val (.int x1), .val (.int x2), .val (.long x3), .second, .val (.long x4), .second, .val (.int (x0 &&& (7 : Int32))), .val (.int (1 : Int32)), .val (.int (x2 &&& (255 : Int32))), .unset, .val (.ref b88)] []) (fun _ _ A kq => XS.goto A hx rfl (pc0 := 227) (pc' := 558) rfl (hb hby at_227) (by decide) (by decide) kq) ?_
                  refine gs (mkF m 560 #[.val (.int x0), .val (.int x1), .val (.int x2), .val (.long x3), .second, .val (.long x4), .second, .val (.int (x0 &&& (7 : Int32))), .val (.int (1 : Int32)), .val (.int (x2 &&& (255 : Int32))), .unset, .val (.ref b88)] [(.int (x0 &&& (7 : Int32)))]) (fun _ _ A kq => XS.iload A hx rfl (hb hby at_558) rfl  kq) ?_
                  refine gs (mkF m 561 #[.val (.int x0), .val (.int x1), .val (.int x2), .val (.long x3), .second, .val (.long x4), .second, .val (.int (x0 &&& (7 : Int32))), .val (.int (1 : Int32)), .val (.int (x2 &&& (255 : Int32))), .unset, .val (.ref b88)] [(.int (1 : Int32)), (.int (x0 &&& (7 : Int32)))]) (fun _ _ A kq => XS.iconst A hx rfl (hb hby at_560) kq) ?_
                  refine gs (mkF m 564 #[.val (.int x0), .val (.int x1), .val (.int x2), .val (.long x3), .second, .val (.long x4), .second, .val (.int (x0 &&& (7 : Int32))), .val (.int (1 : Int32)), .val (.int (x2 &&& (255 : Int32))), .unset, .val (.ref b88)] []) (fun _ _ A kq => XS.icmpNo A hx rfl (hb hby at_561) rfl (teq k1).2 kq) ?_
                  refine gs (mkF m 566 #[.val (.int x0), .val (.int x1), .val (.int x2), .val (.long x3), .second, .val (.long x4), .second, .val (.int (x0 &&& (7 : Int32))), .val (.int (1 : Int32)), .val (.int (x2 &&& (255 : Int32))), .unset, .val (.ref b88)] [(.ref b88)]) (fun _ _ A kq => XS.aload A hx rfl (hb hby at_564) rfl rfl kq) ?_
                  refine gs (mkF m 567 #[.val (.int x0), .val (.int x1), .val (.int x2), .val (.long x3), .second, .val (.long x4), .second, .val (.int (x0 &&& (7 : Int32))), .val (.int (1 : Int32)), .val (.int (x2 &&& (255 : Int32))), .unset, .val (.ref b88)] [(.int x1), (.ref b88)]) (fun _ _ A kq => XS.iloadN A hx rfl (hb hby at_566) rfl  kq) ?_
                  refine gldcI hx (ow hw 87 rfl) 569 (hb hby at_567) rfl ?_
                  refine gs (mkF m 570 #[.val (.int x0), .val (.int x1), .val (.int x2), .val (.long x3), .second, .val (.long x4), .second, .val (.int (x0 &&& (7 : Int32))), .val (.int (1 : Int32)), .val (.int (x2 &&& (255 : Int32))), .unset, .val (.ref b88)] [(.int (x1 &&& (2147483647 : Int32))), (.ref b88)]) (fun _ _ A kq => XS.iand A hx rfl (hb hby at_569) rfl kq) ?_
                  refine gs (mkF m 572 #[.val (.int x0), .val (.int x1), .val (.int x2), .val (.long x3), .second, .val (.long x4), .second, .val (.int (x0 &&& (7 : Int32))), .val (.int (1 : Int32)), .val (.int (x2 &&& (255 : Int32))), .unset, .val (.ref b88)] [(.ref b88), (.int (x1 &&& (2147483647 : Int32))), (.ref b88)]) (fun _ _ A kq => XS.aload A hx rfl (hb hby at_570) rfl rfl kq) ?_
                  refine glen hx V104 573 (hb hby at_572) rfl ?_
                  refine gx (mkF m 574 #[.val (.int x0), .val (.int x1), .val (.int x2), .val (.long x3), .second, .val (.long x4), .second, .val (.int (x0 &&& (7 : Int32))), .val (.int (1 : Int32)), .val (.int (x2 &&& (255 : Int32))), .unset, .val (.ref b88)] [(.int ((x1 &&& (2147483647 : Int32)) % (16 : Int32))), (.ref b88)]) (fun T locs X _ _ _ _ kq => iremM X hx rfl (hb hby at_573) rfl (by decide) kq) ?_
                  refine gs (mkF m 576 #[.val (.int x0), .val (.int x1), .val (.int x2), .val (.long x3), .second, .val (.long x4), .second, .val (.int (x0 &&& (7 : Int32))), .val (.int (1 : Int32)), .val (.int (x2 &&& (255 : Int32))), .unset, .val (.ref b88)] [(.int (x2 &&& (255 : Int32))), (.int ((x1 &&& (2147483647 : Int32)) % (16 : Int32))), (.ref b88)]) (fun _ _ A kq => XS.iload A hx rfl (hb hby at_574) rfl  kq) ?_
                  refine gstC hx V104 (own_ix x1 (16 : Int32) 16 rfl (by decide) (by decide)).1 (i := ((x1 &&& (2147483647 : Int32)) % (16 : Int32)).toNatClampNeg) rfl (own_ix x1 (16 : Int32) 16 rfl (by decide) (by decide)).2 (y := (x2 &&& (255 : Int32))) (narC _) n88 577 (hb hby at_576) rfl ?_
                  intro h106 W106 C106 V106
                  have z106 := C106.2.1
                  refine gnewO hx (ow hw 1 rfl) (ow hw 2 rfl) (ow hw 3 rfl) 580 (hb hby at_577) rfl (by decide) (by decide) ?_
                  intro b107 h107 g107 E107 C107 A107 D107 n107 L107
                  have z107 := C107.2.1
                  have lt_b107 : h107.size > b107 := A107.lt
                  have F107_coder : Fld Z h107 b107 "java/lang/String" "coder" "B" (.int (0 : Int32)) := D107 (Or.inr (ow hw 27 rfl)) (ty := .byte) (by decide)
                  have F107_value : Fld Z h107 b107 "java/lang/String" "value" "[B" .null := D107 (Or.inr (ow hw 29 rfl)) (ty := (.array .byte)) (by decide)
                  refine gs (mkF m 581 #[.val (.int x0), .val (.int x1), .val (.int x2), .val (.long x3), .second, .val (.long x4), .second, .val (.int (x0 &&& (7 : Int32))), .val (.int (1 : Int32)), .val (.int (x2 &&& (255 : Int32))), .unset, .val (.ref b88)] [(.ref b107), (.ref b107)]) (fun _ _ A kq => XS.dup A hx rfl (hb hby at_580) rfl rfl kq) ?_
                  refine gs (mkF m 583 #[.val (.int x0), .val (.int x1), .val (.int x2), .val (.long x3), .second, .val (.long x4), .second, .val (.int (x0 &&& (7 : Int32))), .val (.int (1 : Int32)), .val (.int (x2 &&& (255 : Int32))), .unset, .val (.ref b88)] [(.ref b88), (.ref b107), (.ref b107)]) (fun _ _ A kq => XS.aload A hx rfl (hb hby at_581) rfl rfl kq) ?_
                  have f110 := (V106.ext E107)
                  have VS109 : Arv Z h107 b88 k88 .char (16 : Int32) (([(104 : Int32), (105 : Int32), (103 : Int32), (104 : Int32), (108 : Int32), (121 : Int32), (95 : Int32), (97 : Int32), (118 : Int32), (97 : Int32), (105 : Int32), (108 : Int32), (97 : Int32), (98 : Int32), (108 : Int32), (101 : Int32)].set (((x1 &&& (2147483647 : Int32)) % (16 : Int32)).toNatClampNeg) (x2 &&& (255 : Int32))).map Value.int) (.int (0 : Int32)) := by rw [List.map_set]; exact f110
                  refine ginfo fun _ _ O108 => ?_
                  refine gcallI (y := (⟨"java/lang/String", "<init>", "([C)V"⟩ : MethodName)) hx rfl (ow hw 4 rfl) (ow hw 5 rfl) (ow hw 6 rfl) (by decide) (fun hZ H hEL => own_payNew (W := 1) (own_wNew hw) (ow hw 2 rfl) Scs hzc O108 (cs := ([(104 : Int32), (105 : Int32), (103 : Int32), (104 : Int32), (108 : Int32), (121 : Int32), (95 : Int32), (97 : Int32), (118 : Int32), (97 : Int32), (105 : Int32), (108 : Int32), (97 : Int32), (98 : Int32), (108 : Int32), (101 : Int32)].set (((x1 &&& (2147483647 : Int32)) % (16 : Int32)).toNatClampNeg) (x2 &&& (255 : Int32)))) (n := 16) n107 A107 F107_value F107_coder VS109 (List.length_set ..) rfl (by decide) (by decide) (bset (bcons ⟨by decide, by decide⟩ (bcons ⟨by decide, by decide⟩ (bcons ⟨by decide, by decide⟩ (bcons ⟨by decide, by decide⟩ (bcons ⟨by decide, by decide⟩ (bcons ⟨by decide, by decide⟩ (bcons ⟨by decide, by decide⟩ (bcons ⟨by decide, by decide⟩ (bcons ⟨by decide, by decide⟩ (bcons ⟨by decide, by decide⟩ (bcons ⟨by decide, by decide⟩ (bcons ⟨by decide, by decide⟩ (bcons ⟨by decide, by decide⟩ (bcons ⟨by decide, by decide⟩ (bcons ⟨by decide, by decide⟩ (bcons ⟨by decide, by decide⟩ bnil)))))))))))))))) (b255 _)) L107 (by decide) (by decide) hZ H hEL) (a := b107) 586 (argsL := [(.ref b88)]) (rest := [(.ref b107)]) (lenOf own_pd150 rfl) rfl rfl (Nat.le_of_eq rfl) (by rw [hml]; rfl) (hb hby at_583) rfl (by decide) (by decide) ?_
                  rintro _ vm108 h108 C108 ⟨t108, rfl, K108, g108, S108⟩
                  have z108 := C108.2.1
                  have lt_t108 : h108.size > t108 := S108.tlt
                  refine gat (mkF m 586 #[.val (.int x0), .val (.int x1), .val (.int x2), .val (.long x3), .second, .val (.long x4), .second, .val (.int (x0 &&& (7 : Int32))), .val (.int (1 : Int32)), .val (.int (x2 &&& (255 : Int32))), .unset, .val (.ref b88)] [(.ref b107)]) rfl ?_
                  refine gs (mkF m 588 #[.val (.int x0), .val (.int x1), .val (.int x2), .val (.long x3), .second, .val (.long x4), .second, .val (.int (x0 &&& (7 : Int32))), .val (.int (1 : Int32)), .val (.int (x2 &&& (255 : Int32))), .val (.ref b107), .val (.ref b88)] []) (fun _ _ A kq => XS.astore A hx rfl (hb hby at_586) rfl rfl (l' := #[.val (.int x0), .val (.int x1), .val (.int x2), .val (.long x3), .second, .val (.long x4), .second, .val (.int (x0 &&& (7 : Int32))), .val (.int (1 : Int32)), .val (.int (x2 &&& (255 : Int32))), .val (.ref b107), .val (.ref b88)]) rfl kq) ?_
                  exact gmono (by decide) (by decide) (J65 _ _ _ ⟨b107, t108, ([(104 : Int32), (105 : Int32), (103 : Int32), (104 : Int32), (108 : Int32), (121 : Int32), (95 : Int32), (97 : Int32), (118 : Int32), (97 : Int32), (105 : Int32), (108 : Int32), (97 : Int32), (98 : Int32), (108 : Int32), (101 : Int32)].set (((x1 &&& (2147483647 : Int32)) % (16 : Int32)).toNatClampNeg) (x2 &&& (255 : Int32))), (.val (.ref b88)), rfl, (((((((((((((((((((((Keep.refl h0 []).ext E88).wr W89 (Or.inr (by omega))).wr W90 (Or.inr (by omega))).wr W91 (Or.inr (by omega))).wr W92 (Or.inr (by omega))).wr W93 (Or.inr (by omega))).wr W94 (Or.inr (by omega))).wr W95 (Or.inr (by omega))).wr W96 (Or.inr (by omega))).wr W97 (Or.inr (by omega))).wr W98 (Or.inr (by omega))).wr W99 (Or.inr (by omega))).wr W100 (Or.inr (by omega))).wr W101 (Or.inr (by omega))).wr W102 (Or.inr (by omega))).wr W103 (Or.inr (by omega))).wr W104 (Or.inr (by omega))).wr W106 (Or.inr (by omega))).ext E107).trans K108 (allS (Or.inr (by omega)) all0)), (((((((((((((((((((C88.trans C89).trans C90).trans C91).trans C92).trans C93).trans C94).trans C95).trans C96).trans C97).trans C98).trans C99).trans C100).trans C101).trans C102).trans C103).trans C104).trans C106).trans C107).trans C108), S108⟩)
                · refine gs (mkF m 269 #[.val (.int x0), .val (.int x1), .val (.int x2), .val (.long x3), .second, .val (.long x4), .second, .val (.int (x0 &&& (7 : Int32))), .val (.int (1 : Int32)), .val (.int (x2 &&& (255 : Int32))), .unset, .unset] []) (fun _ _ A kq => XS.icmpYes A hx rfl (pc0 := 123) (pc' := 269) rfl (hb hby at_123) rfl (feq k1).2 (by decide) (by decide) kq) ?_
                  refine gs (mkF m 271 #[.val (.int x0), .val (.int x1), .val (.int x2), .val (.long x3), .second, .val (.long x4), .second, .val (.int (x0 &&& (7 : Int32))), .val (.int (1 : Int32)), .val (.int (x2 &&& (255 : Int32))), .unset, .unset] [(.int (x0 &&& (7 : Int32)))]) (fun _ _ A kq => XS.iload A hx rfl (hb hby at_269) rfl  kq) ?_
                  refine gs (mkF m 272 #[.val (.int x0), .val (.int x1), .val (.int x2), .val (.long x3), .second, .val (.long x4), .second, .val (.int (x0 &&& (7 : Int32))), .val (.int (1 : Int32)), .val (.int (x2 &&& (255 : Int32))), .unset, .unset] [(.int (2 : Int32)), (.int (x0 &&& (7 : Int32)))]) (fun _ _ A kq => XS.iconst A hx rfl (hb hby at_271) kq) ?_
                  by_cases k2 : (x0 &&& (7 : Int32)) = (2 : Int32)
                  · refine gs (mkF m 275 #[.val (.int x0), .val (.int x1), .val (.int x2), .val (.long x3), .second, .val (.long x4), .second, .val (.int (x0 &&& (7 : Int32))), .val (.int (1 : Int32)), .val (.int (x2 &&& (255 : Int32))), .unset, .unset] []) (fun _ _ A kq => XS.icmpNo A hx rfl (hb hby at_272) rfl (teq k2).2 kq) ?_
                    refine gs (mkF m 277 #[.val (.int x0), .val (.int x1), .val (.int x2), .val (.long x3), .second, .val (.long x4), .second, .val (.int (x0 &&& (7 : Int32))), .val (.int (1 : Int32)), .val (.int (x2 &&& (255 : Int32))), .unset, .unset] [(.int (1 : Int32))]) (fun _ _ A kq => XS.iload A hx rfl (hb hby at_275) rfl  kq) ?_
                    refine gs (mkF m 280 #[.val (.int x0), .val (.int x1), .val (.int x2), .val (.long x3), .second, .val (.long x4), .second, .val (.int (x0 &&& (7 : Int32))), .val (.int (1 : Int32)), .val (.int (x2 &&& (255 : Int32))), .unset, .unset] []) (fun _ _ A kq => XS.ifNo A hx rfl (hb hby at_277) rfl ((if0 _ _).trans (feq (by decide)).1) kq) ?_
                    refine gs (mkF m 282 #[.val (.int x0), .val (.int x1), .val (.int x2), .val (.long x3), .second, .val (.long x4), .second, .val (.int (x0 &&& (7 : Int32))), .val (.int (1 : Int32)), .val (.int (x2 &&& (255 : Int32))), .unset, .unset] [(.int (15 : Int32))]) (fun _ _ A kq => XS.bipush A hx rfl (hb hby at_280) kq) ?_
                    refine gnewP hx (ow hw 0 rfl) (n := (15 : Int32)) (by decide) (cap := 15) (by decide) (by decide) 284 (hb hby at_282) rfl (by decide) (by decide) ?_
                    intro b111 h111 k111 g111 E111 C111 V111 n111 L111
                    have z111 := C111.2.1
                    have V111 : Arv Z h111 b111 k111 .char (15 : Int32) [(.int (0 : Int32)), (.int (0 : Int32)), (.int (0 : Int32)), (.int (0 : Int32)), (.int (0 : Int32)), (.int (0 : Int32)), (.int (0 : Int32)), (.int (0 : Int32)), (.int (0 : Int32)), (.int (0 : Int32)), (.int (0 : Int32)), (.int (0 : Int32)), (.int (0 : Int32)), (.int (0 : Int32)), (.int (0 : Int32))] (.int (0 : Int32)) := V111.pad (pad_rep [] (.int (0 : Int32)) 15)
                    have lt_b111 : h111.size > b111 := V111.lt
                    refine gs (mkF m 285 #[.val (.int x0), .val (.int x1), .val (.int x2), .val (.long x3), .second, .val (.long x4), .second, .val (.int (x0 &&& (7 : Int32))), .val (.int (1 : Int32)), .val (.int (x2 &&& (255 : Int32))), .unset, .unset] [(.ref b111), (.ref b111)]) (fun _ _ A kq => XS.dup A hx rfl (hb hby at_284) rfl rfl kq) ?_
                    refine gs (mkF m 286 #[.val (.int x0), .val (.int x1), .val (.int x2), .val (.long x3), .second, .val (.long x4), .second, .val (.int (x0 &&& (7 : Int32))), .val (.int (1 : Int32)), .val (.int (x2 &&& (255 : Int32))), .unset, .unset] [(.int (0 : Int32)), (.ref b111), (.ref b111)]) (fun _ _ A kq => XS.iconst A hx rfl (hb hby at_285) kq) ?_
                    refine gs (mkF m 288 #[.val (.int x0), .val (.int x1), .val (.int x2), .val (.long x3), .second, .val (.long x4), .second, .val (.int (x0 &&& (7 : Int32))), .val (.int (1 : Int32)), .val (.int (x2 &&& (255 : Int32))), .unset, .unset] [(.int (104 : Int32)), (.int (0 : Int32)), (.ref b111), (.ref b111)]) (fun _ _ A kq => XS.bipush A hx rfl (hb hby at_286) kq) ?_
                    refine gstC hx V111 ⟨by decide, by decide⟩ (i := 0) rfl (Nat.le_of_ble_eq_true rfl) (y := (104 : Int32)) (by decide) n111 289 (hb hby at_288) rfl ?_
                    intro h112 W112 C112 V112
                    have z112 := C112.2.1
                    replace V112 : Arv Z h112 b111 k111 .char (15 : Int32) [(.int (104 : Int32)), (.int (0 : Int32)), (.int (0 : Int32)), (.int (0 : Int32)), (.int (0 : Int32)), (.int (0 : Int32)), (.int (0 : Int32)), (.int (0 : Int32)), (.int (0 : Int32)), (.int (0 : Int32)), (.int (0 : Int32)), (.int (0 : Int32)), (.int (0 : Int32)), (.int (0 : Int32)), (.int (0 : Int32))] (.int (0 : Int32)) := V112
                    refine gs (mkF m 290 #[.val (.int x0), .val (.int x1), .val (.int x2), .val (.long x3), .second, .val (.long x4), .second, .val (.int (x0 &&& (7 : Int32))), .val (.int (1 : Int32)), .val (.int (x2 &&& (255 : Int32))), .unset, .unset] [(.ref b111), (.ref b111)]) (fun _ _ A kq => XS.dup A hx rfl (hb hby at_289) rfl rfl kq) ?_
                    refine gs (mkF m 291 #[.val (.int x0), .val (.int x1), .val (.int x2), .val (.long x3), .second, .val (.long x4), .second, .val (.int (x0 &&& (7 : Int32))), .val (.int (1 : Int32)), .val (.int (x2 &&& (255 : Int32))), .unset, .unset] [(.int (1 : Int32)), (.ref b111), (.ref b111)]) (fun _ _ A kq => XS.iconst A hx rfl (hb hby at_290) kq) ?_
                    refine gs (mkF m 293 #[.val (.int x0), .val (.int x1), .val (.int x2), .val (.long x3), .second, .val (.long x4), .second, .val (.int (x0 &&& (7 : Int32))), .val (.int (1 : Int32)), .val (.int (x2 &&& (255 : Int32))), .unset, .unset] [(.int (105 : Int32)), (.int (1 : Int32)), (.ref b111), (.ref b111)]) (fun _ _ A kq => XS.bipush A hx rfl (hb hby at_291) kq) ?_
                    refine gstC hx V112 ⟨by decide, by decide⟩ (i := 1) rfl (Nat.le_of_ble_eq_true rfl) (y := (105 : Int32)) (by decide) n111 294 (hb hby at_293) rfl ?_
                    intro h113 W113 C113 V113
                    have z113 := C113.2.1
                    replace V113 : Arv Z h113 b111 k111 .char (15 : Int32) [(.int (104 : Int32)), (.int (105 : Int32)), (.int (0 : Int32)), (.int (0 : Int32)), (.int (0 : Int32)), (.int (0 : Int32)), (.int (0 : Int32)), (.int (0 : Int32)), (.int (0 : Int32)), (.int (0 : Int32)), (.int (0 : Int32)), (.int (0 : Int32)), (.int (0 : Int32)), (.int (0 : Int32)), (.int (0 : Int32))] (.int (0 : Int32)) := V113
                    refine gs (mkF m 295 #[.val (.int x0), .val (.int x1), .val (.int x2), .val (.long x3), .second, .val (.long x4), .second, .val (.int (x0 &&& (7 : Int32))), .val (.int (1 : Int32)), .val (.int (x2 &&& (255 : Int32))), .unset, .unset] [(.ref b111), (.ref b111)]) (fun _ _ A kq => XS.dup A hx rfl (hb hby at_294) rfl rfl kq) ?_
                    refine gs (mkF m 296 #[.val (.int x0), .val (.int x1), .val (.int x2), .val (.long x3), .second, .val (.long x4), .second, .val (.int (x0 &&& (7 : Int32))), .val (.int (1 : Int32)), .val (.int (x2 &&& (255 : Int32))), .unset, .unset] [(.int (2 : Int32)), (.ref b111), (.ref b111)]) (fun _ _ A kq => XS.iconst A hx rfl (hb hby at_295) kq) ?_
                    refine gs (mkF m 298 #[.val (.int x0), .val (.int x1), .val (.int x2), .val (.long x3), .second, .val (.long x4), .second, .val (.int (x0 &&& (7 : Int32))), .val (.int (1 : Int32)), .val (.int (x2 &&& (255 : Int32))), .unset, .unset] [(.int (103 : Int32)), (.int (2 : Int32)), (.ref b111), (.ref b111)]) (fun _ _ A kq => XS.bipush A hx rfl (hb hby at_296) kq) ?_
                    refine gstC hx V113 ⟨by decide, by decide⟩ (i := 2) rfl (Nat.le_of_ble_eq_true rfl) (y := (103 : Int32)) (by decide) n111 299 (hb hby at_298) rfl ?_
                    intro h114 W114 C114 V114
                    have z114 := C114.2.1
                    replace V114 : Arv Z h114 b111 k111 .char (15 : Int32) [(.int (104 : Int32)), (.int (105 : Int32)), (.int (103 : Int32)), (.int (0 : Int32)), (.int (0 : Int32)), (.int (0 : Int32)), (.int (0 : Int32)), (.int (0 : Int32)), (.int (0 : Int32)), (.int (0 : Int32)), (.int (0 : Int32)), (.int (0 : Int32)), (.int (0 : Int32)), (.int (0 : Int32)), (.int (0 : Int32))] (.int (0 : Int32)) := V114
                    refine gs (mkF m 300 #[.val (.int x0), .val (.int x1), .val (.int x2), .val (.long x3), .second, .val (.long x4), .second, .val (.int (x0 &&& (7 : Int32))), .val (.int (1 : Int32)), .val (.int (x2 &&& (255 : Int32))), .unset, .unset] [(.ref b111), (.ref b111)]) (fun _ _ A kq => XS.dup A hx rfl (hb hby at_299) rfl rfl kq) ?_
                    refine gs (mkF m 301 #[.val (.int x0), .val (.int x1), .val (.int x2), .val (.long x3), .second, .val (.long x4), .second, .val (.int (x0 &&& (7 : Int32))), .val (.int (1 : Int32)), .val (.int (x2 &&& (255 : Int32))), .unset, .unset] [(.int (3 : Int32)), (.ref b111), (.ref b111)]) (fun _ _ A kq => XS.iconst A hx rfl (hb hby at_300) kq) ?_
                    refine gs (mkF m 303 #[.val (.int x0), .val (.int x1), .val (.int x2), .val (.long x3), .second, .val (.long x4), .second, .val (.int (x0 &&& (7 : Int32))), .val (.int (1 : Int32)), .val (.int (x2 &&& (255 : Int32))), .unset, .unset] [(.int (104 : Int32)), (.int (3 : Int32)), (.ref b111), (.ref b111)]) (fun _ _ A kq => XS.bipush A hx rfl (hb hby at_301) kq) ?_
                    refine gstC hx V114 ⟨by decide, by decide⟩ (i := 3) rfl (Nat.le_of_ble_eq_true rfl) (y := (104 : Int32)) (by decide) n111 304 (hb hby at_303) rfl ?_
                    intro h115 W115 C115 V115
                    have z115 := C115.2.1
                    replace V115 : Arv Z h115 b111 k111 .char (15 : Int32) [(.int (104 : Int32)), (.int (105 : Int32)), (.int (103 : Int32)), (.int (104 : Int32)), (.int (0 : Int32)), (.int (0 : Int32)), (.int (0 : Int32)), (.int (0 : Int32)), (.int (0 : Int32)), (.int (0 : Int32)), (.int (0 : Int32)), (.int (0 : Int32)), (.int (0 : Int32)), (.int (0 : Int32)), (.int (0 : Int32))] (.int (0 : Int32)) := V115
                    refine gs (mkF m 305 #[.val (.int x0), .val (.int x1), .val (.int x2), .val (.long x3), .second, .val (.long x4), .second, .val (.int (x0 &&& (7 : Int32))), .val (.int (1 : Int32)), .val (.int (x2 &&& (255 : Int32))), .unset, .unset] [(.ref b111), (.ref b111)]) (fun _ _ A kq => XS.dup A hx rfl (hb hby at_304) rfl rfl kq) ?_
                    refine gs (mkF m 306 #[.val (.int x0), .val (.int x1), .val (.int x2), .val (.long x3), .second, .val (.long x4), .second, .val (.int (x0 &&& (7 : Int32))), .val (.int (1 : Int32)), .val (.int (x2 &&& (255 : Int32))), .unset, .unset] [(.int (4 : Int32)), (.ref b111), (.ref b111)]) (fun _ _ A kq => XS.iconst A hx rfl (hb hby at_305) kq) ?_
                    refine gs (mkF m 308 #[.val (.int x0), .val (.int x1), .val (.int x2), .val (.long x3), .second, .val (.long x4), .second, .val (.int (x0 &&& (7 : Int32))), .val (.int (1 : Int32)), .val (.int (x2 &&& (255 : Int32))), .unset, .unset] [(.int (108 : Int32)), (.int (4 : Int32)), (.ref b111), (.ref b111)]) (fun _ _ A kq => XS.bipush A hx rfl (hb hby at_306) kq) ?_
                    refine gstC hx V115 ⟨by decide, by decide⟩ (i := 4) rfl (Nat.le_of_ble_eq_true rfl) (y := (108 : Int32)) (by decide) n111 309 (hb hby at_308) rfl ?_
                    intro h116 W116 C116 V116
                    have z116 := C116.2.1
                    replace V116 : Arv Z h116 b111 k111 .char (15 : Int32) [(.int (104 : Int32)), (.int (105 : Int32)), (.int (103 : Int32)), (.int (104 : Int32)), (.int (108 : Int32)), (.int (0 : Int32)), (.int (0 : Int32)), (.int (0 : Int32)), (.int (0 : Int32)), (.int (0 : Int32)), (.int (0 : Int32)), (.int (0 : Int32)), (.int (0 : Int32)), (.int (0 : Int32)), (.int (0 : Int32))] (.int (0 : Int32)) := V116
                    refine gs (mkF m 310 #[.val (.int x0), .val (.int x1), .val (.int x2), .val (.long x3), .second, .val (.long x4), .second, .val (.int (x0 &&& (7 : Int32))), .val (.int (1 : Int32)), .val (.int (x2 &&& (255 : Int32))), .unset, .unset] [(.ref b111), (.ref b111)]) (fun _ _ A kq => XS.dup A hx rfl (hb hby at_309) rfl rfl kq) ?_
                    refine gs (mkF m 311 #[.val (.int x0), .val (.int x1), .val (.int x2), .val (.long x3), .second, .val (.long x4), .second, .val (.int (x0 &&& (7 : Int32))), .val (.int (1 : Int32)), .val (.int (x2 &&& (255 : Int32))), .unset, .unset] [(.int (5 : Int32)), (.ref b111), (.ref b111)]) (fun _ _ A kq => XS.iconst A hx rfl (hb hby at_310) kq) ?_
                    refine gs (mkF m 313 #[.val (.int x0), .val (.int x1), .val (.int x2), .val (.long x3), .second, .val (.long x4), .second, .val (.int (x0 &&& (7 : Int32))), .val (.int (1 : Int32)), .val (.int (x2 &&& (255 : Int32))), .unset, .unset] [(.int (121 : Int32)), (.int (5 : Int32)), (.ref b111), (.ref b111)]) (fun _ _ A kq => XS.bipush A hx rfl (hb hby at_311) kq) ?_
                    refine gstC hx V116 ⟨by decide, by decide⟩ (i := 5) rfl (Nat.le_of_ble_eq_true rfl) (y := (121 : Int32)) (by decide) n111 314 (hb hby at_313) rfl ?_
                    intro h117 W117 C117 V117
                    have z117 := C117.2.1
                    replace V117 : Arv Z h117 b111 k111 .char (15 : Int32) [(.int (104 : Int32)), (.int (105 : Int32)), (.int (103 : Int32)), (.int (104 : Int32)), (.int (108 : Int32)), (.int (121 : Int32)), (.int (0 : Int32)), (.int (0 : Int32)), (.int (0 : Int32)), (.int (0 : Int32)), (.int (0 : Int32)), (.int (0 : Int32)), (.int (0 : Int32)), (.int (0 : Int32)), (.int (0 : Int32))] (.int (0 : Int32)) := V117
                    refine gs (mkF m 315 #[.val (.int x0), .val (.int x1), .val (.int x2), .val (.long x3), .second, .val (.long x4), .second, .val (.int (x0 &&& (7 : Int32))), .val (.int (1 : Int32)), .val (.int (x2 &&& (255 : Int32))), .unset, .unset] [(.ref b111), (.ref b111)]) (fun _ _ A kq => XS.dup A hx rfl (hb hby at_314) rfl rfl kq) ?_
                    refine gs (mkF m 317 #[.val (.int x0), .val (.int x1), .val (.int x2), .val (.long x3), .second, .val (.long x4), .second, .val (.int (x0 &&& (7 : Int32))), .val (.int (1 : Int32)), .val (.int (x2 &&& (255 : Int32))), .unset, .unset] [(.int (6 : Int32)), (.ref b111), (.ref b111)]) (fun _ _ A kq => XS.bipush A hx rfl (hb hby at_315) kq) ?_
                    refine gs (mkF m 319 #[.val (.int x0), .val (.int x1), .val (.int x2), .val (.long x3), .second, .val (.long x4), .second, .val (.int (x0 &&& (7 : Int32))), .val (.int (1 : Int32)), .val (.int (x2 &&& (255 : Int32))), .unset, .unset] [(.int (95 : Int32)), (.int (6 : Int32)), (.ref b111), (.ref b111)]) (fun _ _ A kq => XS.bipush A hx rfl (hb hby at_317) kq) ?_
                    refine gstC hx V117 ⟨by decide, by decide⟩ (i := 6) rfl (Nat.le_of_ble_eq_true rfl) (y := (95 : Int32)) (by decide) n111 320 (hb hby at_319) rfl ?_
                    intro h118 W118 C118 V118
                    have z118 := C118.2.1
                    replace V118 : Arv Z h118 b111 k111 .char (15 : Int32) [(.int (104 : Int32)), (.int (105 : Int32)), (.int (103 : Int32)), (.int (104 : Int32)), (.int (108 : Int32)), (.int (121 : Int32)), (.int (95 : Int32)), (.int (0 : Int32)), (.int (0 : Int32)), (.int (0 : Int32)), (.int (0 : Int32)), (.int (0 : Int32)), (.int (0 : Int32)), (.int (0 : Int32)), (.int (0 : Int32))] (.int (0 : Int32)) := V118
                    refine gs (mkF m 321 #[.val (.int x0), .val (.int x1), .val (.int x2), .val (.long x3), .second, .val (.long x4), .second, .val (.int (x0 &&& (7 : Int32))), .val (.int (1 : Int32)), .val (.int (x2 &&& (255 : Int32))), .unset, .unset] [(.ref b111), (.ref b111)]) (fun _ _ A kq => XS.dup A hx rfl (hb hby at_320) rfl rfl kq) ?_
                    refine gs (mkF m 323 #[.val (.int x0), .val (.int x1), .val (.int x2), .val (.long x3), .second, .val (.long x4), .second, .val (.int (x0 &&& (7 : Int32))), .val (.int (1 : Int32)), .val (.int (x2 &&& (255 : Int32))), .unset, .unset] [(.int (7 : Int32)), (.ref b111), (.ref b111)]) (fun _ _ A kq => XS.bipush A hx rfl (hb hby at_321) kq) ?_
                    refine gs (mkF m 325 #[.val (.int x0), .val (.int x1), .val (.int x2), .val (.long x3), .second, .val (.long x4), .second, .val (.int (x0 &&& (7 : Int32))), .val (.int (1 : Int32)), .val (.int (x2 &&& (255 : Int32))), .unset, .unset] [(.int (97 : Int32)), (.int (7 : Int32)), (.ref b111), (.ref b111)]) (fun _ _ A kq => XS.bipush A hx rfl (hb hby at_323) kq) ?_
                    refine gstC hx V118 ⟨by decide, by decide⟩ (i := 7) rfl (Nat.le_of_ble_eq_true rfl) (y := (97 : Int32)) (by decide) n111 326 (hb hby at_325) rfl ?_
                    intro h119 W119 C119 V119
                    have z119 := C119.2.1
                    replace V119 : Arv Z h119 b111 k111 .char (15 : Int32) [(.int (104 : Int32)), (.int (105 : Int32)), (.int (103 : Int32)), (.int (104 : Int32)), (.int (108 : Int32)), (.int (121 : Int32)), (.int (95 : Int32)), (.int (97 : Int32)), (.int (0 : Int32)), (.int (0 : Int32)), (.int (0 : Int32)), (.int (0 : Int32)), (.int (0 : Int32)), (.int (0 : Int32)), (.int (0 : Int32))] (.int (0 : Int32)) := V119
                    refine gs (mkF m 327 #[.val (.int x0), .val (.int x1), .val (.int x2), .val (.long x3), .second, .val (.long x4), .second, .val (.int (x0 &&& (7 : Int32))), .val (.int (1 : Int32)), .val (.int (x2 &&& (255 : Int32))), .unset, .unset] [(.ref b111), (.ref b111)]) (fun _ _ A kq => XS.dup A hx rfl (hb hby at_326) rfl rfl kq) ?_
                    refine gs (mkF m 329 #[.val (.int x0), .val (.int x1), .val (.int x2), .val (.long x3), .second, .val (.long x4), .second, .val (.int (x0 &&& (7 : Int32))), .val (.int (1 : Int32)), .val (.int (x2 &&& (255 : Int32))), .unset, .unset] [(.int (8 : Int32)), (.ref b111), (.ref b111)]) (fun _ _ A kq => XS.bipush A hx rfl (hb hby at_327) kq) ?_
                    refine gs (mkF m 331 #[.val (.int x0), .val (.int x1), .val (.int x2), .val (.long x3), .second, .val (.long x4), .second, .val (.int (x0 &&& (7 : Int32))), .val (.int (1 : Int32)), .val (.int (x2 &&& (255 : Int32))), .unset, .unset] [(.int (118 : Int32)), (.int (8 : Int32)), (.ref b111), (.ref b111)]) (fun _ _ A kq => XS.bipush A hx rfl (hb hby at_329) kq) ?_
                    refine gstC hx V119 ⟨by decide, by decide⟩ (i := 8) rfl (Nat.le_of_ble_eq_true rfl) (y := (118 : Int32)) (by decide) n111 332 (hb hby at_331) rfl ?_
                    intro h120 W120 C120 V120
                    have z120 := C120.2.1
                    replace V120 : Arv Z h120 b111 k111 .char (15 : Int32) [(.int (104 : Int32)), (.int (105 : Int32)), (.int (103 : Int32)), (.int (104 : Int32)), (.int (108 : Int32)), (.int (121 : Int32)), (.int (95 : Int32)), (.int (97 : Int32)), (.int (118 : Int32)), (.int (0 : Int32)), (.int (0 : Int32)), (.int (0 : Int32)), (.int (0 : Int32)), (.int (0 : Int32)), (.int (0 : Int32))] (.int (0 : Int32)) := V120
                    refine gs (mkF m 333 #[.val (.int x0), .val (.int x1), .val (.int x2), .val (.long x3), .second, .val (.long x4), .second, .val (.int (x0 &&& (7 : Int32))), .val (.int (1 : Int32)), .val (.int (x2 &&& (255 : Int32))), .unset, .unset] [(.ref b111), (.ref b111)]) (fun _ _ A kq => XS.dup A hx rfl (hb hby at_332) rfl rfl kq) ?_
                    refine gs (mkF m 335 #[.val (.int x0), .val (.int x1), .val (.int x2), .val (.long x3), .second, .val (.long x4), .second, .val (.int (x0 &&& (7 : Int32))), .val (.int (1 : Int32)), .val (.int (x2 &&& (255 : Int32))), .unset, .unset] [(.int (9 : Int32)), (.ref b111), (.ref b111)]) (fun _ _ A kq => XS.bipush A hx rfl (hb hby at_333) kq) ?_
                    refine gs (mkF m 337 #[.val (.int x0), .val (.int x1), .val (.int x2), .val (.long x3), .second, .val (.long x4), .second, .val (.int (x0 &&& (7 : Int32))), .val (.int (1 : Int32)), .val (.int (x2 &&& (255 : Int32))), .unset, .unset] [(.int (97 : Int32)), (.int (9 : Int32)), (.ref b111), (.ref b111)]) (fun _ _ A kq => XS.bipush A hx rfl (hb hby at_335) kq) ?_
                    refine gstC hx V120 ⟨by decide, by decide⟩ (i := 9) rfl (Nat.le_of_ble_eq_true rfl) (y := (97 : Int32)) (by decide) n111 338 (hb hby at_337) rfl ?_
                    intro h121 W121 C121 V121
                    have z121 := C121.2.1
                    replace V121 : Arv Z h121 b111 k111 .char (15 : Int32) [(.int (104 : Int32)), (.int (105 : Int32)), (.int (103 : Int32)), (.int (104 : Int32)), (.int (108 : Int32)), (.int (121 : Int32)), (.int (95 : Int32)), (.int (97 : Int32)), (.int (118 : Int32)), (.int (97 : Int32)), (.int (0 : Int32)), (.int (0 : Int32)), (.int (0 : Int32)), (.int (0 : Int32)), (.int (0 : Int32))] (.int (0 : Int32)) := V121
                    refine gs (mkF m 339 #[.val (.int x0), .val (.int x1), .val (.int x2), .val (.long x3), .second, .val (.long x4), .second, .val (.int (x0 &&& (7 : Int32))), .val (.int (1 : Int32)), .val (.int (x2 &&& (255 : Int32))), .unset, .unset] [(.ref b111), (.ref b111)]) (fun _ _ A kq => XS.dup A hx rfl (hb hby at_338) rfl rfl kq) ?_
                    refine gs (mkF m 341 #[.val (.int x0), .val (.int x1), .val (.int x2), .val (.long x3), .second, .val (.long x4), .second, .val (.int (x0 &&& (7 : Int32))), .val (.int (1 : Int32)), .val (.int (x2 &&& (255 : Int32))), .unset, .unset] [(.int (10 : Int32)), (.ref b111), (.ref b111)]) (fun _ _ A kq => XS.bipush A hx rfl (hb hby at_339) kq) ?_
                    refine gs (mkF m 343 #[.val (.int x0), .val (.int x1), .val (.int x2), .val (.long x3), .second, .val (.long x4), .second, .val (.int (x0 &&& (7 : Int32))), .val (.int (1 : Int32)), .val (.int (x2 &&& (255 : Int32))), .unset, .unset] [(.int (105 : Int32)), (.int (10 : Int32)), (.ref b111), (.ref b111)]) (fun _ _ A kq => XS.bipush A hx rfl (hb hby at_341) kq) ?_
                    refine gstC hx V121 ⟨by decide, by decide⟩ (i := 10) rfl (Nat.le_of_ble_eq_true rfl) (y := (105 : Int32)) (by decide) n111 344 (hb hby at_343) rfl ?_
                    intro h122 W122 C122 V122
                    have z122 := C122.2.1
                    replace V122 : Arv Z h122 b111 k111 .char (15 : Int32) [(.int (104 : Int32)), (.int (105 : Int32)), (.int (103 : Int32)), (.int (104 : Int32)), (.int (108 : Int32)), (.int (121 : Int32)), (.int (95 : Int32)), (.int (97 : Int32)), (.int (118 : Int32)), (.int (97 : Int32)), (.int (105 : Int32)), (.int (0 : Int32)), (.int (0 : Int32)), (.int (0 : Int32)), (.int (0 : Int32))] (.int (0 : Int32)) := V122
                    refine gs (mkF m 345 #[.val (.int x0), .val (.int x1), .val (.int x2), .val (.long x3), .second, .val (.long x4), .second, .val (.int (x0 &&& (7 : Int32))), .val (.int (1 : Int32)), .val (.int (x2 &&& (255 : Int32))), .unset, .unset] [(.ref b111), (.ref b111)]) (fun _ _ A kq => XS.dup A hx rfl (hb hby at_344) rfl rfl kq) ?_
                    refine gs (mkF m 347 #[.val (.int x0), .val (.int x1), .val (.int x2), .val (.long x3), .second, .val (.long x4), .second, .val (.int (x0 &&& (7 : Int32))), .val (.int (1 : Int32)), .val (.int (x2 &&& (255 : Int32))), .unset, .unset] [(.int (11 : Int32)), (.ref b111), (.ref b111)]) (fun _ _ A kq => XS.bipush A hx rfl (hb hby at_345) kq) ?_
                    refine gs (mkF m 349 #[.val (.int x0), .val (.int x1), .val (.int x2), .val (.long x3), .second, .val (.long x4), .second, .val (.int (x0 &&& (7 : Int32))), .val (.int (1 : Int32)), .val (.int (x2 &&& (255 : Int32))), .unset, .unset] [(.int (108 : Int32)), (.int (11 : Int32)), (.ref b111), (.ref b111)]) (fun _ _ A kq => XS.bipush A hx rfl (hb hby at_347) kq) ?_
                    refine gstC hx V122 ⟨by decide, by decide⟩ (i := 11) rfl (Nat.le_of_ble_eq_true rfl) (y := (108 : Int32)) (by decide) n111 350 (hb hby at_349) rfl ?_
                    intro h123 W123 C123 V123
                    have z123 := C123.2.1
                    replace V123 : Arv Z h123 b111 k111 .char (15 : Int32) [(.int (104 : Int32)), (.int (105 : Int32)), (.int (103 : Int32)), (.int (104 : Int32)), (.int (108 : Int32)), (.int (121 : Int32)), (.int (95 : Int32)), (.int (97 : Int32)), (.int (118 : Int32)), (.int (97 : Int32)), (.int (105 : Int32)), (.int (108 : Int32)), (.int (0 : Int32)), (.int (0 : Int32)), (.int (0 : Int32))] (.int (0 : Int32)) := V123
                    refine gs (mkF m 351 #[.val (.int x0), .val (.int x1), .val (.int x2), .val (.long x3), .second, .val (.long x4), .second, .val (.int (x0 &&& (7 : Int32))), .val (.int (1 : Int32)), .val (.int (x2 &&& (255 : Int32))), .unset, .unset] [(.ref b111), (.ref b111)]) (fun _ _ A kq => XS.dup A hx rfl (hb hby at_350) rfl rfl kq) ?_
                    refine gs (mkF m 353 #[.val (.int x0), .val (.int x1), .val (.int x2), .val (.long x3), .second, .val (.long x4), .second, .val (.int (x0 &&& (7 : Int32))), .val (.int (1 : Int32)), .val (.int (x2 &&& (255 : Int32))), .unset, .unset] [(.int (12 : Int32)), (.ref b111), (.ref b111)]) (fun _ _ A kq => XS.bipush A hx rfl (hb hby at_351) kq) ?_
                    refine gs (mkF m 355 #[.val (.int x0), .val (.int x1), .val (.int x2), .val (.long x3), .second, .val (.long x4), .second, .val (.int (x0 &&& (7 : Int32))), .val (.int (1 : Int32)), .val (.int (x2 &&& (255 : Int32))), .unset, .unset] [(.int (97 : Int32)), (.int (12 : Int32)), (.ref b111), (.ref b111)]) (fun _ _ A kq => XS.bipush A hx rfl (hb hby at_353) kq) ?_
                    refine gstC hx V123 ⟨by decide, by decide⟩ (i := 12) rfl (Nat.le_of_ble_eq_true rfl) (y := (97 : Int32)) (by decide) n111 356 (hb hby at_355) rfl ?_
                    intro h124 W124 C124 V124
                    have z124 := C124.2.1
                    replace V124 : Arv Z h124 b111 k111 .char (15 : Int32) [(.int (104 : Int32)), (.int (105 : Int32)), (.int (103 : Int32)), (.int (104 : Int32)), (.int (108 : Int32)), (.int (121 : Int32)), (.int (95 : Int32)), (.int (97 : Int32)), (.int (118 : Int32)), (.int (97 : Int32)), (.int (105 : Int32)), (.int (108 : Int32)), (.int (97 : Int32)), (.int (0 : Int32)), (.int (0 : Int32))] (.int (0 : Int32)) := V124
                    refine gs (mkF m 357 #[.val (.int x0), .val (.int x1), .val (.int x2), .val (.long x3), .second, .val (.long x4), .second, .val (.int (x0 &&& (7 : Int32))), .val (.int (1 : Int32)), .val (.int (x2 &&& (255 : Int32))), .unset, .unset] [(.ref b111), (.ref b111)]) (fun _ _ A kq => XS.dup A hx rfl (hb hby at_356) rfl rfl kq) ?_
                    refine gs (mkF m 359 #[.val (.int x0), .val (.int x1), .val (.int x2), .val (.long x3), .second, .val (.long x4), .second, .val (.int (x0 &&& (7 : Int32))), .val (.int (1 : Int32)), .val (.int (x2 &&& (255 : Int32))), .unset, .unset] [(.int (13 : Int32)), (.ref b111), (.ref b111)]) (fun _ _ A kq => XS.bipush A hx rfl (hb hby at_357) kq) ?_
                    refine gs (mkF m 361 #[.val (.int x0), .val (.int x1), .val (.int x2), .val (.long x3), .second, .val (.long x4), .second, .val (.int (x0 &&& (7 : Int32))), .val (.int (1 : Int32)), .val (.int (x2 &&& (255 : Int32))), .unset, .unset] [(.int (98 : Int32)), (.int (13 : Int32)), (.ref b111), (.ref b111)]) (fun _ _ A kq => XS.bipush A hx rfl (hb hby at_359) kq) ?_
                    refine gstC hx V124 ⟨by decide, by decide⟩ (i := 13) rfl (Nat.le_of_ble_eq_true rfl) (y := (98 : Int32)) (by decide) n111 362 (hb hby at_361) rfl ?_
                    intro h125 W125 C125 V125
                    have z125 := C125.2.1
                    replace V125 : Arv Z h125 b111 k111 .char (15 : Int32) [(.int (104 : Int32)), (.int (105 : Int32)), (.int (103 : Int32)), (.int (104 : Int32)), (.int (108 : Int32)), (.int (121 : Int32)), (.int (95 : Int32)), (.int (97 : Int32)), (.int (118 : Int32)), (.int (97 : Int32)), (.int (105 : Int32)), (.int (108 : Int32)), (.int (97 : Int32)), (.int (98 : Int32)), (.int (0 : Int32))] (.int (0 : Int32)) := V125
                    refine gs (mkF m 363 #[.val (.int x0), .val (.int x1), .val (.int x2), .val (.long x3), .second, .val (.long x4), .second, .val (.int (x0 &&& (7 : Int32))), .val (.int (1 : Int32)), .val (.int (x2 &&& (255 : Int32))), .unset, .unset] [(.ref b111), (.ref b111)]) (fun _ _ A kq => XS.dup A hx rfl (hb hby at_362) rfl rfl kq) ?_
                    refine gs (mkF m 365 #[.val (.int x0), .val (.int x1), .val (.int x2), .val (.long x3), .second, .val (.long x4), .second, .val (.int (x0 &&& (7 : Int32))), .val (.int (1 : Int32)), .val (.int (x2 &&& (255 : Int32))), .unset, .unset] [(.int (14 : Int32)), (.ref b111), (.ref b111)]) (fun _ _ A kq => XS.bipush A hx rfl (hb hby at_363) kq) ?_
                    refine gs (mkF m 367 #[.val (.int x0), .val (.int x1), .val (.int x2), .val (.long x3), .second, .val (.long x4), .second, .val (.int (x0 &&& (7 : Int32))), .val (.int (1 : Int32)), .val (.int (x2 &&& (255 : Int32))), .unset, .unset] [(.int (108 : Int32)), (.int (14 : Int32)), (.ref b111), (.ref b111)]) (fun _ _ A kq => XS.bipush A hx rfl (hb hby at_365) kq) ?_
                    refine gstC hx V125 ⟨by decide, by decide⟩ (i := 14) rfl (Nat.le_of_ble_eq_true rfl) (y := (108 : Int32)) (by decide) n111 368 (hb hby at_367) rfl ?_
                    intro h126 W126 C126 V126
                    have z126 := C126.2.1
                    replace V126 : Arv Z h126 b111 k111 .char (15 : Int32) [(.int (104 : Int32)), (.int (105 : Int32)), (.int (103 : Int32)), (.int (104 : Int32)), (.int (108 : Int32)), (.int (121 : Int32)), (.int (95 : Int32)), (.int (97 : Int32)), (.int (118 : Int32)), (.int (97 : Int32)), (.int (105 : Int32)), (.int (108 : Int32)), (.int (97 : Int32)), (.int (98 : Int32)), (.int (108 : Int32))] (.int (0 : Int32)) := V126
                    refine gs (mkF m 370 #[.val (.int x0), .val (.int x1), .val (.int x2), .val (.long x3), .second, .val (.long x4), .second, .val (.int (x0 &&& (7 : Int32))), .val (.int (1 : Int32)), .val (.int (x2 &&& (255 : Int32))), .unset, .val (.ref b111)] []) (fun _ _ A kq => XS.astore A hx rfl (hb hby at_368) rfl rfl (l' := #[.val (.int x0), .val (.int x1), .val (.int x2), .val (.long x3), .second, .val (.long x4), .second, .val (.int (x0 &&& (7 : Int32))), .val (.int (1 : Int32)), .val (.int (x2 &&& (255 : Int32))), .unset, .val (.ref b111)]) rfl kq) ?_
                    refine gs (mkF m 558 #[.val (.int x0), .val (.int x1), .val (.int x2), .val (.long x3), .second, .val (.long x4), .second, .val (.int (x0 &&& (7 : Int32))), .val (.int (1 : Int32)), .val (.int (x2 &&& (255 : Int32))), .unset, .val (.ref b111)] []) (fun _ _ A kq => XS.goto A hx rfl (pc0 := 370) (pc' := 558) rfl (hb hby at_370) (by decide) (by decide) kq) ?_
                    refine gs (mkF m 560 #[.val (.int x0), .val (.int x1), .val (.int x2), .val (.long x3), .second, .val (.long x4), .second, .val (.int (x0 &&& (7 : Int32))), .val (.int (1 : Int32)), .val (.int (x2 &&& (255 : Int32))), .unset, .val (.ref b111)] [(.int (x0 &&& (7 : Int32)))]) (fun _ _ A kq => XS.iload A hx rfl (hb hby at_558) rfl  kq) ?_
                    refine gs (mkF m 561 #[.val (.int x0), .val (.int x1), .val (.int x2), .val (.long x3), .second, .val (.long x4), .second, .val (.int (x0 &&& (7 : Int32))), .val (.int (1 : Int32)), .val (.int (x2 &&& (255 : Int32))), .unset, .val (.ref b111)] [(.int (1 : Int32)), (.int (x0 &&& (7 : Int32)))]) (fun _ _ A kq => XS.iconst A hx rfl (hb hby at_560) kq) ?_
                    refine gs (mkF m 577 #[.val (.int x0), .val (.int x1), .val (.int x2), .val (.long x3), .second, .val (.long x4), .second, .val (.int (x0 &&& (7 : Int32))), .val (.int (1 : Int32)), .val (.int (x2 &&& (255 : Int32))), .unset, .val (.ref b111)] []) (fun _ _ A kq => XS.icmpYes A hx rfl (pc0 := 561) (pc' := 577) rfl (hb hby at_561) rfl (feq k1).2 (by decide) (by decide) kq) ?_
                    refine gnewO hx (ow hw 1 rfl) (ow hw 2 rfl) (ow hw 3 rfl) 580 (hb hby at_577) rfl (by decide) (by decide) ?_
                    intro b127 h127 g127 E127 C127 A127 D127 n127 L127
                    have z127 := C127.2.1
                    have lt_b127 : h127.size > b127 := A127.lt
                    have F127_coder : Fld Z h127 b127 "java/lang/String" "coder" "B" (.int (0 : Int32)) := D127 (Or.inr (ow hw 27 rfl)) (ty := .byte) (by decide)
                    have F127_value : Fld Z h127 b127 "java/lang/String" "value" "[B" .null := D127 (Or.inr (ow hw 29 rfl)) (ty := (.array .byte)) (by decide)
                    refine gs (mkF m 581 #[.val (.int x0), .val (.int x1), .val (.int x2), .val (.long x3), .second, .val (.long x4), .second, .val (.int (x0 &&& (7 : Int32))), .val (.int (1 : Int32)), .val (.int (x2 &&& (255 : Int32))), .unset, .val (.ref b111)] [(.ref b127), (.ref b127)]) (fun _ _ A kq => XS.dup A hx rfl (hb hby at_580) rfl rfl kq) ?_
                    refine gs (mkF m 583 #[.val (.int x0), .val (.int x1), .val (.int x2), .val (.long x3), .second, .val (.long x4), .second, .val (.int (x0 &&& (7 : Int32))), .val (.int (1 : Int32)), .val (.int (x2 &&& (255 : Int32))), .unset, .val (.ref b111)] [(.ref b111), (.ref b127), (.ref b127)]) (fun _ _ A kq => XS.aload A hx rfl (hb hby at_581) rfl rfl kq) ?_
                    have f129 := (V126.ext E127)
                    refine ginfo fun _ _ O128 => ?_
                    refine gcallI (y := (⟨"java/lang/String", "<init>", "([C)V"⟩ : MethodName)) hx rfl (ow hw 4 rfl) (ow hw 5 rfl) (ow hw 6 rfl) (by decide) (fun hZ H hEL => own_payNew (W := 1) (own_wNew hw) (ow hw 2 rfl) Scs hzc O128 (cs := [(104 : Int32), (105 : Int32), (103 : Int32), (104 : Int32), (108 : Int32), (121 : Int32), (95 : Int32), (97 : Int32), (118 : Int32), (97 : Int32), (105 : Int32), (108 : Int32), (97 : Int32), (98 : Int32), (108 : Int32)]) (n := 15) n127 A127 F127_value F127_coder f129 rfl rfl (by decide) (by decide) (bcons ⟨by decide, by decide⟩ (bcons ⟨by decide, by decide⟩ (bcons ⟨by decide, by decide⟩ (bcons ⟨by decide, by decide⟩ (bcons ⟨by decide, by decide⟩ (bcons ⟨by decide, by decide⟩ (bcons ⟨by decide, by decide⟩ (bcons ⟨by decide, by decide⟩ (bcons ⟨by decide, by decide⟩ (bcons ⟨by decide, by decide⟩ (bcons ⟨by decide, by decide⟩ (bcons ⟨by decide, by decide⟩ (bcons ⟨by decide, by decide⟩ (bcons ⟨by decide, by decide⟩ (bcons ⟨by decide, by decide⟩ bnil))))))))))))))) L127 (by decide) (by decide) hZ H hEL) (a := b127) 586 (argsL := [(.ref b111)]) (rest := [(.ref b127)]) (lenOf own_pd150 rfl) rfl rfl (Nat.le_of_eq rfl) (by rw [hml]; rfl) (hb hby at_583) rfl (by decide) (by decide) ?_
                    rintro _ vm128 h128 C128 ⟨t128, rfl, K128, g128, S128⟩
                    have z128 := C128.2.1
                    have lt_t128 : h128.size > t128 := S128.tlt
                    refine gat (mkF m 586 #[.val (.int x0), .val (.int x1), .val (.int x2), .val (.long x3), .second, .val (.long x4), .second, .val (.int (x0 &&& (7 : Int32))), .val (.int (1 : Int32)), .val (.int (x2 &&& (255 : Int32))), .unset, .val (.ref b111)] [(.ref b127)]) rfl ?_
                    refine gs (mkF m 588 #[.val (.int x0), .val (.int x1), .val (.int x2), .val (.long x3), .second, .val (.long x4), .second, .val (.int (x0 &&& (7 : Int32))), .val (.int (1 : Int32)), .val (.int (x2 &&& (255 : Int32))), .val (.ref b127), .val (.ref b111)] []) (fun _ _ A kq => XS.astore A hx rfl (hb hby at_586) rfl rfl (l' := #[.val (.int x0), .val (.int x1), .val (.int x2), .val (.long x3), .second, .val (.long x4), .second, .val (.int (x0 &&& (7 : Int32))), .val (.int (1 : Int32)), .val (.int (x2 &&& (255 : Int32))), .val (.ref b127), .val (.ref b111)]) rfl kq) ?_
                    exact gmono (by decide) (by decide) (J65 _ _ _ ⟨b127, t128, [(104 : Int32), (105 : Int32), (103 : Int32), (104 : Int32), (108 : Int32), (121 : Int32), (95 : Int32), (97 : Int32), (118 : Int32), (97 : Int32), (105 : Int32), (108 : Int32), (97 : Int32), (98 : Int32), (108 : Int32)], (.val (.ref b111)), rfl, (((((((((((((((((((Keep.refl h0 []).ext E111).wr W112 (Or.inr (by omega))).wr W113 (Or.inr (by omega))).wr W114 (Or.inr (by omega))).wr W115 (Or.inr (by omega))).wr W116 (Or.inr (by omega))).wr W117 (Or.inr (by omega))).wr W118 (Or.inr (by omega))).wr W119 (Or.inr (by omega))).wr W120 (Or.inr (by omega))).wr W121 (Or.inr (by omega))).wr W122 (Or.inr (by omega))).wr W123 (Or.inr (by omega))).wr W124 (Or.inr (by omega))).wr W125 (Or.inr (by omega))).wr W126 (Or.inr (by omega))).ext E127).trans K128 (allS (Or.inr (by omega)) all0)), (((((((((((((((((C111.trans C112).trans C113).trans C114).trans C115).trans C116).trans C117).trans C118).trans C119).trans C120).trans C121).trans C122).trans C123).trans C124).trans C125).trans C126).trans C127).trans C128), S128⟩)
                  · refine gs (mkF m 406 #[.val (.int x0), .val (.int x1), .val (.int x2), .val (.long x3), .second, .val (.long x4), .second, .val (.int (x0 &&& (7 : Int32))), .val (.int (1 : Int32)), .val (.int (x2 &&& (255 : Int32))), .unset, .unset] []) (fun _ _ A kq => XS.icmpYes A hx rfl (pc0 := 272) (pc' := 406) rfl (hb hby at_272) rfl (feq k2).2 (by decide) (by decide) kq) ?_
                    refine gs (mkF m 408 #[.val (.int x0), .val (.int x1), .val (.int x2), .val (.long x3), .second, .val (.long x4), .second, .val (.int (x0 &&& (7 : Int32))), .val (.int (1 : Int32)), .val (.int (x2 &&& (255 : Int32))), .unset, .unset] [(.int (1 : Int32))]) (fun _ _ A kq => XS.iload A hx rfl (hb hby at_406) rfl  kq) ?_
                    refine gs (mkF m 411 #[.val (.int x0), .val (.int x1), .val (.int x2), .val (.long x3), .second, .val (.long x4), .second, .val (.int (x0 &&& (7 : Int32))), .val (.int (1 : Int32)), .val (.int (x2 &&& (255 : Int32))), .unset, .unset] []) (fun _ _ A kq => XS.ifNo A hx rfl (hb hby at_408) rfl ((if0 _ _).trans (feq (by decide)).1) kq) ?_
                    refine gs (mkF m 413 #[.val (.int x0), .val (.int x1), .val (.int x2), .val (.long x3), .second, .val (.long x4), .second, .val (.int (x0 &&& (7 : Int32))), .val (.int (1 : Int32)), .val (.int (x2 &&& (255 : Int32))), .unset, .unset] [(.int (17 : Int32))]) (fun _ _ A kq => XS.bipush A hx rfl (hb hby at_411) kq) ?_
                    refine gnewP hx (ow hw 0 rfl) (n := (17 : Int32)) (by decide) (cap := 17) (by decide) (by decide) 415 (hb hby at_413) rfl (by decide) (by decide) ?_
                    intro b130 h130 k130 g130 E130 C130 V130 n130 L130
                    have z130 := C130.2.1
                    have V130 : Arv Z h130 b130 k130 .char (17 : Int32) [(.int (0 : Int32)), (.int (0 : Int32)), (.int (0 : Int32)), (.int (0 : Int32)), (.int (0 : Int32)), (.int (0 : Int32)), (.int (0 : Int32)), (.int (0 : Int32)), (.int (0 : Int32)), (.int (0 : Int32)), (.int (0 : Int32)), (.int (0 : Int32)), (.int (0 : Int32)), (.int (0 : Int32)), (.int (0 : Int32)), (.int (0 : Int32)), (.int (0 : Int32))] (.int (0 : Int32)) := V130.pad (pad_rep [] (.int (0 : Int32)) 17)
                    have lt_b130 : h130.size > b130 := V130.lt
                    refine gs (mkF m 416 #[.val (.int x0), .val (.int x1), .val (.int x2), .val (.long x3), .second, .val (.long x4), .second, .val (.int (x0 &&& (7 : Int32))), .val (.int (1 : Int32)), .val (.int (x2 &&& (255 : Int32))), .unset, .unset] [(.ref b130), (.ref b130)]) (fun _ _ A kq => XS.dup A hx rfl (hb hby at_415) rfl rfl kq) ?_
                    refine gs (mkF m 417 #[.val (.int x0), .val (.int x1), .val (.int x2), .val (.long x3), .second, .val (.long x4), .second, .val (.int (x0 &&& (7 : Int32))), .val (.int (1 : Int32)), .val (.int (x2 &&& (255 : Int32))), .unset, .unset] [(.int (0 : Int32)), (.ref b130), (.ref b130)]) (fun _ _ A kq => XS.iconst A hx rfl (hb hby at_416) kq) ?_
                    refine gs (mkF m 419 #[.val (.int x0), .val (.int x1), .val (.int x2), .val (.long x3), .second, .val (.long x4), .second, .val (.int (x0 &&& (7 : Int32))), .val (.int (1 : Int32)), .val (.int (x2 &&& (255 : Int32))), .unset, .unset] [(.int (104 : Int32)), (.int (0 : Int32)), (.ref b130), (.ref b130)]) (fun _ _ A kq => XS.bipush A hx rfl (hb hby at_417) kq) ?_
                    refine gstC hx V130 ⟨by decide, by decide⟩ (i := 0) rfl (Nat.le_of_ble_eq_true rfl) (y := (104 : Int32)) (by decide) n130 420 (hb hby at_419) rfl ?_
                    intro h131 W131 C131 V131
                    have z131 := C131.2.1
                    replace V131 : Arv Z h131 b130 k130 .char (17 : Int32) [(.int (104 : Int32)), (.int (0 : Int32)), (.int (0 : Int32)), (.int (0 : Int32)), (.int (0 : Int32)), (.int (0 : Int32)), (.int (0 : Int32)), (.int (0 : Int32)), (.int (0 : Int32)), (.int (0 : Int32)), (.int (0 : Int32)), (.int (0 : Int32)), (.int (0 : Int32)), (.int (0 : Int32)), (.int (0 : Int32)), (.int (0 : Int32)), (.int (0 : Int32))] (.int (0 : Int32)) := V131
                    refine gs (mkF m 421 #[.val (.int x0), .val (.int x1), .val (.int x2), .val (.long x3), .second, .val (.long x4), .second, .val (.int (x0 &&& (7 : Int32))), .val (.int (1 : Int32)), .val (.int (x2 &&& (255 : Int32))), .unset, .unset] [(.ref b130), (.ref b130)]) (fun _ _ A kq => XS.dup A hx rfl (hb hby at_420) rfl rfl kq) ?_
                    refine gs (mkF m 422 #[.val (.int x0), .val (.int x1), .val (.int x2), .val (.long x3), .second, .val (.long x4), .second, .val (.int (x0 &&& (7 : Int32))), .val (.int (1 : Int32)), .val (.int (x2 &&& (255 : Int32))), .unset, .unset] [(.int (1 : Int32)), (.ref b130), (.ref b130)]) (fun _ _ A kq => XS.iconst A hx rfl (hb hby at_421) kq) ?_
                    refine gs (mkF m 424 #[.val (.int x0), .val (.int x1), .val (.int x2), .val (.long x3), .second, .val (.long x4), .second, .val (.int (x0 &&& (7 : Int32))), .val (.int (1 : Int32)), .val (.int (x2 &&& (255 : Int32))), .unset, .unset] [(.int (105 : Int32)), (.int (1 : Int32)), (.ref b130), (.ref b130)]) (fun _ _ A kq => XS.bipush A hx rfl (hb hby at_422) kq) ?_
                    refine gstC hx V131 ⟨by decide, by decide⟩ (i := 1) rfl (Nat.le_of_ble_eq_true rfl) (y := (105 : Int32)) (by decide) n130 425 (hb hby at_424) rfl ?_
                    intro h132 W132 C132 V132
                    have z132 := C132.2.1
                    replace V132 : Arv Z h132 b130 k130 .char (17 : Int32) [(.int (104 : Int32)), (.int (105 : Int32)), (.int (0 : Int32)), (.int (0 : Int32)), (.int (0 : Int32)), (.int (0 : Int32)), (.int (0 : Int32)), (.int (0 : Int32)), (.int (0 : Int32)), (.int (0 : Int32)), (.int (0 : Int32)), (.int (0 : Int32)), (.int (0 : Int32)), (.int (0 : Int32)), (.int (0 : Int32)), (.int (0 : Int32)), (.int (0 : Int32))] (.int (0 : Int32)) := V132
                    refine gs (mkF m 426 #[.val (.int x0), .val (.int x1), .val (.int x2), .val (.long x3), .second, .val (.long x4), .second, .val (.int (x0 &&& (7 : Int32))), .val (.int (1 : Int32)), .val (.int (x2 &&& (255 : Int32))), .unset, .unset] [(.ref b130), (.ref b130)]) (fun _ _ A kq => XS.dup A hx rfl (hb hby at_425) rfl rfl kq) ?_
                    refine gs (mkF m 427 #[.val (.int x0), .val (.int x1), .val (.int x2), .val (.long x3), .second, .val (.long x4), .second, .val (.int (x0 &&& (7 : Int32))), .val (.int (1 : Int32)), .val (.int (x2 &&& (255 : Int32))), .unset, .unset] [(.int (2 : Int32)), (.ref b130), (.ref b130)]) (fun _ _ A kq => XS.iconst A hx rfl (hb hby at_426) kq) ?_
                    refine gs (mkF m 429 #[.val (.int x0), .val (.int x1), .val (.int x2), .val (.long x3), .second, .val (.long x4), .second, .val (.int (x0 &&& (7 : Int32))), .val (.int (1 : Int32)), .val (.int (x2 &&& (255 : Int32))), .unset, .unset] [(.int (103 : Int32)), (.int (2 : Int32)), (.ref b130), (.ref b130)]) (fun _ _ A kq => XS.bipush A hx rfl (hb hby at_427) kq) ?_
                    refine gstC hx V132 ⟨by decide, by decide⟩ (i := 2) rfl (Nat.le_of_ble_eq_true rfl) (y := (103 : Int32)) (by decide) n130 430 (hb hby at_429) rfl ?_
                    intro h133 W133 C133 V133
                    have z133 := C133.2.1
                    replace V133 : Arv Z h133 b130 k130 .char (17 : Int32) [(.int (104 : Int32)), (.int (105 : Int32)), (.int (103 : Int32)), (.int (0 : Int32)), (.int (0 : Int32)), (.int (0 : Int32)), (.int (0 : Int32)), (.int (0 : Int32)), (.int (0 : Int32)), (.int (0 : Int32)), (.int (0 : Int32)), (.int (0 : Int32)), (.int (0 : Int32)), (.int (0 : Int32)), (.int (0 : Int32)), (.int (0 : Int32)), (.int (0 : Int32))] (.int (0 : Int32)) := V133
                    refine gs (mkF m 431 #[.val (.int x0), .val (.int x1), .val (.int x2), .val (.long x3), .second, .val (.long x4), .second, .val (.int (x0 &&& (7 : Int32))), .val (.int (1 : Int32)), .val (.int (x2 &&& (255 : Int32))), .unset, .unset] [(.ref b130), (.ref b130)]) (fun _ _ A kq => XS.dup A hx rfl (hb hby at_430) rfl rfl kq) ?_
                    refine gs (mkF m 432 #[.val (.int x0), .val (.int x1), .val (.int x2), .val (.long x3), .second, .val (.long x4), .second, .val (.int (x0 &&& (7 : Int32))), .val (.int (1 : Int32)), .val (.int (x2 &&& (255 : Int32))), .unset, .unset] [(.int (3 : Int32)), (.ref b130), (.ref b130)]) (fun _ _ A kq => XS.iconst A hx rfl (hb hby at_431) kq) ?_
                    refine gs (mkF m 434 #[.val (.int x0), .val (.int x1), .val (.int x2), .val (.long x3), .second, .val (.long x4), .second, .val (.int (x0 &&& (7 : Int32))), .val (.int (1 : Int32)), .val (.int (x2 &&& (255 : Int32))), .unset, .unset] [(.int (104 : Int32)), (.int (3 : Int32)), (.ref b130), (.ref b130)]) (fun _ _ A kq => XS.bipush A hx rfl (hb hby at_432) kq) ?_
                    refine gstC hx V133 ⟨by decide, by decide⟩ (i := 3) rfl (Nat.le_of_ble_eq_true rfl) (y := (104 : Int32)) (by decide) n130 435 (hb hby at_434) rfl ?_
                    intro h134 W134 C134 V134
                    have z134 := C134.2.1
                    replace V134 : Arv Z h134 b130 k130 .char (17 : Int32) [(.int (104 : Int32)), (.int (105 : Int32)), (.int (103 : Int32)), (.int (104 : Int32)), (.int (0 : Int32)), (.int (0 : Int32)), (.int (0 : Int32)), (.int (0 : Int32)), (.int (0 : Int32)), (.int (0 : Int32)), (.int (0 : Int32)), (.int (0 : Int32)), (.int (0 : Int32)), (.int (0 : Int32)), (.int (0 : Int32)), (.int (0 : Int32)), (.int (0 : Int32))] (.int (0 : Int32)) := V134
                    refine gs (mkF m 436 #[.val (.int x0), .val (.int x1), .val (.int x2), .val (.long x3), .second, .val (.long x4), .second, .val (.int (x0 &&& (7 : Int32))), .val (.int (1 : Int32)), .val (.int (x2 &&& (255 : Int32))), .unset, .unset] [(.ref b130), (.ref b130)]) (fun _ _ A kq => XS.dup A hx rfl (hb hby at_435) rfl rfl kq) ?_
                    refine gs (mkF m 437 #[.val (.int x0), .val (.int x1), .val (.int x2), .val (.long x3), .second, .val (.long x4), .second, .val (.int (x0 &&& (7 : Int32))), .val (.int (1 : Int32)), .val (.int (x2 &&& (255 : Int32))), .unset, .unset] [(.int (4 : Int32)), (.ref b130), (.ref b130)]) (fun _ _ A kq => XS.iconst A hx rfl (hb hby at_436) kq) ?_
                    refine gs (mkF m 439 #[.val (.int x0), .val (.int x1), .val (.int x2), .val (.long x3), .second, .val (.long x4), .second, .val (.int (x0 &&& (7 : Int32))), .val (.int (1 : Int32)), .val (.int (x2 &&& (255 : Int32))), .unset, .unset] [(.int (108 : Int32)), (.int (4 : Int32)), (.ref b130), (.ref b130)]) (fun _ _ A kq => XS.bipush A hx rfl (hb hby at_437) kq) ?_
                    refine gstC hx V134 ⟨by decide, by decide⟩ (i := 4) rfl (Nat.le_of_ble_eq_true rfl) (y := (108 : Int32)) (by decide) n130 440 (hb hby at_439) rfl ?_
                    intro h135 W135 C135 V135
                    have z135 := C135.2.1
                    replace V135 : Arv Z h135 b130 k130 .char (17 : Int32) [(.int (104 : Int32)), (.int (105 : Int32)), (.int (103 : Int32)), (.int (104 : Int32)), (.int (108 : Int32)), (.int (0 : Int32)), (.int (0 : Int32)), (.int (0 : Int32)), (.int (0 : Int32)), (.int (0 : Int32)), (.int (0 : Int32)), (.int (0 : Int32)), (.int (0 : Int32)), (.int (0 : Int32)), (.int (0 : Int32)), (.int (0 : Int32)), (.int (0 : Int32))] (.int (0 : Int32)) := V135
                    refine gs (mkF m 441 #[.val (.int x0), .val (.int x1), .val (.int x2), .val (.long x3), .second, .val (.long x4), .second, .val (.int (x0 &&& (7 : Int32))), .val (.int (1 : Int32)), .val (.int (x2 &&& (255 : Int32))), .unset, .unset] [(.ref b130), (.ref b130)]) (fun _ _ A kq => XS.dup A hx rfl (hb hby at_440) rfl rfl kq) ?_
                    refine gs (mkF m 442 #[.val (.int x0), .val (.int x1), .val (.int x2), .val (.long x3), .second, .val (.long x4), .second, .val (.int (x0 &&& (7 : Int32))), .val (.int (1 : Int32)), .val (.int (x2 &&& (255 : Int32))), .unset, .unset] [(.int (5 : Int32)), (.ref b130), (.ref b130)]) (fun _ _ A kq => XS.iconst A hx rfl (hb hby at_441) kq) ?_
                    refine gs (mkF m 444 #[.val (.int x0), .val (.int x1), .val (.int x2), .val (.long x3), .second, .val (.long x4), .second, .val (.int (x0 &&& (7 : Int32))), .val (.int (1 : Int32)), .val (.int (x2 &&& (255 : Int32))), .unset, .unset] [(.int (121 : Int32)), (.int (5 : Int32)), (.ref b130), (.ref b130)]) (fun _ _ A kq => XS.bipush A hx rfl (hb hby at_442) kq) ?_
                    refine gstC hx V135 ⟨by decide, by decide⟩ (i := 5) rfl (Nat.le_of_ble_eq_true rfl) (y := (121 : Int32)) (by decide) n130 445 (hb hby at_444) rfl ?_
                    intro h136 W136 C136 V136
                    have z136 := C136.2.1
                    replace V136 : Arv Z h136 b130 k130 .char (17 : Int32) [(.int (104 : Int32)), (.int (105 : Int32)), (.int (103 : Int32)), (.int (104 : Int32)), (.int (108 : Int32)), (.int (121 : Int32)), (.int (0 : Int32)), (.int (0 : Int32)), (.int (0 : Int32)), (.int (0 : Int32)), (.int (0 : Int32)), (.int (0 : Int32)), (.int (0 : Int32)), (.int (0 : Int32)), (.int (0 : Int32)), (.int (0 : Int32)), (.int (0 : Int32))] (.int (0 : Int32)) := V136
                    refine gs (mkF m 446 #[.val (.int x0), .val (.int x1), .val (.int x2), .val (.long x3), .second, .val (.long x4), .second, .val (.int (x0 &&& (7 : Int32))), .val (.int (1 : Int32)), .val (.int (x2 &&& (255 : Int32))), .unset, .unset] [(.ref b130), (.ref b130)]) (fun _ _ A kq => XS.dup A hx rfl (hb hby at_445) rfl rfl kq) ?_
                    refine gs (mkF m 448 #[.val (.int x0), .val (.int x1), .val (.int x2), .val (.long x3), .second, .val (.long x4), .second, .val (.int (x0 &&& (7 : Int32))), .val (.int (1 : Int32)), .val (.int (x2 &&& (255 : Int32))), .unset, .unset] [(.int (6 : Int32)), (.ref b130), (.ref b130)]) (fun _ _ A kq => XS.bipush A hx rfl (hb hby at_446) kq) ?_
                    refine gs (mkF m 450 #[.val (.int x0), .val (.int x1), .val (.int x2), .val (.long x3), .second, .val (.long x4), .second, .val (.int (x0 &&& (7 : Int32))), .val (.int (1 : Int32)), .val (.int (x2 &&& (255 : Int32))), .unset, .unset] [(.int (95 : Int32)), (.int (6 : Int32)), (.ref b130), (.ref b130)]) (fun _ _ A kq => XS.bipush A hx rfl (hb hby at_448) kq) ?_
                    refine gstC hx V136 ⟨by decide, by decide⟩ (i := 6) rfl (Nat.le_of_ble_eq_true rfl) (y := (95 : Int32)) (by decide) n130 451 (hb hby at_450) rfl ?_
                    intro h137 W137 C137 V137
                    have z137 := C137.2.1
                    replace V137 : Arv Z h137 b130 k130 .char (17 : Int32) [(.int (104 : Int32)), (.int (105 : Int32)), (.int (103 : Int32)), (.int (104 : Int32)), (.int (108 : Int32)), (.int (121 : Int32)), (.int (95 : Int32)), (.int (0 : Int32)), (.int (0 : Int32)), (.int (0 : Int32)), (.int (0 : Int32)), (.int (0 : Int32)), (.int (0 : Int32)), (.int (0 : Int32)), (.int (0 : Int32)), (.int (0 : Int32)), (.int (0 : Int32))] (.int (0 : Int32)) := V137
                    refine gs (mkF m 452 #[.val (.int x0), .val (.int x1), .val (.int x2), .val (.long x3), .second, .val (.long x4), .second, .val (.int (x0 &&& (7 : Int32))), .val (.int (1 : Int32)), .val (.int (x2 &&& (255 : Int32))), .unset, .unset] [(.ref b130), (.ref b130)]) (fun _ _ A kq => XS.dup A hx rfl (hb hby at_451) rfl rfl kq) ?_
                    refine gs (mkF m 454 #[.val (.int x0), .val (.int x1), .val (.int x2), .val (.long x3), .second, .val (.long x4), .second, .val (.int (x0 &&& (7 : Int32))), .val (.int (1 : Int32)), .val (.int (x2 &&& (255 : Int32))), .unset, .unset] [(.int (7 : Int32)), (.ref b130), (.ref b130)]) (fun _ _ A kq => XS.bipush A hx rfl (hb hby at_452) kq) ?_
                    refine gs (mkF m 456 #[.val (.int x0), .val (.int x1), .val (.int x2), .val (.long x3), .second, .val (.long x4), .second, .val (.int (x0 &&& (7 : Int32))), .val (.int (1 : Int32)), .val (.int (x2 &&& (255 : Int32))), .unset, .unset] [(.int (97 : Int32)), (.int (7 : Int32)), (.ref b130), (.ref b130)]) (fun _ _ A kq => XS.bipush A hx rfl (hb hby at_454) kq) ?_
                    refine gstC hx V137 ⟨by decide, by decide⟩ (i := 7) rfl (Nat.le_of_ble_eq_true rfl) (y := (97 : Int32)) (by decide) n130 457 (hb hby at_456) rfl ?_
                    intro h138 W138 C138 V138
                    have z138 := C138.2.1
                    replace V138 : Arv Z h138 b130 k130 .char (17 : Int32) [(.int (104 : Int32)), (.int (105 : Int32)), (.int (103 : Int32)), (.int (104 : Int32)), (.int (108 : Int32)), (.int (121 : Int32)), (.int (95 : Int32)), (.int (97 : Int32)), (.int (0 : Int32)), (.int (0 : Int32)), (.int (0 : Int32)), (.int (0 : Int32)), (.int (0 : Int32)), (.int (0 : Int32)), (.int (0 : Int32)), (.int (0 : Int32)), (.int (0 : Int32))] (.int (0 : Int32)) := V138
                    refine gs (mkF m 458 #[.val (.int x0), .val (.int x1), .val (.int x2), .val (.long x3), .second, .val (.long x4), .second, .val (.int (x0 &&& (7 : Int32))), .val (.int (1 : Int32)), .val (.int (x2 &&& (255 : Int32))), .unset, .unset] [(.ref b130), (.ref b130)]) (fun _ _ A kq => XS.dup A hx rfl (hb hby at_457) rfl rfl kq) ?_
                    refine gs (mkF m 460 #[.val (.int x0), .val (.int x1), .val (.int x2), .val (.long x3), .second, .val (.long x4), .second, .val (.int (x0 &&& (7 : Int32))), .val (.int (1 : Int32)), .val (.int (x2 &&& (255 : Int32))), .unset, .unset] [(.int (8 : Int32)), (.ref b130), (.ref b130)]) (fun _ _ A kq => XS.bipush A hx rfl (hb hby at_458) kq) ?_
                    refine gs (mkF m 462 #[.val (.int x0), .val (.int x1), .val (.int x2), .val (.long x3), .second, .val (.long x4), .second, .val (.int (x0 &&& (7 : Int32))), .val (.int (1 : Int32)), .val (.int (x2 &&& (255 : Int32))), .unset, .unset] [(.int (118 : Int32)), (.int (8 : Int32)), (.ref b130), (.ref b130)]) (fun _ _ A kq => XS.bipush A hx rfl (hb hby at_460) kq) ?_
                    refine gstC hx V138 ⟨by decide, by decide⟩ (i := 8) rfl (Nat.le_of_ble_eq_true rfl) (y := (118 : Int32)) (by decide) n130 463 (hb hby at_462) rfl ?_
                    intro h139 W139 C139 V139
                    have z139 := C139.2.1
                    replace V139 : Arv Z h139 b130 k130 .char (17 : Int32) [(.int (104 : Int32)), (.int (105 : Int32)), (.int (103 : Int32)), (.int (104 : Int32)), (.int (108 : Int32)), (.int (121 : Int32)), (.int (95 : Int32)), (.int (97 : Int32)), (.int (118 : Int32)), (.int (0 : Int32)), (.int (0 : Int32)), (.int (0 : Int32)), (.int (0 : Int32)), (.int (0 : Int32)), (.int (0 : Int32)), (.int (0 : Int32)), (.int (0 : Int32))] (.int (0 : Int32)) := V139
                    refine gs (mkF m 464 #[.val (.int x0), .val (.int x1), .val (.int x2), .val (.long x3), .second, .val (.long x4), .second, .val (.int (x0 &&& (7 : Int32))), .val (.int (1 : Int32)), .val (.int (x2 &&& (255 : Int32))), .unset, .unset] [(.ref b130), (.ref b130)]) (fun _ _ A kq => XS.dup A hx rfl (hb hby at_463) rfl rfl kq) ?_
                    refine gs (mkF m 466 #[.val (.int x0), .val (.int x1), .val (.int x2), .val (.long x3), .second, .val (.long x4), .second, .val (.int (x0 &&& (7 : Int32))), .val (.int (1 : Int32)), .val (.int (x2 &&& (255 : Int32))), .unset, .unset] [(.int (9 : Int32)), (.ref b130), (.ref b130)]) (fun _ _ A kq => XS.bipush A hx rfl (hb hby at_464) kq) ?_
                    refine gs (mkF m 468 #[.val (.int x0), .val (.int x1), .val (.int x2), .val (.long x3), .second, .val (.long x4), .second, .val (.int (x0 &&& (7 : Int32))), .val (.int (1 : Int32)), .val (.int (x2 &&& (255 : Int32))), .unset, .unset] [(.int (97 : Int32)), (.int (9 : Int32)), (.ref b130), (.ref b130)]) (fun _ _ A kq => XS.bipush A hx rfl (hb hby at_466) kq) ?_
                    refine gstC hx V139 ⟨by decide, by decide⟩ (i := 9) rfl (Nat.le_of_ble_eq_true rfl) (y := (97 : Int32)) (by decide) n130 469 (hb hby at_468) rfl ?_
                    intro h140 W140 C140 V140
                    have z140 := C140.2.1
                    replace V140 : Arv Z h140 b130 k130 .char (17 : Int32) [(.int (104 : Int32)), (.int (105 : Int32)), (.int (103 : Int32)), (.int (104 : Int32)), (.int (108 : Int32)), (.int (121 : Int32)), (.int (95 : Int32)), (.int (97 : Int32)), (.int (118 : Int32)), (.int (97 : Int32)), (.int (0 : Int32)), (.int (0 : Int32)), (.int (0 : Int32)), (.int (0 : Int32)), (.int (0 : Int32)), (.int (0 : Int32)), (.int (0 : Int32))] (.int (0 : Int32)) := V140
                    refine gs (mkF m 470 #[.val (.int x0), .val (.int x1), .val (.int x2), .val (.long x3), .second, .val (.long x4), .second, .val (.int (x0 &&& (7 : Int32))), .val (.int (1 : Int32)), .val (.int (x2 &&& (255 : Int32))), .unset, .unset] [(.ref b130), (.ref b130)]) (fun _ _ A kq => XS.dup A hx rfl (hb hby at_469) rfl rfl kq) ?_
                    refine gs (mkF m 472 #[.val (.int x0), .val (.int x1), .val (.int x2), .val (.long x3), .second, .val (.long x4), .second, .val (.int (x0 &&& (7 : Int32))), .val (.int (1 : Int32)), .val (.int (x2 &&& (255 : Int32))), .unset, .unset] [(.int (10 : Int32)), (.ref b130), (.ref b130)]) (fun _ _ A kq => XS.bipush A hx rfl (hb hby at_470) kq) ?_
                    refine gs (mkF m 474 #[.val (.int x0), .val (.int x1), .val (.int x2), .val (.long x3), .second, .val (.long x4), .second, .val (.int (x0 &&& (7 : Int32))), .val (.int (1 : Int32)), .val (.int (x2 &&& (255 : Int32))), .unset, .unset] [(.int (105 : Int32)), (.int (10 : Int32)), (.ref b130), (.ref b130)]) (fun _ _ A kq => XS.bipush A hx rfl (hb hby at_472) kq) ?_
                    refine gstC hx V140 ⟨by decide, by decide⟩ (i := 10) rfl (Nat.le_of_ble_eq_true rfl) (y := (105 : Int32)) (by decide) n130 475 (hb hby at_474) rfl ?_
                    intro h141 W141 C141 V141
                    have z141 := C141.2.1
                    replace V141 : Arv Z h141 b130 k130 .char (17 : Int32) [(.int (104 : Int32)), (.int (105 : Int32)), (.int (103 : Int32)), (.int (104 : Int32)), (.int (108 : Int32)), (.int (121 : Int32)), (.int (95 : Int32)), (.int (97 : Int32)), (.int (118 : Int32)), (.int (97 : Int32)), (.int (105 : Int32)), (.int (0 : Int32)), (.int (0 : Int32)), (.int (0 : Int32)), (.int (0 : Int32)), (.int (0 : Int32)), (.int (0 : Int32))] (.int (0 : Int32)) := V141
                    refine gs (mkF m 476 #[.val (.int x0), .val (.int x1), .val (.int x2), .val (.long x3), .second, .val (.long x4), .second, .val (.int (x0 &&& (7 : Int32))), .val (.int (1 : Int32)), .val (.int (x2 &&& (255 : Int32))), .unset, .unset] [(.ref b130), (.ref b130)]) (fun _ _ A kq => XS.dup A hx rfl (hb hby at_475) rfl rfl kq) ?_
                    refine gs (mkF m 478 #[.val (.int x0), .val (.int x1), .val (.int x2), .val (.long x3), .second, .val (.long x4), .second, .val (.int (x0 &&& (7 : Int32))), .val (.int (1 : Int32)), .val (.int (x2 &&& (255 : Int32))), .unset, .unset] [(.int (11 : Int32)), (.ref b130), (.ref b130)]) (fun _ _ A kq => XS.bipush A hx rfl (hb hby at_476) kq) ?_
                    refine gs (mkF m 480 #[.val (.int x0), .val (.int x1), .val (.int x2), .val (.long x3), .second, .val (.long x4), .second, .val (.int (x0 &&& (7 : Int32))), .val (.int (1 : Int32)), .val (.int (x2 &&& (255 : Int32))), .unset, .unset] [(.int (108 : Int32)), (.int (11 : Int32)), (.ref b130), (.ref b130)]) (fun _ _ A kq => XS.bipush A hx rfl (hb hby at_478) kq) ?_
                    refine gstC hx V141 ⟨by decide, by decide⟩ (i := 11) rfl (Nat.le_of_ble_eq_true rfl) (y := (108 : Int32)) (by decide) n130 481 (hb hby at_480) rfl ?_
                    intro h142 W142 C142 V142
                    have z142 := C142.2.1
                    replace V142 : Arv Z h142 b130 k130 .char (17 : Int32) [(.int (104 : Int32)), (.int (105 : Int32)), (.int (103 : Int32)), (.int (104 : Int32)), (.int (108 : Int32)), (.int (121 : Int32)), (.int (95 : Int32)), (.int (97 : Int32)), (.int (118 : Int32)), (.int (97 : Int32)), (.int (105 : Int32)), (.int (108 : Int32)), (.int (0 : Int32)), (.int (0 : Int32)), (.int (0 : Int32)), (.int (0 : Int32)), (.int (0 : Int32))] (.int (0 : Int32)) := V142
                    refine gs (mkF m 482 #[.val (.int x0), .val (.int x1), .val (.int x2), .val (.long x3), .second, .val (.long x4), .second, .val (.int (x0 &&& (7 : Int32))), .val (.int (1 : Int32)), .val (.int (x2 &&& (255 : Int32))), .unset, .unset] [(.ref b130), (.ref b130)]) (fun _ _ A kq => XS.dup A hx rfl (hb hby at_481) rfl rfl kq) ?_
                    refine gs (mkF m 484 #[.val (.int x0), .val (.int x1), .val (.int x2), .val (.long x3), .second, .val (.long x4), .second, .val (.int (x0 &&& (7 : Int32))), .val (.int (1 : Int32)), .val (.int (x2 &&& (255 : Int32))), .unset, .unset] [(.int (12 : Int32)), (.ref b130), (.ref b130)]) (fun _ _ A kq => XS.bipush A hx rfl (hb hby at_482) kq) ?_
                    refine gs (mkF m 486 #[.val (.int x0), .val (.int x1), .val (.int x2), .val (.long x3), .second, .val (.long x4), .second, .val (.int (x0 &&& (7 : Int32))), .val (.int (1 : Int32)), .val (.int (x2 &&& (255 : Int32))), .unset, .unset] [(.int (97 : Int32)), (.int (12 : Int32)), (.ref b130), (.ref b130)]) (fun _ _ A kq => XS.bipush A hx rfl (hb hby at_484) kq) ?_
                    refine gstC hx V142 ⟨by decide, by decide⟩ (i := 12) rfl (Nat.le_of_ble_eq_true rfl) (y := (97 : Int32)) (by decide) n130 487 (hb hby at_486) rfl ?_
                    intro h143 W143 C143 V143
                    have z143 := C143.2.1
                    replace V143 : Arv Z h143 b130 k130 .char (17 : Int32) [(.int (104 : Int32)), (.int (105 : Int32)), (.int (103 : Int32)), (.int (104 : Int32)), (.int (108 : Int32)), (.int (121 : Int32)), (.int (95 : Int32)), (.int (97 : Int32)), (.int (118 : Int32)), (.int (97 : Int32)), (.int (105 : Int32)), (.int (108 : Int32)), (.int (97 : Int32)), (.int (0 : Int32)), (.int (0 : Int32)), (.int (0 : Int32)), (.int (0 : Int32))] (.int (0 : Int32)) := V143
                    refine gs (mkF m 488 #[.val (.int x0), .val (.int x1), .val (.int x2), .val (.long x3), .second, .val (.long x4), .second, .val (.int (x0 &&& (7 : Int32))), .val (.int (1 : Int32)), .val (.int (x2 &&& (255 : Int32))), .unset, .unset] [(.ref b130), (.ref b130)]) (fun _ _ A kq => XS.dup A hx rfl (hb hby at_487) rfl rfl kq) ?_
                    refine gs (mkF m 490 #[.val (.int x0), .val (.int x1), .val (.int x2), .val (.long x3), .second, .val (.long x4), .second, .val (.int (x0 &&& (7 : Int32))), .val (.int (1 : Int32)), .val (.int (x2 &&& (255 : Int32))), .unset, .unset] [(.int (13 : Int32)), (.ref b130), (.ref b130)]) (fun _ _ A kq => XS.bipush A hx rfl (hb hby at_488) kq) ?_
                    refine gs (mkF m 492 #[.val (.int x0), .val (.int x1), .val (.int x2), .val (.long x3), .second, .val (.long x4), .second, .val (.int (x0 &&& (7 : Int32))), .val (.int (1 : Int32)), .val (.int (x2 &&& (255 : Int32))), .unset, .unset] [(.int (98 : Int32)), (.int (13 : Int32)), (.ref b130), (.ref b130)]) (fun _ _ A kq => XS.bipush A hx rfl (hb hby at_490) kq) ?_
                    refine gstC hx V143 ⟨by decide, by decide⟩ (i := 13) rfl (Nat.le_of_ble_eq_true rfl) (y := (98 : Int32)) (by decide) n130 493 (hb hby at_492) rfl ?_
                    intro h144 W144 C144 V144
                    have z144 := C144.2.1
                    replace V144 : Arv Z h144 b130 k130 .char (17 : Int32) [(.int (104 : Int32)), (.int (105 : Int32)), (.int (103 : Int32)), (.int (104 : Int32)), (.int (108 : Int32)), (.int (121 : Int32)), (.int (95 : Int32)), (.int (97 : Int32)), (.int (118 : Int32)), (.int (97 : Int32)), (.int (105 : Int32)), (.int (108 : Int32)), (.int (97 : Int32)), (.int (98 : Int32)), (.int (0 : Int32)), (.int (0 : Int32)), (.int (0 : Int32))] (.int (0 : Int32)) := V144
                    refine gs (mkF m 494 #[.val (.int x0), .val (.int x1), .val (.int x2), .val (.long x3), .second, .val (.long x4), .second, .val (.int (x0 &&& (7 : Int32))), .val (.int (1 : Int32)), .val (.int (x2 &&& (255 : Int32))), .unset, .unset] [(.ref b130), (.ref b130)]) (fun _ _ A kq => XS.dup A hx rfl (hb hby at_493) rfl rfl kq) ?_
                    refine gs (mkF m 496 #[.val (.int x0), .val (.int x1), .val (.int x2), .val (.long x3), .second, .val (.long x4), .second, .val (.int (x0 &&& (7 : Int32))), .val (.int (1 : Int32)), .val (.int (x2 &&& (255 : Int32))), .unset, .unset] [(.int (14 : Int32)), (.ref b130), (.ref b130)]) (fun _ _ A kq => XS.bipush A hx rfl (hb hby at_494) kq) ?_
                    refine gs (mkF m 498 #[.val (.int x0), .val (.int x1), .val (.int x2), .val (.long x3), .second, .val (.long x4), .second, .val (.int (x0 &&& (7 : Int32))), .val (.int (1 : Int32)), .val (.int (x2 &&& (255 : Int32))), .unset, .unset] [(.int (108 : Int32)), (.int (14 : Int32)), (.ref b130), (.ref b130)]) (fun _ _ A kq => XS.bipush A hx rfl (hb hby at_496) kq) ?_
                    refine gstC hx V144 ⟨by decide, by decide⟩ (i := 14) rfl (Nat.le_of_ble_eq_true rfl) (y := (108 : Int32)) (by decide) n130 499 (hb hby at_498) rfl ?_
                    intro h145 W145 C145 V145
                    have z145 := C145.2.1
                    replace V145 : Arv Z h145 b130 k130 .char (17 : Int32) [(.int (104 : Int32)), (.int (105 : Int32)), (.int (103 : Int32)), (.int (104 : Int32)), (.int (108 : Int32)), (.int (121 : Int32)), (.int (95 : Int32)), (.int (97 : Int32)), (.int (118 : Int32)), (.int (97 : Int32)), (.int (105 : Int32)), (.int (108 : Int32)), (.int (97 : Int32)), (.int (98 : Int32)), (.int (108 : Int32)), (.int (0 : Int32)), (.int (0 : Int32))] (.int (0 : Int32)) := V145
                    refine gs (mkF m 500 #[.val (.int x0), .val (.int x1), .val (.int x2), .val (.long x3), .second, .val (.long x4), .second, .val (.int (x0 &&& (7 : Int32))), .val (.int (1 : Int32)), .val (.int (x2 &&& (255 : Int32))), .unset, .unset] [(.ref b130), (.ref b130)]) (fun _ _ A kq => XS.dup A hx rfl (hb hby at_499) rfl rfl kq) ?_
                    refine gs (mkF m 502 #[.val (.int x0), .val (.int x1), .val (.int x2), .val (.long x3), .second, .val (.long x4), .second, .val (.int (x0 &&& (7 : Int32))), .val (.int (1 : Int32)), .val (.int (x2 &&& (255 : Int32))), .unset, .unset] [(.int (15 : Int32)), (.ref b130), (.ref b130)]) (fun _ _ A kq => XS.bipush A hx rfl (hb hby at_500) kq) ?_
                    refine gs (mkF m 504 #[.val (.int x0), .val (.int x1), .val (.int x2), .val (.long x3), .second, .val (.long x4), .second, .val (.int (x0 &&& (7 : Int32))), .val (.int (1 : Int32)), .val (.int (x2 &&& (255 : Int32))), .unset, .unset] [(.int (101 : Int32)), (.int (15 : Int32)), (.ref b130), (.ref b130)]) (fun _ _ A kq => XS.bipush A hx rfl (hb hby at_502) kq) ?_
                    refine gstC hx V145 ⟨by decide, by decide⟩ (i := 15) rfl (Nat.le_of_ble_eq_true rfl) (y := (101 : Int32)) (by decide) n130 505 (hb hby at_504) rfl ?_
                    intro h146 W146 C146 V146
                    have z146 := C146.2.1
                    replace V146 : Arv Z h146 b130 k130 .char (17 : Int32) [(.int (104 : Int32)), (.int (105 : Int32)), (.int (103 : Int32)), (.int (104 : Int32)), (.int (108 : Int32)), (.int (121 : Int32)), (.int (95 : Int32)), (.int (97 : Int32)), (.int (118 : Int32)), (.int (97 : Int32)), (.int (105 : Int32)), (.int (108 : Int32)), (.int (97 : Int32)), (.int (98 : Int32)), (.int (108 : Int32)), (.int (101 : Int32)), (.int (0 : Int32))] (.int (0 : Int32)) := V146
                    refine gs (mkF m 506 #[.val (.int x0), .val (.int x1), .val (.int x2), .val (.long x3), .second, .val (.long x4), .second, .val (.int (x0 &&& (7 : Int32))), .val (.int (1 : Int32)), .val (.int (x2 &&& (255 : Int32))), .unset, .unset] [(.ref b130), (.ref b130)]) (fun _ _ A kq => XS.dup A hx rfl (hb hby at_505) rfl rfl kq) ?_
                    refine gs (mkF m 508 #[.val (.int x0), .val (.int x1), .val (.int x2), .val (.long x3), .second, .val (.long x4), .second, .val (.int (x0 &&& (7 : Int32))), .val (.int (1 : Int32)), .val (.int (x2 &&& (255 : Int32))), .unset, .unset] [(.int (16 : Int32)), (.ref b130), (.ref b130)]) (fun _ _ A kq => XS.bipush A hx rfl (hb hby at_506) kq) ?_
                    refine gs (mkF m 510 #[.val (.int x0), .val (.int x1), .val (.int x2), .val (.long x3), .second, .val (.long x4), .second, .val (.int (x0 &&& (7 : Int32))), .val (.int (1 : Int32)), .val (.int (x2 &&& (255 : Int32))), .unset, .unset] [(.int (x2 &&& (255 : Int32))), (.int (16 : Int32)), (.ref b130), (.ref b130)]) (fun _ _ A kq => XS.iload A hx rfl (hb hby at_508) rfl  kq) ?_
                    refine gstC hx V146 ⟨by decide, by decide⟩ (i := 16) rfl (Nat.le_of_ble_eq_true rfl) (y := (x2 &&& (255 : Int32))) (narC _) n130 511 (hb hby at_510) rfl ?_
                    intro h147 W147 C147 V147
                    have z147 := C147.2.1
                    replace V147 : Arv Z h147 b130 k130 .char (17 : Int32) [(.int (104 : Int32)), (.int (105 : Int32)), (.int (103 : Int32)), (.int (104 : Int32)), (.int (108 : Int32)), (.int (121 : Int32)), (.int (95 : Int32)), (.int (97 : Int32)), (.int (118 : Int32)), (.int (97 : Int32)), (.int (105 : Int32)), (.int (108 : Int32)), (.int (97 : Int32)), (.int (98 : Int32)), (.int (108 : Int32)), (.int (101 : Int32)), (.int (x2 &&& (255 : Int32)))] (.int (0 : Int32)) := V147
                    refine gs (mkF m 513 #[.val (.int x0), .val (.int x1), .val (.int x2), .val (.long x3), .second, .val (.long x4), .second, .val (.int (x0 &&& (7 : Int32))), .val (.int (1 : Int32)), .val (.int (x2 &&& (255 : Int32))), .unset, .val (.ref b130)] []) (fun _ _ A kq => XS.astore A hx rfl (hb hby at_511) rfl rfl (l' := #[.val (.int x0), .val (.int x1), .val (.int x2), .val (.long x3), .second, .val (.long x4), .second, .val (.int (x0 &&& (7 : Int32))), .val (.int (1 : Int32)), .val (.int (x2 &&& (255 : Int32))), .unset, .val (.ref b130)]) rfl kq) ?_
                    refine gs (mkF m 558 #[.val (.int x0), .val (.int x1), .val (.int x2), .val (.long x3), .second, .val (.long x4), .second, .val (.int (x0 &&& (7 : Int32))), .val (.int (1 : Int32)), .val (.int (x2 &&& (255 : Int32))), .unset, .val (.ref b130)] []) (fun _ _ A kq => XS.goto A hx rfl (pc0 := 513) (pc' := 558) rfl (hb hby at_513) (by decide) (by decide) kq) ?_
                    refine gs (mkF m 560 #[.val (.int x0), .val (.int x1), .val (.int x2), .val (.long x3), .second, .val (.long x4), .second, .val (.int (x0 &&& (7 : Int32))), .val (.int (1 : Int32)), .val (.int (x2 &&& (255 : Int32))), .unset, .val (.ref b130)] [(.int (x0 &&& (7 : Int32)))]) (fun _ _ A kq => XS.iload A hx rfl (hb hby at_558) rfl  kq) ?_
                    refine gs (mkF m 561 #[.val (.int x0), .val (.int x1), .val (.int x2), .val (.long x3), .second, .val (.long x4), .second, .val (.int (x0 &&& (7 : Int32))), .val (.int (1 : Int32)), .val (.int (x2 &&& (255 : Int32))), .unset, .val (.ref b130)] [(.int (1 : Int32)), (.int (x0 &&& (7 : Int32)))]) (fun _ _ A kq => XS.iconst A hx rfl (hb hby at_560) kq) ?_
                    refine gs (mkF m 577 #[.val (.int x0), .val (.int x1), .val (.int x2), .val (.long x3), .second, .val (.long x4), .second, .val (.int (x0 &&& (7 : Int32))), .val (.int (1 : Int32)), .val (.int (x2 &&& (255 : Int32))), .unset, .val (.ref b130)] []) (fun _ _ A kq => XS.icmpYes A hx rfl (pc0 := 561) (pc' := 577) rfl (hb hby at_561) rfl (feq k1).2 (by decide) (by decide) kq) ?_
                    refine gnewO hx (ow hw 1 rfl) (ow hw 2 rfl) (ow hw 3 rfl) 580 (hb hby at_577) rfl (by decide) (by decide) ?_
                    intro b148 h148 g148 E148 C148 A148 D148 n148 L148
                    have z148 := C148.2.1
                    have lt_b148 : h148.size > b148 := A148.lt
                    have F148_coder : Fld Z h148 b148 "java/lang/String" "coder" "B" (.int (0 : Int32)) := D148 (Or.inr (ow hw 27 rfl)) (ty := .byte) (by decide)
                    have F148_value : Fld Z h148 b148 "java/lang/String" "value" "[B" .null := D148 (Or.inr (ow hw 29 rfl)) (ty := (.array .byte)) (by decide)
                    refine gs (mkF m 581 #[.val (.int x0), .val (.int x1), .val (.int x2), .val (.long x3), .second, .val (.long x4), .second, .val (.int (x0 &&& (7 : Int32))), .val (.int (1 : Int32)), .val (.int (x2 &&& (255 : Int32))), .unset, .val (.ref b130)] [(.ref b148), (.ref b148)]) (fun _ _ A kq => XS.dup A hx rfl (hb hby at_580) rfl rfl kq) ?_
                    refine gs (mkF m 583 #[.val (.int x0), .val (.int x1), .val (.int x2), .val (.long x3), .second, .val (.long x4), .second, .val (.int (x0 &&& (7 : Int32))), .val (.int (1 : Int32)), .val (.int (x2 &&& (255 : Int32))), .unset, .val (.ref b130)] [(.ref b130), (.ref b148), (.ref b148)]) (fun _ _ A kq => XS.aload A hx rfl (hb hby at_581) rfl rfl kq) ?_
                    have f150 := (V147.ext E148)
                    refine ginfo fun _ _ O149 => ?_
                    refine gcallI (y := (⟨"java/lang/String", "<init>", "([C)V"⟩ : MethodName)) hx rfl (ow hw 4 rfl) (ow hw 5 rfl) (ow hw 6 rfl) (by decide) (fun hZ H hEL => own_payNew (W := 1) (own_wNew hw) (ow hw 2 rfl) Scs hzc O149 (cs := [(104 : Int32), (105 : Int32), (103 : Int32), (104 : Int32), (108 : Int32), (121 : Int32), (95 : Int32), (97 : Int32), (118 : Int32), (97 : Int32), (105 : Int32), (108 : Int32), (97 : Int32), (98 : Int32), (108 : Int32), (101 : Int32), (x2 &&& (255 : Int32))]) (n := 17) n148 A148 F148_value F148_coder f150 rfl rfl (by decide) (by decide) (bcons ⟨by decide, by decide⟩ (bcons ⟨by decide, by decide⟩ (bcons ⟨by decide, by decide⟩ (bcons ⟨by decide, by decide⟩ (bcons ⟨by decide, by decide⟩ (bcons ⟨by decide, by decide⟩ (bcons ⟨by decide, by decide⟩ (bcons ⟨by decide, by decide⟩ (bcons ⟨by decide, by decide⟩ (bcons ⟨by decide, by decide⟩ (bcons ⟨by decide, by decide⟩ (bcons ⟨by decide, by decide⟩ (bcons ⟨by decide, by decide⟩ (bcons ⟨by decide, by decide⟩ (bcons ⟨by decide, by decide⟩ (bcons ⟨by decide, by decide⟩ (bcons (b255 _) bnil))))))))))))))))) L148 (by decide) (by decide) hZ H hEL) (a := b148) 586 (argsL := [(.ref b130)]) (rest := [(.ref b148)]) (lenOf own_pd150 rfl) rfl rfl (Nat.le_of_eq rfl) (by rw [hml]; rfl) (hb hby at_583) rfl (by decide) (by decide) ?_
                    rintro _ vm149 h149 C149 ⟨t149, rfl, K149, g149, S149⟩
                    have z149 := C149.2.1
                    have lt_t149 : h149.size > t149 := S149.tlt
                    refine gat (mkF m 586 #[.val (.int x0), .val (.int x1), .val (.int x2), .val (.long x3), .second, .val (.long x4), .second, .val (.int (x0 &&& (7 : Int32))), .val (.int (1 : Int32)), .val (.int (x2 &&& (255 : Int32))), .unset, .val (.ref b130)] [(.ref b148)]) rfl ?_
                    refine gs (mkF m 588 #[.val (.int x0), .val (.int x1), .val (.int x2), .val (.long x3), .second, .val (.long x4), .second, .val (.int (x0 &&& (7 : Int32))), .val (.int (1 : Int32)), .val (.int (x2 &&& (255 : Int32))), .val (.ref b148), .val (.ref b130)] []) (fun _ _ A kq => XS.astore A hx rfl (hb hby at_586) rfl rfl (l' := #[.val (.int x0), .val (.int x1), .val (.int x2), .val (.long x3), .second, .val (.long x4), .second, .val (.int (x0 &&& (7 : Int32))), .val (.int (1 : Int32)), .val (.int (x2 &&& (255 : Int32))), .val (.ref b148), .val (.ref b130)]) rfl kq) ?_
                    exact gmono (by decide) (by decide) (J65 _ _ _ ⟨b148, t149, [(104 : Int32), (105 : Int32), (103 : Int32), (104 : Int32), (108 : Int32), (121 : Int32), (95 : Int32), (97 : Int32), (118 : Int32), (97 : Int32), (105 : Int32), (108 : Int32), (97 : Int32), (98 : Int32), (108 : Int32), (101 : Int32), (x2 &&& (255 : Int32))], (.val (.ref b130)), rfl, (((((((((((((((((((((Keep.refl h0 []).ext E130).wr W131 (Or.inr (by omega))).wr W132 (Or.inr (by omega))).wr W133 (Or.inr (by omega))).wr W134 (Or.inr (by omega))).wr W135 (Or.inr (by omega))).wr W136 (Or.inr (by omega))).wr W137 (Or.inr (by omega))).wr W138 (Or.inr (by omega))).wr W139 (Or.inr (by omega))).wr W140 (Or.inr (by omega))).wr W141 (Or.inr (by omega))).wr W142 (Or.inr (by omega))).wr W143 (Or.inr (by omega))).wr W144 (Or.inr (by omega))).wr W145 (Or.inr (by omega))).wr W146 (Or.inr (by omega))).wr W147 (Or.inr (by omega))).ext E148).trans K149 (allS (Or.inr (by omega)) all0)), (((((((((((((((((((C130.trans C131).trans C132).trans C133).trans C134).trans C135).trans C136).trans C137).trans C138).trans C139).trans C140).trans C141).trans C142).trans C143).trans C144).trans C145).trans C146).trans C147).trans C148).trans C149), S149⟩)
set_option maxRecDepth 65536 in
set_option maxHeartbeats 40000000 in
theorem comes_1 {Post : Tables → Env → Array Value → State → Outcome → State → Prop} (hpost : ∀ tb e args s v u, (limb_1_1.after args s (.returned v) u = true ∧ limb_1_2.after args s (.returned v) u = true ∧ True) → ReturnedEndW s (.returned v) u (Jvm.fieldLocs frame_1_writes args s ++ Jvm.arrayLocs frame_1_arrays args s ++ Jvm.staticLocs frame_1_statics s) 24 3264 → Post tb e args s (.returned v) u) :
    ArmFor flags0 classFile x code maxLocals ret World_1 tables_1 room_1 Calls_1 rest_1 Pre_1 Post := by
  intro l hfl _ _ p e ha hc hk s m args below hf hA hF happ hP
  obtain ⟨hcalls, hrest, hpre⟩ := hP
  obtain ⟨-, -, -, hnamed, -, -, -, hat⟩ := (Spec.applies_iff hf).mp happ
  obtain ⟨hg, hn⟩ := and_e (Cond.before_iff.mp (show (Jvm.Cond.and given_1 narrow_1).before args s = true from hpre))
  obtain ⟨gc, g0⟩ := and_e hg
  obtain ⟨ga0, g1⟩ := and_e g0
  obtain ⟨ga1, g2⟩ := and_e g1
  obtain ⟨ga2, g3⟩ := and_e g2
  obtain ⟨ga3, g4⟩ := and_e g3
  have ga4 := g4
  obtain ⟨w0, w1, w2, w3, w4, rfl⟩ : ∃ w0 w1 w2 w3 w4 : Value, args = #[w0, w1, w2, w3, w4] := by
    have hs : args.size = 5 := by simpa [Cond.value, given_1] using gc
    obtain ⟨L⟩ := args
    match L, hs with
    | [w0, w1, w2, w3, w4], _ => exact ⟨w0, w1, w2, w3, w4, rfl⟩
  have hw := fun d (hd : d ∈ tables_1) => atoms_spec (ws := Jvm.Cond.code x code maxLocals ret :: tables_1) hat d (List.mem_cons_of_mem _ hd)
  have hfit : Fit s := fun {y c} hc i hi => by
    obtain ⟨ha, rfl⟩ := Array.getElem?_eq_some_iff.mp hc
    have q := List.all_eq_true.mp ((Array.all_eq_true_iff_forall_mem.mp hF) _ (Array.getElem_mem ha)) i (List.mem_range.mpr hi)
    simpa [Array.getElem?_eq_getElem hi] using q
  obtain ⟨hsets, hown0⟩ := atoms_of _ (rest_1_c_eq ▸ (show rest_1_c.before _ s = true from hrest))
  obtain ⟨i0, ei0⟩ := is_v ga0
  obtain rfl : w0 = (.int i0) := Option.some.inj ei0
  obtain ⟨i1, ei1⟩ := is_v ga1
  obtain rfl : w1 = (.int i1) := Option.some.inj ei1
  obtain ⟨i2, ei2⟩ := is_v ga2
  obtain rfl : w2 = (.int i2) := Option.some.inj ei2
  obtain ⟨i3, ei3⟩ := isL_v ga3
  obtain rfl : w3 = (.long i3) := Option.some.inj ei3
  obtain ⟨i4, ei4⟩ := isL_v ga4
  obtain rfl : w4 = (.long i4) := Option.some.inj ei4
  obtain ⟨zc, eG⟩ := is_v (Cond.before_iff.mp (hsets _ (List.mem_of_getElem? (i := 1) rfl)))
  have Scs := Sta.start eG (Or.inl (hsets _ (List.mem_of_getElem? (i := 0) rfl)))
  have hcw := hsets _ (List.mem_of_getElem? (i := 2) rfl)
  have hzc : ¬ zc = 0 := by
    have q := not_v (Cond.before_iff.mp hcw)
    intro z
    have q2 := eq_i (x := .int zc) (y := .int 0) eG (Term.int_eval (0)) (by rw [z])
    rw [q2] at q; cases q
  obtain ⟨fm, eF, hfm⟩ := isR_v (Cond.before_iff.mp (hsets _ (List.mem_of_getElem? (i := 8) rfl)))
  have Sfm := Sta.start eF (Or.inl (hsets _ (List.mem_of_getElem? (i := 7) rfl)))
  have hEL : EW s _ consts_1 := (EW.cons (ow hw 67 rfl) (by decide +kernel) (EW.cons (ow hw 83 rfl) (by decide +kernel) (EW.cons (ow hw 88 rfl) (by decide +kernel) EW.nil)))
  have hCH : CHv s consts_1 s.vm s.heap := CHv.start hEL (fun p hp => hcalls.1 p hp) hcw (ow hw 19 rfl) (ow hw 2 rfl)
  obtain ⟨m0, n0⟩ := and_e hn
  obtain ⟨m1, n1⟩ := and_e n0
  obtain ⟨m2, n2⟩ := and_e n1
  obtain ⟨m3, n3⟩ := and_e n2
  obtain ⟨m4, n4⟩ := and_e n3
  obtain ⟨m5, n5⟩ := and_e n4
  obtain ⟨m6, n6⟩ := and_e n5
  obtain ⟨m7, n7⟩ := and_e n6
  obtain ⟨m8, n8⟩ := and_e n7
  obtain ⟨m9, n9⟩ := and_e n8
  obtain ⟨m10, n10⟩ := and_e n9
  obtain ⟨m11, n11⟩ := and_e n10
  obtain ⟨m12, n12⟩ := and_e n11
  obtain ⟨m13, n13⟩ := and_e n12
  obtain ⟨m14, n14⟩ := and_e n13
  obtain ⟨m15, n15⟩ := and_e n14
  obtain ⟨m16, n16⟩ := and_e n15
  obtain ⟨m17, n17⟩ := and_e n16
  obtain ⟨m18, n18⟩ := and_e n17
  obtain ⟨m19, n19⟩ := and_e n18
  obtain ⟨m20, n20⟩ := and_e n19
  obtain ⟨m21, n21⟩ := and_e n20
  obtain ⟨m22, n22⟩ := and_e n21
  obtain ⟨m23, n23⟩ := and_e n22
  obtain ⟨m24, n24⟩ := and_e n23
  obtain ⟨m25, n25⟩ := and_e n24
  obtain ⟨m26, n26⟩ := and_e n25
  obtain ⟨m27, n27⟩ := and_e n26
  obtain ⟨m28, n28⟩ := and_e n27
  obtain ⟨m29, n29⟩ := and_e n28
  obtain ⟨m30, n30⟩ := and_e n29
  obtain ⟨m31, n31⟩ := and_e n30
  obtain ⟨m32, n32⟩ := and_e n31
  obtain ⟨m33, n33⟩ := and_e n32
  obtain ⟨m34, n34⟩ := and_e n33
  obtain ⟨m35, n35⟩ := and_e n34
  obtain ⟨m36, n36⟩ := and_e n35
  have m37 := n36
  obtain ⟨va, eva⟩ := arr_v m0
  obtain ⟨vcl, Ava⟩ := Arr.start eva m0
  have hAva : s.arrayAt? va = some vcl := Ava.fin (Vm.Alike.refl _)
  obtain ⟨l1, l2⟩ := lenI m2 eva hAva
  obtain ⟨ak, eak⟩ := exa_v m3
  obtain ⟨ah, eah⟩ := exa_v m5
  have Vva : Arv s s.heap va vcl.cls (.object "com/example/tasks_to_members/taskstomembers/core/TaskAssignor") (2 : Int32) [(.ref ak), (.ref ah)] .null := Arv.start hfit Ava l1 l2 (by decide) rfl ⟨elR eva Ava.1 eak m4, elR eva Ava.1 eah m6, trivial⟩
  obtain ⟨nk, enk⟩ := exa_v m7
  obtain ⟨nh, enh⟩ := exa_v m11
  obtain ⟨tk, Snk⟩ := Str.start (cs := [(115 : Int32), (116 : Int32), (105 : Int32), (99 : Int32), (107 : Int32), (121 : Int32)]) hfit enk m7 m8 m9 m10 rfl (by decide) (bcons ⟨by decide, by decide⟩ (bcons ⟨by decide, by decide⟩ (bcons ⟨by decide, by decide⟩ (bcons ⟨by decide, by decide⟩ (bcons ⟨by decide, by decide⟩ (bcons ⟨by decide, by decide⟩ bnil)))))) (fun tt cl et hc => ⟨elI et hc m16, elI et hc m17, elI et hc m18, elI et hc m19, elI et hc m20, elI et hc m21, trivial⟩)
  obtain ⟨th, Snh⟩ := Str.start (cs := [(104 : Int32), (105 : Int32), (103 : Int32), (104 : Int32), (108 : Int32), (121 : Int32), (95 : Int32), (97 : Int32), (118 : Int32), (97 : Int32), (105 : Int32), (108 : Int32), (97 : Int32), (98 : Int32), (108 : Int32), (101 : Int32)]) hfit enh m11 m13 m14 m15 rfl (by decide) (bcons ⟨by decide, by decide⟩ (bcons ⟨by decide, by decide⟩ (bcons ⟨by decide, by decide⟩ (bcons ⟨by decide, by decide⟩ (bcons ⟨by decide, by decide⟩ (bcons ⟨by decide, by decide⟩ (bcons ⟨by decide, by decide⟩ (bcons ⟨by decide, by decide⟩ (bcons ⟨by decide, by decide⟩ (bcons ⟨by decide, by decide⟩ (bcons ⟨by decide, by decide⟩ (bcons ⟨by decide, by decide⟩ (bcons ⟨by decide, by decide⟩ (bcons ⟨by decide, by decide⟩ (bcons ⟨by decide, by decide⟩ (bcons ⟨by decide, by decide⟩ bnil)))))))))))))))) (fun tt cl et hc => ⟨elI et hc m22, elI et hc m23, elI et hc m24, elI et hc m25, elI et hc m26, elI et hc m27, elI et hc m28, elI et hc m29, elI et hc m30, elI et hc m31, elI et hc m32, elI et hc m33, elI et hc m34, elI et hc m35, elI et hc m36, elI et hc m37, trivial⟩)
  have hK0 : (∃ va ak ah nk nh tk th : Addr, ∃ kv : ClassId, Sta s s.heap "com/example/tasks_to_members/taskstomembers/core/TaskAssignor" "$VALUES" "[Lcom/example/tasks_to_members/taskstomembers/core/TaskAssignor;" (.ref va) ∧ Exa s s.heap va "[Lcom/example/tasks_to_members/taskstomembers/core/TaskAssignor;" ∧ Arv s s.heap va kv (.object "com/example/tasks_to_members/taskstomembers/core/TaskAssignor") (2 : Int32) [(.ref ak), (.ref ah)] .null ∧ Sta s s.heap "com/example/tasks_to_members/taskstomembers/core/TaskAssignor" "STICKY" "Lcom/example/tasks_to_members/taskstomembers/core/TaskAssignor;" (.ref ak) ∧ Exa s s.heap ak "com/example/tasks_to_members/taskstomembers/core/TaskAssignor" ∧ Sta s s.heap "com/example/tasks_to_members/taskstomembers/core/TaskAssignor" "HIGHLY_AVAILABLE" "Lcom/example/tasks_to_members/taskstomembers/core/TaskAssignor;" (.ref ah) ∧ Exa s s.heap ah "com/example/tasks_to_members/taskstomembers/core/TaskAssignor" ∧ Fld s s.heap ak "com/example/tasks_to_members/taskstomembers/core/TaskAssignor" "configName" "Ljava/lang/String;" (.ref nk) ∧ Str s s.heap nk tk [(115 : Int32), (116 : Int32), (105 : Int32), (99 : Int32), (107 : Int32), (121 : Int32)] ∧ Fld s s.heap ah "com/example/tasks_to_members/taskstomembers/core/TaskAssignor" "configName" "Ljava/lang/String;" (.ref nh) ∧ Str s s.heap nh th [(104 : Int32), (105 : Int32), (103 : Int32), (104 : Int32), (108 : Int32), (121 : Int32), (95 : Int32), (97 : Int32), (118 : Int32), (97 : Int32), (105 : Int32), (108 : Int32), (97 : Int32), (98 : Int32), (108 : Int32), (101 : Int32)]) := ⟨va, ak, ah, nk, nh, tk, th, vcl.cls, Sta.start eva (Or.inr ⟨ow hw 32 rfl, ow hw 38 rfl⟩), Exa.start eva m1, Vva, Sta.start eak (Or.inr ⟨ow hw 32 rfl, ow hw 46 rfl⟩), Exa.start eak m3, Sta.start eah (Or.inr ⟨ow hw 32 rfl, ow hw 47 rfl⟩), Exa.start eah m5, Fld.start ((fld_at eak).symm.trans enk), Snk, Fld.start ((fld_at eah).symm.trans enh), Snh⟩
  have cx : Ctx s _ := ⟨hw, hEL, ⟨zc, Scs, hzc⟩, ⟨fm, Sfm, hfm⟩, hK0⟩
  obtain ⟨n, o, h1, h2, h3, _, L, rfl, ⟨N, ⟨rfl, -⟩⟩, -, hq⟩ := own_law l s _ cx tables_1 i0 i1 i2 i3 i4 s.vm s.heap ⟨Nat.le_refl _, fun _ _ q => q⟩ p e ha hc hk s m _ below hf ((Spec.applies_iff_loose hf).mp happ).1 ⟨rfl, State.Warmed39.refl s, rfl, CHr.refl hCH⟩ trivial
  refine ⟨n, _, h1, h2, h3, hpost _ _ _ _ _ _ ⟨Cond.after_iff.mpr rfl, Cond.after_iff.mpr (eq_i res_at (Term.int_eval (1)) rfl), trivial⟩ ⟨hq.1, hq.2.1, hq.2.2.1, (hq.2.2.2.sift fun y hy => Or.inr (N y hy)).mono (by decide) (by decide)⟩⟩
theorem main_1_1 : Claimed_1_1 := comes_1 fun _ _ _ _ _ _ h hF => ⟨h.1, hF⟩
theorem main_1_2 : Claimed_1_2 := comes_1 fun _ _ _ _ _ _ h hF => ⟨h.2.1, hF⟩
end Jvm.Pilot.@@N@@
namespace Jvm.Pilot.@@N@@
open Jvm Jvm.ClassFile Sem Op Lib Jvm.Free Jvm.Stand Jvm.Pilot.@@N@@.Jvm.D
/-! MADE BY PROGRAM (witnessworld.py) out of the Statement's table words and the real class files: 22 classes; the members and pool entries that the words name. The judged class is class 1, her method 1. -/
namespace start1
open Jvm.ClassFile
def u (s : String) : CpInfo := .utf8 (stringToUtf16 s)
/-- a pool by its gaps: so many unusable entries, then the entry; so many at the end -/
def gap : Nat → List CpInfo → List CpInfo
  | 0, r => r
  | n + 1, r => .unusable :: gap n r
def poolList (es : List (Nat × CpInfo)) (last : Nat) : List CpInfo := es.foldr (fun e r => gap e.1 (e.2 :: r)) (gap last [])
def pool (es : List (Nat × CpInfo)) (last : Nat) : Array CpInfo := ⟨poolList es last⟩
def fileOf (pool : Array CpInfo) (this : Nat) (attrs : Array Attribute := #[]) (ms : Array MethodInfo := #[]) (fl : Nat := 33) (sup : Nat := 0) (ifs : Array Nat := #[]) (fds : Array FieldInfo := #[]) : ClassFile where
  minorVersion := 0
  majorVersion := 65
  constantPool := pool
  accessFlags := fl
  thisClass := this
  superClass := sup
  interfaces := ifs
  fields := fds
  methods := ms
  attributes := attrs
def plain (name : String) (sup : Option ClassId) : Class where
  name := name
  kind := .ordinary
  loader := none
  accessFlags := 33
  super := sup
  interfaces := #[]
  cf := none
  fields := #[]
  methods := #[]
  instanceTypes := #[]
  staticTypes := #[]
  resolved := #[]
  callSites := []
  init := .initialized
  statics := none
  mirror := none

def pool0 : Array CpInfo := pool [(5, u "<init>"), (0, u "()V"), (1, .class_ 10), (1, u "java/lang/Object"), (85, u "clone"), (0, u "()Ljava/lang/Object;")] 26

def k0c0 : Code := { maxStack := 0, maxLocals := 1, code := object_method_1_code, exceptionTable := #[], attributes := #[] }
def k0m0 : Method := { name := "<init>", desc := "()V", sig := { parameters := [], returnType := none }, accessFlags := 1, code := some k0c0 }
def k0m1 : Method := { name := "clone", desc := "()Ljava/lang/Object;", sig := { parameters := [], returnType := some (.object "java/lang/Object") }, accessFlags := 260, code := none }
/-- java/lang/Object -/
def k0 : Class := { plain "java/lang/Object" none with
  accessFlags := 33
  interfaces := #[]
  cf := some (fileOf pool0 8 #[] #[{ accessFlags := 1, nameIndex := 5, descriptorIndex := 6, attributes := #[] }, { accessFlags := 260, nameIndex := 96, descriptorIndex := 97, attributes := #[] }] 33 0 #[] #[])
  fields := #[]
  methods := #[k0m0, k0m1]
  instanceTypes := #[]
  staticTypes := #[]
  resolved := Array.replicate 124 none
  statics := none }

def pool1 : Array CpInfo := pool [(2, .class_ 4), (1, u "java/lang/Object"), (0, u "<init>"), (0, u "()V"), (0, .fieldref 8 9), (0, .class_ 10), (0, .nameAndType 11 12), (0, u "com/example/tasks_to_members/taskstomembers/core/TaskAssignor"), (0, u "HIGHLY_AVAILABLE"), (0, u "Lcom/example/tasks_to_members/taskstomembers/core/TaskAssignor;"), (0, .fieldref 8 14), (0, .nameAndType 15 12), (0, u "STICKY"), (0, .methodref 8 17), (0, .nameAndType 18 19), (0, u "configName"), (0, u "()Ljava/lang/String;"), (0, .methodref 8 21), (0, .nameAndType 22 23), (0, u "named"), (0, u "(Ljava/lang/String;)Lcom/example/tasks_to_members/taskstomembers/core/TaskAssignor;"), (0, .methodref 25 26), (0, .class_ 27), (0, .nameAndType 28 29), (0, u "com/example/tasks_to_members/taskstomembers/core/TaskAssignorNamedPinLaw"), (0, u "drawn6"), (0, u "(J)Ljava/lang/String;"), (0, .methodref 25 31), (0, .nameAndType 32 29), (0, u "drawnShort"), (0, .integer 2147483647), (0, .class_ 35), (0, u "java/lang/String"), (0, .methodref 34 37), (0, .nameAndType 5 38), (0, u "([C)V"), (0, .methodref 25 40), (0, .nameAndType 41 23), (0, u "expected"), (0, .string 43), (0, u "sticky"), (0, .methodref 34 45), (0, .nameAndType 46 47), (0, u "equals"), (0, u "(Ljava/lang/Object;)Z"), (0, .string 49), (0, u "highly_available"), (0, .long 255), (1, .long 3), (3, u "law"), (0, u "(IIIJJ)Z")] 5

def k1m0 : Method := { name := "<init>", desc := "()V", sig := { parameters := [], returnType := none }, accessFlags := 1, code := none }
def k1c1 : Code := { maxStack := 4, maxLocals := 12, code := code, exceptionTable := #[], attributes := #[] }
def k1m1 : Method := { name := "law", desc := "(IIIJJ)Z", sig := { parameters := [.int, .int, .int, .long, .long], returnType := some .boolean }, accessFlags := 9, code := some k1c1 }
def k1c2 : Code := { maxStack := 2, maxLocals := 1, code := method_3_code, exceptionTable := #[], attributes := #[] }
def k1m2 : Method := { name := "expected", desc := "(Ljava/lang/String;)Lcom/example/tasks_to_members/taskstomembers/core/TaskAssignor;", sig := { parameters := [(.object "java/lang/String")], returnType := some (.object "com/example/tasks_to_members/taskstomembers/core/TaskAssignor") }, accessFlags := 10, code := some k1c2 }
def k1c3 : Code := { maxStack := 7, maxLocals := 3, code := method_4_code, exceptionTable := #[], attributes := #[] }
def k1m3 : Method := { name := "drawn6", desc := "(J)Ljava/lang/String;", sig := { parameters := [.long], returnType := some (.object "java/lang/String") }, accessFlags := 10, code := some k1c3 }
def k1c4 : Code := { maxStack := 6, maxLocals := 6, code := method_5_code, exceptionTable := #[], attributes := #[] }
def k1m4 : Method := { name := "drawnShort", desc := "(J)Ljava/lang/String;", sig := { parameters := [.long], returnType := some (.object "java/lang/String") }, accessFlags := 10, code := some k1c4 }
/-- com/example/tasks_to_members/taskstomembers/core/TaskAssignorNamedPinLaw -/
def k1 : Class := { plain "com/example/tasks_to_members/taskstomembers/core/TaskAssignorNamedPinLaw" (some 0) with
  accessFlags := 49
  interfaces := #[]
  cf := some (fileOf pool1 25 #[] #[{ accessFlags := 1, nameIndex := 5, descriptorIndex := 6, attributes := #[] }, { accessFlags := 9, nameIndex := 56, descriptorIndex := 57, attributes := #[] }, { accessFlags := 10, nameIndex := 41, descriptorIndex := 23, attributes := #[] }, { accessFlags := 10, nameIndex := 28, descriptorIndex := 29, attributes := #[] }, { accessFlags := 10, nameIndex := 32, descriptorIndex := 29, attributes := #[] }] 49 2 #[] #[])
  fields := #[]
  methods := #[k1m0, k1m1, k1m2, k1m3, k1m4]
  instanceTypes := #[]
  staticTypes := #[]
  resolved := Array.replicate 63 none
  statics := none }

def pool2 : Array CpInfo := pool [(1, .class_ 2), (0, u "java/io/Serializable"), (0, .class_ 4), (0, u "java/lang/Object")] 2

/-- java/io/Serializable -/
def k2 : Class := { plain "java/io/Serializable" (some 0) with
  accessFlags := 1537
  interfaces := #[]
  cf := some (fileOf pool2 1 #[] #[] 1537 3 #[] #[])
  fields := #[]
  methods := #[]
  instanceTypes := #[]
  staticTypes := #[]
  resolved := Array.replicate 7 none
  statics := none }

def pool3 : Array CpInfo := pool [(1, .class_ 2), (0, u "java/lang/Comparable"), (0, .class_ 4), (0, u "java/lang/Object")] 7

/-- java/lang/Comparable -/
def k3 : Class := { plain "java/lang/Comparable" (some 0) with
  accessFlags := 1537
  interfaces := #[]
  cf := some (fileOf pool3 1 #[] #[] 1537 3 #[] #[])
  fields := #[]
  methods := #[]
  instanceTypes := #[]
  staticTypes := #[]
  resolved := Array.replicate 12 none
  statics := none }

def pool4 : Array CpInfo := pool [(2, .class_ 4), (1, u "java/lang/CharSequence"), (42, .class_ 48), (0, u "java/lang/CharSequence$1CodePointIterator"), (10, .class_ 60), (0, u "java/lang/CharSequence$1CharIterator"), (5, .class_ 67), (0, u "java/lang/Object")] 63

/-- java/lang/CharSequence -/
def k4 : Class := { plain "java/lang/CharSequence" (some 0) with
  accessFlags := 1537
  interfaces := #[]
  cf := some (fileOf pool4 2 #[.nestMembers #[47, 59]] #[] 1537 66 #[] #[])
  fields := #[]
  methods := #[]
  instanceTypes := #[]
  staticTypes := #[]
  resolved := Array.replicate 131 none
  statics := none }

def pool5 : Array CpInfo := pool [(1, .class_ 2), (0, u "java/lang/constant/Constable"), (0, .class_ 4), (0, u "java/lang/Object")] 6

/-- java/lang/constant/Constable -/
def k5 : Class := { plain "java/lang/constant/Constable" (some 0) with
  accessFlags := 1537
  interfaces := #[]
  cf := some (fileOf pool5 1 #[] #[] 1537 3 #[] #[])
  fields := #[]
  methods := #[]
  instanceTypes := #[]
  staticTypes := #[]
  resolved := Array.replicate 11 none
  statics := none }

def pool6 : Array CpInfo := pool [(1, .class_ 2), (0, u "java/lang/constant/ConstantDesc"), (0, .class_ 4), (0, u "java/lang/Object")] 32

/-- java/lang/constant/ConstantDesc -/
def k6 : Class := { plain "java/lang/constant/ConstantDesc" (some 0) with
  accessFlags := 1537
  interfaces := #[]
  cf := some (fileOf pool6 1 #[] #[] 1537 3 #[] #[])
  fields := #[]
  methods := #[]
  instanceTypes := #[]
  staticTypes := #[]
  resolved := Array.replicate 37 none
  statics := none }

def pool7 : Array CpInfo := pool [(1, .methodref 2 3), (0, .class_ 4), (0, .nameAndType 5 6), (0, u "java/lang/Object"), (0, u "<init>"), (0, u "()V"), (0, .string 8), (0, u ""), (0, .fieldref 10 11), (0, .class_ 12), (0, .nameAndType 13 14), (0, u "java/lang/String"), (0, u "value"), (0, u "[B"), (0, .fieldref 10 16), (0, .nameAndType 17 18), (0, u "coder"), (0, u "B"), (2, u "hash"), (0, u "I"), (2, u "hashIsZero"), (0, u "Z"), (0, .methodref 10 28), (0, .nameAndType 5 29), (0, u "([CIILjava/lang/Void;)V"), (8, .fieldref 10 39), (0, .nameAndType 40 26), (0, u "COMPACT_STRINGS"), (1, .class_ 44), (1, u "java/lang/StringUTF16"), (0, u "compress"), (1, .methodref 42 48), (0, .nameAndType 49 50), (0, u "coderFromArrayLen"), (0, u "([BI)B"), (56, .class_ 109), (1, u "java/lang/StringLatin1"), (67, .methodref 42 178), (0, .nameAndType 45 179), (0, u "([CII)[B"), (361, .methodref 107 542), (0, .nameAndType 543 544), (0, u "equals"), (0, u "([B[B)Z"), (28, u "(Ljava/lang/Object;)Z"), (1, .class_ 576), (0, u "java/lang/CharSequence"), (22, u "CASE_INSENSITIVE_ORDER"), (0, u "Ljava/util/Comparator;"), (409, u "([C)V"), (90, u "serialPersistentFields"), (0, u "[Ljava/io/ObjectStreamField;"), (0, .class_ 1104), (0, u "java/lang/String$CaseInsensitiveComparator"), (1, .class_ 1107), (0, u "java/io/Serializable"), (0, .class_ 1109), (0, u "java/lang/Comparable"), (0, .class_ 1111), (0, u "java/lang/constant/Constable"), (0, .class_ 1113), (0, u "java/lang/constant/ConstantDesc"), (2, u "serialVersionUID"), (0, u "J"), (3, u "REPL"), (0, u "C"), (2, u "LATIN1"), (1, u "UTF16")] 323

def k7m0 : Method := { name := "<init>", desc := "()V", sig := { parameters := [], returnType := none }, accessFlags := 1, code := none }
def k7c1 : Code := { maxStack := 5, maxLocals := 2, code := jdk_42_method_3_code, exceptionTable := #[], attributes := #[] }
def k7m1 : Method := { name := "<init>", desc := "([C)V", sig := { parameters := [(.array .char)], returnType := none }, accessFlags := 1, code := some k7c1 }
def k7c2 : Code := { maxStack := 2, maxLocals := 3, code := jdk_42_method_66_code, exceptionTable := #[], attributes := #[] }
def k7m2 : Method := { name := "equals", desc := "(Ljava/lang/Object;)Z", sig := { parameters := [(.object "java/lang/Object")], returnType := some .boolean }, accessFlags := 1, code := some k7c2 }
def k7c3 : Code := { maxStack := 4, maxLocals := 6, code := jdk_42_method_149_code, exceptionTable := #[], attributes := #[] }
def k7m3 : Method := { name := "<init>", desc := "([CIILjava/lang/Void;)V", sig := { parameters := [(.array .char), .int, .int, (.object "java/lang/Void")], returnType := none }, accessFlags := 2, code := some k7c3 }
/-- java/lang/String -/
def k7 : Class := { plain "java/lang/String" (some 0) with
  accessFlags := 49
  interfaces := #[2, 3, 4, 5, 6]
  cf := some (fileOf pool7 10 #[.nestMembers #[1103]] #[{ accessFlags := 1, nameIndex := 5, descriptorIndex := 6, attributes := #[] }, { accessFlags := 1, nameIndex := 5, descriptorIndex := 1010, attributes := #[] }, { accessFlags := 1, nameIndex := 543, descriptorIndex := 573, attributes := #[] }, { accessFlags := 2, nameIndex := 5, descriptorIndex := 29, attributes := #[] }] 49 2 #[1106, 1108, 575, 1110, 1112] #[{ accessFlags := 18, nameIndex := 13, descriptorIndex := 14, attributes := #[] }, { accessFlags := 18, nameIndex := 17, descriptorIndex := 18, attributes := #[] }, { accessFlags := 2, nameIndex := 21, descriptorIndex := 22, attributes := #[] }, { accessFlags := 2, nameIndex := 25, descriptorIndex := 26, attributes := #[] }, { accessFlags := 26, nameIndex := 1116, descriptorIndex := 1117, attributes := #[] }, { accessFlags := 24, nameIndex := 40, descriptorIndex := 26, attributes := #[] }, { accessFlags := 26, nameIndex := 1101, descriptorIndex := 1102, attributes := #[] }, { accessFlags := 26, nameIndex := 1121, descriptorIndex := 1122, attributes := #[] }, { accessFlags := 25, nameIndex := 599, descriptorIndex := 600, attributes := #[] }, { accessFlags := 24, nameIndex := 1125, descriptorIndex := 18, attributes := #[] }, { accessFlags := 24, nameIndex := 1127, descriptorIndex := 18, attributes := #[] }])
  fields := #[{ name := "value", type := (.array .byte), accessFlags := 18, slot := 0, constantValue := 0 }, { name := "coder", type := .byte, accessFlags := 18, slot := 1, constantValue := 0 }, { name := "hash", type := .int, accessFlags := 2, slot := 2, constantValue := 0 }, { name := "hashIsZero", type := .boolean, accessFlags := 2, slot := 3, constantValue := 0 }, { name := "serialVersionUID", type := .long, accessFlags := 26, slot := 0, constantValue := 0 }, { name := "COMPACT_STRINGS", type := .boolean, accessFlags := 24, slot := 1, constantValue := 0 }, { name := "serialPersistentFields", type := (.array (.object "java/io/ObjectStreamField")), accessFlags := 26, slot := 2, constantValue := 0 }, { name := "REPL", type := .char, accessFlags := 26, slot := 3, constantValue := 0 }, { name := "CASE_INSENSITIVE_ORDER", type := (.object "java/util/Comparator"), accessFlags := 25, slot := 4, constantValue := 0 }, { name := "LATIN1", type := .byte, accessFlags := 24, slot := 5, constantValue := 0 }, { name := "UTF16", type := .byte, accessFlags := 24, slot := 6, constantValue := 0 }]
  methods := #[k7m0, k7m1, k7m2, k7m3]
  instanceTypes := #[(.array .byte), .byte, .int, .boolean]
  staticTypes := #[.long, .boolean, (.array (.object "java/io/ObjectStreamField")), .char, (.object "java/util/Comparator"), .byte, .byte]
  resolved := Array.replicate 1451 none
  statics := some 0 }

def pool8 : Array CpInfo := pool [(6, .class_ 8), (1, u "java/lang/Object"), (0, u "<init>"), (0, u "()V"), (1, .class_ 14), (1, u "java/lang/StringUTF16"), (31, u "$assertionsDisabled"), (0, u "Z"), (13, u "HI_BYTE_SHIFT"), (0, u "I"), (2, u "LO_BYTE_SHIFT"), (49, .methodref 12 116), (0, .nameAndType 117 118), (0, u "compress"), (0, u "([CI[BII)I"), (3, u "([CII)[B"), (138, u "coderFromArrayLen"), (0, u "([BI)B"), (106, .class_ 371), (1, u "java/lang/StringUTF16$LinesSpliterator"), (58, u "MAX_LENGTH"), (196, .class_ 628), (0, u "java/lang/StringUTF16$CodePointsSpliterator"), (0, .class_ 630), (0, u "java/lang/StringUTF16$CharsSpliterator")] 4

def k8m0 : Method := { name := "<init>", desc := "()V", sig := { parameters := [], returnType := none }, accessFlags := 0, code := none }
def k8c1 : Code := { maxStack := 2, maxLocals := 2, code := jdk_52_method_15_code, exceptionTable := #[], attributes := #[] }
def k8m1 : Method := { name := "coderFromArrayLen", desc := "([BI)B", sig := { parameters := [(.array .byte), .int], returnType := some .byte }, accessFlags := 8, code := some k8c1 }
def k8c2 : Code := { maxStack := 5, maxLocals := 6, code := jdk_52_method_16_code, exceptionTable := #[], attributes := #[] }
def k8m2 : Method := { name := "compress", desc := "([CII)[B", sig := { parameters := [(.array .char), .int, .int], returnType := some (.array .byte) }, accessFlags := 9, code := some k8c2 }
def k8c3 : Code := { maxStack := 3, maxLocals := 7, code := jdk_52_method_21_code, exceptionTable := #[], attributes := #[] }
def k8m3 : Method := { name := "compress", desc := "([CI[BII)I", sig := { parameters := [(.array .char), .int, (.array .byte), .int, .int], returnType := some .int }, accessFlags := 9, code := some k8c3 }
/-- java/lang/StringUTF16 -/
def k8 : Class := { plain "java/lang/StringUTF16" (some 0) with
  accessFlags := 48
  interfaces := #[]
  cf := some (fileOf pool8 12 #[.nestMembers #[627, 629, 369]] #[{ accessFlags := 0, nameIndex := 9, descriptorIndex := 10, attributes := #[] }, { accessFlags := 8, nameIndex := 261, descriptorIndex := 262, attributes := #[] }, { accessFlags := 9, nameIndex := 117, descriptorIndex := 122, attributes := #[] }, { accessFlags := 9, nameIndex := 117, descriptorIndex := 118, attributes := #[] }] 48 6 #[] #[{ accessFlags := 26, nameIndex := 61, descriptorIndex := 62, attributes := #[] }, { accessFlags := 26, nameIndex := 65, descriptorIndex := 62, attributes := #[] }, { accessFlags := 24, nameIndex := 430, descriptorIndex := 62, attributes := #[] }, { accessFlags := 4120, nameIndex := 46, descriptorIndex := 47, attributes := #[] }])
  fields := #[{ name := "HI_BYTE_SHIFT", type := .int, accessFlags := 26, slot := 0, constantValue := 0 }, { name := "LO_BYTE_SHIFT", type := .int, accessFlags := 26, slot := 1, constantValue := 0 }, { name := "MAX_LENGTH", type := .int, accessFlags := 24, slot := 2, constantValue := 0 }, { name := "$assertionsDisabled", type := .boolean, accessFlags := 4120, slot := 3, constantValue := 0 }]
  methods := #[k8m0, k8m1, k8m2, k8m3]
  instanceTypes := #[]
  staticTypes := #[.int, .int, .int, .boolean]
  resolved := Array.replicate 635 none
  statics := none }

def pool9 : Array CpInfo := pool [(2, .class_ 4), (1, u "java/lang/Enum"), (0, u "name"), (0, u "Ljava/lang/String;"), (2, u "ordinal"), (0, u "I"), (1, .class_ 14), (1, u "java/lang/Object"), (4, u "hash"), (86, .class_ 108), (1, u "java/lang/Enum$EnumDesc"), (2, .class_ 112), (0, u "java/lang/constant/Constable"), (0, .class_ 114), (0, u "java/lang/Comparable"), (0, .class_ 116), (0, u "java/io/Serializable")] 87

/-- java/lang/Enum -/
def k9 : Class := { plain "java/lang/Enum" (some 0) with
  accessFlags := 1057
  interfaces := #[5, 3, 2]
  cf := some (fileOf pool9 2 #[.nestMembers #[106]] #[] 1057 12 #[111, 113, 115] #[{ accessFlags := 18, nameIndex := 5, descriptorIndex := 6, attributes := #[] }, { accessFlags := 18, nameIndex := 9, descriptorIndex := 10, attributes := #[] }, { accessFlags := 2, nameIndex := 19, descriptorIndex := 10, attributes := #[] }])
  fields := #[{ name := "name", type := (.object "java/lang/String"), accessFlags := 18, slot := 0, constantValue := 0 }, { name := "ordinal", type := .int, accessFlags := 18, slot := 1, constantValue := 0 }, { name := "hash", type := .int, accessFlags := 2, slot := 2, constantValue := 0 }]
  methods := #[]
  instanceTypes := #[(.object "java/lang/String"), .int, .int]
  staticTypes := #[]
  resolved := Array.replicate 204 none
  statics := none }

def pool10 : Array CpInfo := pool [(1, .class_ 2), (0, u "com/example/tasks_to_members/taskstomembers/core/TaskAssignor"), (2, u "STICKY"), (0, u "Lcom/example/tasks_to_members/taskstomembers/core/TaskAssignor;"), (2, u "HIGHLY_AVAILABLE"), (0, .fieldref 1 11), (0, .nameAndType 12 13), (0, u "$VALUES"), (0, u "[Lcom/example/tasks_to_members/taskstomembers/core/TaskAssignor;"), (0, .methodref 15 16), (0, .class_ 13), (0, .nameAndType 17 18), (0, u "clone"), (0, u "()Ljava/lang/Object;"), (1, .class_ 22), (1, u "java/lang/Enum"), (6, .fieldref 1 30), (0, .nameAndType 31 32), (0, u "configName"), (0, u "Ljava/lang/String;"), (0, .methodref 1 34), (0, .nameAndType 35 36), (0, u "values"), (0, u "()[Lcom/example/tasks_to_members/taskstomembers/core/TaskAssignor;"), (0, .methodref 38 39), (0, .class_ 40), (0, .nameAndType 41 42), (0, u "java/lang/String"), (0, u "equals"), (0, u "(Ljava/lang/Object;)Z"), (14, u "(Ljava/lang/String;)Lcom/example/tasks_to_members/taskstomembers/core/TaskAssignor;"), (3, u "()Ljava/lang/String;"), (0, u "named")] 6

def k10c0 : Code := { maxStack := 1, maxLocals := 0, code := prog_7_method_1_code, exceptionTable := #[], attributes := #[] }
def k10m0 : Method := { name := "values", desc := "()[Lcom/example/tasks_to_members/taskstomembers/core/TaskAssignor;", sig := { parameters := [], returnType := some (.array (.object "com/example/tasks_to_members/taskstomembers/core/TaskAssignor")) }, accessFlags := 9, code := some k10c0 }
def k10c1 : Code := { maxStack := 1, maxLocals := 1, code := prog_7_method_4_code, exceptionTable := #[], attributes := #[] }
def k10m1 : Method := { name := "configName", desc := "()Ljava/lang/String;", sig := { parameters := [], returnType := some (.object "java/lang/String") }, accessFlags := 0, code := some k10c1 }
def k10c2 : Code := { maxStack := 2, maxLocals := 5, code := prog_7_method_5_code, exceptionTable := #[], attributes := #[] }
def k10m2 : Method := { name := "named", desc := "(Ljava/lang/String;)Lcom/example/tasks_to_members/taskstomembers/core/TaskAssignor;", sig := { parameters := [(.object "java/lang/String")], returnType := some (.object "com/example/tasks_to_members/taskstomembers/core/TaskAssignor") }, accessFlags := 8, code := some k10c2 }
/-- com/example/tasks_to_members/taskstomembers/core/TaskAssignor -/
def k10 : Class := { plain "com/example/tasks_to_members/taskstomembers/core/TaskAssignor" (some 9) with
  accessFlags := 16432
  interfaces := #[]
  cf := some (fileOf pool10 1 #[] #[{ accessFlags := 9, nameIndex := 35, descriptorIndex := 36, attributes := #[] }, { accessFlags := 0, nameIndex := 31, descriptorIndex := 61, attributes := #[] }, { accessFlags := 8, nameIndex := 62, descriptorIndex := 57, attributes := #[] }] 16432 20 #[] #[{ accessFlags := 16409, nameIndex := 5, descriptorIndex := 6, attributes := #[] }, { accessFlags := 16409, nameIndex := 9, descriptorIndex := 6, attributes := #[] }, { accessFlags := 18, nameIndex := 31, descriptorIndex := 32, attributes := #[] }, { accessFlags := 4122, nameIndex := 12, descriptorIndex := 13, attributes := #[] }])
  fields := #[{ name := "STICKY", type := (.object "com/example/tasks_to_members/taskstomembers/core/TaskAssignor"), accessFlags := 16409, slot := 0, constantValue := 0 }, { name := "HIGHLY_AVAILABLE", type := (.object "com/example/tasks_to_members/taskstomembers/core/TaskAssignor"), accessFlags := 16409, slot := 1, constantValue := 0 }, { name := "configName", type := (.object "java/lang/String"), accessFlags := 18, slot := 3, constantValue := 0 }, { name := "$VALUES", type := (.array (.object "com/example/tasks_to_members/taskstomembers/core/TaskAssignor")), accessFlags := 4122, slot := 2, constantValue := 0 }]
  methods := #[k10m0, k10m1, k10m2]
  instanceTypes := #[(.object "java/lang/String"), .int, .int, (.object "java/lang/String")]
  staticTypes := #[(.object "com/example/tasks_to_members/taskstomembers/core/TaskAssignor"), (.object "com/example/tasks_to_members/taskstomembers/core/TaskAssignor"), (.array (.object "com/example/tasks_to_members/taskstomembers/core/TaskAssignor"))]
  resolved := Array.replicate 69 none
  statics := some 1 }

def pool11 : Array CpInfo := pool [(1, .class_ 2), (0, u "java/lang/Cloneable"), (0, .class_ 4), (0, u "java/lang/Object")] 2

/-- java/lang/Cloneable -/
def k11 : Class := { plain "java/lang/Cloneable" (some 0) with
  accessFlags := 1537
  interfaces := #[]
  cf := some (fileOf pool11 1 #[] #[] 1537 3 #[] #[])
  fields := #[]
  methods := #[]
  instanceTypes := #[]
  staticTypes := #[]
  resolved := Array.replicate 7 none
  statics := none }

def pool12 : Array CpInfo := pool [(4, .class_ 6), (1, u "java/lang/Object"), (0, u "<init>"), (0, u "()V"), (5, .class_ 16), (1, u "java/lang/StringLatin1"), (104, u "$assertionsDisabled"), (0, u "Z"), (98, .class_ 223), (1, u "java/lang/StringLatin1$LinesSpliterator"), (57, u "equals"), (0, u "([B[B)Z"), (107, .class_ 391), (0, u "java/lang/StringLatin1$CharsSpliterator")] 3

def k12m0 : Method := { name := "<init>", desc := "()V", sig := { parameters := [], returnType := none }, accessFlags := 0, code := none }
def k12c1 : Code := { maxStack := 3, maxLocals := 3, code := jdk_43_method_13_code, exceptionTable := #[], attributes := #[] }
def k12m1 : Method := { name := "equals", desc := "([B[B)Z", sig := { parameters := [(.array .byte), (.array .byte)], returnType := some .boolean }, accessFlags := 9, code := some k12c1 }
/-- java/lang/StringLatin1 -/
def k12 : Class := { plain "java/lang/StringLatin1" (some 0) with
  accessFlags := 48
  interfaces := #[]
  cf := some (fileOf pool12 14 #[.nestMembers #[390, 221]] #[{ accessFlags := 0, nameIndex := 7, descriptorIndex := 8, attributes := #[] }, { accessFlags := 9, nameIndex := 281, descriptorIndex := 282, attributes := #[] }] 48 4 #[] #[{ accessFlags := 4120, nameIndex := 121, descriptorIndex := 122, attributes := #[] }])
  fields := #[{ name := "$assertionsDisabled", type := .boolean, accessFlags := 4120, slot := 0, constantValue := 0 }]
  methods := #[k12m0, k12m1]
  instanceTypes := #[]
  staticTypes := #[.boolean]
  resolved := Array.replicate 395 none
  statics := none }

def pool13 : Array CpInfo := pool [(2, .class_ 4), (1, u "java/lang/Object"), (0, u "<init>"), (0, u "()V"), (17, .class_ 26), (1, u "jdk/internal/util/Preconditions"), (28, .class_ 56), (0, u "jdk/internal/util/Preconditions$4"), (57, .class_ 115), (0, u "jdk/internal/util/Preconditions$1"), (7, u "SIOOBE_FORMATTER"), (0, u "Ljava/util/function/BiFunction;"), (0, .class_ 126), (0, u "jdk/internal/util/Preconditions$2"), (3, u "AIOOBE_FORMATTER"), (0, .class_ 132), (0, u "jdk/internal/util/Preconditions$3"), (3, u "IOOBE_FORMATTER")] 57

def k13m0 : Method := { name := "<init>", desc := "()V", sig := { parameters := [], returnType := none }, accessFlags := 1, code := none }
/-- jdk/internal/util/Preconditions -/
def k13 : Class := { plain "jdk/internal/util/Preconditions" (some 0) with
  accessFlags := 33
  interfaces := #[]
  cf := some (fileOf pool13 24 #[.nestMembers #[55, 131, 125, 114]] #[{ accessFlags := 1, nameIndex := 5, descriptorIndex := 6, attributes := #[] }] 33 2 #[] #[{ accessFlags := 25, nameIndex := 123, descriptorIndex := 124, attributes := #[] }, { accessFlags := 25, nameIndex := 130, descriptorIndex := 124, attributes := #[] }, { accessFlags := 25, nameIndex := 136, descriptorIndex := 124, attributes := #[] }])
  fields := #[{ name := "SIOOBE_FORMATTER", type := (.object "java/util/function/BiFunction"), accessFlags := 25, slot := 0, constantValue := 0 }, { name := "AIOOBE_FORMATTER", type := (.object "java/util/function/BiFunction"), accessFlags := 25, slot := 1, constantValue := 0 }, { name := "IOOBE_FORMATTER", type := (.object "java/util/function/BiFunction"), accessFlags := 25, slot := 2, constantValue := 0 }]
  methods := #[k13m0]
  instanceTypes := #[]
  staticTypes := #[(.object "java/util/function/BiFunction"), (.object "java/util/function/BiFunction"), (.object "java/util/function/BiFunction")]
  resolved := Array.replicate 194 none
  statics := some 2 }

def pool14 : Array CpInfo := pool [(9, u "<init>"), (6, .class_ 18), (1, u "java/lang/Object"), (0, u "()V"), (1, .class_ 23), (1, u "jdk/internal/util/ArraysSupport"), (0, u "LOG2_ARRAY_LONG_INDEX_SCALE"), (0, u "I"), (2, u "U"), (0, u "Ljdk/internal/misc/Unsafe;"), (8, u "BIG_ENDIAN"), (0, u "Z"), (8, u "LOG2_BYTE_BIT_SIZE"), (4, u "LOG2_ARRAY_INT_INDEX_SCALE"), (54, u "JLA"), (0, u "Ljdk/internal/access/JavaLangAccess;"), (11, u "LOG2_ARRAY_BOOLEAN_INDEX_SCALE"), (9, u "LOG2_ARRAY_BYTE_INDEX_SCALE"), (5, u "LOG2_ARRAY_CHAR_INDEX_SCALE"), (5, u "LOG2_ARRAY_SHORT_INDEX_SCALE"), (18, u "LOG2_ARRAY_FLOAT_INDEX_SCALE"), (24, u "LOG2_ARRAY_DOUBLE_INDEX_SCALE"), (89, u "T_BOOLEAN"), (2, u "T_CHAR"), (1, u "T_FLOAT"), (1, u "T_DOUBLE"), (1, u "T_BYTE"), (1, u "T_SHORT"), (1, u "T_INT"), (1, u "T_LONG"), (1, u "SOFT_MAX_ARRAY_LENGTH")] 83

def k14m0 : Method := { name := "<init>", desc := "()V", sig := { parameters := [], returnType := none }, accessFlags := 2, code := none }
/-- jdk/internal/util/ArraysSupport -/
def k14 : Class := { plain "jdk/internal/util/ArraysSupport" (some 0) with
  accessFlags := 33
  interfaces := #[]
  cf := some (fileOf pool14 21 #[] #[{ accessFlags := 2, nameIndex := 9, descriptorIndex := 19, attributes := #[] }] 33 16 #[] #[{ accessFlags := 24, nameIndex := 28, descriptorIndex := 29, attributes := #[] }, { accessFlags := 26, nameIndex := 38, descriptorIndex := 39, attributes := #[] }, { accessFlags := 25, nameIndex := 121, descriptorIndex := 25, attributes := #[] }, { accessFlags := 25, nameIndex := 131, descriptorIndex := 25, attributes := #[] }, { accessFlags := 25, nameIndex := 137, descriptorIndex := 25, attributes := #[] }, { accessFlags := 25, nameIndex := 143, descriptorIndex := 25, attributes := #[] }, { accessFlags := 25, nameIndex := 53, descriptorIndex := 25, attributes := #[] }, { accessFlags := 25, nameIndex := 24, descriptorIndex := 25, attributes := #[] }, { accessFlags := 25, nameIndex := 162, descriptorIndex := 25, attributes := #[] }, { accessFlags := 25, nameIndex := 187, descriptorIndex := 25, attributes := #[] }, { accessFlags := 26, nameIndex := 48, descriptorIndex := 25, attributes := #[] }, { accessFlags := 25, nameIndex := 277, descriptorIndex := 25, attributes := #[] }, { accessFlags := 25, nameIndex := 280, descriptorIndex := 25, attributes := #[] }, { accessFlags := 25, nameIndex := 282, descriptorIndex := 25, attributes := #[] }, { accessFlags := 25, nameIndex := 284, descriptorIndex := 25, attributes := #[] }, { accessFlags := 25, nameIndex := 286, descriptorIndex := 25, attributes := #[] }, { accessFlags := 25, nameIndex := 288, descriptorIndex := 25, attributes := #[] }, { accessFlags := 25, nameIndex := 290, descriptorIndex := 25, attributes := #[] }, { accessFlags := 25, nameIndex := 292, descriptorIndex := 25, attributes := #[] }, { accessFlags := 26, nameIndex := 108, descriptorIndex := 109, attributes := #[] }, { accessFlags := 25, nameIndex := 294, descriptorIndex := 25, attributes := #[] }])
  fields := #[{ name := "U", type := (.object "jdk/internal/misc/Unsafe"), accessFlags := 24, slot := 0, constantValue := 0 }, { name := "BIG_ENDIAN", type := .boolean, accessFlags := 26, slot := 1, constantValue := 0 }, { name := "LOG2_ARRAY_BOOLEAN_INDEX_SCALE", type := .int, accessFlags := 25, slot := 2, constantValue := 0 }, { name := "LOG2_ARRAY_BYTE_INDEX_SCALE", type := .int, accessFlags := 25, slot := 3, constantValue := 0 }, { name := "LOG2_ARRAY_CHAR_INDEX_SCALE", type := .int, accessFlags := 25, slot := 4, constantValue := 0 }, { name := "LOG2_ARRAY_SHORT_INDEX_SCALE", type := .int, accessFlags := 25, slot := 5, constantValue := 0 }, { name := "LOG2_ARRAY_INT_INDEX_SCALE", type := .int, accessFlags := 25, slot := 6, constantValue := 0 }, { name := "LOG2_ARRAY_LONG_INDEX_SCALE", type := .int, accessFlags := 25, slot := 7, constantValue := 0 }, { name := "LOG2_ARRAY_FLOAT_INDEX_SCALE", type := .int, accessFlags := 25, slot := 8, constantValue := 0 }, { name := "LOG2_ARRAY_DOUBLE_INDEX_SCALE", type := .int, accessFlags := 25, slot := 9, constantValue := 0 }, { name := "LOG2_BYTE_BIT_SIZE", type := .int, accessFlags := 26, slot := 10, constantValue := 0 }, { name := "T_BOOLEAN", type := .int, accessFlags := 25, slot := 11, constantValue := 0 }, { name := "T_CHAR", type := .int, accessFlags := 25, slot := 12, constantValue := 0 }, { name := "T_FLOAT", type := .int, accessFlags := 25, slot := 13, constantValue := 0 }, { name := "T_DOUBLE", type := .int, accessFlags := 25, slot := 14, constantValue := 0 }, { name := "T_BYTE", type := .int, accessFlags := 25, slot := 15, constantValue := 0 }, { name := "T_SHORT", type := .int, accessFlags := 25, slot := 16, constantValue := 0 }, { name := "T_INT", type := .int, accessFlags := 25, slot := 17, constantValue := 0 }, { name := "T_LONG", type := .int, accessFlags := 25, slot := 18, constantValue := 0 }, { name := "JLA", type := (.object "jdk/internal/access/JavaLangAccess"), accessFlags := 26, slot := 19, constantValue := 0 }, { name := "SOFT_MAX_ARRAY_LENGTH", type := .int, accessFlags := 25, slot := 20, constantValue := 0 }]
  methods := #[k14m0]
  instanceTypes := #[]
  staticTypes := #[(.object "jdk/internal/misc/Unsafe"), .boolean, .int, .int, .int, .int, .int, .int, .int, .int, .int, .int, .int, .int, .int, .int, .int, .int, .int, (.object "jdk/internal/access/JavaLangAccess"), .int]
  resolved := Array.replicate 378 none
  statics := none }

/-- the primitive byte -/
def k15 : Class := { plain "byte" none with kind := .primitive 'B', accessFlags := 0x411 }
/-- [B -/
def k16 : Class := { plain "[B" (some 0) with kind := .array 15 .byte, interfaces := #[11, 2], accessFlags := 1041 }

/-- the primitive char -/
def k17 : Class := { plain "char" none with kind := .primitive 'C', accessFlags := 0x411 }
/-- [C -/
def k18 : Class := { plain "[C" (some 0) with kind := .array 17 .char, interfaces := #[11, 2], accessFlags := 1041 }

/-- the primitive int -/
def k19 : Class := { plain "int" none with kind := .primitive 'I', accessFlags := 0x411 }
/-- [I -/
def k20 : Class := { plain "[I" (some 0) with kind := .array 19 .int, interfaces := #[11, 2], accessFlags := 1041 }

/-- [Lcom/example/tasks_to_members/taskstomembers/core/TaskAssignor; -/
def k21 : Class := { plain "[Lcom/example/tasks_to_members/taskstomembers/core/TaskAssignor;" (some 0) with kind := .array 10 (.object "com/example/tasks_to_members/taskstomembers/core/TaskAssignor"), interfaces := #[11, 2], accessFlags := 1041 }

def heap : Heap := #[{ cls := 7, slots := #[.long 0, .int 1, .null, .int 0, .null, .int 0, .int 0], vm := .statics 7 },
  { cls := 10, slots := #[.ref 4, .ref 5, .ref 3], vm := .statics 10 },
  { cls := 13, slots := #[.null, .null, .null], vm := .statics 13 },
  { cls := 21, slots := #[.ref 4, .ref 5], vm := .none },
  { cls := 10, slots := #[.null, .int 0, .int 0, .ref 6], vm := .none },
  { cls := 10, slots := #[.null, .int 0, .int 0, .ref 8], vm := .none },
  { cls := 7, slots := #[.ref 7, .int 0, .int 0, .int 0], vm := .none },
  { cls := 16, slots := #[.int 115, .int 116, .int 105, .int 99, .int 107, .int 121], vm := .none },
  { cls := 7, slots := #[.ref 9, .int 0, .int 0, .int 0], vm := .none },
  { cls := 16, slots := #[.int 104, .int 105, .int 103, .int 104, .int 108, .int 121, .int 95, .int 97, .int 118, .int 97, .int 105, .int 108, .int 97, .int 98, .int 108, .int 101], vm := .none }]
def classes : Array Class := #[k0, k1, k2, k3, k4, k5, k6, k7, k8, k9, k10, k11, k12, k13, k14, k15, k16, k17, k18, k19, k20, k21]
def interned : List (Array UInt16 × Addr) := []
def slotsUsed : Nat := 53
def theMethod : MethodId := ⟨1, 1⟩
def args0 : Array Value := #[.int 7, .int 0, .int 0, .long 0, .long 0]
def aboutOver (below : List Frame) : State where
  vm := { classes := classes, interned := interned.toArray }
  heap := heap
  slotsUsed := slotsUsed
  threads := #[{ frames := .invoking theMethod args0 :: below }]
def below0 : List Frame := [.native { method := ⟨0, 0⟩, args := #[] }]
def about1 : State := aboutOver below0
def p0 : Program := .bare "" "" ""
def e0 : Env := launch0.env 0 0 0
theorem w_frames : about1.frames = Frame.invoking theMethod args0 :: below0 := rfl
set_option maxRecDepth 65536 in
theorem w_args : argsFit about1.vm theMethod args0 = true := by decide +kernel
set_option maxRecDepth 65536 in
theorem w_heap : heapFits about1 = true := by decide +kernel
set_option maxRecDepth 65536 in
theorem w_runnable : about1.curStatus? = some .runnable := by decide +kernel
set_option maxRecDepth 65536 in
theorem w_alone : about1.alone = true := by decide +kernel
set_option maxRecDepth 65536 in
theorem w_named : about1.methodNamed? x = some theMethod := by decide +kernel
set_option maxRecDepth 65536 in
theorem w_hears : about1.hears theMethod below0 = true := by decide +kernel
set_option maxRecDepth 65536 in
theorem w_ripe : about1.ripe theMethod args0 below0 = true := by decide +kernel
theorem w_running : about1.status = .running := rfl
set_option maxRecDepth 65536 in
theorem w_room : about1.hasRoom e0.platform room_1 = true :=
  launch0.hasRoom_least _ room_1 (by decide +kernel) (by decide +kernel) (by decide +kernel) (by decide +kernel) (by decide +kernel) (by decide +kernel)
theorem allAtoms_all (ts : List Jvm.Cond) (a : Array Jvm.Value) (st : Jvm.State) : (allAtoms ts).before a st = ts.all (fun c => c.before a st) := by
  induction ts with
  | nil => rfl
  | cons c t ih =>
    show (Jvm.Cond.and c (allAtoms t)).before a st = _
    rw [Jvm.Cond.before_and, ih, List.all_cons]
def words1 : List Jvm.Cond := Jvm.Cond.code x code maxLocals ret :: tables_1
/-- a 'code' word, met by the world's own term for the bytes: nothing is compared byte by byte -/
theorem code_word {y : MethodName} {bytes : ByteArray} {mx : Nat} {rt : Option FieldType} {a : Array Value} {s : State} {m : MethodId} {meth : Method} {c : Code} (h1 : s.methodNamed? y = some m) (h2 : s.vm.method? m = some meth) (h3 : meth.code = some c) (h4 : c.code = bytes)
    (h5 : (c.maxLocals == mx && c.exceptionTable.isEmpty && decide (c.maxStack ≤ mostOperands) && decide (meth.sig.returnType = rt) && !meth.locks && decide (parseMethodDescriptor y.desc = some meth.sig)) = true) : (Jvm.Cond.code y bytes mx rt).before a s = true := by
  simp only [Bool.and_eq_true, beq_iff_eq, Bool.not_eq_true', decide_eq_true_eq] at h5
  obtain ⟨⟨⟨⟨⟨g1, g2⟩, g3⟩, g4⟩, g5⟩, g6⟩ := h5
  simp [Cond.before, Cond.holds, Cond.value, h1, h2, h3, h4, g1, g2, g3, g4, g5, g6]
def isCode : Jvm.Cond → Bool
  | .code _ _ _ _ => true
  | _ => false
theorem all_split {L : List Jvm.Cond} {P : Jvm.Cond → Bool} (h1 : L.all (fun c => isCode c || P c) = true) (h2 : ∀ c ∈ L.filter isCode, P c = true) : L.all P = true := by
  refine List.all_eq_true.mpr fun c hc => ?_
  have h := List.all_eq_true.mp h1 c hc
  rcases Bool.eq_false_or_eq_true (isCode c) with hi | hi
  · exact h2 c (List.mem_filter.mpr ⟨hc, hi⟩)
  · simpa [hi] using h
set_option maxRecDepth 65536 in
theorem w_c0 : (Jvm.Cond.code x code maxLocals ret).before args0 about1 = true := code_word (m := ⟨1, 1⟩) (meth := k1m1) (c := k1c1) (by decide +kernel) rfl rfl rfl (by decide +kernel)
set_option maxRecDepth 65536 in
theorem w_c1 : (Jvm.Cond.code ({ cls := "java/lang/String", name := "<init>", desc := "([C)V" } : Jvm.MethodName) jdk_42_method_3_code (2 : Nat) (Option.none : Option Jvm.ClassFile.FieldType)).before args0 about1 = true := code_word (m := ⟨7, 1⟩) (meth := k7m1) (c := k7c1) (by decide +kernel) rfl rfl rfl (by decide +kernel)
set_option maxRecDepth 65536 in
theorem w_c2 : (Jvm.Cond.code ({ cls := "java/lang/String", name := "<init>", desc := "([CIILjava/lang/Void;)V" } : Jvm.MethodName) jdk_42_method_149_code (6 : Nat) (Option.none : Option Jvm.ClassFile.FieldType)).before args0 about1 = true := code_word (m := ⟨7, 3⟩) (meth := k7m3) (c := k7c3) (by decide +kernel) rfl rfl rfl (by decide +kernel)
set_option maxRecDepth 65536 in
theorem w_c3 : (Jvm.Cond.code ({ cls := "java/lang/Object", name := "<init>", desc := "()V" } : Jvm.MethodName) object_method_1_code (1 : Nat) (Option.none : Option Jvm.ClassFile.FieldType)).before args0 about1 = true := code_word (m := ⟨0, 0⟩) (meth := k0m0) (c := k0c0) (by decide +kernel) rfl rfl rfl (by decide +kernel)
set_option maxRecDepth 65536 in
theorem w_c4 : (Jvm.Cond.code ({ cls := "java/lang/StringUTF16", name := "compress", desc := "([CII)[B" } : Jvm.MethodName) jdk_52_method_16_code (6 : Nat) (Option.some (Jvm.ClassFile.FieldType.array Jvm.ClassFile.FieldType.byte))).before args0 about1 = true := code_word (m := ⟨8, 2⟩) (meth := k8m2) (c := k8c2) (by decide +kernel) rfl rfl rfl (by decide +kernel)
set_option maxRecDepth 65536 in
theorem w_c5 : (Jvm.Cond.code ({ cls := "java/lang/StringUTF16", name := "compress", desc := "([CI[BII)I" } : Jvm.MethodName) jdk_52_method_21_code (7 : Nat) (Option.some Jvm.ClassFile.FieldType.int)).before args0 about1 = true := code_word (m := ⟨8, 3⟩) (meth := k8m3) (c := k8c3) (by decide +kernel) rfl rfl rfl (by decide +kernel)
set_option maxRecDepth 65536 in
theorem w_c6 : (Jvm.Cond.code ({ cls := "java/lang/StringUTF16", name := "coderFromArrayLen", desc := "([BI)B" } : Jvm.MethodName) jdk_52_method_15_code (2 : Nat) (Option.some Jvm.ClassFile.FieldType.byte)).before args0 about1 = true := code_word (m := ⟨8, 1⟩) (meth := k8m1) (c := k8c1) (by decide +kernel) rfl rfl rfl (by decide +kernel)
set_option maxRecDepth 65536 in
theorem w_c7 : (Jvm.Cond.code ({ cls := "com/example/tasks_to_members/taskstomembers/core/TaskAssignor", name := "named", desc := "(Ljava/lang/String;)Lcom/example/tasks_to_members/taskstomembers/core/TaskAssignor;" } : Jvm.MethodName) prog_7_method_5_code (5 : Nat) (Option.some (Jvm.ClassFile.FieldType.object "com/example/tasks_to_members/taskstomembers/core/TaskAssignor"))).before args0 about1 = true := code_word (m := ⟨10, 2⟩) (meth := k10m2) (c := k10c2) (by decide +kernel) rfl rfl rfl (by decide +kernel)
set_option maxRecDepth 65536 in
theorem w_c8 : (Jvm.Cond.code ({ cls := "com/example/tasks_to_members/taskstomembers/core/TaskAssignor", name := "values", desc := "()[Lcom/example/tasks_to_members/taskstomembers/core/TaskAssignor;" } : Jvm.MethodName) prog_7_method_1_code (0 : Nat) (Option.some (Jvm.ClassFile.FieldType.array (Jvm.ClassFile.FieldType.object "com/example/tasks_to_members/taskstomembers/core/TaskAssignor")))).before args0 about1 = true := code_word (m := ⟨10, 0⟩) (meth := k10m0) (c := k10c0) (by decide +kernel) rfl rfl rfl (by decide +kernel)
set_option maxRecDepth 65536 in
theorem w_c9 : (Jvm.Cond.code ({ cls := "java/lang/String", name := "equals", desc := "(Ljava/lang/Object;)Z" } : Jvm.MethodName) jdk_42_method_66_code (3 : Nat) (Option.some Jvm.ClassFile.FieldType.boolean)).before args0 about1 = true := code_word (m := ⟨7, 2⟩) (meth := k7m2) (c := k7c2) (by decide +kernel) rfl rfl rfl (by decide +kernel)
set_option maxRecDepth 65536 in
theorem w_c10 : (Jvm.Cond.code ({ cls := "java/lang/StringLatin1", name := "equals", desc := "([B[B)Z" } : Jvm.MethodName) jdk_43_method_13_code (3 : Nat) (Option.some Jvm.ClassFile.FieldType.boolean)).before args0 about1 = true := code_word (m := ⟨12, 1⟩) (meth := k12m1) (c := k12c1) (by decide +kernel) rfl rfl rfl (by decide +kernel)
set_option maxRecDepth 65536 in
theorem w_c11 : (Jvm.Cond.code ({ cls := "com/example/tasks_to_members/taskstomembers/core/TaskAssignorNamedPinLaw", name := "expected", desc := "(Ljava/lang/String;)Lcom/example/tasks_to_members/taskstomembers/core/TaskAssignor;" } : Jvm.MethodName) method_3_code (1 : Nat) (Option.some (Jvm.ClassFile.FieldType.object "com/example/tasks_to_members/taskstomembers/core/TaskAssignor"))).before args0 about1 = true := code_word (m := ⟨1, 2⟩) (meth := k1m2) (c := k1c2) (by decide +kernel) rfl rfl rfl (by decide +kernel)
set_option maxRecDepth 65536 in
theorem w_c12 : (Jvm.Cond.code ({ cls := "com/example/tasks_to_members/taskstomembers/core/TaskAssignor", name := "configName", desc := "()Ljava/lang/String;" } : Jvm.MethodName) prog_7_method_4_code (1 : Nat) (Option.some (Jvm.ClassFile.FieldType.object "java/lang/String"))).before args0 about1 = true := code_word (m := ⟨10, 1⟩) (meth := k10m1) (c := k10c1) (by decide +kernel) rfl rfl rfl (by decide +kernel)
set_option maxRecDepth 65536 in
theorem w_c13 : (Jvm.Cond.code ({ cls := "com/example/tasks_to_members/taskstomembers/core/TaskAssignorNamedPinLaw", name := "drawnShort", desc := "(J)Ljava/lang/String;" } : Jvm.MethodName) method_5_code (6 : Nat) (Option.some (Jvm.ClassFile.FieldType.object "java/lang/String"))).before args0 about1 = true := code_word (m := ⟨1, 4⟩) (meth := k1m4) (c := k1c4) (by decide +kernel) rfl rfl rfl (by decide +kernel)
set_option maxRecDepth 65536 in
theorem w_c14 : (Jvm.Cond.code ({ cls := "com/example/tasks_to_members/taskstomembers/core/TaskAssignorNamedPinLaw", name := "drawn6", desc := "(J)Ljava/lang/String;" } : Jvm.MethodName) method_4_code (3 : Nat) (Option.some (Jvm.ClassFile.FieldType.object "java/lang/String"))).before args0 about1 = true := code_word (m := ⟨1, 3⟩) (meth := k1m3) (c := k1c3) (by decide +kernel) rfl rfl rfl (by decide +kernel)
def codes1 : List Jvm.Cond := [Jvm.Cond.code x code maxLocals ret, Jvm.Cond.code ({ cls := "java/lang/String", name := "<init>", desc := "([C)V" } : Jvm.MethodName) jdk_42_method_3_code (2 : Nat) (Option.none : Option Jvm.ClassFile.FieldType), Jvm.Cond.code ({ cls := "java/lang/String", name := "<init>", desc := "([CIILjava/lang/Void;)V" } : Jvm.MethodName) jdk_42_method_149_code (6 : Nat) (Option.none : Option Jvm.ClassFile.FieldType), Jvm.Cond.code ({ cls := "java/lang/Object", name := "<init>", desc := "()V" } : Jvm.MethodName) object_method_1_code (1 : Nat) (Option.none : Option Jvm.ClassFile.FieldType), Jvm.Cond.code ({ cls := "java/lang/StringUTF16", name := "compress", desc := "([CII)[B" } : Jvm.MethodName) jdk_52_method_16_code (6 : Nat) (Option.some (Jvm.ClassFile.FieldType.array Jvm.ClassFile.FieldType.byte)), Jvm.Cond.code ({ cls := "java/lang/StringUTF16", name := "compress", desc := "([CI[BII)I" } : Jvm.MethodName) jdk_52_method_21_code (7 : Nat) (Option.some Jvm.ClassFile.FieldType.int), Jvm.Cond.code ({ cls := "java/lang/StringUTF16", name := "coderFromArrayLen", desc := "([BI)B" } : Jvm.MethodName) jdk_52_method_15_code (2 : Nat) (Option.some Jvm.ClassFile.FieldType.byte), Jvm.Cond.code ({ cls := "com/example/tasks_to_members/taskstomembers/core/TaskAssignor", name := "named", desc := "(Ljava/lang/String;)Lcom/example/tasks_to_members/taskstomembers/core/TaskAssignor;" } : Jvm.MethodName) prog_7_method_5_code (5 : Nat) (Option.some (Jvm.ClassFile.FieldType.object "com/example/tasks_to_members/taskstomembers/core/TaskAssignor")), Jvm.Cond.code ({ cls := "com/example/tasks_to_members/taskstomembers/core/TaskAssignor", name := "values", desc := "()[Lcom/example/tasks_to_members/taskstomembers/core/TaskAssignor;" } : Jvm.MethodName) prog_7_method_1_code (0 : Nat) (Option.some (Jvm.ClassFile.FieldType.array (Jvm.ClassFile.FieldType.object "com/example/tasks_to_members/taskstomembers/core/TaskAssignor"))), Jvm.Cond.code ({ cls := "java/lang/String", name := "equals", desc := "(Ljava/lang/Object;)Z" } : Jvm.MethodName) jdk_42_method_66_code (3 : Nat) (Option.some Jvm.ClassFile.FieldType.boolean), Jvm.Cond.code ({ cls := "java/lang/StringLatin1", name := "equals", desc := "([B[B)Z" } : Jvm.MethodName) jdk_43_method_13_code (3 : Nat) (Option.some Jvm.ClassFile.FieldType.boolean), Jvm.Cond.code ({ cls := "com/example/tasks_to_members/taskstomembers/core/TaskAssignorNamedPinLaw", name := "expected", desc := "(Ljava/lang/String;)Lcom/example/tasks_to_members/taskstomembers/core/TaskAssignor;" } : Jvm.MethodName) method_3_code (1 : Nat) (Option.some (Jvm.ClassFile.FieldType.object "com/example/tasks_to_members/taskstomembers/core/TaskAssignor")), Jvm.Cond.code ({ cls := "com/example/tasks_to_members/taskstomembers/core/TaskAssignor", name := "configName", desc := "()Ljava/lang/String;" } : Jvm.MethodName) prog_7_method_4_code (1 : Nat) (Option.some (Jvm.ClassFile.FieldType.object "java/lang/String")), Jvm.Cond.code ({ cls := "com/example/tasks_to_members/taskstomembers/core/TaskAssignorNamedPinLaw", name := "drawnShort", desc := "(J)Ljava/lang/String;" } : Jvm.MethodName) method_5_code (6 : Nat) (Option.some (Jvm.ClassFile.FieldType.object "java/lang/String")), Jvm.Cond.code ({ cls := "com/example/tasks_to_members/taskstomembers/core/TaskAssignorNamedPinLaw", name := "drawn6", desc := "(J)Ljava/lang/String;" } : Jvm.MethodName) method_4_code (3 : Nat) (Option.some (Jvm.ClassFile.FieldType.object "java/lang/String"))]
set_option maxRecDepth 65536 in
theorem codes_eq : words1.filter isCode = codes1 := rfl
theorem w_codes : ∀ c ∈ words1.filter isCode, c.before args0 about1 = true := by
  rw [codes_eq]
  intro c hc
  simp only [codes1, List.mem_cons, List.not_mem_nil, or_false] at hc
  rcases hc with rfl | rfl | rfl | rfl | rfl | rfl | rfl | rfl | rfl | rfl | rfl | rfl | rfl | rfl | rfl
  · exact w_c0
  · exact w_c1
  · exact w_c2
  · exact w_c3
  · exact w_c4
  · exact w_c5
  · exact w_c6
  · exact w_c7
  · exact w_c8
  · exact w_c9
  · exact w_c10
  · exact w_c11
  · exact w_c12
  · exact w_c13
  · exact w_c14
set_option maxRecDepth 65536 in
theorem w_t1 : (words1.take 24).all (fun c => isCode c || c.before args0 about1) = true := by decide +kernel
set_option maxRecDepth 65536 in
theorem w_t2 : ((words1.drop 24).take 24).all (fun c => isCode c || c.before args0 about1) = true := by decide +kernel
set_option maxRecDepth 65536 in
theorem w_t3 : (((words1.drop 24).drop 24).take 24).all (fun c => isCode c || c.before args0 about1) = true := by decide +kernel
set_option maxRecDepth 65536 in
theorem w_t4 : (((words1.drop 24).drop 24).drop 24).all (fun c => isCode c || c.before args0 about1) = true := by decide +kernel
theorem w_tables : (allAtoms (Jvm.Cond.code x code maxLocals ret :: tables_1)).before args0 about1 = true := by
  rw [allAtoms_all]
  show words1.all (fun c => c.before args0 about1) = true
  refine all_split ?_ w_codes
  rw [← List.take_append_drop 24 words1, List.all_append, w_t1, ← List.take_append_drop 24 (words1.drop 24), List.all_append, w_t2, ← List.take_append_drop 24 ((words1.drop 24).drop 24), List.all_append, w_t3, w_t4]
  rfl
set_option maxRecDepth 65536 in
theorem w_rest : rest_1_c.before args0 about1 = true := by decide +kernel
set_option maxRecDepth 65536 in
theorem w_case : (Jvm.Cond.and given_1 narrow_1).before args0 about1 = true := by decide +kernel
set_option maxRecDepth 65536 in
theorem w_consts : constsHeld consts_1 about1 := Jvm.Lit.constsHeldB_iff.mp (by decide +kernel)
theorem w_applies : (headSpec (Jvm.Cond.code x code maxLocals ret :: tables_1) room_1).applies x e0.platform about1 = true :=
  (Spec.applies_iff w_frames).mpr ⟨w_running, w_runnable, w_alone, w_named, w_hears, w_ripe, w_room, w_tables⟩
theorem atStart : AtStart classFile x code maxLocals ret World_1 tables_1 room_1 Calls_1 rest_1 Pre_1 launch0 p0 e0 about1 theMethod args0 below0 :=
  ⟨lists_1, trivial, launch0.admits_env _ _ _, launch0.least_env, fairChoices_fair.cas, fairChoices_fair.clock, w_frames, w_args, w_heap, w_applies, ⟨w_consts, trivial⟩, w_rest, w_case⟩
end start1
theorem witness_1 : WitnessClaimed_1 := ⟨start1.p0, start1.e0, start1.about1, start1.theMethod, start1.args0, start1.below0, start1.atStart⟩
end Jvm.Pilot.@@N@@
