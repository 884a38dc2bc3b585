import JvmDerived
import JvmDerived.Pilot.@@N@@Statement
import JvmDerived.Pilot.@@N@@Code
set_option linter.unusedVariables false
set_option linter.unusedSimpArgs false
namespace Jvm.OwnKit
open Sem ClassFile Op Lib Bundle Jvm.Stand Jvm.Free Jvm.LawKit Jvm.RoadKit
section Kit
variable {p : Program} {l : Launch} {e : Env} {R : Room} {s : State} {m : MethodId} {args : Array Value} {below : List Frame} {meth : Method} {c : Code} {Z : State} {a0 : Array Value} {EL : List (String × Nat)} {own : String} {Q : Option Value → Vm → Heap → Prop} {vm : Vm} {h : Heap} {cells slots : Nat} {g : JFrame}
/-- the k-th word -/
theorem ow {L : List Jvm.Cond} (hw : ∀ d ∈ L, d.before a0 Z = true) (k : Nat) {d : Jvm.Cond} (q : L[k]? = some d) : d.before a0 Z = true := hw _ (List.mem_of_getElem? q)
/-- a standing place of a walk that may have interned: tables vm, heap h, usage -/
def St (p : Program) (l : Launch) (e : Env) (R : Room) (s : State) (m : MethodId) (args : Array Value) (below : List Frame) (meth : Method) (c : Code) (Z : State) (a0 : Array Value) (EL : List (String × Nat)) (own : String) (vm : Vm) (T : State) (h : Heap) (cells slots : Nat) : Prop :=
  ∃ (locs : List Loc) (k0 : Nat), Stand p l e R (s.setVm vm) m args below meth c T locs cells slots ∧ T.heap = h ∧ Z.Warmed39 vm ∧ vm.findClass own = some m.cls ∧ s.Since vm k0 ∧ k0 ≤ h.size ∧ Fr Z.heap.size locs ∧ CHr Z EL s.vm s.heap vm h ∧ Ext Z.heap s.heap ∧ EW Z a0 EL ∧ p.tables.exec = Jvm.exec ∧ meth.locks = false
/-- from every such place with this frame the method ends as Q says -/
def Go (p : Program) (l : Launch) (e : Env) (R : Room) (s : State) (m : MethodId) (args : Array Value) (below : List Frame) (meth : Method) (c : Code) (Z : State) (a0 : Array Value) (EL : List (String × Nat)) (own : String) (Q : Option Value → Vm → Heap → Prop) (vm : Vm) (h : Heap) (cells slots : Nat) (g : JFrame) : Prop :=
  ∀ T, St p l e R s m args below meth c Z a0 EL own vm T h cells slots → ∃ s₂ o, Steps p.tables e below (T.setTop g) s₂ ∧ s₂.status = .running ∧ Ended s₂ below o ∧
    ∃ v L, o = .returned v ∧ (Fr Z.heap.size L ∧ Q v s₂.vm s₂.heap) ∧ CHr Z EL s.vm s.heap s₂.vm s₂.heap ∧ ReturnedEndW s o s₂ L R.cells R.slots
/-- a plain step -/
theorem gs (g' : JFrame) (st : ∀ T target, At T m c below → Steps p.tables e below (T.setTop g') target → Steps p.tables e below (T.setTop g) target)
    (k : Go p l e R s m args below meth c Z a0 EL own Q vm h cells slots g') : Go p l e R s m args below meth c Z a0 EL own Q vm h cells slots g := fun T X => by
  obtain ⟨s2, o, q1, q2⟩ := k T X
  obtain ⟨locs, k0, X', -⟩ := X
  exact ⟨s2, o, st _ _ X'.here q1, q2⟩
theorem gat (g' : JFrame) (q : g = g') (k : Go p l e R s m args below meth c Z a0 EL own Q vm h cells slots g') : Go p l e R s m args below meth c Z a0 EL own Q vm h cells slots g := q ▸ k
/-- a step that asks the standing place -/
theorem gx (g' : JFrame) (st : ∀ T locs, Stand p l e R (s.setVm vm) m args below meth c T locs cells slots → Z.Warmed39 vm → vm.findClass own = some m.cls → T.heap = h → ∀ target, Steps p.tables e below (T.setTop g') target → Steps p.tables e below (T.setTop g) target)
    (k : Go p l e R s m args below meth c Z a0 EL own Q vm h cells slots g') : Go p l e R s m args below meth c Z a0 EL own Q vm h cells slots g := fun T X => by
  obtain ⟨s2, o, q1, q2⟩ := k T X
  obtain ⟨locs, k0, X', eT, hZ, hown, -⟩ := X
  exact ⟨s2, o, st _ _ X' hZ hown eT _ q1, q2⟩
/-- a step to another state, the heap as it was -/
theorem gy (g' : JFrame) (st : ∀ T locs, Stand p l e R (s.setVm vm) m args below meth c T locs cells slots → Z.Warmed39 vm → vm.findClass own = some m.cls → T.heap = h → ∃ T', Stand p l e R (s.setVm vm) m args below meth c T' locs cells slots ∧ T'.heap = h ∧ ∀ target, Steps p.tables e below (T'.setTop g') target → Steps p.tables e below (T.setTop g) target)
    (k : Go p l e R s m args below meth c Z a0 EL own Q vm h cells slots g') : Go p l e R s m args below meth c Z a0 EL own Q vm h cells slots g := fun T X => by
  obtain ⟨locs, k0, X', eT, hZ, hown, r⟩ := X
  obtain ⟨T', X1, e1, s1⟩ := st T locs X' hZ hown eT
  obtain ⟨s2, o, q1, q2⟩ := k T' ⟨locs, k0, X1, e1, hZ, hown, r⟩
  exact ⟨s2, o, s1 _ q1, q2⟩
/-- what the standing place knows -/
theorem ginfo (k : Z.Warmed39 vm → CHv Z EL vm h → Ext Z.heap h → Go p l e R s m args below meth c Z a0 EL own Q vm h cells slots g) : Go p l e R s m args below meth c Z a0 EL own Q vm h cells slots g := fun T X => by
  have X0 := X
  obtain ⟨locs, k0, X', eT, hZ, hown, hS, hk, N, H, E0, r⟩ := X
  refine k hZ H.1 ⟨?_, ?_⟩ T X0
  · exact Nat.le_trans E0.1 H.2.1
  · intro b cl hcl
    have hb := (Array.getElem?_eq_some_iff.mp hcl).1
    obtain ⟨c', h1, h2, -, h4⟩ := X'.same.2.2.2.2.2 b cl (show s.heap[b]? = some cl from E0.2 b cl hcl)
    have hsl : c'.slots = cl.slots := Array.ext_getElem? fun i => h4 i fun hm => absurd (N _ hm) (Nat.not_le.mpr hb)
    have hcc : c' = cl := by rw [h2, hsl]
    have h1' : T.heap[b]? = some c' := h1
    rw [← eT, ← hcc]; exact h1'
theorem gmono {cells' slots' : Nat} (hc : cells ≤ cells') (hs : slots ≤ slots') (k : Go p l e R s m args below meth c Z a0 EL own Q vm h cells' slots' g) : Go p l e R s m args below meth c Z a0 EL own Q vm h cells slots g := fun T X => by
  obtain ⟨locs, k0, X', r⟩ := X
  exact k T ⟨locs, k0, { X' with same := X'.same.mono hc hs }, r⟩
/-- the heap grows at its end -/
theorem gnew {cells' slots' : Nat} {P : Heap → Prop} (g' : Heap → JFrame)
    (st : ∀ T locs, Stand p l e R (s.setVm vm) m args below meth c T locs cells slots → Z.Warmed39 vm → vm.findClass own = some m.cls → T.heap = h → ∃ T' h', Stand p l e R (s.setVm vm) m args below meth c T' locs cells' slots' ∧ T'.heap = h' ∧ Ext h h' ∧ P h' ∧ ∀ target, Steps p.tables e below (T'.setTop (g' h')) target → Steps p.tables e below (T.setTop g) target)
    (k : ∀ h', Ext h h' → CHr Z EL vm h vm h' → P h' → Z.heap.size ≤ h.size → Safe Z EL vm h' h.size → Go p l e R s m args below meth c Z a0 EL own Q vm h' cells' slots' (g' h')) : Go p l e R s m args below meth c Z a0 EL own Q vm h cells slots g := fun T X => by
  obtain ⟨locs, k0, X', eT, hZ, hown, hS, hk, N, H, E0, r⟩ := X
  obtain ⟨T', h', X1, e1, E, hP, s1⟩ := st T locs X' hZ hown eT
  obtain ⟨s2, o, q1, q2⟩ := k h' E (CHr.ext E H.1) hP (Nat.le_trans E0.1 H.2.1) (Safe.ext E H.1 (Safe.new (Nat.le_refl _))) T' ⟨locs, k0, X1, e1, hZ, hown, hS, Nat.le_trans hk E.1, N, H.trans (CHr.ext E H.1), E0, r⟩
  exact ⟨s2, o, s1 _ q1, q2⟩
/-- one place is written -/
theorem gwr (g' : JFrame) {a : Addr} {sl : Nat} {v : Value} (ha : Z.heap.size ≤ a) (hs : Z.vm.Alike vm → Safe Z EL vm h a)
    (st : ∀ T locs, Stand p l e R (s.setVm vm) m args below meth c T locs cells slots → Z.Warmed39 vm → vm.findClass own = some m.cls → T.heap = h → ∃ T' h', Stand p l e R (s.setVm vm) m args below meth c T' (locs ++ [⟨a, sl⟩]) cells slots ∧ T'.heap = h' ∧ Wr h h' a sl v ∧ ∀ target, Steps p.tables e below (T'.setTop g') target → Steps p.tables e below (T.setTop g) target)
    (k : ∀ h', Wr h h' a sl v → CHr Z EL vm h vm h' → Go p l e R s m args below meth c Z a0 EL own Q vm h' cells slots g') : Go p l e R s m args below meth c Z a0 EL own Q vm h cells slots g := fun T X => by
  obtain ⟨locs, k0, X', eT, hZ, hown, hS, hk, N, H, E0, r⟩ := X
  obtain ⟨T', h', X1, e1, W, s1⟩ := st T locs X' hZ hown eT
  obtain ⟨s2, o, q1, q2⟩ := k h' W (CHr.wr W (hs hZ.alike) H.1) T' ⟨_, k0, X1, e1, hZ, hown, hS, by rw [W.size]; exact hk, Fr.snoc X1 N ha, H.trans (CHr.wr W (hs hZ.alike) H.1), E0, r⟩
  exact ⟨s2, o, s1 _ q1, q2⟩
/-- the end -/
theorem gret {v : Option Value} (hv : meth.sig.returnType = none → v = none) (hc : cells ≤ R.cells) (hs : slots ≤ R.slots)
    (st : ∀ T locs fs, Stand p l e R (s.setVm vm) m args below meth c T locs cells slots → (∀ (f : JFrame) (acts : List Action), f.method = m → f.locked = none → f.entered = [] → (doReturn e (T.setTop f) acts v).1 = T.setFrames fs) → Steps p.tables e below (T.setTop g) (T.setFrames fs))
    (hq : ∀ vm', CHr Z EL vm h vm' h → Q v vm' h) : Go p l e R s m args below meth c Z a0 EL own Q vm h cells slots g := fun T X => by
  obtain ⟨locs, k0, X', eT, hZ, hown, hS, hk, N, H, E0, hw, hx, hlk⟩ := X
  obtain ⟨fs, hr, hrun, hend, hW⟩ := X'.leaveW hS (by rw [eT]; exact hk) hv hlk
  have C1 : CHr Z EL vm h T.vm h := CHv.at X' hZ hw H.1
  refine ⟨_, _, st T locs fs X' hr, hrun, hend, v, locs, rfl, ⟨N, ?_⟩, ?_, ?_⟩
  · show Q v T.vm T.heap
    rw [eT]; exact hq _ C1
  · show CHr Z EL s.vm s.heap T.vm T.heap
    rw [eT]; exact H.trans C1
  · exact ⟨hW.1, hW.2.1, hW.2.2.1, hW.2.2.2.mono hc hs⟩
theorem gretI {pc : Nat} {Ls : Array Slot} {z : Int32} {rest : List Value} (hx : p.tables.exec = Jvm.exec) (hret : meth.sig.returnType = some .int) (hd : decode c.code pc = .ok (.ireturn, 1)) (hc : cells ≤ R.cells) (hs : slots ≤ R.slots)
    (hq : ∀ vm', CHr Z EL vm h vm' h → Q (some (.int z)) vm' h) : Go p l e R s m args below meth c Z a0 EL own Q vm h cells slots (mkF m pc Ls (.int z :: rest)) :=
  gret (v := some (.int z)) (fun q => by rw [hret] at q; cases q) hc hs (fun T locs fs X hr => retOut X hx hret rfl (Or.inl ⟨rfl, Or.inl rfl, z, rfl⟩) hd hr) hq
theorem gretN {t : FieldType} {pc : Nat} {Ls : Array Slot} {z : Int32} {rest : List Value} (hx : p.tables.exec = Jvm.exec) (hret : meth.sig.returnType = some t) (ht : t = .boolean ∨ t = .byte ∨ t = .char ∨ t = .short) (hd : decode c.code pc = .ok (.ireturn, 1)) (hc : cells ≤ R.cells) (hs : slots ≤ R.slots)
    (hq : ∀ vm', CHr Z EL vm h vm' h → Q (some (.int (nar t z))) vm' h) : Go p l e R s m args below meth c Z a0 EL own Q vm h cells slots (mkF m pc Ls (.int z :: rest)) :=
  gret (v := some (.int (nar t z))) (fun q => by rw [hret] at q; cases q) hc hs (fun T locs fs X hr => retN X hx hret ht hd hr) hq
theorem gretJ {pc : Nat} {Ls : Array Slot} {z : Int64} {rest : List Value} (hx : p.tables.exec = Jvm.exec) (hret : meth.sig.returnType = some .long) (hd : decode c.code pc = .ok (.lreturn, 1)) (hc : cells ≤ R.cells) (hs : slots ≤ R.slots)
    (hq : ∀ vm', CHr Z EL vm h vm' h → Q (some (.long z)) vm' h) : Go p l e R s m args below meth c Z a0 EL own Q vm h cells slots (mkF m pc Ls (.long z :: rest)) :=
  gret (v := some (.long z)) (fun q => by rw [hret] at q; cases q) hc hs (fun T locs fs X hr => retOut X hx hret rfl (Or.inr (Or.inl ⟨rfl, rfl, z, rfl⟩)) hd hr) hq
theorem gretA {t : FieldType} {pc : Nat} {Ls : Array Slot} {v : Value} {rest : List Value} (hx : p.tables.exec = Jvm.exec) (hret : meth.sig.returnType = some t) (ht : t.isReference = true) (hv : v.isRef = true) (hd : decode c.code pc = .ok (.areturn, 1)) (hc : cells ≤ R.cells) (hs : slots ≤ R.slots)
    (hq : ∀ vm', CHr Z EL vm h vm' h → Q (some v) vm' h) : Go p l e R s m args below meth c Z a0 EL own Q vm h cells slots (mkF m pc Ls (v :: rest)) :=
  gret (v := some v) (fun q => by rw [hret] at q; cases q) hc hs (fun T locs fs X hr => retOut X hx hret (by cases t <;> first | (cases ht; done) | (cases v <;> first | rfl | (cases hv; done))) (Or.inr (Or.inr (Or.inr (Or.inr ⟨rfl, ht, hv⟩)))) hd hr) hq
theorem gretV {pc : Nat} {Ls : Array Slot} (hx : p.tables.exec = Jvm.exec) (hret : meth.sig.returnType = none) (hd : decode c.code pc = .ok (.return_, 1)) (hc : cells ≤ R.cells) (hs : slots ≤ R.slots)
    (hq : ∀ vm', CHr Z EL vm h vm' h → Q none vm' h) : Go p l e R s m args below meth c Z a0 EL own Q vm h cells slots (mkF m pc Ls []) :=
  gret (v := none) (fun _ => rfl) hc hs (fun T locs fs X hr => X.returnOut hx hret hd hr) hq
/-! contracts -/
def Met (l : Launch) (y : MethodName) (bytes : ByteArray) (maxL : Nat) (ret : Option FieldType) (ws : List Jvm.Cond) (rm : Room) (Z : State) (EL : List (String × Nat)) (vm0 : Vm) (h0 : Heap) (as' : Array Value) (Q : Option Value → Vm → Heap → Prop) : Prop :=
  MetFree l y (head1 (Jvm.Cond.code y bytes maxL ret :: ws) rm) (fun a U => a = as' ∧ Z.Warmed39 U.vm ∧ U.heap = h0 ∧ CHr Z EL vm0 h0 U.vm h0) (fun _ _ _ _ _ => True)
    (fun _ U o U' => ∃ v L, o = .returned v ∧ (Fr Z.heap.size L ∧ Q v U'.vm U'.heap) ∧ CHr Z EL U.vm U.heap U'.vm U'.heap ∧ ReturnedEndW U o U' L rm.cells rm.slots)
theorem Met.of_walk {y : MethodName} {bytes : ByteArray} {maxL : Nat} {ret : Option FieldType} {ws : List Jvm.Cond} {rm : Room} {vm0 : Vm} {h0 : Heap} {as' : Array Value} (L0 : Array Slot) (hpn : plainFor y = true) (X00 : Ext Z.heap h0) (hEL : EW Z a0 EL)
    (hef : ∀ m, entryFrame m as' maxL = mkF m 0 L0 [])
    (walk : ∀ (p : Program) (e : Env) (s : State) (m : MethodId) (below : List Frame) (meth : Method) (c : Code) (vm : Vm), p.tables.exec = Jvm.exec → c.code = bytes → c.maxLocals = maxL → meth.sig.returnType = ret → meth.name = y.name → CHr Z EL vm0 h0 vm h0 →
      Go p l e rm s m as' below meth c Z a0 EL y.cls Q vm h0 0 0 (mkF m 0 L0 [])) : Met l y bytes maxL ret ws rm Z EL vm0 h0 as' Q := by
  refine MetFree.of_bodySF hpn hisR ?_
  intro p e s m args below meth c s₁ Bd hml0 hP hK
  obtain ⟨rfl, hZ, hh, hC⟩ := hP
  have X0 : Stand p l e rm s m args below meth c s₁ [] 0 0 := Stand.of_body Bd
  have e0 : s₁.heap = h0 := by rw [← hh, Bd.state]; rfl
  obtain ⟨s2, o, q1, q2⟩ := walk p e s m below meth c s.vm Bd.exec Bd.bytes hml0 Bd.returns (name_of_methodNamed Bd.named Bd.method).1 hC s₁
    ⟨[], 0, X0, e0, hZ, findClass_of_methodNamed Bd.named, (State.WarmedH.refl s).since 0, Nat.zero_le _, Fr.nil _, by rw [hh]; exact CHr.refl hC.1, by rw [hh]; exact X00, hEL, Bd.exec, Bd.notSynchronized⟩
  exact ⟨s2, o, by rw [hef]; exact q1, q2⟩
def Pay (l : Launch) (R : Room) (p : Program) (e : Env) (below : List Frame) (s : State) (args : Array Value) (Z : State) (EL : List (String × Nat)) (vm : Vm) (h : Heap) (y : MethodName) (len W : Nat) (as' : Array Value) (rc rs : Nat) (Q : Option Value → Vm → Heap → Prop) : Prop :=
  BackS l R p e below (s.setVm vm) args y len W (fun A a => a = as' ∧ A.U.heap = h ∧ A.cells + rc ≤ R.cells ∧ A.slots + rs ≤ R.slots)
    (fun A _ v B => ∃ L, (Fr Z.heap.size L ∧ Q v B.U.vm B.U.heap) ∧ B.locs = A.locs ++ L ∧ B.cells = A.cells + rc ∧ B.slots = A.slots + rs ∧ CHr Z EL vm h B.U.vm B.U.heap)
theorem Pay.of_met {y : MethodName} {bytes : ByteArray} {maxL : Nat} {ret : Option FieldType} {rm : Room} {len W : Nat} {as' : Array Value} (hM : Met l y bytes maxL ret [] rm Z EL vm h as' Q)
    (wc : (Jvm.Cond.code y bytes maxL ret).before a0 Z = true) (wz : (Jvm.Cond.initialized y.cls).before a0 Z = true) (hf : rm.frames + 1 ≤ R.frames) (hl : W + (maxL + 11) + rm.locals ≤ R.locals) (hZ : Z.Warmed39 vm) (H : CHv Z EL vm h) (hEL : EW Z a0 EL) :
    Pay l R p e below s args Z EL vm h y len W as' rm.cells rm.slots Q :=
  BackS.of_freeW (bytes := bytes) (maxL := maxL) (ret := ret) (E := fun _ first o t L k n => k = rm.cells ∧ n = rm.slots ∧ (∃ v, o = .returned v ∧ (Fr Z.heap.size L ∧ Q v t.vm t.heap)) ∧ CHr Z EL first.vm first.heap t.vm t.heap) hM hf hl
    (fun m meth c A a Y hp => have hU : Z.Warmed39 A.U.vm := wtrans (s := s.setVm vm) hZ Y.warmed
      ⟨by show (Jvm.Cond.and _ .tt).before a A.U = true; rw [Cond.before_and, mv hU wc]; rfl, mv hU wc, mv hU wz, hp.2.2.1, hp.2.2.2⟩)
    (fun m meth c A a g mk Y hp => ⟨hp.1, wtrans (s := s.setVm vm) hZ Y.warmed, hp.2.1, (show CHr Z EL vm h A.U.vm h from CHv.at Y hZ hEL H)⟩) (fun _ _ _ _ _ _ _ _ _ => trivial)
    (fun _ _ _ _ ⟨v, L, h1, h2, h3, h4⟩ => ⟨L, _, _, h4, rfl, rfl, ⟨v, h1, h2⟩, h3⟩)
    (fun m meth c A a g mk v t L k n Y hp _ _ ⟨e1, e2, ⟨v', e3, e4⟩, e5⟩ => by
      cases e3; subst e1 e2
      refine ⟨L, e4, rfl, rfl, rfl, (CHv.at Y hZ hEL H).trans ?_⟩
      rw [← hp.2.1]; exact e5)
theorem Pay.of_back {y : MethodName} {len W : Nat} {as' : Array Value} {rc rs : Nat} {Q0 : Option Value → Heap → List Loc → Prop}
    (hK : Back l R p e below (s.setVm vm) args y len W (fun A a => a = as' ∧ A.U.heap = h ∧ A.cells + rc ≤ R.cells ∧ A.slots + rs ≤ R.slots) (fun A _ v B => ∃ L, Q0 v B.U.heap L ∧ B.locs = A.locs ++ L ∧ B.cells = A.cells + rc ∧ B.slots = A.slots + rs))
    (hZ : Z.Warmed39 vm) (H : CHv Z EL vm h) (hEL : EW Z a0 EL)
    (hq : ∀ v h' L, Q0 v h' L → Fr Z.heap.size L ∧ (∃ ws, Keep h h' ws ∧ ∀ x ∈ ws, Safe Z EL vm h x) ∧ ∀ vm', CHr Z EL vm h vm' h' → Q v vm' h') : Pay l R p e below s args Z EL vm h y len W as' rc rs Q := by
  intro m meth c A g ig mk a X hg hsize hdg hW hn hp
  obtain ⟨v, B, X', ⟨L, q0, q1, q2, q3⟩, hsteps⟩ := hK m meth c A g ig mk a X hg hsize hdg hW hn hp
  obtain ⟨hF, ⟨ws, K, hs⟩, hQ⟩ := hq _ _ _ q0
  have C1 : CHr Z EL vm h vm B.U.heap := CHr.keep K hs H
  have C2 : CHr Z EL vm h B.U.vm B.U.heap := C1.trans (CHv.at X' hZ hEL C1.1)
  exact ⟨v, B, X'.retabled X'.warmed.wide, X'.warmed.since _, by rw [hp.2.1]; exact K.1, ⟨L, ⟨hF, hQ _ C2⟩, q1, q2, q3, C2⟩, hsteps⟩
theorem Pay.mono {y : MethodName} {len W rc rs : Nat} {as' : Array Value} {Q' : Option Value → Vm → Heap → Prop} (hP : Pay l R p e below s args Z EL vm h y len W as' rc rs Q) (hq : ∀ v vm' h', Q v vm' h' → Q' v vm' h') : Pay l R p e below s args Z EL vm h y len W as' rc rs Q' := by
  intro m meth c A g ig mk a X hg hsize hdg hW hn hp
  obtain ⟨v, B, X', h1, h2, ⟨L, ⟨q1, q2⟩, r⟩, st⟩ := hP m meth c A g ig mk a X hg hsize hdg hW hn hp
  exact ⟨v, B, X', h1, h2, ⟨L, ⟨q1, hq _ _ _ q2⟩, r⟩, st⟩
/-- behind any call -/
theorem gback {y : MethodName} {rc rs : Nat} {as' : Array Value} {Q' : Option Value → Vm → Heap → Prop} {rest : List Value} {pc' : Nat} {L : Array Slot}
    (st : ∀ T locs, Stand p l e R (s.setVm vm) m args below meth c T locs cells slots → Z.Warmed39 vm → vm.findClass own = some m.cls → T.heap = h → CHv Z EL vm h → EW Z a0 EL →
      ∃ (v : Option Value) (vm₁ : Vm) (B : Pt), (s.setVm vm).WarmedH vm₁ ∧ Stand p l e R ((s.setVm vm).setVm B.U.vm) m args below meth c B.U B.locs B.cells B.slots ∧ (s.setVm vm).Since B.U.vm B.U.heap.size ∧ T.heap.size ≤ B.U.heap.size ∧
        (∃ L, (Fr Z.heap.size L ∧ Q' v B.U.vm B.U.heap) ∧ B.locs = locs ++ L ∧ B.cells = cells + rc ∧ B.slots = slots + rs ∧ CHr Z EL vm h B.U.vm B.U.heap) ∧ Steps p.tables e below (T.setTop g) (B.U.setTop (mkF m pc' L (v.toList ++ rest))))
    (k : ∀ v vm' h', CHr Z EL vm h vm' h' → Q' v vm' h' → Go p l e R s m args below meth c Z a0 EL own Q vm' h' (cells + rc) (slots + rs) (mkF m pc' L (v.toList ++ rest))) : Go p l e R s m args below meth c Z a0 EL own Q vm h cells slots g := fun T X => by
  obtain ⟨locs, k0, X', eT, hZ, hown, hS, hk, N, H, E0, hEL, hx, hlk⟩ := X
  obtain ⟨v, vm1, ⟨U, Lx, cx, sx⟩, hW1, X1, hS1, hgr, ⟨L1, ⟨hF, hQ⟩, hl, hc, hs, hC⟩, s1⟩ := st T locs X' hZ hown eT H.1 hEL
  dsimp only [Pt.U, Pt.locs, Pt.cells, Pt.slots] at X1 hS1 hgr hF hQ hl hc hs hC s1
  subst hl hc hs
  obtain ⟨s2, o, q1, q2⟩ := k v U.vm U.heap hC hQ U ⟨_, U.heap.size, X1, rfl, State.Warmed39.trans (t := s.setVm vm) hZ hS1.1, (hS1.1.alike.findClass _ _).trans hown, hS.trans hS1 (Nat.le_trans hk (by rw [← eT]; exact hgr)), Nat.le_refl _, Fr.app N hF, H.trans hC, E0, hEL, hx, hlk⟩
  exact ⟨s2, o, s1.trans q1, q2⟩
end Kit
end Jvm.OwnKit
namespace Jvm.OwnKit
open Sem ClassFile Op Lib Bundle Jvm.Stand Jvm.Free Jvm.LawKit Jvm.RoadKit
section Kit2
variable {p : Program} {l : Launch} {e : Env} {R : Room} {s : State} {m : MethodId} {args : Array Value} {below : List Frame} {meth : Method} {c : Code} {Z : State} {a0 : Array Value} {EL : List (String × Nat)} {own : String} {Q : Option Value → Vm → Heap → Prop} {vm : Vm} {h : Heap} {cells slots : Nat} {g : JFrame}
/-! calls -/
theorem gcallS {index : Nat} {y : MethodName} {bytes : ByteArray} {maxL : Nat} {ret : Option FieldType} (hx : p.tables.exec = Jvm.exec) (wl : (Cond.methodLink own index y).before a0 Z = true) (wst : (Cond.static y).before a0 Z = true) (wz : (Cond.initialized y.cls).before a0 Z = true) (wc : (Cond.code y bytes maxL ret).before a0 Z = true)
    (hy : y.cls ≠ "java/lang/invoke/MethodHandle" ∧ y.cls ≠ "java/lang/invoke/VarHandle") {W rc rs : Nat} {as' : Array Value} {Q' : Option Value → Vm → Heap → Prop} (hP : Z.Warmed39 vm → CHv Z EL vm h → EW Z a0 EL → Pay l R p e below s args Z EL vm h y 3 W as' rc rs Q')
    {pc : Nat} (pc' : Nat) {L : Array Slot} {S argsL rest : List Value} (hlen : ∀ sig, parseMethodDescriptor y.desc = some sig → argsL.length = sig.parameters.length) (has : argsL.toArray = as') (hstk : S = argsL.reverse ++ rest) (hW : (rest.map fun v => v.category).sum ≤ W) (hml : L.size = c.maxLocals)
    (hd : decode c.code pc = .ok (.invokestatic index, 3)) (hp : pc + 3 = pc') (hc : cells + rc ≤ R.cells) (hs : slots + rs ≤ R.slots)
    (k : ∀ v vm' h', CHr Z EL vm h vm' h' → Q' v vm' h' → Go p l e R s m args below meth c Z a0 EL own Q vm' h' (cells + rc) (slots + rs) (mkF m pc' L (v.toList ++ rest))) : Go p l e R s m args below meth c Z a0 EL own Q vm h cells slots (mkF m pc L S) :=
  gback (y := y) (as' := as') (fun T locs X hZ hown eT H hEL => by
    subst has hp hstk
    exact callSS (s := s.setVm vm) X hx hown (mvT hZ wl) (mvT hZ wst) (mvT hZ wz) (mvT hZ wc) hy (hP hZ H hEL) (g := mkF m pc L _) rfl hml hlen rfl (by show 2 * 0 + _ ≤ _; omega) hd (fun _ _ => ⟨rfl, eT, hc, hs⟩)) k
theorem gcallI {index : Nat} {y : MethodName} {bytes : ByteArray} {maxL : Nat} (hx : p.tables.exec = Jvm.exec) (hyi : y.name = "<init>") (wl : (Cond.methodLink own index y).before a0 Z = true) (wi : (Cond.instanceMethod y).before a0 Z = true) (wc : (Cond.code y bytes maxL none).before a0 Z = true)
    (hy : y.cls ≠ "java/lang/invoke/MethodHandle" ∧ y.cls ≠ "java/lang/invoke/VarHandle") {W rc rs : Nat} {as' : Array Value} {Q' : Option Value → Vm → Heap → Prop} (hP : Z.Warmed39 vm → CHv Z EL vm h → EW Z a0 EL → Pay l R p e below s args Z EL vm h y 3 W as' rc rs Q')
    {pc : Nat} (pc' : Nat) {L : Array Slot} {S argsL rest : List Value} {a : Addr} (hlen : ∀ sig, parseMethodDescriptor y.desc = some sig → argsL.length = sig.parameters.length) (has : (.ref a :: argsL).toArray = as') (hstk : S = argsL.reverse ++ .ref a :: rest) (hW : (rest.map fun v => v.category).sum ≤ W) (hml : L.size = c.maxLocals)
    (hd : decode c.code pc = .ok (.invokespecial index, 3)) (hp : pc + 3 = pc') (hc : cells + rc ≤ R.cells) (hs : slots + rs ≤ R.slots)
    (k : ∀ v vm' h', CHr Z EL vm h vm' h' → Q' v vm' h' → Go p l e R s m args below meth c Z a0 EL own Q vm' h' (cells + rc) (slots + rs) (mkF m pc' L (v.toList ++ rest))) : Go p l e R s m args below meth c Z a0 EL own Q vm h cells slots (mkF m pc L S) :=
  gback (y := y) (as' := as') (fun T locs X hZ hown eT H hEL => by
    subst has hp hstk
    exact X.specialBackS (s := s.setVm vm) hx hyi hown (mvT hZ wl) (mvT hZ wi) (mvT hZ wc) hy (hP hZ H hEL) (g := mkF m pc L _) rfl hml (Steps.refl _) hlen rfl (by show 2 * 0 + _ ≤ _; omega) hd (fun _ _ => ⟨rfl, eT, hc, hs⟩)) k
theorem gcallV {index : Nat} {C : String} {y z : MethodName} (hx : p.tables.exec = Jvm.exec) (wl : (Cond.methodLink own index y).before a0 Z = true) (wd : (Cond.declares y).before a0 Z = true) (nf : ∀ (U : State), Z.Warmed39 U.vm → NotFace U y) (wsel : (Cond.selects C y z).before a0 Z = true) (wi : (Cond.instanceMethod z).before a0 Z = true)
    (hy : y.cls ≠ "java/lang/invoke/MethodHandle" ∧ y.cls ≠ "java/lang/invoke/VarHandle") {W rc rs : Nat} {as' : Array Value} {Q' : Option Value → Vm → Heap → Prop} (hP : Z.Warmed39 vm → CHv Z EL vm h → EW Z a0 EL → Pay l R p e below s args Z EL vm h z 3 W as' rc rs Q')
    {pc : Nat} (pc' : Nat) {L : Array Slot} {S argsL rest : List Value} {a : Addr} (E : Exa Z h a C) (hlen : ∀ sig, parseMethodDescriptor y.desc = some sig → argsL.length = sig.parameters.length) (has : (.ref a :: argsL).toArray = as') (hstk : S = argsL.reverse ++ .ref a :: rest) (hW : (rest.map fun v => v.category).sum ≤ W) (hml : L.size = c.maxLocals)
    (hd : decode c.code pc = .ok (.invokevirtual index, 3)) (hp : pc + 3 = pc') (hc : cells + rc ≤ R.cells) (hs : slots + rs ≤ R.slots)
    (k : ∀ v vm' h', CHr Z EL vm h vm' h' → Q' v vm' h' → Go p l e R s m args below meth c Z a0 EL own Q vm' h' (cells + rc) (slots + rs) (mkF m pc' L (v.toList ++ rest))) : Go p l e R s m args below meth c Z a0 EL own Q vm h cells slots (mkF m pc L S) :=
  gback (y := z) (as' := as') (fun T locs X hZ hown eT H hEL => by
    subst has hp hstk
    obtain ⟨cB, kB, h1, h2, h3⟩ := isOf (s := s.setVm vm) hZ eT E
    exact X.virtualBackS (s := s.setVm vm) hx hown (mvT hZ wl) (mvT hZ wd) (nf _ hZ) (mvT hZ wsel) (mvT hZ wi) hy (hP hZ H hEL) h1 h3 (g := mkF m pc L _) rfl hml (Steps.refl _) hlen rfl (by show 2 * 0 + _ ≤ _; omega) hd (fun _ _ => ⟨rfl, eT, hc, hs⟩)) k
theorem nfSel {C : String} {y : MethodName} (w : (Cond.selects C y y).before a0 Z = true) : ∀ (U : State), Z.Warmed39 U.vm → NotFace U y := fun U hU => notFace_of_selects (args := #[]) (mvT hU w)
theorem nfSup {S : String} {y : MethodName} (w : (Cond.superclass y.cls S).before a0 Z = true) : ∀ (U : State), Z.Warmed39 U.vm → NotFace U y := fun U hU => nf_super (args := #[]) (mvT hU w)
theorem nfTop {y : MethodName} (w : (Cond.noSuperclass y.cls).before a0 Z = true) : ∀ (U : State), Z.Warmed39 U.vm → NotFace U y := fun U hU => nf_top (args := #[]) (mvT hU w)
theorem gcallF {index count : Nat} {C : String} {xi y : MethodName} (hx : p.tables.exec = Jvm.exec) (wl : (Cond.methodLink own index xi).before a0 Z = true) (wd : (Cond.declares xi).before a0 Z = true) (wf : ∀ (U : State) (aa : Array Value), Z.Warmed39 U.vm → (Cond.interfaceMethod xi.cls xi.cls xi.name xi.desc).before aa U = true) (wsel : (Cond.selects C xi y).before a0 Z = true) (wi : (Cond.instanceMethod y).before a0 Z = true)
    (wp : (Cond.publicMethod y).before a0 Z = true) (wu : (Cond.unhidden C xi.name xi.desc).before a0 Z = true) (wca : (Cond.castable C xi.cls).before a0 Z = true)
    (hy : xi.cls ≠ "java/lang/invoke/MethodHandle" ∧ xi.cls ≠ "java/lang/invoke/VarHandle") {W rc rs : Nat} {as' : Array Value} {Q' : Option Value → Vm → Heap → Prop} (hP : Z.Warmed39 vm → CHv Z EL vm h → EW Z a0 EL → Pay l R p e below s args Z EL vm h y 5 W as' rc rs Q')
    {pc : Nat} (pc' : Nat) {L : Array Slot} {S argsL rest : List Value} {a : Addr} (E : Exa Z h a C) (hlen : ∀ sig, parseMethodDescriptor xi.desc = some sig → argsL.length = sig.parameters.length) (has : (.ref a :: argsL).toArray = as') (hstk : S = argsL.reverse ++ .ref a :: rest) (hW : (rest.map fun v => v.category).sum ≤ W) (hml : L.size = c.maxLocals)
    (hd : decode c.code pc = .ok (.invokeinterface index count, 5)) (hp : pc + 5 = pc') (hc : cells + rc ≤ R.cells) (hs : slots + rs ≤ R.slots)
    (k : ∀ v vm' h', CHr Z EL vm h vm' h' → Q' v vm' h' → Go p l e R s m args below meth c Z a0 EL own Q vm' h' (cells + rc) (slots + rs) (mkF m pc' L (v.toList ++ rest))) : Go p l e R s m args below meth c Z a0 EL own Q vm h cells slots (mkF m pc L S) :=
  gback (y := y) (as' := as') (fun T locs X hZ hown eT H hEL => by
    subst has hp hstk
    obtain ⟨cB, kB, h1, h2, h3⟩ := isOf (s := s.setVm vm) hZ eT E
    exact X.interfaceBackS (s := s.setVm vm) hx hown (mvT hZ wl) (mvT hZ wd) (wf _ _ hZ) (mvT hZ wsel) (mvT hZ wi) (mvT hZ wp) (mvT hZ wu) (mvT hZ wca) hy (hP hZ H hEL) h1 h2 h3 (g := mkF m pc L _) rfl hml (Steps.refl _) hlen rfl (by show 2 * 0 + _ ≤ _; omega) hd (fun _ _ => ⟨rfl, eT, hc, hs⟩)) k
theorem gcallU {index : Nat} {K : String} {y : MethodName} {bytes : ByteArray} {maxL : Nat} {ret : Option FieldType} (hx : p.tables.exec = Jvm.exec) (wl : (Cond.methodLink own index y).before a0 Z = true) (wsm : (Cond.sameMethod y.cls y.cls y.name y.desc).before a0 Z = true) (wi : (Cond.instanceMethod y).before a0 Z = true) (wsu : (Cond.superclass own y.cls).before a0 Z = true) (hn : y.name ≠ "<init>") (wc : (Cond.code y bytes maxL ret).before a0 Z = true)
    {W rc rs : Nat} {as' : Array Value} {Q' : Option Value → Vm → Heap → Prop} (hP : Z.Warmed39 vm → CHv Z EL vm h → EW Z a0 EL → Pay l R p e below s args Z EL vm h y 3 W as' rc rs Q')
    {pc : Nat} (pc' : Nat) {L : Array Slot} {S argsL rest : List Value} {a : Addr} (I : Ins Z h a K true) (hlen : ∀ sig, parseMethodDescriptor y.desc = some sig → argsL.length = sig.parameters.length) (has : (.ref a :: argsL).toArray = as') (hstk : S = argsL.reverse ++ .ref a :: rest) (hW : (rest.map fun v => v.category).sum ≤ W) (hml : L.size = c.maxLocals)
    (hd : decode c.code pc = .ok (.invokespecial index, 3)) (hp : pc + 3 = pc') (hc : cells + rc ≤ R.cells) (hs : slots + rs ≤ R.slots)
    (k : ∀ v vm' h', CHr Z EL vm h vm' h' → Q' v vm' h' → Go p l e R s m args below meth c Z a0 EL own Q vm' h' (cells + rc) (slots + rs) (mkF m pc' L (v.toList ++ rest))) : Go p l e R s m args below meth c Z a0 EL own Q vm h cells slots (mkF m pc L S) :=
  gback (y := y) (as' := as') (fun T locs X hZ hown eT H hEL => by
    subst has hp hstk
    exact superBackS (s := s.setVm vm) X hx hZ hown wl wsm wi wsu hn (hP hZ H hEL) eT I (g := mkF m pc L _) rfl hml wc hlen rfl (by show 2 * 0 + _ ≤ _; omega) hd (fun _ _ => ⟨rfl, eT, hc, hs⟩)) k
theorem gcallP {index : Nat} {y : MethodName} {bytes : ByteArray} {maxL : Nat} {ret : Option FieldType} (hx : p.tables.exec = Jvm.exec) (wl : (Cond.methodLink own index y).before a0 Z = true) (wi : (Cond.instanceMethod y).before a0 Z = true) (wsel : (Cond.selects y.cls y y).before a0 Z = true) (wp : (Cond.privateMethod y).before a0 Z = true) (wc : (Cond.code y bytes maxL ret).before a0 Z = true)
    (hy : y.cls ≠ "java/lang/invoke/MethodHandle" ∧ y.cls ≠ "java/lang/invoke/VarHandle") {W rc rs : Nat} {as' : Array Value} {Q' : Option Value → Vm → Heap → Prop} (hP : Z.Warmed39 vm → CHv Z EL vm h → EW Z a0 EL → Pay l R p e below s args Z EL vm h y 3 W as' rc rs Q')
    {pc : Nat} (pc' : Nat) {L : Array Slot} {S argsL rest : List Value} {a : Addr} {K : String} (E : Exa Z h a K) (hlen : ∀ sig, parseMethodDescriptor y.desc = some sig → argsL.length = sig.parameters.length) (has : (.ref a :: argsL).toArray = as') (hstk : S = argsL.reverse ++ .ref a :: rest) (hW : (rest.map fun v => v.category).sum ≤ W) (hml : L.size = c.maxLocals)
    (hd : decode c.code pc = .ok (.invokevirtual index, 3)) (hp : pc + 3 = pc') (hc : cells + rc ≤ R.cells) (hs : slots + rs ≤ R.slots)
    (k : ∀ v vm' h', CHr Z EL vm h vm' h' → Q' v vm' h' → Go p l e R s m args below meth c Z a0 EL own Q vm' h' (cells + rc) (slots + rs) (mkF m pc' L (v.toList ++ rest))) : Go p l e R s m args below meth c Z a0 EL own Q vm h cells slots (mkF m pc L S) :=
  gback (y := y) (as' := as') (fun T locs X hZ hown eT H hEL => by
    subst has hp hstk
    obtain ⟨cq, q1, q2⟩ := E.cell
    exact X.privateBackS (s := s.setVm vm) hx hown (mvT hZ wl) (mvT hZ wi) (mvT hZ wsel) (Cond.privateMethod_at (mvP (s := s.setVm vm) hZ wp (args := #[]))) (mvT hZ wc) hy (hP hZ H hEL) (g := mkF m pc L _) rfl hml (Steps.refl _) (by rw [eT]; exact q1) q2 hlen rfl (by show 2 * 0 + _ ≤ _; omega) hd (fun _ _ => ⟨rfl, eT, hc, hs⟩)) k
/-- Object.<init> -/
theorem ginitO {idx : Nat} (hx : p.tables.exec = Jvm.exec) (w1 : (Cond.methodLink own idx Lib.objectInit).before a0 Z = true) (w2 : (Cond.instanceMethod Lib.objectInit).before a0 Z = true) (w3 : (Cond.code Lib.objectInit ⟨#[0xb1]⟩ 1 none).before a0 Z = true)
    {pc : Nat} (pc' : Nat) {L : Array Slot} {rest : List Value} {a : Addr} {W : Nat} (hW : (rest.map fun v => v.category).sum ≤ W) (hml : L.size = c.maxLocals) (hd : decode c.code pc = .ok (.invokespecial idx, 3)) (hp : pc + 3 = pc') (hf : 1 ≤ R.frames) (hl : W + 12 ≤ R.locals)
    (k : Go p l e R s m args below meth c Z a0 EL own Q vm h cells slots (mkF m pc' L rest)) : Go p l e R s m args below meth c Z a0 EL own Q vm h cells slots (mkF m pc L (.ref a :: rest)) :=
  gy _ (fun T locs X hZ hown eT => by
    subst hp
    exact initO (s := s.setVm vm) X hx hZ hown w1 w2 w3 eT (g := mkF m pc L (.ref a :: rest)) rfl hml rfl hd hf (W := W) (by show 2 * 0 + _ ≤ _; omega) hl) k
/-! fields -/
theorem ggetF {R0 O n d host : String} {index : Nat} (hx : p.tables.exec = Jvm.exec) (w : (Cond.fieldLink own index R0 n d).before a0 Z = true ∨ (Cond.fieldLinkNest own index R0 n d host).before a0 Z = true) (via : Via Z R0 O n d) {a : Addr} {v : Value} (F : Fld Z h a O n d v)
    {pc : Nat} (pc' : Nat) {L : Array Slot} {rest : List Value} (hd : decode c.code pc = .ok (.getfield index, 3)) (hp : pc + 3 = pc')
    (k : Go p l e R s m args below meth c Z a0 EL own Q vm h cells slots (mkF m pc' L (v :: rest))) : Go p l e R s m args below meth c Z a0 EL own Q vm h cells slots (mkF m pc L (.ref a :: rest)) :=
  gy _ (fun T locs X hZ hown eT => by
    subst hp
    exact getF (s := s.setVm vm) X hx hZ hown (host := host) w via eT F (g := mkF m pc L (.ref a :: rest)) rfl rfl hd) k
theorem ggetS {R0 O n d host : String} {index : Nat} (hx : p.tables.exec = Jvm.exec) (w : (Cond.fieldLink own index R0 n d).before a0 Z = true ∨ (Cond.fieldLinkNest own index R0 n d host).before a0 Z = true) (via : Via Z R0 O n d) {v : Value} (F : Sta Z Z.heap O n d v)
    {pc : Nat} (pc' : Nat) {L : Array Slot} {S : List Value} (hd : decode c.code pc = .ok (.getstatic index, 3)) (hp : pc + 3 = pc')
    (k : Go p l e R s m args below meth c Z a0 EL own Q vm h cells slots (mkF m pc' L (v :: S))) : Go p l e R s m args below meth c Z a0 EL own Q vm h cells slots (mkF m pc L S) :=
  ginfo fun _ _ E => gy _ (fun T locs X hZ hown eT => by
    subst hp
    exact getS2 (s := s.setVm vm) X hx hZ hown (host := host) w via eT (F.ext E) (g := mkF m pc L S) rfl hd) k
theorem gputF {R0 O n d host C : String} {index kk : Nat} {ty : FieldType} (hx : p.tables.exec = Jvm.exec) (w : (Cond.fieldLink own index R0 n d).before a0 Z = true ∨ (Cond.fieldLinkNest own index R0 n d host).before a0 Z = true) (via : Via Z R0 O n d) {a : Addr} {v old : Value} (F : Fld Z h a O n d old) (E : Exa Z h a C)
    (Lw : (Cond.lays C O n d).before a0 Z = true ∨ ((Cond.laysFinal C O n d).before a0 Z = true ∧ own = O ∧ meth.name = "<init>")) (wi : (Cond.instantiable C kk).before a0 Z = true) (hty : parseFieldDescriptor d = some ty) (hn : narrow ty v = v) (hf : fits ty v = true) (ha : Z.heap.size ≤ a) (hs : Z.vm.Alike vm → Safe Z EL vm h a)
    {pc : Nat} (pc' : Nat) {L : Array Slot} {rest : List Value} (hd : decode c.code pc = .ok (.putfield index, 3)) (hp : pc + 3 = pc')
    (k : ∀ h', Wr h h' a (Jvm.RoadKit.slotOf Z O n d) v → CHr Z EL vm h vm h' → Go p l e R s m args below meth c Z a0 EL own Q vm h' cells slots (mkF m pc' L rest)) : Go p l e R s m args below meth c Z a0 EL own Q vm h cells slots (mkF m pc L (v :: .ref a :: rest)) :=
  gwr _ ha hs (fun T locs X hZ hown eT => by
    subst hp
    exact putF (s := s.setVm vm) X hx hZ hown (host := host) w via eT F E Lw wi hty hn hf (g := mkF m pc L (v :: .ref a :: rest)) rfl rfl hd) k
/-! objects and arrays are made -/
theorem gnewO {C : String} {index n : Nat} (hx : p.tables.exec = Jvm.exec) (w : (Cond.classLink own index C).before a0 Z = true) (wi : (Cond.instantiable C n).before a0 Z = true) (wz : (Cond.initialized C).before a0 Z = true)
    {pc : Nat} (pc' : Nat) {L : Array Slot} {S : List Value} (hd : decode c.code pc = .ok (.new index, 3)) (hp : pc + 3 = pc') (hc : cells + 1 ≤ R.cells) (hl : slots + n ≤ R.slots)
    (k : ∀ (b : Addr) (h' : Heap), h.size = b → Ext h h' → CHr Z EL vm h vm h' → Exa Z h' b C → (∀ {O nm d : String} {ty : FieldType}, Laid Z a0 C O nm d → parseFieldDescriptor d = some ty → Fld Z h' b O nm d (defaultValue ty)) → Z.heap.size ≤ b → Safe Z EL vm h' b → Go p l e R s m args below meth c Z a0 EL own Q vm h' (cells + 1) (slots + n) (mkF m pc' L (.ref b :: S))) :
    Go p l e R s m args below meth c Z a0 EL own Q vm h cells slots (mkF m pc L S) :=
  gnew (P := fun h' => Exa Z h' h.size C ∧ ∀ (O nm d : String) (ty : FieldType), Laid Z a0 C O nm d → parseFieldDescriptor d = some ty → Fld Z h' h.size O nm d (defaultValue ty)) (fun _ => mkF m pc' L (.ref h.size :: S))
    (fun T locs X hZ hown eT => by
      subst hp
      obtain ⟨T', h', X', e', E, A, D, -, st⟩ := newO (s := s.setVm vm) X hx hZ hown w wi wz eT (g := mkF m pc L S) rfl hd hc hl
      exact ⟨T', h', X', e', E, ⟨A, fun _ _ _ _ q r => D q r⟩, st⟩)
    (fun h' E hC hP hz hs => k _ h' rfl E hC hP.1 (fun q r => hP.2 _ _ _ _ q r) hz hs)
theorem gnewP {aty : ArrayType} (hx : p.tables.exec = Jvm.exec) (w : (Cond.arrayClass (newarray.typeOf aty)).before a0 Z = true) {n : Int32} (hn : ¬ n < 0) {cap : Nat} (hcap : n.toNatClampNeg ≤ cap) (hb : cap * 8 ≤ 536870912)
    {pc : Nat} (pc' : Nat) {L : Array Slot} {S : List Value} (hd : decode c.code pc = .ok (.newarray aty, 2)) (hp : pc + 2 = pc') (hc : cells + 1 ≤ R.cells) (hl : slots + cap ≤ R.slots)
    (k : ∀ (b : Addr) (h' : Heap) (cA : ClassId), h.size = b → Ext h h' → CHr Z EL vm h vm h' → Arv Z h' b cA (newarray.typeOf aty) n [] (defaultValue (newarray.typeOf aty)) → Z.heap.size ≤ b → Safe Z EL vm h' b → Go p l e R s m args below meth c Z a0 EL own Q vm h' (cells + 1) (slots + cap) (mkF m pc' L (.ref b :: S))) :
    Go p l e R s m args below meth c Z a0 EL own Q vm h cells slots (mkF m pc L (.int n :: S)) :=
  gnew (P := fun h' => ∃ cA, Arv Z h' h.size cA (newarray.typeOf aty) n [] (defaultValue (newarray.typeOf aty))) (fun _ => mkF m pc' L (.ref h.size :: S))
    (fun T locs X hZ hown eT => by
      subst hp
      obtain ⟨T', h', cA, X', e', E, A, st⟩ := newP (s := s.setVm vm) X hx hZ w eT (g := mkF m pc L (.int n :: S)) rfl hd rfl hn hcap hb hc hl
      exact ⟨T', h', X', e', E, ⟨cA, Arv.new A hn⟩, st⟩)
    (fun h' E hC hP hz hs => by obtain ⟨cA, V⟩ := hP; exact k _ h' cA rfl E hC V hz hs)
theorem gnewR {C : String} {index : Nat} (hx : p.tables.exec = Jvm.exec) (w1 : (Cond.classLink own index C).before a0 Z = true) (w2 : (Cond.arrayOver (.object C)).before a0 Z = true) {n : Int32} (hn : ¬ n < 0) {cap : Nat} (hcap : n.toNatClampNeg ≤ cap) (hb : cap * 8 ≤ 536870912) {ad : String} (had : "[" ++ (FieldType.object C).toString = ad)
    {pc : Nat} (pc' : Nat) {L : Array Slot} {S : List Value} (hd : decode c.code pc = .ok (.anewarray index, 3)) (hp : pc + 3 = pc') (hc : cells + 1 ≤ R.cells) (hl : slots + cap ≤ R.slots)
    (k : ∀ (b : Addr) (h' : Heap) (cA : ClassId), h.size = b → Ext h h' → CHr Z EL vm h vm h' → Arv Z h' b cA (.object C) n [] .null → Exa Z h' b ad → Ovr Z cA C → Z.heap.size ≤ b → Safe Z EL vm h' b → Go p l e R s m args below meth c Z a0 EL own Q vm h' (cells + 1) (slots + cap) (mkF m pc' L (.ref b :: S))) :
    Go p l e R s m args below meth c Z a0 EL own Q vm h cells slots (mkF m pc L (.int n :: S)) :=
  gnew (P := fun h' => ∃ cA, Arv Z h' h.size cA (.object C) n [] .null ∧ Exa Z h' h.size ad ∧ Ovr Z cA C) (fun _ => mkF m pc' L (.ref h.size :: S))
    (fun T locs X hZ hown eT => by
      subst hp
      obtain ⟨T', h', cA, X', e', E, A, X1, O, st⟩ := newRE (s := s.setVm vm) X hx hZ hown w1 w2 eT (g := mkF m pc L (.int n :: S)) rfl hd rfl hn hcap hb hc hl had
      exact ⟨T', h', X', e', E, ⟨cA, Arv.new A hn, X1, O⟩, st⟩)
    (fun h' E hC hP hz hs => by obtain ⟨cA, V, X1, O⟩ := hP; exact k _ h' cA rfl E hC V X1 O hz hs)
/-! arrays are written and read -/
theorem gstC {a : Addr} {kc : ClassId} {n : Int32} {vs : List Value} {d : Value} {j x y : Int32} {i : Nat} (hx : p.tables.exec = Jvm.exec) (F : Arv Z h a kc .char n vs d) (hin : ¬ j < 0 ∧ j < n) (hj : j.toNatClampNeg = i) (hi : i < vs.length) (hy : nar .char x = y) (ha : Z.heap.size ≤ a)
    {pc : Nat} (pc' : Nat) {L : Array Slot} {rest : List Value} (hd : decode c.code pc = .ok (.castore, 1)) (hp : pc + 1 = pc')
    (k : ∀ h', Wr h h' a i (.int y) → CHr Z EL vm h vm h' → Arv Z h' a kc .char n (vs.set i (.int y)) d → Go p l e R s m args below meth c Z a0 EL own Q vm h' cells slots (mkF m pc' L rest)) : Go p l e R s m args below meth c Z a0 EL own Q vm h cells slots (mkF m pc L (.int x :: .int j :: .ref a :: rest)) := by
  subst hy hj hp
  obtain ⟨cl, Ar, q1, q2, q3, q4, q5⟩ := F
  exact gwr _ ha (fun al => Safe.arr al Ar (by decide)) (fun T locs X hZ hown eT => stC (s := s.setVm vm) X hx hZ eT Ar (j := j) (inb_of q2 hin) (g := mkF m pc L (.int x :: .int j :: .ref a :: rest)) rfl rfl hd) fun h' W hC => k h' W hC (Arv.set Ar q1 q2 q3 q4 q5 (fits_nar_char _) W _ rfl hi)
theorem gstB {a : Addr} {kc : ClassId} {n : Int32} {vs : List Value} {d : Value} {j x y : Int32} {i : Nat} (hx : p.tables.exec = Jvm.exec) (F : Arv Z h a kc .byte n vs d) (hin : ¬ j < 0 ∧ j < n) (hj : j.toNatClampNeg = i) (hi : i < vs.length) (hy : nar .byte x = y) (ha : Z.heap.size ≤ a) (hs : Z.vm.Alike vm → Safe Z EL vm h a)
    {pc : Nat} (pc' : Nat) {L : Array Slot} {rest : List Value} (hd : decode c.code pc = .ok (.bastore, 1)) (hp : pc + 1 = pc')
    (k : ∀ h', Wr h h' a i (.int y) → CHr Z EL vm h vm h' → Arv Z h' a kc .byte n (vs.set i (.int y)) d → Go p l e R s m args below meth c Z a0 EL own Q vm h' cells slots (mkF m pc' L rest)) : Go p l e R s m args below meth c Z a0 EL own Q vm h cells slots (mkF m pc L (.int x :: .int j :: .ref a :: rest)) := by
  subst hy hj hp
  obtain ⟨cl, Ar, q1, q2, q3, q4, q5⟩ := F
  exact gwr _ ha hs (fun T locs X hZ hown eT => stB (s := s.setVm vm) X hx hZ eT Ar (j := j) (inb_of q2 hin) (g := mkF m pc L (.int x :: .int j :: .ref a :: rest)) rfl rfl hd) fun h' W hC => k h' W hC (Arv.set Ar q1 q2 q3 q4 q5 (fits_nar_byte _) W _ rfl hi)
theorem gstR {a : Addr} {kc : ClassId} {C : String} {n : Int32} {vs : List Value} {d v : Value} {j : Int32} {i : Nat} (hx : p.tables.exec = Jvm.exec) (F : Arv Z h a kc (.object C) n vs d) (hin : ¬ j < 0 ∧ j < n) (hj : j.toNatClampNeg = i) (hi : i < vs.length) (S : Sto Z h a v) (hv : v.isRef = true) (ha : Z.heap.size ≤ a)
    {pc : Nat} (pc' : Nat) {L : Array Slot} {rest : List Value} (hd : decode c.code pc = .ok (.aastore, 1)) (hp : pc + 1 = pc')
    (k : ∀ h', Wr h h' a i v → CHr Z EL vm h vm h' → Arv Z h' a kc (.object C) n (vs.set i v) d → Go p l e R s m args below meth c Z a0 EL own Q vm h' cells slots (mkF m pc' L rest)) : Go p l e R s m args below meth c Z a0 EL own Q vm h cells slots (mkF m pc L (v :: .int j :: .ref a :: rest)) := by
  subst hj hp
  obtain ⟨cl, Ar, q1, q2, q3, q4, q5⟩ := F
  exact gwr _ ha (fun al => Safe.arr al Ar nofun) (fun T locs X hZ hown eT => stR (s := s.setVm vm) X hx hZ eT Ar (j := j) (inb_of q2 hin) rfl S (g := mkF m pc L (v :: .int j :: .ref a :: rest)) rfl rfl hd) fun h' W hC => k h' W hC (Arv.set Ar q1 q2 q3 q4 q5 (by cases v <;> first | rfl | (cases hv; done)) W _ rfl hi)
theorem gldC {a : Addr} {kc : ClassId} {n : Int32} {vs : List Value} {d v : Value} {j : Int32} {i : Nat} (hx : p.tables.exec = Jvm.exec) (F : Arv Z h a kc .char n vs d) (hin : ¬ j < 0 ∧ j < n) (hj : j.toNatClampNeg = i) (hv : vs.getD i d = v)
    {pc : Nat} (pc' : Nat) {L : Array Slot} {rest : List Value} (hd : decode c.code pc = .ok (.caload, 1)) (hp : pc + 1 = pc')
    (k : Go p l e R s m args below meth c Z a0 EL own Q vm h cells slots (mkF m pc' L (v :: rest))) : Go p l e R s m args below meth c Z a0 EL own Q vm h cells slots (mkF m pc L (.int j :: .ref a :: rest)) := by
  subst hj hp
  obtain ⟨cl, Ar, q1, q2, q3, q4, q5⟩ := F
  exact gx _ (fun T locs X hZ hown eT => X.caload (s := s.setVm vm) hx (by rw [eT]; exact Ar.1) (State.isArrayOf_alike hZ.alike Ar.2.1) Ar.2.2 (inb_of q2 hin) (q4.at (inb_of q2 hin) hv) (g := mkF m pc L (.int j :: .ref a :: rest)) rfl rfl hd) k
theorem gldB {a : Addr} {kc : ClassId} {n : Int32} {vs : List Value} {d v : Value} {j : Int32} {i : Nat} (hx : p.tables.exec = Jvm.exec) (F : Arv Z h a kc .byte n vs d) (hin : ¬ j < 0 ∧ j < n) (hj : j.toNatClampNeg = i) (hv : vs.getD i d = v)
    {pc : Nat} (pc' : Nat) {L : Array Slot} {rest : List Value} (hd : decode c.code pc = .ok (.baload, 1)) (hp : pc + 1 = pc')
    (k : Go p l e R s m args below meth c Z a0 EL own Q vm h cells slots (mkF m pc' L (v :: rest))) : Go p l e R s m args below meth c Z a0 EL own Q vm h cells slots (mkF m pc L (.int j :: .ref a :: rest)) := by
  subst hj hp
  obtain ⟨cl, Ar, q1, q2, q3, q4, q5⟩ := F
  exact gx _ (fun T locs X hZ hown eT => X.baloadBytes (s := s.setVm vm) hx (by rw [eT]; exact Ar.1) (State.isArrayOf_alike hZ.alike Ar.2.1) Ar.2.2 (inb_of q2 hin) (q4.at (inb_of q2 hin) hv) (g := mkF m pc L (.int j :: .ref a :: rest)) rfl rfl hd) k
theorem gldI {a : Addr} {kc : ClassId} {n : Int32} {vs : List Value} {d v : Value} {j : Int32} {i : Nat} (hx : p.tables.exec = Jvm.exec) (F : Arv Z h a kc .int n vs d) (hin : ¬ j < 0 ∧ j < n) (hj : j.toNatClampNeg = i) (hv : vs.getD i d = v)
    {pc : Nat} (pc' : Nat) {L : Array Slot} {rest : List Value} (hd : decode c.code pc = .ok (.iaload, 1)) (hp : pc + 1 = pc')
    (k : Go p l e R s m args below meth c Z a0 EL own Q vm h cells slots (mkF m pc' L (v :: rest))) : Go p l e R s m args below meth c Z a0 EL own Q vm h cells slots (mkF m pc L (.int j :: .ref a :: rest)) := by
  subst hj hp
  obtain ⟨cl, Ar, q1, q2, q3, q4, q5⟩ := F
  exact gx _ (fun T locs X hZ hown eT => X.iaload (s := s.setVm vm) hx (by rw [eT]; exact Ar.1) (State.isArrayOf_alike hZ.alike Ar.2.1) Ar.2.2 (inb_of q2 hin) (q4.at (inb_of q2 hin) hv) (g := mkF m pc L (.int j :: .ref a :: rest)) rfl rfl hd) k
theorem gldR {a : Addr} {kc : ClassId} {C : String} {n : Int32} {vs : List Value} {d v : Value} {j : Int32} {i : Nat} (hx : p.tables.exec = Jvm.exec) (F : Arv Z h a kc (.object C) n vs d) (hin : ¬ j < 0 ∧ j < n) (hj : j.toNatClampNeg = i) (hv : vs.getD i d = v)
    {pc : Nat} (pc' : Nat) {L : Array Slot} {rest : List Value} (hd : decode c.code pc = .ok (.aaload, 1)) (hp : pc + 1 = pc')
    (k : Go p l e R s m args below meth c Z a0 EL own Q vm h cells slots (mkF m pc' L (v :: rest))) : Go p l e R s m args below meth c Z a0 EL own Q vm h cells slots (mkF m pc L (.int j :: .ref a :: rest)) := by
  subst hj hp
  obtain ⟨cl, Ar, q1, q2, q3, q4, q5⟩ := F
  exact gx _ (fun T locs X hZ hown eT => X.aaload (s := s.setVm vm) hx (by rw [eT]; exact Ar.1) (State.isArrayOf_alike hZ.alike Ar.2.1) rfl Ar.2.2 (inb_of q2 hin) (q4.at (inb_of q2 hin) hv) (g := mkF m pc L (.int j :: .ref a :: rest)) rfl rfl hd) k
theorem glen {a : Addr} {kc : ClassId} {ty : FieldType} {n : Int32} {vs : List Value} {d : Value} (hx : p.tables.exec = Jvm.exec) (F : Arv Z h a kc ty n vs d)
    {pc : Nat} (pc' : Nat) {L : Array Slot} {rest : List Value} (hd : decode c.code pc = .ok (.arraylength, 1)) (hp : pc + 1 = pc')
    (k : Go p l e R s m args below meth c Z a0 EL own Q vm h cells slots (mkF m pc' L (.int n :: rest))) : Go p l e R s m args below meth c Z a0 EL own Q vm h cells slots (mkF m pc L (.ref a :: rest)) := by
  subst hp
  obtain ⟨cl, Ar, q1, q2, q3, q4, q5⟩ := F
  exact gx _ (fun T locs X hZ hown eT t kk => X.arraylength (s := s.setVm vm) hx (by rw [eT]; exact Ar.1) (State.isArrayOf_alike hZ.alike Ar.2.1) (g := mkF m pc L (.ref a :: rest)) rfl rfl hd t (by rw [len_of q2 q3]; exact kk)) k
/-! casts, constants -/
theorem gcast {K : String} {index : Nat} (hx : p.tables.exec = Jvm.exec) (w : (Cond.classLink own index K).before a0 Z = true) {a : Addr} (F : Ins Z h a K true) {pc : Nat} (pc' : Nat) {L : Array Slot} {rest : List Value} (hd : decode c.code pc = .ok (.checkcast index, 3)) (hp : pc + 3 = pc')
    (k : Go p l e R s m args below meth c Z a0 EL own Q vm h cells slots (mkF m pc' L (.ref a :: rest))) : Go p l e R s m args below meth c Z a0 EL own Q vm h cells slots (mkF m pc L (.ref a :: rest)) :=
  gy _ (fun T locs X hZ hown eT => by
    subst hp
    exact castY (s := s.setVm vm) X hx hZ hown w eT F (g := mkF m pc L (.ref a :: rest)) rfl rfl hd) k
theorem ginstY {K : String} {index : Nat} (hx : p.tables.exec = Jvm.exec) (w : (Cond.classLink own index K).before a0 Z = true) {a : Addr} (F : Ins Z h a K true) {pc : Nat} (pc' : Nat) {L : Array Slot} {rest : List Value} (hd : decode c.code pc = .ok (.instanceof index, 3)) (hp : pc + 3 = pc')
    (k : Go p l e R s m args below meth c Z a0 EL own Q vm h cells slots (mkF m pc' L (.int 1 :: rest))) : Go p l e R s m args below meth c Z a0 EL own Q vm h cells slots (mkF m pc L (.ref a :: rest)) :=
  gy _ (fun T locs X hZ hown eT => by
    subst hp
    exact instY (s := s.setVm vm) X hx hZ hown w eT F (g := mkF m pc L (.ref a :: rest)) rfl rfl hd) k
theorem ginstN {K C : String} {index : Nat} (hx : p.tables.exec = Jvm.exec) (w : (Cond.classLink own index K).before a0 Z = true) {a : Addr} (E : Exa Z h a C) (F : ∃ c t, Z.vm.findClass C = some c ∧ Z.vm.findClass K = some t ∧ Z.vm.assignable c t = false) {pc : Nat} (pc' : Nat) {L : Array Slot} {rest : List Value} (hd : decode c.code pc = .ok (.instanceof index, 3)) (hp : pc + 3 = pc')
    (k : Go p l e R s m args below meth c Z a0 EL own Q vm h cells slots (mkF m pc' L (.int 0 :: rest))) : Go p l e R s m args below meth c Z a0 EL own Q vm h cells slots (mkF m pc L (.ref a :: rest)) :=
  gy _ (fun T locs X hZ hown eT => by
    subst hp
    exact instNo (s := s.setVm vm) X hx hZ hown w eT E F (g := mkF m pc L (.ref a :: rest)) rfl rfl hd) k
theorem gldcI {index : Nat} {v : Int32} (hx : p.tables.exec = Jvm.exec) (w : (Cond.constant own index v).before a0 Z = true) {pc : Nat} (pc' : Nat) {L : Array Slot} {S : List Value} (hd : decode c.code pc = .ok (.ldc index, 2)) (hp : pc + 2 = pc')
    (k : Go p l e R s m args below meth c Z a0 EL own Q vm h cells slots (mkF m pc' L (.int v :: S))) : Go p l e R s m args below meth c Z a0 EL own Q vm h cells slots (mkF m pc L S) :=
  gx _ (fun T locs X hZ hown eT => by
    subst hp
    exact X.ldcInt (s := s.setVm vm) hx hown (mvT hZ w) (g := mkF m pc L S) rfl hd) k
theorem gldcJ {index : Nat} {v : Int64} (hx : p.tables.exec = Jvm.exec) (w : (Cond.constantLong own index v).before a0 Z = true) {pc : Nat} (pc' : Nat) {L : Array Slot} {S : List Value} (hd : decode c.code pc = .ok (.ldc2_w index, 3)) (hp : pc + 3 = pc')
    (k : Go p l e R s m args below meth c Z a0 EL own Q vm h cells slots (mkF m pc' L (.long v :: S))) : Go p l e R s m args below meth c Z a0 EL own Q vm h cells slots (mkF m pc L S) :=
  gx _ (fun T locs X hZ hown eT => by
    subst hp
    exact X.ldc2Long (s := s.setVm vm) hx hown (mvT hZ w) (g := mkF m pc L S) rfl hd) k
/-- ldc of a String constant whose text isn't read -/
theorem gldcO {index : Nat} {text : String} (hx : p.tables.exec = Jvm.exec) (w : (Cond.stringLink own index text).before a0 Z = true) (wS : ∀ a ∈ Bundle.stringAtoms, a.before a0 Z = true) {n : Nat} (hn : 4 * text.toList.length ≤ n) (hbig : n ≤ 536870912)
    {pc : Nat} (pc' : Nat) {L : Array Slot} {S : List Value} (hd : decode c.code pc = .ok (.ldc index, 2)) (hp : pc + 2 = pc') (hc : cells + 2 ≤ R.cells) (hl : slots + (n + 4) ≤ R.slots)
    (k : ∀ (a : Addr) (vm' : Vm) (h' : Heap), Ext h h' → CHr Z EL vm h vm' h' → Go p l e R s m args below meth c Z a0 EL own Q vm' h' (cells + 2) (slots + (n + 4)) (mkF m pc' L (.ref a :: S))) : Go p l e R s m args below meth c Z a0 EL own Q vm h cells slots (mkF m pc L S) := fun T X => by
  subst hp
  obtain ⟨locs, k0, X', eT, hZ, hown, hS, hk, N, H, E0, hEL, hx', hlk⟩ := X
  obtain ⟨a, T', h', k1, X1, e1, E, hS1, hk1, hZ1, ho1, hC, -, st⟩ := ldcOH X' hx hZ hown w wS eT hS hk hEL H.1 (g := mkF m pc L S) rfl hd hn hbig hc hl
  obtain ⟨s2, o, q1, q2⟩ := k a T'.vm h' E hC T' ⟨locs, k1, X1, e1, hZ1, ho1, hS1, hk1, N, H.trans hC, E0, hEL, hx', hlk⟩
  exact ⟨s2, o, st _ q1, q2⟩
/-- ldc of a String constant of EL, read -/
theorem gldcR {index : Nat} {text : String} (hx : p.tables.exec = Jvm.exec) (w : (Cond.stringLink own index text).before a0 Z = true) (wS : ∀ a ∈ Bundle.stringAtoms, a.before a0 Z = true) (hmem : (own, index) ∈ EL) {n : Nat} (hn : 4 * text.toList.length ≤ n) (hbig : n ≤ 536870912)
    {vs : List Value} {z : Int32} (ht : (∀ c ∈ text.toList, c.toNat < 256) ∧ text.toList.map (fun c => Value.int (Jvm.Lit.byteI c.toNat.toUInt16)) = vs) (hz : ¬ z < 0) (hlz : z.toNatClampNeg = vs.length)
    {pc : Nat} (pc' : Nat) {L : Array Slot} {S : List Value} (hd : decode c.code pc = .ok (.ldc index, 2)) (hp : pc + 2 = pc') (hc : cells + 2 ≤ R.cells) (hl : slots + (n + 4) ≤ R.slots)
    (k : ∀ (a b : Addr) (kb : ClassId) (vm' : Vm) (h' : Heap), Ext h h' → CHr Z EL vm h vm' h' → Exa Z h' a "java/lang/String" → Fld Z h' a "java/lang/String" "coder" "B" (.int 0) → Fld Z h' a "java/lang/String" "value" "[B" (.ref b) → Arv Z h' b kb .byte z vs (.int 0) → (∀ x, Safe Z EL vm' h' x → x ≠ a ∧ x ≠ b) →
      Go p l e R s m args below meth c Z a0 EL own Q vm' h' (cells + 2) (slots + (n + 4)) (mkF m pc' L (.ref a :: S))) : Go p l e R s m args below meth c Z a0 EL own Q vm h cells slots (mkF m pc L S) := fun T X => by
  subst hp
  obtain ⟨locs, k0, X', eT, hZ, hown, hS, hk, N, H, E0, hEL, hx', hlk⟩ := X
  obtain ⟨a, T', h', k1, b, kb, X1, e1, E, hS1, hk1, hZ1, ho1, F1, F2, F3, F4, -, -, hC, -, F5, st⟩ := ldcCH X' hx hZ hown w wS eT hS hk hEL hmem H.1 ht hz hlz (g := mkF m pc L S) rfl hd hn hbig hc hl
  obtain ⟨s2, o, q1, q2⟩ := k a b kb T'.vm h' E hC F1 F2 F3 F4 F5 T' ⟨locs, k1, X1, e1, hZ1, ho1, hS1, hk1, N, H.trans hC, E0, hEL, hx', hlk⟩
  exact ⟨s2, o, st _ q1, q2⟩
end Kit2
end Jvm.OwnKit
namespace Jvm.OwnKit
open Sem ClassFile Op Lib Bundle Jvm.Stand Jvm.Free Jvm.LawKit Jvm.RoadKit
section Kit3
variable {p : Program} {l : Launch} {e : Env} {R : Room} {s : State} {m : MethodId} {args : Array Value} {below : List Frame} {meth : Method} {c : Code} {Z : State} {a0 : Array Value} {EL : List (String × Nat)} {own : String} {Q : Option Value → Vm → Heap → Prop} {vm : Vm} {h h' : Heap} {cells slots : Nat} {g : JFrame}
theorem gi2c {x y : Int32} (hx : p.tables.exec = Jvm.exec) (hy : x.toUInt32.toUInt16.toUInt32.toInt32 = y) {pc : Nat} (pc' : Nat) {L : Array Slot} {rest : List Value} (hd : decode c.code pc = .ok (.i2c, 1)) (hp : pc + 1 = pc')
    (k : Go p l e R s m args below meth c Z a0 EL own Q vm h cells slots (mkF m pc' L (.int y :: rest))) : Go p l e R s m args below meth c Z a0 EL own Q vm h cells slots (mkF m pc L (.int x :: rest)) := by
  subst hy hp
  exact gs _ (fun _ _ A k => XS.i2c A hx rfl hd rfl k) k
theorem narC (x : Int32) : nar .char (x &&& 255) = x &&& 255 := i2c_mask x
theorem narC2 (x : Int32) : nar .char (x.toUInt32.toUInt16.toUInt32.toInt32) = x.toUInt32.toUInt16.toUInt32.toInt32 := by
  show (x.toUInt32.toUInt16.toUInt32.toInt32).toUInt32.toUInt16.toUInt32.toInt32 = _
  simp only [UInt32.toUInt32_toInt32, UInt16.toUInt16_toUInt32]
/-- a char of 0 to 255 -/
def B8 (c : Int32) : Prop := ¬ c < 0 ∧ ¬ (255 : Int32) < c
theorem b255 (x : Int32) : B8 (x &&& 255) := by
  have h := c_mask x 255 8 (by decide) (by decide)
  have e1 : (0 : Int32).toInt = 0 := rfl
  have e2 : (255 : Int32).toInt = 255 := rfl
  refine ⟨?_, ?_⟩
  · rw [Int32.lt_iff_toInt_lt, h, e1]; omega
  · rw [Int32.lt_iff_toInt_lt, h, e2]; omega
theorem bnil : ∀ c ∈ ([] : List Int32), B8 c := fun _ q => nomatch q
theorem bcons {a : Int32} {L : List Int32} (q : B8 a) (r : ∀ c ∈ L, B8 c) : ∀ c ∈ a :: L, B8 c := fun c z => (List.mem_cons.mp z).elim (fun u => u ▸ q) (r c)
/-- an ordinary Latin-1 String and its bytes -/
def Str (Z : State) (h : Heap) (a t : Addr) (cs : List Int32) : Prop := Exa Z h a "java/lang/String" ∧ Fld Z h a "java/lang/String" "coder" "B" (.int 0) ∧ Fld Z h a "java/lang/String" "value" "[B" (.ref t) ∧
  (∃ kb, Arv Z h t kb .byte (Int32.ofNat cs.length) ((cs.map fun c => c.toInt8.toInt32).map Value.int) (.int 0)) ∧ (∀ c ∈ cs, B8 c) ∧ cs.length ≤ 4000
variable {a t o : Addr} {cs : List Int32} {ws : List Addr} {sl : Nat} {v : Value}
theorem Str.ext (F : Str Z h a t cs) (E : Ext h h') : Str Z h' a t cs := by
  obtain ⟨f1, f2, f3, ⟨kb, f4⟩, f5⟩ := F
  exact ⟨f1.ext E, f2.ext E, f3.ext E, ⟨kb, f4.ext E⟩, f5⟩
theorem Str.keep (F : Str Z h a t cs) (K : Keep h h' ws) (q : a ∉ ws) (r : t ∉ ws) : Str Z h' a t cs := by
  obtain ⟨f1, f2, f3, ⟨kb, f4⟩, f5⟩ := F
  exact ⟨f1.keep K, f2.keep K q, f3.keep K q, ⟨kb, f4.keep K r⟩, f5⟩
theorem Str.other (F : Str Z h a t cs) (W : Wr h h' o sl v) (q : a ≠ o) (r : t ≠ o) : Str Z h' a t cs := by
  obtain ⟨f1, f2, f3, ⟨kb, f4⟩, f5⟩ := F
  exact ⟨f1.wr W, f2.other W (Or.inl q), f3.other W (Or.inl q), ⟨kb, f4.other W r⟩, f5⟩
theorem Str.tlt (F : Str Z h a t cs) : t < h.size := by
  obtain ⟨f1, f2, f3, ⟨kb, f4⟩, f5⟩ := F
  exact f4.lt
theorem Str.neT (F : Str Z h a t cs) {x : Addr} {C : String} {n : Nat} (E : Exa Z h x C) (w : (Cond.instantiable C n).before a0 Z = true) : x ≠ t := by
  obtain ⟨f1, f2, f3, ⟨kb, f4⟩, f5⟩ := F
  exact Exa.neArv E f4 w
theorem Str.neq {b u : Addr} {ds : List Int32} (F : Str Z h a t cs) (G : Str Z h b u ds) (q : cs ≠ ds) : a ≠ b := fun e => by
  subst e
  obtain ⟨-, -, f3, ⟨kb, A, f4, -, f6, -, f8, -⟩, f9, f10⟩ := F
  obtain ⟨-, -, g3, ⟨kb', A', g4, -, g6, -, g8, -⟩, g9, g10⟩ := G
  have e1 : t = u := by
    obtain ⟨cell, cf, k, i, f, h1, h2, -, -, -, -, h7⟩ := f3
    obtain ⟨cell', cf', k', i', f', h1', h2', -, -, -, -, h7'⟩ := g3
    cases h1.symm.trans h1'
    cases h2.symm.trans h2'
    have := Option.some.inj (h7.symm.trans h7')
    cases this; rfl
  subst e1
  cases f4.1.symm.trans g4.1
  have e2 : cs.length = ds.length := by
    rw [f6] at g6
    have r : ∀ n : Nat, n ≤ 4000 → (Int32.ofNat n).toNatClampNeg = n := fun n hn => by
      have := (back32 (n := Int32.ofNat n) (by rw [Int32.lt_iff_toInt_lt, Int32.toInt_ofNat_of_lt (by omega)]; simp)).1
      rw [Int32.toNatClampNeg, Int32.toInt_ofNat_of_lt (by omega)]; rfl
    rw [r _ f10, r _ g10] at g6; exact g6
  apply q
  apply List.ext_getElem e2
  intro i h1 h2
  have sz : i < A.slots.size := by
    rw [f6, Int32.toNatClampNeg, Int32.toInt_ofNat_of_lt (by omega)]; exact h1
  have w1 := f8 i sz
  have w2 := g8 i sz
  rw [w1] at w2
  have w3 := Option.some.inj w2
  simp only [List.map_map, List.getD_eq_getElem?_getD, List.getElem?_map, List.getElem?_eq_getElem h1, List.getElem?_eq_getElem h2, Option.map_some, Option.getD_some, Function.comp] at w3
  have w4 := Value.int.inj w3
  have b1 := f9 _ (List.getElem_mem h1)
  have b2 := g9 _ (List.getElem_mem h2)
  generalize cs[i] = x at *
  generalize ds[i] = y at *
  obtain ⟨b1a, b1b⟩ := b1
  obtain ⟨b2a, b2b⟩ := b2
  have c1 := c_i2b x
  have c2 := c_i2b y
  rw [w4] at c1
  rw [Int32.lt_iff_toInt_lt] at b1a b1b b2a b2b
  have e0 : (0 : Int32).toInt = 0 := rfl
  have e255 : (255 : Int32).toInt = 255 := rfl
  rw [e0] at b1a b2a
  rw [e255] at b1b b2b
  apply Int32.toInt_inj.mp
  omega
theorem Str.lit {kb : ClassId} {z : Int32} {vs : List Value} (E : Exa Z h a "java/lang/String") (C : Fld Z h a "java/lang/String" "coder" "B" (.int 0)) (V : Fld Z h a "java/lang/String" "value" "[B" (.ref t)) (A : Arv Z h t kb .byte z vs (.int 0)) (hb : ∀ c ∈ cs, ¬ c < 0 ∧ ¬ (255 : Int32) < c)
    (hz : z = Int32.ofNat cs.length) (hv : vs = (cs.map fun c => c.toInt8.toInt32).map Value.int) (hl : cs.length ≤ 4000) : Str Z h a t cs := ⟨E, C, V, ⟨kb, by rw [← hz, ← hv]; exact A⟩, hb, hl⟩
theorem Arv.sto {kc : ClassId} {C : String} {n : Int32} {vs : List Value} {d : Value} {y : Addr} (F : Arv Z h a kc (.object C) n vs d) (O : Ovr Z kc C) (I : Ins Z h y C true) : Sto Z h a (.ref y) := by
  obtain ⟨cl, Ar, q1, -⟩ := F
  exact Sto.ofV Ar q1 O I
end Kit3
end Jvm.OwnKit
namespace Jvm.OwnKit
open Sem ClassFile Op Lib Bundle Jvm.Stand Jvm.Free Jvm.LawKit Jvm.RoadKit
section Kit4
variable {p : Program} {l : Launch} {e : Env} {R : Room} {s : State} {m : MethodId} {args : Array Value} {below : List Frame} {meth : Method} {c : Code} {Z : State} {a0 : Array Value} {EL : List (String × Nat)} {own : String} {Q : Option Value → Vm → Heap → Prop} {vm : Vm} {h h' : Heap} {cells slots : Nat} {g : JFrame}
theorem Pay.weaken {y : MethodName} {len W rc rs rc' rs' : Nat} {as' : Array Value} (hP : Pay l R p e below s args Z EL vm h y len W as' rc rs Q) (hc : rc ≤ rc') (hs : rs ≤ rs') : Pay l R p e below s args Z EL vm h y len W as' rc' rs' Q := by
  intro m meth c A g ig mk a X hg hsize hdg hW hn hp
  obtain ⟨v, ⟨U, Lx, cx, sx⟩, X', h1, h2, ⟨L, q1, q2, q3, q4, q5⟩, st⟩ := hP m meth c A g ig mk a X hg hsize hdg hW hn ⟨hp.1, hp.2.1, by have := hp.2.2.1; omega, by have := hp.2.2.2; omega⟩
  dsimp only [Pt.U, Pt.locs, Pt.cells, Pt.slots] at X' h1 h2 q1 q2 q3 q4 q5 st
  subst q2 q3 q4
  exact ⟨v, ⟨U, _, A.cells + rc', A.slots + rs'⟩, { X' with same := X'.same.mono (by show A.cells + rc ≤ A.cells + rc'; omega) (by show A.slots + rs ≤ A.slots + rs'; omega) }, h1, h2, ⟨L, q1, rfl, rfl, rfl, q5⟩, st⟩
/-- roads that meet -/
theorem gjoin (P : Vm → Heap → JFrame → Prop) (cells' slots' : Nat) (k1 : ∀ vm' h' g', P vm' h' g' → Go p l e R s m args below meth c Z a0 EL own Q vm' h' cells' slots' g')
    (k2 : (∀ vm' h' g', P vm' h' g' → Go p l e R s m args below meth c Z a0 EL own Q vm' h' cells' slots' g') → Go p l e R s m args below meth c Z a0 EL own Q vm h cells slots g) : Go p l e R s m args below meth c Z a0 EL own Q vm h cells slots g := k2 k1
/-- C's chain of superclasses doesn't meet an instantiable K -/
theorem NSroot {O K : String} {n : Nat} (w : (Cond.noSuperclass O).before a0 Z = true) (wk : (Cond.instantiable K n).before a0 Z = true) (hn : O ≠ K) : NS Z O K := by
  obtain ⟨c, k, h1, h2, h3, -, -⟩ := Cond.noSuperclass_spec w
  obtain ⟨t, k', g1, g2, g3, g4, -⟩ := Cond.instantiable_spec wk
  have ne := ids_ne h1 g1 hn
  refine ⟨c, t, h1, g1, fun fuel => ?_⟩
  cases fuel with
  | zero => rfl
  | succ f => simp [Vm.isSubclassAux, ne, h2, h3]
theorem NSno {C S K : String} {n : Nat} (w : (Cond.superclass C S).before a0 Z = true) (wk : (Cond.instantiable K n).before a0 Z = true) (nn : NS Z C K) (hn : C ≠ K) : ∃ c t, Z.vm.findClass C = some c ∧ Z.vm.findClass K = some t ∧ Z.vm.assignable c t = false := by
  obtain ⟨c, t, h0, g0, n3⟩ := nn
  obtain ⟨p, k, kp, h1, h2, h3, h4, h5, -, h7⟩ := Cond.superclass_spec h0 w
  obtain ⟨t', k', g1, g2, g3, g4, -⟩ := Cond.instantiable_spec wk
  cases g0.symm.trans g1
  have ne := ids_ne h0 g0 hn
  have g5 : k'.isInterface = false := by cases hq : k'.isInterface <;> simp [hq] at g4 ⊢
  refine ⟨c, t, h0, g0, ?_⟩
  show Z.vm.assignableAux (255 + 1) c t = false
  simp [Vm.assignableAux, ne, h2, g2, h5, g3, g5, Vm.isSubclass, n3]
/-- a char[] of Latin-1 signs -/
def ChA (Z : State) (h : Heap) (b : Addr) (cs : List Int32) : Prop := ∃ kc, Arv Z h b kc .char (Int32.ofNat cs.length) (cs.map Value.int) (.int 0) ∧ (∀ c ∈ cs, B8 c) ∧ cs.length ≤ 4000
variable {b : Addr} {cs : List Int32} {ws : List Addr} {sl : Nat} {v : Value} {o : Addr}
theorem ChA.ext (F : ChA Z h b cs) (E : Ext h h') : ChA Z h' b cs := by obtain ⟨k, f, r⟩ := F; exact ⟨k, f.ext E, r⟩
theorem ChA.keep (F : ChA Z h b cs) (K : Keep h h' ws) (q : b ∉ ws) : ChA Z h' b cs := by obtain ⟨k, f, r⟩ := F; exact ⟨k, f.keep K q, r⟩
theorem ChA.wr (F : ChA Z h b cs) (W : Wr h h' o sl v) (q : b ≠ o) : ChA Z h' b cs := by obtain ⟨k, f, r⟩ := F; exact ⟨k, f.other W q, r⟩
theorem ChA.lt (F : ChA Z h b cs) : b < h.size := by obtain ⟨k, f, r⟩ := F; exact f.lt
theorem narB (x : Int32) : nar .byte (x.toInt8.toInt32) = x.toInt8.toInt32 := by
  show (x.toInt8.toInt32).toInt8.toInt32 = _
  simp
theorem b16 (x : Int32) : ¬ (x.toUInt32.toUInt16.toUInt32.toInt32) < 0 ∧ ¬ (65535 : Int32) < (x.toUInt32.toUInt16.toUInt32.toInt32) := by
  have h := c_i2c x
  have e1 : (0 : Int32).toInt = 0 := rfl
  have e2 : (65535 : Int32).toInt = 65535 := rfl
  rw [Int32.lt_iff_toInt_lt, Int32.lt_iff_toInt_lt, e1, e2]
  omega
/-! out of the case's words -/
theorem staI {C n d : String} {y : Int32} (w : (Cond.eq (Term.static C n d) (Term.int y)).before args s = true) (wi : (Cond.initializedFor C n d).before args s = true) : Sta s s.heap C n d (.int y) := by
  have w := Cond.before_iff.mp w
  obtain ⟨x, y', e1, e2, k1, k2⟩ := cmp_v (Or.inl w)
  cases (Option.some.inj e2 : Value.int y = y')
  obtain ⟨z, rfl⟩ := k2
  have e3 : z = y := by
    generalize Term.static C n d = t at *
    simpa [Cond.value, Term.eval, e1] using w
  subst e3
  exact Sta.start e1 (Or.inl wi)
theorem eqI {t : Term} {x y : Int32} {idx : List Nat} (h1 : t.eval args s none idx s = some (.int x)) (h2 : (Cond.eq t (Term.int y)).value args s none s idx = some true) : x = y := by simpa [Cond.value, Term.eval, h1] using h2
theorem lenlt {t : Term} {v : Value} {aa : Addr} {cl : Cell} (h : (Term.length t).eval args s none [] s = some v) (ht : t.eval args s none [] s = some (.ref aa)) (hA : s.arrayAt? aa = some cl) : cl.slots.size < 2 ^ 31 := by
  apply Decidable.byContradiction
  intro hb
  simp [Term.eval, ht, hA, hb] at h
theorem lenI {t : Term} {n : Int32} {aa : Addr} {cl : Cell} (w : (Cond.eq (Term.length t) (Term.int n)).value args s none s [] = some true) (ht : t.eval args s none [] s = some (.ref aa)) (hA : s.arrayAt? aa = some cl) : cl.slots.size < 2 ^ 31 ∧ cl.slots.size.toInt32 = n := by
  obtain ⟨x, y, f1, f2, -, -⟩ := cmp_v (Or.inl w)
  have hb := lenlt f1 ht hA
  exact ⟨hb, eqI (len_f ht hA hb) w⟩
theorem elI {t : Term} {aa : Addr} {cl : Cell} {j y : Int32} (ht : t.eval args s none [] s = some (.ref aa)) (hc : s.heap[aa]? = some cl) (w : (Cond.eq (Term.elem t (Term.int j)) (Term.int y)).value args s none s [] = some true) : cl.slots[j.toNatClampNeg]? = some (.int y) := by
  obtain ⟨x, y', e1, e2, k1, k2⟩ := cmp_v (Or.inl w)
  cases (Option.some.inj e2 : Value.int y = y')
  obtain ⟨z, rfl⟩ := k2
  have := eqI e1 w
  subst this
  exact (elem_in e1 ht rfl hc).2
theorem fldI {t : Term} {aa : Addr} {C n d : String} {y : Int32} (ht : t.eval args s none [] s = some (.ref aa)) (w : (Cond.eq (Term.field t C n d) (Term.int y)).value args s none s [] = some true) : Fld s s.heap aa C n d (.int y) := by
  obtain ⟨x, y', e1, e2, k1, k2⟩ := cmp_v (Or.inl w)
  cases (Option.some.inj e2 : Value.int y = y')
  obtain ⟨z, rfl⟩ := k2
  have := eqI e1 w
  subst this
  exact Fld.start ((fld_at ht).symm.trans e1)
theorem Str.start {t : Term} {cs : List Int32} {n : Int32} {aa : Addr} (hf : Fit s) (ev : t.eval args s none [] s = some (.ref aa)) (wE : (Cond.exactly t "java/lang/String").value args s none s [] = some true) (wC : (Cond.eq (Term.field t "java/lang/String" "coder" "B") (Term.int 0)).value args s none s [] = some true)
    (wA : (Cond.arrayOf (Term.field t "java/lang/String" "value" "[B") .byte).value args s none s [] = some true) (wL : (Cond.eq (Term.length (Term.field t "java/lang/String" "value" "[B")) (Term.int n)).value args s none s [] = some true) (hn : n = Int32.ofNat cs.length) (hl : cs.length ≤ 4000) (hb : ∀ c ∈ cs, B8 c)
    (H : ∀ (tt : Addr) (cl : Cell), (Term.field t "java/lang/String" "value" "[B").eval args s none [] s = some (.ref tt) → s.heap[tt]? = some cl → HasL cl 0 ((cs.map fun c => c.toInt8.toInt32).map Value.int)) : ∃ tt, Str s s.heap aa tt cs := by
  obtain ⟨tt, et⟩ := arr_v wA
  obtain ⟨cl, Ar⟩ := Arr.start et wA
  have hA : s.arrayAt? tt = some cl := Ar.fin (Vm.Alike.refl _)
  obtain ⟨h1, h2⟩ := lenI wL et hA
  have hz : ¬ n < 0 := by rw [hn, Int32.lt_iff_toInt_lt, Int32.toInt_ofNat_of_lt (by omega)]; simp
  have hz2 : n.toNatClampNeg = cs.length := by rw [hn, Int32.toNatClampNeg, Int32.toInt_ofNat_of_lt (by omega)]; rfl
  refine ⟨tt, Exa.start ev wE, fldI ev wC, Fld.start ((fld_at ev).symm.trans et), ⟨cl.cls, ?_⟩, hb, hl⟩
  rw [← hn]
  exact Arv.start hf Ar h1 h2 hz (by rw [hz2]; simp) (H tt cl et Ar.1)
end Kit4
end Jvm.OwnKit
/- laws to paste:  (cut by pick.py; bodies as the Statement names them) -/
namespace Jvm.Pilot.@@N@@
open Jvm Jvm.ClassFile Sem Op Lib Jvm.Free Jvm.Stand Jvm.LawKit Jvm.RoadKit Bundle Jvm.Pilot.@@N@@.Jvm.D Jvm.OwnKit
def Ctx (Z : State) (a0 : Array Value) : Prop := (∀ d ∈ tables_1, d.before a0 Z = true) ∧ EW Z a0 consts_1 ∧ (∃ zc : Int32, Sta Z Z.heap "java/lang/String" "COMPACT_STRINGS" "Z" (.int zc) ∧ ¬ zc = 0) ∧ (∃ fm : Value, Sta Z Z.heap "jdk/internal/util/Preconditions" "SIOOBE_FORMATTER" "Ljava/util/function/BiFunction;" fm ∧ fm.isRef = true) ∧ (∃ a : Addr, Sta Z Z.heap "com/example/backfill/backfill/migration/ColumnValue$Kind" "DATE" "Lcom/example/backfill/backfill/migration/ColumnValue$Kind;" (.ref a)) ∧ (∃ a : Addr, Sta Z Z.heap "com/example/backfill/backfill/migration/ColumnValue$Kind" "COMPUTED" "Lcom/example/backfill/backfill/migration/ColumnValue$Kind;" (.ref a)) ∧ (∃ a : Addr, Sta Z Z.heap "com/example/backfill/backfill/migration/ColumnValue$Kind" "TEXT" "Lcom/example/backfill/backfill/migration/ColumnValue$Kind;" (.ref a)) ∧ (∃ a : Addr, Sta Z Z.heap "com/example/backfill/backfill/migration/ColumnValue$Kind" "NUMBER" "Lcom/example/backfill/backfill/migration/ColumnValue$Kind;" (.ref a)) ∧ (∃ a : Addr, Sta Z Z.heap "com/example/backfill/backfill/migration/ColumnValue$Kind" "BOOLEAN" "Lcom/example/backfill/backfill/migration/ColumnValue$Kind;" (.ref a))
theorem own_SA {Z : State} {a0 : Array Value} (hw : ∀ d ∈ tables_1, d.before a0 Z = true) : ∀ a ∈ Bundle.stringAtoms, a.before a0 Z = true := fun d hd => hw d ((by decide +kernel : ∀ d ∈ Bundle.stringAtoms, d ∈ tables_1) d hd)
theorem own_d_jdk_42_method_149_0 : decode jdk_42_method_149_code 0 = .ok (.aload_n 0, 1) := by decide +kernel
theorem own_d_jdk_42_method_149_1 : decode jdk_42_method_149_code 1 = .ok (.invokespecial 1, 3) := by decide +kernel
theorem own_d_jdk_42_method_149_4 : decode jdk_42_method_149_code 4 = .ok (.iload_n 3, 1) := by decide +kernel
theorem own_d_jdk_42_method_149_5 : decode jdk_42_method_149_code 5 = .ok (.ifCond .ne 22, 3) := by decide +kernel
theorem own_d_jdk_42_method_149_8 : decode jdk_42_method_149_code 8 = .ok (.aload_n 0, 1) := by decide +kernel
theorem own_d_jdk_42_method_149_9 : decode jdk_42_method_149_code 9 = .ok (.ldc 7, 2) := by decide +kernel
theorem own_d_jdk_42_method_149_11 : decode jdk_42_method_149_code 11 = .ok (.getfield 9, 3) := by decide +kernel
theorem own_d_jdk_42_method_149_14 : decode jdk_42_method_149_code 14 = .ok (.putfield 9, 3) := by decide +kernel
theorem own_d_jdk_42_method_149_17 : decode jdk_42_method_149_code 17 = .ok (.aload_n 0, 1) := by decide +kernel
theorem own_d_jdk_42_method_149_18 : decode jdk_42_method_149_code 18 = .ok (.ldc 7, 2) := by decide +kernel
theorem own_d_jdk_42_method_149_20 : decode jdk_42_method_149_code 20 = .ok (.getfield 15, 3) := by decide +kernel
theorem own_d_jdk_42_method_149_23 : decode jdk_42_method_149_code 23 = .ok (.putfield 15, 3) := by decide +kernel
theorem own_d_jdk_42_method_149_26 : decode jdk_42_method_149_code 26 = .ok (.return_, 1) := by decide +kernel
theorem own_pn13 : plainName "java/lang/String" = true := by first | (simp [plainName, overriddenIn]; done) | decide +kernel
set_option maxRecDepth 65536 in
set_option maxHeartbeats 40000000 in
theorem own_emp4 (l : Launch) (Z : State) (a0 : Array Value) (cx : Ctx Z a0) (ws : List Jvm.Cond) (x : Addr) (b : Addr) (v0 : Value) (c0 : Value) (vm0 : Vm) (h0 : Heap) (X00 : Ext Z.heap h0) (P0 : Exa Z h0 x "java/lang/String") (P1 : Fld Z h0 x "java/lang/String" "value" "[B" v0) (P2 : Fld Z h0 x "java/lang/String" "coder" "B" c0) (P3 : Z.heap.size ≤ x) (P4 : Safe Z consts_1 vm0 h0 x) :
    Met l (⟨"java/lang/String", "<init>", "([CIILjava/lang/Void;)V"⟩ : MethodName) jdk_42_method_149_code 6 none ws ({ frames := 1, cells := 4, slots := 8, locals := 12 } : Room) Z consts_1 vm0 h0 #[(.ref x), (.ref b), (.int (0 : Int32)), (.int (0 : Int32)), .null] (fun v vm h => ∃ (t : Addr), v = none ∧ Keep h0 h [x] ∧ Str Z h x t ([] : List Int32) ∧ Safe Z consts_1 vm h x) := by
  obtain ⟨hw, hEL, ⟨zc, Scs, hzc⟩, ⟨fm, Sfm, hfm⟩, ⟨kDATE, SDATE⟩, ⟨kCOMPUTED, SCOMPUTED⟩, ⟨kTEXT, STEXT⟩, ⟨kNUMBER, SNUMBER⟩, ⟨kBOOLEAN, SBOOLEAN⟩⟩ := id cx
  have hSA := own_SA hw
  refine Met.of_walk (a0 := a0) #[.val (.ref x), .val (.ref b), .val (.int (0 : Int32)), .val (.int (0 : Int32)), .val .null, .unset] (plainFor_of_name own_pn13) X00 hEL (fun m => by first | (simp [entryFrame, mkF, argsToLocals, Value.category]; done) | rfl) ?_
  intro p e s m below meth c vm hx hby hml hret hnm hC0
  have lt_x : h0.size > x := P0.lt
  have L4 := hC0.safe lt_x P4
  refine gs (mkF m 1 #[.val (.ref x), .val (.ref b), .val (.int (0 : Int32)), .val (.int (0 : Int32)), .val .null, .unset] [(.ref x)]) (fun _ _ A k => XS.aloadN A hx rfl (hb hby own_d_jdk_42_method_149_0) rfl rfl k) ?_
  refine ginitO hx (ow hw 27 rfl) (ow hw 28 rfl) (ow hw 29 rfl) 4 (W := 0) (Nat.le_of_eq rfl) (by rw [hml]; rfl) (hb hby own_d_jdk_42_method_149_1) rfl (by decide) (by decide) ?_
  refine gs (mkF m 5 #[.val (.ref x), .val (.ref b), .val (.int (0 : Int32)), .val (.int (0 : Int32)), .val .null, .unset] [(.int (0 : Int32))]) (fun _ _ A k => XS.iloadN A hx rfl (hb hby own_d_jdk_42_method_149_4) rfl  k) ?_
  refine gs (mkF m 8 #[.val (.ref x), .val (.ref b), .val (.int (0 : Int32)), .val (.int (0 : Int32)), .val .null, .unset] []) (fun _ _ A k => XS.ifNo A hx rfl (hb hby own_d_jdk_42_method_149_5) rfl ((if0 _ _).trans (teq (by decide)).2) k) ?_
  refine gs (mkF m 9 #[.val (.ref x), .val (.ref b), .val (.int (0 : Int32)), .val (.int (0 : Int32)), .val .null, .unset] [(.ref x)]) (fun _ _ A k => XS.aloadN A hx rfl (hb hby own_d_jdk_42_method_149_8) rfl rfl k) ?_
  refine gldcR hx (ow hw 125 rfl) hSA (by decide) (n := 0) (by decide) (by decide) (vs := []) (z := (0 : Int32)) (by decide +kernel) (by decide) (by decide) 11 (hb hby own_d_jdk_42_method_149_9) rfl (by decide) (by decide) ?_
  intro b2 t2 k2 vm2 h2 E2 C2 Q2a Q2b Q2c Q2d Q2e
  have z2 := C2.2.1
  have S2 : Str Z h2 b2 t2 ([] : List Int32) := Str.lit Q2a Q2b Q2c Q2d (by decide) rfl rfl (by decide)
  have lt_b2 : h2.size > b2 := S2.1.lt
  have lt_t2 : h2.size > t2 := S2.tlt
  have f3 := (C2.safe (show h0.size > x by omega) L4)
  have ne2_x := Q2e x f3
  refine ggetF (host := "") hx (Or.inl (ow hw 30 rfl)) Via.refl S2.2.2.1 14 (hb hby own_d_jdk_42_method_149_11) rfl ?_
  have f4 := (P1.ext E2)
  have f5 := (P0.ext E2)
  refine gputF (host := "") hx (Or.inl (ow hw 30 rfl)) Via.refl f4 f5 (Or.inr ⟨(ow hw 31 rfl), rfl, hnm⟩) (ow hw 18 rfl) (ty := (.array .byte)) (by decide) rfl rfl P3 (fun _ => f3) 17 (hb hby own_d_jdk_42_method_149_14) rfl ?_
  intro h6 W6 C6
  have z6 := C6.2.1
  have F6 := f4.same W6
  refine gs (mkF m 18 #[.val (.ref x), .val (.ref b), .val (.int (0 : Int32)), .val (.int (0 : Int32)), .val .null, .unset] [(.ref x)]) (fun _ _ A k => XS.aloadN A hx rfl (hb hby own_d_jdk_42_method_149_17) rfl rfl k) ?_
  refine gldcR hx (ow hw 125 rfl) hSA (by decide) (n := 0) (by decide) (by decide) (vs := []) (z := (0 : Int32)) (by decide +kernel) (by decide) (by decide) 20 (hb hby own_d_jdk_42_method_149_18) rfl (by decide) (by decide) ?_
  intro b7 t7 k7 vm7 h7 E7 C7 Q7a Q7b Q7c Q7d Q7e
  have z7 := C7.2.1
  have S7 : Str Z h7 b7 t7 ([] : List Int32) := Str.lit Q7a Q7b Q7c Q7d (by decide) rfl rfl (by decide)
  have lt_b7 : h7.size > b7 := S7.1.lt
  have lt_t7 : h7.size > t7 := S7.tlt
  have f8 := (C7.safe (show h6.size > x by omega) (C6.safe (show h2.size > x by omega) f3))
  have ne7_x := Q7e x f8
  refine ggetF (host := "") hx (Or.inl (ow hw 32 rfl)) Via.refl S7.2.1 23 (hb hby own_d_jdk_42_method_149_20) rfl ?_
  have f9 := (((P2.ext E2).other W6 (Or.inr (slot_ne (Or.inr (ow hw 33 rfl)) (Or.inr (ow hw 31 rfl)) (by decide) (t := .byte) (t' := (.array .byte)) (by decide) (by decide)))).ext E7)
  have f10 := ((f5.wr W6).ext E7)
  refine gputF (host := "") hx (Or.inl (ow hw 32 rfl)) Via.refl f9 f10 (Or.inr ⟨(ow hw 33 rfl), rfl, hnm⟩) (ow hw 18 rfl) (ty := .byte) (by decide) rfl rfl P3 (fun _ => f8) 26 (hb hby own_d_jdk_42_method_149_23) rfl ?_
  intro h11 W11 C11
  have z11 := C11.2.1
  have F11 := f9.same W11
  have f13 := (((S2.other W6 (Ne.symm ne2_x.1) (Ne.symm ne2_x.2)).ext E7).other W11 (Ne.symm ne2_x.1) (Ne.symm ne2_x.2))
  have f15 := (f10.wr W11)
  have f16 := ((F6.ext E7).other W11 (Or.inr (slot_ne (Or.inr (ow hw 31 rfl)) (Or.inr (ow hw 33 rfl)) (by decide) (t := (.array .byte)) (t' := .byte) (by decide) (by decide))))
  have S14 : Str Z h11 x t2 ([] : List Int32) := ⟨f15, F11, f16, f13.2.2.2⟩
  have f17 := (C11.safe (show h7.size > x by omega) f8)
  exact gretV hx hret (hb hby own_d_jdk_42_method_149_26) (by decide) (by decide) (fun vq Cq => ⟨t2, rfl, (((((Keep.refl h0 [x]).ext E2).wr W6 (Or.inl (List.mem_of_getElem? (i := 0) rfl))).ext E7).wr W11 (Or.inl (List.mem_of_getElem? (i := 0) rfl))), S14, (Cq.safe (show h11.size > x by omega) f17)⟩)
theorem own_d_jdk_42_method_3_0 : decode jdk_42_method_3_code 0 = .ok (.aload_n 0, 1) := by decide +kernel
theorem own_d_jdk_42_method_3_1 : decode jdk_42_method_3_code 1 = .ok (.aload_n 1, 1) := by decide +kernel
theorem own_d_jdk_42_method_3_2 : decode jdk_42_method_3_code 2 = .ok (.iconst 0, 1) := by decide +kernel
theorem own_d_jdk_42_method_3_3 : decode jdk_42_method_3_code 3 = .ok (.aload_n 1, 1) := by decide +kernel
theorem own_d_jdk_42_method_3_4 : decode jdk_42_method_3_code 4 = .ok (.arraylength, 1) := by decide +kernel
theorem own_d_jdk_42_method_3_5 : decode jdk_42_method_3_code 5 = .ok (.aconst_null, 1) := by decide +kernel
theorem own_d_jdk_42_method_3_6 : decode jdk_42_method_3_code 6 = .ok (.invokespecial 27, 3) := by decide +kernel
theorem own_pd21 : parseMethodDescriptor "([CIILjava/lang/Void;)V" = some ⟨[(.array .char), .int, .int, (.object "java/lang/Void")], none⟩ := by decide +kernel
theorem own_d_jdk_42_method_3_9 : decode jdk_42_method_3_code 9 = .ok (.return_, 1) := by decide +kernel
set_option maxRecDepth 65536 in
set_option maxHeartbeats 40000000 in
theorem own_emp1 (l : Launch) (Z : State) (a0 : Array Value) (cx : Ctx Z a0) (ws : List Jvm.Cond) (x : Addr) (b : Addr) (v0 : Value) (c0 : Value) (kc : ClassId) (vm0 : Vm) (h0 : Heap) (X00 : Ext Z.heap h0) (P0 : Exa Z h0 x "java/lang/String") (P1 : Fld Z h0 x "java/lang/String" "value" "[B" v0) (P2 : Fld Z h0 x "java/lang/String" "coder" "B" c0) (P3 : Z.heap.size ≤ x) (P4 : Safe Z consts_1 vm0 h0 x) (P5 : Arv Z h0 b kc .char (0 : Int32) [] (.int (0 : Int32))) :
    Met l (⟨"java/lang/String", "<init>", "([C)V"⟩ : MethodName) jdk_42_method_3_code 2 none ws ({ frames := 2, cells := 4, slots := 8, locals := 29 } : Room) Z consts_1 vm0 h0 #[(.ref x), (.ref b)] (fun v vm h => ∃ (t : Addr), v = none ∧ Keep h0 h [x] ∧ Str Z h x t ([] : List Int32) ∧ Safe Z consts_1 vm h x) := by
  obtain ⟨hw, hEL, ⟨zc, Scs, hzc⟩, ⟨fm, Sfm, hfm⟩, ⟨kDATE, SDATE⟩, ⟨kCOMPUTED, SCOMPUTED⟩, ⟨kTEXT, STEXT⟩, ⟨kNUMBER, SNUMBER⟩, ⟨kBOOLEAN, SBOOLEAN⟩⟩ := id cx
  have hSA := own_SA hw
  refine Met.of_walk (a0 := a0) #[.val (.ref x), .val (.ref b)] (plainFor_of_name own_pn13) X00 hEL (fun m => by first | (simp [entryFrame, mkF, argsToLocals, Value.category]; done) | rfl) ?_
  intro p e s m below meth c vm hx hby hml hret hnm hC0
  have lt_x : h0.size > x := P0.lt
  have L4 := hC0.safe lt_x P4
  have lt_b : h0.size > b := P5.lt
  refine gs (mkF m 1 #[.val (.ref x), .val (.ref b)] [(.ref x)]) (fun _ _ A k => XS.aloadN A hx rfl (hb hby own_d_jdk_42_method_3_0) rfl rfl k) ?_
  refine gs (mkF m 2 #[.val (.ref x), .val (.ref b)] [(.ref b), (.ref x)]) (fun _ _ A k => XS.aloadN A hx rfl (hb hby own_d_jdk_42_method_3_1) rfl rfl k) ?_
  refine gs (mkF m 3 #[.val (.ref x), .val (.ref b)] [(.int (0 : Int32)), (.ref b), (.ref x)]) (fun _ _ A k => XS.iconst A hx rfl (hb hby own_d_jdk_42_method_3_2) k) ?_
  refine gs (mkF m 4 #[.val (.ref x), .val (.ref b)] [(.ref b), (.int (0 : Int32)), (.ref b), (.ref x)]) (fun _ _ A k => XS.aloadN A hx rfl (hb hby own_d_jdk_42_method_3_3) rfl rfl k) ?_
  refine glen hx P5 5 (hb hby own_d_jdk_42_method_3_4) rfl ?_
  refine gs (mkF m 6 #[.val (.ref x), .val (.ref b)] [.null, (.int (0 : Int32)), (.int (0 : Int32)), (.ref b), (.ref x)]) (fun _ _ A k => XS.aconstNull A hx rfl (hb hby own_d_jdk_42_method_3_5) k) ?_
  refine ginfo fun _ _ O1 => ?_
  refine gcallI (y := (⟨"java/lang/String", "<init>", "([CIILjava/lang/Void;)V"⟩ : MethodName)) hx rfl (ow hw 122 rfl) (ow hw 123 rfl) (ow hw 124 rfl) (by decide) (fun hZ H hEL => Pay.of_met (W := 0) (own_emp4 l Z a0 cx [] (x) (b) (v0) (c0) vm h0 O1 P0 P1 P2 P3 L4) (ow hw 124 rfl) (ow hw 10 rfl) (by decide) (by decide) hZ H hEL) (a := x) 9 (argsL := [(.ref b), (.int (0 : Int32)), (.int (0 : Int32)), .null]) (rest := []) (lenOf own_pd21 rfl) rfl rfl (Nat.le_of_eq rfl) (by rw [hml]; rfl) (hb hby own_d_jdk_42_method_3_6) rfl (by decide) (by decide) ?_
  rintro _ vm1 h1 C1 ⟨t1, rfl, K1, q1_0, q1_1⟩
  have z1 := C1.2.1
  have lt_t1 : h1.size > t1 := q1_0.tlt
  refine gat (mkF m 9 #[.val (.ref x), .val (.ref b)] []) rfl ?_
  exact gretV hx hret (hb hby own_d_jdk_42_method_3_9) (by decide) (by decide) (fun vq Cq => ⟨t1, rfl, ((Keep.refl h0 [x]).trans K1 (allS (Or.inl (List.mem_of_getElem? (i := 0) rfl)) all0)), q1_0, (Cq.safe (show h1.size > x by omega) q1_1)⟩)
theorem own_d_jdk_30_method_1_0 : decode jdk_30_method_1_code 0 = .ok (.aload_n 0, 1) := by decide +kernel
theorem own_d_jdk_30_method_1_1 : decode jdk_30_method_1_code 1 = .ok (.invokespecial 1, 3) := by decide +kernel
theorem own_d_jdk_30_method_1_4 : decode jdk_30_method_1_code 4 = .ok (.return_, 1) := by decide +kernel
theorem own_pn26 : plainName "java/lang/Record" = true := by first | (simp [plainName, overriddenIn]; done) | decide +kernel
set_option maxRecDepth 65536 in
set_option maxHeartbeats 40000000 in
theorem own_record (l : Launch) (Z : State) (a0 : Array Value) (cx : Ctx Z a0) (ws : List Jvm.Cond) (x : Addr) (vm0 : Vm) (h0 : Heap) (X00 : Ext Z.heap h0)  :
    Met l (⟨"java/lang/Record", "<init>", "()V"⟩ : MethodName) jdk_30_method_1_code 1 none ws ({ frames := 1, cells := 0, slots := 0, locals := 12 } : Room) Z consts_1 vm0 h0 #[(.ref x)] (fun v vm h => v = none ∧ h0 = h) := by
  obtain ⟨hw, hEL, ⟨zc, Scs, hzc⟩, ⟨fm, Sfm, hfm⟩, ⟨kDATE, SDATE⟩, ⟨kCOMPUTED, SCOMPUTED⟩, ⟨kTEXT, STEXT⟩, ⟨kNUMBER, SNUMBER⟩, ⟨kBOOLEAN, SBOOLEAN⟩⟩ := id cx
  have hSA := own_SA hw
  refine Met.of_walk (a0 := a0) #[.val (.ref x)] (plainFor_of_name own_pn26) X00 hEL (fun m => by first | (simp [entryFrame, mkF, argsToLocals, Value.category]; done) | rfl) ?_
  intro p e s m below meth c vm hx hby hml hret hnm hC0
  refine gs (mkF m 1 #[.val (.ref x)] [(.ref x)]) (fun _ _ A k => XS.aloadN A hx rfl (hb hby own_d_jdk_30_method_1_0) rfl rfl k) ?_
  refine ginitO hx (ow hw 45 rfl) (ow hw 28 rfl) (ow hw 29 rfl) 4 (W := 0) (Nat.le_of_eq rfl) (by rw [hml]; rfl) (hb hby own_d_jdk_30_method_1_1) rfl (by decide) (by decide) ?_
  exact gretV hx hret (hb hby own_d_jdk_30_method_1_4) (by decide) (by decide) (fun vq Cq => ⟨rfl, rfl⟩)
theorem own_d_jdk_31_method_11_0 : decode jdk_31_method_11_code 0 = .ok (.aload_n 0, 1) := by decide +kernel
theorem own_d_jdk_31_method_11_1 : decode jdk_31_method_11_code 1 = .ok (.ifnonnull 12, 3) := by decide +kernel
theorem own_d_jdk_31_method_11_13 : decode jdk_31_method_11_code 13 = .ok (.aload_n 0, 1) := by decide +kernel
theorem own_d_jdk_31_method_11_14 : decode jdk_31_method_11_code 14 = .ok (.areturn, 1) := by decide +kernel
theorem own_pn31 : plainName "java/util/Objects" = true := by first | (simp [plainName, overriddenIn]; done) | decide +kernel
set_option maxRecDepth 65536 in
set_option maxHeartbeats 40000000 in
theorem own_require2 (l : Launch) (Z : State) (a0 : Array Value) (cx : Ctx Z a0) (ws : List Jvm.Cond) (x : Addr) (b : Addr) (vm0 : Vm) (h0 : Heap) (X00 : Ext Z.heap h0)  :
    Met l (⟨"java/util/Objects", "requireNonNull", "(Ljava/lang/Object;Ljava/lang/String;)Ljava/lang/Object;"⟩ : MethodName) jdk_31_method_11_code 2 (some (.object "java/lang/Object")) ws ({ frames := 0, cells := 0, slots := 0, locals := 0 } : Room) Z consts_1 vm0 h0 #[(.ref x), (.ref b)] (fun v vm h => v = some (.ref x) ∧ h0 = h) := by
  obtain ⟨hw, hEL, ⟨zc, Scs, hzc⟩, ⟨fm, Sfm, hfm⟩, ⟨kDATE, SDATE⟩, ⟨kCOMPUTED, SCOMPUTED⟩, ⟨kTEXT, STEXT⟩, ⟨kNUMBER, SNUMBER⟩, ⟨kBOOLEAN, SBOOLEAN⟩⟩ := id cx
  have hSA := own_SA hw
  refine Met.of_walk (a0 := a0) #[.val (.ref x), .val (.ref b)] (plainFor_of_name own_pn31) X00 hEL (fun m => by first | (simp [entryFrame, mkF, argsToLocals, Value.category]; done) | rfl) ?_
  intro p e s m below meth c vm hx hby hml hret hnm hC0
  refine gs (mkF m 1 #[.val (.ref x), .val (.ref b)] [(.ref x)]) (fun _ _ A k => XS.aloadN A hx rfl (hb hby own_d_jdk_31_method_11_0) rfl rfl k) ?_
  refine gs (mkF m 13 #[.val (.ref x), .val (.ref b)] []) (fun _ _ A k => XS.ifnonnullYes A hx rfl (pc0 := 1) (pc' := 13) rfl (hb hby own_d_jdk_31_method_11_1) rfl (by decide) (by decide) k) ?_
  refine gs (mkF m 14 #[.val (.ref x), .val (.ref b)] [(.ref x)]) (fun _ _ A k => XS.aloadN A hx rfl (hb hby own_d_jdk_31_method_11_13) rfl rfl k) ?_
  exact gretA hx hret rfl rfl (hb hby own_d_jdk_31_method_11_14) (by decide) (by decide) (fun vq Cq => ⟨rfl, rfl⟩)
theorem own_d_method_2_0 : decode method_2_code 0 = .ok (.iload_n 0, 1) := by decide +kernel
theorem own_d_method_2_1 : decode method_2_code 1 = .ok (.ldc 7, 2) := by decide +kernel
theorem own_d_method_2_3 : decode method_2_code 3 = .ok (.iand, 1) := by decide +kernel
theorem own_d_method_2_4 : decode method_2_code 4 = .ok (.iconst 5, 1) := by decide +kernel
theorem own_d_method_2_5 : decode method_2_code 5 = .ok (.irem, 1) := by decide +kernel
theorem own_d_method_2_6 : decode method_2_code 6 = .ok (.istore_n 1, 1) := by decide +kernel
theorem own_d_method_2_7 : decode method_2_code 7 = .ok (.iload_n 1, 1) := by decide +kernel
theorem own_d_method_2_8 : decode method_2_code 8 = .ok (.ifCond .ne 7, 3) := by decide +kernel
theorem own_d_method_2_11 : decode method_2_code 11 = .ok (.getstatic 8, 3) := by decide +kernel
theorem own_d_method_2_14 : decode method_2_code 14 = .ok (.areturn, 1) := by decide +kernel
theorem own_d_method_2_15 : decode method_2_code 15 = .ok (.iload_n 1, 1) := by decide +kernel
theorem own_d_method_2_16 : decode method_2_code 16 = .ok (.iconst 1, 1) := by decide +kernel
theorem own_d_method_2_17 : decode method_2_code 17 = .ok (.if_icmp .ne 7, 3) := by decide +kernel
theorem own_d_method_2_20 : decode method_2_code 20 = .ok (.getstatic 14, 3) := by decide +kernel
theorem own_d_method_2_23 : decode method_2_code 23 = .ok (.areturn, 1) := by decide +kernel
theorem own_d_method_2_24 : decode method_2_code 24 = .ok (.iload_n 1, 1) := by decide +kernel
theorem own_d_method_2_25 : decode method_2_code 25 = .ok (.iconst 2, 1) := by decide +kernel
theorem own_d_method_2_26 : decode method_2_code 26 = .ok (.if_icmp .ne 7, 3) := by decide +kernel
theorem own_d_method_2_29 : decode method_2_code 29 = .ok (.getstatic 17, 3) := by decide +kernel
theorem own_d_method_2_32 : decode method_2_code 32 = .ok (.areturn, 1) := by decide +kernel
theorem own_d_method_2_33 : decode method_2_code 33 = .ok (.iload_n 1, 1) := by decide +kernel
theorem own_d_method_2_34 : decode method_2_code 34 = .ok (.iconst 3, 1) := by decide +kernel
theorem own_d_method_2_35 : decode method_2_code 35 = .ok (.if_icmp .ne 7, 3) := by decide +kernel
theorem own_d_method_2_38 : decode method_2_code 38 = .ok (.getstatic 20, 3) := by decide +kernel
theorem own_d_method_2_41 : decode method_2_code 41 = .ok (.areturn, 1) := by decide +kernel
theorem own_d_method_2_42 : decode method_2_code 42 = .ok (.getstatic 23, 3) := by decide +kernel
theorem own_d_method_2_45 : decode method_2_code 45 = .ok (.areturn, 1) := by decide +kernel
theorem own_pn59 : plainName "com/example/backfill/backfill/migration/NewColumnNotNullAtCompletePinLaw" = true := by first | (simp [plainName, overriddenIn]; done) | decide +kernel
set_option maxRecDepth 65536 in
set_option maxHeartbeats 40000000 in
theorem own_kindOf (l : Launch) (Z : State) (a0 : Array Value) (cx : Ctx Z a0) (ws : List Jvm.Cond) (x : Int32) (vm0 : Vm) (h0 : Heap) (X00 : Ext Z.heap h0)  :
    Met l (⟨"com/example/backfill/backfill/migration/NewColumnNotNullAtCompletePinLaw", "kindOf", "(I)Lcom/example/backfill/backfill/migration/ColumnValue$Kind;"⟩ : MethodName) method_2_code 2 (some (.object "com/example/backfill/backfill/migration/ColumnValue$Kind")) ws ({ frames := 0, cells := 0, slots := 0, locals := 0 } : Room) Z consts_1 vm0 h0 #[(.int x)] (fun v vm h => ∃ (r : Addr), v = some (.ref r) ∧ h0 = h) := by
  obtain ⟨hw, hEL, ⟨zc, Scs, hzc⟩, ⟨fm, Sfm, hfm⟩, ⟨kDATE, SDATE⟩, ⟨kCOMPUTED, SCOMPUTED⟩, ⟨kTEXT, STEXT⟩, ⟨kNUMBER, SNUMBER⟩, ⟨kBOOLEAN, SBOOLEAN⟩⟩ := id cx
  have hSA := own_SA hw
  refine Met.of_walk (a0 := a0) #[.val (.int x), .unset] (plainFor_of_name own_pn59) X00 hEL (fun m => by first | (simp [entryFrame, mkF, argsToLocals, Value.category]; done) | rfl) ?_
  intro p e s m below meth c vm hx hby hml hret hnm hC0
  refine gs (mkF m 1 #[.val (.int x), .unset] [(.int x)]) (fun _ _ A k => XS.iloadN A hx rfl (hb hby own_d_method_2_0) rfl  k) ?_
  refine gldcI hx (ow hw 4 rfl) 3 (hb hby own_d_method_2_1) rfl ?_
  refine gs (mkF m 4 #[.val (.int x), .unset] [(.int (x &&& (2147483647 : Int32)))]) (fun _ _ A k => XS.iand A hx rfl (hb hby own_d_method_2_3) rfl k) ?_
  refine gs (mkF m 5 #[.val (.int x), .unset] [(.int (5 : Int32)), (.int (x &&& (2147483647 : Int32)))]) (fun _ _ A k => XS.iconst A hx rfl (hb hby own_d_method_2_4) k) ?_
  refine gx (mkF m 6 #[.val (.int x), .unset] [(.int ((x &&& (2147483647 : Int32)) % (5 : Int32)))]) (fun T locs X _ _ _ _ k => iremM X hx rfl (hb hby own_d_method_2_5) rfl (by decide) k) ?_
  refine gs (mkF m 7 #[.val (.int x), .val (.int ((x &&& (2147483647 : Int32)) % (5 : Int32)))] []) (fun _ _ A k => XS.istoreN A hx rfl (hb hby own_d_method_2_6) rfl (l' := #[.val (.int x), .val (.int ((x &&& (2147483647 : Int32)) % (5 : Int32)))]) rfl k) ?_
  refine gs (mkF m 8 #[.val (.int x), .val (.int ((x &&& (2147483647 : Int32)) % (5 : Int32)))] [(.int ((x &&& (2147483647 : Int32)) % (5 : Int32)))]) (fun _ _ A k => XS.iloadN A hx rfl (hb hby own_d_method_2_7) rfl  k) ?_
  by_cases k0 : ((x &&& (2147483647 : Int32)) % (5 : Int32)) = (0 : Int32)
  · refine gs (mkF m 11 #[.val (.int x), .val (.int ((x &&& (2147483647 : Int32)) % (5 : Int32)))] []) (fun _ _ A k => XS.ifNo A hx rfl (hb hby own_d_method_2_8) rfl ((if0 _ _).trans (teq k0).2) k) ?_
    refine ggetS (host := "") hx (Or.inl (ow hw 126 rfl)) Via.refl STEXT 14 (hb hby own_d_method_2_11) rfl ?_
    exact gretA hx hret rfl rfl (hb hby own_d_method_2_14) (by decide) (by decide) (fun vq Cq => ⟨kTEXT, rfl, rfl⟩)
  · refine gs (mkF m 15 #[.val (.int x), .val (.int ((x &&& (2147483647 : Int32)) % (5 : Int32)))] []) (fun _ _ A k => XS.ifYes A hx rfl (pc0 := 8) (pc' := 15) rfl (hb hby own_d_method_2_8) rfl ((if0 _ _).trans (feq k0).2) (by decide) (by decide) k) ?_
    refine gs (mkF m 16 #[.val (.int x), .val (.int ((x &&& (2147483647 : Int32)) % (5 : Int32)))] [(.int ((x &&& (2147483647 : Int32)) % (5 : Int32)))]) (fun _ _ A k => XS.iloadN A hx rfl (hb hby own_d_method_2_15) rfl  k) ?_
    refine gs (mkF m 17 #[.val (.int x), .val (.int ((x &&& (2147483647 : Int32)) % (5 : Int32)))] [(.int (1 : Int32)), (.int ((x &&& (2147483647 : Int32)) % (5 : Int32)))]) (fun _ _ A k => XS.iconst A hx rfl (hb hby own_d_method_2_16) k) ?_
    by_cases k1 : ((x &&& (2147483647 : Int32)) % (5 : Int32)) = (1 : Int32)
    · refine gs (mkF m 20 #[.val (.int x), .val (.int ((x &&& (2147483647 : Int32)) % (5 : Int32)))] []) (fun _ _ A k => XS.icmpNo A hx rfl (hb hby own_d_method_2_17) rfl (teq k1).2 k) ?_
      refine ggetS (host := "") hx (Or.inl (ow hw 128 rfl)) Via.refl SNUMBER 23 (hb hby own_d_method_2_20) rfl ?_
      exact gretA hx hret rfl rfl (hb hby own_d_method_2_23) (by decide) (by decide) (fun vq Cq => ⟨kNUMBER, rfl, rfl⟩)
    · refine gs (mkF m 24 #[.val (.int x), .val (.int ((x &&& (2147483647 : Int32)) % (5 : Int32)))] []) (fun _ _ A k => XS.icmpYes A hx rfl (pc0 := 17) (pc' := 24) rfl (hb hby own_d_method_2_17) rfl (feq k1).2 (by decide) (by decide) k) ?_
      refine gs (mkF m 25 #[.val (.int x), .val (.int ((x &&& (2147483647 : Int32)) % (5 : Int32)))] [(.int ((x &&& (2147483647 : Int32)) % (5 : Int32)))]) (fun _ _ A k => XS.iloadN A hx rfl (hb hby own_d_method_2_24) rfl  k) ?_
      refine gs (mkF m 26 #[.val (.int x), .val (.int ((x &&& (2147483647 : Int32)) % (5 : Int32)))] [(.int (2 : Int32)), (.int ((x &&& (2147483647 : Int32)) % (5 : Int32)))]) (fun _ _ A k => XS.iconst A hx rfl (hb hby own_d_method_2_25) k) ?_
      by_cases k2 : ((x &&& (2147483647 : Int32)) % (5 : Int32)) = (2 : Int32)
      · refine gs (mkF m 29 #[.val (.int x), .val (.int ((x &&& (2147483647 : Int32)) % (5 : Int32)))] []) (fun _ _ A k => XS.icmpNo A hx rfl (hb hby own_d_method_2_26) rfl (teq k2).2 k) ?_
        refine ggetS (host := "") hx (Or.inl (ow hw 130 rfl)) Via.refl SBOOLEAN 32 (hb hby own_d_method_2_29) rfl ?_
        exact gretA hx hret rfl rfl (hb hby own_d_method_2_32) (by decide) (by decide) (fun vq Cq => ⟨kBOOLEAN, rfl, rfl⟩)
      · refine gs (mkF m 33 #[.val (.int x), .val (.int ((x &&& (2147483647 : Int32)) % (5 : Int32)))] []) (fun _ _ A k => XS.icmpYes A hx rfl (pc0 := 26) (pc' := 33) rfl (hb hby own_d_method_2_26) rfl (feq k2).2 (by decide) (by decide) k) ?_
        refine gs (mkF m 34 #[.val (.int x), .val (.int ((x &&& (2147483647 : Int32)) % (5 : Int32)))] [(.int ((x &&& (2147483647 : Int32)) % (5 : Int32)))]) (fun _ _ A k => XS.iloadN A hx rfl (hb hby own_d_method_2_33) rfl  k) ?_
        refine gs (mkF m 35 #[.val (.int x), .val (.int ((x &&& (2147483647 : Int32)) % (5 : Int32)))] [(.int (3 : Int32)), (.int ((x &&& (2147483647 : Int32)) % (5 : Int32)))]) (fun _ _ A k => XS.iconst A hx rfl (hb hby own_d_method_2_34) k) ?_
        by_cases k3 : ((x &&& (2147483647 : Int32)) % (5 : Int32)) = (3 : Int32)
        · refine gs (mkF m 38 #[.val (.int x), .val (.int ((x &&& (2147483647 : Int32)) % (5 : Int32)))] []) (fun _ _ A k => XS.icmpNo A hx rfl (hb hby own_d_method_2_35) rfl (teq k3).2 k) ?_
          refine ggetS (host := "") hx (Or.inl (ow hw 5 rfl)) Via.refl SDATE 41 (hb hby own_d_method_2_38) rfl ?_
          exact gretA hx hret rfl rfl (hb hby own_d_method_2_41) (by decide) (by decide) (fun vq Cq => ⟨kDATE, rfl, rfl⟩)
        · refine gs (mkF m 42 #[.val (.int x), .val (.int ((x &&& (2147483647 : Int32)) % (5 : Int32)))] []) (fun _ _ A k => XS.icmpYes A hx rfl (pc0 := 35) (pc' := 42) rfl (hb hby own_d_method_2_35) rfl (feq k3).2 (by decide) (by decide) k) ?_
          refine ggetS (host := "") hx (Or.inl (ow hw 101 rfl)) Via.refl SCOMPUTED 45 (hb hby own_d_method_2_42) rfl ?_
          exact gretA hx hret rfl rfl (hb hby own_d_method_2_45) (by decide) (by decide) (fun vq Cq => ⟨kCOMPUTED, rfl, rfl⟩)
theorem own_d_jdk_43_method_3_0 : decode jdk_43_method_3_code 0 = .ok (.iload_n 0, 1) := by decide +kernel
theorem own_d_jdk_43_method_3_1 : decode jdk_43_method_3_code 1 = .ok (.sipush 255, 3) := by decide +kernel
theorem own_d_jdk_43_method_3_4 : decode jdk_43_method_3_code 4 = .ok (.if_icmp .gt 7, 3) := by decide +kernel
theorem own_d_jdk_43_method_3_7 : decode jdk_43_method_3_code 7 = .ok (.iconst 1, 1) := by decide +kernel
theorem own_d_jdk_43_method_3_8 : decode jdk_43_method_3_code 8 = .ok (.goto 4, 3) := by decide +kernel
theorem own_d_jdk_43_method_3_12 : decode jdk_43_method_3_code 12 = .ok (.ireturn, 1) := by decide +kernel
theorem own_pn66 : plainName "java/lang/StringLatin1" = true := by first | (simp [plainName, overriddenIn]; done) | decide +kernel
set_option maxRecDepth 65536 in
set_option maxHeartbeats 40000000 in
theorem own_canEncode (l : Launch) (Z : State) (a0 : Array Value) (cx : Ctx Z a0) (ws : List Jvm.Cond) (ch : Int32) (vm0 : Vm) (h0 : Heap) (X00 : Ext Z.heap h0) (P0 : (¬ (255 : Int32) < ch)) :
    Met l (⟨"java/lang/StringLatin1", "canEncode", "(C)Z"⟩ : MethodName) jdk_43_method_3_code 1 (some .boolean) ws ({ frames := 0, cells := 0, slots := 0, locals := 0 } : Room) Z consts_1 vm0 h0 #[(.int ch)] (fun v vm h => v = some (.int (1 : Int32)) ∧ h0 = h) := by
  obtain ⟨hw, hEL, ⟨zc, Scs, hzc⟩, ⟨fm, Sfm, hfm⟩, ⟨kDATE, SDATE⟩, ⟨kCOMPUTED, SCOMPUTED⟩, ⟨kTEXT, STEXT⟩, ⟨kNUMBER, SNUMBER⟩, ⟨kBOOLEAN, SBOOLEAN⟩⟩ := id cx
  have hSA := own_SA hw
  refine Met.of_walk (a0 := a0) #[.val (.int ch)] (plainFor_of_name own_pn66) X00 hEL (fun m => by first | (simp [entryFrame, mkF, argsToLocals, Value.category]; done) | rfl) ?_
  intro p e s m below meth c vm hx hby hml hret hnm hC0
  refine gs (mkF m 1 #[.val (.int ch)] [(.int ch)]) (fun _ _ A k => XS.iloadN A hx rfl (hb hby own_d_jdk_43_method_3_0) rfl  k) ?_
  refine gs (mkF m 4 #[.val (.int ch)] [(.int (255 : Int32)), (.int ch)]) (fun _ _ A k => XS.sipush A hx rfl (hb hby own_d_jdk_43_method_3_1) k) ?_
  refine gs (mkF m 7 #[.val (.int ch)] []) (fun _ _ A k => XS.icmpNo A hx rfl (hb hby own_d_jdk_43_method_3_4) rfl (flt P0).2.2.1 k) ?_
  refine gs (mkF m 8 #[.val (.int ch)] [(.int (1 : Int32))]) (fun _ _ A k => XS.iconst A hx rfl (hb hby own_d_jdk_43_method_3_7) k) ?_
  refine gs (mkF m 12 #[.val (.int ch)] [(.int (1 : Int32))]) (fun _ _ A k => XS.goto A hx rfl (pc0 := 8) (pc' := 12) rfl (hb hby own_d_jdk_43_method_3_8) (by decide) (by decide) k) ?_
  exact gretN (t := .boolean) hx hret (by simp) (hb hby own_d_jdk_43_method_3_12) (by decide) (by decide) (fun vq Cq => ⟨rfl, rfl⟩)
theorem own_d_jdk_43_method_46_0 : decode jdk_43_method_46_code 0 = .ok (.iconst 1, 1) := by decide +kernel
theorem own_d_jdk_43_method_46_1 : decode jdk_43_method_46_code 1 = .ok (.newarray .byte, 2) := by decide +kernel
theorem own_d_jdk_43_method_46_3 : decode jdk_43_method_46_code 3 = .ok (.dup, 1) := by decide +kernel
theorem own_d_jdk_43_method_46_4 : decode jdk_43_method_46_code 4 = .ok (.iconst 0, 1) := by decide +kernel
theorem own_d_jdk_43_method_46_5 : decode jdk_43_method_46_code 5 = .ok (.iload_n 0, 1) := by decide +kernel
theorem own_d_jdk_43_method_46_6 : decode jdk_43_method_46_code 6 = .ok (.i2b, 1) := by decide +kernel
theorem own_d_jdk_43_method_46_7 : decode jdk_43_method_46_code 7 = .ok (.bastore, 1) := by decide +kernel
theorem own_d_jdk_43_method_46_8 : decode jdk_43_method_46_code 8 = .ok (.areturn, 1) := by decide +kernel
set_option maxRecDepth 65536 in
set_option maxHeartbeats 40000000 in
theorem own_toBytes1 (l : Launch) (Z : State) (a0 : Array Value) (cx : Ctx Z a0) (ws : List Jvm.Cond) (ch : Int32) (vm0 : Vm) (h0 : Heap) (X00 : Ext Z.heap h0)  :
    Met l (⟨"java/lang/StringLatin1", "toBytes", "(C)[B"⟩ : MethodName) jdk_43_method_46_code 1 (some (.array .byte)) ws ({ frames := 0, cells := 1, slots := 1, locals := 0 } : Room) Z consts_1 vm0 h0 #[(.int ch)] (fun v vm h => ∃ (r : Addr), ∃ (kb : ClassId), v = some (.ref r) ∧ Keep h0 h [] ∧ h0.size ≤ r ∧ Arv Z h r kb .byte (1 : Int32) [(.int (ch.toInt8.toInt32))] (.int (0 : Int32))) := by
  obtain ⟨hw, hEL, ⟨zc, Scs, hzc⟩, ⟨fm, Sfm, hfm⟩, ⟨kDATE, SDATE⟩, ⟨kCOMPUTED, SCOMPUTED⟩, ⟨kTEXT, STEXT⟩, ⟨kNUMBER, SNUMBER⟩, ⟨kBOOLEAN, SBOOLEAN⟩⟩ := id cx
  have hSA := own_SA hw
  refine Met.of_walk (a0 := a0) #[.val (.int ch)] (plainFor_of_name own_pn66) X00 hEL (fun m => by first | (simp [entryFrame, mkF, argsToLocals, Value.category]; done) | rfl) ?_
  intro p e s m below meth c vm hx hby hml hret hnm hC0
  refine gs (mkF m 1 #[.val (.int ch)] [(.int (1 : Int32))]) (fun _ _ A k => XS.iconst A hx rfl (hb hby own_d_jdk_43_method_46_0) k) ?_
  refine gnewP hx (ow hw 22 rfl) (n := (1 : Int32)) (by decide) (cap := 1) (by decide) (by decide) 3 (hb hby own_d_jdk_43_method_46_1) rfl (by decide) (by decide) ?_
  intro b1 h1 k1 g1 E1 C1 V1 n1 L1
  have z1 := C1.2.1
  have V1 : Arv Z h1 b1 k1 .byte (1 : Int32) [(.int (0 : Int32))] (.int (0 : Int32)) := V1.pad (pad_rep [] (.int (0 : Int32)) 1)
  have lt_b1 : h1.size > b1 := V1.lt
  refine gs (mkF m 4 #[.val (.int ch)] [(.ref b1), (.ref b1)]) (fun _ _ A k => XS.dup A hx rfl (hb hby own_d_jdk_43_method_46_3) rfl rfl k) ?_
  refine gs (mkF m 5 #[.val (.int ch)] [(.int (0 : Int32)), (.ref b1), (.ref b1)]) (fun _ _ A k => XS.iconst A hx rfl (hb hby own_d_jdk_43_method_46_4) k) ?_
  refine gs (mkF m 6 #[.val (.int ch)] [(.int ch), (.int (0 : Int32)), (.ref b1), (.ref b1)]) (fun _ _ A k => XS.iloadN A hx rfl (hb hby own_d_jdk_43_method_46_5) rfl  k) ?_
  refine gs (mkF m 7 #[.val (.int ch)] [(.int (ch.toInt8.toInt32)), (.int (0 : Int32)), (.ref b1), (.ref b1)]) (fun _ _ A k => XS.i2b A hx rfl (hb hby own_d_jdk_43_method_46_6) rfl k) ?_
  refine gstB hx V1 ⟨by decide, by decide⟩ (i := 0) rfl (Nat.le_of_ble_eq_true rfl) (y := (ch.toInt8.toInt32)) (narB _) n1 (fun _ => L1) 8 (hb hby own_d_jdk_43_method_46_7) rfl ?_
  intro h2 W2 C2 V2
  have z2 := C2.2.1
  replace V2 : Arv Z h2 b1 k1 .byte (1 : Int32) [(.int (ch.toInt8.toInt32))] (.int (0 : Int32)) := V2
  exact gretA hx hret rfl rfl (hb hby own_d_jdk_43_method_46_8) (by decide) (by decide) (fun vq Cq => ⟨b1, k1, rfl, (((Keep.refl h0 []).ext E1).wr W2 (Or.inr (by omega))), (by omega), V2⟩)
theorem own_d_jdk_42_method_151_0 : decode jdk_42_method_151_code 0 = .ok (.aload_n 0, 1) := by decide +kernel
theorem own_d_jdk_42_method_151_1 : decode jdk_42_method_151_code 1 = .ok (.invokespecial 1, 3) := by decide +kernel
theorem own_d_jdk_42_method_151_4 : decode jdk_42_method_151_code 4 = .ok (.aload_n 0, 1) := by decide +kernel
theorem own_d_jdk_42_method_151_5 : decode jdk_42_method_151_code 5 = .ok (.aload_n 1, 1) := by decide +kernel
theorem own_d_jdk_42_method_151_6 : decode jdk_42_method_151_code 6 = .ok (.putfield 9, 3) := by decide +kernel
theorem own_d_jdk_42_method_151_9 : decode jdk_42_method_151_code 9 = .ok (.aload_n 0, 1) := by decide +kernel
theorem own_d_jdk_42_method_151_10 : decode jdk_42_method_151_code 10 = .ok (.iload_n 2, 1) := by decide +kernel
theorem own_d_jdk_42_method_151_11 : decode jdk_42_method_151_code 11 = .ok (.putfield 15, 3) := by decide +kernel
theorem own_d_jdk_42_method_151_14 : decode jdk_42_method_151_code 14 = .ok (.return_, 1) := by decide +kernel
set_option maxRecDepth 65536 in
set_option maxHeartbeats 40000000 in
theorem own_initBB (l : Launch) (Z : State) (a0 : Array Value) (cx : Ctx Z a0) (ws : List Jvm.Cond) (x : Addr) (b : Addr) (v0 : Value) (c0 : Value) (vm0 : Vm) (h0 : Heap) (X00 : Ext Z.heap h0) (P0 : Exa Z h0 x "java/lang/String") (P1 : Fld Z h0 x "java/lang/String" "value" "[B" v0) (P2 : Fld Z h0 x "java/lang/String" "coder" "B" c0) (P3 : Z.heap.size ≤ x) (P4 : Safe Z consts_1 vm0 h0 x) :
    Met l (⟨"java/lang/String", "<init>", "([BB)V"⟩ : MethodName) jdk_42_method_151_code 3 none ws ({ frames := 1, cells := 0, slots := 0, locals := 12 } : Room) Z consts_1 vm0 h0 #[(.ref x), (.ref b), (.int (0 : Int32))] (fun v vm h => v = none ∧ Keep h0 h [x] ∧ Fld Z h x "java/lang/String" "value" "[B" (.ref b) ∧ Fld Z h x "java/lang/String" "coder" "B" (.int (0 : Int32)) ∧ Safe Z consts_1 vm h x) := by
  obtain ⟨hw, hEL, ⟨zc, Scs, hzc⟩, ⟨fm, Sfm, hfm⟩, ⟨kDATE, SDATE⟩, ⟨kCOMPUTED, SCOMPUTED⟩, ⟨kTEXT, STEXT⟩, ⟨kNUMBER, SNUMBER⟩, ⟨kBOOLEAN, SBOOLEAN⟩⟩ := id cx
  have hSA := own_SA hw
  refine Met.of_walk (a0 := a0) #[.val (.ref x), .val (.ref b), .val (.int (0 : Int32))] (plainFor_of_name own_pn13) X00 hEL (fun m => by first | (simp [entryFrame, mkF, argsToLocals, Value.category]; done) | rfl) ?_
  intro p e s m below meth c vm hx hby hml hret hnm hC0
  have lt_x : h0.size > x := P0.lt
  have L4 := hC0.safe lt_x P4
  refine gs (mkF m 1 #[.val (.ref x), .val (.ref b), .val (.int (0 : Int32))] [(.ref x)]) (fun _ _ A k => XS.aloadN A hx rfl (hb hby own_d_jdk_42_method_151_0) rfl rfl k) ?_
  refine ginitO hx (ow hw 27 rfl) (ow hw 28 rfl) (ow hw 29 rfl) 4 (W := 0) (Nat.le_of_eq rfl) (by rw [hml]; rfl) (hb hby own_d_jdk_42_method_151_1) rfl (by decide) (by decide) ?_
  refine gs (mkF m 5 #[.val (.ref x), .val (.ref b), .val (.int (0 : Int32))] [(.ref x)]) (fun _ _ A k => XS.aloadN A hx rfl (hb hby own_d_jdk_42_method_151_4) rfl rfl k) ?_
  refine gs (mkF m 6 #[.val (.ref x), .val (.ref b), .val (.int (0 : Int32))] [(.ref b), (.ref x)]) (fun _ _ A k => XS.aloadN A hx rfl (hb hby own_d_jdk_42_method_151_5) rfl rfl k) ?_
  refine gputF (host := "") hx (Or.inl (ow hw 30 rfl)) Via.refl P1 P0 (Or.inr ⟨(ow hw 31 rfl), rfl, hnm⟩) (ow hw 18 rfl) (ty := (.array .byte)) (by decide) rfl rfl P3 (fun _ => L4) 9 (hb hby own_d_jdk_42_method_151_6) rfl ?_
  intro h2 W2 C2
  have z2 := C2.2.1
  have F2 := P1.same W2
  refine gs (mkF m 10 #[.val (.ref x), .val (.ref b), .val (.int (0 : Int32))] [(.ref x)]) (fun _ _ A k => XS.aloadN A hx rfl (hb hby own_d_jdk_42_method_151_9) rfl rfl k) ?_
  refine gs (mkF m 11 #[.val (.ref x), .val (.ref b), .val (.int (0 : Int32))] [(.int (0 : Int32)), (.ref x)]) (fun _ _ A k => XS.iloadN A hx rfl (hb hby own_d_jdk_42_method_151_10) rfl  k) ?_
  have f3 := (P2.other W2 (Or.inr (slot_ne (Or.inr (ow hw 33 rfl)) (Or.inr (ow hw 31 rfl)) (by decide) (t := .byte) (t' := (.array .byte)) (by decide) (by decide))))
  have f4 := (P0.wr W2)
  have f5 := (C2.safe (show h0.size > x by omega) L4)
  refine gputF (host := "") hx (Or.inl (ow hw 32 rfl)) Via.refl f3 f4 (Or.inr ⟨(ow hw 33 rfl), rfl, hnm⟩) (ow hw 18 rfl) (ty := .byte) (by decide) rfl rfl P3 (fun _ => f5) 14 (hb hby own_d_jdk_42_method_151_11) rfl ?_
  intro h6 W6 C6
  have z6 := C6.2.1
  have F6 := f3.same W6
  have f8 := (F2.other W6 (Or.inr (slot_ne (Or.inr (ow hw 31 rfl)) (Or.inr (ow hw 33 rfl)) (by decide) (t := (.array .byte)) (t' := .byte) (by decide) (by decide))))
  have f9 := (C6.safe (show h2.size > x by omega) f5)
  exact gretV hx hret (hb hby own_d_jdk_42_method_151_14) (by decide) (by decide) (fun vq Cq => ⟨rfl, (((Keep.refl h0 [x]).wr W2 (Or.inl (List.mem_of_getElem? (i := 0) rfl))).wr W6 (Or.inl (List.mem_of_getElem? (i := 0) rfl))), f8, F6, (Cq.safe (show h6.size > x by omega) f9)⟩)
theorem own_d_jdk_42_method_139_0 : decode jdk_42_method_139_code 0 = .ok (.getstatic 38, 3) := by decide +kernel
theorem own_d_jdk_42_method_139_3 : decode jdk_42_method_139_code 3 = .ok (.ifCond .eq 23, 3) := by decide +kernel
theorem own_d_jdk_42_method_139_6 : decode jdk_42_method_139_code 6 = .ok (.iload_n 0, 1) := by decide +kernel
theorem own_d_jdk_42_method_139_7 : decode jdk_42_method_139_code 7 = .ok (.invokestatic 1015, 3) := by decide +kernel
theorem own_pd88 : parseMethodDescriptor "(C)Z" = some ⟨[.char], some .boolean⟩ := by decide +kernel
theorem own_d_jdk_42_method_139_10 : decode jdk_42_method_139_code 10 = .ok (.ifCond .eq 16, 3) := by decide +kernel
theorem own_d_jdk_42_method_139_13 : decode jdk_42_method_139_code 13 = .ok (.new 10, 3) := by decide +kernel
theorem own_d_jdk_42_method_139_16 : decode jdk_42_method_139_code 16 = .ok (.dup, 1) := by decide +kernel
theorem own_d_jdk_42_method_139_17 : decode jdk_42_method_139_code 17 = .ok (.iload_n 0, 1) := by decide +kernel
theorem own_d_jdk_42_method_139_18 : decode jdk_42_method_139_code 18 = .ok (.invokestatic 1018, 3) := by decide +kernel
theorem own_pd94 : parseMethodDescriptor "(C)[B" = some ⟨[.char], some (.array .byte)⟩ := by decide +kernel
theorem own_d_jdk_42_method_139_21 : decode jdk_42_method_139_code 21 = .ok (.iconst 0, 1) := by decide +kernel
theorem own_d_jdk_42_method_139_22 : decode jdk_42_method_139_code 22 = .ok (.invokespecial 209, 3) := by decide +kernel
theorem own_pd97 : parseMethodDescriptor "([BB)V" = some ⟨[(.array .byte), .byte], none⟩ := by decide +kernel
theorem own_d_jdk_42_method_139_25 : decode jdk_42_method_139_code 25 = .ok (.areturn, 1) := by decide +kernel
set_option maxRecDepth 65536 in
set_option maxHeartbeats 40000000 in
theorem own_valueOfC (l : Launch) (Z : State) (a0 : Array Value) (cx : Ctx Z a0) (ws : List Jvm.Cond) (ch : Int32) (vm0 : Vm) (h0 : Heap) (X00 : Ext Z.heap h0) (P0 : (B8 ch)) :
    Met l (⟨"java/lang/String", "valueOf", "(C)Ljava/lang/String;"⟩ : MethodName) jdk_42_method_139_code 1 (some (.object "java/lang/String")) ws ({ frames := 2, cells := 2, slots := 5, locals := 27 } : Room) Z consts_1 vm0 h0 #[(.int ch)] (fun v vm h => ∃ (r : Addr), ∃ (t : Addr), v = some (.ref r) ∧ Keep h0 h [] ∧ h0.size ≤ r ∧ Str Z h r t [ch]) := by
  obtain ⟨hw, hEL, ⟨zc, Scs, hzc⟩, ⟨fm, Sfm, hfm⟩, ⟨kDATE, SDATE⟩, ⟨kCOMPUTED, SCOMPUTED⟩, ⟨kTEXT, STEXT⟩, ⟨kNUMBER, SNUMBER⟩, ⟨kBOOLEAN, SBOOLEAN⟩⟩ := id cx
  have hSA := own_SA hw
  refine Met.of_walk (a0 := a0) #[.val (.int ch)] (plainFor_of_name own_pn13) X00 hEL (fun m => by first | (simp [entryFrame, mkF, argsToLocals, Value.category]; done) | rfl) ?_
  intro p e s m below meth c vm hx hby hml hret hnm hC0
  refine ggetS (host := "") hx (Or.inl (ow hw 12 rfl)) Via.refl Scs 3 (hb hby own_d_jdk_42_method_139_0) rfl ?_
  refine gs (mkF m 6 #[.val (.int ch)] []) (fun _ _ A k => XS.ifNo A hx rfl (hb hby own_d_jdk_42_method_139_3) rfl ((if0 _ _).trans (feq hzc).1) k) ?_
  refine gs (mkF m 7 #[.val (.int ch)] [(.int ch)]) (fun _ _ A k => XS.iloadN A hx rfl (hb hby own_d_jdk_42_method_139_6) rfl  k) ?_
  refine ginfo fun _ _ O1 => ?_
  refine gcallS (y := (⟨"java/lang/StringLatin1", "canEncode", "(C)Z"⟩ : MethodName)) hx (ow hw 13 rfl) (ow hw 14 rfl) (ow hw 15 rfl) (ow hw 16 rfl) (by decide) (fun hZ H hEL => Pay.of_met (W := 0) (own_canEncode l Z a0 cx [] (ch) vm h0 O1 P0.2) (ow hw 16 rfl) (ow hw 15 rfl) (by decide) (by decide) hZ H hEL) 10 (argsL := [(.int ch)]) (rest := []) (lenOf own_pd88 rfl) rfl rfl (Nat.le_of_eq rfl) (by rw [hml]; rfl) (hb hby own_d_jdk_42_method_139_7) rfl (by decide) (by decide) ?_
  rintro _ vm1 h1 C1 ⟨rfl, rfl⟩
  have z1 := C1.2.1
  refine gat (mkF m 10 #[.val (.int ch)] [(.int (1 : Int32))]) rfl ?_
  refine gs (mkF m 13 #[.val (.int ch)] []) (fun _ _ A k => XS.ifNo A hx rfl (hb hby own_d_jdk_42_method_139_10) rfl ((if0 _ _).trans (feq (by decide)).1) k) ?_
  refine gnewO hx (ow hw 17 rfl) (ow hw 18 rfl) (ow hw 10 rfl) 16 (hb hby own_d_jdk_42_method_139_13) rfl (by decide) (by decide) ?_
  intro b2 h2 g2 E2 C2 A2 D2 n2 L2
  have z2 := C2.2.1
  have lt_b2 : h2.size > b2 := A2.lt
  have F2_value : Fld Z h2 b2 "java/lang/String" "value" "[B" .null := D2 (Or.inr (ow hw 31 rfl)) (ty := (.array .byte)) (by decide)
  have F2_coder : Fld Z h2 b2 "java/lang/String" "coder" "B" (.int (0 : Int32)) := D2 (Or.inr (ow hw 33 rfl)) (ty := .byte) (by decide)
  refine gs (mkF m 17 #[.val (.int ch)] [(.ref b2), (.ref b2)]) (fun _ _ A k => XS.dup A hx rfl (hb hby own_d_jdk_42_method_139_16) rfl rfl k) ?_
  refine gs (mkF m 18 #[.val (.int ch)] [(.int ch), (.ref b2), (.ref b2)]) (fun _ _ A k => XS.iloadN A hx rfl (hb hby own_d_jdk_42_method_139_17) rfl  k) ?_
  refine ginfo fun _ _ O3 => ?_
  refine gcallS (y := (⟨"java/lang/StringLatin1", "toBytes", "(C)[B"⟩ : MethodName)) hx (ow hw 19 rfl) (ow hw 20 rfl) (ow hw 15 rfl) (ow hw 21 rfl) (by decide) (fun hZ H hEL => Pay.of_met (W := 2) (own_toBytes1 l Z a0 cx [] (ch) vm1 h2 O3 ) (ow hw 21 rfl) (ow hw 15 rfl) (by decide) (by decide) hZ H hEL) 21 (argsL := [(.int ch)]) (rest := [(.ref b2), (.ref b2)]) (lenOf own_pd94 rfl) rfl rfl (Nat.le_of_eq rfl) (by rw [hml]; rfl) (hb hby own_d_jdk_42_method_139_18) rfl (by decide) (by decide) ?_
  rintro _ vm3 h3 C3 ⟨r3, kb3, rfl, K3, q3_0, q3_1⟩
  have z3 := C3.2.1
  have lt_r3 : h3.size > r3 := q3_1.lt
  refine gat (mkF m 21 #[.val (.int ch)] [(.ref r3), (.ref b2), (.ref b2)]) rfl ?_
  refine gs (mkF m 22 #[.val (.int ch)] [(.int (0 : Int32)), (.ref r3), (.ref b2), (.ref b2)]) (fun _ _ A k => XS.iconst A hx rfl (hb hby own_d_jdk_42_method_139_21) k) ?_
  have f5 := (A2.keep K3)
  have f6 := (F2_value.keep K3 nin0)
  have f7 := (F2_coder.keep K3 nin0)
  have f8 := (C3.safe (show h2.size > b2 by omega) L2)
  refine ginfo fun _ _ O4 => ?_
  refine gcallI (y := (⟨"java/lang/String", "<init>", "([BB)V"⟩ : MethodName)) hx rfl (ow hw 23 rfl) (ow hw 24 rfl) (ow hw 26 rfl) (by decide) (fun hZ H hEL => Pay.of_met (W := 1) (own_initBB l Z a0 cx [] (b2) (r3) (.null) ((.int (0 : Int32))) vm3 h3 O4 f5 f6 f7 n2 f8) (ow hw 26 rfl) (ow hw 10 rfl) (by decide) (by decide) hZ H hEL) (a := b2) 25 (argsL := [(.ref r3), (.int (0 : Int32))]) (rest := [(.ref b2)]) (lenOf own_pd97 rfl) rfl rfl (Nat.le_of_eq rfl) (by rw [hml]; rfl) (hb hby own_d_jdk_42_method_139_22) rfl (by decide) (by decide) ?_
  rintro _ vm4 h4 C4 ⟨rfl, K4, q4_0, q4_1, q4_2⟩
  have z4 := C4.2.1
  refine gat (mkF m 25 #[.val (.int ch)] [(.ref b2)]) rfl ?_
  have f9 := (f5.keep K4)
  have f10 := (q3_1.keep K4 (ninS (Nat.ne_of_gt (by omega)) nin0))
  exact gretA hx hret rfl rfl (hb hby own_d_jdk_42_method_139_25) (by decide) (by decide) (fun vq Cq => ⟨b2, r3, rfl, ((((Keep.refl h0 []).ext E2).trans K3 all0).trans K4 (allS (Or.inr (by omega)) all0)), (by omega), ⟨f9, q4_1, q4_0, ⟨_, f10⟩, bcons P0 bnil, Nat.le_of_ble_eq_true rfl⟩⟩)
theorem own_d_prog_28_method_1_0 : decode prog_28_method_1_code 0 = .ok (.aload_n 0, 1) := by decide +kernel
theorem own_d_prog_28_method_1_1 : decode prog_28_method_1_code 1 = .ok (.invokespecial 1, 3) := by decide +kernel
theorem own_pd101 : parseMethodDescriptor "()V" = some ⟨[], none⟩ := by decide +kernel
theorem own_d_prog_28_method_1_4 : decode prog_28_method_1_code 4 = .ok (.aload_n 1, 1) := by decide +kernel
theorem own_d_prog_28_method_1_5 : decode prog_28_method_1_code 5 = .ok (.ldc 7, 2) := by decide +kernel
theorem own_d_prog_28_method_1_7 : decode prog_28_method_1_code 7 = .ok (.invokestatic 9, 3) := by decide +kernel
theorem own_pd105 : parseMethodDescriptor "(Ljava/lang/Object;Ljava/lang/String;)Ljava/lang/Object;" = some ⟨[(.object "java/lang/Object"), (.object "java/lang/String")], some (.object "java/lang/Object")⟩ := by decide +kernel
theorem own_d_prog_28_method_1_10 : decode prog_28_method_1_code 10 = .ok (.pop, 1) := by decide +kernel
theorem own_d_prog_28_method_1_11 : decode prog_28_method_1_code 11 = .ok (.aload_n 2, 1) := by decide +kernel
theorem own_d_prog_28_method_1_12 : decode prog_28_method_1_code 12 = .ok (.ldc 15, 2) := by decide +kernel
theorem own_d_prog_28_method_1_14 : decode prog_28_method_1_code 14 = .ok (.invokestatic 9, 3) := by decide +kernel
theorem own_d_prog_28_method_1_17 : decode prog_28_method_1_code 17 = .ok (.pop, 1) := by decide +kernel
theorem own_d_prog_28_method_1_18 : decode prog_28_method_1_code 18 = .ok (.iload 5, 2) := by decide +kernel
theorem own_d_prog_28_method_1_20 : decode prog_28_method_1_code 20 = .ok (.ifCond .eq 22, 3) := by decide +kernel
theorem own_d_prog_28_method_1_42 : decode prog_28_method_1_code 42 = .ok (.aload_n 0, 1) := by decide +kernel
theorem own_d_prog_28_method_1_43 : decode prog_28_method_1_code 43 = .ok (.aload_n 1, 1) := by decide +kernel
theorem own_d_prog_28_method_1_44 : decode prog_28_method_1_code 44 = .ok (.putfield 26, 3) := by decide +kernel
theorem own_d_prog_28_method_1_47 : decode prog_28_method_1_code 47 = .ok (.aload_n 0, 1) := by decide +kernel
theorem own_d_prog_28_method_1_48 : decode prog_28_method_1_code 48 = .ok (.aload_n 2, 1) := by decide +kernel
theorem own_d_prog_28_method_1_49 : decode prog_28_method_1_code 49 = .ok (.putfield 31, 3) := by decide +kernel
theorem own_d_prog_28_method_1_52 : decode prog_28_method_1_code 52 = .ok (.aload_n 0, 1) := by decide +kernel
theorem own_d_prog_28_method_1_53 : decode prog_28_method_1_code 53 = .ok (.aload_n 3, 1) := by decide +kernel
theorem own_d_prog_28_method_1_54 : decode prog_28_method_1_code 54 = .ok (.putfield 33, 3) := by decide +kernel
theorem own_d_prog_28_method_1_57 : decode prog_28_method_1_code 57 = .ok (.aload_n 0, 1) := by decide +kernel
theorem own_d_prog_28_method_1_58 : decode prog_28_method_1_code 58 = .ok (.iload 4, 2) := by decide +kernel
theorem own_d_prog_28_method_1_60 : decode prog_28_method_1_code 60 = .ok (.putfield 37, 3) := by decide +kernel
theorem own_d_prog_28_method_1_63 : decode prog_28_method_1_code 63 = .ok (.aload_n 0, 1) := by decide +kernel
theorem own_d_prog_28_method_1_64 : decode prog_28_method_1_code 64 = .ok (.iload 5, 2) := by decide +kernel
theorem own_d_prog_28_method_1_66 : decode prog_28_method_1_code 66 = .ok (.putfield 41, 3) := by decide +kernel
theorem own_d_prog_28_method_1_69 : decode prog_28_method_1_code 69 = .ok (.aload_n 0, 1) := by decide +kernel
theorem own_d_prog_28_method_1_70 : decode prog_28_method_1_code 70 = .ok (.iload 6, 2) := by decide +kernel
theorem own_d_prog_28_method_1_72 : decode prog_28_method_1_code 72 = .ok (.putfield 44, 3) := by decide +kernel
theorem own_d_prog_28_method_1_75 : decode prog_28_method_1_code 75 = .ok (.aload_n 0, 1) := by decide +kernel
theorem own_d_prog_28_method_1_76 : decode prog_28_method_1_code 76 = .ok (.iload 7, 2) := by decide +kernel
theorem own_d_prog_28_method_1_78 : decode prog_28_method_1_code 78 = .ok (.putfield 47, 3) := by decide +kernel
theorem own_d_prog_28_method_1_81 : decode prog_28_method_1_code 81 = .ok (.aload_n 0, 1) := by decide +kernel
theorem own_d_prog_28_method_1_82 : decode prog_28_method_1_code 82 = .ok (.aload 8, 2) := by decide +kernel
theorem own_d_prog_28_method_1_84 : decode prog_28_method_1_code 84 = .ok (.putfield 50, 3) := by decide +kernel
theorem own_d_prog_28_method_1_87 : decode prog_28_method_1_code 87 = .ok (.aload_n 0, 1) := by decide +kernel
theorem own_d_prog_28_method_1_88 : decode prog_28_method_1_code 88 = .ok (.aload 9, 2) := by decide +kernel
theorem own_d_prog_28_method_1_90 : decode prog_28_method_1_code 90 = .ok (.putfield 53, 3) := by decide +kernel
theorem own_d_prog_28_method_1_93 : decode prog_28_method_1_code 93 = .ok (.return_, 1) := by decide +kernel
theorem own_d_prog_28_method_1_23 : decode prog_28_method_1_code 23 = .ok (.iload 4, 2) := by decide +kernel
theorem own_d_prog_28_method_1_25 : decode prog_28_method_1_code 25 = .ok (.ifCond .eq 17, 3) := by decide +kernel
theorem own_pn143 : plainName "com/example/backfill/backfill/migration/ColumnDefinition" = true := by first | (simp [plainName, overriddenIn]; done) | decide +kernel
set_option maxRecDepth 65536 in
set_option maxHeartbeats 40000000 in
theorem own_cdinit (l : Launch) (Z : State) (a0 : Array Value) (cx : Ctx Z a0) (ws : List Jvm.Cond) (x : Addr) (s1 : Addr) (s2 : Addr) (dv : Value) (nu : Int32) (pk : Int32) (au : Int32) (un : Int32) (rv : Value) (vv : Value) (u0 : Value) (u1 : Value) (u2 : Value) (u3 : Value) (u4 : Value) (u5 : Value) (u6 : Value) (u7 : Value) (u8 : Value) (vm0 : Vm) (h0 : Heap) (X00 : Ext Z.heap h0) (P0 : Exa Z h0 x "com/example/backfill/backfill/migration/ColumnDefinition") (P1 : Fld Z h0 x "com/example/backfill/backfill/migration/ColumnDefinition" "name" "Ljava/lang/String;" u0) (P2 : Fld Z h0 x "com/example/backfill/backfill/migration/ColumnDefinition" "type" "Ljava/lang/String;" u1) (P3 : Fld Z h0 x "com/example/backfill/backfill/migration/ColumnDefinition" "defaultValue" "Lcom/example/backfill/backfill/migration/ColumnValue;" u2) (P4 : Fld Z h0 x "com/example/backfill/backfill/migration/ColumnDefinition" "nullable" "Z" u3) (P5 : Fld Z h0 x "com/example/backfill/backfill/migration/ColumnDefinition" "primaryKey" "Z" u4) (P6 : Fld Z h0 x "com/example/backfill/backfill/migration/ColumnDefinition" "autoIncrement" "Z" u5) (P7 : Fld Z h0 x "com/example/backfill/backfill/migration/ColumnDefinition" "unique" "Z" u6) (P8 : Fld Z h0 x "com/example/backfill/backfill/migration/ColumnDefinition" "remarks" "Ljava/lang/String;" u7) (P9 : Fld Z h0 x "com/example/backfill/backfill/migration/ColumnDefinition" "value" "Lcom/example/backfill/backfill/migration/ColumnValue;" u8) (P10 : Z.heap.size ≤ x) (isRef_dv : (dv.isRef = true)) (isRef_rv : (rv.isRef = true)) (isRef_vv : (vv.isRef = true)) (b_nu : (nu = 0 ∨ nu = 1)) (b_pk : (pk = 0 ∨ pk = 1)) (b_au : (au = 0 ∨ au = 1)) (b_un : (un = 0 ∨ un = 1)) (hpn : (pk = 0 ∨ nu = 0)) :
    Met l (⟨"com/example/backfill/backfill/migration/ColumnDefinition", "<init>", "(Ljava/lang/String;Ljava/lang/String;Lcom/example/backfill/backfill/migration/ColumnValue;ZZZZLjava/lang/String;Lcom/example/backfill/backfill/migration/ColumnValue;)V"⟩ : MethodName) prog_28_method_1_code 10 none ws ({ frames := 2, cells := 4, slots := 40, locals := 24 } : Room) Z consts_1 vm0 h0 #[(.ref x), (.ref s1), (.ref s2), dv, (.int nu), (.int pk), (.int au), (.int un), rv, vv] (fun v vm h => v = none ∧ Keep h0 h [x] ∧ Fld Z h x "com/example/backfill/backfill/migration/ColumnDefinition" "nullable" "Z" (.int nu) ∧ Fld Z h x "com/example/backfill/backfill/migration/ColumnDefinition" "defaultValue" "Lcom/example/backfill/backfill/migration/ColumnValue;" dv) := by
  obtain ⟨hw, hEL, ⟨zc, Scs, hzc⟩, ⟨fm, Sfm, hfm⟩, ⟨kDATE, SDATE⟩, ⟨kCOMPUTED, SCOMPUTED⟩, ⟨kTEXT, STEXT⟩, ⟨kNUMBER, SNUMBER⟩, ⟨kBOOLEAN, SBOOLEAN⟩⟩ := id cx
  have hSA := own_SA hw
  refine Met.of_walk (a0 := a0) #[.val (.ref x), .val (.ref s1), .val (.ref s2), .val dv, .val (.int nu), .val (.int pk), .val (.int au), .val (.int un), .val rv, .val vv] (plainFor_of_name own_pn143) X00 hEL (fun m => by rcases ref_cases isRef_dv with q | ⟨_, q⟩ <;> subst q <;> rcases ref_cases isRef_rv with q | ⟨_, q⟩ <;> subst q <;> rcases ref_cases isRef_vv with q | ⟨_, q⟩ <;> subst q <;> first | (simp [entryFrame, mkF, argsToLocals, Value.category]; done) | rfl) ?_
  intro p e s m below meth c vm hx hby hml hret hnm hC0
  have lt_x : h0.size > x := P0.lt
  refine gs (mkF m 1 #[.val (.ref x), .val (.ref s1), .val (.ref s2), .val dv, .val (.int nu), .val (.int pk), .val (.int au), .val (.int un), .val rv, .val vv] [(.ref x)]) (fun _ _ A k => XS.aloadN A hx rfl (hb hby own_d_prog_28_method_1_0) rfl rfl k) ?_
  refine ginfo fun _ _ O1 => ?_
  refine gcallI (y := (⟨"java/lang/Record", "<init>", "()V"⟩ : MethodName)) hx rfl (ow hw 40 rfl) (ow hw 41 rfl) (ow hw 44 rfl) (by decide) (fun hZ H hEL => Pay.of_met (W := 0) (own_record l Z a0 cx [] (x) vm h0 O1 ) (ow hw 44 rfl) (ow hw 43 rfl) (by decide) (by decide) hZ H hEL) (a := x) 4 (argsL := []) (rest := []) (lenOf own_pd101 rfl) rfl rfl (Nat.le_of_eq rfl) (by rw [hml]; rfl) (hb hby own_d_prog_28_method_1_1) rfl (by decide) (by decide) ?_
  rintro _ vm1 h1 C1 ⟨rfl, rfl⟩
  have z1 := C1.2.1
  refine gat (mkF m 4 #[.val (.ref x), .val (.ref s1), .val (.ref s2), .val dv, .val (.int nu), .val (.int pk), .val (.int au), .val (.int un), .val rv, .val vv] []) rfl ?_
  refine gs (mkF m 5 #[.val (.ref x), .val (.ref s1), .val (.ref s2), .val dv, .val (.int nu), .val (.int pk), .val (.int au), .val (.int un), .val rv, .val vv] [(.ref s1)]) (fun _ _ A k => XS.aloadN A hx rfl (hb hby own_d_prog_28_method_1_4) rfl rfl k) ?_
  refine gldcO hx (ow hw 46 rfl) hSA (n := 16) (by decide) (by decide) 7 (hb hby own_d_prog_28_method_1_5) rfl (by decide) (by decide) ?_
  intro b2 vm2 h2 E2 C2
  have z2 := C2.2.1
  refine ginfo fun _ _ O3 => ?_
  refine gcallS (y := (⟨"java/util/Objects", "requireNonNull", "(Ljava/lang/Object;Ljava/lang/String;)Ljava/lang/Object;"⟩ : MethodName)) hx (ow hw 49 rfl) (ow hw 50 rfl) (ow hw 51 rfl) (ow hw 52 rfl) (by decide) (fun hZ H hEL => Pay.of_met (W := 0) (own_require2 l Z a0 cx [] (s1) (b2) vm2 h2 O3 ) (ow hw 52 rfl) (ow hw 51 rfl) (by decide) (by decide) hZ H hEL) 10 (argsL := [(.ref s1), (.ref b2)]) (rest := []) (lenOf own_pd105 rfl) rfl rfl (Nat.le_of_eq rfl) (by rw [hml]; rfl) (hb hby own_d_prog_28_method_1_7) rfl (by decide) (by decide) ?_
  rintro _ vm3 h3 C3 ⟨rfl, rfl⟩
  have z3 := C3.2.1
  refine gat (mkF m 10 #[.val (.ref x), .val (.ref s1), .val (.ref s2), .val dv, .val (.int nu), .val (.int pk), .val (.int au), .val (.int un), .val rv, .val vv] [(.ref s1)]) rfl ?_
  refine gs (mkF m 11 #[.val (.ref x), .val (.ref s1), .val (.ref s2), .val dv, .val (.int nu), .val (.int pk), .val (.int au), .val (.int un), .val rv, .val vv] []) (fun _ _ A k => XS.pop A hx rfl (hb hby own_d_prog_28_method_1_10) rfl rfl k) ?_
  refine gs (mkF m 12 #[.val (.ref x), .val (.ref s1), .val (.ref s2), .val dv, .val (.int nu), .val (.int pk), .val (.int au), .val (.int un), .val rv, .val vv] [(.ref s2)]) (fun _ _ A k => XS.aloadN A hx rfl (hb hby own_d_prog_28_method_1_11) rfl rfl k) ?_
  refine gldcO hx (ow hw 53 rfl) hSA (n := 16) (by decide) (by decide) 14 (hb hby own_d_prog_28_method_1_12) rfl (by decide) (by decide) ?_
  intro b4 vm4 h4 E4 C4
  have z4 := C4.2.1
  refine ginfo fun _ _ O5 => ?_
  refine gcallS (y := (⟨"java/util/Objects", "requireNonNull", "(Ljava/lang/Object;Ljava/lang/String;)Ljava/lang/Object;"⟩ : MethodName)) hx (ow hw 49 rfl) (ow hw 50 rfl) (ow hw 51 rfl) (ow hw 52 rfl) (by decide) (fun hZ H hEL => Pay.of_met (W := 0) (own_require2 l Z a0 cx [] (s2) (b4) vm4 h4 O5 ) (ow hw 52 rfl) (ow hw 51 rfl) (by decide) (by decide) hZ H hEL) 17 (argsL := [(.ref s2), (.ref b4)]) (rest := []) (lenOf own_pd105 rfl) rfl rfl (Nat.le_of_eq rfl) (by rw [hml]; rfl) (hb hby own_d_prog_28_method_1_14) rfl (by decide) (by decide) ?_
  rintro _ vm5 h5 C5 ⟨rfl, rfl⟩
  have z5 := C5.2.1
  refine gat (mkF m 17 #[.val (.ref x), .val (.ref s1), .val (.ref s2), .val dv, .val (.int nu), .val (.int pk), .val (.int au), .val (.int un), .val rv, .val vv] [(.ref s2)]) rfl ?_
  refine gs (mkF m 18 #[.val (.ref x), .val (.ref s1), .val (.ref s2), .val dv, .val (.int nu), .val (.int pk), .val (.int au), .val (.int un), .val rv, .val vv] []) (fun _ _ A k => XS.pop A hx rfl (hb hby own_d_prog_28_method_1_17) rfl rfl k) ?_
  refine gs (mkF m 20 #[.val (.ref x), .val (.ref s1), .val (.ref s2), .val dv, .val (.int nu), .val (.int pk), .val (.int au), .val (.int un), .val rv, .val vv] [(.int pk)]) (fun _ _ A k => XS.iload A hx rfl (hb hby own_d_prog_28_method_1_18) rfl  k) ?_
  by_cases hpk : pk = (0 : Int32)
  · refine gs (mkF m 42 #[.val (.ref x), .val (.ref s1), .val (.ref s2), .val dv, .val (.int nu), .val (.int pk), .val (.int au), .val (.int un), .val rv, .val vv] []) (fun _ _ A k => XS.ifYes A hx rfl (pc0 := 20) (pc' := 42) rfl (hb hby own_d_prog_28_method_1_20) rfl ((if0 _ _).trans (teq hpk).1) (by decide) (by decide) k) ?_
    refine gs (mkF m 43 #[.val (.ref x), .val (.ref s1), .val (.ref s2), .val dv, .val (.int nu), .val (.int pk), .val (.int au), .val (.int un), .val rv, .val vv] [(.ref x)]) (fun _ _ A k => XS.aloadN A hx rfl (hb hby own_d_prog_28_method_1_42) rfl rfl k) ?_
    refine gs (mkF m 44 #[.val (.ref x), .val (.ref s1), .val (.ref s2), .val dv, .val (.int nu), .val (.int pk), .val (.int au), .val (.int un), .val rv, .val vv] [(.ref s1), (.ref x)]) (fun _ _ A k => XS.aloadN A hx rfl (hb hby own_d_prog_28_method_1_43) rfl rfl k) ?_
    have f6 := ((P1.ext E2).ext E4)
    have f7 := ((P0.ext E2).ext E4)
    refine gputF (host := "") hx (Or.inl (ow hw 54 rfl)) Via.refl f6 f7 (Or.inr ⟨(ow hw 55 rfl), rfl, hnm⟩) (ow hw 35 rfl) (ty := (.object "java/lang/String")) (by decide) rfl rfl P10 (fun al => Safe.exa al f7 (by decide) (by decide)) 47 (hb hby own_d_prog_28_method_1_44) rfl ?_
    intro h8 W8 C8
    have z8 := C8.2.1
    have F8 := f6.same W8
    refine gs (mkF m 48 #[.val (.ref x), .val (.ref s1), .val (.ref s2), .val dv, .val (.int nu), .val (.int pk), .val (.int au), .val (.int un), .val rv, .val vv] [(.ref x)]) (fun _ _ A k => XS.aloadN A hx rfl (hb hby own_d_prog_28_method_1_47) rfl rfl k) ?_
    refine gs (mkF m 49 #[.val (.ref x), .val (.ref s1), .val (.ref s2), .val dv, .val (.int nu), .val (.int pk), .val (.int au), .val (.int un), .val rv, .val vv] [(.ref s2), (.ref x)]) (fun _ _ A k => XS.aloadN A hx rfl (hb hby own_d_prog_28_method_1_48) rfl rfl k) ?_
    have f9 := (((P2.ext E2).ext E4).other W8 (Or.inr (slot_ne (Or.inr (ow hw 57 rfl)) (Or.inr (ow hw 55 rfl)) (by decide) (t := (.object "java/lang/String")) (t' := (.object "java/lang/String")) (by decide) (by decide))))
    have f10 := (f7.wr W8)
    refine gputF (host := "") hx (Or.inl (ow hw 56 rfl)) Via.refl f9 f10 (Or.inr ⟨(ow hw 57 rfl), rfl, hnm⟩) (ow hw 35 rfl) (ty := (.object "java/lang/String")) (by decide) rfl rfl P10 (fun al => Safe.exa al f10 (by decide) (by decide)) 52 (hb hby own_d_prog_28_method_1_49) rfl ?_
    intro h11 W11 C11
    have z11 := C11.2.1
    have F11 := f9.same W11
    refine gs (mkF m 53 #[.val (.ref x), .val (.ref s1), .val (.ref s2), .val dv, .val (.int nu), .val (.int pk), .val (.int au), .val (.int un), .val rv, .val vv] [(.ref x)]) (fun _ _ A k => XS.aloadN A hx rfl (hb hby own_d_prog_28_method_1_52) rfl rfl k) ?_
    refine gs (mkF m 54 #[.val (.ref x), .val (.ref s1), .val (.ref s2), .val dv, .val (.int nu), .val (.int pk), .val (.int au), .val (.int un), .val rv, .val vv] [dv, (.ref x)]) (fun _ _ A k => XS.aloadN A hx rfl (hb hby own_d_prog_28_method_1_53) rfl isRef_dv k) ?_
    have f12 := ((((P3.ext E2).ext E4).other W8 (Or.inr (slot_ne (Or.inr (ow hw 59 rfl)) (Or.inr (ow hw 55 rfl)) (by decide) (t := (.object "com/example/backfill/backfill/migration/ColumnValue")) (t' := (.object "java/lang/String")) (by decide) (by decide)))).other W11 (Or.inr (slot_ne (Or.inr (ow hw 59 rfl)) (Or.inr (ow hw 57 rfl)) (by decide) (t := (.object "com/example/backfill/backfill/migration/ColumnValue")) (t' := (.object "java/lang/String")) (by decide) (by decide))))
    have f13 := (f10.wr W11)
    refine gputF (host := "") hx (Or.inl (ow hw 58 rfl)) Via.refl f12 f13 (Or.inr ⟨(ow hw 59 rfl), rfl, hnm⟩) (ow hw 35 rfl) (ty := (.object "com/example/backfill/backfill/migration/ColumnValue")) (by decide) (by rcases ref_cases isRef_dv with q | ⟨_, q⟩ <;> rw [q] <;> rfl) (by rcases ref_cases isRef_dv with q | ⟨_, q⟩ <;> rw [q] <;> rfl) P10 (fun al => Safe.exa al f13 (by decide) (by decide)) 57 (hb hby own_d_prog_28_method_1_54) rfl ?_
    intro h14 W14 C14
    have z14 := C14.2.1
    have F14 := f12.same W14
    refine gs (mkF m 58 #[.val (.ref x), .val (.ref s1), .val (.ref s2), .val dv, .val (.int nu), .val (.int pk), .val (.int au), .val (.int un), .val rv, .val vv] [(.ref x)]) (fun _ _ A k => XS.aloadN A hx rfl (hb hby own_d_prog_28_method_1_57) rfl rfl k) ?_
    refine gs (mkF m 60 #[.val (.ref x), .val (.ref s1), .val (.ref s2), .val dv, .val (.int nu), .val (.int pk), .val (.int au), .val (.int un), .val rv, .val vv] [(.int nu), (.ref x)]) (fun _ _ A k => XS.iload A hx rfl (hb hby own_d_prog_28_method_1_58) rfl  k) ?_
    have f15 := (((((P4.ext E2).ext E4).other W8 (Or.inr (slot_ne (Or.inr (ow hw 61 rfl)) (Or.inr (ow hw 55 rfl)) (by decide) (t := .boolean) (t' := (.object "java/lang/String")) (by decide) (by decide)))).other W11 (Or.inr (slot_ne (Or.inr (ow hw 61 rfl)) (Or.inr (ow hw 57 rfl)) (by decide) (t := .boolean) (t' := (.object "java/lang/String")) (by decide) (by decide)))).other W14 (Or.inr (slot_ne (Or.inr (ow hw 61 rfl)) (Or.inr (ow hw 59 rfl)) (by decide) (t := .boolean) (t' := (.object "com/example/backfill/backfill/migration/ColumnValue")) (by decide) (by decide))))
    have f16 := (f13.wr W14)
    refine gputF (host := "") hx (Or.inl (ow hw 60 rfl)) Via.refl f15 f16 (Or.inr ⟨(ow hw 61 rfl), rfl, hnm⟩) (ow hw 35 rfl) (ty := .boolean) (by decide) (by rcases b_nu with q | q <;> rw [q] <;> rfl) (by rcases b_nu with q | q <;> rw [q] <;> rfl) P10 (fun al => Safe.exa al f16 (by decide) (by decide)) 63 (hb hby own_d_prog_28_method_1_60) rfl ?_
    intro h17 W17 C17
    have z17 := C17.2.1
    have F17 := f15.same W17
    refine gs (mkF m 64 #[.val (.ref x), .val (.ref s1), .val (.ref s2), .val dv, .val (.int nu), .val (.int pk), .val (.int au), .val (.int un), .val rv, .val vv] [(.ref x)]) (fun _ _ A k => XS.aloadN A hx rfl (hb hby own_d_prog_28_method_1_63) rfl rfl k) ?_
    refine gs (mkF m 66 #[.val (.ref x), .val (.ref s1), .val (.ref s2), .val dv, .val (.int nu), .val (.int pk), .val (.int au), .val (.int un), .val rv, .val vv] [(.int pk), (.ref x)]) (fun _ _ A k => XS.iload A hx rfl (hb hby own_d_prog_28_method_1_64) rfl  k) ?_
    have f18 := ((((((P5.ext E2).ext E4).other W8 (Or.inr (slot_ne (Or.inr (ow hw 63 rfl)) (Or.inr (ow hw 55 rfl)) (by decide) (t := .boolean) (t' := (.object "java/lang/String")) (by decide) (by decide)))).other W11 (Or.inr (slot_ne (Or.inr (ow hw 63 rfl)) (Or.inr (ow hw 57 rfl)) (by decide) (t := .boolean) (t' := (.object "java/lang/String")) (by decide) (by decide)))).other W14 (Or.inr (slot_ne (Or.inr (ow hw 63 rfl)) (Or.inr (ow hw 59 rfl)) (by decide) (t := .boolean) (t' := (.object "com/example/backfill/backfill/migration/ColumnValue")) (by decide) (by decide)))).other W17 (Or.inr (slot_ne (Or.inr (ow hw 63 rfl)) (Or.inr (ow hw 61 rfl)) (by decide) (t := .boolean) (t' := .boolean) (by decide) (by decide))))
    have f19 := (f16.wr W17)
    refine gputF (host := "") hx (Or.inl (ow hw 62 rfl)) Via.refl f18 f19 (Or.inr ⟨(ow hw 63 rfl), rfl, hnm⟩) (ow hw 35 rfl) (ty := .boolean) (by decide) (by rcases b_pk with q | q <;> rw [q] <;> rfl) (by rcases b_pk with q | q <;> rw [q] <;> rfl) P10 (fun al => Safe.exa al f19 (by decide) (by decide)) 69 (hb hby own_d_prog_28_method_1_66) rfl ?_
    intro h20 W20 C20
    have z20 := C20.2.1
    have F20 := f18.same W20
    refine gs (mkF m 70 #[.val (.ref x), .val (.ref s1), .val (.ref s2), .val dv, .val (.int nu), .val (.int pk), .val (.int au), .val (.int un), .val rv, .val vv] [(.ref x)]) (fun _ _ A k => XS.aloadN A hx rfl (hb hby own_d_prog_28_method_1_69) rfl rfl k) ?_
    refine gs (mkF m 72 #[.val (.ref x), .val (.ref s1), .val (.ref s2), .val dv, .val (.int nu), .val (.int pk), .val (.int au), .val (.int un), .val rv, .val vv] [(.int au), (.ref x)]) (fun _ _ A k => XS.iload A hx rfl (hb hby own_d_prog_28_method_1_70) rfl  k) ?_
    have f21 := (((((((P6.ext E2).ext E4).other W8 (Or.inr (slot_ne (Or.inr (ow hw 65 rfl)) (Or.inr (ow hw 55 rfl)) (by decide) (t := .boolean) (t' := (.object "java/lang/String")) (by decide) (by decide)))).other W11 (Or.inr (slot_ne (Or.inr (ow hw 65 rfl)) (Or.inr (ow hw 57 rfl)) (by decide) (t := .boolean) (t' := (.object "java/lang/String")) (by decide) (by decide)))).other W14 (Or.inr (slot_ne (Or.inr (ow hw 65 rfl)) (Or.inr (ow hw 59 rfl)) (by decide) (t := .boolean) (t' := (.object "com/example/backfill/backfill/migration/ColumnValue")) (by decide) (by decide)))).other W17 (Or.inr (slot_ne (Or.inr (ow hw 65 rfl)) (Or.inr (ow hw 61 rfl)) (by decide) (t := .boolean) (t' := .boolean) (by decide) (by decide)))).other W20 (Or.inr (slot_ne (Or.inr (ow hw 65 rfl)) (Or.inr (ow hw 63 rfl)) (by decide) (t := .boolean) (t' := .boolean) (by decide) (by decide))))
    have f22 := (f19.wr W20)
    refine gputF (host := "") hx (Or.inl (ow hw 64 rfl)) Via.refl f21 f22 (Or.inr ⟨(ow hw 65 rfl), rfl, hnm⟩) (ow hw 35 rfl) (ty := .boolean) (by decide) (by rcases b_au with q | q <;> rw [q] <;> rfl) (by rcases b_au with q | q <;> rw [q] <;> rfl) P10 (fun al => Safe.exa al f22 (by decide) (by decide)) 75 (hb hby own_d_prog_28_method_1_72) rfl ?_
    intro h23 W23 C23
    have z23 := C23.2.1
    have F23 := f21.same W23
    refine gs (mkF m 76 #[.val (.ref x), .val (.ref s1), .val (.ref s2), .val dv, .val (.int nu), .val (.int pk), .val (.int au), .val (.int un), .val rv, .val vv] [(.ref x)]) (fun _ _ A k => XS.aloadN A hx rfl (hb hby own_d_prog_28_method_1_75) rfl rfl k) ?_
    refine gs (mkF m 78 #[.val (.ref x), .val (.ref s1), .val (.ref s2), .val dv, .val (.int nu), .val (.int pk), .val (.int au), .val (.int un), .val rv, .val vv] [(.int un), (.ref x)]) (fun _ _ A k => XS.iload A hx rfl (hb hby own_d_prog_28_method_1_76) rfl  k) ?_
    have f24 := ((((((((P7.ext E2).ext E4).other W8 (Or.inr (slot_ne (Or.inr (ow hw 67 rfl)) (Or.inr (ow hw 55 rfl)) (by decide) (t := .boolean) (t' := (.object "java/lang/String")) (by decide) (by decide)))).other W11 (Or.inr (slot_ne (Or.inr (ow hw 67 rfl)) (Or.inr (ow hw 57 rfl)) (by decide) (t := .boolean) (t' := (.object "java/lang/String")) (by decide) (by decide)))).other W14 (Or.inr (slot_ne (Or.inr (ow hw 67 rfl)) (Or.inr (ow hw 59 rfl)) (by decide) (t := .boolean) (t' := (.object "com/example/backfill/backfill/migration/ColumnValue")) (by decide) (by decide)))).other W17 (Or.inr (slot_ne (Or.inr (ow hw 67 rfl)) (Or.inr (ow hw 61 rfl)) (by decide) (t := .boolean) (t' := .boolean) (by decide) (by decide)))).other W20 (Or.inr (slot_ne (Or.inr (ow hw 67 rfl)) (Or.inr (ow hw 63 rfl)) (by decide) (t := .boolean) (t' := .boolean) (by decide) (by decide)))).other W23 (Or.inr (slot_ne (Or.inr (ow hw 67 rfl)) (Or.inr (ow hw 65 rfl)) (by decide) (t := .boolean) (t' := .boolean) (by decide) (by decide))))
    have f25 := (f22.wr W23)
    refine gputF (host := "") hx (Or.inl (ow hw 66 rfl)) Via.refl f24 f25 (Or.inr ⟨(ow hw 67 rfl), rfl, hnm⟩) (ow hw 35 rfl) (ty := .boolean) (by decide) (by rcases b_un with q | q <;> rw [q] <;> rfl) (by rcases b_un with q | q <;> rw [q] <;> rfl) P10 (fun al => Safe.exa al f25 (by decide) (by decide)) 81 (hb hby own_d_prog_28_method_1_78) rfl ?_
    intro h26 W26 C26
    have z26 := C26.2.1
    have F26 := f24.same W26
    refine gs (mkF m 82 #[.val (.ref x), .val (.ref s1), .val (.ref s2), .val dv, .val (.int nu), .val (.int pk), .val (.int au), .val (.int un), .val rv, .val vv] [(.ref x)]) (fun _ _ A k => XS.aloadN A hx rfl (hb hby own_d_prog_28_method_1_81) rfl rfl k) ?_
    refine gs (mkF m 84 #[.val (.ref x), .val (.ref s1), .val (.ref s2), .val dv, .val (.int nu), .val (.int pk), .val (.int au), .val (.int un), .val rv, .val vv] [rv, (.ref x)]) (fun _ _ A k => XS.aload A hx rfl (hb hby own_d_prog_28_method_1_82) rfl isRef_rv k) ?_
    have f27 := (((((((((P8.ext E2).ext E4).other W8 (Or.inr (slot_ne (Or.inr (ow hw 69 rfl)) (Or.inr (ow hw 55 rfl)) (by decide) (t := (.object "java/lang/String")) (t' := (.object "java/lang/String")) (by decide) (by decide)))).other W11 (Or.inr (slot_ne (Or.inr (ow hw 69 rfl)) (Or.inr (ow hw 57 rfl)) (by decide) (t := (.object "java/lang/String")) (t' := (.object "java/lang/String")) (by decide) (by decide)))).other W14 (Or.inr (slot_ne (Or.inr (ow hw 69 rfl)) (Or.inr (ow hw 59 rfl)) (by decide) (t := (.object "java/lang/String")) (t' := (.object "com/example/backfill/backfill/migration/ColumnValue")) (by decide) (by decide)))).other W17 (Or.inr (slot_ne (Or.inr (ow hw 69 rfl)) (Or.inr (ow hw 61 rfl)) (by decide) (t := (.object "java/lang/String")) (t' := .boolean) (by decide) (by decide)))).other W20 (Or.inr (slot_ne (Or.inr (ow hw 69 rfl)) (Or.inr (ow hw 63 rfl)) (by decide) (t := (.object "java/lang/String")) (t' := .boolean) (by decide) (by decide)))).other W23 (Or.inr (slot_ne (Or.inr (ow hw 69 rfl)) (Or.inr (ow hw 65 rfl)) (by decide) (t := (.object "java/lang/String")) (t' := .boolean) (by decide) (by decide)))).other W26 (Or.inr (slot_ne (Or.inr (ow hw 69 rfl)) (Or.inr (ow hw 67 rfl)) (by decide) (t := (.object "java/lang/String")) (t' := .boolean) (by decide) (by decide))))
    have f28 := (f25.wr W26)
    refine gputF (host := "") hx (Or.inl (ow hw 68 rfl)) Via.refl f27 f28 (Or.inr ⟨(ow hw 69 rfl), rfl, hnm⟩) (ow hw 35 rfl) (ty := (.object "java/lang/String")) (by decide) (by rcases ref_cases isRef_rv with q | ⟨_, q⟩ <;> rw [q] <;> rfl) (by rcases ref_cases isRef_rv with q | ⟨_, q⟩ <;> rw [q] <;> rfl) P10 (fun al => Safe.exa al f28 (by decide) (by decide)) 87 (hb hby own_d_prog_28_method_1_84) rfl ?_
    intro h29 W29 C29
    have z29 := C29.2.1
    have F29 := f27.same W29
    refine gs (mkF m 88 #[.val (.ref x), .val (.ref s1), .val (.ref s2), .val dv, .val (.int nu), .val (.int pk), .val (.int au), .val (.int un), .val rv, .val vv] [(.ref x)]) (fun _ _ A k => XS.aloadN A hx rfl (hb hby own_d_prog_28_method_1_87) rfl rfl k) ?_
    refine gs (mkF m 90 #[.val (.ref x), .val (.ref s1), .val (.ref s2), .val dv, .val (.int nu), .val (.int pk), .val (.int au), .val (.int un), .val rv, .val vv] [vv, (.ref x)]) (fun _ _ A k => XS.aload A hx rfl (hb hby own_d_prog_28_method_1_88) rfl isRef_vv k) ?_
    have f30 := ((((((((((P9.ext E2).ext E4).other W8 (Or.inr (slot_ne (Or.inr (ow hw 71 rfl)) (Or.inr (ow hw 55 rfl)) (by decide) (t := (.object "com/example/backfill/backfill/migration/ColumnValue")) (t' := (.object "java/lang/String")) (by decide) (by decide)))).other W11 (Or.inr (slot_ne (Or.inr (ow hw 71 rfl)) (Or.inr (ow hw 57 rfl)) (by decide) (t := (.object "com/example/backfill/backfill/migration/ColumnValue")) (t' := (.object "java/lang/String")) (by decide) (by decide)))).other W14 (Or.inr (slot_ne (Or.inr (ow hw 71 rfl)) (Or.inr (ow hw 59 rfl)) (by decide) (t := (.object "com/example/backfill/backfill/migration/ColumnValue")) (t' := (.object "com/example/backfill/backfill/migration/ColumnValue")) (by decide) (by decide)))).other W17 (Or.inr (slot_ne (Or.inr (ow hw 71 rfl)) (Or.inr (ow hw 61 rfl)) (by decide) (t := (.object "com/example/backfill/backfill/migration/ColumnValue")) (t' := .boolean) (by decide) (by decide)))).other W20 (Or.inr (slot_ne (Or.inr (ow hw 71 rfl)) (Or.inr (ow hw 63 rfl)) (by decide) (t := (.object "com/example/backfill/backfill/migration/ColumnValue")) (t' := .boolean) (by decide) (by decide)))).other W23 (Or.inr (slot_ne (Or.inr (ow hw 71 rfl)) (Or.inr (ow hw 65 rfl)) (by decide) (t := (.object "com/example/backfill/backfill/migration/ColumnValue")) (t' := .boolean) (by decide) (by decide)))).other W26 (Or.inr (slot_ne (Or.inr (ow hw 71 rfl)) (Or.inr (ow hw 67 rfl)) (by decide) (t := (.object "com/example/backfill/backfill/migration/ColumnValue")) (t' := .boolean) (by decide) (by decide)))).other W29 (Or.inr (slot_ne (Or.inr (ow hw 71 rfl)) (Or.inr (ow hw 69 rfl)) (by decide) (t := (.object "com/example/backfill/backfill/migration/ColumnValue")) (t' := (.object "java/lang/String")) (by decide) (by decide))))
    have f31 := (f28.wr W29)
    refine gputF (host := "") hx (Or.inl (ow hw 70 rfl)) Via.refl f30 f31 (Or.inr ⟨(ow hw 71 rfl), rfl, hnm⟩) (ow hw 35 rfl) (ty := (.object "com/example/backfill/backfill/migration/ColumnValue")) (by decide) (by rcases ref_cases isRef_vv with q | ⟨_, q⟩ <;> rw [q] <;> rfl) (by rcases ref_cases isRef_vv with q | ⟨_, q⟩ <;> rw [q] <;> rfl) P10 (fun al => Safe.exa al f31 (by decide) (by decide)) 93 (hb hby own_d_prog_28_method_1_90) rfl ?_
    intro h32 W32 C32
    have z32 := C32.2.1
    have F32 := f30.same W32
    have f34 := (((((F17.other W20 (Or.inr (slot_ne (Or.inr (ow hw 61 rfl)) (Or.inr (ow hw 63 rfl)) (by decide) (t := .boolean) (t' := .boolean) (by decide) (by decide)))).other W23 (Or.inr (slot_ne (Or.inr (ow hw 61 rfl)) (Or.inr (ow hw 65 rfl)) (by decide) (t := .boolean) (t' := .boolean) (by decide) (by decide)))).other W26 (Or.inr (slot_ne (Or.inr (ow hw 61 rfl)) (Or.inr (ow hw 67 rfl)) (by decide) (t := .boolean) (t' := .boolean) (by decide) (by decide)))).other W29 (Or.inr (slot_ne (Or.inr (ow hw 61 rfl)) (Or.inr (ow hw 69 rfl)) (by decide) (t := .boolean) (t' := (.object "java/lang/String")) (by decide) (by decide)))).other W32 (Or.inr (slot_ne (Or.inr (ow hw 61 rfl)) (Or.inr (ow hw 71 rfl)) (by decide) (t := .boolean) (t' := (.object "com/example/backfill/backfill/migration/ColumnValue")) (by decide) (by decide))))
    have f35 := ((((((F14.other W17 (Or.inr (slot_ne (Or.inr (ow hw 59 rfl)) (Or.inr (ow hw 61 rfl)) (by decide) (t := (.object "com/example/backfill/backfill/migration/ColumnValue")) (t' := .boolean) (by decide) (by decide)))).other W20 (Or.inr (slot_ne (Or.inr (ow hw 59 rfl)) (Or.inr (ow hw 63 rfl)) (by decide) (t := (.object "com/example/backfill/backfill/migration/ColumnValue")) (t' := .boolean) (by decide) (by decide)))).other W23 (Or.inr (slot_ne (Or.inr (ow hw 59 rfl)) (Or.inr (ow hw 65 rfl)) (by decide) (t := (.object "com/example/backfill/backfill/migration/ColumnValue")) (t' := .boolean) (by decide) (by decide)))).other W26 (Or.inr (slot_ne (Or.inr (ow hw 59 rfl)) (Or.inr (ow hw 67 rfl)) (by decide) (t := (.object "com/example/backfill/backfill/migration/ColumnValue")) (t' := .boolean) (by decide) (by decide)))).other W29 (Or.inr (slot_ne (Or.inr (ow hw 59 rfl)) (Or.inr (ow hw 69 rfl)) (by decide) (t := (.object "com/example/backfill/backfill/migration/ColumnValue")) (t' := (.object "java/lang/String")) (by decide) (by decide)))).other W32 (Or.inr (slot_ne (Or.inr (ow hw 59 rfl)) (Or.inr (ow hw 71 rfl)) (by decide) (t := (.object "com/example/backfill/backfill/migration/ColumnValue")) (t' := (.object "com/example/backfill/backfill/migration/ColumnValue")) (by decide) (by decide))))
    exact gretV hx hret (hb hby own_d_prog_28_method_1_93) (by decide) (by decide) (fun vq Cq => ⟨rfl, ((((((((((((Keep.refl h0 [x]).ext E2).ext E4).wr W8 (Or.inl (List.mem_of_getElem? (i := 0) rfl))).wr W11 (Or.inl (List.mem_of_getElem? (i := 0) rfl))).wr W14 (Or.inl (List.mem_of_getElem? (i := 0) rfl))).wr W17 (Or.inl (List.mem_of_getElem? (i := 0) rfl))).wr W20 (Or.inl (List.mem_of_getElem? (i := 0) rfl))).wr W23 (Or.inl (List.mem_of_getElem? (i := 0) rfl))).wr W26 (Or.inl (List.mem_of_getElem? (i := 0) rfl))).wr W29 (Or.inl (List.mem_of_getElem? (i := 0) rfl))).wr W32 (Or.inl (List.mem_of_getElem? (i := 0) rfl))), f34, f35⟩)
  · refine gs (mkF m 23 #[.val (.ref x), .val (.ref s1), .val (.ref s2), .val dv, .val (.int nu), .val (.int pk), .val (.int au), .val (.int un), .val rv, .val vv] []) (fun _ _ A k => XS.ifNo A hx rfl (hb hby own_d_prog_28_method_1_20) rfl ((if0 _ _).trans (feq hpk).1) k) ?_
    refine gs (mkF m 25 #[.val (.ref x), .val (.ref s1), .val (.ref s2), .val dv, .val (.int nu), .val (.int pk), .val (.int au), .val (.int un), .val rv, .val vv] [(.int nu)]) (fun _ _ A k => XS.iload A hx rfl (hb hby own_d_prog_28_method_1_23) rfl  k) ?_
    refine gs (mkF m 42 #[.val (.ref x), .val (.ref s1), .val (.ref s2), .val dv, .val (.int nu), .val (.int pk), .val (.int au), .val (.int un), .val rv, .val vv] []) (fun _ _ A k => XS.ifYes A hx rfl (pc0 := 25) (pc' := 42) rfl (hb hby own_d_prog_28_method_1_25) rfl ((if0 _ _).trans (teq (Or.resolve_left hpn hpk)).1) (by decide) (by decide) k) ?_
    refine gs (mkF m 43 #[.val (.ref x), .val (.ref s1), .val (.ref s2), .val dv, .val (.int nu), .val (.int pk), .val (.int au), .val (.int un), .val rv, .val vv] [(.ref x)]) (fun _ _ A k => XS.aloadN A hx rfl (hb hby own_d_prog_28_method_1_42) rfl rfl k) ?_
    refine gs (mkF m 44 #[.val (.ref x), .val (.ref s1), .val (.ref s2), .val dv, .val (.int nu), .val (.int pk), .val (.int au), .val (.int un), .val rv, .val vv] [(.ref s1), (.ref x)]) (fun _ _ A k => XS.aloadN A hx rfl (hb hby own_d_prog_28_method_1_43) rfl rfl k) ?_
    have f36 := ((P1.ext E2).ext E4)
    have f37 := ((P0.ext E2).ext E4)
    refine gputF (host := "") hx (Or.inl (ow hw 54 rfl)) Via.refl f36 f37 (Or.inr ⟨(ow hw 55 rfl), rfl, hnm⟩) (ow hw 35 rfl) (ty := (.object "java/lang/String")) (by decide) rfl rfl P10 (fun al => Safe.exa al f37 (by decide) (by decide)) 47 (hb hby own_d_prog_28_method_1_44) rfl ?_
    intro h38 W38 C38
    have z38 := C38.2.1
    have F38 := f36.same W38
    refine gs (mkF m 48 #[.val (.ref x), .val (.ref s1), .val (.ref s2), .val dv, .val (.int nu), .val (.int pk), .val (.int au), .val (.int un), .val rv, .val vv] [(.ref x)]) (fun _ _ A k => XS.aloadN A hx rfl (hb hby own_d_prog_28_method_1_47) rfl rfl k) ?_
    refine gs (mkF m 49 #[.val (.ref x), .val (.ref s1), .val (.ref s2), .val dv, .val (.int nu), .val (.int pk), .val (.int au), .val (.int un), .val rv, .val vv] [(.ref s2), (.ref x)]) (fun _ _ A k => XS.aloadN A hx rfl (hb hby own_d_prog_28_method_1_48) rfl rfl k) ?_
    have f39 := (((P2.ext E2).ext E4).other W38 (Or.inr (slot_ne (Or.inr (ow hw 57 rfl)) (Or.inr (ow hw 55 rfl)) (by decide) (t := (.object "java/lang/String")) (t' := (.object "java/lang/String")) (by decide) (by decide))))
    have f40 := (f37.wr W38)
    refine gputF (host := "") hx (Or.inl (ow hw 56 rfl)) Via.refl f39 f40 (Or.inr ⟨(ow hw 57 rfl), rfl, hnm⟩) (ow hw 35 rfl) (ty := (.object "java/lang/String")) (by decide) rfl rfl P10 (fun al => Safe.exa al f40 (by decide) (by decide)) 52 (hb hby own_d_prog_28_method_1_49) rfl ?_
    intro h41 W41 C41
    have z41 := C41.2.1
    have F41 := f39.same W41
    refine gs (mkF m 53 #[.val (.ref x), .val (.ref s1), .val (.ref s2), .val dv, .val (.int nu), .val (.int pk), .val (.int au), .val (.int un), .val rv, .val vv] [(.ref x)]) (fun _ _ A k => XS.aloadN A hx rfl (hb hby own_d_prog_28_method_1_52) rfl rfl k) ?_
    refine gs (mkF m 54 #[.val (.ref x), .val (.ref s1), .val (.ref s2), .val dv, .val (.int nu), .val (.int pk), .val (.int au), .val (.int un), .val rv, .val vv] [dv, (.ref x)]) (fun _ _ A k => XS.aloadN A hx rfl (hb hby own_d_prog_28_method_1_53) rfl isRef_dv k) ?_
    have f42 := ((((P3.ext E2).ext E4).other W38 (Or.inr (slot_ne (Or.inr (ow hw 59 rfl)) (Or.inr (ow hw 55 rfl)) (by decide) (t := (.object "com/example/backfill/backfill/migration/ColumnValue")) (t' := (.object "java/lang/String")) (by decide) (by decide)))).other W41 (Or.inr (slot_ne (Or.inr (ow hw 59 rfl)) (Or.inr (ow hw 57 rfl)) (by decide) (t := (.object "com/example/backfill/backfill/migration/ColumnValue")) (t' := (.object "java/lang/String")) (by decide) (by decide))))
    have f43 := (f40.wr W41)
    refine gputF (host := "") hx (Or.inl (ow hw 58 rfl)) Via.refl f42 f43 (Or.inr ⟨(ow hw 59 rfl), rfl, hnm⟩) (ow hw 35 rfl) (ty := (.object "com/example/backfill/backfill/migration/ColumnValue")) (by decide) (by rcases ref_cases isRef_dv with q | ⟨_, q⟩ <;> rw [q] <;> rfl) (by rcases ref_cases isRef_dv with q | ⟨_, q⟩ <;> rw [q] <;> rfl) P10 (fun al => Safe.exa al f43 (by decide) (by decide)) 57 (hb hby own_d_prog_28_method_1_54) rfl ?_
    intro h44 W44 C44
    have z44 := C44.2.1
    have F44 := f42.same W44
    refine gs (mkF m 58 #[.val (.ref x), .val (.ref s1), .val (.ref s2), .val dv, .val (.int nu), .val (.int pk), .val (.int au), .val (.int un), .val rv, .val vv] [(.ref x)]) (fun _ _ A k => XS.aloadN A hx rfl (hb hby own_d_prog_28_method_1_57) rfl rfl k) ?_
    refine gs (mkF m 60 #[.val (.ref x), .val (.ref s1), .val (.ref s2), .val dv, .val (.int nu), .val (.int pk), .val (.int au), .val (.int un), .val rv, .val vv] [(.int nu), (.ref x)]) (fun _ _ A k => XS.iload A hx rfl (hb hby own_d_prog_28_method_1_58) rfl  k) ?_
    have f45 := (((((P4.ext E2).ext E4).other W38 (Or.inr (slot_ne (Or.inr (ow hw 61 rfl)) (Or.inr (ow hw 55 rfl)) (by decide) (t := .boolean) (t' := (.object "java/lang/String")) (by decide) (by decide)))).other W41 (Or.inr (slot_ne (Or.inr (ow hw 61 rfl)) (Or.inr (ow hw 57 rfl)) (by decide) (t := .boolean) (t' := (.object "java/lang/String")) (by decide) (by decide)))).other W44 (Or.inr (slot_ne (Or.inr (ow hw 61 rfl)) (Or.inr (ow hw 59 rfl)) (by decide) (t := .boolean) (t' := (.object "com/example/backfill/backfill/migration/ColumnValue")) (by decide) (by decide))))
    have f46 := (f43.wr W44)
    refine gputF (host := "") hx (Or.inl (ow hw 60 rfl)) Via.refl f45 f46 (Or.inr ⟨(ow hw 61 rfl), rfl, hnm⟩) (ow hw 35 rfl) (ty := .boolean) (by decide) (by rcases b_nu with q | q <;> rw [q] <;> rfl) (by rcases b_nu with q | q <;> rw [q] <;> rfl) P10 (fun al => Safe.exa al f46 (by decide) (by decide)) 63 (hb hby own_d_prog_28_method_1_60) rfl ?_
    intro h47 W47 C47
    have z47 := C47.2.1
    have F47 := f45.same W47
    refine gs (mkF m 64 #[.val (.ref x), .val (.ref s1), .val (.ref s2), .val dv, .val (.int nu), .val (.int pk), .val (.int au), .val (.int un), .val rv, .val vv] [(.ref x)]) (fun _ _ A k => XS.aloadN A hx rfl (hb hby own_d_prog_28_method_1_63) rfl rfl k) ?_
    refine gs (mkF m 66 #[.val (.ref x), .val (.ref s1), .val (.ref s2), .val dv, .val (.int nu), .val (.int pk), .val (.int au), .val (.int un), .val rv, .val vv] [(.int pk), (.ref x)]) (fun _ _ A k => XS.iload A hx rfl (hb hby own_d_prog_28_method_1_64) rfl  k) ?_
    have f48 := ((((((P5.ext E2).ext E4).other W38 (Or.inr (slot_ne (Or.inr (ow hw 63 rfl)) (Or.inr (ow hw 55 rfl)) (by decide) (t := .boolean) (t' := (.object "java/lang/String")) (by decide) (by decide)))).other W41 (Or.inr (slot_ne (Or.inr (ow hw 63 rfl)) (Or.inr (ow hw 57 rfl)) (by decide) (t := .boolean) (t' := (.object "java/lang/String")) (by decide) (by decide)))).other W44 (Or.inr (slot_ne (Or.inr (ow hw 63 rfl)) (Or.inr (ow hw 59 rfl)) (by decide) (t := .boolean) (t' := (.object "com/example/backfill/backfill/migration/ColumnValue")) (by decide) (by decide)))).other W47 (Or.inr (slot_ne (Or.inr (ow hw 63 rfl)) (Or.inr (ow hw 61 rfl)) (by decide) (t := .boolean) (t' := .boolean) (by decide) (by decide))))
    have f49 := (f46.wr W47)
    refine gputF (host := "") hx (Or.inl (ow hw 62 rfl)) Via.refl f48 f49 (Or.inr ⟨(ow hw 63 rfl), rfl, hnm⟩) (ow hw 35 rfl) (ty := .boolean) (by decide) (by rcases b_pk with q | q <;> rw [q] <;> rfl) (by rcases b_pk with q | q <;> rw [q] <;> rfl) P10 (fun al => Safe.exa al f49 (by decide) (by decide)) 69 (hb hby own_d_prog_28_method_1_66) rfl ?_
    intro h50 W50 C50
    have z50 := C50.2.1
    have F50 := f48.same W50
    refine gs (mkF m 70 #[.val (.ref x), .val (.ref s1), .val (.ref s2), .val dv, .val (.int nu), .val (.int pk), .val (.int au), .val (.int un), .val rv, .val vv] [(.ref x)]) (fun _ _ A k => XS.aloadN A hx rfl (hb hby own_d_prog_28_method_1_69) rfl rfl k) ?_
    refine gs (mkF m 72 #[.val (.ref x), .val (.ref s1), .val (.ref s2), .val dv, .val (.int nu), .val (.int pk), .val (.int au), .val (.int un), .val rv, .val vv] [(.int au), (.ref x)]) (fun _ _ A k => XS.iload A hx rfl (hb hby own_d_prog_28_method_1_70) rfl  k) ?_
    have f51 := (((((((P6.ext E2).ext E4).other W38 (Or.inr (slot_ne (Or.inr (ow hw 65 rfl)) (Or.inr (ow hw 55 rfl)) (by decide) (t := .boolean) (t' := (.object "java/lang/String")) (by decide) (by decide)))).other W41 (Or.inr (slot_ne (Or.inr (ow hw 65 rfl)) (Or.inr (ow hw 57 rfl)) (by decide) (t := .boolean) (t' := (.object "java/lang/String")) (by decide) (by decide)))).other W44 (Or.inr (slot_ne (Or.inr (ow hw 65 rfl)) (Or.inr (ow hw 59 rfl)) (by decide) (t := .boolean) (t' := (.object "com/example/backfill/backfill/migration/ColumnValue")) (by decide) (by decide)))).other W47 (Or.inr (slot_ne (Or.inr (ow hw 65 rfl)) (Or.inr (ow hw 61 rfl)) (by decide) (t := .boolean) (t' := .boolean) (by decide) (by decide)))).other W50 (Or.inr (slot_ne (Or.inr (ow hw 65 rfl)) (Or.inr (ow hw 63 rfl)) (by decide) (t := .boolean) (t' := .boolean) (by decide) (by decide))))
    have f52 := (f49.wr W50)
    refine gputF (host := "") hx (Or.inl (ow hw 64 rfl)) Via.refl f51 f52 (Or.inr ⟨(ow hw 65 rfl), rfl, hnm⟩) (ow hw 35 rfl) (ty := .boolean) (by decide) (by rcases b_au with q | q <;> rw [q] <;> rfl) (by rcases b_au with q | q <;> rw [q] <;> rfl) P10 (fun al => Safe.exa al f52 (by decide) (by decide)) 75 (hb hby own_d_prog_28_method_1_72) rfl ?_
    intro h53 W53 C53
    have z53 := C53.2.1
    have F53 := f51.same W53
    refine gs (mkF m 76 #[.val (.ref x), .val (.ref s1), .val (.ref s2), .val dv, .val (.int nu), .val (.int pk), .val (.int au), .val (.int un), .val rv, .val vv] [(.ref x)]) (fun _ _ A k => XS.aloadN A hx rfl (hb hby own_d_prog_28_method_1_75) rfl rfl k) ?_
    refine gs (mkF m 78 #[.val (.ref x), .val (.ref s1), .val (.ref s2), .val dv, .val (.int nu), .val (.int pk), .val (.int au), .val (.int un), .val rv, .val vv] [(.int un), (.ref x)]) (fun _ _ A k => XS.iload A hx rfl (hb hby own_d_prog_28_method_1_76) rfl  k) ?_
    have f54 := ((((((((P7.ext E2).ext E4).other W38 (Or.inr (slot_ne (Or.inr (ow hw 67 rfl)) (Or.inr (ow hw 55 rfl)) (by decide) (t := .boolean) (t' := (.object "java/lang/String")) (by decide) (by decide)))).other W41 (Or.inr (slot_ne (Or.inr (ow hw 67 rfl)) (Or.inr (ow hw 57 rfl)) (by decide) (t := .boolean) (t' := (.object "java/lang/String")) (by decide) (by decide)))).other W44 (Or.inr (slot_ne (Or.inr (ow hw 67 rfl)) (Or.inr (ow hw 59 rfl)) (by decide) (t := .boolean) (t' := (.object "com/example/backfill/backfill/migration/ColumnValue")) (by decide) (by decide)))).other W47 (Or.inr (slot_ne (Or.inr (ow hw 67 rfl)) (Or.inr (ow hw 61 rfl)) (by decide) (t := .boolean) (t' := .boolean) (by decide) (by decide)))).other W50 (Or.inr (slot_ne (Or.inr (ow hw 67 rfl)) (Or.inr (ow hw 63 rfl)) (by decide) (t := .boolean) (t' := .boolean) (by decide) (by decide)))).other W53 (Or.inr (slot_ne (Or.inr (ow hw 67 rfl)) (Or.inr (ow hw 65 rfl)) (by decide) (t := .boolean) (t' := .boolean) (by decide) (by decide))))
    have f55 := (f52.wr W53)
    refine gputF (host := "") hx (Or.inl (ow hw 66 rfl)) Via.refl f54 f55 (Or.inr ⟨(ow hw 67 rfl), rfl, hnm⟩) (ow hw 35 rfl) (ty := .boolean) (by decide) (by rcases b_un with q | q <;> rw [q] <;> rfl) (by rcases b_un with q | q <;> rw [q] <;> rfl) P10 (fun al => Safe.exa al f55 (by decide) (by decide)) 81 (hb hby own_d_prog_28_method_1_78) rfl ?_
    intro h56 W56 C56
    have z56 := C56.2.1
    have F56 := f54.same W56
    refine gs (mkF m 82 #[.val (.ref x), .val (.ref s1), .val (.ref s2), .val dv, .val (.int nu), .val (.int pk), .val (.int au), .val (.int un), .val rv, .val vv] [(.ref x)]) (fun _ _ A k => XS.aloadN A hx rfl (hb hby own_d_prog_28_method_1_81) rfl rfl k) ?_
    refine gs (mkF m 84 #[.val (.ref x), .val (.ref s1), .val (.ref s2), .val dv, .val (.int nu), .val (.int pk), .val (.int au), .val (.int un), .val rv, .val vv] [rv, (.ref x)]) (fun _ _ A k => XS.aload A hx rfl (hb hby own_d_prog_28_method_1_82) rfl isRef_rv k) ?_
    have f57 := (((((((((P8.ext E2).ext E4).other W38 (Or.inr (slot_ne (Or.inr (ow hw 69 rfl)) (Or.inr (ow hw 55 rfl)) (by decide) (t := (.object "java/lang/String")) (t' := (.object "java/lang/String")) (by decide) (by decide)))).other W41 (Or.inr (slot_ne (Or.inr (ow hw 69 rfl)) (Or.inr (ow hw 57 rfl)) (by decide) (t := (.object "java/lang/String")) (t' := (.object "java/lang/String")) (by decide) (by decide)))).other W44 (Or.inr (slot_ne (Or.inr (ow hw 69 rfl)) (Or.inr (ow hw 59 rfl)) (by decide) (t := (.object "java/lang/String")) (t' := (.object "com/example/backfill/backfill/migration/ColumnValue")) (by decide) (by decide)))).other W47 (Or.inr (slot_ne (Or.inr (ow hw 69 rfl)) (Or.inr (ow hw 61 rfl)) (by decide) (t := (.object "java/lang/String")) (t' := .boolean) (by decide) (by decide)))).other W50 (Or.inr (slot_ne (Or.inr (ow hw 69 rfl)) (Or.inr (ow hw 63 rfl)) (by decide) (t := (.object "java/lang/String")) (t' := .boolean) (by decide) (by decide)))).other W53 (Or.inr (slot_ne (Or.inr (ow hw 69 rfl)) (Or.inr (ow hw 65 rfl)) (by decide) (t := (.object "java/lang/String")) (t' := .boolean) (by decide) (by decide)))).other W56 (Or.inr (slot_ne (Or.inr (ow hw 69 rfl)) (Or.inr (ow hw 67 rfl)) (by decide) (t := (.object "java/lang/String")) (t' := .boolean) (by decide) (by decide))))
    have f58 := (f55.wr W56)
    refine gputF (host := "") hx (Or.inl (ow hw 68 rfl)) Via.refl f57 f58 (Or.inr ⟨(ow hw 69 rfl), rfl, hnm⟩) (ow hw 35 rfl) (ty := (.object "java/lang/String")) (by decide) (by rcases ref_cases isRef_rv with q | ⟨_, q⟩ <;> rw [q] <;> rfl) (by rcases ref_cases isRef_rv with q | ⟨_, q⟩ <;> rw [q] <;> rfl) P10 (fun al => Safe.exa al f58 (by decide) (by decide)) 87 (hb hby own_d_prog_28_method_1_84) rfl ?_
    intro h59 W59 C59
    have z59 := C59.2.1
    have F59 := f57.same W59
    refine gs (mkF m 88 #[.val (.ref x), .val (.ref s1), .val (.ref s2), .val dv, .val (.int nu), .val (.int pk), .val (.int au), .val (.int un), .val rv, .val vv] [(.ref x)]) (fun _ _ A k => XS.aloadN A hx rfl (hb hby own_d_prog_28_method_1_87) rfl rfl k) ?_
    refine gs (mkF m 90 #[.val (.ref x), .val (.ref s1), .val (.ref s2), .val dv, .val (.int nu), .val (.int pk), .val (.int au), .val (.int un), .val rv, .val vv] [vv, (.ref x)]) (fun _ _ A k => XS.aload A hx rfl (hb hby own_d_prog_28_method_1_88) rfl isRef_vv k) ?_
    have f60 := ((((((((((P9.ext E2).ext E4).other W38 (Or.inr (slot_ne (Or.inr (ow hw 71 rfl)) (Or.inr (ow hw 55 rfl)) (by decide) (t := (.object "com/example/backfill/backfill/migration/ColumnValue")) (t' := (.object "java/lang/String")) (by decide) (by decide)))).other W41 (Or.inr (slot_ne (Or.inr (ow hw 71 rfl)) (Or.inr (ow hw 57 rfl)) (by decide) (t := (.object "com/example/backfill/backfill/migration/ColumnValue")) (t' := (.object "java/lang/String")) (by decide) (by decide)))).other W44 (Or.inr (slot_ne (Or.inr (ow hw 71 rfl)) (Or.inr (ow hw 59 rfl)) (by decide) (t := (.object "com/example/backfill/backfill/migration/ColumnValue")) (t' := (.object "com/example/backfill/backfill/migration/ColumnValue")) (by decide) (by decide)))).other W47 (Or.inr (slot_ne (Or.inr (ow hw 71 rfl)) (Or.inr (ow hw 61 rfl)) (by decide) (t := (.object "com/example/backfill/backfill/migration/ColumnValue")) (t' := .boolean) (by decide) (by decide)))).other W50 (Or.inr (slot_ne (Or.inr (ow hw 71 rfl)) (Or.inr (ow hw 63 rfl)) (by decide) (t := (.object "com/example/backfill/backfill/migration/ColumnValue")) (t' := .boolean) (by decide) (by decide)))).other W53 (Or.inr (slot_ne (Or.inr (ow hw 71 rfl)) (Or.inr (ow hw 65 rfl)) (by decide) (t := (.object "com/example/backfill/backfill/migration/ColumnValue")) (t' := .boolean) (by decide) (by decide)))).other W56 (Or.inr (slot_ne (Or.inr (ow hw 71 rfl)) (Or.inr (ow hw 67 rfl)) (by decide) (t := (.object "com/example/backfill/backfill/migration/ColumnValue")) (t' := .boolean) (by decide) (by decide)))).other W59 (Or.inr (slot_ne (Or.inr (ow hw 71 rfl)) (Or.inr (ow hw 69 rfl)) (by decide) (t := (.object "com/example/backfill/backfill/migration/ColumnValue")) (t' := (.object "java/lang/String")) (by decide) (by decide))))
    have f61 := (f58.wr W59)
    refine gputF (host := "") hx (Or.inl (ow hw 70 rfl)) Via.refl f60 f61 (Or.inr ⟨(ow hw 71 rfl), rfl, hnm⟩) (ow hw 35 rfl) (ty := (.object "com/example/backfill/backfill/migration/ColumnValue")) (by decide) (by rcases ref_cases isRef_vv with q | ⟨_, q⟩ <;> rw [q] <;> rfl) (by rcases ref_cases isRef_vv with q | ⟨_, q⟩ <;> rw [q] <;> rfl) P10 (fun al => Safe.exa al f61 (by decide) (by decide)) 93 (hb hby own_d_prog_28_method_1_90) rfl ?_
    intro h62 W62 C62
    have z62 := C62.2.1
    have F62 := f60.same W62
    have f64 := (((((F47.other W50 (Or.inr (slot_ne (Or.inr (ow hw 61 rfl)) (Or.inr (ow hw 63 rfl)) (by decide) (t := .boolean) (t' := .boolean) (by decide) (by decide)))).other W53 (Or.inr (slot_ne (Or.inr (ow hw 61 rfl)) (Or.inr (ow hw 65 rfl)) (by decide) (t := .boolean) (t' := .boolean) (by decide) (by decide)))).other W56 (Or.inr (slot_ne (Or.inr (ow hw 61 rfl)) (Or.inr (ow hw 67 rfl)) (by decide) (t := .boolean) (t' := .boolean) (by decide) (by decide)))).other W59 (Or.inr (slot_ne (Or.inr (ow hw 61 rfl)) (Or.inr (ow hw 69 rfl)) (by decide) (t := .boolean) (t' := (.object "java/lang/String")) (by decide) (by decide)))).other W62 (Or.inr (slot_ne (Or.inr (ow hw 61 rfl)) (Or.inr (ow hw 71 rfl)) (by decide) (t := .boolean) (t' := (.object "com/example/backfill/backfill/migration/ColumnValue")) (by decide) (by decide))))
    have f65 := ((((((F44.other W47 (Or.inr (slot_ne (Or.inr (ow hw 59 rfl)) (Or.inr (ow hw 61 rfl)) (by decide) (t := (.object "com/example/backfill/backfill/migration/ColumnValue")) (t' := .boolean) (by decide) (by decide)))).other W50 (Or.inr (slot_ne (Or.inr (ow hw 59 rfl)) (Or.inr (ow hw 63 rfl)) (by decide) (t := (.object "com/example/backfill/backfill/migration/ColumnValue")) (t' := .boolean) (by decide) (by decide)))).other W53 (Or.inr (slot_ne (Or.inr (ow hw 59 rfl)) (Or.inr (ow hw 65 rfl)) (by decide) (t := (.object "com/example/backfill/backfill/migration/ColumnValue")) (t' := .boolean) (by decide) (by decide)))).other W56 (Or.inr (slot_ne (Or.inr (ow hw 59 rfl)) (Or.inr (ow hw 67 rfl)) (by decide) (t := (.object "com/example/backfill/backfill/migration/ColumnValue")) (t' := .boolean) (by decide) (by decide)))).other W59 (Or.inr (slot_ne (Or.inr (ow hw 59 rfl)) (Or.inr (ow hw 69 rfl)) (by decide) (t := (.object "com/example/backfill/backfill/migration/ColumnValue")) (t' := (.object "java/lang/String")) (by decide) (by decide)))).other W62 (Or.inr (slot_ne (Or.inr (ow hw 59 rfl)) (Or.inr (ow hw 71 rfl)) (by decide) (t := (.object "com/example/backfill/backfill/migration/ColumnValue")) (t' := (.object "com/example/backfill/backfill/migration/ColumnValue")) (by decide) (by decide))))
    exact gretV hx hret (hb hby own_d_prog_28_method_1_93) (by decide) (by decide) (fun vq Cq => ⟨rfl, ((((((((((((Keep.refl h0 [x]).ext E2).ext E4).wr W38 (Or.inl (List.mem_of_getElem? (i := 0) rfl))).wr W41 (Or.inl (List.mem_of_getElem? (i := 0) rfl))).wr W44 (Or.inl (List.mem_of_getElem? (i := 0) rfl))).wr W47 (Or.inl (List.mem_of_getElem? (i := 0) rfl))).wr W50 (Or.inl (List.mem_of_getElem? (i := 0) rfl))).wr W53 (Or.inl (List.mem_of_getElem? (i := 0) rfl))).wr W56 (Or.inl (List.mem_of_getElem? (i := 0) rfl))).wr W59 (Or.inl (List.mem_of_getElem? (i := 0) rfl))).wr W62 (Or.inl (List.mem_of_getElem? (i := 0) rfl))), f64, f65⟩)
theorem own_d_prog_29_method_1_0 : decode prog_29_method_1_code 0 = .ok (.aload_n 0, 1) := by decide +kernel
theorem own_d_prog_29_method_1_1 : decode prog_29_method_1_code 1 = .ok (.invokespecial 1, 3) := by decide +kernel
theorem own_d_prog_29_method_1_4 : decode prog_29_method_1_code 4 = .ok (.aload_n 1, 1) := by decide +kernel
theorem own_d_prog_29_method_1_5 : decode prog_29_method_1_code 5 = .ok (.ldc 7, 2) := by decide +kernel
theorem own_d_prog_29_method_1_7 : decode prog_29_method_1_code 7 = .ok (.invokestatic 9, 3) := by decide +kernel
theorem own_d_prog_29_method_1_10 : decode prog_29_method_1_code 10 = .ok (.pop, 1) := by decide +kernel
theorem own_d_prog_29_method_1_11 : decode prog_29_method_1_code 11 = .ok (.aload_n 2, 1) := by decide +kernel
theorem own_d_prog_29_method_1_12 : decode prog_29_method_1_code 12 = .ok (.ldc 15, 2) := by decide +kernel
theorem own_d_prog_29_method_1_14 : decode prog_29_method_1_code 14 = .ok (.invokestatic 9, 3) := by decide +kernel
theorem own_d_prog_29_method_1_17 : decode prog_29_method_1_code 17 = .ok (.pop, 1) := by decide +kernel
theorem own_d_prog_29_method_1_18 : decode prog_29_method_1_code 18 = .ok (.aload_n 0, 1) := by decide +kernel
theorem own_d_prog_29_method_1_19 : decode prog_29_method_1_code 19 = .ok (.aload_n 1, 1) := by decide +kernel
theorem own_d_prog_29_method_1_20 : decode prog_29_method_1_code 20 = .ok (.putfield 17, 3) := by decide +kernel
theorem own_d_prog_29_method_1_23 : decode prog_29_method_1_code 23 = .ok (.aload_n 0, 1) := by decide +kernel
theorem own_d_prog_29_method_1_24 : decode prog_29_method_1_code 24 = .ok (.aload_n 2, 1) := by decide +kernel
theorem own_d_prog_29_method_1_25 : decode prog_29_method_1_code 25 = .ok (.putfield 22, 3) := by decide +kernel
theorem own_d_prog_29_method_1_28 : decode prog_29_method_1_code 28 = .ok (.return_, 1) := by decide +kernel
theorem own_pn161 : plainName "com/example/backfill/backfill/migration/ColumnValue" = true := by first | (simp [plainName, overriddenIn]; done) | decide +kernel
set_option maxRecDepth 65536 in
set_option maxHeartbeats 40000000 in
theorem own_cvinit (l : Launch) (Z : State) (a0 : Array Value) (cx : Ctx Z a0) (ws : List Jvm.Cond) (x : Addr) (k : Addr) (s1 : Addr) (u0 : Value) (u1 : Value) (vm0 : Vm) (h0 : Heap) (X00 : Ext Z.heap h0) (P0 : Exa Z h0 x "com/example/backfill/backfill/migration/ColumnValue") (P1 : Fld Z h0 x "com/example/backfill/backfill/migration/ColumnValue" "kind" "Lcom/example/backfill/backfill/migration/ColumnValue$Kind;" u0) (P2 : Fld Z h0 x "com/example/backfill/backfill/migration/ColumnValue" "value" "Ljava/lang/String;" u1) (P3 : Z.heap.size ≤ x) :
    Met l (⟨"com/example/backfill/backfill/migration/ColumnValue", "<init>", "(Lcom/example/backfill/backfill/migration/ColumnValue$Kind;Ljava/lang/String;)V"⟩ : MethodName) prog_29_method_1_code 3 none ws ({ frames := 2, cells := 4, slots := 44, locals := 24 } : Room) Z consts_1 vm0 h0 #[(.ref x), (.ref k), (.ref s1)] (fun v vm h => v = none ∧ Keep h0 h [x]) := by
  obtain ⟨hw, hEL, ⟨zc, Scs, hzc⟩, ⟨fm, Sfm, hfm⟩, ⟨kDATE, SDATE⟩, ⟨kCOMPUTED, SCOMPUTED⟩, ⟨kTEXT, STEXT⟩, ⟨kNUMBER, SNUMBER⟩, ⟨kBOOLEAN, SBOOLEAN⟩⟩ := id cx
  have hSA := own_SA hw
  refine Met.of_walk (a0 := a0) #[.val (.ref x), .val (.ref k), .val (.ref s1)] (plainFor_of_name own_pn161) X00 hEL (fun m => by first | (simp [entryFrame, mkF, argsToLocals, Value.category]; done) | rfl) ?_
  intro p e s m below meth c vm hx hby hml hret hnm hC0
  have lt_x : h0.size > x := P0.lt
  refine gs (mkF m 1 #[.val (.ref x), .val (.ref k), .val (.ref s1)] [(.ref x)]) (fun _ _ A k => XS.aloadN A hx rfl (hb hby own_d_prog_29_method_1_0) rfl rfl k) ?_
  refine ginfo fun _ _ O1 => ?_
  refine gcallI (y := (⟨"java/lang/Record", "<init>", "()V"⟩ : MethodName)) hx rfl (ow hw 109 rfl) (ow hw 41 rfl) (ow hw 44 rfl) (by decide) (fun hZ H hEL => Pay.of_met (W := 0) (own_record l Z a0 cx [] (x) vm h0 O1 ) (ow hw 44 rfl) (ow hw 43 rfl) (by decide) (by decide) hZ H hEL) (a := x) 4 (argsL := []) (rest := []) (lenOf own_pd101 rfl) rfl rfl (Nat.le_of_eq rfl) (by rw [hml]; rfl) (hb hby own_d_prog_29_method_1_1) rfl (by decide) (by decide) ?_
  rintro _ vm1 h1 C1 ⟨rfl, rfl⟩
  have z1 := C1.2.1
  refine gat (mkF m 4 #[.val (.ref x), .val (.ref k), .val (.ref s1)] []) rfl ?_
  refine gs (mkF m 5 #[.val (.ref x), .val (.ref k), .val (.ref s1)] [(.ref k)]) (fun _ _ A k => XS.aloadN A hx rfl (hb hby own_d_prog_29_method_1_4) rfl rfl k) ?_
  refine gldcO hx (ow hw 110 rfl) hSA (n := 16) (by decide) (by decide) 7 (hb hby own_d_prog_29_method_1_5) rfl (by decide) (by decide) ?_
  intro b2 vm2 h2 E2 C2
  have z2 := C2.2.1
  refine ginfo fun _ _ O3 => ?_
  refine gcallS (y := (⟨"java/util/Objects", "requireNonNull", "(Ljava/lang/Object;Ljava/lang/String;)Ljava/lang/Object;"⟩ : MethodName)) hx (ow hw 111 rfl) (ow hw 50 rfl) (ow hw 51 rfl) (ow hw 52 rfl) (by decide) (fun hZ H hEL => Pay.of_met (W := 0) (own_require2 l Z a0 cx [] (k) (b2) vm2 h2 O3 ) (ow hw 52 rfl) (ow hw 51 rfl) (by decide) (by decide) hZ H hEL) 10 (argsL := [(.ref k), (.ref b2)]) (rest := []) (lenOf own_pd105 rfl) rfl rfl (Nat.le_of_eq rfl) (by rw [hml]; rfl) (hb hby own_d_prog_29_method_1_7) rfl (by decide) (by decide) ?_
  rintro _ vm3 h3 C3 ⟨rfl, rfl⟩
  have z3 := C3.2.1
  refine gat (mkF m 10 #[.val (.ref x), .val (.ref k), .val (.ref s1)] [(.ref k)]) rfl ?_
  refine gs (mkF m 11 #[.val (.ref x), .val (.ref k), .val (.ref s1)] []) (fun _ _ A k => XS.pop A hx rfl (hb hby own_d_prog_29_method_1_10) rfl rfl k) ?_
  refine gs (mkF m 12 #[.val (.ref x), .val (.ref k), .val (.ref s1)] [(.ref s1)]) (fun _ _ A k => XS.aloadN A hx rfl (hb hby own_d_prog_29_method_1_11) rfl rfl k) ?_
  refine gldcO hx (ow hw 112 rfl) hSA (n := 20) (by decide) (by decide) 14 (hb hby own_d_prog_29_method_1_12) rfl (by decide) (by decide) ?_
  intro b4 vm4 h4 E4 C4
  have z4 := C4.2.1
  refine ginfo fun _ _ O5 => ?_
  refine gcallS (y := (⟨"java/util/Objects", "requireNonNull", "(Ljava/lang/Object;Ljava/lang/String;)Ljava/lang/Object;"⟩ : MethodName)) hx (ow hw 111 rfl) (ow hw 50 rfl) (ow hw 51 rfl) (ow hw 52 rfl) (by decide) (fun hZ H hEL => Pay.of_met (W := 0) (own_require2 l Z a0 cx [] (s1) (b4) vm4 h4 O5 ) (ow hw 52 rfl) (ow hw 51 rfl) (by decide) (by decide) hZ H hEL) 17 (argsL := [(.ref s1), (.ref b4)]) (rest := []) (lenOf own_pd105 rfl) rfl rfl (Nat.le_of_eq rfl) (by rw [hml]; rfl) (hb hby own_d_prog_29_method_1_14) rfl (by decide) (by decide) ?_
  rintro _ vm5 h5 C5 ⟨rfl, rfl⟩
  have z5 := C5.2.1
  refine gat (mkF m 17 #[.val (.ref x), .val (.ref k), .val (.ref s1)] [(.ref s1)]) rfl ?_
  refine gs (mkF m 18 #[.val (.ref x), .val (.ref k), .val (.ref s1)] []) (fun _ _ A k => XS.pop A hx rfl (hb hby own_d_prog_29_method_1_17) rfl rfl k) ?_
  refine gs (mkF m 19 #[.val (.ref x), .val (.ref k), .val (.ref s1)] [(.ref x)]) (fun _ _ A k => XS.aloadN A hx rfl (hb hby own_d_prog_29_method_1_18) rfl rfl k) ?_
  refine gs (mkF m 20 #[.val (.ref x), .val (.ref k), .val (.ref s1)] [(.ref k), (.ref x)]) (fun _ _ A k => XS.aloadN A hx rfl (hb hby own_d_prog_29_method_1_19) rfl rfl k) ?_
  have f6 := ((P1.ext E2).ext E4)
  have f7 := ((P0.ext E2).ext E4)
  refine gputF (host := "") hx (Or.inl (ow hw 113 rfl)) Via.refl f6 f7 (Or.inr ⟨(ow hw 114 rfl), rfl, hnm⟩) (ow hw 104 rfl) (ty := (.object "com/example/backfill/backfill/migration/ColumnValue$Kind")) (by decide) rfl rfl P3 (fun al => Safe.exa al f7 (by decide) (by decide)) 23 (hb hby own_d_prog_29_method_1_20) rfl ?_
  intro h8 W8 C8
  have z8 := C8.2.1
  have F8 := f6.same W8
  refine gs (mkF m 24 #[.val (.ref x), .val (.ref k), .val (.ref s1)] [(.ref x)]) (fun _ _ A k => XS.aloadN A hx rfl (hb hby own_d_prog_29_method_1_23) rfl rfl k) ?_
  refine gs (mkF m 25 #[.val (.ref x), .val (.ref k), .val (.ref s1)] [(.ref s1), (.ref x)]) (fun _ _ A k => XS.aloadN A hx rfl (hb hby own_d_prog_29_method_1_24) rfl rfl k) ?_
  have f9 := (((P2.ext E2).ext E4).other W8 (Or.inr (slot_ne (Or.inr (ow hw 116 rfl)) (Or.inr (ow hw 114 rfl)) (by decide) (t := (.object "java/lang/String")) (t' := (.object "com/example/backfill/backfill/migration/ColumnValue$Kind")) (by decide) (by decide))))
  have f10 := (f7.wr W8)
  refine gputF (host := "") hx (Or.inl (ow hw 115 rfl)) Via.refl f9 f10 (Or.inr ⟨(ow hw 116 rfl), rfl, hnm⟩) (ow hw 104 rfl) (ty := (.object "java/lang/String")) (by decide) rfl rfl P3 (fun al => Safe.exa al f10 (by decide) (by decide)) 28 (hb hby own_d_prog_29_method_1_25) rfl ?_
  intro h11 W11 C11
  have z11 := C11.2.1
  have F11 := f9.same W11
  exact gretV hx hret (hb hby own_d_prog_29_method_1_28) (by decide) (by decide) (fun vq Cq => ⟨rfl, (((((Keep.refl h0 [x]).ext E2).ext E4).wr W8 (Or.inl (List.mem_of_getElem? (i := 0) rfl))).wr W11 (Or.inl (List.mem_of_getElem? (i := 0) rfl)))⟩)
theorem own_d_prog_63_method_1_0 : decode prog_63_method_1_code 0 = .ok (.aload_n 0, 1) := by decide +kernel
theorem own_d_prog_63_method_1_1 : decode prog_63_method_1_code 1 = .ok (.invokespecial 1, 3) := by decide +kernel
theorem own_d_prog_63_method_1_4 : decode prog_63_method_1_code 4 = .ok (.aload_n 1, 1) := by decide +kernel
theorem own_d_prog_63_method_1_5 : decode prog_63_method_1_code 5 = .ok (.ldc 7, 2) := by decide +kernel
theorem own_d_prog_63_method_1_7 : decode prog_63_method_1_code 7 = .ok (.invokestatic 9, 3) := by decide +kernel
theorem own_d_prog_63_method_1_10 : decode prog_63_method_1_code 10 = .ok (.pop, 1) := by decide +kernel
theorem own_d_prog_63_method_1_11 : decode prog_63_method_1_code 11 = .ok (.aload_n 2, 1) := by decide +kernel
theorem own_d_prog_63_method_1_12 : decode prog_63_method_1_code 12 = .ok (.ldc 15, 2) := by decide +kernel
theorem own_d_prog_63_method_1_14 : decode prog_63_method_1_code 14 = .ok (.invokestatic 9, 3) := by decide +kernel
theorem own_d_prog_63_method_1_17 : decode prog_63_method_1_code 17 = .ok (.pop, 1) := by decide +kernel
theorem own_d_prog_63_method_1_18 : decode prog_63_method_1_code 18 = .ok (.aload_n 0, 1) := by decide +kernel
theorem own_d_prog_63_method_1_19 : decode prog_63_method_1_code 19 = .ok (.aload_n 1, 1) := by decide +kernel
theorem own_d_prog_63_method_1_20 : decode prog_63_method_1_code 20 = .ok (.putfield 17, 3) := by decide +kernel
theorem own_d_prog_63_method_1_23 : decode prog_63_method_1_code 23 = .ok (.aload_n 0, 1) := by decide +kernel
theorem own_d_prog_63_method_1_24 : decode prog_63_method_1_code 24 = .ok (.aload_n 2, 1) := by decide +kernel
theorem own_d_prog_63_method_1_25 : decode prog_63_method_1_code 25 = .ok (.putfield 22, 3) := by decide +kernel
theorem own_d_prog_63_method_1_28 : decode prog_63_method_1_code 28 = .ok (.return_, 1) := by decide +kernel
theorem own_pn179 : plainName "com/example/backfill/backfill/migration/NewColumn" = true := by first | (simp [plainName, overriddenIn]; done) | decide +kernel
set_option maxRecDepth 65536 in
set_option maxHeartbeats 40000000 in
theorem own_ncinit (l : Launch) (Z : State) (a0 : Array Value) (cx : Ctx Z a0) (ws : List Jvm.Cond) (x : Addr) (s1 : Addr) (d : Addr) (u0 : Value) (u1 : Value) (vm0 : Vm) (h0 : Heap) (X00 : Ext Z.heap h0) (P0 : Exa Z h0 x "com/example/backfill/backfill/migration/NewColumn") (P1 : Fld Z h0 x "com/example/backfill/backfill/migration/NewColumn" "table" "Ljava/lang/String;" u0) (P2 : Fld Z h0 x "com/example/backfill/backfill/migration/NewColumn" "column" "Lcom/example/backfill/backfill/migration/ColumnDefinition;" u1) (P3 : Z.heap.size ≤ x) :
    Met l (⟨"com/example/backfill/backfill/migration/NewColumn", "<init>", "(Ljava/lang/String;Lcom/example/backfill/backfill/migration/ColumnDefinition;)V"⟩ : MethodName) prog_63_method_1_code 3 none ws ({ frames := 2, cells := 4, slots := 52, locals := 24 } : Room) Z consts_1 vm0 h0 #[(.ref x), (.ref s1), (.ref d)] (fun v vm h => v = none ∧ Keep h0 h [x] ∧ Fld Z h x "com/example/backfill/backfill/migration/NewColumn" "column" "Lcom/example/backfill/backfill/migration/ColumnDefinition;" (.ref d)) := by
  obtain ⟨hw, hEL, ⟨zc, Scs, hzc⟩, ⟨fm, Sfm, hfm⟩, ⟨kDATE, SDATE⟩, ⟨kCOMPUTED, SCOMPUTED⟩, ⟨kTEXT, STEXT⟩, ⟨kNUMBER, SNUMBER⟩, ⟨kBOOLEAN, SBOOLEAN⟩⟩ := id cx
  have hSA := own_SA hw
  refine Met.of_walk (a0 := a0) #[.val (.ref x), .val (.ref s1), .val (.ref d)] (plainFor_of_name own_pn179) X00 hEL (fun m => by first | (simp [entryFrame, mkF, argsToLocals, Value.category]; done) | rfl) ?_
  intro p e s m below meth c vm hx hby hml hret hnm hC0
  have lt_x : h0.size > x := P0.lt
  refine gs (mkF m 1 #[.val (.ref x), .val (.ref s1), .val (.ref d)] [(.ref x)]) (fun _ _ A k => XS.aloadN A hx rfl (hb hby own_d_prog_63_method_1_0) rfl rfl k) ?_
  refine ginfo fun _ _ O1 => ?_
  refine gcallI (y := (⟨"java/lang/Record", "<init>", "()V"⟩ : MethodName)) hx rfl (ow hw 78 rfl) (ow hw 41 rfl) (ow hw 44 rfl) (by decide) (fun hZ H hEL => Pay.of_met (W := 0) (own_record l Z a0 cx [] (x) vm h0 O1 ) (ow hw 44 rfl) (ow hw 43 rfl) (by decide) (by decide) hZ H hEL) (a := x) 4 (argsL := []) (rest := []) (lenOf own_pd101 rfl) rfl rfl (Nat.le_of_eq rfl) (by rw [hml]; rfl) (hb hby own_d_prog_63_method_1_1) rfl (by decide) (by decide) ?_
  rintro _ vm1 h1 C1 ⟨rfl, rfl⟩
  have z1 := C1.2.1
  refine gat (mkF m 4 #[.val (.ref x), .val (.ref s1), .val (.ref d)] []) rfl ?_
  refine gs (mkF m 5 #[.val (.ref x), .val (.ref s1), .val (.ref d)] [(.ref s1)]) (fun _ _ A k => XS.aloadN A hx rfl (hb hby own_d_prog_63_method_1_4) rfl rfl k) ?_
  refine gldcO hx (ow hw 79 rfl) hSA (n := 20) (by decide) (by decide) 7 (hb hby own_d_prog_63_method_1_5) rfl (by decide) (by decide) ?_
  intro b2 vm2 h2 E2 C2
  have z2 := C2.2.1
  refine ginfo fun _ _ O3 => ?_
  refine gcallS (y := (⟨"java/util/Objects", "requireNonNull", "(Ljava/lang/Object;Ljava/lang/String;)Ljava/lang/Object;"⟩ : MethodName)) hx (ow hw 80 rfl) (ow hw 50 rfl) (ow hw 51 rfl) (ow hw 52 rfl) (by decide) (fun hZ H hEL => Pay.of_met (W := 0) (own_require2 l Z a0 cx [] (s1) (b2) vm2 h2 O3 ) (ow hw 52 rfl) (ow hw 51 rfl) (by decide) (by decide) hZ H hEL) 10 (argsL := [(.ref s1), (.ref b2)]) (rest := []) (lenOf own_pd105 rfl) rfl rfl (Nat.le_of_eq rfl) (by rw [hml]; rfl) (hb hby own_d_prog_63_method_1_7) rfl (by decide) (by decide) ?_
  rintro _ vm3 h3 C3 ⟨rfl, rfl⟩
  have z3 := C3.2.1
  refine gat (mkF m 10 #[.val (.ref x), .val (.ref s1), .val (.ref d)] [(.ref s1)]) rfl ?_
  refine gs (mkF m 11 #[.val (.ref x), .val (.ref s1), .val (.ref d)] []) (fun _ _ A k => XS.pop A hx rfl (hb hby own_d_prog_63_method_1_10) rfl rfl k) ?_
  refine gs (mkF m 12 #[.val (.ref x), .val (.ref s1), .val (.ref d)] [(.ref d)]) (fun _ _ A k => XS.aloadN A hx rfl (hb hby own_d_prog_63_method_1_11) rfl rfl k) ?_
  refine gldcO hx (ow hw 81 rfl) hSA (n := 24) (by decide) (by decide) 14 (hb hby own_d_prog_63_method_1_12) rfl (by decide) (by decide) ?_
  intro b4 vm4 h4 E4 C4
  have z4 := C4.2.1
  refine ginfo fun _ _ O5 => ?_
  refine gcallS (y := (⟨"java/util/Objects", "requireNonNull", "(Ljava/lang/Object;Ljava/lang/String;)Ljava/lang/Object;"⟩ : MethodName)) hx (ow hw 80 rfl) (ow hw 50 rfl) (ow hw 51 rfl) (ow hw 52 rfl) (by decide) (fun hZ H hEL => Pay.of_met (W := 0) (own_require2 l Z a0 cx [] (d) (b4) vm4 h4 O5 ) (ow hw 52 rfl) (ow hw 51 rfl) (by decide) (by decide) hZ H hEL) 17 (argsL := [(.ref d), (.ref b4)]) (rest := []) (lenOf own_pd105 rfl) rfl rfl (Nat.le_of_eq rfl) (by rw [hml]; rfl) (hb hby own_d_prog_63_method_1_14) rfl (by decide) (by decide) ?_
  rintro _ vm5 h5 C5 ⟨rfl, rfl⟩
  have z5 := C5.2.1
  refine gat (mkF m 17 #[.val (.ref x), .val (.ref s1), .val (.ref d)] [(.ref d)]) rfl ?_
  refine gs (mkF m 18 #[.val (.ref x), .val (.ref s1), .val (.ref d)] []) (fun _ _ A k => XS.pop A hx rfl (hb hby own_d_prog_63_method_1_17) rfl rfl k) ?_
  refine gs (mkF m 19 #[.val (.ref x), .val (.ref s1), .val (.ref d)] [(.ref x)]) (fun _ _ A k => XS.aloadN A hx rfl (hb hby own_d_prog_63_method_1_18) rfl rfl k) ?_
  refine gs (mkF m 20 #[.val (.ref x), .val (.ref s1), .val (.ref d)] [(.ref s1), (.ref x)]) (fun _ _ A k => XS.aloadN A hx rfl (hb hby own_d_prog_63_method_1_19) rfl rfl k) ?_
  have f6 := ((P1.ext E2).ext E4)
  have f7 := ((P0.ext E2).ext E4)
  refine gputF (host := "") hx (Or.inl (ow hw 82 rfl)) Via.refl f6 f7 (Or.inr ⟨(ow hw 83 rfl), rfl, hnm⟩) (ow hw 73 rfl) (ty := (.object "java/lang/String")) (by decide) rfl rfl P3 (fun al => Safe.exa al f7 (by decide) (by decide)) 23 (hb hby own_d_prog_63_method_1_20) rfl ?_
  intro h8 W8 C8
  have z8 := C8.2.1
  have F8 := f6.same W8
  refine gs (mkF m 24 #[.val (.ref x), .val (.ref s1), .val (.ref d)] [(.ref x)]) (fun _ _ A k => XS.aloadN A hx rfl (hb hby own_d_prog_63_method_1_23) rfl rfl k) ?_
  refine gs (mkF m 25 #[.val (.ref x), .val (.ref s1), .val (.ref d)] [(.ref d), (.ref x)]) (fun _ _ A k => XS.aloadN A hx rfl (hb hby own_d_prog_63_method_1_24) rfl rfl k) ?_
  have f9 := (((P2.ext E2).ext E4).other W8 (Or.inr (slot_ne (Or.inr (ow hw 85 rfl)) (Or.inr (ow hw 83 rfl)) (by decide) (t := (.object "com/example/backfill/backfill/migration/ColumnDefinition")) (t' := (.object "java/lang/String")) (by decide) (by decide))))
  have f10 := (f7.wr W8)
  refine gputF (host := "") hx (Or.inl (ow hw 84 rfl)) Via.refl f9 f10 (Or.inr ⟨(ow hw 85 rfl), rfl, hnm⟩) (ow hw 73 rfl) (ty := (.object "com/example/backfill/backfill/migration/ColumnDefinition")) (by decide) rfl rfl P3 (fun al => Safe.exa al f10 (by decide) (by decide)) 28 (hb hby own_d_prog_63_method_1_25) rfl ?_
  intro h11 W11 C11
  have z11 := C11.2.1
  have F11 := f9.same W11
  exact gretV hx hret (hb hby own_d_prog_63_method_1_28) (by decide) (by decide) (fun vq Cq => ⟨rfl, (((((Keep.refl h0 [x]).ext E2).ext E4).wr W8 (Or.inl (List.mem_of_getElem? (i := 0) rfl))).wr W11 (Or.inl (List.mem_of_getElem? (i := 0) rfl))), F11⟩)
theorem own_d_prog_28_method_11_0 : decode prog_28_method_11_code 0 = .ok (.aload_n 0, 1) := by decide +kernel
theorem own_d_prog_28_method_11_1 : decode prog_28_method_11_code 1 = .ok (.getfield 37, 3) := by decide +kernel
theorem own_d_prog_28_method_11_4 : decode prog_28_method_11_code 4 = .ok (.ireturn, 1) := by decide +kernel
set_option maxRecDepth 65536 in
set_option maxHeartbeats 40000000 in
theorem own_nullable (l : Launch) (Z : State) (a0 : Array Value) (cx : Ctx Z a0) (ws : List Jvm.Cond) (x : Addr) (nu : Int32) (vm0 : Vm) (h0 : Heap) (X00 : Ext Z.heap h0) (P0 : Fld Z h0 x "com/example/backfill/backfill/migration/ColumnDefinition" "nullable" "Z" (.int nu)) (b_nu : (nu = 0 ∨ nu = 1)) :
    Met l (⟨"com/example/backfill/backfill/migration/ColumnDefinition", "nullable", "()Z"⟩ : MethodName) prog_28_method_11_code 1 (some .boolean) ws ({ frames := 0, cells := 0, slots := 0, locals := 0 } : Room) Z consts_1 vm0 h0 #[(.ref x)] (fun v vm h => v = some (.int nu) ∧ h0 = h) := by
  obtain ⟨hw, hEL, ⟨zc, Scs, hzc⟩, ⟨fm, Sfm, hfm⟩, ⟨kDATE, SDATE⟩, ⟨kCOMPUTED, SCOMPUTED⟩, ⟨kTEXT, STEXT⟩, ⟨kNUMBER, SNUMBER⟩, ⟨kBOOLEAN, SBOOLEAN⟩⟩ := id cx
  have hSA := own_SA hw
  refine Met.of_walk (a0 := a0) #[.val (.ref x)] (plainFor_of_name own_pn143) X00 hEL (fun m => by first | (simp [entryFrame, mkF, argsToLocals, Value.category]; done) | rfl) ?_
  intro p e s m below meth c vm hx hby hml hret hnm hC0
  have lt_x : h0.size > x := P0.lt
  refine gs (mkF m 1 #[.val (.ref x)] [(.ref x)]) (fun _ _ A k => XS.aloadN A hx rfl (hb hby own_d_prog_28_method_11_0) rfl rfl k) ?_
  refine ggetF (host := "") hx (Or.inl (ow hw 60 rfl)) Via.refl P0 4 (hb hby own_d_prog_28_method_11_1) rfl ?_
  exact gretN (t := .boolean) hx hret (by simp) (hb hby own_d_prog_28_method_11_4) (by decide) (by decide) (fun vq Cq => ⟨(by rcases b_nu with q | q <;> rw [q] <;> rfl), rfl⟩)
theorem own_d_prog_28_method_10_0 : decode prog_28_method_10_code 0 = .ok (.aload_n 0, 1) := by decide +kernel
theorem own_d_prog_28_method_10_1 : decode prog_28_method_10_code 1 = .ok (.getfield 33, 3) := by decide +kernel
theorem own_d_prog_28_method_10_4 : decode prog_28_method_10_code 4 = .ok (.areturn, 1) := by decide +kernel
set_option maxRecDepth 65536 in
set_option maxHeartbeats 40000000 in
theorem own_defaultN (l : Launch) (Z : State) (a0 : Array Value) (cx : Ctx Z a0) (ws : List Jvm.Cond) (x : Addr) (vm0 : Vm) (h0 : Heap) (X00 : Ext Z.heap h0) (P0 : Fld Z h0 x "com/example/backfill/backfill/migration/ColumnDefinition" "defaultValue" "Lcom/example/backfill/backfill/migration/ColumnValue;" .null) :
    Met l (⟨"com/example/backfill/backfill/migration/ColumnDefinition", "defaultValue", "()Lcom/example/backfill/backfill/migration/ColumnValue;"⟩ : MethodName) prog_28_method_10_code 1 (some (.object "com/example/backfill/backfill/migration/ColumnValue")) ws ({ frames := 0, cells := 0, slots := 0, locals := 0 } : Room) Z consts_1 vm0 h0 #[(.ref x)] (fun v vm h => v = some .null ∧ h0 = h) := by
  obtain ⟨hw, hEL, ⟨zc, Scs, hzc⟩, ⟨fm, Sfm, hfm⟩, ⟨kDATE, SDATE⟩, ⟨kCOMPUTED, SCOMPUTED⟩, ⟨kTEXT, STEXT⟩, ⟨kNUMBER, SNUMBER⟩, ⟨kBOOLEAN, SBOOLEAN⟩⟩ := id cx
  have hSA := own_SA hw
  refine Met.of_walk (a0 := a0) #[.val (.ref x)] (plainFor_of_name own_pn143) X00 hEL (fun m => by first | (simp [entryFrame, mkF, argsToLocals, Value.category]; done) | rfl) ?_
  intro p e s m below meth c vm hx hby hml hret hnm hC0
  have lt_x : h0.size > x := P0.lt
  refine gs (mkF m 1 #[.val (.ref x)] [(.ref x)]) (fun _ _ A k => XS.aloadN A hx rfl (hb hby own_d_prog_28_method_10_0) rfl rfl k) ?_
  refine ggetF (host := "") hx (Or.inl (ow hw 58 rfl)) Via.refl P0 4 (hb hby own_d_prog_28_method_10_1) rfl ?_
  exact gretA hx hret rfl rfl (hb hby own_d_prog_28_method_10_4) (by decide) (by decide) (fun vq Cq => ⟨rfl, rfl⟩)
set_option maxRecDepth 65536 in
set_option maxHeartbeats 40000000 in
theorem own_defaultR (l : Launch) (Z : State) (a0 : Array Value) (cx : Ctx Z a0) (ws : List Jvm.Cond) (x : Addr) (d : Addr) (vm0 : Vm) (h0 : Heap) (X00 : Ext Z.heap h0) (P0 : Fld Z h0 x "com/example/backfill/backfill/migration/ColumnDefinition" "defaultValue" "Lcom/example/backfill/backfill/migration/ColumnValue;" (.ref d)) :
    Met l (⟨"com/example/backfill/backfill/migration/ColumnDefinition", "defaultValue", "()Lcom/example/backfill/backfill/migration/ColumnValue;"⟩ : MethodName) prog_28_method_10_code 1 (some (.object "com/example/backfill/backfill/migration/ColumnValue")) ws ({ frames := 0, cells := 0, slots := 0, locals := 0 } : Room) Z consts_1 vm0 h0 #[(.ref x)] (fun v vm h => v = some (.ref d) ∧ h0 = h) := by
  obtain ⟨hw, hEL, ⟨zc, Scs, hzc⟩, ⟨fm, Sfm, hfm⟩, ⟨kDATE, SDATE⟩, ⟨kCOMPUTED, SCOMPUTED⟩, ⟨kTEXT, STEXT⟩, ⟨kNUMBER, SNUMBER⟩, ⟨kBOOLEAN, SBOOLEAN⟩⟩ := id cx
  have hSA := own_SA hw
  refine Met.of_walk (a0 := a0) #[.val (.ref x)] (plainFor_of_name own_pn143) X00 hEL (fun m => by first | (simp [entryFrame, mkF, argsToLocals, Value.category]; done) | rfl) ?_
  intro p e s m below meth c vm hx hby hml hret hnm hC0
  have lt_x : h0.size > x := P0.lt
  refine gs (mkF m 1 #[.val (.ref x)] [(.ref x)]) (fun _ _ A k => XS.aloadN A hx rfl (hb hby own_d_prog_28_method_10_0) rfl rfl k) ?_
  refine ggetF (host := "") hx (Or.inl (ow hw 58 rfl)) Via.refl P0 4 (hb hby own_d_prog_28_method_10_1) rfl ?_
  exact gretA hx hret rfl rfl (hb hby own_d_prog_28_method_10_4) (by decide) (by decide) (fun vq Cq => ⟨rfl, rfl⟩)
theorem own_d_prog_63_method_2_0 : decode prog_63_method_2_code 0 = .ok (.aload_n 0, 1) := by decide +kernel
theorem own_d_prog_63_method_2_1 : decode prog_63_method_2_code 1 = .ok (.getfield 22, 3) := by decide +kernel
theorem own_d_prog_63_method_2_4 : decode prog_63_method_2_code 4 = .ok (.invokevirtual 25, 3) := by decide +kernel
theorem own_pd189 : parseMethodDescriptor "()Z" = some ⟨[], some .boolean⟩ := by decide +kernel
theorem own_d_prog_63_method_2_7 : decode prog_63_method_2_code 7 = .ok (.ifCond .ne 17, 3) := by decide +kernel
theorem own_d_prog_63_method_2_10 : decode prog_63_method_2_code 10 = .ok (.aload_n 0, 1) := by decide +kernel
theorem own_d_prog_63_method_2_11 : decode prog_63_method_2_code 11 = .ok (.getfield 22, 3) := by decide +kernel
theorem own_d_prog_63_method_2_14 : decode prog_63_method_2_code 14 = .ok (.invokevirtual 31, 3) := by decide +kernel
theorem own_pd194 : parseMethodDescriptor "()Lcom/example/backfill/backfill/migration/ColumnValue;" = some ⟨[], some (.object "com/example/backfill/backfill/migration/ColumnValue")⟩ := by decide +kernel
theorem own_d_prog_63_method_2_17 : decode prog_63_method_2_code 17 = .ok (.ifnonnull 7, 3) := by decide +kernel
theorem own_d_prog_63_method_2_20 : decode prog_63_method_2_code 20 = .ok (.iconst 1, 1) := by decide +kernel
theorem own_d_prog_63_method_2_21 : decode prog_63_method_2_code 21 = .ok (.goto 4, 3) := by decide +kernel
theorem own_d_prog_63_method_2_25 : decode prog_63_method_2_code 25 = .ok (.ireturn, 1) := by decide +kernel
theorem own_d_prog_63_method_2_24 : decode prog_63_method_2_code 24 = .ok (.iconst 0, 1) := by decide +kernel
set_option maxRecDepth 65536 in
set_option maxHeartbeats 40000000 in
theorem own_nnN (l : Launch) (Z : State) (a0 : Array Value) (cx : Ctx Z a0) (ws : List Jvm.Cond) (x : Addr) (col : Addr) (nu : Int32) (z : Int32) (vm0 : Vm) (h0 : Heap) (X00 : Ext Z.heap h0) (P0 : Fld Z h0 x "com/example/backfill/backfill/migration/NewColumn" "column" "Lcom/example/backfill/backfill/migration/ColumnDefinition;" (.ref col)) (P1 : Exa Z h0 col "com/example/backfill/backfill/migration/ColumnDefinition") (P2 : Fld Z h0 col "com/example/backfill/backfill/migration/ColumnDefinition" "nullable" "Z" (.int nu)) (P3 : Fld Z h0 col "com/example/backfill/backfill/migration/ColumnDefinition" "defaultValue" "Lcom/example/backfill/backfill/migration/ColumnValue;" .null) (b_nu : (nu = 0 ∨ nu = 1)) (P5 : ((nu = 0 → z = 1) ∧ (¬ nu = 0 → z = 0))) :
    Met l (⟨"com/example/backfill/backfill/migration/NewColumn", "notNullAtComplete", "()Z"⟩ : MethodName) prog_63_method_2_code 1 (some .boolean) ws ({ frames := 1, cells := 0, slots := 0, locals := 12 } : Room) Z consts_1 vm0 h0 #[(.ref x)] (fun v vm h => v = some (.int z) ∧ h0 = h) := by
  obtain ⟨hw, hEL, ⟨zc, Scs, hzc⟩, ⟨fm, Sfm, hfm⟩, ⟨kDATE, SDATE⟩, ⟨kCOMPUTED, SCOMPUTED⟩, ⟨kTEXT, STEXT⟩, ⟨kNUMBER, SNUMBER⟩, ⟨kBOOLEAN, SBOOLEAN⟩⟩ := id cx
  have hSA := own_SA hw
  refine Met.of_walk (a0 := a0) #[.val (.ref x)] (plainFor_of_name own_pn179) X00 hEL (fun m => by first | (simp [entryFrame, mkF, argsToLocals, Value.category]; done) | rfl) ?_
  intro p e s m below meth c vm hx hby hml hret hnm hC0
  have lt_x : h0.size > x := P0.lt
  have lt_col : h0.size > col := P1.lt
  refine gs (mkF m 1 #[.val (.ref x)] [(.ref x)]) (fun _ _ A k => XS.aloadN A hx rfl (hb hby own_d_prog_63_method_2_0) rfl rfl k) ?_
  refine ggetF (host := "") hx (Or.inl (ow hw 84 rfl)) Via.refl P0 4 (hb hby own_d_prog_63_method_2_1) rfl ?_
  refine ginfo fun _ _ O1 => ?_
  refine gcallV (y := (⟨"com/example/backfill/backfill/migration/ColumnDefinition", "nullable", "()Z"⟩ : MethodName)) (z := (⟨"com/example/backfill/backfill/migration/ColumnDefinition", "nullable", "()Z"⟩ : MethodName)) hx (ow hw 91 rfl) (ow hw 92 rfl) (nfSel (ow hw 94 rfl)) (ow hw 94 rfl) (ow hw 93 rfl) (by decide) (fun hZ H hEL => Pay.of_met (W := 0) (own_nullable l Z a0 cx [] (col) (nu) vm h0 O1 P2 (by first | assumption | decide | omega)) (ow hw 95 rfl) (ow hw 36 rfl) (by decide) (by decide) hZ H hEL) 7 (argsL := []) (rest := []) P1 (lenOf own_pd189 rfl) rfl rfl (Nat.le_of_eq rfl) (by rw [hml]; rfl) (hb hby own_d_prog_63_method_2_4) rfl (by decide) (by decide) ?_
  rintro _ vm1 h1 C1 ⟨rfl, rfl⟩
  have z1 := C1.2.1
  refine gat (mkF m 7 #[.val (.ref x)] [(.int nu)]) rfl ?_
  by_cases hnu : nu = (0 : Int32)
  · refine gs (mkF m 10 #[.val (.ref x)] []) (fun _ _ A k => XS.ifNo A hx rfl (hb hby own_d_prog_63_method_2_7) rfl ((if0 _ _).trans (teq hnu).2) k) ?_
    refine gs (mkF m 11 #[.val (.ref x)] [(.ref x)]) (fun _ _ A k => XS.aloadN A hx rfl (hb hby own_d_prog_63_method_2_10) rfl rfl k) ?_
    refine ggetF (host := "") hx (Or.inl (ow hw 84 rfl)) Via.refl P0 14 (hb hby own_d_prog_63_method_2_11) rfl ?_
    refine ginfo fun _ _ O2 => ?_
    refine gcallV (y := (⟨"com/example/backfill/backfill/migration/ColumnDefinition", "defaultValue", "()Lcom/example/backfill/backfill/migration/ColumnValue;"⟩ : MethodName)) (z := (⟨"com/example/backfill/backfill/migration/ColumnDefinition", "defaultValue", "()Lcom/example/backfill/backfill/migration/ColumnValue;"⟩ : MethodName)) hx (ow hw 96 rfl) (ow hw 97 rfl) (nfSel (ow hw 99 rfl)) (ow hw 99 rfl) (ow hw 98 rfl) (by decide) (fun hZ H hEL => Pay.of_met (W := 0) (own_defaultN l Z a0 cx [] (col) vm1 h0 O2 P3) (ow hw 100 rfl) (ow hw 36 rfl) (by decide) (by decide) hZ H hEL) 17 (argsL := []) (rest := []) P1 (lenOf own_pd194 rfl) rfl rfl (Nat.le_of_eq rfl) (by rw [hml]; rfl) (hb hby own_d_prog_63_method_2_14) rfl (by decide) (by decide) ?_
    rintro _ vm2 h2 C2 ⟨rfl, rfl⟩
    have z2 := C2.2.1
    refine gat (mkF m 17 #[.val (.ref x)] [.null]) rfl ?_
    refine gs (mkF m 20 #[.val (.ref x)] []) (fun _ _ A k => XS.ifnonnullNo A hx rfl (hb hby own_d_prog_63_method_2_17) rfl k) ?_
    refine gs (mkF m 21 #[.val (.ref x)] [(.int (1 : Int32))]) (fun _ _ A k => XS.iconst A hx rfl (hb hby own_d_prog_63_method_2_20) k) ?_
    refine gs (mkF m 25 #[.val (.ref x)] [(.int (1 : Int32))]) (fun _ _ A k => XS.goto A hx rfl (pc0 := 21) (pc' := 25) rfl (hb hby own_d_prog_63_method_2_21) (by decide) (by decide) k) ?_
    exact gretN (t := .boolean) hx hret (by simp) (hb hby own_d_prog_63_method_2_25) (by decide) (by decide) (fun vq Cq => ⟨(by rw [(P5.1 hnu)]; rfl), rfl⟩)
  · refine gs (mkF m 24 #[.val (.ref x)] []) (fun _ _ A k => XS.ifYes A hx rfl (pc0 := 7) (pc' := 24) rfl (hb hby own_d_prog_63_method_2_7) rfl ((if0 _ _).trans (feq hnu).2) (by decide) (by decide) k) ?_
    refine gs (mkF m 25 #[.val (.ref x)] [(.int (0 : Int32))]) (fun _ _ A k => XS.iconst A hx rfl (hb hby own_d_prog_63_method_2_24) k) ?_
    exact gretN (t := .boolean) hx hret (by simp) (hb hby own_d_prog_63_method_2_25) (by decide) (by decide) (fun vq Cq => ⟨(by rw [(P5.2 hnu)]; rfl), rfl⟩)
set_option maxRecDepth 65536 in
set_option maxHeartbeats 40000000 in
theorem own_nnR (l : Launch) (Z : State) (a0 : Array Value) (cx : Ctx Z a0) (ws : List Jvm.Cond) (x : Addr) (col : Addr) (nu : Int32) (z : Int32) (d : Addr) (vm0 : Vm) (h0 : Heap) (X00 : Ext Z.heap h0) (P0 : Fld Z h0 x "com/example/backfill/backfill/migration/NewColumn" "column" "Lcom/example/backfill/backfill/migration/ColumnDefinition;" (.ref col)) (P1 : Exa Z h0 col "com/example/backfill/backfill/migration/ColumnDefinition") (P2 : Fld Z h0 col "com/example/backfill/backfill/migration/ColumnDefinition" "nullable" "Z" (.int nu)) (P3 : Fld Z h0 col "com/example/backfill/backfill/migration/ColumnDefinition" "defaultValue" "Lcom/example/backfill/backfill/migration/ColumnValue;" (.ref d)) (b_nu : (nu = 0 ∨ nu = 1)) (P5 : (z = 0)) :
    Met l (⟨"com/example/backfill/backfill/migration/NewColumn", "notNullAtComplete", "()Z"⟩ : MethodName) prog_63_method_2_code 1 (some .boolean) ws ({ frames := 1, cells := 0, slots := 0, locals := 12 } : Room) Z consts_1 vm0 h0 #[(.ref x)] (fun v vm h => v = some (.int z) ∧ h0 = h) := by
  obtain ⟨hw, hEL, ⟨zc, Scs, hzc⟩, ⟨fm, Sfm, hfm⟩, ⟨kDATE, SDATE⟩, ⟨kCOMPUTED, SCOMPUTED⟩, ⟨kTEXT, STEXT⟩, ⟨kNUMBER, SNUMBER⟩, ⟨kBOOLEAN, SBOOLEAN⟩⟩ := id cx
  have hSA := own_SA hw
  refine Met.of_walk (a0 := a0) #[.val (.ref x)] (plainFor_of_name own_pn179) X00 hEL (fun m => by first | (simp [entryFrame, mkF, argsToLocals, Value.category]; done) | rfl) ?_
  intro p e s m below meth c vm hx hby hml hret hnm hC0
  have lt_x : h0.size > x := P0.lt
  have lt_col : h0.size > col := P1.lt
  refine gs (mkF m 1 #[.val (.ref x)] [(.ref x)]) (fun _ _ A k => XS.aloadN A hx rfl (hb hby own_d_prog_63_method_2_0) rfl rfl k) ?_
  refine ggetF (host := "") hx (Or.inl (ow hw 84 rfl)) Via.refl P0 4 (hb hby own_d_prog_63_method_2_1) rfl ?_
  refine ginfo fun _ _ O1 => ?_
  refine gcallV (y := (⟨"com/example/backfill/backfill/migration/ColumnDefinition", "nullable", "()Z"⟩ : MethodName)) (z := (⟨"com/example/backfill/backfill/migration/ColumnDefinition", "nullable", "()Z"⟩ : MethodName)) hx (ow hw 91 rfl) (ow hw 92 rfl) (nfSel (ow hw 94 rfl)) (ow hw 94 rfl) (ow hw 93 rfl) (by decide) (fun hZ H hEL => Pay.of_met (W := 0) (own_nullable l Z a0 cx [] (col) (nu) vm h0 O1 P2 (by first | assumption | decide | omega)) (ow hw 95 rfl) (ow hw 36 rfl) (by decide) (by decide) hZ H hEL) 7 (argsL := []) (rest := []) P1 (lenOf own_pd189 rfl) rfl rfl (Nat.le_of_eq rfl) (by rw [hml]; rfl) (hb hby own_d_prog_63_method_2_4) rfl (by decide) (by decide) ?_
  rintro _ vm1 h1 C1 ⟨rfl, rfl⟩
  have z1 := C1.2.1
  refine gat (mkF m 7 #[.val (.ref x)] [(.int nu)]) rfl ?_
  by_cases hnu : nu = (0 : Int32)
  · refine gs (mkF m 10 #[.val (.ref x)] []) (fun _ _ A k => XS.ifNo A hx rfl (hb hby own_d_prog_63_method_2_7) rfl ((if0 _ _).trans (teq hnu).2) k) ?_
    refine gs (mkF m 11 #[.val (.ref x)] [(.ref x)]) (fun _ _ A k => XS.aloadN A hx rfl (hb hby own_d_prog_63_method_2_10) rfl rfl k) ?_
    refine ggetF (host := "") hx (Or.inl (ow hw 84 rfl)) Via.refl P0 14 (hb hby own_d_prog_63_method_2_11) rfl ?_
    refine ginfo fun _ _ O2 => ?_
    refine gcallV (y := (⟨"com/example/backfill/backfill/migration/ColumnDefinition", "defaultValue", "()Lcom/example/backfill/backfill/migration/ColumnValue;"⟩ : MethodName)) (z := (⟨"com/example/backfill/backfill/migration/ColumnDefinition", "defaultValue", "()Lcom/example/backfill/backfill/migration/ColumnValue;"⟩ : MethodName)) hx (ow hw 96 rfl) (ow hw 97 rfl) (nfSel (ow hw 99 rfl)) (ow hw 99 rfl) (ow hw 98 rfl) (by decide) (fun hZ H hEL => Pay.of_met (W := 0) (own_defaultR l Z a0 cx [] (col) (d) vm1 h0 O2 P3) (ow hw 100 rfl) (ow hw 36 rfl) (by decide) (by decide) hZ H hEL) 17 (argsL := []) (rest := []) P1 (lenOf own_pd194 rfl) rfl rfl (Nat.le_of_eq rfl) (by rw [hml]; rfl) (hb hby own_d_prog_63_method_2_14) rfl (by decide) (by decide) ?_
    rintro _ vm2 h2 C2 ⟨rfl, rfl⟩
    have z2 := C2.2.1
    refine gat (mkF m 17 #[.val (.ref x)] [(.ref d)]) rfl ?_
    refine gs (mkF m 24 #[.val (.ref x)] []) (fun _ _ A k => XS.ifnonnullYes A hx rfl (pc0 := 17) (pc' := 24) rfl (hb hby own_d_prog_63_method_2_17) rfl (by decide) (by decide) k) ?_
    refine gs (mkF m 25 #[.val (.ref x)] [(.int (0 : Int32))]) (fun _ _ A k => XS.iconst A hx rfl (hb hby own_d_prog_63_method_2_24) k) ?_
    exact gretN (t := .boolean) hx hret (by simp) (hb hby own_d_prog_63_method_2_25) (by decide) (by decide) (fun vq Cq => ⟨(by rw [P5]; rfl), rfl⟩)
  · refine gs (mkF m 24 #[.val (.ref x)] []) (fun _ _ A k => XS.ifYes A hx rfl (pc0 := 7) (pc' := 24) rfl (hb hby own_d_prog_63_method_2_7) rfl ((if0 _ _).trans (feq hnu).2) (by decide) (by decide) k) ?_
    refine gs (mkF m 25 #[.val (.ref x)] [(.int (0 : Int32))]) (fun _ _ A k => XS.iconst A hx rfl (hb hby own_d_prog_63_method_2_24) k) ?_
    exact gretN (t := .boolean) hx hret (by simp) (hb hby own_d_prog_63_method_2_25) (by decide) (by decide) (fun vq Cq => ⟨(by rw [P5]; rfl), rfl⟩)
theorem own_pd200 : parseMethodDescriptor "(I)Lcom/example/backfill/backfill/migration/ColumnValue$Kind;" = some ⟨[.int], some (.object "com/example/backfill/backfill/migration/ColumnValue$Kind")⟩ := by decide +kernel
theorem own_pd201 : parseMethodDescriptor "(C)Ljava/lang/String;" = some ⟨[.char], some (.object "java/lang/String")⟩ := by decide +kernel
theorem own_pd202 : parseMethodDescriptor "([C)V" = some ⟨[(.array .char)], none⟩ := by decide +kernel
theorem own_pd203 : parseMethodDescriptor "(Lcom/example/backfill/backfill/migration/ColumnValue$Kind;Ljava/lang/String;)V" = some ⟨[(.object "com/example/backfill/backfill/migration/ColumnValue$Kind"), (.object "java/lang/String")], none⟩ := by decide +kernel
theorem own_pd204 : parseMethodDescriptor "(Ljava/lang/String;Ljava/lang/String;Lcom/example/backfill/backfill/migration/ColumnValue;ZZZZLjava/lang/String;Lcom/example/backfill/backfill/migration/ColumnValue;)V" = some ⟨[(.object "java/lang/String"), (.object "java/lang/String"), (.object "com/example/backfill/backfill/migration/ColumnValue"), .boolean, .boolean, .boolean, .boolean, (.object "java/lang/String"), (.object "com/example/backfill/backfill/migration/ColumnValue")], none⟩ := by decide +kernel
theorem own_pd205 : parseMethodDescriptor "(Ljava/lang/String;Lcom/example/backfill/backfill/migration/ColumnDefinition;)V" = some ⟨[(.object "java/lang/String"), (.object "com/example/backfill/backfill/migration/ColumnDefinition")], none⟩ := by decide +kernel
set_option maxRecDepth 65536 in
set_option maxHeartbeats 40000000 in
theorem own_law (l : Launch) (Z : State) (a0 : Array Value) (cx : Ctx Z a0) (ws : List Jvm.Cond) (x0 : Int32) (x1 : Int32) (x2 : Int32) (x3 : Int32) (vm0 : Vm) (h0 : Heap) (X00 : Ext Z.heap h0)  :
    Met l x code maxLocals ret ws room_1 Z consts_1 vm0 h0 #[(.int x0), (.int x1), (.int x2), (.int x3)] (fun v vm h => v = some (.int (1 : Int32)) ∧ Keep h0 h []) := by
  obtain ⟨hw, hEL, ⟨zc, Scs, hzc⟩, ⟨fm, Sfm, hfm⟩, ⟨kDATE, SDATE⟩, ⟨kCOMPUTED, SCOMPUTED⟩, ⟨kTEXT, STEXT⟩, ⟨kNUMBER, SNUMBER⟩, ⟨kBOOLEAN, SBOOLEAN⟩⟩ := id cx
  have hSA := own_SA hw
  refine Met.of_walk (a0 := a0) #[.val (.int x0), .val (.int x1), .val (.int x2), .val (.int x3), .unset, .unset, .unset, .unset, .unset, .unset, .unset, .unset, .unset, .unset, .unset, .unset, .unset, .unset, .unset, .unset, .unset, .unset, .unset, .unset] (plainFor_of_name own_pn59) X00 hEL (fun m => by first | (simp [entryFrame, mkF, argsToLocals, Value.category, maxLocals]; done) | rfl) ?_
  intro p e s m below meth c vm hx hby hml hret hnm hC0
  refine gs (mkF m 1 #[.val (.int x0), .val (.int x1), .val (.int x2), .val (.int x3), .unset, .unset, .unset, .unset, .unset, .unset, .unset, .unset, .unset, .unset, .unset, .unset, .unset, .unset, .unset, .unset, .unset, .unset, .unset, .unset] [(.int x0)]) (fun _ _ A k => XS.iloadN A hx rfl (hb hby at_0) rfl  k) ?_
  refine gs (mkF m 2 #[.val (.int x0), .val (.int x1), .val (.int x2), .val (.int x3), .unset, .unset, .unset, .unset, .unset, .unset, .unset, .unset, .unset, .unset, .unset, .unset, .unset, .unset, .unset, .unset, .unset, .unset, .unset, .unset] [(.int (1 : Int32)), (.int x0)]) (fun _ _ A k => XS.iconst A hx rfl (hb hby at_1) k) ?_
  refine gs (mkF m 3 #[.val (.int x0), .val (.int x1), .val (.int x2), .val (.int x3), .unset, .unset, .unset, .unset, .unset, .unset, .unset, .unset, .unset, .unset, .unset, .unset, .unset, .unset, .unset, .unset, .unset, .unset, .unset, .unset] [(.int (x0 &&& (1 : Int32)))]) (fun _ _ A k => XS.iand A hx rfl (hb hby at_2) rfl k) ?_
  refine gjoin (fun vmJ hJ gJ => ∃ (fl1 : Int32), gJ = (mkF m 11 #[.val (.int x0), .val (.int x1), .val (.int x2), .val (.int x3), .unset, .unset, .unset, .unset, .unset, .unset, .unset, .unset, .unset, .unset, .unset, .unset, .unset, .unset, .unset, .unset, .unset, .unset, .unset, .unset] [(.int fl1)]) ∧ Keep h0 hJ [] ∧ CHr Z consts_1 vm h0 vmJ hJ ∧ (fl1 = 0 ∨ fl1 = 1)) 0 0 ?_ ?_
  · rintro vm1 h1 _ ⟨fl1, rfl, K1, C1, q1_0⟩
    have z1 := C1.2.1
    refine gs (mkF m 13 #[.val (.int x0), .val (.int x1), .val (.int x2), .val (.int x3), .val (.int fl1), .unset, .unset, .unset, .unset, .unset, .unset, .unset, .unset, .unset, .unset, .unset, .unset, .unset, .unset, .unset, .unset, .unset, .unset, .unset] []) (fun _ _ A k => XS.istore A hx rfl (hb hby at_11) rfl (l' := #[.val (.int x0), .val (.int x1), .val (.int x2), .val (.int x3), .val (.int fl1), .unset, .unset, .unset, .unset, .unset, .unset, .unset, .unset, .unset, .unset, .unset, .unset, .unset, .unset, .unset, .unset, .unset, .unset, .unset]) rfl k) ?_
    refine gs (mkF m 14 #[.val (.int x0), .val (.int x1), .val (.int x2), .val (.int x3), .val (.int fl1), .unset, .unset, .unset, .unset, .unset, .unset, .unset, .unset, .unset, .unset, .unset, .unset, .unset, .unset, .unset, .unset, .unset, .unset, .unset] [(.int x0)]) (fun _ _ A k => XS.iloadN A hx rfl (hb hby at_13) rfl  k) ?_
    refine gs (mkF m 15 #[.val (.int x0), .val (.int x1), .val (.int x2), .val (.int x3), .val (.int fl1), .unset, .unset, .unset, .unset, .unset, .unset, .unset, .unset, .unset, .unset, .unset, .unset, .unset, .unset, .unset, .unset, .unset, .unset, .unset] [(.int (2 : Int32)), (.int x0)]) (fun _ _ A k => XS.iconst A hx rfl (hb hby at_14) k) ?_
    refine gs (mkF m 16 #[.val (.int x0), .val (.int x1), .val (.int x2), .val (.int x3), .val (.int fl1), .unset, .unset, .unset, .unset, .unset, .unset, .unset, .unset, .unset, .unset, .unset, .unset, .unset, .unset, .unset, .unset, .unset, .unset, .unset] [(.int (x0 &&& (2 : Int32)))]) (fun _ _ A k => XS.iand A hx rfl (hb hby at_15) rfl k) ?_
    refine gjoin (fun vmJ hJ gJ => ∃ (fl2 : Int32), gJ = (mkF m 24 #[.val (.int x0), .val (.int x1), .val (.int x2), .val (.int x3), .val (.int fl1), .unset, .unset, .unset, .unset, .unset, .unset, .unset, .unset, .unset, .unset, .unset, .unset, .unset, .unset, .unset, .unset, .unset, .unset, .unset] [(.int fl2)]) ∧ Keep h1 hJ [] ∧ CHr Z consts_1 vm1 h1 vmJ hJ ∧ (fl2 = 0 ∨ fl2 = 1)) 0 0 ?_ ?_
    · rintro vm2 h2 _ ⟨fl2, rfl, K2, C2, q2_0⟩
      have z2 := C2.2.1
      refine gs (mkF m 26 #[.val (.int x0), .val (.int x1), .val (.int x2), .val (.int x3), .val (.int fl1), .val (.int fl2), .unset, .unset, .unset, .unset, .unset, .unset, .unset, .unset, .unset, .unset, .unset, .unset, .unset, .unset, .unset, .unset, .unset, .unset] []) (fun _ _ A k => XS.istore A hx rfl (hb hby at_24) rfl (l' := #[.val (.int x0), .val (.int x1), .val (.int x2), .val (.int x3), .val (.int fl1), .val (.int fl2), .unset, .unset, .unset, .unset, .unset, .unset, .unset, .unset, .unset, .unset, .unset, .unset, .unset, .unset, .unset, .unset, .unset, .unset]) rfl k) ?_
      refine gs (mkF m 27 #[.val (.int x0), .val (.int x1), .val (.int x2), .val (.int x3), .val (.int fl1), .val (.int fl2), .unset, .unset, .unset, .unset, .unset, .unset, .unset, .unset, .unset, .unset, .unset, .unset, .unset, .unset, .unset, .unset, .unset, .unset] [(.int x0)]) (fun _ _ A k => XS.iloadN A hx rfl (hb hby at_26) rfl  k) ?_
      refine gs (mkF m 28 #[.val (.int x0), .val (.int x1), .val (.int x2), .val (.int x3), .val (.int fl1), .val (.int fl2), .unset, .unset, .unset, .unset, .unset, .unset, .unset, .unset, .unset, .unset, .unset, .unset, .unset, .unset, .unset, .unset, .unset, .unset] [(.int (4 : Int32)), (.int x0)]) (fun _ _ A k => XS.iconst A hx rfl (hb hby at_27) k) ?_
      refine gs (mkF m 29 #[.val (.int x0), .val (.int x1), .val (.int x2), .val (.int x3), .val (.int fl1), .val (.int fl2), .unset, .unset, .unset, .unset, .unset, .unset, .unset, .unset, .unset, .unset, .unset, .unset, .unset, .unset, .unset, .unset, .unset, .unset] [(.int (x0 &&& (4 : Int32)))]) (fun _ _ A k => XS.iand A hx rfl (hb hby at_28) rfl k) ?_
      refine gjoin (fun vmJ hJ gJ => ∃ (fl3 : Int32), gJ = (mkF m 42 #[.val (.int x0), .val (.int x1), .val (.int x2), .val (.int x3), .val (.int fl1), .val (.int fl2), .unset, .unset, .unset, .unset, .unset, .unset, .unset, .unset, .unset, .unset, .unset, .unset, .unset, .unset, .unset, .unset, .unset, .unset] [(.int fl3)]) ∧ Keep h2 hJ [] ∧ CHr Z consts_1 vm2 h2 vmJ hJ ∧ (fl3 = 0 ∨ fl3 = 1) ∧ (fl3 = 0 ∨ fl1 = 0)) 0 0 ?_ ?_
      · rintro vm3 h3 _ ⟨fl3, rfl, K3, C3, q3_0, q3_1⟩
        have z3 := C3.2.1
        refine gs (mkF m 44 #[.val (.int x0), .val (.int x1), .val (.int x2), .val (.int x3), .val (.int fl1), .val (.int fl2), .val (.int fl3), .unset, .unset, .unset, .unset, .unset, .unset, .unset, .unset, .unset, .unset, .unset, .unset, .unset, .unset, .unset, .unset, .unset] []) (fun _ _ A k => XS.istore A hx rfl (hb hby at_42) rfl (l' := #[.val (.int x0), .val (.int x1), .val (.int x2), .val (.int x3), .val (.int fl1), .val (.int fl2), .val (.int fl3), .unset, .unset, .unset, .unset, .unset, .unset, .unset, .unset, .unset, .unset, .unset, .unset, .unset, .unset, .unset, .unset, .unset]) rfl k) ?_
        refine gs (mkF m 45 #[.val (.int x0), .val (.int x1), .val (.int x2), .val (.int x3), .val (.int fl1), .val (.int fl2), .val (.int fl3), .unset, .unset, .unset, .unset, .unset, .unset, .unset, .unset, .unset, .unset, .unset, .unset, .unset, .unset, .unset, .unset, .unset] [(.int x0)]) (fun _ _ A k => XS.iloadN A hx rfl (hb hby at_44) rfl  k) ?_
        refine gs (mkF m 47 #[.val (.int x0), .val (.int x1), .val (.int x2), .val (.int x3), .val (.int fl1), .val (.int fl2), .val (.int fl3), .unset, .unset, .unset, .unset, .unset, .unset, .unset, .unset, .unset, .unset, .unset, .unset, .unset, .unset, .unset, .unset, .unset] [(.int (8 : Int32)), (.int x0)]) (fun _ _ A k => XS.bipush A hx rfl (hb hby at_45) k) ?_
        refine gs (mkF m 48 #[.val (.int x0), .val (.int x1), .val (.int x2), .val (.int x3), .val (.int fl1), .val (.int fl2), .val (.int fl3), .unset, .unset, .unset, .unset, .unset, .unset, .unset, .unset, .unset, .unset, .unset, .unset, .unset, .unset, .unset, .unset, .unset] [(.int (x0 &&& (8 : Int32)))]) (fun _ _ A k => XS.iand A hx rfl (hb hby at_47) rfl k) ?_
        refine gjoin (fun vmJ hJ gJ => ∃ (fl4 : Int32), gJ = (mkF m 56 #[.val (.int x0), .val (.int x1), .val (.int x2), .val (.int x3), .val (.int fl1), .val (.int fl2), .val (.int fl3), .unset, .unset, .unset, .unset, .unset, .unset, .unset, .unset, .unset, .unset, .unset, .unset, .unset, .unset, .unset, .unset, .unset] [(.int fl4)]) ∧ Keep h3 hJ [] ∧ CHr Z consts_1 vm3 h3 vmJ hJ ∧ (fl4 = 0 ∨ fl4 = 1)) 0 0 ?_ ?_
        · rintro vm4 h4 _ ⟨fl4, rfl, K4, C4, q4_0⟩
          have z4 := C4.2.1
          refine gs (mkF m 58 #[.val (.int x0), .val (.int x1), .val (.int x2), .val (.int x3), .val (.int fl1), .val (.int fl2), .val (.int fl3), .val (.int fl4), .unset, .unset, .unset, .unset, .unset, .unset, .unset, .unset, .unset, .unset, .unset, .unset, .unset, .unset, .unset, .unset] []) (fun _ _ A k => XS.istore A hx rfl (hb hby at_56) rfl (l' := #[.val (.int x0), .val (.int x1), .val (.int x2), .val (.int x3), .val (.int fl1), .val (.int fl2), .val (.int fl3), .val (.int fl4), .unset, .unset, .unset, .unset, .unset, .unset, .unset, .unset, .unset, .unset, .unset, .unset, .unset, .unset, .unset, .unset]) rfl k) ?_
          refine gs (mkF m 59 #[.val (.int x0), .val (.int x1), .val (.int x2), .val (.int x3), .val (.int fl1), .val (.int fl2), .val (.int fl3), .val (.int fl4), .unset, .unset, .unset, .unset, .unset, .unset, .unset, .unset, .unset, .unset, .unset, .unset, .unset, .unset, .unset, .unset] [(.int x0)]) (fun _ _ A k => XS.iloadN A hx rfl (hb hby at_58) rfl  k) ?_
          refine gs (mkF m 61 #[.val (.int x0), .val (.int x1), .val (.int x2), .val (.int x3), .val (.int fl1), .val (.int fl2), .val (.int fl3), .val (.int fl4), .unset, .unset, .unset, .unset, .unset, .unset, .unset, .unset, .unset, .unset, .unset, .unset, .unset, .unset, .unset, .unset] [(.int (16 : Int32)), (.int x0)]) (fun _ _ A k => XS.bipush A hx rfl (hb hby at_59) k) ?_
          refine gs (mkF m 62 #[.val (.int x0), .val (.int x1), .val (.int x2), .val (.int x3), .val (.int fl1), .val (.int fl2), .val (.int fl3), .val (.int fl4), .unset, .unset, .unset, .unset, .unset, .unset, .unset, .unset, .unset, .unset, .unset, .unset, .unset, .unset, .unset, .unset] [(.int (x0 &&& (16 : Int32)))]) (fun _ _ A k => XS.iand A hx rfl (hb hby at_61) rfl k) ?_
          refine gjoin (fun vmJ hJ gJ => ∃ (fl5 : Int32), gJ = (mkF m 70 #[.val (.int x0), .val (.int x1), .val (.int x2), .val (.int x3), .val (.int fl1), .val (.int fl2), .val (.int fl3), .val (.int fl4), .unset, .unset, .unset, .unset, .unset, .unset, .unset, .unset, .unset, .unset, .unset, .unset, .unset, .unset, .unset, .unset] [(.int fl5)]) ∧ Keep h4 hJ [] ∧ CHr Z consts_1 vm4 h4 vmJ hJ ∧ (fl5 = 0 ∨ fl5 = 1)) 0 0 ?_ ?_
          · rintro vm5 h5 _ ⟨fl5, rfl, K5, C5, q5_0⟩
            have z5 := C5.2.1
            refine gs (mkF m 72 #[.val (.int x0), .val (.int x1), .val (.int x2), .val (.int x3), .val (.int fl1), .val (.int fl2), .val (.int fl3), .val (.int fl4), .val (.int fl5), .unset, .unset, .unset, .unset, .unset, .unset, .unset, .unset, .unset, .unset, .unset, .unset, .unset, .unset, .unset] []) (fun _ _ A k => XS.istore A hx rfl (hb hby at_70) rfl (l' := #[.val (.int x0), .val (.int x1), .val (.int x2), .val (.int x3), .val (.int fl1), .val (.int fl2), .val (.int fl3), .val (.int fl4), .val (.int fl5), .unset, .unset, .unset, .unset, .unset, .unset, .unset, .unset, .unset, .unset, .unset, .unset, .unset, .unset, .unset]) rfl k) ?_
            refine gs (mkF m 73 #[.val (.int x0), .val (.int x1), .val (.int x2), .val (.int x3), .val (.int fl1), .val (.int fl2), .val (.int fl3), .val (.int fl4), .val (.int fl5), .unset, .unset, .unset, .unset, .unset, .unset, .unset, .unset, .unset, .unset, .unset, .unset, .unset, .unset, .unset] [(.int x0)]) (fun _ _ A k => XS.iloadN A hx rfl (hb hby at_72) rfl  k) ?_
            refine gs (mkF m 75 #[.val (.int x0), .val (.int x1), .val (.int x2), .val (.int x3), .val (.int fl1), .val (.int fl2), .val (.int fl3), .val (.int fl4), .val (.int fl5), .unset, .unset, .unset, .unset, .unset, .unset, .unset, .unset, .unset, .unset, .unset, .unset, .unset, .unset, .unset] [(.int (32 : Int32)), (.int x0)]) (fun _ _ A k => XS.bipush A hx rfl (hb hby at_73) k) ?_
            refine gs (mkF m 76 #[.val (.int x0), .val (.int x1), .val (.int x2), .val (.int x3), .val (.int fl1), .val (.int fl2), .val (.int fl3), .val (.int fl4), .val (.int fl5), .unset, .unset, .unset, .unset, .unset, .unset, .unset, .unset, .unset, .unset, .unset, .unset, .unset, .unset, .unset] [(.int (x0 &&& (32 : Int32)))]) (fun _ _ A k => XS.iand A hx rfl (hb hby at_75) rfl k) ?_
            refine gjoin (fun vmJ hJ gJ => ∃ (fl6 : Int32), gJ = (mkF m 84 #[.val (.int x0), .val (.int x1), .val (.int x2), .val (.int x3), .val (.int fl1), .val (.int fl2), .val (.int fl3), .val (.int fl4), .val (.int fl5), .unset, .unset, .unset, .unset, .unset, .unset, .unset, .unset, .unset, .unset, .unset, .unset, .unset, .unset, .unset] [(.int fl6)]) ∧ Keep h5 hJ [] ∧ CHr Z consts_1 vm5 h5 vmJ hJ ∧ (fl6 = 0 ∨ fl6 = 1)) 0 0 ?_ ?_
            · rintro vm6 h6 _ ⟨fl6, rfl, K6, C6, q6_0⟩
              have z6 := C6.2.1
              refine gs (mkF m 86 #[.val (.int x0), .val (.int x1), .val (.int x2), .val (.int x3), .val (.int fl1), .val (.int fl2), .val (.int fl3), .val (.int fl4), .val (.int fl5), .val (.int fl6), .unset, .unset, .unset, .unset, .unset, .unset, .unset, .unset, .unset, .unset, .unset, .unset, .unset, .unset] []) (fun _ _ A k => XS.istore A hx rfl (hb hby at_84) rfl (l' := #[.val (.int x0), .val (.int x1), .val (.int x2), .val (.int x3), .val (.int fl1), .val (.int fl2), .val (.int fl3), .val (.int fl4), .val (.int fl5), .val (.int fl6), .unset, .unset, .unset, .unset, .unset, .unset, .unset, .unset, .unset, .unset, .unset, .unset, .unset, .unset]) rfl k) ?_
              refine gs (mkF m 87 #[.val (.int x0), .val (.int x1), .val (.int x2), .val (.int x3), .val (.int fl1), .val (.int fl2), .val (.int fl3), .val (.int fl4), .val (.int fl5), .val (.int fl6), .unset, .unset, .unset, .unset, .unset, .unset, .unset, .unset, .unset, .unset, .unset, .unset, .unset, .unset] [(.int x0)]) (fun _ _ A k => XS.iloadN A hx rfl (hb hby at_86) rfl  k) ?_
              refine gs (mkF m 89 #[.val (.int x0), .val (.int x1), .val (.int x2), .val (.int x3), .val (.int fl1), .val (.int fl2), .val (.int fl3), .val (.int fl4), .val (.int fl5), .val (.int fl6), .unset, .unset, .unset, .unset, .unset, .unset, .unset, .unset, .unset, .unset, .unset, .unset, .unset, .unset] [(.int (64 : Int32)), (.int x0)]) (fun _ _ A k => XS.bipush A hx rfl (hb hby at_87) k) ?_
              refine gs (mkF m 90 #[.val (.int x0), .val (.int x1), .val (.int x2), .val (.int x3), .val (.int fl1), .val (.int fl2), .val (.int fl3), .val (.int fl4), .val (.int fl5), .val (.int fl6), .unset, .unset, .unset, .unset, .unset, .unset, .unset, .unset, .unset, .unset, .unset, .unset, .unset, .unset] [(.int (x0 &&& (64 : Int32)))]) (fun _ _ A k => XS.iand A hx rfl (hb hby at_89) rfl k) ?_
              refine gjoin (fun vmJ hJ gJ => ∃ (fl7 : Int32), gJ = (mkF m 98 #[.val (.int x0), .val (.int x1), .val (.int x2), .val (.int x3), .val (.int fl1), .val (.int fl2), .val (.int fl3), .val (.int fl4), .val (.int fl5), .val (.int fl6), .unset, .unset, .unset, .unset, .unset, .unset, .unset, .unset, .unset, .unset, .unset, .unset, .unset, .unset] [(.int fl7)]) ∧ Keep h6 hJ [] ∧ CHr Z consts_1 vm6 h6 vmJ hJ ∧ (fl7 = 0 ∨ fl7 = 1)) 0 0 ?_ ?_
              · rintro vm7 h7 _ ⟨fl7, rfl, K7, C7, q7_0⟩
                have z7 := C7.2.1
                refine gs (mkF m 100 #[.val (.int x0), .val (.int x1), .val (.int x2), .val (.int x3), .val (.int fl1), .val (.int fl2), .val (.int fl3), .val (.int fl4), .val (.int fl5), .val (.int fl6), .val (.int fl7), .unset, .unset, .unset, .unset, .unset, .unset, .unset, .unset, .unset, .unset, .unset, .unset, .unset] []) (fun _ _ A k => XS.istore A hx rfl (hb hby at_98) rfl (l' := #[.val (.int x0), .val (.int x1), .val (.int x2), .val (.int x3), .val (.int fl1), .val (.int fl2), .val (.int fl3), .val (.int fl4), .val (.int fl5), .val (.int fl6), .val (.int fl7), .unset, .unset, .unset, .unset, .unset, .unset, .unset, .unset, .unset, .unset, .unset, .unset, .unset]) rfl k) ?_
                refine gs (mkF m 101 #[.val (.int x0), .val (.int x1), .val (.int x2), .val (.int x3), .val (.int fl1), .val (.int fl2), .val (.int fl3), .val (.int fl4), .val (.int fl5), .val (.int fl6), .val (.int fl7), .unset, .unset, .unset, .unset, .unset, .unset, .unset, .unset, .unset, .unset, .unset, .unset, .unset] [(.int x0)]) (fun _ _ A k => XS.iloadN A hx rfl (hb hby at_100) rfl  k) ?_
                refine gs (mkF m 104 #[.val (.int x0), .val (.int x1), .val (.int x2), .val (.int x3), .val (.int fl1), .val (.int fl2), .val (.int fl3), .val (.int fl4), .val (.int fl5), .val (.int fl6), .val (.int fl7), .unset, .unset, .unset, .unset, .unset, .unset, .unset, .unset, .unset, .unset, .unset, .unset, .unset] [(.int (128 : Int32)), (.int x0)]) (fun _ _ A k => XS.sipush A hx rfl (hb hby at_101) k) ?_
                refine gs (mkF m 105 #[.val (.int x0), .val (.int x1), .val (.int x2), .val (.int x3), .val (.int fl1), .val (.int fl2), .val (.int fl3), .val (.int fl4), .val (.int fl5), .val (.int fl6), .val (.int fl7), .unset, .unset, .unset, .unset, .unset, .unset, .unset, .unset, .unset, .unset, .unset, .unset, .unset] [(.int (x0 &&& (128 : Int32)))]) (fun _ _ A k => XS.iand A hx rfl (hb hby at_104) rfl k) ?_
                refine gjoin (fun vmJ hJ gJ => ∃ (fl8 : Int32), gJ = (mkF m 113 #[.val (.int x0), .val (.int x1), .val (.int x2), .val (.int x3), .val (.int fl1), .val (.int fl2), .val (.int fl3), .val (.int fl4), .val (.int fl5), .val (.int fl6), .val (.int fl7), .unset, .unset, .unset, .unset, .unset, .unset, .unset, .unset, .unset, .unset, .unset, .unset, .unset] [(.int fl8)]) ∧ Keep h7 hJ [] ∧ CHr Z consts_1 vm7 h7 vmJ hJ ∧ (fl8 = 0 ∨ fl8 = 1)) 0 0 ?_ ?_
                · rintro vm8 h8 _ ⟨fl8, rfl, K8, C8, q8_0⟩
                  have z8 := C8.2.1
                  refine gs (mkF m 115 #[.val (.int x0), .val (.int x1), .val (.int x2), .val (.int x3), .val (.int fl1), .val (.int fl2), .val (.int fl3), .val (.int fl4), .val (.int fl5), .val (.int fl6), .val (.int fl7), .val (.int fl8), .unset, .unset, .unset, .unset, .unset, .unset, .unset, .unset, .unset, .unset, .unset, .unset] []) (fun _ _ A k => XS.istore A hx rfl (hb hby at_113) rfl (l' := #[.val (.int x0), .val (.int x1), .val (.int x2), .val (.int x3), .val (.int fl1), .val (.int fl2), .val (.int fl3), .val (.int fl4), .val (.int fl5), .val (.int fl6), .val (.int fl7), .val (.int fl8), .unset, .unset, .unset, .unset, .unset, .unset, .unset, .unset, .unset, .unset, .unset, .unset]) rfl k) ?_
                  refine gs (mkF m 116 #[.val (.int x0), .val (.int x1), .val (.int x2), .val (.int x3), .val (.int fl1), .val (.int fl2), .val (.int fl3), .val (.int fl4), .val (.int fl5), .val (.int fl6), .val (.int fl7), .val (.int fl8), .unset, .unset, .unset, .unset, .unset, .unset, .unset, .unset, .unset, .unset, .unset, .unset] [(.int x1)]) (fun _ _ A k => XS.iloadN A hx rfl (hb hby at_115) rfl  k) ?_
                  refine ginfo fun _ _ O9 => ?_
                  refine gcallS (y := (⟨"com/example/backfill/backfill/migration/NewColumnNotNullAtCompletePinLaw", "kindOf", "(I)Lcom/example/backfill/backfill/migration/ColumnValue$Kind;"⟩ : MethodName)) hx (ow hw 0 rfl) (ow hw 1 rfl) (ow hw 2 rfl) (ow hw 3 rfl) (by decide) (fun hZ H hEL => Pay.of_met (W := 0) (own_kindOf l Z a0 cx [] (x1) vm8 h8 O9 ) (ow hw 3 rfl) (ow hw 2 rfl) (by decide) (by decide) hZ H hEL) 119 (argsL := [(.int x1)]) (rest := []) (lenOf own_pd200 rfl) rfl rfl (Nat.le_of_eq rfl) (by rw [hml]; rfl) (hb hby at_116) rfl (by decide) (by decide) ?_
                  rintro _ vm9 h9 C9 ⟨r9, rfl, rfl⟩
                  have z9 := C9.2.1
                  refine gat (mkF m 119 #[.val (.int x0), .val (.int x1), .val (.int x2), .val (.int x3), .val (.int fl1), .val (.int fl2), .val (.int fl3), .val (.int fl4), .val (.int fl5), .val (.int fl6), .val (.int fl7), .val (.int fl8), .unset, .unset, .unset, .unset, .unset, .unset, .unset, .unset, .unset, .unset, .unset, .unset] [(.ref r9)]) rfl ?_
                  refine gs (mkF m 121 #[.val (.int x0), .val (.int x1), .val (.int x2), .val (.int x3), .val (.int fl1), .val (.int fl2), .val (.int fl3), .val (.int fl4), .val (.int fl5), .val (.int fl6), .val (.int fl7), .val (.int fl8), .val (.ref r9), .unset, .unset, .unset, .unset, .unset, .unset, .unset, .unset, .unset, .unset, .unset] []) (fun _ _ A k => XS.astore A hx rfl (hb hby at_119) rfl rfl (l' := #[.val (.int x0), .val (.int x1), .val (.int x2), .val (.int x3), .val (.int fl1), .val (.int fl2), .val (.int fl3), .val (.int fl4), .val (.int fl5), .val (.int fl6), .val (.int fl7), .val (.int fl8), .val (.ref r9), .unset, .unset, .unset, .unset, .unset, .unset, .unset, .unset, .unset, .unset, .unset]) rfl k) ?_
                  refine gs (mkF m 122 #[.val (.int x0), .val (.int x1), .val (.int x2), .val (.int x3), .val (.int fl1), .val (.int fl2), .val (.int fl3), .val (.int fl4), .val (.int fl5), .val (.int fl6), .val (.int fl7), .val (.int fl8), .val (.ref r9), .unset, .unset, .unset, .unset, .unset, .unset, .unset, .unset, .unset, .unset, .unset] [(.int x2)]) (fun _ _ A k => XS.iloadN A hx rfl (hb hby at_121) rfl  k) ?_
                  refine gs (mkF m 125 #[.val (.int x0), .val (.int x1), .val (.int x2), .val (.int x3), .val (.int fl1), .val (.int fl2), .val (.int fl3), .val (.int fl4), .val (.int fl5), .val (.int fl6), .val (.int fl7), .val (.int fl8), .val (.ref r9), .unset, .unset, .unset, .unset, .unset, .unset, .unset, .unset, .unset, .unset, .unset] [(.int (255 : Int32)), (.int x2)]) (fun _ _ A k => XS.sipush A hx rfl (hb hby at_122) k) ?_
                  refine gs (mkF m 126 #[.val (.int x0), .val (.int x1), .val (.int x2), .val (.int x3), .val (.int fl1), .val (.int fl2), .val (.int fl3), .val (.int fl4), .val (.int fl5), .val (.int fl6), .val (.int fl7), .val (.int fl8), .val (.ref r9), .unset, .unset, .unset, .unset, .unset, .unset, .unset, .unset, .unset, .unset, .unset] [(.int (x2 &&& (255 : Int32)))]) (fun _ _ A k => XS.iand A hx rfl (hb hby at_125) rfl k) ?_
                  refine gi2c hx (i2c_mask _) 127 (hb hby at_126) rfl ?_
                  refine gs (mkF m 129 #[.val (.int x0), .val (.int x1), .val (.int x2), .val (.int x3), .val (.int fl1), .val (.int fl2), .val (.int fl3), .val (.int fl4), .val (.int fl5), .val (.int fl6), .val (.int fl7), .val (.int fl8), .val (.ref r9), .val (.int (x2 &&& (255 : Int32))), .unset, .unset, .unset, .unset, .unset, .unset, .unset, .unset, .unset, .unset] []) (fun _ _ A k => XS.istore A hx rfl (hb hby at_127) rfl (l' := #[.val (.int x0), .val (.int x1), .val (.int x2), .val (.int x3), .val (.int fl1), .val (.int fl2), .val (.int fl3), .val (.int fl4), .val (.int fl5), .val (.int fl6), .val (.int fl7), .val (.int fl8), .val (.ref r9), .val (.int (x2 &&& (255 : Int32))), .unset, .unset, .unset, .unset, .unset, .unset, .unset, .unset, .unset, .unset]) rfl k) ?_
                  refine gs (mkF m 131 #[.val (.int x0), .val (.int x1), .val (.int x2), .val (.int x3), .val (.int fl1), .val (.int fl2), .val (.int fl3), .val (.int fl4), .val (.int fl5), .val (.int fl6), .val (.int fl7), .val (.int fl8), .val (.ref r9), .val (.int (x2 &&& (255 : Int32))), .unset, .unset, .unset, .unset, .unset, .unset, .unset, .unset, .unset, .unset] [(.int fl8)]) (fun _ _ A k => XS.iload A hx rfl (hb hby at_129) rfl  k) ?_
                  refine gjoin (fun vmJ hJ gJ => ∃ (sx10 : Addr), ∃ (t10 : Addr), ∃ (cs10 : List Int32), gJ = (mkF m 154 #[.val (.int x0), .val (.int x1), .val (.int x2), .val (.int x3), .val (.int fl1), .val (.int fl2), .val (.int fl3), .val (.int fl4), .val (.int fl5), .val (.int fl6), .val (.int fl7), .val (.int fl8), .val (.ref r9), .val (.int (x2 &&& (255 : Int32))), .val (.ref sx10), .unset, .unset, .unset, .unset, .unset, .unset, .unset, .unset, .unset] []) ∧ Keep h8 hJ [] ∧ CHr Z consts_1 vm9 h8 vmJ hJ ∧ Str Z hJ sx10 t10 cs10) 6 12 ?_ ?_
                  · rintro vm10 h10 _ ⟨sx10, t10, cs10, rfl, K10, C10, q10_0⟩
                    have z10 := C10.2.1
                    have lt_sx10 : h10.size > sx10 := q10_0.1.lt
                    have lt_t10 : h10.size > t10 := q10_0.tlt
                    refine gs (mkF m 155 #[.val (.int x0), .val (.int x1), .val (.int x2), .val (.int x3), .val (.int fl1), .val (.int fl2), .val (.int fl3), .val (.int fl4), .val (.int fl5), .val (.int fl6), .val (.int fl7), .val (.int fl8), .val (.ref r9), .val (.int (x2 &&& (255 : Int32))), .val (.ref sx10), .unset, .unset, .unset, .unset, .unset, .unset, .unset, .unset, .unset] [(.int x3)]) (fun _ _ A k => XS.iloadN A hx rfl (hb hby at_154) rfl  k) ?_
                    refine gs (mkF m 158 #[.val (.int x0), .val (.int x1), .val (.int x2), .val (.int x3), .val (.int fl1), .val (.int fl2), .val (.int fl3), .val (.int fl4), .val (.int fl5), .val (.int fl6), .val (.int fl7), .val (.int fl8), .val (.ref r9), .val (.int (x2 &&& (255 : Int32))), .val (.ref sx10), .unset, .unset, .unset, .unset, .unset, .unset, .unset, .unset, .unset] [(.int (255 : Int32)), (.int x3)]) (fun _ _ A k => XS.sipush A hx rfl (hb hby at_155) k) ?_
                    refine gs (mkF m 159 #[.val (.int x0), .val (.int x1), .val (.int x2), .val (.int x3), .val (.int fl1), .val (.int fl2), .val (.int fl3), .val (.int fl4), .val (.int fl5), .val (.int fl6), .val (.int fl7), .val (.int fl8), .val (.ref r9), .val (.int (x2 &&& (255 : Int32))), .val (.ref sx10), .unset, .unset, .unset, .unset, .unset, .unset, .unset, .unset, .unset] [(.int (x3 &&& (255 : Int32)))]) (fun _ _ A k => XS.iand A hx rfl (hb hby at_158) rfl k) ?_
                    refine gi2c hx (i2c_mask _) 160 (hb hby at_159) rfl ?_
                    refine ginfo fun _ _ O19 => ?_
                    refine gcallS (y := (⟨"java/lang/String", "valueOf", "(C)Ljava/lang/String;"⟩ : MethodName)) hx (ow hw 8 rfl) (ow hw 9 rfl) (ow hw 10 rfl) (ow hw 11 rfl) (by decide) (fun hZ H hEL => Pay.of_met (W := 0) (own_valueOfC l Z a0 cx [] ((x3 &&& (255 : Int32))) vm10 h10 O19 (b255 _)) (ow hw 11 rfl) (ow hw 10 rfl) (by decide) (by decide) hZ H hEL) 163 (argsL := [(.int (x3 &&& (255 : Int32)))]) (rest := []) (lenOf own_pd201 rfl) rfl rfl (Nat.le_of_eq rfl) (by rw [hml]; rfl) (hb hby at_160) rfl (by decide) (by decide) ?_
                    rintro _ vm19 h19 C19 ⟨r19, t19, rfl, K19, q19_0, q19_1⟩
                    have z19 := C19.2.1
                    have lt_r19 : h19.size > r19 := q19_1.1.lt
                    have lt_t19 : h19.size > t19 := q19_1.tlt
                    refine gat (mkF m 163 #[.val (.int x0), .val (.int x1), .val (.int x2), .val (.int x3), .val (.int fl1), .val (.int fl2), .val (.int fl3), .val (.int fl4), .val (.int fl5), .val (.int fl6), .val (.int fl7), .val (.int fl8), .val (.ref r9), .val (.int (x2 &&& (255 : Int32))), .val (.ref sx10), .unset, .unset, .unset, .unset, .unset, .unset, .unset, .unset, .unset] [(.ref r19)]) rfl ?_
                    refine gs (mkF m 165 #[.val (.int x0), .val (.int x1), .val (.int x2), .val (.int x3), .val (.int fl1), .val (.int fl2), .val (.int fl3), .val (.int fl4), .val (.int fl5), .val (.int fl6), .val (.int fl7), .val (.int fl8), .val (.ref r9), .val (.int (x2 &&& (255 : Int32))), .val (.ref sx10), .val (.ref r19), .unset, .unset, .unset, .unset, .unset, .unset, .unset, .unset] []) (fun _ _ A k => XS.astore A hx rfl (hb hby at_163) rfl rfl (l' := #[.val (.int x0), .val (.int x1), .val (.int x2), .val (.int x3), .val (.int fl1), .val (.int fl2), .val (.int fl3), .val (.int fl4), .val (.int fl5), .val (.int fl6), .val (.int fl7), .val (.int fl8), .val (.ref r9), .val (.int (x2 &&& (255 : Int32))), .val (.ref sx10), .val (.ref r19), .unset, .unset, .unset, .unset, .unset, .unset, .unset, .unset]) rfl k) ?_
                    refine gs (mkF m 166 #[.val (.int x0), .val (.int x1), .val (.int x2), .val (.int x3), .val (.int fl1), .val (.int fl2), .val (.int fl3), .val (.int fl4), .val (.int fl5), .val (.int fl6), .val (.int fl7), .val (.int fl8), .val (.ref r9), .val (.int (x2 &&& (255 : Int32))), .val (.ref sx10), .val (.ref r19), .unset, .unset, .unset, .unset, .unset, .unset, .unset, .unset] [(.int x3)]) (fun _ _ A k => XS.iloadN A hx rfl (hb hby at_165) rfl  k) ?_
                    refine gs (mkF m 168 #[.val (.int x0), .val (.int x1), .val (.int x2), .val (.int x3), .val (.int fl1), .val (.int fl2), .val (.int fl3), .val (.int fl4), .val (.int fl5), .val (.int fl6), .val (.int fl7), .val (.int fl8), .val (.ref r9), .val (.int (x2 &&& (255 : Int32))), .val (.ref sx10), .val (.ref r19), .unset, .unset, .unset, .unset, .unset, .unset, .unset, .unset] [(.int (8 : Int32)), (.int x3)]) (fun _ _ A k => XS.bipush A hx rfl (hb hby at_166) k) ?_
                    refine gs (mkF m 169 #[.val (.int x0), .val (.int x1), .val (.int x2), .val (.int x3), .val (.int fl1), .val (.int fl2), .val (.int fl3), .val (.int fl4), .val (.int fl5), .val (.int fl6), .val (.int fl7), .val (.int fl8), .val (.ref r9), .val (.int (x2 &&& (255 : Int32))), .val (.ref sx10), .val (.ref r19), .unset, .unset, .unset, .unset, .unset, .unset, .unset, .unset] [(.int ((x3.toUInt32 >>> ((8 : Int32) &&& 31).toUInt32).toInt32))]) (fun _ _ A k => XS.iushr A hx rfl (hb hby at_168) rfl k) ?_
                    refine gs (mkF m 172 #[.val (.int x0), .val (.int x1), .val (.int x2), .val (.int x3), .val (.int fl1), .val (.int fl2), .val (.int fl3), .val (.int fl4), .val (.int fl5), .val (.int fl6), .val (.int fl7), .val (.int fl8), .val (.ref r9), .val (.int (x2 &&& (255 : Int32))), .val (.ref sx10), .val (.ref r19), .unset, .unset, .unset, .unset, .unset, .unset, .unset, .unset] [(.int (255 : Int32)), (.int ((x3.toUInt32 >>> ((8 : Int32) &&& 31).toUInt32).toInt32))]) (fun _ _ A k => XS.sipush A hx rfl (hb hby at_169) k) ?_
                    refine gs (mkF m 173 #[.val (.int x0), .val (.int x1), .val (.int x2), .val (.int x3), .val (.int fl1), .val (.int fl2), .val (.int fl3), .val (.int fl4), .val (.int fl5), .val (.int fl6), .val (.int fl7), .val (.int fl8), .val (.ref r9), .val (.int (x2 &&& (255 : Int32))), .val (.ref sx10), .val (.ref r19), .unset, .unset, .unset, .unset, .unset, .unset, .unset, .unset] [(.int (((x3.toUInt32 >>> ((8 : Int32) &&& 31).toUInt32).toInt32) &&& (255 : Int32)))]) (fun _ _ A k => XS.iand A hx rfl (hb hby at_172) rfl k) ?_
                    refine gi2c hx (i2c_mask _) 174 (hb hby at_173) rfl ?_
                    refine ginfo fun _ _ O20 => ?_
                    refine gcallS (y := (⟨"java/lang/String", "valueOf", "(C)Ljava/lang/String;"⟩ : MethodName)) hx (ow hw 8 rfl) (ow hw 9 rfl) (ow hw 10 rfl) (ow hw 11 rfl) (by decide) (fun hZ H hEL => Pay.of_met (W := 0) (own_valueOfC l Z a0 cx [] ((((x3.toUInt32 >>> ((8 : Int32) &&& 31).toUInt32).toInt32) &&& (255 : Int32))) vm19 h19 O20 (b255 _)) (ow hw 11 rfl) (ow hw 10 rfl) (by decide) (by decide) hZ H hEL) 177 (argsL := [(.int (((x3.toUInt32 >>> ((8 : Int32) &&& 31).toUInt32).toInt32) &&& (255 : Int32)))]) (rest := []) (lenOf own_pd201 rfl) rfl rfl (Nat.le_of_eq rfl) (by rw [hml]; rfl) (hb hby at_174) rfl (by decide) (by decide) ?_
                    rintro _ vm20 h20 C20 ⟨r20, t20, rfl, K20, q20_0, q20_1⟩
                    have z20 := C20.2.1
                    have lt_r20 : h20.size > r20 := q20_1.1.lt
                    have lt_t20 : h20.size > t20 := q20_1.tlt
                    refine gat (mkF m 177 #[.val (.int x0), .val (.int x1), .val (.int x2), .val (.int x3), .val (.int fl1), .val (.int fl2), .val (.int fl3), .val (.int fl4), .val (.int fl5), .val (.int fl6), .val (.int fl7), .val (.int fl8), .val (.ref r9), .val (.int (x2 &&& (255 : Int32))), .val (.ref sx10), .val (.ref r19), .unset, .unset, .unset, .unset, .unset, .unset, .unset, .unset] [(.ref r20)]) rfl ?_
                    refine gs (mkF m 179 #[.val (.int x0), .val (.int x1), .val (.int x2), .val (.int x3), .val (.int fl1), .val (.int fl2), .val (.int fl3), .val (.int fl4), .val (.int fl5), .val (.int fl6), .val (.int fl7), .val (.int fl8), .val (.ref r9), .val (.int (x2 &&& (255 : Int32))), .val (.ref sx10), .val (.ref r19), .val (.ref r20), .unset, .unset, .unset, .unset, .unset, .unset, .unset] []) (fun _ _ A k => XS.astore A hx rfl (hb hby at_177) rfl rfl (l' := #[.val (.int x0), .val (.int x1), .val (.int x2), .val (.int x3), .val (.int fl1), .val (.int fl2), .val (.int fl3), .val (.int fl4), .val (.int fl5), .val (.int fl6), .val (.int fl7), .val (.int fl8), .val (.ref r9), .val (.int (x2 &&& (255 : Int32))), .val (.ref sx10), .val (.ref r19), .val (.ref r20), .unset, .unset, .unset, .unset, .unset, .unset, .unset]) rfl k) ?_
                    refine gs (mkF m 180 #[.val (.int x0), .val (.int x1), .val (.int x2), .val (.int x3), .val (.int fl1), .val (.int fl2), .val (.int fl3), .val (.int fl4), .val (.int fl5), .val (.int fl6), .val (.int fl7), .val (.int fl8), .val (.ref r9), .val (.int (x2 &&& (255 : Int32))), .val (.ref sx10), .val (.ref r19), .val (.ref r20), .unset, .unset, .unset, .unset, .unset, .unset, .unset] [(.int x3)]) (fun _ _ A k => XS.iloadN A hx rfl (hb hby at_179) rfl  k) ?_
                    refine gs (mkF m 182 #[.val (.int x0), .val (.int x1), .val (.int x2), .val (.int x3), .val (.int fl1), .val (.int fl2), .val (.int fl3), .val (.int fl4), .val (.int fl5), .val (.int fl6), .val (.int fl7), .val (.int fl8), .val (.ref r9), .val (.int (x2 &&& (255 : Int32))), .val (.ref sx10), .val (.ref r19), .val (.ref r20), .unset, .unset, .unset, .unset, .unset, .unset, .unset] [(.int (16 : Int32)), (.int x3)]) (fun _ _ A k => XS.bipush A hx rfl (hb hby at_180) k) ?_
                    refine gs (mkF m 183 #[.val (.int x0), .val (.int x1), .val (.int x2), .val (.int x3), .val (.int fl1), .val (.int fl2), .val (.int fl3), .val (.int fl4), .val (.int fl5), .val (.int fl6), .val (.int fl7), .val (.int fl8), .val (.ref r9), .val (.int (x2 &&& (255 : Int32))), .val (.ref sx10), .val (.ref r19), .val (.ref r20), .unset, .unset, .unset, .unset, .unset, .unset, .unset] [(.int ((x3.toUInt32 >>> ((16 : Int32) &&& 31).toUInt32).toInt32))]) (fun _ _ A k => XS.iushr A hx rfl (hb hby at_182) rfl k) ?_
                    refine gs (mkF m 186 #[.val (.int x0), .val (.int x1), .val (.int x2), .val (.int x3), .val (.int fl1), .val (.int fl2), .val (.int fl3), .val (.int fl4), .val (.int fl5), .val (.int fl6), .val (.int fl7), .val (.int fl8), .val (.ref r9), .val (.int (x2 &&& (255 : Int32))), .val (.ref sx10), .val (.ref r19), .val (.ref r20), .unset, .unset, .unset, .unset, .unset, .unset, .unset] [(.int (255 : Int32)), (.int ((x3.toUInt32 >>> ((16 : Int32) &&& 31).toUInt32).toInt32))]) (fun _ _ A k => XS.sipush A hx rfl (hb hby at_183) k) ?_
                    refine gs (mkF m 187 #[.val (.int x0), .val (.int x1), .val (.int x2), .val (.int x3), .val (.int fl1), .val (.int fl2), .val (.int fl3), .val (.int fl4), .val (.int fl5), .val (.int fl6), .val (.int fl7), .val (.int fl8), .val (.ref r9), .val (.int (x2 &&& (255 : Int32))), .val (.ref sx10), .val (.ref r19), .val (.ref r20), .unset, .unset, .unset, .unset, .unset, .unset, .unset] [(.int (((x3.toUInt32 >>> ((16 : Int32) &&& 31).toUInt32).toInt32) &&& (255 : Int32)))]) (fun _ _ A k => XS.iand A hx rfl (hb hby at_186) rfl k) ?_
                    refine gi2c hx (i2c_mask _) 188 (hb hby at_187) rfl ?_
                    refine ginfo fun _ _ O21 => ?_
                    refine gcallS (y := (⟨"java/lang/String", "valueOf", "(C)Ljava/lang/String;"⟩ : MethodName)) hx (ow hw 8 rfl) (ow hw 9 rfl) (ow hw 10 rfl) (ow hw 11 rfl) (by decide) (fun hZ H hEL => Pay.of_met (W := 0) (own_valueOfC l Z a0 cx [] ((((x3.toUInt32 >>> ((16 : Int32) &&& 31).toUInt32).toInt32) &&& (255 : Int32))) vm20 h20 O21 (b255 _)) (ow hw 11 rfl) (ow hw 10 rfl) (by decide) (by decide) hZ H hEL) 191 (argsL := [(.int (((x3.toUInt32 >>> ((16 : Int32) &&& 31).toUInt32).toInt32) &&& (255 : Int32)))]) (rest := []) (lenOf own_pd201 rfl) rfl rfl (Nat.le_of_eq rfl) (by rw [hml]; rfl) (hb hby at_188) rfl (by decide) (by decide) ?_
                    rintro _ vm21 h21 C21 ⟨r21, t21, rfl, K21, q21_0, q21_1⟩
                    have z21 := C21.2.1
                    have lt_r21 : h21.size > r21 := q21_1.1.lt
                    have lt_t21 : h21.size > t21 := q21_1.tlt
                    refine gat (mkF m 191 #[.val (.int x0), .val (.int x1), .val (.int x2), .val (.int x3), .val (.int fl1), .val (.int fl2), .val (.int fl3), .val (.int fl4), .val (.int fl5), .val (.int fl6), .val (.int fl7), .val (.int fl8), .val (.ref r9), .val (.int (x2 &&& (255 : Int32))), .val (.ref sx10), .val (.ref r19), .val (.ref r20), .unset, .unset, .unset, .unset, .unset, .unset, .unset] [(.ref r21)]) rfl ?_
                    refine gs (mkF m 193 #[.val (.int x0), .val (.int x1), .val (.int x2), .val (.int x3), .val (.int fl1), .val (.int fl2), .val (.int fl3), .val (.int fl4), .val (.int fl5), .val (.int fl6), .val (.int fl7), .val (.int fl8), .val (.ref r9), .val (.int (x2 &&& (255 : Int32))), .val (.ref sx10), .val (.ref r19), .val (.ref r20), .val (.ref r21), .unset, .unset, .unset, .unset, .unset, .unset] []) (fun _ _ A k => XS.astore A hx rfl (hb hby at_191) rfl rfl (l' := #[.val (.int x0), .val (.int x1), .val (.int x2), .val (.int x3), .val (.int fl1), .val (.int fl2), .val (.int fl3), .val (.int fl4), .val (.int fl5), .val (.int fl6), .val (.int fl7), .val (.int fl8), .val (.ref r9), .val (.int (x2 &&& (255 : Int32))), .val (.ref sx10), .val (.ref r19), .val (.ref r20), .val (.ref r21), .unset, .unset, .unset, .unset, .unset, .unset]) rfl k) ?_
                    refine gs (mkF m 195 #[.val (.int x0), .val (.int x1), .val (.int x2), .val (.int x3), .val (.int fl1), .val (.int fl2), .val (.int fl3), .val (.int fl4), .val (.int fl5), .val (.int fl6), .val (.int fl7), .val (.int fl8), .val (.ref r9), .val (.int (x2 &&& (255 : Int32))), .val (.ref sx10), .val (.ref r19), .val (.ref r20), .val (.ref r21), .unset, .unset, .unset, .unset, .unset, .unset] [(.int fl6)]) (fun _ _ A k => XS.iload A hx rfl (hb hby at_193) rfl  k) ?_
                    refine gjoin (fun vmJ hJ gJ => ∃ (rv22 : Value), gJ = (mkF m 216 #[.val (.int x0), .val (.int x1), .val (.int x2), .val (.int x3), .val (.int fl1), .val (.int fl2), .val (.int fl3), .val (.int fl4), .val (.int fl5), .val (.int fl6), .val (.int fl7), .val (.int fl8), .val (.ref r9), .val (.int (x2 &&& (255 : Int32))), .val (.ref sx10), .val (.ref r19), .val (.ref r20), .val (.ref r21), .val rv22, .unset, .unset, .unset, .unset, .unset] []) ∧ Keep h21 hJ [] ∧ CHr Z consts_1 vm21 h21 vmJ hJ ∧ (rv22.isRef = true)) 14 32 ?_ ?_
                    · rintro vm22 h22 _ ⟨rv22, rfl, K22, C22, q22_0⟩
                      have z22 := C22.2.1
                      have isRef_rv22 := q22_0
                      refine gs (mkF m 218 #[.val (.int x0), .val (.int x1), .val (.int x2), .val (.int x3), .val (.int fl1), .val (.int fl2), .val (.int fl3), .val (.int fl4), .val (.int fl5), .val (.int fl6), .val (.int fl7), .val (.int fl8), .val (.ref r9), .val (.int (x2 &&& (255 : Int32))), .val (.ref sx10), .val (.ref r19), .val (.ref r20), .val (.ref r21), .val rv22, .unset, .unset, .unset, .unset, .unset] [(.int fl2)]) (fun _ _ A k => XS.iload A hx rfl (hb hby at_216) rfl  k) ?_
                      by_cases f12 : fl2 = (0 : Int32)
                      · refine gs (mkF m 235 #[.val (.int x0), .val (.int x1), .val (.int x2), .val (.int x3), .val (.int fl1), .val (.int fl2), .val (.int fl3), .val (.int fl4), .val (.int fl5), .val (.int fl6), .val (.int fl7), .val (.int fl8), .val (.ref r9), .val (.int (x2 &&& (255 : Int32))), .val (.ref sx10), .val (.ref r19), .val (.ref r20), .val (.ref r21), .val rv22, .unset, .unset, .unset, .unset, .unset] []) (fun _ _ A k => XS.ifYes A hx rfl (pc0 := 218) (pc' := 235) rfl (hb hby at_218) rfl ((if0 _ _).trans (teq f12).1) (by decide) (by decide) k) ?_
                        refine gs (mkF m 236 #[.val (.int x0), .val (.int x1), .val (.int x2), .val (.int x3), .val (.int fl1), .val (.int fl2), .val (.int fl3), .val (.int fl4), .val (.int fl5), .val (.int fl6), .val (.int fl7), .val (.int fl8), .val (.ref r9), .val (.int (x2 &&& (255 : Int32))), .val (.ref sx10), .val (.ref r19), .val (.ref r20), .val (.ref r21), .val rv22, .unset, .unset, .unset, .unset, .unset] [.null]) (fun _ _ A k => XS.aconstNull A hx rfl (hb hby at_235) k) ?_
                        refine gs (mkF m 238 #[.val (.int x0), .val (.int x1), .val (.int x2), .val (.int x3), .val (.int fl1), .val (.int fl2), .val (.int fl3), .val (.int fl4), .val (.int fl5), .val (.int fl6), .val (.int fl7), .val (.int fl8), .val (.ref r9), .val (.int (x2 &&& (255 : Int32))), .val (.ref sx10), .val (.ref r19), .val (.ref r20), .val (.ref r21), .val rv22, .val .null, .unset, .unset, .unset, .unset] []) (fun _ _ A k => XS.astore A hx rfl (hb hby at_236) rfl rfl (l' := #[.val (.int x0), .val (.int x1), .val (.int x2), .val (.int x3), .val (.int fl1), .val (.int fl2), .val (.int fl3), .val (.int fl4), .val (.int fl5), .val (.int fl6), .val (.int fl7), .val (.int fl8), .val (.ref r9), .val (.int (x2 &&& (255 : Int32))), .val (.ref sx10), .val (.ref r19), .val (.ref r20), .val (.ref r21), .val rv22, .val .null, .unset, .unset, .unset, .unset]) rfl k) ?_
                        refine gs (mkF m 240 #[.val (.int x0), .val (.int x1), .val (.int x2), .val (.int x3), .val (.int fl1), .val (.int fl2), .val (.int fl3), .val (.int fl4), .val (.int fl5), .val (.int fl6), .val (.int fl7), .val (.int fl8), .val (.ref r9), .val (.int (x2 &&& (255 : Int32))), .val (.ref sx10), .val (.ref r19), .val (.ref r20), .val (.ref r21), .val rv22, .val .null, .unset, .unset, .unset, .unset] [(.int fl7)]) (fun _ _ A k => XS.iload A hx rfl (hb hby at_238) rfl  k) ?_
                        refine gjoin (fun vmJ hJ gJ => ∃ (rv24 : Value), gJ = (mkF m 260 #[.val (.int x0), .val (.int x1), .val (.int x2), .val (.int x3), .val (.int fl1), .val (.int fl2), .val (.int fl3), .val (.int fl4), .val (.int fl5), .val (.int fl6), .val (.int fl7), .val (.int fl8), .val (.ref r9), .val (.int (x2 &&& (255 : Int32))), .val (.ref sx10), .val (.ref r19), .val (.ref r20), .val (.ref r21), .val rv22, .val .null, .val rv24, .unset, .unset, .unset] []) ∧ Keep h22 hJ [] ∧ CHr Z consts_1 vm22 h22 vmJ hJ ∧ (rv24.isRef = true)) 19 78 ?_ ?_
                        · rintro vm24 h24 _ ⟨rv24, rfl, K24, C24, q24_0⟩
                          have z24 := C24.2.1
                          have isRef_rv24 := q24_0
                          refine gnewO hx (ow hw 34 rfl) (ow hw 35 rfl) (ow hw 36 rfl) 263 (hb hby at_260) rfl (by decide) (by decide) ?_
                          intro b27 h27 g27 E27 C27 A27 D27 n27 L27
                          have z27 := C27.2.1
                          have lt_b27 : h27.size > b27 := A27.lt
                          have F27_name : Fld Z h27 b27 "com/example/backfill/backfill/migration/ColumnDefinition" "name" "Ljava/lang/String;" .null := D27 (Or.inr (ow hw 55 rfl)) (ty := (.object "java/lang/String")) (by decide)
                          have F27_type : Fld Z h27 b27 "com/example/backfill/backfill/migration/ColumnDefinition" "type" "Ljava/lang/String;" .null := D27 (Or.inr (ow hw 57 rfl)) (ty := (.object "java/lang/String")) (by decide)
                          have F27_defaultValue : Fld Z h27 b27 "com/example/backfill/backfill/migration/ColumnDefinition" "defaultValue" "Lcom/example/backfill/backfill/migration/ColumnValue;" .null := D27 (Or.inr (ow hw 59 rfl)) (ty := (.object "com/example/backfill/backfill/migration/ColumnValue")) (by decide)
                          have F27_nullable : Fld Z h27 b27 "com/example/backfill/backfill/migration/ColumnDefinition" "nullable" "Z" (.int (0 : Int32)) := D27 (Or.inr (ow hw 61 rfl)) (ty := .boolean) (by decide)
                          have F27_primaryKey : Fld Z h27 b27 "com/example/backfill/backfill/migration/ColumnDefinition" "primaryKey" "Z" (.int (0 : Int32)) := D27 (Or.inr (ow hw 63 rfl)) (ty := .boolean) (by decide)
                          have F27_autoIncrement : Fld Z h27 b27 "com/example/backfill/backfill/migration/ColumnDefinition" "autoIncrement" "Z" (.int (0 : Int32)) := D27 (Or.inr (ow hw 65 rfl)) (ty := .boolean) (by decide)
                          have F27_unique : Fld Z h27 b27 "com/example/backfill/backfill/migration/ColumnDefinition" "unique" "Z" (.int (0 : Int32)) := D27 (Or.inr (ow hw 67 rfl)) (ty := .boolean) (by decide)
                          have F27_remarks : Fld Z h27 b27 "com/example/backfill/backfill/migration/ColumnDefinition" "remarks" "Ljava/lang/String;" .null := D27 (Or.inr (ow hw 69 rfl)) (ty := (.object "java/lang/String")) (by decide)
                          have F27_value : Fld Z h27 b27 "com/example/backfill/backfill/migration/ColumnDefinition" "value" "Lcom/example/backfill/backfill/migration/ColumnValue;" .null := D27 (Or.inr (ow hw 71 rfl)) (ty := (.object "com/example/backfill/backfill/migration/ColumnValue")) (by decide)
                          refine gs (mkF m 264 #[.val (.int x0), .val (.int x1), .val (.int x2), .val (.int x3), .val (.int fl1), .val (.int fl2), .val (.int fl3), .val (.int fl4), .val (.int fl5), .val (.int fl6), .val (.int fl7), .val (.int fl8), .val (.ref r9), .val (.int (x2 &&& (255 : Int32))), .val (.ref sx10), .val (.ref r19), .val (.ref r20), .val (.ref r21), .val rv22, .val .null, .val rv24, .unset, .unset, .unset] [(.ref b27), (.ref b27)]) (fun _ _ A k => XS.dup A hx rfl (hb hby at_263) rfl rfl k) ?_
                          refine gs (mkF m 266 #[.val (.int x0), .val (.int x1), .val (.int x2), .val (.int x3), .val (.int fl1), .val (.int fl2), .val (.int fl3), .val (.int fl4), .val (.int fl5), .val (.int fl6), .val (.int fl7), .val (.int fl8), .val (.ref r9), .val (.int (x2 &&& (255 : Int32))), .val (.ref sx10), .val (.ref r19), .val (.ref r20), .val (.ref r21), .val rv22, .val .null, .val rv24, .unset, .unset, .unset] [(.ref r19), (.ref b27), (.ref b27)]) (fun _ _ A k => XS.aload A hx rfl (hb hby at_264) rfl rfl k) ?_
                          refine gs (mkF m 268 #[.val (.int x0), .val (.int x1), .val (.int x2), .val (.int x3), .val (.int fl1), .val (.int fl2), .val (.int fl3), .val (.int fl4), .val (.int fl5), .val (.int fl6), .val (.int fl7), .val (.int fl8), .val (.ref r9), .val (.int (x2 &&& (255 : Int32))), .val (.ref sx10), .val (.ref r19), .val (.ref r20), .val (.ref r21), .val rv22, .val .null, .val rv24, .unset, .unset, .unset] [(.ref r20), (.ref r19), (.ref b27), (.ref b27)]) (fun _ _ A k => XS.aload A hx rfl (hb hby at_266) rfl rfl k) ?_
                          refine gs (mkF m 270 #[.val (.int x0), .val (.int x1), .val (.int x2), .val (.int x3), .val (.int fl1), .val (.int fl2), .val (.int fl3), .val (.int fl4), .val (.int fl5), .val (.int fl6), .val (.int fl7), .val (.int fl8), .val (.ref r9), .val (.int (x2 &&& (255 : Int32))), .val (.ref sx10), .val (.ref r19), .val (.ref r20), .val (.ref r21), .val rv22, .val .null, .val rv24, .unset, .unset, .unset] [.null, (.ref r20), (.ref r19), (.ref b27), (.ref b27)]) (fun _ _ A k => XS.aload A hx rfl (hb hby at_268) rfl rfl k) ?_
                          refine gs (mkF m 272 #[.val (.int x0), .val (.int x1), .val (.int x2), .val (.int x3), .val (.int fl1), .val (.int fl2), .val (.int fl3), .val (.int fl4), .val (.int fl5), .val (.int fl6), .val (.int fl7), .val (.int fl8), .val (.ref r9), .val (.int (x2 &&& (255 : Int32))), .val (.ref sx10), .val (.ref r19), .val (.ref r20), .val (.ref r21), .val rv22, .val .null, .val rv24, .unset, .unset, .unset] [(.int fl1), .null, (.ref r20), (.ref r19), (.ref b27), (.ref b27)]) (fun _ _ A k => XS.iload A hx rfl (hb hby at_270) rfl  k) ?_
                          refine gs (mkF m 274 #[.val (.int x0), .val (.int x1), .val (.int x2), .val (.int x3), .val (.int fl1), .val (.int fl2), .val (.int fl3), .val (.int fl4), .val (.int fl5), .val (.int fl6), .val (.int fl7), .val (.int fl8), .val (.ref r9), .val (.int (x2 &&& (255 : Int32))), .val (.ref sx10), .val (.ref r19), .val (.ref r20), .val (.ref r21), .val rv22, .val .null, .val rv24, .unset, .unset, .unset] [(.int fl3), (.int fl1), .null, (.ref r20), (.ref r19), (.ref b27), (.ref b27)]) (fun _ _ A k => XS.iload A hx rfl (hb hby at_272) rfl  k) ?_
                          refine gs (mkF m 276 #[.val (.int x0), .val (.int x1), .val (.int x2), .val (.int x3), .val (.int fl1), .val (.int fl2), .val (.int fl3), .val (.int fl4), .val (.int fl5), .val (.int fl6), .val (.int fl7), .val (.int fl8), .val (.ref r9), .val (.int (x2 &&& (255 : Int32))), .val (.ref sx10), .val (.ref r19), .val (.ref r20), .val (.ref r21), .val rv22, .val .null, .val rv24, .unset, .unset, .unset] [(.int fl4), (.int fl3), (.int fl1), .null, (.ref r20), (.ref r19), (.ref b27), (.ref b27)]) (fun _ _ A k => XS.iload A hx rfl (hb hby at_274) rfl  k) ?_
                          refine gs (mkF m 278 #[.val (.int x0), .val (.int x1), .val (.int x2), .val (.int x3), .val (.int fl1), .val (.int fl2), .val (.int fl3), .val (.int fl4), .val (.int fl5), .val (.int fl6), .val (.int fl7), .val (.int fl8), .val (.ref r9), .val (.int (x2 &&& (255 : Int32))), .val (.ref sx10), .val (.ref r19), .val (.ref r20), .val (.ref r21), .val rv22, .val .null, .val rv24, .unset, .unset, .unset] [(.int fl5), (.int fl4), (.int fl3), (.int fl1), .null, (.ref r20), (.ref r19), (.ref b27), (.ref b27)]) (fun _ _ A k => XS.iload A hx rfl (hb hby at_276) rfl  k) ?_
                          refine gs (mkF m 280 #[.val (.int x0), .val (.int x1), .val (.int x2), .val (.int x3), .val (.int fl1), .val (.int fl2), .val (.int fl3), .val (.int fl4), .val (.int fl5), .val (.int fl6), .val (.int fl7), .val (.int fl8), .val (.ref r9), .val (.int (x2 &&& (255 : Int32))), .val (.ref sx10), .val (.ref r19), .val (.ref r20), .val (.ref r21), .val rv22, .val .null, .val rv24, .unset, .unset, .unset] [rv22, (.int fl5), (.int fl4), (.int fl3), (.int fl1), .null, (.ref r20), (.ref r19), (.ref b27), (.ref b27)]) (fun _ _ A k => XS.aload A hx rfl (hb hby at_278) rfl isRef_rv22 k) ?_
                          refine gs (mkF m 282 #[.val (.int x0), .val (.int x1), .val (.int x2), .val (.int x3), .val (.int fl1), .val (.int fl2), .val (.int fl3), .val (.int fl4), .val (.int fl5), .val (.int fl6), .val (.int fl7), .val (.int fl8), .val (.ref r9), .val (.int (x2 &&& (255 : Int32))), .val (.ref sx10), .val (.ref r19), .val (.ref r20), .val (.ref r21), .val rv22, .val .null, .val rv24, .unset, .unset, .unset] [rv24, rv22, (.int fl5), (.int fl4), (.int fl3), (.int fl1), .null, (.ref r20), (.ref r19), (.ref b27), (.ref b27)]) (fun _ _ A k => XS.aload A hx rfl (hb hby at_280) rfl isRef_rv24 k) ?_
                          refine ginfo fun _ _ O28 => ?_
                          refine gcallI (y := (⟨"com/example/backfill/backfill/migration/ColumnDefinition", "<init>", "(Ljava/lang/String;Ljava/lang/String;Lcom/example/backfill/backfill/migration/ColumnValue;ZZZZLjava/lang/String;Lcom/example/backfill/backfill/migration/ColumnValue;)V"⟩ : MethodName)) hx rfl (ow hw 37 rfl) (ow hw 38 rfl) (ow hw 39 rfl) (by decide) (fun hZ H hEL => Pay.of_met (W := 1) (own_cdinit l Z a0 cx [] (b27) (r19) (r20) (.null) (fl1) (fl3) (fl4) (fl5) (rv22) (rv24) (.null) (.null) (.null) ((.int (0 : Int32))) ((.int (0 : Int32))) ((.int (0 : Int32))) ((.int (0 : Int32))) (.null) (.null) vm24 h27 O28 A27 F27_name F27_type F27_defaultValue F27_nullable F27_primaryKey F27_autoIncrement F27_unique F27_remarks F27_value n27 rfl isRef_rv22 isRef_rv24 (by first | assumption | decide | omega) (by first | assumption | decide | omega) (by first | assumption | decide | omega) (by first | assumption | decide | omega) (by first | assumption | decide | omega)) (ow hw 39 rfl) (ow hw 36 rfl) (by decide) (by decide) hZ H hEL) (a := b27) 285 (argsL := [(.ref r19), (.ref r20), .null, (.int fl1), (.int fl3), (.int fl4), (.int fl5), rv22, rv24]) (rest := [(.ref b27)]) (lenOf own_pd204 rfl) rfl rfl (Nat.le_of_eq rfl) (by rw [hml]; rfl) (hb hby at_282) rfl (by decide) (by decide) ?_
                          rintro _ vm28 h28 C28 ⟨rfl, K28, q28_0, q28_1⟩
                          have z28 := C28.2.1
                          refine gat (mkF m 285 #[.val (.int x0), .val (.int x1), .val (.int x2), .val (.int x3), .val (.int fl1), .val (.int fl2), .val (.int fl3), .val (.int fl4), .val (.int fl5), .val (.int fl6), .val (.int fl7), .val (.int fl8), .val (.ref r9), .val (.int (x2 &&& (255 : Int32))), .val (.ref sx10), .val (.ref r19), .val (.ref r20), .val (.ref r21), .val rv22, .val .null, .val rv24, .unset, .unset, .unset] [(.ref b27)]) rfl ?_
                          refine gs (mkF m 287 #[.val (.int x0), .val (.int x1), .val (.int x2), .val (.int x3), .val (.int fl1), .val (.int fl2), .val (.int fl3), .val (.int fl4), .val (.int fl5), .val (.int fl6), .val (.int fl7), .val (.int fl8), .val (.ref r9), .val (.int (x2 &&& (255 : Int32))), .val (.ref sx10), .val (.ref r19), .val (.ref r20), .val (.ref r21), .val rv22, .val .null, .val rv24, .val (.ref b27), .unset, .unset] []) (fun _ _ A k => XS.astore A hx rfl (hb hby at_285) rfl rfl (l' := #[.val (.int x0), .val (.int x1), .val (.int x2), .val (.int x3), .val (.int fl1), .val (.int fl2), .val (.int fl3), .val (.int fl4), .val (.int fl5), .val (.int fl6), .val (.int fl7), .val (.int fl8), .val (.ref r9), .val (.int (x2 &&& (255 : Int32))), .val (.ref sx10), .val (.ref r19), .val (.ref r20), .val (.ref r21), .val rv22, .val .null, .val rv24, .val (.ref b27), .unset, .unset]) rfl k) ?_
                          refine gnewO hx (ow hw 72 rfl) (ow hw 73 rfl) (ow hw 74 rfl) 290 (hb hby at_287) rfl (by decide) (by decide) ?_
                          intro b29 h29 g29 E29 C29 A29 D29 n29 L29
                          have z29 := C29.2.1
                          have lt_b29 : h29.size > b29 := A29.lt
                          have F29_table : Fld Z h29 b29 "com/example/backfill/backfill/migration/NewColumn" "table" "Ljava/lang/String;" .null := D29 (Or.inr (ow hw 83 rfl)) (ty := (.object "java/lang/String")) (by decide)
                          have F29_column : Fld Z h29 b29 "com/example/backfill/backfill/migration/NewColumn" "column" "Lcom/example/backfill/backfill/migration/ColumnDefinition;" .null := D29 (Or.inr (ow hw 85 rfl)) (ty := (.object "com/example/backfill/backfill/migration/ColumnDefinition")) (by decide)
                          refine gs (mkF m 291 #[.val (.int x0), .val (.int x1), .val (.int x2), .val (.int x3), .val (.int fl1), .val (.int fl2), .val (.int fl3), .val (.int fl4), .val (.int fl5), .val (.int fl6), .val (.int fl7), .val (.int fl8), .val (.ref r9), .val (.int (x2 &&& (255 : Int32))), .val (.ref sx10), .val (.ref r19), .val (.ref r20), .val (.ref r21), .val rv22, .val .null, .val rv24, .val (.ref b27), .unset, .unset] [(.ref b29), (.ref b29)]) (fun _ _ A k => XS.dup A hx rfl (hb hby at_290) rfl rfl k) ?_
                          refine gs (mkF m 293 #[.val (.int x0), .val (.int x1), .val (.int x2), .val (.int x3), .val (.int fl1), .val (.int fl2), .val (.int fl3), .val (.int fl4), .val (.int fl5), .val (.int fl6), .val (.int fl7), .val (.int fl8), .val (.ref r9), .val (.int (x2 &&& (255 : Int32))), .val (.ref sx10), .val (.ref r19), .val (.ref r20), .val (.ref r21), .val rv22, .val .null, .val rv24, .val (.ref b27), .unset, .unset] [(.ref r21), (.ref b29), (.ref b29)]) (fun _ _ A k => XS.aload A hx rfl (hb hby at_291) rfl rfl k) ?_
                          refine gs (mkF m 295 #[.val (.int x0), .val (.int x1), .val (.int x2), .val (.int x3), .val (.int fl1), .val (.int fl2), .val (.int fl3), .val (.int fl4), .val (.int fl5), .val (.int fl6), .val (.int fl7), .val (.int fl8), .val (.ref r9), .val (.int (x2 &&& (255 : Int32))), .val (.ref sx10), .val (.ref r19), .val (.ref r20), .val (.ref r21), .val rv22, .val .null, .val rv24, .val (.ref b27), .unset, .unset] [(.ref b27), (.ref r21), (.ref b29), (.ref b29)]) (fun _ _ A k => XS.aload A hx rfl (hb hby at_293) rfl rfl k) ?_
                          refine ginfo fun _ _ O30 => ?_
                          refine gcallI (y := (⟨"com/example/backfill/backfill/migration/NewColumn", "<init>", "(Ljava/lang/String;Lcom/example/backfill/backfill/migration/ColumnDefinition;)V"⟩ : MethodName)) hx rfl (ow hw 75 rfl) (ow hw 76 rfl) (ow hw 77 rfl) (by decide) (fun hZ H hEL => Pay.of_met (W := 1) (own_ncinit l Z a0 cx [] (b29) (r21) (b27) (.null) (.null) vm28 h29 O30 A29 F29_table F29_column n29) (ow hw 77 rfl) (ow hw 74 rfl) (by decide) (by decide) hZ H hEL) (a := b29) 298 (argsL := [(.ref r21), (.ref b27)]) (rest := [(.ref b29)]) (lenOf own_pd205 rfl) rfl rfl (Nat.le_of_eq rfl) (by rw [hml]; rfl) (hb hby at_295) rfl (by decide) (by decide) ?_
                          rintro _ vm30 h30 C30 ⟨rfl, K30, q30_0⟩
                          have z30 := C30.2.1
                          refine gat (mkF m 298 #[.val (.int x0), .val (.int x1), .val (.int x2), .val (.int x3), .val (.int fl1), .val (.int fl2), .val (.int fl3), .val (.int fl4), .val (.int fl5), .val (.int fl6), .val (.int fl7), .val (.int fl8), .val (.ref r9), .val (.int (x2 &&& (255 : Int32))), .val (.ref sx10), .val (.ref r19), .val (.ref r20), .val (.ref r21), .val rv22, .val .null, .val rv24, .val (.ref b27), .unset, .unset] [(.ref b29)]) rfl ?_
                          refine gs (mkF m 300 #[.val (.int x0), .val (.int x1), .val (.int x2), .val (.int x3), .val (.int fl1), .val (.int fl2), .val (.int fl3), .val (.int fl4), .val (.int fl5), .val (.int fl6), .val (.int fl7), .val (.int fl8), .val (.ref r9), .val (.int (x2 &&& (255 : Int32))), .val (.ref sx10), .val (.ref r19), .val (.ref r20), .val (.ref r21), .val rv22, .val .null, .val rv24, .val (.ref b27), .val (.ref b29), .unset] []) (fun _ _ A k => XS.astore A hx rfl (hb hby at_298) rfl rfl (l' := #[.val (.int x0), .val (.int x1), .val (.int x2), .val (.int x3), .val (.int fl1), .val (.int fl2), .val (.int fl3), .val (.int fl4), .val (.int fl5), .val (.int fl6), .val (.int fl7), .val (.int fl8), .val (.ref r9), .val (.int (x2 &&& (255 : Int32))), .val (.ref sx10), .val (.ref r19), .val (.ref r20), .val (.ref r21), .val rv22, .val .null, .val rv24, .val (.ref b27), .val (.ref b29), .unset]) rfl k) ?_
                          refine gs (mkF m 302 #[.val (.int x0), .val (.int x1), .val (.int x2), .val (.int x3), .val (.int fl1), .val (.int fl2), .val (.int fl3), .val (.int fl4), .val (.int fl5), .val (.int fl6), .val (.int fl7), .val (.int fl8), .val (.ref r9), .val (.int (x2 &&& (255 : Int32))), .val (.ref sx10), .val (.ref r19), .val (.ref r20), .val (.ref r21), .val rv22, .val .null, .val rv24, .val (.ref b27), .val (.ref b29), .unset] [(.int fl1)]) (fun _ _ A k => XS.iload A hx rfl (hb hby at_300) rfl  k) ?_
                          by_cases f14 : fl1 = (0 : Int32)
                          · refine gs (mkF m 311 #[.val (.int x0), .val (.int x1), .val (.int x2), .val (.int x3), .val (.int fl1), .val (.int fl2), .val (.int fl3), .val (.int fl4), .val (.int fl5), .val (.int fl6), .val (.int fl7), .val (.int fl8), .val (.ref r9), .val (.int (x2 &&& (255 : Int32))), .val (.ref sx10), .val (.ref r19), .val (.ref r20), .val (.ref r21), .val rv22, .val .null, .val rv24, .val (.ref b27), .val (.ref b29), .unset] []) (fun _ _ A k => XS.ifYes A hx rfl (pc0 := 302) (pc' := 311) rfl (hb hby at_302) rfl ((if0 _ _).trans (teq f14).1) (by decide) (by decide) k) ?_
                            refine gs (mkF m 313 #[.val (.int x0), .val (.int x1), .val (.int x2), .val (.int x3), .val (.int fl1), .val (.int fl2), .val (.int fl3), .val (.int fl4), .val (.int fl5), .val (.int fl6), .val (.int fl7), .val (.int fl8), .val (.ref r9), .val (.int (x2 &&& (255 : Int32))), .val (.ref sx10), .val (.ref r19), .val (.ref r20), .val (.ref r21), .val rv22, .val .null, .val rv24, .val (.ref b27), .val (.ref b29), .unset] [(.int fl2)]) (fun _ _ A k => XS.iload A hx rfl (hb hby at_311) rfl  k) ?_
                            refine gs (mkF m 322 #[.val (.int x0), .val (.int x1), .val (.int x2), .val (.int x3), .val (.int fl1), .val (.int fl2), .val (.int fl3), .val (.int fl4), .val (.int fl5), .val (.int fl6), .val (.int fl7), .val (.int fl8), .val (.ref r9), .val (.int (x2 &&& (255 : Int32))), .val (.ref sx10), .val (.ref r19), .val (.ref r20), .val (.ref r21), .val rv22, .val .null, .val rv24, .val (.ref b27), .val (.ref b29), .unset] []) (fun _ _ A k => XS.ifYes A hx rfl (pc0 := 313) (pc' := 322) rfl (hb hby at_313) rfl ((if0 _ _).trans (teq f12).1) (by decide) (by decide) k) ?_
                            refine gs (mkF m 323 #[.val (.int x0), .val (.int x1), .val (.int x2), .val (.int x3), .val (.int fl1), .val (.int fl2), .val (.int fl3), .val (.int fl4), .val (.int fl5), .val (.int fl6), .val (.int fl7), .val (.int fl8), .val (.ref r9), .val (.int (x2 &&& (255 : Int32))), .val (.ref sx10), .val (.ref r19), .val (.ref r20), .val (.ref r21), .val rv22, .val .null, .val rv24, .val (.ref b27), .val (.ref b29), .unset] [(.int (1 : Int32))]) (fun _ _ A k => XS.iconst A hx rfl (hb hby at_322) k) ?_
                            refine gs (mkF m 325 #[.val (.int x0), .val (.int x1), .val (.int x2), .val (.int x3), .val (.int fl1), .val (.int fl2), .val (.int fl3), .val (.int fl4), .val (.int fl5), .val (.int fl6), .val (.int fl7), .val (.int fl8), .val (.ref r9), .val (.int (x2 &&& (255 : Int32))), .val (.ref sx10), .val (.ref r19), .val (.ref r20), .val (.ref r21), .val rv22, .val .null, .val rv24, .val (.ref b27), .val (.ref b29), .val (.int (1 : Int32))] []) (fun _ _ A k => XS.istore A hx rfl (hb hby at_323) rfl (l' := #[.val (.int x0), .val (.int x1), .val (.int x2), .val (.int x3), .val (.int fl1), .val (.int fl2), .val (.int fl3), .val (.int fl4), .val (.int fl5), .val (.int fl6), .val (.int fl7), .val (.int fl8), .val (.ref r9), .val (.int (x2 &&& (255 : Int32))), .val (.ref sx10), .val (.ref r19), .val (.ref r20), .val (.ref r21), .val rv22, .val .null, .val rv24, .val (.ref b27), .val (.ref b29), .val (.int (1 : Int32))]) rfl k) ?_
                            refine gs (mkF m 327 #[.val (.int x0), .val (.int x1), .val (.int x2), .val (.int x3), .val (.int fl1), .val (.int fl2), .val (.int fl3), .val (.int fl4), .val (.int fl5), .val (.int fl6), .val (.int fl7), .val (.int fl8), .val (.ref r9), .val (.int (x2 &&& (255 : Int32))), .val (.ref sx10), .val (.ref r19), .val (.ref r20), .val (.ref r21), .val rv22, .val .null, .val rv24, .val (.ref b27), .val (.ref b29), .val (.int (1 : Int32))] [(.ref b29)]) (fun _ _ A k => XS.aload A hx rfl (hb hby at_325) rfl rfl k) ?_
                            have f32 := (((A27.keep K28).ext E29).keep K30)
                            have f33 := ((q28_0.ext E29).keep K30 (ninS (Nat.ne_of_lt (by omega)) nin0))
                            have f34 := ((q28_1.ext E29).keep K30 (ninS (Nat.ne_of_lt (by omega)) nin0))
                            refine ginfo fun _ _ O31 => ?_
                            have f35 := (A29.keep K30)
                            refine gcallV (y := (⟨"com/example/backfill/backfill/migration/NewColumn", "notNullAtComplete", "()Z"⟩ : MethodName)) (z := (⟨"com/example/backfill/backfill/migration/NewColumn", "notNullAtComplete", "()Z"⟩ : MethodName)) hx (ow hw 86 rfl) (ow hw 87 rfl) (nfSel (ow hw 89 rfl)) (ow hw 89 rfl) (ow hw 88 rfl) (by decide) (fun hZ H hEL => Pay.of_met (W := 0) (own_nnN l Z a0 cx [] (b29) (b27) (fl1) ((1 : Int32)) vm30 h30 O31 q30_0 f32 f33 f34 (by first | assumption | decide | omega) ⟨fun _ => rfl, fun q => absurd f14 q⟩) (ow hw 90 rfl) (ow hw 74 rfl) (by decide) (by decide) hZ H hEL) 330 (argsL := []) (rest := []) f35 (lenOf own_pd189 rfl) rfl rfl (Nat.le_of_eq rfl) (by rw [hml]; rfl) (hb hby at_327) rfl (by decide) (by decide) ?_
                            rintro _ vm31 h31 C31 ⟨rfl, rfl⟩
                            have z31 := C31.2.1
                            refine gat (mkF m 330 #[.val (.int x0), .val (.int x1), .val (.int x2), .val (.int x3), .val (.int fl1), .val (.int fl2), .val (.int fl3), .val (.int fl4), .val (.int fl5), .val (.int fl6), .val (.int fl7), .val (.int fl8), .val (.ref r9), .val (.int (x2 &&& (255 : Int32))), .val (.ref sx10), .val (.ref r19), .val (.ref r20), .val (.ref r21), .val rv22, .val .null, .val rv24, .val (.ref b27), .val (.ref b29), .val (.int (1 : Int32))] [(.int (1 : Int32))]) rfl ?_
                            refine gs (mkF m 332 #[.val (.int x0), .val (.int x1), .val (.int x2), .val (.int x3), .val (.int fl1), .val (.int fl2), .val (.int fl3), .val (.int fl4), .val (.int fl5), .val (.int fl6), .val (.int fl7), .val (.int fl8), .val (.ref r9), .val (.int (x2 &&& (255 : Int32))), .val (.ref sx10), .val (.ref r19), .val (.ref r20), .val (.ref r21), .val rv22, .val .null, .val rv24, .val (.ref b27), .val (.ref b29), .val (.int (1 : Int32))] [(.int (1 : Int32)), (.int (1 : Int32))]) (fun _ _ A k => XS.iload A hx rfl (hb hby at_330) rfl  k) ?_
                            refine gs (mkF m 335 #[.val (.int x0), .val (.int x1), .val (.int x2), .val (.int x3), .val (.int fl1), .val (.int fl2), .val (.int fl3), .val (.int fl4), .val (.int fl5), .val (.int fl6), .val (.int fl7), .val (.int fl8), .val (.ref r9), .val (.int (x2 &&& (255 : Int32))), .val (.ref sx10), .val (.ref r19), .val (.ref r20), .val (.ref r21), .val rv22, .val .null, .val rv24, .val (.ref b27), .val (.ref b29), .val (.int (1 : Int32))] []) (fun _ _ A k => XS.icmpNo A hx rfl (hb hby at_332) rfl (teq (by decide)).2 k) ?_
                            refine gs (mkF m 336 #[.val (.int x0), .val (.int x1), .val (.int x2), .val (.int x3), .val (.int fl1), .val (.int fl2), .val (.int fl3), .val (.int fl4), .val (.int fl5), .val (.int fl6), .val (.int fl7), .val (.int fl8), .val (.ref r9), .val (.int (x2 &&& (255 : Int32))), .val (.ref sx10), .val (.ref r19), .val (.ref r20), .val (.ref r21), .val rv22, .val .null, .val rv24, .val (.ref b27), .val (.ref b29), .val (.int (1 : Int32))] [(.int (1 : Int32))]) (fun _ _ A k => XS.iconst A hx rfl (hb hby at_335) k) ?_
                            refine gs (mkF m 340 #[.val (.int x0), .val (.int x1), .val (.int x2), .val (.int x3), .val (.int fl1), .val (.int fl2), .val (.int fl3), .val (.int fl4), .val (.int fl5), .val (.int fl6), .val (.int fl7), .val (.int fl8), .val (.ref r9), .val (.int (x2 &&& (255 : Int32))), .val (.ref sx10), .val (.ref r19), .val (.ref r20), .val (.ref r21), .val rv22, .val .null, .val rv24, .val (.ref b27), .val (.ref b29), .val (.int (1 : Int32))] [(.int (1 : Int32))]) (fun _ _ A k => XS.goto A hx rfl (pc0 := 336) (pc' := 340) rfl (hb hby at_336) (by decide) (by decide) k) ?_
                            exact gretN (t := .boolean) hx hret (by simp) (hb hby at_340) (by decide) (by decide) (fun vq Cq => ⟨rfl, (((((((((((((((((((Keep.refl h0 []).trans K1 all0).trans K2 all0).trans K3 all0).trans K4 all0).trans K5 all0).trans K6 all0).trans K7 all0).trans K8 all0).trans K10 all0).trans K19 all0).trans K20 all0).trans K21 all0).trans K22 all0).trans K24 all0).ext E27).trans K28 (allS (Or.inr (by omega)) all0)).ext E29).trans K30 (allS (Or.inr (by omega)) all0))⟩)
                          · refine gs (mkF m 305 #[.val (.int x0), .val (.int x1), .val (.int x2), .val (.int x3), .val (.int fl1), .val (.int fl2), .val (.int fl3), .val (.int fl4), .val (.int fl5), .val (.int fl6), .val (.int fl7), .val (.int fl8), .val (.ref r9), .val (.int (x2 &&& (255 : Int32))), .val (.ref sx10), .val (.ref r19), .val (.ref r20), .val (.ref r21), .val rv22, .val .null, .val rv24, .val (.ref b27), .val (.ref b29), .unset] []) (fun _ _ A k => XS.ifNo A hx rfl (hb hby at_302) rfl ((if0 _ _).trans (feq f14).1) k) ?_
                            refine gs (mkF m 306 #[.val (.int x0), .val (.int x1), .val (.int x2), .val (.int x3), .val (.int fl1), .val (.int fl2), .val (.int fl3), .val (.int fl4), .val (.int fl5), .val (.int fl6), .val (.int fl7), .val (.int fl8), .val (.ref r9), .val (.int (x2 &&& (255 : Int32))), .val (.ref sx10), .val (.ref r19), .val (.ref r20), .val (.ref r21), .val rv22, .val .null, .val rv24, .val (.ref b27), .val (.ref b29), .unset] [(.int (0 : Int32))]) (fun _ _ A k => XS.iconst A hx rfl (hb hby at_305) k) ?_
                            refine gs (mkF m 308 #[.val (.int x0), .val (.int x1), .val (.int x2), .val (.int x3), .val (.int fl1), .val (.int fl2), .val (.int fl3), .val (.int fl4), .val (.int fl5), .val (.int fl6), .val (.int fl7), .val (.int fl8), .val (.ref r9), .val (.int (x2 &&& (255 : Int32))), .val (.ref sx10), .val (.ref r19), .val (.ref r20), .val (.ref r21), .val rv22, .val .null, .val rv24, .val (.ref b27), .val (.ref b29), .val (.int (0 : Int32))] []) (fun _ _ A k => XS.istore A hx rfl (hb hby at_306) rfl (l' := #[.val (.int x0), .val (.int x1), .val (.int x2), .val (.int x3), .val (.int fl1), .val (.int fl2), .val (.int fl3), .val (.int fl4), .val (.int fl5), .val (.int fl6), .val (.int fl7), .val (.int fl8), .val (.ref r9), .val (.int (x2 &&& (255 : Int32))), .val (.ref sx10), .val (.ref r19), .val (.ref r20), .val (.ref r21), .val rv22, .val .null, .val rv24, .val (.ref b27), .val (.ref b29), .val (.int (0 : Int32))]) rfl k) ?_
                            refine gs (mkF m 325 #[.val (.int x0), .val (.int x1), .val (.int x2), .val (.int x3), .val (.int fl1), .val (.int fl2), .val (.int fl3), .val (.int fl4), .val (.int fl5), .val (.int fl6), .val (.int fl7), .val (.int fl8), .val (.ref r9), .val (.int (x2 &&& (255 : Int32))), .val (.ref sx10), .val (.ref r19), .val (.ref r20), .val (.ref r21), .val rv22, .val .null, .val rv24, .val (.ref b27), .val (.ref b29), .val (.int (0 : Int32))] []) (fun _ _ A k => XS.goto A hx rfl (pc0 := 308) (pc' := 325) rfl (hb hby at_308) (by decide) (by decide) k) ?_
                            refine gs (mkF m 327 #[.val (.int x0), .val (.int x1), .val (.int x2), .val (.int x3), .val (.int fl1), .val (.int fl2), .val (.int fl3), .val (.int fl4), .val (.int fl5), .val (.int fl6), .val (.int fl7), .val (.int fl8), .val (.ref r9), .val (.int (x2 &&& (255 : Int32))), .val (.ref sx10), .val (.ref r19), .val (.ref r20), .val (.ref r21), .val rv22, .val .null, .val rv24, .val (.ref b27), .val (.ref b29), .val (.int (0 : Int32))] [(.ref b29)]) (fun _ _ A k => XS.aload A hx rfl (hb hby at_325) rfl rfl k) ?_
                            have f38 := (((A27.keep K28).ext E29).keep K30)
                            have f39 := ((q28_0.ext E29).keep K30 (ninS (Nat.ne_of_lt (by omega)) nin0))
                            have f40 := ((q28_1.ext E29).keep K30 (ninS (Nat.ne_of_lt (by omega)) nin0))
                            refine ginfo fun _ _ O37 => ?_
                            have f41 := (A29.keep K30)
                            refine gcallV (y := (⟨"com/example/backfill/backfill/migration/NewColumn", "notNullAtComplete", "()Z"⟩ : MethodName)) (z := (⟨"com/example/backfill/backfill/migration/NewColumn", "notNullAtComplete", "()Z"⟩ : MethodName)) hx (ow hw 86 rfl) (ow hw 87 rfl) (nfSel (ow hw 89 rfl)) (ow hw 89 rfl) (ow hw 88 rfl) (by decide) (fun hZ H hEL => Pay.of_met (W := 0) (own_nnN l Z a0 cx [] (b29) (b27) (fl1) ((0 : Int32)) vm30 h30 O37 q30_0 f38 f39 f40 (by first | assumption | decide | omega) ⟨fun q => absurd q f14, fun _ => rfl⟩) (ow hw 90 rfl) (ow hw 74 rfl) (by decide) (by decide) hZ H hEL) 330 (argsL := []) (rest := []) f41 (lenOf own_pd189 rfl) rfl rfl (Nat.le_of_eq rfl) (by rw [hml]; rfl) (hb hby at_327) rfl (by decide) (by decide) ?_
                            rintro _ vm37 h37 C37 ⟨rfl, rfl⟩
                            have z37 := C37.2.1
                            refine gat (mkF m 330 #[.val (.int x0), .val (.int x1), .val (.int x2), .val (.int x3), .val (.int fl1), .val (.int fl2), .val (.int fl3), .val (.int fl4), .val (.int fl5), .val (.int fl6), .val (.int fl7), .val (.int fl8), .val (.ref r9), .val (.int (x2 &&& (255 : Int32))), .val (.ref sx10), .val (.ref r19), .val (.ref r20), .val (.ref r21), .val rv22, .val .null, .val rv24, .val (.ref b27), .val (.ref b29), .val (.int (0 : Int32))] [(.int (0 : Int32))]) rfl ?_
                            refine gs (mkF m 332 #[.val (.int x0), .val (.int x1), .val (.int x2), .val (.int x3), .val (.int fl1), .val (.int fl2), .val (.int fl3), .val (.int fl4), .val (.int fl5), .val (.int fl6), .val (.int fl7), .val (.int fl8), .val (.ref r9), .val (.int (x2 &&& (255 : Int32))), .val (.ref sx10), .val (.ref r19), .val (.ref r20), .val (.ref r21), .val rv22, .val .null, .val rv24, .val (.ref b27), .val (.ref b29), .val (.int (0 : Int32))] [(.int (0 : Int32)), (.int (0 : Int32))]) (fun _ _ A k => XS.iload A hx rfl (hb hby at_330) rfl  k) ?_
                            refine gs (mkF m 335 #[.val (.int x0), .val (.int x1), .val (.int x2), .val (.int x3), .val (.int fl1), .val (.int fl2), .val (.int fl3), .val (.int fl4), .val (.int fl5), .val (.int fl6), .val (.int fl7), .val (.int fl8), .val (.ref r9), .val (.int (x2 &&& (255 : Int32))), .val (.ref sx10), .val (.ref r19), .val (.ref r20), .val (.ref r21), .val rv22, .val .null, .val rv24, .val (.ref b27), .val (.ref b29), .val (.int (0 : Int32))] []) (fun _ _ A k => XS.icmpNo A hx rfl (hb hby at_332) rfl (teq (by decide)).2 k) ?_
                            refine gs (mkF m 336 #[.val (.int x0), .val (.int x1), .val (.int x2), .val (.int x3), .val (.int fl1), .val (.int fl2), .val (.int fl3), .val (.int fl4), .val (.int fl5), .val (.int fl6), .val (.int fl7), .val (.int fl8), .val (.ref r9), .val (.int (x2 &&& (255 : Int32))), .val (.ref sx10), .val (.ref r19), .val (.ref r20), .val (.ref r21), .val rv22, .val .null, .val rv24, .val (.ref b27), .val (.ref b29), .val (.int (0 : Int32))] [(.int (1 : Int32))]) (fun _ _ A k => XS.iconst A hx rfl (hb hby at_335) k) ?_
                            refine gs (mkF m 340 #[.val (.int x0), .val (.int x1), .val (.int x2), .val (.int x3), .val (.int fl1), .val (.int fl2), .val (.int fl3), .val (.int fl4), .val (.int fl5), .val (.int fl6), .val (.int fl7), .val (.int fl8), .val (.ref r9), .val (.int (x2 &&& (255 : Int32))), .val (.ref sx10), .val (.ref r19), .val (.ref r20), .val (.ref r21), .val rv22, .val .null, .val rv24, .val (.ref b27), .val (.ref b29), .val (.int (0 : Int32))] [(.int (1 : Int32))]) (fun _ _ A k => XS.goto A hx rfl (pc0 := 336) (pc' := 340) rfl (hb hby at_336) (by decide) (by decide) k) ?_
                            exact gretN (t := .boolean) hx hret (by simp) (hb hby at_340) (by decide) (by decide) (fun vq Cq => ⟨rfl, (((((((((((((((((((Keep.refl h0 []).trans K1 all0).trans K2 all0).trans K3 all0).trans K4 all0).trans K5 all0).trans K6 all0).trans K7 all0).trans K8 all0).trans K10 all0).trans K19 all0).trans K20 all0).trans K21 all0).trans K22 all0).trans K24 all0).ext E27).trans K28 (allS (Or.inr (by omega)) all0)).ext E29).trans K30 (allS (Or.inr (by omega)) all0))⟩)
                        · intro J24
                          by_cases f13 : fl7 = (0 : Int32)
                          · refine gs (mkF m 257 #[.val (.int x0), .val (.int x1), .val (.int x2), .val (.int x3), .val (.int fl1), .val (.int fl2), .val (.int fl3), .val (.int fl4), .val (.int fl5), .val (.int fl6), .val (.int fl7), .val (.int fl8), .val (.ref r9), .val (.int (x2 &&& (255 : Int32))), .val (.ref sx10), .val (.ref r19), .val (.ref r20), .val (.ref r21), .val rv22, .val .null, .unset, .unset, .unset, .unset] []) (fun _ _ A k => XS.ifYes A hx rfl (pc0 := 240) (pc' := 257) rfl (hb hby at_240) rfl ((if0 _ _).trans (teq f13).1) (by decide) (by decide) k) ?_
                            refine gs (mkF m 258 #[.val (.int x0), .val (.int x1), .val (.int x2), .val (.int x3), .val (.int fl1), .val (.int fl2), .val (.int fl3), .val (.int fl4), .val (.int fl5), .val (.int fl6), .val (.int fl7), .val (.int fl8), .val (.ref r9), .val (.int (x2 &&& (255 : Int32))), .val (.ref sx10), .val (.ref r19), .val (.ref r20), .val (.ref r21), .val rv22, .val .null, .unset, .unset, .unset, .unset] [.null]) (fun _ _ A k => XS.aconstNull A hx rfl (hb hby at_257) k) ?_
                            refine gs (mkF m 260 #[.val (.int x0), .val (.int x1), .val (.int x2), .val (.int x3), .val (.int fl1), .val (.int fl2), .val (.int fl3), .val (.int fl4), .val (.int fl5), .val (.int fl6), .val (.int fl7), .val (.int fl8), .val (.ref r9), .val (.int (x2 &&& (255 : Int32))), .val (.ref sx10), .val (.ref r19), .val (.ref r20), .val (.ref r21), .val rv22, .val .null, .val .null, .unset, .unset, .unset] []) (fun _ _ A k => XS.astore A hx rfl (hb hby at_258) rfl rfl (l' := #[.val (.int x0), .val (.int x1), .val (.int x2), .val (.int x3), .val (.int fl1), .val (.int fl2), .val (.int fl3), .val (.int fl4), .val (.int fl5), .val (.int fl6), .val (.int fl7), .val (.int fl8), .val (.ref r9), .val (.int (x2 &&& (255 : Int32))), .val (.ref sx10), .val (.ref r19), .val (.ref r20), .val (.ref r21), .val rv22, .val .null, .val .null, .unset, .unset, .unset]) rfl k) ?_
                            refine ginfo fun _ Hq _ => ?_
                            exact gmono (by decide) (by decide) (J24 _ _ _ ⟨.null, rfl, (Keep.refl h22 []), (CHr.refl Hq), (by first | assumption | rfl | decide | exact Or.inl rfl | exact Or.inr (by assumption) | omega)⟩)
                          · refine gs (mkF m 243 #[.val (.int x0), .val (.int x1), .val (.int x2), .val (.int x3), .val (.int fl1), .val (.int fl2), .val (.int fl3), .val (.int fl4), .val (.int fl5), .val (.int fl6), .val (.int fl7), .val (.int fl8), .val (.ref r9), .val (.int (x2 &&& (255 : Int32))), .val (.ref sx10), .val (.ref r19), .val (.ref r20), .val (.ref r21), .val rv22, .val .null, .unset, .unset, .unset, .unset] []) (fun _ _ A k => XS.ifNo A hx rfl (hb hby at_240) rfl ((if0 _ _).trans (feq f13).1) k) ?_
                            refine gnewO hx (ow hw 103 rfl) (ow hw 104 rfl) (ow hw 105 rfl) 246 (hb hby at_243) rfl (by decide) (by decide) ?_
                            intro b25 h25 g25 E25 C25 A25 D25 n25 L25
                            have z25 := C25.2.1
                            have lt_b25 : h25.size > b25 := A25.lt
                            have F25_kind : Fld Z h25 b25 "com/example/backfill/backfill/migration/ColumnValue" "kind" "Lcom/example/backfill/backfill/migration/ColumnValue$Kind;" .null := D25 (Or.inr (ow hw 114 rfl)) (ty := (.object "com/example/backfill/backfill/migration/ColumnValue$Kind")) (by decide)
                            have F25_value : Fld Z h25 b25 "com/example/backfill/backfill/migration/ColumnValue" "value" "Ljava/lang/String;" .null := D25 (Or.inr (ow hw 116 rfl)) (ty := (.object "java/lang/String")) (by decide)
                            refine gs (mkF m 247 #[.val (.int x0), .val (.int x1), .val (.int x2), .val (.int x3), .val (.int fl1), .val (.int fl2), .val (.int fl3), .val (.int fl4), .val (.int fl5), .val (.int fl6), .val (.int fl7), .val (.int fl8), .val (.ref r9), .val (.int (x2 &&& (255 : Int32))), .val (.ref sx10), .val (.ref r19), .val (.ref r20), .val (.ref r21), .val rv22, .val .null, .unset, .unset, .unset, .unset] [(.ref b25), (.ref b25)]) (fun _ _ A k => XS.dup A hx rfl (hb hby at_246) rfl rfl k) ?_
                            refine gs (mkF m 249 #[.val (.int x0), .val (.int x1), .val (.int x2), .val (.int x3), .val (.int fl1), .val (.int fl2), .val (.int fl3), .val (.int fl4), .val (.int fl5), .val (.int fl6), .val (.int fl7), .val (.int fl8), .val (.ref r9), .val (.int (x2 &&& (255 : Int32))), .val (.ref sx10), .val (.ref r19), .val (.ref r20), .val (.ref r21), .val rv22, .val .null, .unset, .unset, .unset, .unset] [(.ref r9), (.ref b25), (.ref b25)]) (fun _ _ A k => XS.aload A hx rfl (hb hby at_247) rfl rfl k) ?_
                            refine gs (mkF m 251 #[.val (.int x0), .val (.int x1), .val (.int x2), .val (.int x3), .val (.int fl1), .val (.int fl2), .val (.int fl3), .val (.int fl4), .val (.int fl5), .val (.int fl6), .val (.int fl7), .val (.int fl8), .val (.ref r9), .val (.int (x2 &&& (255 : Int32))), .val (.ref sx10), .val (.ref r19), .val (.ref r20), .val (.ref r21), .val rv22, .val .null, .unset, .unset, .unset, .unset] [(.ref sx10), (.ref r9), (.ref b25), (.ref b25)]) (fun _ _ A k => XS.aload A hx rfl (hb hby at_249) rfl rfl k) ?_
                            refine ginfo fun _ _ O26 => ?_
                            refine gcallI (y := (⟨"com/example/backfill/backfill/migration/ColumnValue", "<init>", "(Lcom/example/backfill/backfill/migration/ColumnValue$Kind;Ljava/lang/String;)V"⟩ : MethodName)) hx rfl (ow hw 106 rfl) (ow hw 107 rfl) (ow hw 108 rfl) (by decide) (fun hZ H hEL => Pay.of_met (W := 1) (own_cvinit l Z a0 cx [] (b25) (r9) (sx10) (.null) (.null) vm22 h25 O26 A25 F25_kind F25_value n25) (ow hw 108 rfl) (ow hw 105 rfl) (by decide) (by decide) hZ H hEL) (a := b25) 254 (argsL := [(.ref r9), (.ref sx10)]) (rest := [(.ref b25)]) (lenOf own_pd203 rfl) rfl rfl (Nat.le_of_eq rfl) (by rw [hml]; rfl) (hb hby at_251) rfl (by decide) (by decide) ?_
                            rintro _ vm26 h26 C26 ⟨rfl, K26⟩
                            have z26 := C26.2.1
                            refine gat (mkF m 254 #[.val (.int x0), .val (.int x1), .val (.int x2), .val (.int x3), .val (.int fl1), .val (.int fl2), .val (.int fl3), .val (.int fl4), .val (.int fl5), .val (.int fl6), .val (.int fl7), .val (.int fl8), .val (.ref r9), .val (.int (x2 &&& (255 : Int32))), .val (.ref sx10), .val (.ref r19), .val (.ref r20), .val (.ref r21), .val rv22, .val .null, .unset, .unset, .unset, .unset] [(.ref b25)]) rfl ?_
                            refine gs (mkF m 258 #[.val (.int x0), .val (.int x1), .val (.int x2), .val (.int x3), .val (.int fl1), .val (.int fl2), .val (.int fl3), .val (.int fl4), .val (.int fl5), .val (.int fl6), .val (.int fl7), .val (.int fl8), .val (.ref r9), .val (.int (x2 &&& (255 : Int32))), .val (.ref sx10), .val (.ref r19), .val (.ref r20), .val (.ref r21), .val rv22, .val .null, .unset, .unset, .unset, .unset] [(.ref b25)]) (fun _ _ A k => XS.goto A hx rfl (pc0 := 254) (pc' := 258) rfl (hb hby at_254) (by decide) (by decide) k) ?_
                            refine gs (mkF m 260 #[.val (.int x0), .val (.int x1), .val (.int x2), .val (.int x3), .val (.int fl1), .val (.int fl2), .val (.int fl3), .val (.int fl4), .val (.int fl5), .val (.int fl6), .val (.int fl7), .val (.int fl8), .val (.ref r9), .val (.int (x2 &&& (255 : Int32))), .val (.ref sx10), .val (.ref r19), .val (.ref r20), .val (.ref r21), .val rv22, .val .null, .val (.ref b25), .unset, .unset, .unset] []) (fun _ _ A k => XS.astore A hx rfl (hb hby at_258) rfl rfl (l' := #[.val (.int x0), .val (.int x1), .val (.int x2), .val (.int x3), .val (.int fl1), .val (.int fl2), .val (.int fl3), .val (.int fl4), .val (.int fl5), .val (.int fl6), .val (.int fl7), .val (.int fl8), .val (.ref r9), .val (.int (x2 &&& (255 : Int32))), .val (.ref sx10), .val (.ref r19), .val (.ref r20), .val (.ref r21), .val rv22, .val .null, .val (.ref b25), .unset, .unset, .unset]) rfl k) ?_
                            exact gmono (by decide) (by decide) (J24 _ _ _ ⟨(.ref b25), rfl, (((Keep.refl h22 []).ext E25).trans K26 (allS (Or.inr (by omega)) all0)), (C25.trans C26), (by first | assumption | rfl | decide | exact Or.inl rfl | exact Or.inr (by assumption) | omega)⟩)
                      · refine gs (mkF m 221 #[.val (.int x0), .val (.int x1), .val (.int x2), .val (.int x3), .val (.int fl1), .val (.int fl2), .val (.int fl3), .val (.int fl4), .val (.int fl5), .val (.int fl6), .val (.int fl7), .val (.int fl8), .val (.ref r9), .val (.int (x2 &&& (255 : Int32))), .val (.ref sx10), .val (.ref r19), .val (.ref r20), .val (.ref r21), .val rv22, .unset, .unset, .unset, .unset, .unset] []) (fun _ _ A k => XS.ifNo A hx rfl (hb hby at_218) rfl ((if0 _ _).trans (feq f12).1) k) ?_
                        refine gnewO hx (ow hw 103 rfl) (ow hw 104 rfl) (ow hw 105 rfl) 224 (hb hby at_221) rfl (by decide) (by decide) ?_
                        intro b43 h43 g43 E43 C43 A43 D43 n43 L43
                        have z43 := C43.2.1
                        have lt_b43 : h43.size > b43 := A43.lt
                        have F43_kind : Fld Z h43 b43 "com/example/backfill/backfill/migration/ColumnValue" "kind" "Lcom/example/backfill/backfill/migration/ColumnValue$Kind;" .null := D43 (Or.inr (ow hw 114 rfl)) (ty := (.object "com/example/backfill/backfill/migration/ColumnValue$Kind")) (by decide)
                        have F43_value : Fld Z h43 b43 "com/example/backfill/backfill/migration/ColumnValue" "value" "Ljava/lang/String;" .null := D43 (Or.inr (ow hw 116 rfl)) (ty := (.object "java/lang/String")) (by decide)
                        refine gs (mkF m 225 #[.val (.int x0), .val (.int x1), .val (.int x2), .val (.int x3), .val (.int fl1), .val (.int fl2), .val (.int fl3), .val (.int fl4), .val (.int fl5), .val (.int fl6), .val (.int fl7), .val (.int fl8), .val (.ref r9), .val (.int (x2 &&& (255 : Int32))), .val (.ref sx10), .val (.ref r19), .val (.ref r20), .val (.ref r21), .val rv22, .unset, .unset, .unset, .unset, .unset] [(.ref b43), (.ref b43)]) (fun _ _ A k => XS.dup A hx rfl (hb hby at_224) rfl rfl k) ?_
                        refine gs (mkF m 227 #[.val (.int x0), .val (.int x1), .val (.int x2), .val (.int x3), .val (.int fl1), .val (.int fl2), .val (.int fl3), .val (.int fl4), .val (.int fl5), .val (.int fl6), .val (.int fl7), .val (.int fl8), .val (.ref r9), .val (.int (x2 &&& (255 : Int32))), .val (.ref sx10), .val (.ref r19), .val (.ref r20), .val (.ref r21), .val rv22, .unset, .unset, .unset, .unset, .unset] [(.ref r9), (.ref b43), (.ref b43)]) (fun _ _ A k => XS.aload A hx rfl (hb hby at_225) rfl rfl k) ?_
                        refine gs (mkF m 229 #[.val (.int x0), .val (.int x1), .val (.int x2), .val (.int x3), .val (.int fl1), .val (.int fl2), .val (.int fl3), .val (.int fl4), .val (.int fl5), .val (.int fl6), .val (.int fl7), .val (.int fl8), .val (.ref r9), .val (.int (x2 &&& (255 : Int32))), .val (.ref sx10), .val (.ref r19), .val (.ref r20), .val (.ref r21), .val rv22, .unset, .unset, .unset, .unset, .unset] [(.ref sx10), (.ref r9), (.ref b43), (.ref b43)]) (fun _ _ A k => XS.aload A hx rfl (hb hby at_227) rfl rfl k) ?_
                        refine ginfo fun _ _ O44 => ?_
                        refine gcallI (y := (⟨"com/example/backfill/backfill/migration/ColumnValue", "<init>", "(Lcom/example/backfill/backfill/migration/ColumnValue$Kind;Ljava/lang/String;)V"⟩ : MethodName)) hx rfl (ow hw 106 rfl) (ow hw 107 rfl) (ow hw 108 rfl) (by decide) (fun hZ H hEL => Pay.of_met (W := 1) (own_cvinit l Z a0 cx [] (b43) (r9) (sx10) (.null) (.null) vm22 h43 O44 A43 F43_kind F43_value n43) (ow hw 108 rfl) (ow hw 105 rfl) (by decide) (by decide) hZ H hEL) (a := b43) 232 (argsL := [(.ref r9), (.ref sx10)]) (rest := [(.ref b43)]) (lenOf own_pd203 rfl) rfl rfl (Nat.le_of_eq rfl) (by rw [hml]; rfl) (hb hby at_229) rfl (by decide) (by decide) ?_
                        rintro _ vm44 h44 C44 ⟨rfl, K44⟩
                        have z44 := C44.2.1
                        refine gat (mkF m 232 #[.val (.int x0), .val (.int x1), .val (.int x2), .val (.int x3), .val (.int fl1), .val (.int fl2), .val (.int fl3), .val (.int fl4), .val (.int fl5), .val (.int fl6), .val (.int fl7), .val (.int fl8), .val (.ref r9), .val (.int (x2 &&& (255 : Int32))), .val (.ref sx10), .val (.ref r19), .val (.ref r20), .val (.ref r21), .val rv22, .unset, .unset, .unset, .unset, .unset] [(.ref b43)]) rfl ?_
                        refine gs (mkF m 236 #[.val (.int x0), .val (.int x1), .val (.int x2), .val (.int x3), .val (.int fl1), .val (.int fl2), .val (.int fl3), .val (.int fl4), .val (.int fl5), .val (.int fl6), .val (.int fl7), .val (.int fl8), .val (.ref r9), .val (.int (x2 &&& (255 : Int32))), .val (.ref sx10), .val (.ref r19), .val (.ref r20), .val (.ref r21), .val rv22, .unset, .unset, .unset, .unset, .unset] [(.ref b43)]) (fun _ _ A k => XS.goto A hx rfl (pc0 := 232) (pc' := 236) rfl (hb hby at_232) (by decide) (by decide) k) ?_
                        refine gs (mkF m 238 #[.val (.int x0), .val (.int x1), .val (.int x2), .val (.int x3), .val (.int fl1), .val (.int fl2), .val (.int fl3), .val (.int fl4), .val (.int fl5), .val (.int fl6), .val (.int fl7), .val (.int fl8), .val (.ref r9), .val (.int (x2 &&& (255 : Int32))), .val (.ref sx10), .val (.ref r19), .val (.ref r20), .val (.ref r21), .val rv22, .val (.ref b43), .unset, .unset, .unset, .unset] []) (fun _ _ A k => XS.astore A hx rfl (hb hby at_236) rfl rfl (l' := #[.val (.int x0), .val (.int x1), .val (.int x2), .val (.int x3), .val (.int fl1), .val (.int fl2), .val (.int fl3), .val (.int fl4), .val (.int fl5), .val (.int fl6), .val (.int fl7), .val (.int fl8), .val (.ref r9), .val (.int (x2 &&& (255 : Int32))), .val (.ref sx10), .val (.ref r19), .val (.ref r20), .val (.ref r21), .val rv22, .val (.ref b43), .unset, .unset, .unset, .unset]) rfl k) ?_
                        refine gs (mkF m 240 #[.val (.int x0), .val (.int x1), .val (.int x2), .val (.int x3), .val (.int fl1), .val (.int fl2), .val (.int fl3), .val (.int fl4), .val (.int fl5), .val (.int fl6), .val (.int fl7), .val (.int fl8), .val (.ref r9), .val (.int (x2 &&& (255 : Int32))), .val (.ref sx10), .val (.ref r19), .val (.ref r20), .val (.ref r21), .val rv22, .val (.ref b43), .unset, .unset, .unset, .unset] [(.int fl7)]) (fun _ _ A k => XS.iload A hx rfl (hb hby at_238) rfl  k) ?_
                        refine gjoin (fun vmJ hJ gJ => ∃ (rv45 : Value), gJ = (mkF m 260 #[.val (.int x0), .val (.int x1), .val (.int x2), .val (.int x3), .val (.int fl1), .val (.int fl2), .val (.int fl3), .val (.int fl4), .val (.int fl5), .val (.int fl6), .val (.int fl7), .val (.int fl8), .val (.ref r9), .val (.int (x2 &&& (255 : Int32))), .val (.ref sx10), .val (.ref r19), .val (.ref r20), .val (.ref r21), .val rv22, .val (.ref b43), .val rv45, .unset, .unset, .unset] []) ∧ Keep h44 hJ [] ∧ CHr Z consts_1 vm44 h44 vmJ hJ ∧ (rv45.isRef = true)) 24 124 ?_ ?_
                        · rintro vm45 h45 _ ⟨rv45, rfl, K45, C45, q45_0⟩
                          have z45 := C45.2.1
                          have isRef_rv45 := q45_0
                          refine gnewO hx (ow hw 34 rfl) (ow hw 35 rfl) (ow hw 36 rfl) 263 (hb hby at_260) rfl (by decide) (by decide) ?_
                          intro b48 h48 g48 E48 C48 A48 D48 n48 L48
                          have z48 := C48.2.1
                          have lt_b48 : h48.size > b48 := A48.lt
                          have F48_name : Fld Z h48 b48 "com/example/backfill/backfill/migration/ColumnDefinition" "name" "Ljava/lang/String;" .null := D48 (Or.inr (ow hw 55 rfl)) (ty := (.object "java/lang/String")) (by decide)
                          have F48_type : Fld Z h48 b48 "com/example/backfill/backfill/migration/ColumnDefinition" "type" "Ljava/lang/String;" .null := D48 (Or.inr (ow hw 57 rfl)) (ty := (.object "java/lang/String")) (by decide)
                          have F48_defaultValue : Fld Z h48 b48 "com/example/backfill/backfill/migration/ColumnDefinition" "defaultValue" "Lcom/example/backfill/backfill/migration/ColumnValue;" .null := D48 (Or.inr (ow hw 59 rfl)) (ty := (.object "com/example/backfill/backfill/migration/ColumnValue")) (by decide)
                          have F48_nullable : Fld Z h48 b48 "com/example/backfill/backfill/migration/ColumnDefinition" "nullable" "Z" (.int (0 : Int32)) := D48 (Or.inr (ow hw 61 rfl)) (ty := .boolean) (by decide)
                          have F48_primaryKey : Fld Z h48 b48 "com/example/backfill/backfill/migration/ColumnDefinition" "primaryKey" "Z" (.int (0 : Int32)) := D48 (Or.inr (ow hw 63 rfl)) (ty := .boolean) (by decide)
                          have F48_autoIncrement : Fld Z h48 b48 "com/example/backfill/backfill/migration/ColumnDefinition" "autoIncrement" "Z" (.int (0 : Int32)) := D48 (Or.inr (ow hw 65 rfl)) (ty := .boolean) (by decide)
                          have F48_unique : Fld Z h48 b48 "com/example/backfill/backfill/migration/ColumnDefinition" "unique" "Z" (.int (0 : Int32)) := D48 (Or.inr (ow hw 67 rfl)) (ty := .boolean) (by decide)
                          have F48_remarks : Fld Z h48 b48 "com/example/backfill/backfill/migration/ColumnDefinition" "remarks" "Ljava/lang/String;" .null := D48 (Or.inr (ow hw 69 rfl)) (ty := (.object "java/lang/String")) (by decide)
                          have F48_value : Fld Z h48 b48 "com/example/backfill/backfill/migration/ColumnDefinition" "value" "Lcom/example/backfill/backfill/migration/ColumnValue;" .null := D48 (Or.inr (ow hw 71 rfl)) (ty := (.object "com/example/backfill/backfill/migration/ColumnValue")) (by decide)
                          refine gs (mkF m 264 #[.val (.int x0), .val (.int x1), .val (.int x2), .val (.int x3), .val (.int fl1), .val (.int fl2), .val (.int fl3), .val (.int fl4), .val (.int fl5), .val (.int fl6), .val (.int fl7), .val (.int fl8), .val (.ref r9), .val (.int (x2 &&& (255 : Int32))), .val (.ref sx10), .val (.ref r19), .val (.ref r20), .val (.ref r21), .val rv22, .val (.ref b43), .val rv45, .unset, .unset, .unset] [(.ref b48), (.ref b48)]) (fun _ _ A k => XS.dup A hx rfl (hb hby at_263) rfl rfl k) ?_
                          refine gs (mkF m 266 #[.val (.int x0), .val (.int x1), .val (.int x2), .val (.int x3), .val (.int fl1), .val (.int fl2), .val (.int fl3), .val (.int fl4), .val (.int fl5), .val (.int fl6), .val (.int fl7), .val (.int fl8), .val (.ref r9), .val (.int (x2 &&& (255 : Int32))), .val (.ref sx10), .val (.ref r19), .val (.ref r20), .val (.ref r21), .val rv22, .val (.ref b43), .val rv45, .unset, .unset, .unset] [(.ref r19), (.ref b48), (.ref b48)]) (fun _ _ A k => XS.aload A hx rfl (hb hby at_264) rfl rfl k) ?_
                          refine gs (mkF m 268 #[.val (.int x0), .val (.int x1), .val (.int x2), .val (.int x3), .val (.int fl1), .val (.int fl2), .val (.int fl3), .val (.int fl4), .val (.int fl5), .val (.int fl6), .val (.int fl7), .val (.int fl8), .val (.ref r9), .val (.int (x2 &&& (255 : Int32))), .val (.ref sx10), .val (.ref r19), .val (.ref r20), .val (.ref r21), .val rv22, .val (.ref b43), .val rv45, .unset, .unset, .unset] [(.ref r20), (.ref r19), (.ref b48), (.ref b48)]) (fun _ _ A k => XS.aload A hx rfl (hb hby at_266) rfl rfl k) ?_
                          refine gs (mkF m 270 #[.val (.int x0), .val (.int x1), .val (.int x2), .val (.int x3), .val (.int fl1), .val (.int fl2), .val (.int fl3), .val (.int fl4), .val (.int fl5), .val (.int fl6), .val (.int fl7), .val (.int fl8), .val (.ref r9), .val (.int (x2 &&& (255 : Int32))), .val (.ref sx10), .val (.ref r19), .val (.ref r20), .val (.ref r21), .val rv22, .val (.ref b43), .val rv45, .unset, .unset, .unset] [(.ref b43), (.ref r20), (.ref r19), (.ref b48), (.ref b48)]) (fun _ _ A k => XS.aload A hx rfl (hb hby at_268) rfl rfl k) ?_
                          refine gs (mkF m 272 #[.val (.int x0), .val (.int x1), .val (.int x2), .val (.int x3), .val (.int fl1), .val (.int fl2), .val (.int fl3), .val (.int fl4), .val (.int fl5), .val (.int fl6), .val (.int fl7), .val (.int fl8), .val (.ref r9), .val (.int (x2 &&& (255 : Int32))), .val (.ref sx10), .val (.ref r19), .val (.ref r20), .val (.ref r21), .val rv22, .val (.ref b43), .val rv45, .unset, .unset, .unset] [(.int fl1), (.ref b43), (.ref r20), (.ref r19), (.ref b48), (.ref b48)]) (fun _ _ A k => XS.iload A hx rfl (hb hby at_270) rfl  k) ?_
                          refine gs (mkF m 274 #[.val (.int x0), .val (.int x1), .val (.int x2), .val (.int x3), .val (.int fl1), .val (.int fl2), .val (.int fl3), .val (.int fl4), .val (.int fl5), .val (.int fl6), .val (.int fl7), .val (.int fl8), .val (.ref r9), .val (.int (x2 &&& (255 : Int32))), .val (.ref sx10), .val (.ref r19), .val (.ref r20), .val (.ref r21), .val rv22, .val (.ref b43), .val rv45, .unset, .unset, .unset] [(.int fl3), (.int fl1), (.ref b43), (.ref r20), (.ref r19), (.ref b48), (.ref b48)]) (fun _ _ A k => XS.iload A hx rfl (hb hby at_272) rfl  k) ?_
                          refine gs (mkF m 276 #[.val (.int x0), .val (.int x1), .val (.int x2), .val (.int x3), .val (.int fl1), .val (.int fl2), .val (.int fl3), .val (.int fl4), .val (.int fl5), .val (.int fl6), .val (.int fl7), .val (.int fl8), .val (.ref r9), .val (.int (x2 &&& (255 : Int32))), .val (.ref sx10), .val (.ref r19), .val (.ref r20), .val (.ref r21), .val rv22, .val (.ref b43), .val rv45, .unset, .unset, .unset] [(.int fl4), (.int fl3), (.int fl1), (.ref b43), (.ref r20), (.ref r19), (.ref b48), (.ref b48)]) (fun _ _ A k => XS.iload A hx rfl (hb hby at_274) rfl  k) ?_
                          refine gs (mkF m 278 #[.val (.int x0), .val (.int x1), .val (.int x2), .val (.int x3), .val (.int fl1), .val (.int fl2), .val (.int fl3), .val (.int fl4), .val (.int fl5), .val (.int fl6), .val (.int fl7), .val (.int fl8), .val (.ref r9), .val (.int (x2 &&& (255 : Int32))), .val (.ref sx10), .val (.ref r19), .val (.ref r20), .val (.ref r21), .val rv22, .val (.ref b43), .val rv45, .unset, .unset, .unset] [(.int fl5), (.int fl4), (.int fl3), (.int fl1), (.ref b43), (.ref r20), (.ref r19), (.ref b48), (.ref b48)]) (fun _ _ A k => XS.iload A hx rfl (hb hby at_276) rfl  k) ?_
                          refine gs (mkF m 280 #[.val (.int x0), .val (.int x1), .val (.int x2), .val (.int x3), .val (.int fl1), .val (.int fl2), .val (.int fl3), .val (.int fl4), .val (.int fl5), .val (.int fl6), .val (.int fl7), .val (.int fl8), .val (.ref r9), .val (.int (x2 &&& (255 : Int32))), .val (.ref sx10), .val (.ref r19), .val (.ref r20), .val (.ref r21), .val rv22, .val (.ref b43), .val rv45, .unset, .unset, .unset] [rv22, (.int fl5), (.int fl4), (.int fl3), (.int fl1), (.ref b43), (.ref r20), (.ref r19), (.ref b48), (.ref b48)]) (fun _ _ A k => XS.aload A hx rfl (hb hby at_278) rfl isRef_rv22 k) ?_
                          refine gs (mkF m 282 #[.val (.int x0), .val (.int x1), .val (.int x2), .val (.int x3), .val (.int fl1), .val (.int fl2), .val (.int fl3), .val (.int fl4), .val (.int fl5), .val (.int fl6), .val (.int fl7), .val (.int fl8), .val (.ref r9), .val (.int (x2 &&& (255 : Int32))), .val (.ref sx10), .val (.ref r19), .val (.ref r20), .val (.ref r21), .val rv22, .val (.ref b43), .val rv45, .unset, .unset, .unset] [rv45, rv22, (.int fl5), (.int fl4), (.int fl3), (.int fl1), (.ref b43), (.ref r20), (.ref r19), (.ref b48), (.ref b48)]) (fun _ _ A k => XS.aload A hx rfl (hb hby at_280) rfl isRef_rv45 k) ?_
                          refine ginfo fun _ _ O49 => ?_
                          refine gcallI (y := (⟨"com/example/backfill/backfill/migration/ColumnDefinition", "<init>", "(Ljava/lang/String;Ljava/lang/String;Lcom/example/backfill/backfill/migration/ColumnValue;ZZZZLjava/lang/String;Lcom/example/backfill/backfill/migration/ColumnValue;)V"⟩ : MethodName)) hx rfl (ow hw 37 rfl) (ow hw 38 rfl) (ow hw 39 rfl) (by decide) (fun hZ H hEL => Pay.of_met (W := 1) (own_cdinit l Z a0 cx [] (b48) (r19) (r20) ((.ref b43)) (fl1) (fl3) (fl4) (fl5) (rv22) (rv45) (.null) (.null) (.null) ((.int (0 : Int32))) ((.int (0 : Int32))) ((.int (0 : Int32))) ((.int (0 : Int32))) (.null) (.null) vm45 h48 O49 A48 F48_name F48_type F48_defaultValue F48_nullable F48_primaryKey F48_autoIncrement F48_unique F48_remarks F48_value n48 rfl isRef_rv22 isRef_rv45 (by first | assumption | decide | omega) (by first | assumption | decide | omega) (by first | assumption | decide | omega) (by first | assumption | decide | omega) (by first | assumption | decide | omega)) (ow hw 39 rfl) (ow hw 36 rfl) (by decide) (by decide) hZ H hEL) (a := b48) 285 (argsL := [(.ref r19), (.ref r20), (.ref b43), (.int fl1), (.int fl3), (.int fl4), (.int fl5), rv22, rv45]) (rest := [(.ref b48)]) (lenOf own_pd204 rfl) rfl rfl (Nat.le_of_eq rfl) (by rw [hml]; rfl) (hb hby at_282) rfl (by decide) (by decide) ?_
                          rintro _ vm49 h49 C49 ⟨rfl, K49, q49_0, q49_1⟩
                          have z49 := C49.2.1
                          refine gat (mkF m 285 #[.val (.int x0), .val (.int x1), .val (.int x2), .val (.int x3), .val (.int fl1), .val (.int fl2), .val (.int fl3), .val (.int fl4), .val (.int fl5), .val (.int fl6), .val (.int fl7), .val (.int fl8), .val (.ref r9), .val (.int (x2 &&& (255 : Int32))), .val (.ref sx10), .val (.ref r19), .val (.ref r20), .val (.ref r21), .val rv22, .val (.ref b43), .val rv45, .unset, .unset, .unset] [(.ref b48)]) rfl ?_
                          refine gs (mkF m 287 #[.val (.int x0), .val (.int x1), .val (.int x2), .val (.int x3), .val (.int fl1), .val (.int fl2), .val (.int fl3), .val (.int fl4), .val (.int fl5), .val (.int fl6), .val (.int fl7), .val (.int fl8), .val (.ref r9), .val (.int (x2 &&& (255 : Int32))), .val (.ref sx10), .val (.ref r19), .val (.ref r20), .val (.ref r21), .val rv22, .val (.ref b43), .val rv45, .val (.ref b48), .unset, .unset] []) (fun _ _ A k => XS.astore A hx rfl (hb hby at_285) rfl rfl (l' := #[.val (.int x0), .val (.int x1), .val (.int x2), .val (.int x3), .val (.int fl1), .val (.int fl2), .val (.int fl3), .val (.int fl4), .val (.int fl5), .val (.int fl6), .val (.int fl7), .val (.int fl8), .val (.ref r9), .val (.int (x2 &&& (255 : Int32))), .val (.ref sx10), .val (.ref r19), .val (.ref r20), .val (.ref r21), .val rv22, .val (.ref b43), .val rv45, .val (.ref b48), .unset, .unset]) rfl k) ?_
                          refine gnewO hx (ow hw 72 rfl) (ow hw 73 rfl) (ow hw 74 rfl) 290 (hb hby at_287) rfl (by decide) (by decide) ?_
                          intro b50 h50 g50 E50 C50 A50 D50 n50 L50
                          have z50 := C50.2.1
                          have lt_b50 : h50.size > b50 := A50.lt
                          have F50_table : Fld Z h50 b50 "com/example/backfill/backfill/migration/NewColumn" "table" "Ljava/lang/String;" .null := D50 (Or.inr (ow hw 83 rfl)) (ty := (.object "java/lang/String")) (by decide)
                          have F50_column : Fld Z h50 b50 "com/example/backfill/backfill/migration/NewColumn" "column" "Lcom/example/backfill/backfill/migration/ColumnDefinition;" .null := D50 (Or.inr (ow hw 85 rfl)) (ty := (.object "com/example/backfill/backfill/migration/ColumnDefinition")) (by decide)
                          refine gs (mkF m 291 #[.val (.int x0), .val (.int x1), .val (.int x2), .val (.int x3), .val (.int fl1), .val (.int fl2), .val (.int fl3), .val (.int fl4), .val (.int fl5), .val (.int fl6), .val (.int fl7), .val (.int fl8), .val (.ref r9), .val (.int (x2 &&& (255 : Int32))), .val (.ref sx10), .val (.ref r19), .val (.ref r20), .val (.ref r21), .val rv22, .val (.ref b43), .val rv45, .val (.ref b48), .unset, .unset] [(.ref b50), (.ref b50)]) (fun _ _ A k => XS.dup A hx rfl (hb hby at_290) rfl rfl k) ?_
                          refine gs (mkF m 293 #[.val (.int x0), .val (.int x1), .val (.int x2), .val (.int x3), .val (.int fl1), .val (.int fl2), .val (.int fl3), .val (.int fl4), .val (.int fl5), .val (.int fl6), .val (.int fl7), .val (.int fl8), .val (.ref r9), .val (.int (x2 &&& (255 : Int32))), .val (.ref sx10), .val (.ref r19), .val (.ref r20), .val (.ref r21), .val rv22, .val (.ref b43), .val rv45, .val (.ref b48), .unset, .unset] [(.ref r21), (.ref b50), (.ref b50)]) (fun _ _ A k => XS.aload A hx rfl (hb hby at_291) rfl rfl k) ?_
                          refine gs (mkF m 295 #[.val (.int x0), .val (.int x1), .val (.int x2), .val (.int x3), .val (.int fl1), .val (.int fl2), .val (.int fl3), .val (.int fl4), .val (.int fl5), .val (.int fl6), .val (.int fl7), .val (.int fl8), .val (.ref r9), .val (.int (x2 &&& (255 : Int32))), .val (.ref sx10), .val (.ref r19), .val (.ref r20), .val (.ref r21), .val rv22, .val (.ref b43), .val rv45, .val (.ref b48), .unset, .unset] [(.ref b48), (.ref r21), (.ref b50), (.ref b50)]) (fun _ _ A k => XS.aload A hx rfl (hb hby at_293) rfl rfl k) ?_
                          refine ginfo fun _ _ O51 => ?_
                          refine gcallI (y := (⟨"com/example/backfill/backfill/migration/NewColumn", "<init>", "(Ljava/lang/String;Lcom/example/backfill/backfill/migration/ColumnDefinition;)V"⟩ : MethodName)) hx rfl (ow hw 75 rfl) (ow hw 76 rfl) (ow hw 77 rfl) (by decide) (fun hZ H hEL => Pay.of_met (W := 1) (own_ncinit l Z a0 cx [] (b50) (r21) (b48) (.null) (.null) vm49 h50 O51 A50 F50_table F50_column n50) (ow hw 77 rfl) (ow hw 74 rfl) (by decide) (by decide) hZ H hEL) (a := b50) 298 (argsL := [(.ref r21), (.ref b48)]) (rest := [(.ref b50)]) (lenOf own_pd205 rfl) rfl rfl (Nat.le_of_eq rfl) (by rw [hml]; rfl) (hb hby at_295) rfl (by decide) (by decide) ?_
                          rintro _ vm51 h51 C51 ⟨rfl, K51, q51_0⟩
                          have z51 := C51.2.1
                          refine gat (mkF m 298 #[.val (.int x0), .val (.int x1), .val (.int x2), .val (.int x3), .val (.int fl1), .val (.int fl2), .val (.int fl3), .val (.int fl4), .val (.int fl5), .val (.int fl6), .val (.int fl7), .val (.int fl8), .val (.ref r9), .val (.int (x2 &&& (255 : Int32))), .val (.ref sx10), .val (.ref r19), .val (.ref r20), .val (.ref r21), .val rv22, .val (.ref b43), .val rv45, .val (.ref b48), .unset, .unset] [(.ref b50)]) rfl ?_
                          refine gs (mkF m 300 #[.val (.int x0), .val (.int x1), .val (.int x2), .val (.int x3), .val (.int fl1), .val (.int fl2), .val (.int fl3), .val (.int fl4), .val (.int fl5), .val (.int fl6), .val (.int fl7), .val (.int fl8), .val (.ref r9), .val (.int (x2 &&& (255 : Int32))), .val (.ref sx10), .val (.ref r19), .val (.ref r20), .val (.ref r21), .val rv22, .val (.ref b43), .val rv45, .val (.ref b48), .val (.ref b50), .unset] []) (fun _ _ A k => XS.astore A hx rfl (hb hby at_298) rfl rfl (l' := #[.val (.int x0), .val (.int x1), .val (.int x2), .val (.int x3), .val (.int fl1), .val (.int fl2), .val (.int fl3), .val (.int fl4), .val (.int fl5), .val (.int fl6), .val (.int fl7), .val (.int fl8), .val (.ref r9), .val (.int (x2 &&& (255 : Int32))), .val (.ref sx10), .val (.ref r19), .val (.ref r20), .val (.ref r21), .val rv22, .val (.ref b43), .val rv45, .val (.ref b48), .val (.ref b50), .unset]) rfl k) ?_
                          refine gs (mkF m 302 #[.val (.int x0), .val (.int x1), .val (.int x2), .val (.int x3), .val (.int fl1), .val (.int fl2), .val (.int fl3), .val (.int fl4), .val (.int fl5), .val (.int fl6), .val (.int fl7), .val (.int fl8), .val (.ref r9), .val (.int (x2 &&& (255 : Int32))), .val (.ref sx10), .val (.ref r19), .val (.ref r20), .val (.ref r21), .val rv22, .val (.ref b43), .val rv45, .val (.ref b48), .val (.ref b50), .unset] [(.int fl1)]) (fun _ _ A k => XS.iload A hx rfl (hb hby at_300) rfl  k) ?_
                          by_cases f14 : fl1 = (0 : Int32)
                          · refine gs (mkF m 311 #[.val (.int x0), .val (.int x1), .val (.int x2), .val (.int x3), .val (.int fl1), .val (.int fl2), .val (.int fl3), .val (.int fl4), .val (.int fl5), .val (.int fl6), .val (.int fl7), .val (.int fl8), .val (.ref r9), .val (.int (x2 &&& (255 : Int32))), .val (.ref sx10), .val (.ref r19), .val (.ref r20), .val (.ref r21), .val rv22, .val (.ref b43), .val rv45, .val (.ref b48), .val (.ref b50), .unset] []) (fun _ _ A k => XS.ifYes A hx rfl (pc0 := 302) (pc' := 311) rfl (hb hby at_302) rfl ((if0 _ _).trans (teq f14).1) (by decide) (by decide) k) ?_
                            refine gs (mkF m 313 #[.val (.int x0), .val (.int x1), .val (.int x2), .val (.int x3), .val (.int fl1), .val (.int fl2), .val (.int fl3), .val (.int fl4), .val (.int fl5), .val (.int fl6), .val (.int fl7), .val (.int fl8), .val (.ref r9), .val (.int (x2 &&& (255 : Int32))), .val (.ref sx10), .val (.ref r19), .val (.ref r20), .val (.ref r21), .val rv22, .val (.ref b43), .val rv45, .val (.ref b48), .val (.ref b50), .unset] [(.int fl2)]) (fun _ _ A k => XS.iload A hx rfl (hb hby at_311) rfl  k) ?_
                            refine gs (mkF m 316 #[.val (.int x0), .val (.int x1), .val (.int x2), .val (.int x3), .val (.int fl1), .val (.int fl2), .val (.int fl3), .val (.int fl4), .val (.int fl5), .val (.int fl6), .val (.int fl7), .val (.int fl8), .val (.ref r9), .val (.int (x2 &&& (255 : Int32))), .val (.ref sx10), .val (.ref r19), .val (.ref r20), .val (.ref r21), .val rv22, .val (.ref b43), .val rv45, .val (.ref b48), .val (.ref b50), .unset] []) (fun _ _ A k => XS.ifNo A hx rfl (hb hby at_313) rfl ((if0 _ _).trans (feq f12).1) k) ?_
                            refine gs (mkF m 317 #[.val (.int x0), .val (.int x1), .val (.int x2), .val (.int x3), .val (.int fl1), .val (.int fl2), .val (.int fl3), .val (.int fl4), .val (.int fl5), .val (.int fl6), .val (.int fl7), .val (.int fl8), .val (.ref r9), .val (.int (x2 &&& (255 : Int32))), .val (.ref sx10), .val (.ref r19), .val (.ref r20), .val (.ref r21), .val rv22, .val (.ref b43), .val rv45, .val (.ref b48), .val (.ref b50), .unset] [(.int (0 : Int32))]) (fun _ _ A k => XS.iconst A hx rfl (hb hby at_316) k) ?_
                            refine gs (mkF m 319 #[.val (.int x0), .val (.int x1), .val (.int x2), .val (.int x3), .val (.int fl1), .val (.int fl2), .val (.int fl3), .val (.int fl4), .val (.int fl5), .val (.int fl6), .val (.int fl7), .val (.int fl8), .val (.ref r9), .val (.int (x2 &&& (255 : Int32))), .val (.ref sx10), .val (.ref r19), .val (.ref r20), .val (.ref r21), .val rv22, .val (.ref b43), .val rv45, .val (.ref b48), .val (.ref b50), .val (.int (0 : Int32))] []) (fun _ _ A k => XS.istore A hx rfl (hb hby at_317) rfl (l' := #[.val (.int x0), .val (.int x1), .val (.int x2), .val (.int x3), .val (.int fl1), .val (.int fl2), .val (.int fl3), .val (.int fl4), .val (.int fl5), .val (.int fl6), .val (.int fl7), .val (.int fl8), .val (.ref r9), .val (.int (x2 &&& (255 : Int32))), .val (.ref sx10), .val (.ref r19), .val (.ref r20), .val (.ref r21), .val rv22, .val (.ref b43), .val rv45, .val (.ref b48), .val (.ref b50), .val (.int (0 : Int32))]) rfl k) ?_
                            refine gs (mkF m 325 #[.val (.int x0), .val (.int x1), .val (.int x2), .val (.int x3), .val (.int fl1), .val (.int fl2), .val (.int fl3), .val (.int fl4), .val (.int fl5), .val (.int fl6), .val (.int fl7), .val (.int fl8), .val (.ref r9), .val (.int (x2 &&& (255 : Int32))), .val (.ref sx10), .val (.ref r19), .val (.ref r20), .val (.ref r21), .val rv22, .val (.ref b43), .val rv45, .val (.ref b48), .val (.ref b50), .val (.int (0 : Int32))] []) (fun _ _ A k => XS.goto A hx rfl (pc0 := 319) (pc' := 325) rfl (hb hby at_319) (by decide) (by decide) k) ?_
                            refine gs (mkF m 327 #[.val (.int x0), .val (.int x1), .val (.int x2), .val (.int x3), .val (.int fl1), .val (.int fl2), .val (.int fl3), .val (.int fl4), .val (.int fl5), .val (.int fl6), .val (.int fl7), .val (.int fl8), .val (.ref r9), .val (.int (x2 &&& (255 : Int32))), .val (.ref sx10), .val (.ref r19), .val (.ref r20), .val (.ref r21), .val rv22, .val (.ref b43), .val rv45, .val (.ref b48), .val (.ref b50), .val (.int (0 : Int32))] [(.ref b50)]) (fun _ _ A k => XS.aload A hx rfl (hb hby at_325) rfl rfl k) ?_
                            have f53 := (((A48.keep K49).ext E50).keep K51)
                            have f54 := ((q49_0.ext E50).keep K51 (ninS (Nat.ne_of_lt (by omega)) nin0))
                            have f55 := ((q49_1.ext E50).keep K51 (ninS (Nat.ne_of_lt (by omega)) nin0))
                            refine ginfo fun _ _ O52 => ?_
                            have f56 := (A50.keep K51)
                            refine gcallV (y := (⟨"com/example/backfill/backfill/migration/NewColumn", "notNullAtComplete", "()Z"⟩ : MethodName)) (z := (⟨"com/example/backfill/backfill/migration/NewColumn", "notNullAtComplete", "()Z"⟩ : MethodName)) hx (ow hw 86 rfl) (ow hw 87 rfl) (nfSel (ow hw 89 rfl)) (ow hw 89 rfl) (ow hw 88 rfl) (by decide) (fun hZ H hEL => Pay.of_met (W := 0) (own_nnR l Z a0 cx [] (b50) (b48) (fl1) ((0 : Int32)) (b43) vm51 h51 O52 q51_0 f53 f54 f55 (by first | assumption | decide | omega) rfl) (ow hw 90 rfl) (ow hw 74 rfl) (by decide) (by decide) hZ H hEL) 330 (argsL := []) (rest := []) f56 (lenOf own_pd189 rfl) rfl rfl (Nat.le_of_eq rfl) (by rw [hml]; rfl) (hb hby at_327) rfl (by decide) (by decide) ?_
                            rintro _ vm52 h52 C52 ⟨rfl, rfl⟩
                            have z52 := C52.2.1
                            refine gat (mkF m 330 #[.val (.int x0), .val (.int x1), .val (.int x2), .val (.int x3), .val (.int fl1), .val (.int fl2), .val (.int fl3), .val (.int fl4), .val (.int fl5), .val (.int fl6), .val (.int fl7), .val (.int fl8), .val (.ref r9), .val (.int (x2 &&& (255 : Int32))), .val (.ref sx10), .val (.ref r19), .val (.ref r20), .val (.ref r21), .val rv22, .val (.ref b43), .val rv45, .val (.ref b48), .val (.ref b50), .val (.int (0 : Int32))] [(.int (0 : Int32))]) rfl ?_
                            refine gs (mkF m 332 #[.val (.int x0), .val (.int x1), .val (.int x2), .val (.int x3), .val (.int fl1), .val (.int fl2), .val (.int fl3), .val (.int fl4), .val (.int fl5), .val (.int fl6), .val (.int fl7), .val (.int fl8), .val (.ref r9), .val (.int (x2 &&& (255 : Int32))), .val (.ref sx10), .val (.ref r19), .val (.ref r20), .val (.ref r21), .val rv22, .val (.ref b43), .val rv45, .val (.ref b48), .val (.ref b50), .val (.int (0 : Int32))] [(.int (0 : Int32)), (.int (0 : Int32))]) (fun _ _ A k => XS.iload A hx rfl (hb hby at_330) rfl  k) ?_
                            refine gs (mkF m 335 #[.val (.int x0), .val (.int x1), .val (.int x2), .val (.int x3), .val (.int fl1), .val (.int fl2), .val (.int fl3), .val (.int fl4), .val (.int fl5), .val (.int fl6), .val (.int fl7), .val (.int fl8), .val (.ref r9), .val (.int (x2 &&& (255 : Int32))), .val (.ref sx10), .val (.ref r19), .val (.ref r20), .val (.ref r21), .val rv22, .val (.ref b43), .val rv45, .val (.ref b48), .val (.ref b50), .val (.int (0 : Int32))] []) (fun _ _ A k => XS.icmpNo A hx rfl (hb hby at_332) rfl (teq (by decide)).2 k) ?_
                            refine gs (mkF m 336 #[.val (.int x0), .val (.int x1), .val (.int x2), .val (.int x3), .val (.int fl1), .val (.int fl2), .val (.int fl3), .val (.int fl4), .val (.int fl5), .val (.int fl6), .val (.int fl7), .val (.int fl8), .val (.ref r9), .val (.int (x2 &&& (255 : Int32))), .val (.ref sx10), .val (.ref r19), .val (.ref r20), .val (.ref r21), .val rv22, .val (.ref b43), .val rv45, .val (.ref b48), .val (.ref b50), .val (.int (0 : Int32))] [(.int (1 : Int32))]) (fun _ _ A k => XS.iconst A hx rfl (hb hby at_335) k) ?_
                            refine gs (mkF m 340 #[.val (.int x0), .val (.int x1), .val (.int x2), .val (.int x3), .val (.int fl1), .val (.int fl2), .val (.int fl3), .val (.int fl4), .val (.int fl5), .val (.int fl6), .val (.int fl7), .val (.int fl8), .val (.ref r9), .val (.int (x2 &&& (255 : Int32))), .val (.ref sx10), .val (.ref r19), .val (.ref r20), .val (.ref r21), .val rv22, .val (.ref b43), .val rv45, .val (.ref b48), .val (.ref b50), .val (.int (0 : Int32))] [(.int (1 : Int32))]) (fun _ _ A k => XS.goto A hx rfl (pc0 := 336) (pc' := 340) rfl (hb hby at_336) (by decide) (by decide) k) ?_
                            exact gretN (t := .boolean) hx hret (by simp) (hb hby at_340) (by decide) (by decide) (fun vq Cq => ⟨rfl, (((((((((((((((((((((Keep.refl h0 []).trans K1 all0).trans K2 all0).trans K3 all0).trans K4 all0).trans K5 all0).trans K6 all0).trans K7 all0).trans K8 all0).trans K10 all0).trans K19 all0).trans K20 all0).trans K21 all0).trans K22 all0).ext E43).trans K44 (allS (Or.inr (by omega)) all0)).trans K45 all0).ext E48).trans K49 (allS (Or.inr (by omega)) all0)).ext E50).trans K51 (allS (Or.inr (by omega)) all0))⟩)
                          · refine gs (mkF m 305 #[.val (.int x0), .val (.int x1), .val (.int x2), .val (.int x3), .val (.int fl1), .val (.int fl2), .val (.int fl3), .val (.int fl4), .val (.int fl5), .val (.int fl6), .val (.int fl7), .val (.int fl8), .val (.ref r9), .val (.int (x2 &&& (255 : Int32))), .val (.ref sx10), .val (.ref r19), .val (.ref r20), .val (.ref r21), .val rv22, .val (.ref b43), .val rv45, .val (.ref b48), .val (.ref b50), .unset] []) (fun _ _ A k => XS.ifNo A hx rfl (hb hby at_302) rfl ((if0 _ _).trans (feq f14).1) k) ?_
                            refine gs (mkF m 306 #[.val (.int x0), .val (.int x1), .val (.int x2), .val (.int x3), .val (.int fl1), .val (.int fl2), .val (.int fl3), .val (.int fl4), .val (.int fl5), .val (.int fl6), .val (.int fl7), .val (.int fl8), .val (.ref r9), .val (.int (x2 &&& (255 : Int32))), .val (.ref sx10), .val (.ref r19), .val (.ref r20), .val (.ref r21), .val rv22, .val (.ref b43), .val rv45, .val (.ref b48), .val (.ref b50), .unset] [(.int (0 : Int32))]) (fun _ _ A k => XS.iconst A hx rfl (hb hby at_305) k) ?_
                            refine gs (mkF m 308 #[.val (.int x0), .val (.int x1), .val (.int x2), .val (.int x3), .val (.int fl1), .val (.int fl2), .val (.int fl3), .val (.int fl4), .val (.int fl5), .val (.int fl6), .val (.int fl7), .val (.int fl8), .val (.ref r9), .val (.int (x2 &&& (255 : Int32))), .val (.ref sx10), .val (.ref r19), .val (.ref r20), .val (.ref r21), .val rv22, .val (.ref b43), .val rv45, .val (.ref b48), .val (.ref b50), .val (.int (0 : Int32))] []) (fun _ _ A k => XS.istore A hx rfl (hb hby at_306) rfl (l' := #[.val (.int x0), .val (.int x1), .val (.int x2), .val (.int x3), .val (.int fl1), .val (.int fl2), .val (.int fl3), .val (.int fl4), .val (.int fl5), .val (.int fl6), .val (.int fl7), .val (.int fl8), .val (.ref r9), .val (.int (x2 &&& (255 : Int32))), .val (.ref sx10), .val (.ref r19), .val (.ref r20), .val (.ref r21), .val rv22, .val (.ref b43), .val rv45, .val (.ref b48), .val (.ref b50), .val (.int (0 : Int32))]) rfl k) ?_
                            refine gs (mkF m 325 #[.val (.int x0), .val (.int x1), .val (.int x2), .val (.int x3), .val (.int fl1), .val (.int fl2), .val (.int fl3), .val (.int fl4), .val (.int fl5), .val (.int fl6), .val (.int fl7), .val (.int fl8), .val (.ref r9), .val (.int (x2 &&& (255 : Int32))), .val (.ref sx10), .val (.ref r19), .val (.ref r20), .val (.ref r21), .val rv22, .val (.ref b43), .val rv45, .val (.ref b48), .val (.ref b50), .val (.int (0 : Int32))] []) (fun _ _ A k => XS.goto A hx rfl (pc0 := 308) (pc' := 325) rfl (hb hby at_308) (by decide) (by decide) k) ?_
                            refine gs (mkF m 327 #[.val (.int x0), .val (.int x1), .val (.int x2), .val (.int x3), .val (.int fl1), .val (.int fl2), .val (.int fl3), .val (.int fl4), .val (.int fl5), .val (.int fl6), .val (.int fl7), .val (.int fl8), .val (.ref r9), .val (.int (x2 &&& (255 : Int32))), .val (.ref sx10), .val (.ref r19), .val (.ref r20), .val (.ref r21), .val rv22, .val (.ref b43), .val rv45, .val (.ref b48), .val (.ref b50), .val (.int (0 : Int32))] [(.ref b50)]) (fun _ _ A k => XS.aload A hx rfl (hb hby at_325) rfl rfl k) ?_
                            have f59 := (((A48.keep K49).ext E50).keep K51)
                            have f60 := ((q49_0.ext E50).keep K51 (ninS (Nat.ne_of_lt (by omega)) nin0))
                            have f61 := ((q49_1.ext E50).keep K51 (ninS (Nat.ne_of_lt (by omega)) nin0))
                            refine ginfo fun _ _ O58 => ?_
                            have f62 := (A50.keep K51)
                            refine gcallV (y := (⟨"com/example/backfill/backfill/migration/NewColumn", "notNullAtComplete", "()Z"⟩ : MethodName)) (z := (⟨"com/example/backfill/backfill/migration/NewColumn", "notNullAtComplete", "()Z"⟩ : MethodName)) hx (ow hw 86 rfl) (ow hw 87 rfl) (nfSel (ow hw 89 rfl)) (ow hw 89 rfl) (ow hw 88 rfl) (by decide) (fun hZ H hEL => Pay.of_met (W := 0) (own_nnR l Z a0 cx [] (b50) (b48) (fl1) ((0 : Int32)) (b43) vm51 h51 O58 q51_0 f59 f60 f61 (by first | assumption | decide | omega) rfl) (ow hw 90 rfl) (ow hw 74 rfl) (by decide) (by decide) hZ H hEL) 330 (argsL := []) (rest := []) f62 (lenOf own_pd189 rfl) rfl rfl (Nat.le_of_eq rfl) (by rw [hml]; rfl) (hb hby at_327) rfl (by decide) (by decide) ?_
                            rintro _ vm58 h58 C58 ⟨rfl, rfl⟩
                            have z58 := C58.2.1
                            refine gat (mkF m 330 #[.val (.int x0), .val (.int x1), .val (.int x2), .val (.int x3), .val (.int fl1), .val (.int fl2), .val (.int fl3), .val (.int fl4), .val (.int fl5), .val (.int fl6), .val (.int fl7), .val (.int fl8), .val (.ref r9), .val (.int (x2 &&& (255 : Int32))), .val (.ref sx10), .val (.ref r19), .val (.ref r20), .val (.ref r21), .val rv22, .val (.ref b43), .val rv45, .val (.ref b48), .val (.ref b50), .val (.int (0 : Int32))] [(.int (0 : Int32))]) rfl ?_
                            refine gs (mkF m 332 #[.val (.int x0), .val (.int x1), .val (.int x2), .val (.int x3), .val (.int fl1), .val (.int fl2), .val (.int fl3), .val (.int fl4), .val (.int fl5), .val (.int fl6), .val (.int fl7), .val (.int fl8), .val (.ref r9), .val (.int (x2 &&& (255 : Int32))), .val (.ref sx10), .val (.ref r19), .val (.ref r20), .val (.ref r21), .val rv22, .val (.ref b43), .val rv45, .val (.ref b48), .val (.ref b50), .val (.int (0 : Int32))] [(.int (0 : Int32)), (.int (0 : Int32))]) (fun _ _ A k => XS.iload A hx rfl (hb hby at_330) rfl  k) ?_
                            refine gs (mkF m 335 #[.val (.int x0), .val (.int x1), .val (.int x2), .val (.int x3), .val (.int fl1), .val (.int fl2), .val (.int fl3), .val (.int fl4), .val (.int fl5), .val (.int fl6), .val (.int fl7), .val (.int fl8), .val (.ref r9), .val (.int (x2 &&& (255 : Int32))), .val (.ref sx10), .val (.ref r19), .val (.ref r20), .val (.ref r21), .val rv22, .val (.ref b43), .val rv45, .val (.ref b48), .val (.ref b50), .val (.int (0 : Int32))] []) (fun _ _ A k => XS.icmpNo A hx rfl (hb hby at_332) rfl (teq (by decide)).2 k) ?_
                            refine gs (mkF m 336 #[.val (.int x0), .val (.int x1), .val (.int x2), .val (.int x3), .val (.int fl1), .val (.int fl2), .val (.int fl3), .val (.int fl4), .val (.int fl5), .val (.int fl6), .val (.int fl7), .val (.int fl8), .val (.ref r9), .val (.int (x2 &&& (255 : Int32))), .val (.ref sx10), .val (.ref r19), .val (.ref r20), .val (.ref r21), .val rv22, .val (.ref b43), .val rv45, .val (.ref b48), .val (.ref b50), .val (.int (0 : Int32))] [(.int (1 : Int32))]) (fun _ _ A k => XS.iconst A hx rfl (hb hby at_335) k) ?_
                            refine gs (mkF m 340 #[.val (.int x0), .val (.int x1), .val (.int x2), .val (.int x3), .val (.int fl1), .val (.int fl2), .val (.int fl3), .val (.int fl4), .val (.int fl5), .val (.int fl6), .val (.int fl7), .val (.int fl8), .val (.ref r9), .val (.int (x2 &&& (255 : Int32))), .val (.ref sx10), .val (.ref r19), .val (.ref r20), .val (.ref r21), .val rv22, .val (.ref b43), .val rv45, .val (.ref b48), .val (.ref b50), .val (.int (0 : Int32))] [(.int (1 : Int32))]) (fun _ _ A k => XS.goto A hx rfl (pc0 := 336) (pc' := 340) rfl (hb hby at_336) (by decide) (by decide) k) ?_
                            exact gretN (t := .boolean) hx hret (by simp) (hb hby at_340) (by decide) (by decide) (fun vq Cq => ⟨rfl, (((((((((((((((((((((Keep.refl h0 []).trans K1 all0).trans K2 all0).trans K3 all0).trans K4 all0).trans K5 all0).trans K6 all0).trans K7 all0).trans K8 all0).trans K10 all0).trans K19 all0).trans K20 all0).trans K21 all0).trans K22 all0).ext E43).trans K44 (allS (Or.inr (by omega)) all0)).trans K45 all0).ext E48).trans K49 (allS (Or.inr (by omega)) all0)).ext E50).trans K51 (allS (Or.inr (by omega)) all0))⟩)
                        · intro J45
                          by_cases f13 : fl7 = (0 : Int32)
                          · refine gs (mkF m 257 #[.val (.int x0), .val (.int x1), .val (.int x2), .val (.int x3), .val (.int fl1), .val (.int fl2), .val (.int fl3), .val (.int fl4), .val (.int fl5), .val (.int fl6), .val (.int fl7), .val (.int fl8), .val (.ref r9), .val (.int (x2 &&& (255 : Int32))), .val (.ref sx10), .val (.ref r19), .val (.ref r20), .val (.ref r21), .val rv22, .val (.ref b43), .unset, .unset, .unset, .unset] []) (fun _ _ A k => XS.ifYes A hx rfl (pc0 := 240) (pc' := 257) rfl (hb hby at_240) rfl ((if0 _ _).trans (teq f13).1) (by decide) (by decide) k) ?_
                            refine gs (mkF m 258 #[.val (.int x0), .val (.int x1), .val (.int x2), .val (.int x3), .val (.int fl1), .val (.int fl2), .val (.int fl3), .val (.int fl4), .val (.int fl5), .val (.int fl6), .val (.int fl7), .val (.int fl8), .val (.ref r9), .val (.int (x2 &&& (255 : Int32))), .val (.ref sx10), .val (.ref r19), .val (.ref r20), .val (.ref r21), .val rv22, .val (.ref b43), .unset, .unset, .unset, .unset] [.null]) (fun _ _ A k => XS.aconstNull A hx rfl (hb hby at_257) k) ?_
                            refine gs (mkF m 260 #[.val (.int x0), .val (.int x1), .val (.int x2), .val (.int x3), .val (.int fl1), .val (.int fl2), .val (.int fl3), .val (.int fl4), .val (.int fl5), .val (.int fl6), .val (.int fl7), .val (.int fl8), .val (.ref r9), .val (.int (x2 &&& (255 : Int32))), .val (.ref sx10), .val (.ref r19), .val (.ref r20), .val (.ref r21), .val rv22, .val (.ref b43), .val .null, .unset, .unset, .unset] []) (fun _ _ A k => XS.astore A hx rfl (hb hby at_258) rfl rfl (l' := #[.val (.int x0), .val (.int x1), .val (.int x2), .val (.int x3), .val (.int fl1), .val (.int fl2), .val (.int fl3), .val (.int fl4), .val (.int fl5), .val (.int fl6), .val (.int fl7), .val (.int fl8), .val (.ref r9), .val (.int (x2 &&& (255 : Int32))), .val (.ref sx10), .val (.ref r19), .val (.ref r20), .val (.ref r21), .val rv22, .val (.ref b43), .val .null, .unset, .unset, .unset]) rfl k) ?_
                            refine ginfo fun _ Hq _ => ?_
                            exact gmono (by decide) (by decide) (J45 _ _ _ ⟨.null, rfl, (Keep.refl h44 []), (CHr.refl Hq), (by first | assumption | rfl | decide | exact Or.inl rfl | exact Or.inr (by assumption) | omega)⟩)
                          · refine gs (mkF m 243 #[.val (.int x0), .val (.int x1), .val (.int x2), .val (.int x3), .val (.int fl1), .val (.int fl2), .val (.int fl3), .val (.int fl4), .val (.int fl5), .val (.int fl6), .val (.int fl7), .val (.int fl8), .val (.ref r9), .val (.int (x2 &&& (255 : Int32))), .val (.ref sx10), .val (.ref r19), .val (.ref r20), .val (.ref r21), .val rv22, .val (.ref b43), .unset, .unset, .unset, .unset] []) (fun _ _ A k => XS.ifNo A hx rfl (hb hby at_240) rfl ((if0 _ _).trans (feq f13).1) k) ?_
                            refine gnewO hx (ow hw 103 rfl) (ow hw 104 rfl) (ow hw 105 rfl) 246 (hb hby at_243) rfl (by decide) (by decide) ?_
                            intro b46 h46 g46 E46 C46 A46 D46 n46 L46
                            have z46 := C46.2.1
                            have lt_b46 : h46.size > b46 := A46.lt
                            have F46_kind : Fld Z h46 b46 "com/example/backfill/backfill/migration/ColumnValue" "kind" "Lcom/example/backfill/backfill/migration/ColumnValue$Kind;" .null := D46 (Or.inr (ow hw 114 rfl)) (ty := (.object "com/example/backfill/backfill/migration/ColumnValue$Kind")) (by decide)
                            have F46_value : Fld Z h46 b46 "com/example/backfill/backfill/migration/ColumnValue" "value" "Ljava/lang/String;" .null := D46 (Or.inr (ow hw 116 rfl)) (ty := (.object "java/lang/String")) (by decide)
                            refine gs (mkF m 247 #[.val (.int x0), .val (.int x1), .val (.int x2), .val (.int x3), .val (.int fl1), .val (.int fl2), .val (.int fl3), .val (.int fl4), .val (.int fl5), .val (.int fl6), .val (.int fl7), .val (.int fl8), .val (.ref r9), .val (.int (x2 &&& (255 : Int32))), .val (.ref sx10), .val (.ref r19), .val (.ref r20), .val (.ref r21), .val rv22, .val (.ref b43), .unset, .unset, .unset, .unset] [(.ref b46), (.ref b46)]) (fun _ _ A k => XS.dup A hx rfl (hb hby at_246) rfl rfl k) ?_
                            refine gs (mkF m 249 #[.val (.int x0), .val (.int x1), .val (.int x2), .val (.int x3), .val (.int fl1), .val (.int fl2), .val (.int fl3), .val (.int fl4), .val (.int fl5), .val (.int fl6), .val (.int fl7), .val (.int fl8), .val (.ref r9), .val (.int (x2 &&& (255 : Int32))), .val (.ref sx10), .val (.ref r19), .val (.ref r20), .val (.ref r21), .val rv22, .val (.ref b43), .unset, .unset, .unset, .unset] [(.ref r9), (.ref b46), (.ref b46)]) (fun _ _ A k => XS.aload A hx rfl (hb hby at_247) rfl rfl k) ?_
                            refine gs (mkF m 251 #[.val (.int x0), .val (.int x1), .val (.int x2), .val (.int x3), .val (.int fl1), .val (.int fl2), .val (.int fl3), .val (.int fl4), .val (.int fl5), .val (.int fl6), .val (.int fl7), .val (.int fl8), .val (.ref r9), .val (.int (x2 &&& (255 : Int32))), .val (.ref sx10), .val (.ref r19), .val (.ref r20), .val (.ref r21), .val rv22, .val (.ref b43), .unset, .unset, .unset, .unset] [(.ref sx10), (.ref r9), (.ref b46), (.ref b46)]) (fun _ _ A k => XS.aload A hx rfl (hb hby at_249) rfl rfl k) ?_
                            refine ginfo fun _ _ O47 => ?_
                            refine gcallI (y := (⟨"com/example/backfill/backfill/migration/ColumnValue", "<init>", "(Lcom/example/backfill/backfill/migration/ColumnValue$Kind;Ljava/lang/String;)V"⟩ : MethodName)) hx rfl (ow hw 106 rfl) (ow hw 107 rfl) (ow hw 108 rfl) (by decide) (fun hZ H hEL => Pay.of_met (W := 1) (own_cvinit l Z a0 cx [] (b46) (r9) (sx10) (.null) (.null) vm44 h46 O47 A46 F46_kind F46_value n46) (ow hw 108 rfl) (ow hw 105 rfl) (by decide) (by decide) hZ H hEL) (a := b46) 254 (argsL := [(.ref r9), (.ref sx10)]) (rest := [(.ref b46)]) (lenOf own_pd203 rfl) rfl rfl (Nat.le_of_eq rfl) (by rw [hml]; rfl) (hb hby at_251) rfl (by decide) (by decide) ?_
                            rintro _ vm47 h47 C47 ⟨rfl, K47⟩
                            have z47 := C47.2.1
                            refine gat (mkF m 254 #[.val (.int x0), .val (.int x1), .val (.int x2), .val (.int x3), .val (.int fl1), .val (.int fl2), .val (.int fl3), .val (.int fl4), .val (.int fl5), .val (.int fl6), .val (.int fl7), .val (.int fl8), .val (.ref r9), .val (.int (x2 &&& (255 : Int32))), .val (.ref sx10), .val (.ref r19), .val (.ref r20), .val (.ref r21), .val rv22, .val (.ref b43), .unset, .unset, .unset, .unset] [(.ref b46)]) rfl ?_
                            refine gs (mkF m 258 #[.val (.int x0), .val (.int x1), .val (.int x2), .val (.int x3), .val (.int fl1), .val (.int fl2), .val (.int fl3), .val (.int fl4), .val (.int fl5), .val (.int fl6), .val (.int fl7), .val (.int fl8), .val (.ref r9), .val (.int (x2 &&& (255 : Int32))), .val (.ref sx10), .val (.ref r19), .val (.ref r20), .val (.ref r21), .val rv22, .val (.ref b43), .unset, .unset, .unset, .unset] [(.ref b46)]) (fun _ _ A k => XS.goto A hx rfl (pc0 := 254) (pc' := 258) rfl (hb hby at_254) (by decide) (by decide) k) ?_
                            refine gs (mkF m 260 #[.val (.int x0), .val (.int x1), .val (.int x2), .val (.int x3), .val (.int fl1), .val (.int fl2), .val (.int fl3), .val (.int fl4), .val (.int fl5), .val (.int fl6), .val (.int fl7), .val (.int fl8), .val (.ref r9), .val (.int (x2 &&& (255 : Int32))), .val (.ref sx10), .val (.ref r19), .val (.ref r20), .val (.ref r21), .val rv22, .val (.ref b43), .val (.ref b46), .unset, .unset, .unset] []) (fun _ _ A k => XS.astore A hx rfl (hb hby at_258) rfl rfl (l' := #[.val (.int x0), .val (.int x1), .val (.int x2), .val (.int x3), .val (.int fl1), .val (.int fl2), .val (.int fl3), .val (.int fl4), .val (.int fl5), .val (.int fl6), .val (.int fl7), .val (.int fl8), .val (.ref r9), .val (.int (x2 &&& (255 : Int32))), .val (.ref sx10), .val (.ref r19), .val (.ref r20), .val (.ref r21), .val rv22, .val (.ref b43), .val (.ref b46), .unset, .unset, .unset]) rfl k) ?_
                            exact gmono (by decide) (by decide) (J45 _ _ _ ⟨(.ref b46), rfl, (((Keep.refl h44 []).ext E46).trans K47 (allS (Or.inr (by omega)) all0)), (C46.trans C47), (by first | assumption | rfl | decide | exact Or.inl rfl | exact Or.inr (by assumption) | omega)⟩)
                    · intro J22
                      by_cases f11 : fl6 = (0 : Int32)
                      · refine gs (mkF m 213 #[.val (.int x0), .val (.int x1), .val (.int x2), .val (.int x3), .val (.int fl1), .val (.int fl2), .val (.int fl3), .val (.int fl4), .val (.int fl5), .val (.int fl6), .val (.int fl7), .val (.int fl8), .val (.ref r9), .val (.int (x2 &&& (255 : Int32))), .val (.ref sx10), .val (.ref r19), .val (.ref r20), .val (.ref r21), .unset, .unset, .unset, .unset, .unset, .unset] []) (fun _ _ A k => XS.ifYes A hx rfl (pc0 := 195) (pc' := 213) rfl (hb hby at_195) rfl ((if0 _ _).trans (teq f11).1) (by decide) (by decide) k) ?_
                        refine gs (mkF m 214 #[.val (.int x0), .val (.int x1), .val (.int x2), .val (.int x3), .val (.int fl1), .val (.int fl2), .val (.int fl3), .val (.int fl4), .val (.int fl5), .val (.int fl6), .val (.int fl7), .val (.int fl8), .val (.ref r9), .val (.int (x2 &&& (255 : Int32))), .val (.ref sx10), .val (.ref r19), .val (.ref r20), .val (.ref r21), .unset, .unset, .unset, .unset, .unset, .unset] [.null]) (fun _ _ A k => XS.aconstNull A hx rfl (hb hby at_213) k) ?_
                        refine gs (mkF m 216 #[.val (.int x0), .val (.int x1), .val (.int x2), .val (.int x3), .val (.int fl1), .val (.int fl2), .val (.int fl3), .val (.int fl4), .val (.int fl5), .val (.int fl6), .val (.int fl7), .val (.int fl8), .val (.ref r9), .val (.int (x2 &&& (255 : Int32))), .val (.ref sx10), .val (.ref r19), .val (.ref r20), .val (.ref r21), .val .null, .unset, .unset, .unset, .unset, .unset] []) (fun _ _ A k => XS.astore A hx rfl (hb hby at_214) rfl rfl (l' := #[.val (.int x0), .val (.int x1), .val (.int x2), .val (.int x3), .val (.int fl1), .val (.int fl2), .val (.int fl3), .val (.int fl4), .val (.int fl5), .val (.int fl6), .val (.int fl7), .val (.int fl8), .val (.ref r9), .val (.int (x2 &&& (255 : Int32))), .val (.ref sx10), .val (.ref r19), .val (.ref r20), .val (.ref r21), .val .null, .unset, .unset, .unset, .unset, .unset]) rfl k) ?_
                        refine ginfo fun _ Hq _ => ?_
                        exact gmono (by decide) (by decide) (J22 _ _ _ ⟨.null, rfl, (Keep.refl h21 []), (CHr.refl Hq), (by first | assumption | rfl | decide | exact Or.inl rfl | exact Or.inr (by assumption) | omega)⟩)
                      · refine gs (mkF m 198 #[.val (.int x0), .val (.int x1), .val (.int x2), .val (.int x3), .val (.int fl1), .val (.int fl2), .val (.int fl3), .val (.int fl4), .val (.int fl5), .val (.int fl6), .val (.int fl7), .val (.int fl8), .val (.ref r9), .val (.int (x2 &&& (255 : Int32))), .val (.ref sx10), .val (.ref r19), .val (.ref r20), .val (.ref r21), .unset, .unset, .unset, .unset, .unset, .unset] []) (fun _ _ A k => XS.ifNo A hx rfl (hb hby at_195) rfl ((if0 _ _).trans (feq f11).1) k) ?_
                        refine gs (mkF m 199 #[.val (.int x0), .val (.int x1), .val (.int x2), .val (.int x3), .val (.int fl1), .val (.int fl2), .val (.int fl3), .val (.int fl4), .val (.int fl5), .val (.int fl6), .val (.int fl7), .val (.int fl8), .val (.ref r9), .val (.int (x2 &&& (255 : Int32))), .val (.ref sx10), .val (.ref r19), .val (.ref r20), .val (.ref r21), .unset, .unset, .unset, .unset, .unset, .unset] [(.int x2)]) (fun _ _ A k => XS.iloadN A hx rfl (hb hby at_198) rfl  k) ?_
                        refine gs (mkF m 201 #[.val (.int x0), .val (.int x1), .val (.int x2), .val (.int x3), .val (.int fl1), .val (.int fl2), .val (.int fl3), .val (.int fl4), .val (.int fl5), .val (.int fl6), .val (.int fl7), .val (.int fl8), .val (.ref r9), .val (.int (x2 &&& (255 : Int32))), .val (.ref sx10), .val (.ref r19), .val (.ref r20), .val (.ref r21), .unset, .unset, .unset, .unset, .unset, .unset] [(.int (8 : Int32)), (.int x2)]) (fun _ _ A k => XS.bipush A hx rfl (hb hby at_199) k) ?_
                        refine gs (mkF m 202 #[.val (.int x0), .val (.int x1), .val (.int x2), .val (.int x3), .val (.int fl1), .val (.int fl2), .val (.int fl3), .val (.int fl4), .val (.int fl5), .val (.int fl6), .val (.int fl7), .val (.int fl8), .val (.ref r9), .val (.int (x2 &&& (255 : Int32))), .val (.ref sx10), .val (.ref r19), .val (.ref r20), .val (.ref r21), .unset, .unset, .unset, .unset, .unset, .unset] [(.int ((x2.toUInt32 >>> ((8 : Int32) &&& 31).toUInt32).toInt32))]) (fun _ _ A k => XS.iushr A hx rfl (hb hby at_201) rfl k) ?_
                        refine gs (mkF m 205 #[.val (.int x0), .val (.int x1), .val (.int x2), .val (.int x3), .val (.int fl1), .val (.int fl2), .val (.int fl3), .val (.int fl4), .val (.int fl5), .val (.int fl6), .val (.int fl7), .val (.int fl8), .val (.ref r9), .val (.int (x2 &&& (255 : Int32))), .val (.ref sx10), .val (.ref r19), .val (.ref r20), .val (.ref r21), .unset, .unset, .unset, .unset, .unset, .unset] [(.int (255 : Int32)), (.int ((x2.toUInt32 >>> ((8 : Int32) &&& 31).toUInt32).toInt32))]) (fun _ _ A k => XS.sipush A hx rfl (hb hby at_202) k) ?_
                        refine gs (mkF m 206 #[.val (.int x0), .val (.int x1), .val (.int x2), .val (.int x3), .val (.int fl1), .val (.int fl2), .val (.int fl3), .val (.int fl4), .val (.int fl5), .val (.int fl6), .val (.int fl7), .val (.int fl8), .val (.ref r9), .val (.int (x2 &&& (255 : Int32))), .val (.ref sx10), .val (.ref r19), .val (.ref r20), .val (.ref r21), .unset, .unset, .unset, .unset, .unset, .unset] [(.int (((x2.toUInt32 >>> ((8 : Int32) &&& 31).toUInt32).toInt32) &&& (255 : Int32)))]) (fun _ _ A k => XS.iand A hx rfl (hb hby at_205) rfl k) ?_
                        refine gi2c hx (i2c_mask _) 207 (hb hby at_206) rfl ?_
                        refine ginfo fun _ _ O23 => ?_
                        refine gcallS (y := (⟨"java/lang/String", "valueOf", "(C)Ljava/lang/String;"⟩ : MethodName)) hx (ow hw 8 rfl) (ow hw 9 rfl) (ow hw 10 rfl) (ow hw 11 rfl) (by decide) (fun hZ H hEL => Pay.of_met (W := 0) (own_valueOfC l Z a0 cx [] ((((x2.toUInt32 >>> ((8 : Int32) &&& 31).toUInt32).toInt32) &&& (255 : Int32))) vm21 h21 O23 (b255 _)) (ow hw 11 rfl) (ow hw 10 rfl) (by decide) (by decide) hZ H hEL) 210 (argsL := [(.int (((x2.toUInt32 >>> ((8 : Int32) &&& 31).toUInt32).toInt32) &&& (255 : Int32)))]) (rest := []) (lenOf own_pd201 rfl) rfl rfl (Nat.le_of_eq rfl) (by rw [hml]; rfl) (hb hby at_207) rfl (by decide) (by decide) ?_
                        rintro _ vm23 h23 C23 ⟨r23, t23, rfl, K23, q23_0, q23_1⟩
                        have z23 := C23.2.1
                        have lt_r23 : h23.size > r23 := q23_1.1.lt
                        have lt_t23 : h23.size > t23 := q23_1.tlt
                        refine gat (mkF m 210 #[.val (.int x0), .val (.int x1), .val (.int x2), .val (.int x3), .val (.int fl1), .val (.int fl2), .val (.int fl3), .val (.int fl4), .val (.int fl5), .val (.int fl6), .val (.int fl7), .val (.int fl8), .val (.ref r9), .val (.int (x2 &&& (255 : Int32))), .val (.ref sx10), .val (.ref r19), .val (.ref r20), .val (.ref r21), .unset, .unset, .unset, .unset, .unset, .unset] [(.ref r23)]) rfl ?_
                        refine gs (mkF m 214 #[.val (.int x0), .val (.int x1), .val (.int x2), .val (.int x3), .val (.int fl1), .val (.int fl2), .val (.int fl3), .val (.int fl4), .val (.int fl5), .val (.int fl6), .val (.int fl7), .val (.int fl8), .val (.ref r9), .val (.int (x2 &&& (255 : Int32))), .val (.ref sx10), .val (.ref r19), .val (.ref r20), .val (.ref r21), .unset, .unset, .unset, .unset, .unset, .unset] [(.ref r23)]) (fun _ _ A k => XS.goto A hx rfl (pc0 := 210) (pc' := 214) rfl (hb hby at_210) (by decide) (by decide) k) ?_
                        refine gs (mkF m 216 #[.val (.int x0), .val (.int x1), .val (.int x2), .val (.int x3), .val (.int fl1), .val (.int fl2), .val (.int fl3), .val (.int fl4), .val (.int fl5), .val (.int fl6), .val (.int fl7), .val (.int fl8), .val (.ref r9), .val (.int (x2 &&& (255 : Int32))), .val (.ref sx10), .val (.ref r19), .val (.ref r20), .val (.ref r21), .val (.ref r23), .unset, .unset, .unset, .unset, .unset] []) (fun _ _ A k => XS.astore A hx rfl (hb hby at_214) rfl rfl (l' := #[.val (.int x0), .val (.int x1), .val (.int x2), .val (.int x3), .val (.int fl1), .val (.int fl2), .val (.int fl3), .val (.int fl4), .val (.int fl5), .val (.int fl6), .val (.int fl7), .val (.int fl8), .val (.ref r9), .val (.int (x2 &&& (255 : Int32))), .val (.ref sx10), .val (.ref r19), .val (.ref r20), .val (.ref r21), .val (.ref r23), .unset, .unset, .unset, .unset, .unset]) rfl k) ?_
                        exact gmono (by decide) (by decide) (J22 _ _ _ ⟨(.ref r23), rfl, ((Keep.refl h21 []).trans K23 all0), C23, (by first | assumption | rfl | decide | exact Or.inl rfl | exact Or.inr (by assumption) | omega)⟩)
                  · intro J10
                    by_cases f10 : fl8 = (0 : Int32)
                    · refine gs (mkF m 147 #[.val (.int x0), .val (.int x1), .val (.int x2), .val (.int x3), .val (.int fl1), .val (.int fl2), .val (.int fl3), .val (.int fl4), .val (.int fl5), .val (.int fl6), .val (.int fl7), .val (.int fl8), .val (.ref r9), .val (.int (x2 &&& (255 : Int32))), .unset, .unset, .unset, .unset, .unset, .unset, .unset, .unset, .unset, .unset] []) (fun _ _ A k => XS.ifYes A hx rfl (pc0 := 131) (pc' := 147) rfl (hb hby at_131) rfl ((if0 _ _).trans (teq f10).1) (by decide) (by decide) k) ?_
                      refine gs (mkF m 149 #[.val (.int x0), .val (.int x1), .val (.int x2), .val (.int x3), .val (.int fl1), .val (.int fl2), .val (.int fl3), .val (.int fl4), .val (.int fl5), .val (.int fl6), .val (.int fl7), .val (.int fl8), .val (.ref r9), .val (.int (x2 &&& (255 : Int32))), .unset, .unset, .unset, .unset, .unset, .unset, .unset, .unset, .unset, .unset] [(.int (x2 &&& (255 : Int32)))]) (fun _ _ A k => XS.iload A hx rfl (hb hby at_147) rfl  k) ?_
                      refine ginfo fun _ _ O11 => ?_
                      refine gcallS (y := (⟨"java/lang/String", "valueOf", "(C)Ljava/lang/String;"⟩ : MethodName)) hx (ow hw 8 rfl) (ow hw 9 rfl) (ow hw 10 rfl) (ow hw 11 rfl) (by decide) (fun hZ H hEL => Pay.of_met (W := 0) (own_valueOfC l Z a0 cx [] ((x2 &&& (255 : Int32))) vm9 h8 O11 (b255 _)) (ow hw 11 rfl) (ow hw 10 rfl) (by decide) (by decide) hZ H hEL) 152 (argsL := [(.int (x2 &&& (255 : Int32)))]) (rest := []) (lenOf own_pd201 rfl) rfl rfl (Nat.le_of_eq rfl) (by rw [hml]; rfl) (hb hby at_149) rfl (by decide) (by decide) ?_
                      rintro _ vm11 h11 C11 ⟨r11, t11, rfl, K11, q11_0, q11_1⟩
                      have z11 := C11.2.1
                      have lt_r11 : h11.size > r11 := q11_1.1.lt
                      have lt_t11 : h11.size > t11 := q11_1.tlt
                      refine gat (mkF m 152 #[.val (.int x0), .val (.int x1), .val (.int x2), .val (.int x3), .val (.int fl1), .val (.int fl2), .val (.int fl3), .val (.int fl4), .val (.int fl5), .val (.int fl6), .val (.int fl7), .val (.int fl8), .val (.ref r9), .val (.int (x2 &&& (255 : Int32))), .unset, .unset, .unset, .unset, .unset, .unset, .unset, .unset, .unset, .unset] [(.ref r11)]) rfl ?_
                      refine gs (mkF m 154 #[.val (.int x0), .val (.int x1), .val (.int x2), .val (.int x3), .val (.int fl1), .val (.int fl2), .val (.int fl3), .val (.int fl4), .val (.int fl5), .val (.int fl6), .val (.int fl7), .val (.int fl8), .val (.ref r9), .val (.int (x2 &&& (255 : Int32))), .val (.ref r11), .unset, .unset, .unset, .unset, .unset, .unset, .unset, .unset, .unset] []) (fun _ _ A k => XS.astore A hx rfl (hb hby at_152) rfl rfl (l' := #[.val (.int x0), .val (.int x1), .val (.int x2), .val (.int x3), .val (.int fl1), .val (.int fl2), .val (.int fl3), .val (.int fl4), .val (.int fl5), .val (.int fl6), .val (.int fl7), .val (.int fl8), .val (.ref r9), .val (.int (x2 &&& (255 : Int32))), .val (.ref r11), .unset, .unset, .unset, .unset, .unset, .unset, .unset, .unset, .unset]) rfl k) ?_
                      exact gmono (by decide) (by decide) (J10 _ _ _ ⟨r11, t11, [(x2 &&& (255 : Int32))], rfl, ((Keep.refl h8 []).trans K11 all0), C11, q11_1⟩)
                    · refine gs (mkF m 134 #[.val (.int x0), .val (.int x1), .val (.int x2), .val (.int x3), .val (.int fl1), .val (.int fl2), .val (.int fl3), .val (.int fl4), .val (.int fl5), .val (.int fl6), .val (.int fl7), .val (.int fl8), .val (.ref r9), .val (.int (x2 &&& (255 : Int32))), .unset, .unset, .unset, .unset, .unset, .unset, .unset, .unset, .unset, .unset] []) (fun _ _ A k => XS.ifNo A hx rfl (hb hby at_131) rfl ((if0 _ _).trans (feq f10).1) k) ?_
                      refine gnewO hx (ow hw 117 rfl) (ow hw 18 rfl) (ow hw 10 rfl) 137 (hb hby at_134) rfl (by decide) (by decide) ?_
                      intro b12 h12 g12 E12 C12 A12 D12 n12 L12
                      have z12 := C12.2.1
                      have lt_b12 : h12.size > b12 := A12.lt
                      have F12_value : Fld Z h12 b12 "java/lang/String" "value" "[B" .null := D12 (Or.inr (ow hw 31 rfl)) (ty := (.array .byte)) (by decide)
                      have F12_coder : Fld Z h12 b12 "java/lang/String" "coder" "B" (.int (0 : Int32)) := D12 (Or.inr (ow hw 33 rfl)) (ty := .byte) (by decide)
                      refine gs (mkF m 138 #[.val (.int x0), .val (.int x1), .val (.int x2), .val (.int x3), .val (.int fl1), .val (.int fl2), .val (.int fl3), .val (.int fl4), .val (.int fl5), .val (.int fl6), .val (.int fl7), .val (.int fl8), .val (.ref r9), .val (.int (x2 &&& (255 : Int32))), .unset, .unset, .unset, .unset, .unset, .unset, .unset, .unset, .unset, .unset] [(.ref b12), (.ref b12)]) (fun _ _ A k => XS.dup A hx rfl (hb hby at_137) rfl rfl k) ?_
                      refine gs (mkF m 139 #[.val (.int x0), .val (.int x1), .val (.int x2), .val (.int x3), .val (.int fl1), .val (.int fl2), .val (.int fl3), .val (.int fl4), .val (.int fl5), .val (.int fl6), .val (.int fl7), .val (.int fl8), .val (.ref r9), .val (.int (x2 &&& (255 : Int32))), .unset, .unset, .unset, .unset, .unset, .unset, .unset, .unset, .unset, .unset] [(.int (0 : Int32)), (.ref b12), (.ref b12)]) (fun _ _ A k => XS.iconst A hx rfl (hb hby at_138) k) ?_
                      refine gnewP hx (ow hw 118 rfl) (n := (0 : Int32)) (by decide) (cap := 0) (by decide) (by decide) 141 (hb hby at_139) rfl (by decide) (by decide) ?_
                      intro b13 h13 k13 g13 E13 C13 V13 n13 L13
                      have z13 := C13.2.1
                      have V13 : Arv Z h13 b13 k13 .char (0 : Int32) [] (.int (0 : Int32)) := V13.pad (pad_rep [] (.int (0 : Int32)) 0)
                      have lt_b13 : h13.size > b13 := V13.lt
                      have f15 := (A12.ext E13)
                      have f16 := (F12_value.ext E13)
                      have f17 := (F12_coder.ext E13)
                      have f18 := (C13.safe (show h12.size > b12 by omega) L12)
                      refine ginfo fun _ _ O14 => ?_
                      refine gcallI (y := (⟨"java/lang/String", "<init>", "([C)V"⟩ : MethodName)) hx rfl (ow hw 119 rfl) (ow hw 120 rfl) (ow hw 121 rfl) (by decide) (fun hZ H hEL => Pay.of_met (W := 1) (own_emp1 l Z a0 cx [] (b12) (b13) (.null) ((.int (0 : Int32))) (k13) vm9 h13 O14 f15 f16 f17 n12 f18 V13) (ow hw 121 rfl) (ow hw 10 rfl) (by decide) (by decide) hZ H hEL) (a := b12) 144 (argsL := [(.ref b13)]) (rest := [(.ref b12)]) (lenOf own_pd202 rfl) rfl rfl (Nat.le_of_eq rfl) (by rw [hml]; rfl) (hb hby at_141) rfl (by decide) (by decide) ?_
                      rintro _ vm14 h14 C14 ⟨t14, rfl, K14, q14_0, q14_1⟩
                      have z14 := C14.2.1
                      have lt_t14 : h14.size > t14 := q14_0.tlt
                      refine gat (mkF m 144 #[.val (.int x0), .val (.int x1), .val (.int x2), .val (.int x3), .val (.int fl1), .val (.int fl2), .val (.int fl3), .val (.int fl4), .val (.int fl5), .val (.int fl6), .val (.int fl7), .val (.int fl8), .val (.ref r9), .val (.int (x2 &&& (255 : Int32))), .unset, .unset, .unset, .unset, .unset, .unset, .unset, .unset, .unset, .unset] [(.ref b12)]) rfl ?_
                      refine gs (mkF m 152 #[.val (.int x0), .val (.int x1), .val (.int x2), .val (.int x3), .val (.int fl1), .val (.int fl2), .val (.int fl3), .val (.int fl4), .val (.int fl5), .val (.int fl6), .val (.int fl7), .val (.int fl8), .val (.ref r9), .val (.int (x2 &&& (255 : Int32))), .unset, .unset, .unset, .unset, .unset, .unset, .unset, .unset, .unset, .unset] [(.ref b12)]) (fun _ _ A k => XS.goto A hx rfl (pc0 := 144) (pc' := 152) rfl (hb hby at_144) (by decide) (by decide) k) ?_
                      refine gs (mkF m 154 #[.val (.int x0), .val (.int x1), .val (.int x2), .val (.int x3), .val (.int fl1), .val (.int fl2), .val (.int fl3), .val (.int fl4), .val (.int fl5), .val (.int fl6), .val (.int fl7), .val (.int fl8), .val (.ref r9), .val (.int (x2 &&& (255 : Int32))), .val (.ref b12), .unset, .unset, .unset, .unset, .unset, .unset, .unset, .unset, .unset] []) (fun _ _ A k => XS.astore A hx rfl (hb hby at_152) rfl rfl (l' := #[.val (.int x0), .val (.int x1), .val (.int x2), .val (.int x3), .val (.int fl1), .val (.int fl2), .val (.int fl3), .val (.int fl4), .val (.int fl5), .val (.int fl6), .val (.int fl7), .val (.int fl8), .val (.ref r9), .val (.int (x2 &&& (255 : Int32))), .val (.ref b12), .unset, .unset, .unset, .unset, .unset, .unset, .unset, .unset, .unset]) rfl k) ?_
                      exact gmono (by decide) (by decide) (J10 _ _ _ ⟨b12, t14, ([] : List Int32), rfl, ((((Keep.refl h8 []).ext E12).ext E13).trans K14 (allS (Or.inr (by omega)) all0)), ((C12.trans C13).trans C14), q14_0⟩)
                · intro J8
                  by_cases f9 : (x0 &&& (128 : Int32)) = (0 : Int32)
                  · refine gs (mkF m 112 #[.val (.int x0), .val (.int x1), .val (.int x2), .val (.int x3), .val (.int fl1), .val (.int fl2), .val (.int fl3), .val (.int fl4), .val (.int fl5), .val (.int fl6), .val (.int fl7), .unset, .unset, .unset, .unset, .unset, .unset, .unset, .unset, .unset, .unset, .unset, .unset, .unset] []) (fun _ _ A k => XS.ifYes A hx rfl (pc0 := 105) (pc' := 112) rfl (hb hby at_105) rfl ((if0 _ _).trans (teq f9).1) (by decide) (by decide) k) ?_
                    refine gs (mkF m 113 #[.val (.int x0), .val (.int x1), .val (.int x2), .val (.int x3), .val (.int fl1), .val (.int fl2), .val (.int fl3), .val (.int fl4), .val (.int fl5), .val (.int fl6), .val (.int fl7), .unset, .unset, .unset, .unset, .unset, .unset, .unset, .unset, .unset, .unset, .unset, .unset, .unset] [(.int (0 : Int32))]) (fun _ _ A k => XS.iconst A hx rfl (hb hby at_112) k) ?_
                    refine ginfo fun _ Hq _ => ?_
                    exact gmono (by decide) (by decide) (J8 _ _ _ ⟨(0 : Int32), rfl, (Keep.refl h7 []), (CHr.refl Hq), (by first | assumption | rfl | decide | exact Or.inl rfl | exact Or.inr (by assumption) | omega)⟩)
                  · refine gs (mkF m 108 #[.val (.int x0), .val (.int x1), .val (.int x2), .val (.int x3), .val (.int fl1), .val (.int fl2), .val (.int fl3), .val (.int fl4), .val (.int fl5), .val (.int fl6), .val (.int fl7), .unset, .unset, .unset, .unset, .unset, .unset, .unset, .unset, .unset, .unset, .unset, .unset, .unset] []) (fun _ _ A k => XS.ifNo A hx rfl (hb hby at_105) rfl ((if0 _ _).trans (feq f9).1) k) ?_
                    refine gs (mkF m 109 #[.val (.int x0), .val (.int x1), .val (.int x2), .val (.int x3), .val (.int fl1), .val (.int fl2), .val (.int fl3), .val (.int fl4), .val (.int fl5), .val (.int fl6), .val (.int fl7), .unset, .unset, .unset, .unset, .unset, .unset, .unset, .unset, .unset, .unset, .unset, .unset, .unset] [(.int (1 : Int32))]) (fun _ _ A k => XS.iconst A hx rfl (hb hby at_108) k) ?_
                    refine gs (mkF m 113 #[.val (.int x0), .val (.int x1), .val (.int x2), .val (.int x3), .val (.int fl1), .val (.int fl2), .val (.int fl3), .val (.int fl4), .val (.int fl5), .val (.int fl6), .val (.int fl7), .unset, .unset, .unset, .unset, .unset, .unset, .unset, .unset, .unset, .unset, .unset, .unset, .unset] [(.int (1 : Int32))]) (fun _ _ A k => XS.goto A hx rfl (pc0 := 109) (pc' := 113) rfl (hb hby at_109) (by decide) (by decide) k) ?_
                    refine ginfo fun _ Hq _ => ?_
                    exact gmono (by decide) (by decide) (J8 _ _ _ ⟨(1 : Int32), rfl, (Keep.refl h7 []), (CHr.refl Hq), (by first | assumption | rfl | decide | exact Or.inl rfl | exact Or.inr (by assumption) | omega)⟩)
              · intro J7
                by_cases f8 : (x0 &&& (64 : Int32)) = (0 : Int32)
                · refine gs (mkF m 97 #[.val (.int x0), .val (.int x1), .val (.int x2), .val (.int x3), .val (.int fl1), .val (.int fl2), .val (.int fl3), .val (.int fl4), .val (.int fl5), .val (.int fl6), .unset, .unset, .unset, .unset, .unset, .unset, .unset, .unset, .unset, .unset, .unset, .unset, .unset, .unset] []) (fun _ _ A k => XS.ifYes A hx rfl (pc0 := 90) (pc' := 97) rfl (hb hby at_90) rfl ((if0 _ _).trans (teq f8).1) (by decide) (by decide) k) ?_
                  refine gs (mkF m 98 #[.val (.int x0), .val (.int x1), .val (.int x2), .val (.int x3), .val (.int fl1), .val (.int fl2), .val (.int fl3), .val (.int fl4), .val (.int fl5), .val (.int fl6), .unset, .unset, .unset, .unset, .unset, .unset, .unset, .unset, .unset, .unset, .unset, .unset, .unset, .unset] [(.int (0 : Int32))]) (fun _ _ A k => XS.iconst A hx rfl (hb hby at_97) k) ?_
                  refine ginfo fun _ Hq _ => ?_
                  exact gmono (by decide) (by decide) (J7 _ _ _ ⟨(0 : Int32), rfl, (Keep.refl h6 []), (CHr.refl Hq), (by first | assumption | rfl | decide | exact Or.inl rfl | exact Or.inr (by assumption) | omega)⟩)
                · refine gs (mkF m 93 #[.val (.int x0), .val (.int x1), .val (.int x2), .val (.int x3), .val (.int fl1), .val (.int fl2), .val (.int fl3), .val (.int fl4), .val (.int fl5), .val (.int fl6), .unset, .unset, .unset, .unset, .unset, .unset, .unset, .unset, .unset, .unset, .unset, .unset, .unset, .unset] []) (fun _ _ A k => XS.ifNo A hx rfl (hb hby at_90) rfl ((if0 _ _).trans (feq f8).1) k) ?_
                  refine gs (mkF m 94 #[.val (.int x0), .val (.int x1), .val (.int x2), .val (.int x3), .val (.int fl1), .val (.int fl2), .val (.int fl3), .val (.int fl4), .val (.int fl5), .val (.int fl6), .unset, .unset, .unset, .unset, .unset, .unset, .unset, .unset, .unset, .unset, .unset, .unset, .unset, .unset] [(.int (1 : Int32))]) (fun _ _ A k => XS.iconst A hx rfl (hb hby at_93) k) ?_
                  refine gs (mkF m 98 #[.val (.int x0), .val (.int x1), .val (.int x2), .val (.int x3), .val (.int fl1), .val (.int fl2), .val (.int fl3), .val (.int fl4), .val (.int fl5), .val (.int fl6), .unset, .unset, .unset, .unset, .unset, .unset, .unset, .unset, .unset, .unset, .unset, .unset, .unset, .unset] [(.int (1 : Int32))]) (fun _ _ A k => XS.goto A hx rfl (pc0 := 94) (pc' := 98) rfl (hb hby at_94) (by decide) (by decide) k) ?_
                  refine ginfo fun _ Hq _ => ?_
                  exact gmono (by decide) (by decide) (J7 _ _ _ ⟨(1 : Int32), rfl, (Keep.refl h6 []), (CHr.refl Hq), (by first | assumption | rfl | decide | exact Or.inl rfl | exact Or.inr (by assumption) | omega)⟩)
            · intro J6
              by_cases f7 : (x0 &&& (32 : Int32)) = (0 : Int32)
              · refine gs (mkF m 83 #[.val (.int x0), .val (.int x1), .val (.int x2), .val (.int x3), .val (.int fl1), .val (.int fl2), .val (.int fl3), .val (.int fl4), .val (.int fl5), .unset, .unset, .unset, .unset, .unset, .unset, .unset, .unset, .unset, .unset, .unset, .unset, .unset, .unset, .unset] []) (fun _ _ A k => XS.ifYes A hx rfl (pc0 := 76) (pc' := 83) rfl (hb hby at_76) rfl ((if0 _ _).trans (teq f7).1) (by decide) (by decide) k) ?_
                refine gs (mkF m 84 #[.val (.int x0), .val (.int x1), .val (.int x2), .val (.int x3), .val (.int fl1), .val (.int fl2), .val (.int fl3), .val (.int fl4), .val (.int fl5), .unset, .unset, .unset, .unset, .unset, .unset, .unset, .unset, .unset, .unset, .unset, .unset, .unset, .unset, .unset] [(.int (0 : Int32))]) (fun _ _ A k => XS.iconst A hx rfl (hb hby at_83) k) ?_
                refine ginfo fun _ Hq _ => ?_
                exact gmono (by decide) (by decide) (J6 _ _ _ ⟨(0 : Int32), rfl, (Keep.refl h5 []), (CHr.refl Hq), (by first | assumption | rfl | decide | exact Or.inl rfl | exact Or.inr (by assumption) | omega)⟩)
              · refine gs (mkF m 79 #[.val (.int x0), .val (.int x1), .val (.int x2), .val (.int x3), .val (.int fl1), .val (.int fl2), .val (.int fl3), .val (.int fl4), .val (.int fl5), .unset, .unset, .unset, .unset, .unset, .unset, .unset, .unset, .unset, .unset, .unset, .unset, .unset, .unset, .unset] []) (fun _ _ A k => XS.ifNo A hx rfl (hb hby at_76) rfl ((if0 _ _).trans (feq f7).1) k) ?_
                refine gs (mkF m 80 #[.val (.int x0), .val (.int x1), .val (.int x2), .val (.int x3), .val (.int fl1), .val (.int fl2), .val (.int fl3), .val (.int fl4), .val (.int fl5), .unset, .unset, .unset, .unset, .unset, .unset, .unset, .unset, .unset, .unset, .unset, .unset, .unset, .unset, .unset] [(.int (1 : Int32))]) (fun _ _ A k => XS.iconst A hx rfl (hb hby at_79) k) ?_
                refine gs (mkF m 84 #[.val (.int x0), .val (.int x1), .val (.int x2), .val (.int x3), .val (.int fl1), .val (.int fl2), .val (.int fl3), .val (.int fl4), .val (.int fl5), .unset, .unset, .unset, .unset, .unset, .unset, .unset, .unset, .unset, .unset, .unset, .unset, .unset, .unset, .unset] [(.int (1 : Int32))]) (fun _ _ A k => XS.goto A hx rfl (pc0 := 80) (pc' := 84) rfl (hb hby at_80) (by decide) (by decide) k) ?_
                refine ginfo fun _ Hq _ => ?_
                exact gmono (by decide) (by decide) (J6 _ _ _ ⟨(1 : Int32), rfl, (Keep.refl h5 []), (CHr.refl Hq), (by first | assumption | rfl | decide | exact Or.inl rfl | exact Or.inr (by assumption) | omega)⟩)
          · intro J5
            by_cases f6 : (x0 &&& (16 : Int32)) = (0 : Int32)
            · refine gs (mkF m 69 #[.val (.int x0), .val (.int x1), .val (.int x2), .val (.int x3), .val (.int fl1), .val (.int fl2), .val (.int fl3), .val (.int fl4), .unset, .unset, .unset, .unset, .unset, .unset, .unset, .unset, .unset, .unset, .unset, .unset, .unset, .unset, .unset, .unset] []) (fun _ _ A k => XS.ifYes A hx rfl (pc0 := 62) (pc' := 69) rfl (hb hby at_62) rfl ((if0 _ _).trans (teq f6).1) (by decide) (by decide) k) ?_
              refine gs (mkF m 70 #[.val (.int x0), .val (.int x1), .val (.int x2), .val (.int x3), .val (.int fl1), .val (.int fl2), .val (.int fl3), .val (.int fl4), .unset, .unset, .unset, .unset, .unset, .unset, .unset, .unset, .unset, .unset, .unset, .unset, .unset, .unset, .unset, .unset] [(.int (0 : Int32))]) (fun _ _ A k => XS.iconst A hx rfl (hb hby at_69) k) ?_
              refine ginfo fun _ Hq _ => ?_
              exact gmono (by decide) (by decide) (J5 _ _ _ ⟨(0 : Int32), rfl, (Keep.refl h4 []), (CHr.refl Hq), (by first | assumption | rfl | decide | exact Or.inl rfl | exact Or.inr (by assumption) | omega)⟩)
            · refine gs (mkF m 65 #[.val (.int x0), .val (.int x1), .val (.int x2), .val (.int x3), .val (.int fl1), .val (.int fl2), .val (.int fl3), .val (.int fl4), .unset, .unset, .unset, .unset, .unset, .unset, .unset, .unset, .unset, .unset, .unset, .unset, .unset, .unset, .unset, .unset] []) (fun _ _ A k => XS.ifNo A hx rfl (hb hby at_62) rfl ((if0 _ _).trans (feq f6).1) k) ?_
              refine gs (mkF m 66 #[.val (.int x0), .val (.int x1), .val (.int x2), .val (.int x3), .val (.int fl1), .val (.int fl2), .val (.int fl3), .val (.int fl4), .unset, .unset, .unset, .unset, .unset, .unset, .unset, .unset, .unset, .unset, .unset, .unset, .unset, .unset, .unset, .unset] [(.int (1 : Int32))]) (fun _ _ A k => XS.iconst A hx rfl (hb hby at_65) k) ?_
              refine gs (mkF m 70 #[.val (.int x0), .val (.int x1), .val (.int x2), .val (.int x3), .val (.int fl1), .val (.int fl2), .val (.int fl3), .val (.int fl4), .unset, .unset, .unset, .unset, .unset, .unset, .unset, .unset, .unset, .unset, .unset, .unset, .unset, .unset, .unset, .unset] [(.int (1 : Int32))]) (fun _ _ A k => XS.goto A hx rfl (pc0 := 66) (pc' := 70) rfl (hb hby at_66) (by decide) (by decide) k) ?_
              refine ginfo fun _ Hq _ => ?_
              exact gmono (by decide) (by decide) (J5 _ _ _ ⟨(1 : Int32), rfl, (Keep.refl h4 []), (CHr.refl Hq), (by first | assumption | rfl | decide | exact Or.inl rfl | exact Or.inr (by assumption) | omega)⟩)
        · intro J4
          by_cases f5 : (x0 &&& (8 : Int32)) = (0 : Int32)
          · refine gs (mkF m 55 #[.val (.int x0), .val (.int x1), .val (.int x2), .val (.int x3), .val (.int fl1), .val (.int fl2), .val (.int fl3), .unset, .unset, .unset, .unset, .unset, .unset, .unset, .unset, .unset, .unset, .unset, .unset, .unset, .unset, .unset, .unset, .unset] []) (fun _ _ A k => XS.ifYes A hx rfl (pc0 := 48) (pc' := 55) rfl (hb hby at_48) rfl ((if0 _ _).trans (teq f5).1) (by decide) (by decide) k) ?_
            refine gs (mkF m 56 #[.val (.int x0), .val (.int x1), .val (.int x2), .val (.int x3), .val (.int fl1), .val (.int fl2), .val (.int fl3), .unset, .unset, .unset, .unset, .unset, .unset, .unset, .unset, .unset, .unset, .unset, .unset, .unset, .unset, .unset, .unset, .unset] [(.int (0 : Int32))]) (fun _ _ A k => XS.iconst A hx rfl (hb hby at_55) k) ?_
            refine ginfo fun _ Hq _ => ?_
            exact gmono (by decide) (by decide) (J4 _ _ _ ⟨(0 : Int32), rfl, (Keep.refl h3 []), (CHr.refl Hq), (by first | assumption | rfl | decide | exact Or.inl rfl | exact Or.inr (by assumption) | omega)⟩)
          · refine gs (mkF m 51 #[.val (.int x0), .val (.int x1), .val (.int x2), .val (.int x3), .val (.int fl1), .val (.int fl2), .val (.int fl3), .unset, .unset, .unset, .unset, .unset, .unset, .unset, .unset, .unset, .unset, .unset, .unset, .unset, .unset, .unset, .unset, .unset] []) (fun _ _ A k => XS.ifNo A hx rfl (hb hby at_48) rfl ((if0 _ _).trans (feq f5).1) k) ?_
            refine gs (mkF m 52 #[.val (.int x0), .val (.int x1), .val (.int x2), .val (.int x3), .val (.int fl1), .val (.int fl2), .val (.int fl3), .unset, .unset, .unset, .unset, .unset, .unset, .unset, .unset, .unset, .unset, .unset, .unset, .unset, .unset, .unset, .unset, .unset] [(.int (1 : Int32))]) (fun _ _ A k => XS.iconst A hx rfl (hb hby at_51) k) ?_
            refine gs (mkF m 56 #[.val (.int x0), .val (.int x1), .val (.int x2), .val (.int x3), .val (.int fl1), .val (.int fl2), .val (.int fl3), .unset, .unset, .unset, .unset, .unset, .unset, .unset, .unset, .unset, .unset, .unset, .unset, .unset, .unset, .unset, .unset, .unset] [(.int (1 : Int32))]) (fun _ _ A k => XS.goto A hx rfl (pc0 := 52) (pc' := 56) rfl (hb hby at_52) (by decide) (by decide) k) ?_
            refine ginfo fun _ Hq _ => ?_
            exact gmono (by decide) (by decide) (J4 _ _ _ ⟨(1 : Int32), rfl, (Keep.refl h3 []), (CHr.refl Hq), (by first | assumption | rfl | decide | exact Or.inl rfl | exact Or.inr (by assumption) | omega)⟩)
      · intro J3
        by_cases f3 : (x0 &&& (4 : Int32)) = (0 : Int32)
        · refine gs (mkF m 41 #[.val (.int x0), .val (.int x1), .val (.int x2), .val (.int x3), .val (.int fl1), .val (.int fl2), .unset, .unset, .unset, .unset, .unset, .unset, .unset, .unset, .unset, .unset, .unset, .unset, .unset, .unset, .unset, .unset, .unset, .unset] []) (fun _ _ A k => XS.ifYes A hx rfl (pc0 := 29) (pc' := 41) rfl (hb hby at_29) rfl ((if0 _ _).trans (teq f3).1) (by decide) (by decide) k) ?_
          refine gs (mkF m 42 #[.val (.int x0), .val (.int x1), .val (.int x2), .val (.int x3), .val (.int fl1), .val (.int fl2), .unset, .unset, .unset, .unset, .unset, .unset, .unset, .unset, .unset, .unset, .unset, .unset, .unset, .unset, .unset, .unset, .unset, .unset] [(.int (0 : Int32))]) (fun _ _ A k => XS.iconst A hx rfl (hb hby at_41) k) ?_
          refine ginfo fun _ Hq _ => ?_
          exact gmono (by decide) (by decide) (J3 _ _ _ ⟨(0 : Int32), rfl, (Keep.refl h2 []), (CHr.refl Hq), (by first | assumption | rfl | decide | exact Or.inl rfl | exact Or.inr (by assumption) | omega), (by first | assumption | rfl | decide | exact Or.inl rfl | exact Or.inr (by assumption) | omega)⟩)
        · refine gs (mkF m 32 #[.val (.int x0), .val (.int x1), .val (.int x2), .val (.int x3), .val (.int fl1), .val (.int fl2), .unset, .unset, .unset, .unset, .unset, .unset, .unset, .unset, .unset, .unset, .unset, .unset, .unset, .unset, .unset, .unset, .unset, .unset] []) (fun _ _ A k => XS.ifNo A hx rfl (hb hby at_29) rfl ((if0 _ _).trans (feq f3).1) k) ?_
          refine gs (mkF m 34 #[.val (.int x0), .val (.int x1), .val (.int x2), .val (.int x3), .val (.int fl1), .val (.int fl2), .unset, .unset, .unset, .unset, .unset, .unset, .unset, .unset, .unset, .unset, .unset, .unset, .unset, .unset, .unset, .unset, .unset, .unset] [(.int fl1)]) (fun _ _ A k => XS.iload A hx rfl (hb hby at_32) rfl  k) ?_
          by_cases f4 : fl1 = (0 : Int32)
          · refine gs (mkF m 37 #[.val (.int x0), .val (.int x1), .val (.int x2), .val (.int x3), .val (.int fl1), .val (.int fl2), .unset, .unset, .unset, .unset, .unset, .unset, .unset, .unset, .unset, .unset, .unset, .unset, .unset, .unset, .unset, .unset, .unset, .unset] []) (fun _ _ A k => XS.ifNo A hx rfl (hb hby at_34) rfl ((if0 _ _).trans (teq f4).2) k) ?_
            refine gs (mkF m 38 #[.val (.int x0), .val (.int x1), .val (.int x2), .val (.int x3), .val (.int fl1), .val (.int fl2), .unset, .unset, .unset, .unset, .unset, .unset, .unset, .unset, .unset, .unset, .unset, .unset, .unset, .unset, .unset, .unset, .unset, .unset] [(.int (1 : Int32))]) (fun _ _ A k => XS.iconst A hx rfl (hb hby at_37) k) ?_
            refine gs (mkF m 42 #[.val (.int x0), .val (.int x1), .val (.int x2), .val (.int x3), .val (.int fl1), .val (.int fl2), .unset, .unset, .unset, .unset, .unset, .unset, .unset, .unset, .unset, .unset, .unset, .unset, .unset, .unset, .unset, .unset, .unset, .unset] [(.int (1 : Int32))]) (fun _ _ A k => XS.goto A hx rfl (pc0 := 38) (pc' := 42) rfl (hb hby at_38) (by decide) (by decide) k) ?_
            refine ginfo fun _ Hq _ => ?_
            exact gmono (by decide) (by decide) (J3 _ _ _ ⟨(1 : Int32), rfl, (Keep.refl h2 []), (CHr.refl Hq), (by first | assumption | rfl | decide | exact Or.inl rfl | exact Or.inr (by assumption) | omega), (by first | assumption | rfl | decide | exact Or.inl rfl | exact Or.inr (by assumption) | omega)⟩)
          · refine gs (mkF m 41 #[.val (.int x0), .val (.int x1), .val (.int x2), .val (.int x3), .val (.int fl1), .val (.int fl2), .unset, .unset, .unset, .unset, .unset, .unset, .unset, .unset, .unset, .unset, .unset, .unset, .unset, .unset, .unset, .unset, .unset, .unset] []) (fun _ _ A k => XS.ifYes A hx rfl (pc0 := 34) (pc' := 41) rfl (hb hby at_34) rfl ((if0 _ _).trans (feq f4).2) (by decide) (by decide) k) ?_
            refine gs (mkF m 42 #[.val (.int x0), .val (.int x1), .val (.int x2), .val (.int x3), .val (.int fl1), .val (.int fl2), .unset, .unset, .unset, .unset, .unset, .unset, .unset, .unset, .unset, .unset, .unset, .unset, .unset, .unset, .unset, .unset, .unset, .unset] [(.int (0 : Int32))]) (fun _ _ A k => XS.iconst A hx rfl (hb hby at_41) k) ?_
            refine ginfo fun _ Hq _ => ?_
            exact gmono (by decide) (by decide) (J3 _ _ _ ⟨(0 : Int32), rfl, (Keep.refl h2 []), (CHr.refl Hq), (by first | assumption | rfl | decide | exact Or.inl rfl | exact Or.inr (by assumption) | omega), (by first | assumption | rfl | decide | exact Or.inl rfl | exact Or.inr (by assumption) | omega)⟩)
    · intro J2
      by_cases f2 : (x0 &&& (2 : Int32)) = (0 : Int32)
      · refine gs (mkF m 23 #[.val (.int x0), .val (.int x1), .val (.int x2), .val (.int x3), .val (.int fl1), .unset, .unset, .unset, .unset, .unset, .unset, .unset, .unset, .unset, .unset, .unset, .unset, .unset, .unset, .unset, .unset, .unset, .unset, .unset] []) (fun _ _ A k => XS.ifYes A hx rfl (pc0 := 16) (pc' := 23) rfl (hb hby at_16) rfl ((if0 _ _).trans (teq f2).1) (by decide) (by decide) k) ?_
        refine gs (mkF m 24 #[.val (.int x0), .val (.int x1), .val (.int x2), .val (.int x3), .val (.int fl1), .unset, .unset, .unset, .unset, .unset, .unset, .unset, .unset, .unset, .unset, .unset, .unset, .unset, .unset, .unset, .unset, .unset, .unset, .unset] [(.int (0 : Int32))]) (fun _ _ A k => XS.iconst A hx rfl (hb hby at_23) k) ?_
        refine ginfo fun _ Hq _ => ?_
        exact gmono (by decide) (by decide) (J2 _ _ _ ⟨(0 : Int32), rfl, (Keep.refl h1 []), (CHr.refl Hq), (by first | assumption | rfl | decide | exact Or.inl rfl | exact Or.inr (by assumption) | omega)⟩)
      · refine gs (mkF m 19 #[.val (.int x0), .val (.int x1), .val (.int x2), .val (.int x3), .val (.int fl1), .unset, .unset, .unset, .unset, .unset, .unset, .unset, .unset, .unset, .unset, .unset, .unset, .unset, .unset, .unset, .unset, .unset, .unset, .unset] []) (fun _ _ A k => XS.ifNo A hx rfl (hb hby at_16) rfl ((if0 _ _).trans (feq f2).1) k) ?_
        refine gs (mkF m 20 #[.val (.int x0), .val (.int x1), .val (.int x2), .val (.int x3), .val (.int fl1), .unset, .unset, .unset, .unset, .unset, .unset, .unset, .unset, .unset, .unset, .unset, .unset, .unset, .unset, .unset, .unset, .unset, .unset, .unset] [(.int (1 : Int32))]) (fun _ _ A k => XS.iconst A hx rfl (hb hby at_19) k) ?_
        refine gs (mkF m 24 #[.val (.int x0), .val (.int x1), .val (.int x2), .val (.int x3), .val (.int fl1), .unset, .unset, .unset, .unset, .unset, .unset, .unset, .unset, .unset, .unset, .unset, .unset, .unset, .unset, .unset, .unset, .unset, .unset, .unset] [(.int (1 : Int32))]) (fun _ _ A k => XS.goto A hx rfl (pc0 := 20) (pc' := 24) rfl (hb hby at_20) (by decide) (by decide) k) ?_
        refine ginfo fun _ Hq _ => ?_
        exact gmono (by decide) (by decide) (J2 _ _ _ ⟨(1 : Int32), rfl, (Keep.refl h1 []), (CHr.refl Hq), (by first | assumption | rfl | decide | exact Or.inl rfl | exact Or.inr (by assumption) | omega)⟩)
  · intro J1
    by_cases f1 : (x0 &&& (1 : Int32)) = (0 : Int32)
    · refine gs (mkF m 10 #[.val (.int x0), .val (.int x1), .val (.int x2), .val (.int x3), .unset, .unset, .unset, .unset, .unset, .unset, .unset, .unset, .unset, .unset, .unset, .unset, .unset, .unset, .unset, .unset, .unset, .unset, .unset, .unset] []) (fun _ _ A k => XS.ifYes A hx rfl (pc0 := 3) (pc' := 10) rfl (hb hby at_3) rfl ((if0 _ _).trans (teq f1).1) (by decide) (by decide) k) ?_
      refine gs (mkF m 11 #[.val (.int x0), .val (.int x1), .val (.int x2), .val (.int x3), .unset, .unset, .unset, .unset, .unset, .unset, .unset, .unset, .unset, .unset, .unset, .unset, .unset, .unset, .unset, .unset, .unset, .unset, .unset, .unset] [(.int (0 : Int32))]) (fun _ _ A k => XS.iconst A hx rfl (hb hby at_10) k) ?_
      refine ginfo fun _ Hq _ => ?_
      exact gmono (by decide) (by decide) (J1 _ _ _ ⟨(0 : Int32), rfl, (Keep.refl h0 []), (CHr.refl Hq), (by first | assumption | rfl | decide | exact Or.inl rfl | exact Or.inr (by assumption) | omega)⟩)
    · refine gs (mkF m 6 #[.val (.int x0), .val (.int x1), .val (.int x2), .val (.int x3), .unset, .unset, .unset, .unset, .unset, .unset, .unset, .unset, .unset, .unset, .unset, .unset, .unset, .unset, .unset, .unset, .unset, .unset, .unset, .unset] []) (fun _ _ A k => XS.ifNo A hx rfl (hb hby at_3) rfl ((if0 _ _).trans (feq f1).1) k) ?_
      refine gs (mkF m 7 #[.val (.int x0), .val (.int x1), .val (.int x2), .val (.int x3), .unset, .unset, .unset, .unset, .unset, .unset, .unset, .unset, .unset, .unset, .unset, .unset, .unset, .unset, .unset, .unset, .unset, .unset, .unset, .unset] [(.int (1 : Int32))]) (fun _ _ A k => XS.iconst A hx rfl (hb hby at_6) k) ?_
      refine gs (mkF m 11 #[.val (.int x0), .val (.int x1), .val (.int x2), .val (.int x3), .unset, .unset, .unset, .unset, .unset, .unset, .unset, .unset, .unset, .unset, .unset, .unset, .unset, .unset, .unset, .unset, .unset, .unset, .unset, .unset] [(.int (1 : Int32))]) (fun _ _ A k => XS.goto A hx rfl (pc0 := 7) (pc' := 11) rfl (hb hby at_7) (by decide) (by decide) k) ?_
      refine ginfo fun _ Hq _ => ?_
      exact gmono (by decide) (by decide) (J1 _ _ _ ⟨(1 : Int32), rfl, (Keep.refl h0 []), (CHr.refl Hq), (by first | assumption | rfl | decide | exact Or.inl rfl | exact Or.inr (by assumption) | omega)⟩)
set_option maxRecDepth 65536 in
set_option maxHeartbeats 40000000 in
theorem comes_1 {Post : Tables → Env → Array Value → State → Outcome → State → Prop} (hpost : ∀ tb e args s v u, (limb_1_1.after args s (.returned v) u = true ∧ limb_1_2.after args s (.returned v) u = true ∧ True) → ReturnedEndW s (.returned v) u (Jvm.fieldLocs frame_1_writes args s ++ Jvm.arrayLocs frame_1_arrays args s ++ Jvm.staticLocs frame_1_statics s) 56 7360 → Post tb e args s (.returned v) u) :
    ArmFor flags0 classFile x code maxLocals ret World_1 tables_1 room_1 Calls_1 rest_1 Pre_1 Post := by
  intro l hfl _ _ p e ha hc hk s m args below hf hA hF happ hP
  obtain ⟨hcalls, hrest, hpre⟩ := hP
  obtain ⟨-, -, -, hnamed, -, -, -, hat⟩ := (Spec.applies_iff hf).mp happ
  obtain ⟨hg, hn⟩ := and_e (Cond.before_iff.mp (show (Jvm.Cond.and given_1 narrow_1).before args s = true from hpre))
  obtain ⟨gc, g0⟩ := and_e hg
  obtain ⟨ga0, g1⟩ := and_e g0
  obtain ⟨ga1, g2⟩ := and_e g1
  obtain ⟨ga2, g3⟩ := and_e g2
  have ga3 := g3
  obtain ⟨w0, w1, w2, w3, rfl⟩ : ∃ w0 w1 w2 w3 : Value, args = #[w0, w1, w2, w3] := by
    have hs : args.size = 4 := by simpa [Cond.value, given_1] using gc
    obtain ⟨L⟩ := args
    match L, hs with
    | [w0, w1, w2, w3], _ => exact ⟨w0, w1, w2, w3, rfl⟩
  have hw := fun d (hd : d ∈ tables_1) => atoms_spec (ws := Jvm.Cond.code x code maxLocals ret :: tables_1) hat d (List.mem_cons_of_mem _ hd)
  have hfit : Fit s := fun {y c} hc i hi => by
    obtain ⟨ha, rfl⟩ := Array.getElem?_eq_some_iff.mp hc
    have q := List.all_eq_true.mp ((Array.all_eq_true_iff_forall_mem.mp hF) _ (Array.getElem_mem ha)) i (List.mem_range.mpr hi)
    simpa [Array.getElem?_eq_getElem hi] using q
  obtain ⟨hsets, hown0⟩ := atoms_of _ (rest_1_c_eq ▸ (show rest_1_c.before _ s = true from hrest))
  obtain ⟨i0, ei0⟩ := is_v ga0
  obtain rfl : w0 = (.int i0) := Option.some.inj ei0
  obtain ⟨i1, ei1⟩ := is_v ga1
  obtain rfl : w1 = (.int i1) := Option.some.inj ei1
  obtain ⟨i2, ei2⟩ := is_v ga2
  obtain rfl : w2 = (.int i2) := Option.some.inj ei2
  obtain ⟨i3, ei3⟩ := is_v ga3
  obtain rfl : w3 = (.int i3) := Option.some.inj ei3
  obtain ⟨zc, eG⟩ := is_v (Cond.before_iff.mp (hsets _ (List.mem_of_getElem? (i := 1) rfl)))
  have Scs := Sta.start eG (Or.inl (hsets _ (List.mem_of_getElem? (i := 0) rfl)))
  have hcw := hsets _ (List.mem_of_getElem? (i := 2) rfl)
  have hzc : ¬ zc = 0 := by
    have q := not_v (Cond.before_iff.mp hcw)
    intro z
    have q2 := eq_i (x := .int zc) (y := .int 0) eG (Term.int_eval (0)) (by rw [z])
    rw [q2] at q; cases q
  obtain ⟨fm, eF, hfm⟩ := isR_v (Cond.before_iff.mp (hsets _ (List.mem_of_getElem? (i := 8) rfl)))
  have Sfm := Sta.start eF (Or.inl (hsets _ (List.mem_of_getElem? (i := 7) rfl)))
  have hEL : EW s _ consts_1 := (EW.cons (ow hw 46 rfl) (by decide +kernel) (EW.cons (ow hw 53 rfl) (by decide +kernel) (EW.cons (ow hw 110 rfl) (by decide +kernel) (EW.cons (ow hw 112 rfl) (by decide +kernel) (EW.cons (ow hw 79 rfl) (by decide +kernel) (EW.cons (ow hw 81 rfl) (by decide +kernel) (EW.cons (ow hw 125 rfl) (by decide +kernel) EW.nil)))))))
  have hCH : CHv s consts_1 s.vm s.heap := CHv.start hEL (fun p hp => hcalls.1 p hp) hcw (ow hw 22 rfl) (ow hw 18 rfl)
  obtain ⟨n0, m0⟩ := and_e hn
  obtain ⟨kDATE, ekDATE⟩ := exa_v n0
  have SDATE := Sta.start ekDATE (Or.inr ⟨ow hw 6 rfl, ow hw 7 rfl⟩)
  obtain ⟨n1, m1⟩ := and_e m0
  obtain ⟨kCOMPUTED, ekCOMPUTED⟩ := exa_v n1
  have SCOMPUTED := Sta.start ekCOMPUTED (Or.inr ⟨ow hw 6 rfl, ow hw 102 rfl⟩)
  obtain ⟨n2, m2⟩ := and_e m1
  obtain ⟨kTEXT, ekTEXT⟩ := exa_v n2
  have STEXT := Sta.start ekTEXT (Or.inr ⟨ow hw 6 rfl, ow hw 127 rfl⟩)
  obtain ⟨n3, m3⟩ := and_e m2
  obtain ⟨kNUMBER, ekNUMBER⟩ := exa_v n3
  have SNUMBER := Sta.start ekNUMBER (Or.inr ⟨ow hw 6 rfl, ow hw 129 rfl⟩)
  obtain ⟨kBOOLEAN, ekBOOLEAN⟩ := exa_v m3
  have SBOOLEAN := Sta.start ekBOOLEAN (Or.inr ⟨ow hw 6 rfl, ow hw 131 rfl⟩)
  skip
  skip
  skip
  skip
  have cx : Ctx s _ := ⟨hw, hEL, ⟨zc, Scs, hzc⟩, ⟨fm, Sfm, hfm⟩, ⟨kDATE, SDATE⟩, ⟨kCOMPUTED, SCOMPUTED⟩, ⟨kTEXT, STEXT⟩, ⟨kNUMBER, SNUMBER⟩, ⟨kBOOLEAN, SBOOLEAN⟩⟩
  obtain ⟨n, o, h1, h2, h3, _, L, rfl, ⟨N, ⟨rfl, -⟩⟩, -, hq⟩ := own_law l s _ cx tables_1 i0 i1 i2 i3 s.vm s.heap ⟨Nat.le_refl _, fun _ _ q => q⟩ p e ha hc hk s m _ below hf ((Spec.applies_iff_loose hf).mp happ).1 ⟨rfl, State.Warmed39.refl s, rfl, CHr.refl hCH⟩ trivial
  refine ⟨n, _, h1, h2, h3, hpost _ _ _ _ _ _ ⟨Cond.after_iff.mpr rfl, Cond.after_iff.mpr (eq_i res_at (Term.int_eval (1)) rfl), trivial⟩ ⟨hq.1, hq.2.1, hq.2.2.1, (hq.2.2.2.sift fun y hy => Or.inr (N y hy)).mono (by decide) (by decide)⟩⟩
theorem main_1_1 : Claimed_1_1 := comes_1 fun _ _ _ _ _ _ h hF => ⟨h.1, hF⟩
theorem main_1_2 : Claimed_1_2 := comes_1 fun _ _ _ _ _ _ h hF => ⟨h.2.1, hF⟩
end Jvm.Pilot.@@N@@
namespace Jvm.Pilot.@@N@@
open Jvm Jvm.ClassFile Sem Op Lib Jvm.Free Jvm.Stand Jvm.Pilot.@@N@@.Jvm.D
/-! MADE BY PROGRAM (witnessworld.py) out of the Statement's table words and the real class files: 25 classes; the members and pool entries that the words name. The judged class is class 1, her method 2. -/
namespace start1
open Jvm.ClassFile
def u (s : String) : CpInfo := .utf8 (stringToUtf16 s)
/-- a pool by its gaps: so many unusable entries, then the entry; so many at the end -/
def gap : Nat → List CpInfo → List CpInfo
  | 0, r => r
  | n + 1, r => .unusable :: gap n r
def poolList (es : List (Nat × CpInfo)) (last : Nat) : List CpInfo := es.foldr (fun e r => gap e.1 (e.2 :: r)) (gap last [])
def pool (es : List (Nat × CpInfo)) (last : Nat) : Array CpInfo := ⟨poolList es last⟩
def fileOf (pool : Array CpInfo) (this : Nat) (attrs : Array Attribute := #[]) (ms : Array MethodInfo := #[]) (fl : Nat := 33) (sup : Nat := 0) (ifs : Array Nat := #[]) (fds : Array FieldInfo := #[]) : ClassFile where
  minorVersion := 0
  majorVersion := 65
  constantPool := pool
  accessFlags := fl
  thisClass := this
  superClass := sup
  interfaces := ifs
  fields := fds
  methods := ms
  attributes := attrs
def plain (name : String) (sup : Option ClassId) : Class where
  name := name
  kind := .ordinary
  loader := none
  accessFlags := 33
  super := sup
  interfaces := #[]
  cf := none
  fields := #[]
  methods := #[]
  instanceTypes := #[]
  staticTypes := #[]
  resolved := #[]
  callSites := []
  init := .initialized
  statics := none
  mirror := none

def pool0 : Array CpInfo := pool [(5, u "<init>"), (0, u "()V"), (1, .class_ 10), (1, u "java/lang/Object")] 113

def k0c0 : Code := { maxStack := 0, maxLocals := 1, code := object_method_1_code, exceptionTable := #[], attributes := #[] }
def k0m0 : Method := { name := "<init>", desc := "()V", sig := { parameters := [], returnType := none }, accessFlags := 1, code := some k0c0 }
/-- java/lang/Object -/
def k0 : Class := { plain "java/lang/Object" none with
  accessFlags := 33
  interfaces := #[]
  cf := some (fileOf pool0 8 #[] #[{ accessFlags := 1, nameIndex := 5, descriptorIndex := 6, attributes := #[] }] 33 0 #[] #[])
  fields := #[]
  methods := #[k0m0]
  instanceTypes := #[]
  staticTypes := #[]
  resolved := Array.replicate 124 none
  statics := none }

def pool1 : Array CpInfo := pool [(2, .class_ 4), (1, u "java/lang/Object"), (0, u "<init>"), (0, u "()V"), (0, .integer 2147483647), (0, .fieldref 9 10), (0, .class_ 11), (0, .nameAndType 12 13), (0, u "com/example/backfill/backfill/migration/ColumnValue$Kind"), (0, u "TEXT"), (0, u "Lcom/example/backfill/backfill/migration/ColumnValue$Kind;"), (0, .fieldref 9 15), (0, .nameAndType 16 13), (0, u "NUMBER"), (0, .fieldref 9 18), (0, .nameAndType 19 13), (0, u "BOOLEAN"), (0, .fieldref 9 21), (0, .nameAndType 22 13), (0, u "DATE"), (0, .fieldref 9 24), (0, .nameAndType 25 13), (0, u "COMPUTED"), (0, .methodref 27 28), (0, .class_ 29), (0, .nameAndType 30 31), (0, u "com/example/backfill/backfill/migration/NewColumnNotNullAtCompletePinLaw"), (0, u "kindOf"), (0, u "(I)Lcom/example/backfill/backfill/migration/ColumnValue$Kind;"), (0, .class_ 33), (0, u "java/lang/String"), (0, .methodref 32 35), (0, .nameAndType 5 36), (0, u "([C)V"), (0, .methodref 32 38), (0, .nameAndType 39 40), (0, u "valueOf"), (0, u "(C)Ljava/lang/String;"), (0, .class_ 42), (0, u "com/example/backfill/backfill/migration/ColumnValue"), (0, .methodref 41 44), (0, .nameAndType 5 45), (0, u "(Lcom/example/backfill/backfill/migration/ColumnValue$Kind;Ljava/lang/String;)V"), (0, .class_ 47), (0, u "com/example/backfill/backfill/migration/ColumnDefinition"), (0, .methodref 46 49), (0, .nameAndType 5 50), (0, u "(Ljava/lang/String;Ljava/lang/String;Lcom/example/backfill/backfill/migration/ColumnValue;ZZZZLjava/lang/String;Lcom/example/backfill/backfill/migration/ColumnValue;)V"), (0, .class_ 52), (0, u "com/example/backfill/backfill/migration/NewColumn"), (0, .methodref 51 54), (0, .nameAndType 5 55), (0, u "(Ljava/lang/String;Lcom/example/backfill/backfill/migration/ColumnDefinition;)V"), (0, .methodref 51 57), (0, .nameAndType 58 59), (0, u "notNullAtComplete"), (0, u "()Z"), (3, u "law"), (0, u "(IIII)Z")] 4

def k1m0 : Method := { name := "<init>", desc := "()V", sig := { parameters := [], returnType := none }, accessFlags := 1, code := none }
def k1c1 : Code := { maxStack := 2, maxLocals := 2, code := method_2_code, exceptionTable := #[], attributes := #[] }
def k1m1 : Method := { name := "kindOf", desc := "(I)Lcom/example/backfill/backfill/migration/ColumnValue$Kind;", sig := { parameters := [.int], returnType := some (.object "com/example/backfill/backfill/migration/ColumnValue$Kind") }, accessFlags := 10, code := some k1c1 }
def k1c2 : Code := { maxStack := 11, maxLocals := 24, code := code, exceptionTable := #[], attributes := #[] }
def k1m2 : Method := { name := "law", desc := "(IIII)Z", sig := { parameters := [.int, .int, .int, .int], returnType := some .boolean }, accessFlags := 9, code := some k1c2 }
/-- com/example/backfill/backfill/migration/NewColumnNotNullAtCompletePinLaw -/
def k1 : Class := { plain "com/example/backfill/backfill/migration/NewColumnNotNullAtCompletePinLaw" (some 0) with
  accessFlags := 49
  interfaces := #[]
  cf := some (fileOf pool1 27 #[] #[{ accessFlags := 1, nameIndex := 5, descriptorIndex := 6, attributes := #[] }, { accessFlags := 10, nameIndex := 30, descriptorIndex := 31, attributes := #[] }, { accessFlags := 9, nameIndex := 63, descriptorIndex := 64, attributes := #[] }] 49 2 #[] #[])
  fields := #[]
  methods := #[k1m0, k1m1, k1m2]
  instanceTypes := #[]
  staticTypes := #[]
  resolved := Array.replicate 69 none
  statics := none }

def pool2 : Array CpInfo := pool [(1, .class_ 2), (0, u "java/lang/constant/Constable"), (0, .class_ 4), (0, u "java/lang/Object")] 6

/-- java/lang/constant/Constable -/
def k2 : Class := { plain "java/lang/constant/Constable" (some 0) with
  accessFlags := 1537
  interfaces := #[]
  cf := some (fileOf pool2 1 #[] #[] 1537 3 #[] #[])
  fields := #[]
  methods := #[]
  instanceTypes := #[]
  staticTypes := #[]
  resolved := Array.replicate 11 none
  statics := none }

def pool3 : Array CpInfo := pool [(1, .class_ 2), (0, u "java/lang/Comparable"), (0, .class_ 4), (0, u "java/lang/Object")] 7

/-- java/lang/Comparable -/
def k3 : Class := { plain "java/lang/Comparable" (some 0) with
  accessFlags := 1537
  interfaces := #[]
  cf := some (fileOf pool3 1 #[] #[] 1537 3 #[] #[])
  fields := #[]
  methods := #[]
  instanceTypes := #[]
  staticTypes := #[]
  resolved := Array.replicate 12 none
  statics := none }

def pool4 : Array CpInfo := pool [(1, .class_ 2), (0, u "java/io/Serializable"), (0, .class_ 4), (0, u "java/lang/Object")] 2

/-- java/io/Serializable -/
def k4 : Class := { plain "java/io/Serializable" (some 0) with
  accessFlags := 1537
  interfaces := #[]
  cf := some (fileOf pool4 1 #[] #[] 1537 3 #[] #[])
  fields := #[]
  methods := #[]
  instanceTypes := #[]
  staticTypes := #[]
  resolved := Array.replicate 7 none
  statics := none }

def pool5 : Array CpInfo := pool [(2, .class_ 4), (1, u "java/lang/Enum"), (0, u "name"), (0, u "Ljava/lang/String;"), (2, u "ordinal"), (0, u "I"), (1, .class_ 14), (1, u "java/lang/Object"), (4, u "hash"), (86, .class_ 108), (1, u "java/lang/Enum$EnumDesc"), (2, .class_ 112), (0, u "java/lang/constant/Constable"), (0, .class_ 114), (0, u "java/lang/Comparable"), (0, .class_ 116), (0, u "java/io/Serializable")] 87

/-- java/lang/Enum -/
def k5 : Class := { plain "java/lang/Enum" (some 0) with
  accessFlags := 1057
  interfaces := #[2, 3, 4]
  cf := some (fileOf pool5 2 #[.nestMembers #[106]] #[] 1057 12 #[111, 113, 115] #[{ accessFlags := 18, nameIndex := 5, descriptorIndex := 6, attributes := #[] }, { accessFlags := 18, nameIndex := 9, descriptorIndex := 10, attributes := #[] }, { accessFlags := 2, nameIndex := 19, descriptorIndex := 10, attributes := #[] }])
  fields := #[{ name := "name", type := (.object "java/lang/String"), accessFlags := 18, slot := 0, constantValue := 0 }, { name := "ordinal", type := .int, accessFlags := 18, slot := 1, constantValue := 0 }, { name := "hash", type := .int, accessFlags := 2, slot := 2, constantValue := 0 }]
  methods := #[]
  instanceTypes := #[(.object "java/lang/String"), .int, .int]
  staticTypes := #[]
  resolved := Array.replicate 204 none
  statics := none }

def pool6 : Array CpInfo := pool [(1, .class_ 2), (0, u "com/example/backfill/backfill/migration/ColumnValue$Kind"), (2, u "TEXT"), (0, u "Lcom/example/backfill/backfill/migration/ColumnValue$Kind;"), (2, u "NUMBER"), (2, u "BOOLEAN"), (2, u "DATE"), (2, u "COMPUTED"), (2, u "$VALUES"), (0, u "[Lcom/example/backfill/backfill/migration/ColumnValue$Kind;"), (6, .class_ 31), (1, u "java/lang/Enum"), (8, u "suffix"), (0, u "Ljava/lang/String;"), (35, .class_ 78), (0, u "com/example/backfill/backfill/migration/ColumnValue")] 2

/-- com/example/backfill/backfill/migration/ColumnValue$Kind -/
def k6 : Class := { plain "com/example/backfill/backfill/migration/ColumnValue$Kind" (some 5) with
  accessFlags := 16433
  interfaces := #[]
  cf := some (fileOf pool6 1 #[.nestHost 77] #[] 16433 29 #[] #[{ accessFlags := 16409, nameIndex := 5, descriptorIndex := 6, attributes := #[] }, { accessFlags := 16409, nameIndex := 9, descriptorIndex := 6, attributes := #[] }, { accessFlags := 16409, nameIndex := 12, descriptorIndex := 6, attributes := #[] }, { accessFlags := 16409, nameIndex := 15, descriptorIndex := 6, attributes := #[] }, { accessFlags := 16409, nameIndex := 18, descriptorIndex := 6, attributes := #[] }, { accessFlags := 18, nameIndex := 40, descriptorIndex := 41, attributes := #[] }, { accessFlags := 4122, nameIndex := 21, descriptorIndex := 22, attributes := #[] }])
  fields := #[{ name := "TEXT", type := (.object "com/example/backfill/backfill/migration/ColumnValue$Kind"), accessFlags := 16409, slot := 0, constantValue := 0 }, { name := "NUMBER", type := (.object "com/example/backfill/backfill/migration/ColumnValue$Kind"), accessFlags := 16409, slot := 1, constantValue := 0 }, { name := "BOOLEAN", type := (.object "com/example/backfill/backfill/migration/ColumnValue$Kind"), accessFlags := 16409, slot := 2, constantValue := 0 }, { name := "DATE", type := (.object "com/example/backfill/backfill/migration/ColumnValue$Kind"), accessFlags := 16409, slot := 3, constantValue := 0 }, { name := "COMPUTED", type := (.object "com/example/backfill/backfill/migration/ColumnValue$Kind"), accessFlags := 16409, slot := 4, constantValue := 0 }, { name := "suffix", type := (.object "java/lang/String"), accessFlags := 18, slot := 3, constantValue := 0 }, { name := "$VALUES", type := (.array (.object "com/example/backfill/backfill/migration/ColumnValue$Kind")), accessFlags := 4122, slot := 5, constantValue := 0 }]
  methods := #[]
  instanceTypes := #[(.object "java/lang/String"), .int, .int, (.object "java/lang/String")]
  staticTypes := #[(.object "com/example/backfill/backfill/migration/ColumnValue$Kind"), (.object "com/example/backfill/backfill/migration/ColumnValue$Kind"), (.object "com/example/backfill/backfill/migration/ColumnValue$Kind"), (.object "com/example/backfill/backfill/migration/ColumnValue$Kind"), (.object "com/example/backfill/backfill/migration/ColumnValue$Kind"), (.array (.object "com/example/backfill/backfill/migration/ColumnValue$Kind"))]
  resolved := Array.replicate 81 none
  statics := some 0 }

def pool7 : Array CpInfo := pool [(2, .class_ 4), (1, u "java/lang/CharSequence"), (42, .class_ 48), (0, u "java/lang/CharSequence$1CodePointIterator"), (10, .class_ 60), (0, u "java/lang/CharSequence$1CharIterator"), (5, .class_ 67), (0, u "java/lang/Object")] 63

/-- java/lang/CharSequence -/
def k7 : Class := { plain "java/lang/CharSequence" (some 0) with
  accessFlags := 1537
  interfaces := #[]
  cf := some (fileOf pool7 2 #[.nestMembers #[47, 59]] #[] 1537 66 #[] #[])
  fields := #[]
  methods := #[]
  instanceTypes := #[]
  staticTypes := #[]
  resolved := Array.replicate 131 none
  statics := none }

def pool8 : Array CpInfo := pool [(1, .class_ 2), (0, u "java/lang/constant/ConstantDesc"), (0, .class_ 4), (0, u "java/lang/Object")] 32

/-- java/lang/constant/ConstantDesc -/
def k8 : Class := { plain "java/lang/constant/ConstantDesc" (some 0) with
  accessFlags := 1537
  interfaces := #[]
  cf := some (fileOf pool8 1 #[] #[] 1537 3 #[] #[])
  fields := #[]
  methods := #[]
  instanceTypes := #[]
  staticTypes := #[]
  resolved := Array.replicate 37 none
  statics := none }

def pool9 : Array CpInfo := pool [(1, .methodref 2 3), (0, .class_ 4), (0, .nameAndType 5 6), (0, u "java/lang/Object"), (0, u "<init>"), (0, u "()V"), (0, .string 8), (0, u ""), (0, .fieldref 10 11), (0, .class_ 12), (0, .nameAndType 13 14), (0, u "java/lang/String"), (0, u "value"), (0, u "[B"), (0, .fieldref 10 16), (0, .nameAndType 17 18), (0, u "coder"), (0, u "B"), (2, u "hash"), (0, u "I"), (2, u "hashIsZero"), (0, u "Z"), (0, .methodref 10 28), (0, .nameAndType 5 29), (0, u "([CIILjava/lang/Void;)V"), (8, .fieldref 10 39), (0, .nameAndType 40 26), (0, u "COMPACT_STRINGS"), (12, u "toBytes"), (53, .class_ 109), (1, u "java/lang/StringLatin1"), (99, .methodref 10 210), (0, .nameAndType 5 211), (0, u "([BB)V"), (157, u "(C)Z"), (205, .class_ 576), (0, u "java/lang/CharSequence"), (22, u "CASE_INSENSITIVE_ORDER"), (0, u "Ljava/util/Comparator;"), (181, u "valueOf"), (0, u "(C)Ljava/lang/String;"), (226, u "([C)V"), (4, .methodref 107 1016), (0, .nameAndType 1017 369), (0, u "canEncode"), (0, .methodref 107 1019), (0, .nameAndType 53 1020), (0, u "(C)[B"), (80, u "serialPersistentFields"), (0, u "[Ljava/io/ObjectStreamField;"), (0, .class_ 1104), (0, u "java/lang/String$CaseInsensitiveComparator"), (1, .class_ 1107), (0, u "java/io/Serializable"), (0, .class_ 1109), (0, u "java/lang/Comparable"), (0, .class_ 1111), (0, u "java/lang/constant/Constable"), (0, .class_ 1113), (0, u "java/lang/constant/ConstantDesc"), (2, u "serialVersionUID"), (0, u "J"), (3, u "REPL"), (0, u "C"), (2, u "LATIN1"), (1, u "UTF16")] 323

def k9m0 : Method := { name := "<init>", desc := "()V", sig := { parameters := [], returnType := none }, accessFlags := 1, code := none }
def k9c1 : Code := { maxStack := 5, maxLocals := 2, code := jdk_42_method_3_code, exceptionTable := #[], attributes := #[] }
def k9m1 : Method := { name := "<init>", desc := "([C)V", sig := { parameters := [(.array .char)], returnType := none }, accessFlags := 1, code := some k9c1 }
def k9c2 : Code := { maxStack := 4, maxLocals := 1, code := jdk_42_method_139_code, exceptionTable := #[], attributes := #[] }
def k9m2 : Method := { name := "valueOf", desc := "(C)Ljava/lang/String;", sig := { parameters := [.char], returnType := some (.object "java/lang/String") }, accessFlags := 9, code := some k9c2 }
def k9c3 : Code := { maxStack := 4, maxLocals := 6, code := jdk_42_method_149_code, exceptionTable := #[], attributes := #[] }
def k9m3 : Method := { name := "<init>", desc := "([CIILjava/lang/Void;)V", sig := { parameters := [(.array .char), .int, .int, (.object "java/lang/Void")], returnType := none }, accessFlags := 2, code := some k9c3 }
def k9c4 : Code := { maxStack := 2, maxLocals := 3, code := jdk_42_method_151_code, exceptionTable := #[], attributes := #[] }
def k9m4 : Method := { name := "<init>", desc := "([BB)V", sig := { parameters := [(.array .byte), .byte], returnType := none }, accessFlags := 0, code := some k9c4 }
/-- java/lang/String -/
def k9 : Class := { plain "java/lang/String" (some 0) with
  accessFlags := 49
  interfaces := #[4, 3, 7, 2, 8]
  cf := some (fileOf pool9 10 #[.nestMembers #[1103]] #[{ accessFlags := 1, nameIndex := 5, descriptorIndex := 6, attributes := #[] }, { accessFlags := 1, nameIndex := 5, descriptorIndex := 1010, attributes := #[] }, { accessFlags := 9, nameIndex := 782, descriptorIndex := 783, attributes := #[] }, { accessFlags := 2, nameIndex := 5, descriptorIndex := 29, attributes := #[] }, { accessFlags := 0, nameIndex := 5, descriptorIndex := 211, attributes := #[] }] 49 2 #[1106, 1108, 575, 1110, 1112] #[{ accessFlags := 18, nameIndex := 13, descriptorIndex := 14, attributes := #[] }, { accessFlags := 18, nameIndex := 17, descriptorIndex := 18, attributes := #[] }, { accessFlags := 2, nameIndex := 21, descriptorIndex := 22, attributes := #[] }, { accessFlags := 2, nameIndex := 25, descriptorIndex := 26, attributes := #[] }, { accessFlags := 26, nameIndex := 1116, descriptorIndex := 1117, attributes := #[] }, { accessFlags := 24, nameIndex := 40, descriptorIndex := 26, attributes := #[] }, { accessFlags := 26, nameIndex := 1101, descriptorIndex := 1102, attributes := #[] }, { accessFlags := 26, nameIndex := 1121, descriptorIndex := 1122, attributes := #[] }, { accessFlags := 25, nameIndex := 599, descriptorIndex := 600, attributes := #[] }, { accessFlags := 24, nameIndex := 1125, descriptorIndex := 18, attributes := #[] }, { accessFlags := 24, nameIndex := 1127, descriptorIndex := 18, attributes := #[] }])
  fields := #[{ name := "value", type := (.array .byte), accessFlags := 18, slot := 0, constantValue := 0 }, { name := "coder", type := .byte, accessFlags := 18, slot := 1, constantValue := 0 }, { name := "hash", type := .int, accessFlags := 2, slot := 2, constantValue := 0 }, { name := "hashIsZero", type := .boolean, accessFlags := 2, slot := 3, constantValue := 0 }, { name := "serialVersionUID", type := .long, accessFlags := 26, slot := 0, constantValue := 0 }, { name := "COMPACT_STRINGS", type := .boolean, accessFlags := 24, slot := 1, constantValue := 0 }, { name := "serialPersistentFields", type := (.array (.object "java/io/ObjectStreamField")), accessFlags := 26, slot := 2, constantValue := 0 }, { name := "REPL", type := .char, accessFlags := 26, slot := 3, constantValue := 0 }, { name := "CASE_INSENSITIVE_ORDER", type := (.object "java/util/Comparator"), accessFlags := 25, slot := 4, constantValue := 0 }, { name := "LATIN1", type := .byte, accessFlags := 24, slot := 5, constantValue := 0 }, { name := "UTF16", type := .byte, accessFlags := 24, slot := 6, constantValue := 0 }]
  methods := #[k9m0, k9m1, k9m2, k9m3, k9m4]
  instanceTypes := #[(.array .byte), .byte, .int, .boolean]
  staticTypes := #[.long, .boolean, (.array (.object "java/io/ObjectStreamField")), .char, (.object "java/util/Comparator"), .byte, .byte]
  resolved := Array.replicate 1451 none
  statics := some 1 }

def pool10 : Array CpInfo := pool [(4, .class_ 6), (1, u "java/lang/Object"), (0, u "<init>"), (0, u "()V"), (5, .class_ 16), (1, u "java/lang/StringLatin1"), (73, u "canEncode"), (14, u "(C)Z"), (15, u "$assertionsDisabled"), (0, u "Z"), (98, .class_ 223), (1, u "java/lang/StringLatin1$LinesSpliterator"), (156, u "toBytes"), (1, u "(C)[B"), (7, .class_ 391), (0, u "java/lang/StringLatin1$CharsSpliterator")] 3

def k10m0 : Method := { name := "<init>", desc := "()V", sig := { parameters := [], returnType := none }, accessFlags := 0, code := none }
def k10c1 : Code := { maxStack := 2, maxLocals := 1, code := jdk_43_method_3_code, exceptionTable := #[], attributes := #[] }
def k10m1 : Method := { name := "canEncode", desc := "(C)Z", sig := { parameters := [.char], returnType := some .boolean }, accessFlags := 9, code := some k10c1 }
def k10c2 : Code := { maxStack := 4, maxLocals := 1, code := jdk_43_method_46_code, exceptionTable := #[], attributes := #[] }
def k10m2 : Method := { name := "toBytes", desc := "(C)[B", sig := { parameters := [.char], returnType := some (.array .byte) }, accessFlags := 9, code := some k10c2 }
/-- java/lang/StringLatin1 -/
def k10 : Class := { plain "java/lang/StringLatin1" (some 0) with
  accessFlags := 48
  interfaces := #[]
  cf := some (fileOf pool10 14 #[.nestMembers #[390, 221]] #[{ accessFlags := 0, nameIndex := 7, descriptorIndex := 8, attributes := #[] }, { accessFlags := 9, nameIndex := 90, descriptorIndex := 105, attributes := #[] }, { accessFlags := 9, nameIndex := 380, descriptorIndex := 382, attributes := #[] }] 48 4 #[] #[{ accessFlags := 4120, nameIndex := 121, descriptorIndex := 122, attributes := #[] }])
  fields := #[{ name := "$assertionsDisabled", type := .boolean, accessFlags := 4120, slot := 0, constantValue := 0 }]
  methods := #[k10m0, k10m1, k10m2]
  instanceTypes := #[]
  staticTypes := #[.boolean]
  resolved := Array.replicate 395 none
  statics := none }

def pool11 : Array CpInfo := pool [(1, .methodref 2 3), (0, .class_ 4), (0, .nameAndType 5 6), (0, u "java/lang/Object"), (0, u "<init>"), (0, u "()V"), (0, .class_ 8), (0, u "java/lang/Record")] 13

def k11c0 : Code := { maxStack := 1, maxLocals := 1, code := jdk_30_method_1_code, exceptionTable := #[], attributes := #[] }
def k11m0 : Method := { name := "<init>", desc := "()V", sig := { parameters := [], returnType := none }, accessFlags := 4, code := some k11c0 }
/-- java/lang/Record -/
def k11 : Class := { plain "java/lang/Record" (some 0) with
  accessFlags := 1057
  interfaces := #[]
  cf := some (fileOf pool11 7 #[] #[{ accessFlags := 4, nameIndex := 5, descriptorIndex := 6, attributes := #[] }] 1057 2 #[] #[])
  fields := #[]
  methods := #[k11m0]
  instanceTypes := #[]
  staticTypes := #[]
  resolved := Array.replicate 22 none
  statics := none }

def pool12 : Array CpInfo := pool [(1, .methodref 2 3), (0, .class_ 4), (0, .nameAndType 5 6), (0, u "java/lang/Record"), (0, u "<init>"), (0, u "()V"), (0, .string 8), (0, u "name"), (0, .methodref 10 11), (0, .class_ 12), (0, .nameAndType 13 14), (0, u "java/util/Objects"), (0, u "requireNonNull"), (0, u "(Ljava/lang/Object;Ljava/lang/String;)Ljava/lang/Object;"), (0, .string 16), (0, u "type"), (9, .fieldref 27 28), (0, .class_ 29), (0, .nameAndType 8 30), (0, u "com/example/backfill/backfill/migration/ColumnDefinition"), (0, u "Ljava/lang/String;"), (0, .fieldref 27 32), (0, .nameAndType 16 30), (0, .fieldref 27 34), (0, .nameAndType 35 36), (0, u "defaultValue"), (0, u "Lcom/example/backfill/backfill/migration/ColumnValue;"), (0, .fieldref 27 38), (0, .nameAndType 39 40), (0, u "nullable"), (0, u "Z"), (0, .fieldref 27 42), (0, .nameAndType 43 40), (0, u "primaryKey"), (0, .fieldref 27 45), (0, .nameAndType 46 40), (0, u "autoIncrement"), (0, .fieldref 27 48), (0, .nameAndType 49 40), (0, u "unique"), (0, .fieldref 27 51), (0, .nameAndType 52 30), (0, u "remarks"), (0, .fieldref 27 54), (0, .nameAndType 55 36), (0, u "value"), (2, u "(Ljava/lang/String;Ljava/lang/String;Lcom/example/backfill/backfill/migration/ColumnValue;ZZZZLjava/lang/String;Lcom/example/backfill/backfill/migration/ColumnValue;)V"), (5, u "ATTRIBUTES"), (0, u "Ljava/util/Set;"), (2, u "ADDED_ATTRIBUTES"), (19, u "()Z"), (6, u "CONSTRAINT_ATTRIBUTES"), (87, u "COLUMN"), (3, u "NAME"), (0, u "TYPE"), (0, u "AUTO_INCREMENT"), (0, u "REMARKS"), (2, u "CONSTRAINTS"), (0, u "NULLABLE"), (0, u "PRIMARY_KEY"), (0, u "UNIQUE"), (12, u "()Lcom/example/backfill/backfill/migration/ColumnValue;")] 40

def k12c0 : Code := { maxStack := 3, maxLocals := 10, code := prog_28_method_1_code, exceptionTable := #[], attributes := #[] }
def k12m0 : Method := { name := "<init>", desc := "(Ljava/lang/String;Ljava/lang/String;Lcom/example/backfill/backfill/migration/ColumnValue;ZZZZLjava/lang/String;Lcom/example/backfill/backfill/migration/ColumnValue;)V", sig := { parameters := [(.object "java/lang/String"), (.object "java/lang/String"), (.object "com/example/backfill/backfill/migration/ColumnValue"), .boolean, .boolean, .boolean, .boolean, (.object "java/lang/String"), (.object "com/example/backfill/backfill/migration/ColumnValue")], returnType := none }, accessFlags := 1, code := some k12c0 }
def k12c1 : Code := { maxStack := 1, maxLocals := 1, code := prog_28_method_10_code, exceptionTable := #[], attributes := #[] }
def k12m1 : Method := { name := "defaultValue", desc := "()Lcom/example/backfill/backfill/migration/ColumnValue;", sig := { parameters := [], returnType := some (.object "com/example/backfill/backfill/migration/ColumnValue") }, accessFlags := 1, code := some k12c1 }
def k12c2 : Code := { maxStack := 1, maxLocals := 1, code := prog_28_method_11_code, exceptionTable := #[], attributes := #[] }
def k12m2 : Method := { name := "nullable", desc := "()Z", sig := { parameters := [], returnType := some .boolean }, accessFlags := 1, code := some k12c2 }
/-- com/example/backfill/backfill/migration/ColumnDefinition -/
def k12 : Class := { plain "com/example/backfill/backfill/migration/ColumnDefinition" (some 11) with
  accessFlags := 49
  interfaces := #[]
  cf := some (fileOf pool12 27 #[] #[{ accessFlags := 1, nameIndex := 5, descriptorIndex := 58, attributes := #[] }, { accessFlags := 1, nameIndex := 35, descriptorIndex := 209, attributes := #[] }, { accessFlags := 1, nameIndex := 39, descriptorIndex := 88, attributes := #[] }] 49 2 #[] #[{ accessFlags := 18, nameIndex := 8, descriptorIndex := 30, attributes := #[] }, { accessFlags := 18, nameIndex := 16, descriptorIndex := 30, attributes := #[] }, { accessFlags := 18, nameIndex := 35, descriptorIndex := 36, attributes := #[] }, { accessFlags := 18, nameIndex := 39, descriptorIndex := 40, attributes := #[] }, { accessFlags := 18, nameIndex := 43, descriptorIndex := 40, attributes := #[] }, { accessFlags := 18, nameIndex := 46, descriptorIndex := 40, attributes := #[] }, { accessFlags := 18, nameIndex := 49, descriptorIndex := 40, attributes := #[] }, { accessFlags := 18, nameIndex := 52, descriptorIndex := 30, attributes := #[] }, { accessFlags := 18, nameIndex := 55, descriptorIndex := 36, attributes := #[] }, { accessFlags := 24, nameIndex := 183, descriptorIndex := 30, attributes := #[] }, { accessFlags := 26, nameIndex := 187, descriptorIndex := 30, attributes := #[] }, { accessFlags := 26, nameIndex := 188, descriptorIndex := 30, attributes := #[] }, { accessFlags := 26, nameIndex := 189, descriptorIndex := 30, attributes := #[] }, { accessFlags := 26, nameIndex := 190, descriptorIndex := 30, attributes := #[] }, { accessFlags := 26, nameIndex := 64, descriptorIndex := 65, attributes := #[] }, { accessFlags := 26, nameIndex := 68, descriptorIndex := 65, attributes := #[] }, { accessFlags := 26, nameIndex := 193, descriptorIndex := 30, attributes := #[] }, { accessFlags := 26, nameIndex := 194, descriptorIndex := 30, attributes := #[] }, { accessFlags := 26, nameIndex := 195, descriptorIndex := 30, attributes := #[] }, { accessFlags := 26, nameIndex := 196, descriptorIndex := 30, attributes := #[] }, { accessFlags := 26, nameIndex := 95, descriptorIndex := 65, attributes := #[] }])
  fields := #[{ name := "name", type := (.object "java/lang/String"), accessFlags := 18, slot := 0, constantValue := 0 }, { name := "type", type := (.object "java/lang/String"), accessFlags := 18, slot := 1, constantValue := 0 }, { name := "defaultValue", type := (.object "com/example/backfill/backfill/migration/ColumnValue"), accessFlags := 18, slot := 2, constantValue := 0 }, { name := "nullable", type := .boolean, accessFlags := 18, slot := 3, constantValue := 0 }, { name := "primaryKey", type := .boolean, accessFlags := 18, slot := 4, constantValue := 0 }, { name := "autoIncrement", type := .boolean, accessFlags := 18, slot := 5, constantValue := 0 }, { name := "unique", type := .boolean, accessFlags := 18, slot := 6, constantValue := 0 }, { name := "remarks", type := (.object "java/lang/String"), accessFlags := 18, slot := 7, constantValue := 0 }, { name := "value", type := (.object "com/example/backfill/backfill/migration/ColumnValue"), accessFlags := 18, slot := 8, constantValue := 0 }, { name := "COLUMN", type := (.object "java/lang/String"), accessFlags := 24, slot := 0, constantValue := 0 }, { name := "NAME", type := (.object "java/lang/String"), accessFlags := 26, slot := 1, constantValue := 0 }, { name := "TYPE", type := (.object "java/lang/String"), accessFlags := 26, slot := 2, constantValue := 0 }, { name := "AUTO_INCREMENT", type := (.object "java/lang/String"), accessFlags := 26, slot := 3, constantValue := 0 }, { name := "REMARKS", type := (.object "java/lang/String"), accessFlags := 26, slot := 4, constantValue := 0 }, { name := "ATTRIBUTES", type := (.object "java/util/Set"), accessFlags := 26, slot := 5, constantValue := 0 }, { name := "ADDED_ATTRIBUTES", type := (.object "java/util/Set"), accessFlags := 26, slot := 6, constantValue := 0 }, { name := "CONSTRAINTS", type := (.object "java/lang/String"), accessFlags := 26, slot := 7, constantValue := 0 }, { name := "NULLABLE", type := (.object "java/lang/String"), accessFlags := 26, slot := 8, constantValue := 0 }, { name := "PRIMARY_KEY", type := (.object "java/lang/String"), accessFlags := 26, slot := 9, constantValue := 0 }, { name := "UNIQUE", type := (.object "java/lang/String"), accessFlags := 26, slot := 10, constantValue := 0 }, { name := "CONSTRAINT_ATTRIBUTES", type := (.object "java/util/Set"), accessFlags := 26, slot := 11, constantValue := 0 }]
  methods := #[k12m0, k12m1, k12m2]
  instanceTypes := #[(.object "java/lang/String"), (.object "java/lang/String"), (.object "com/example/backfill/backfill/migration/ColumnValue"), .boolean, .boolean, .boolean, .boolean, (.object "java/lang/String"), (.object "com/example/backfill/backfill/migration/ColumnValue")]
  staticTypes := #[(.object "java/lang/String"), (.object "java/lang/String"), (.object "java/lang/String"), (.object "java/lang/String"), (.object "java/lang/String"), (.object "java/util/Set"), (.object "java/util/Set"), (.object "java/lang/String"), (.object "java/lang/String"), (.object "java/lang/String"), (.object "java/lang/String"), (.object "java/util/Set")]
  resolved := Array.replicate 250 none
  statics := none }

def pool13 : Array CpInfo := pool [(2, .class_ 4), (1, u "java/lang/Object"), (0, u "<init>"), (0, u "()V"), (35, .class_ 44), (1, u "java/util/Objects"), (0, u "requireNonNull"), (48, u "(Ljava/lang/Object;Ljava/lang/String;)Ljava/lang/Object;")] 89

def k13m0 : Method := { name := "<init>", desc := "()V", sig := { parameters := [], returnType := none }, accessFlags := 2, code := none }
def k13c1 : Code := { maxStack := 3, maxLocals := 2, code := jdk_31_method_11_code, exceptionTable := #[], attributes := #[] }
def k13m1 : Method := { name := "requireNonNull", desc := "(Ljava/lang/Object;Ljava/lang/String;)Ljava/lang/Object;", sig := { parameters := [(.object "java/lang/Object"), (.object "java/lang/String")], returnType := some (.object "java/lang/Object") }, accessFlags := 9, code := some k13c1 }
/-- java/util/Objects -/
def k13 : Class := { plain "java/util/Objects" (some 0) with
  accessFlags := 49
  interfaces := #[]
  cf := some (fileOf pool13 42 #[] #[{ accessFlags := 2, nameIndex := 5, descriptorIndex := 6, attributes := #[] }, { accessFlags := 9, nameIndex := 45, descriptorIndex := 94, attributes := #[] }] 49 2 #[] #[])
  fields := #[]
  methods := #[k13m0, k13m1]
  instanceTypes := #[]
  staticTypes := #[]
  resolved := Array.replicate 184 none
  statics := none }

def pool14 : Array CpInfo := pool [(1, .methodref 2 3), (0, .class_ 4), (0, .nameAndType 5 6), (0, u "java/lang/Record"), (0, u "<init>"), (0, u "()V"), (0, .string 8), (0, u "table"), (0, .methodref 10 11), (0, .class_ 12), (0, .nameAndType 13 14), (0, u "java/util/Objects"), (0, u "requireNonNull"), (0, u "(Ljava/lang/Object;Ljava/lang/String;)Ljava/lang/Object;"), (0, .string 16), (0, u "column"), (0, .fieldref 18 19), (0, .class_ 20), (0, .nameAndType 8 21), (0, u "com/example/backfill/backfill/migration/NewColumn"), (0, u "Ljava/lang/String;"), (0, .fieldref 18 23), (0, .nameAndType 16 24), (0, u "Lcom/example/backfill/backfill/migration/ColumnDefinition;"), (0, .methodref 26 27), (0, .class_ 28), (0, .nameAndType 29 30), (0, u "com/example/backfill/backfill/migration/ColumnDefinition"), (0, u "nullable"), (0, u "()Z"), (0, .methodref 26 32), (0, .nameAndType 33 34), (0, u "defaultValue"), (0, u "()Lcom/example/backfill/backfill/migration/ColumnValue;"), (12, u "(Ljava/lang/String;Lcom/example/backfill/backfill/migration/ColumnDefinition;)V"), (3, u "notNullAtComplete")] 26

def k14c0 : Code := { maxStack := 2, maxLocals := 3, code := prog_63_method_1_code, exceptionTable := #[], attributes := #[] }
def k14m0 : Method := { name := "<init>", desc := "(Ljava/lang/String;Lcom/example/backfill/backfill/migration/ColumnDefinition;)V", sig := { parameters := [(.object "java/lang/String"), (.object "com/example/backfill/backfill/migration/ColumnDefinition")], returnType := none }, accessFlags := 1, code := some k14c0 }
def k14c1 : Code := { maxStack := 1, maxLocals := 1, code := prog_63_method_2_code, exceptionTable := #[], attributes := #[] }
def k14m1 : Method := { name := "notNullAtComplete", desc := "()Z", sig := { parameters := [], returnType := some .boolean }, accessFlags := 1, code := some k14c1 }
/-- com/example/backfill/backfill/migration/NewColumn -/
def k14 : Class := { plain "com/example/backfill/backfill/migration/NewColumn" (some 11) with
  accessFlags := 49
  interfaces := #[]
  cf := some (fileOf pool14 18 #[] #[{ accessFlags := 1, nameIndex := 5, descriptorIndex := 47, attributes := #[] }, { accessFlags := 1, nameIndex := 51, descriptorIndex := 30, attributes := #[] }] 49 2 #[] #[{ accessFlags := 18, nameIndex := 8, descriptorIndex := 21, attributes := #[] }, { accessFlags := 18, nameIndex := 16, descriptorIndex := 24, attributes := #[] }])
  fields := #[{ name := "table", type := (.object "java/lang/String"), accessFlags := 18, slot := 0, constantValue := 0 }, { name := "column", type := (.object "com/example/backfill/backfill/migration/ColumnDefinition"), accessFlags := 18, slot := 1, constantValue := 0 }]
  methods := #[k14m0, k14m1]
  instanceTypes := #[(.object "java/lang/String"), (.object "com/example/backfill/backfill/migration/ColumnDefinition")]
  staticTypes := #[]
  resolved := Array.replicate 78 none
  statics := none }

def pool15 : Array CpInfo := pool [(1, .methodref 2 3), (0, .class_ 4), (0, .nameAndType 5 6), (0, u "java/lang/Record"), (0, u "<init>"), (0, u "()V"), (0, .string 8), (0, u "kind"), (0, .methodref 10 11), (0, .class_ 12), (0, .nameAndType 13 14), (0, u "java/util/Objects"), (0, u "requireNonNull"), (0, u "(Ljava/lang/Object;Ljava/lang/String;)Ljava/lang/Object;"), (0, .string 16), (0, u "value"), (0, .fieldref 18 19), (0, .class_ 20), (0, .nameAndType 8 21), (0, u "com/example/backfill/backfill/migration/ColumnValue"), (0, u "Lcom/example/backfill/backfill/migration/ColumnValue$Kind;"), (0, .fieldref 18 23), (0, .nameAndType 16 24), (0, u "Ljava/lang/String;"), (12, .class_ 39), (1, u "com/example/backfill/backfill/migration/ColumnValue$Kind"), (3, .class_ 45), (1, u "com/example/backfill/backfill/migration/ColumnValue$Purpose"), (56, u "TRUE"), (0, u "Ljava/util/Set;"), (18, u "DATE"), (2, u "Ljava/util/regex/Pattern;"), (26, u "(Lcom/example/backfill/backfill/migration/ColumnValue$Kind;Ljava/lang/String;)V")] 83

def k15c0 : Code := { maxStack := 2, maxLocals := 3, code := prog_29_method_1_code, exceptionTable := #[], attributes := #[] }
def k15m0 : Method := { name := "<init>", desc := "(Lcom/example/backfill/backfill/migration/ColumnValue$Kind;Ljava/lang/String;)V", sig := { parameters := [(.object "com/example/backfill/backfill/migration/ColumnValue$Kind"), (.object "java/lang/String")], returnType := none }, accessFlags := 1, code := some k15c0 }
/-- com/example/backfill/backfill/migration/ColumnValue -/
def k15 : Class := { plain "com/example/backfill/backfill/migration/ColumnValue" (some 11) with
  accessFlags := 49
  interfaces := #[]
  cf := some (fileOf pool15 18 #[.nestMembers #[43, 37]] #[{ accessFlags := 1, nameIndex := 5, descriptorIndex := 152, attributes := #[] }] 49 2 #[] #[{ accessFlags := 18, nameIndex := 8, descriptorIndex := 21, attributes := #[] }, { accessFlags := 18, nameIndex := 16, descriptorIndex := 24, attributes := #[] }, { accessFlags := 26, nameIndex := 122, descriptorIndex := 125, attributes := #[] }, { accessFlags := 26, nameIndex := 102, descriptorIndex := 103, attributes := #[] }])
  fields := #[{ name := "kind", type := (.object "com/example/backfill/backfill/migration/ColumnValue$Kind"), accessFlags := 18, slot := 0, constantValue := 0 }, { name := "value", type := (.object "java/lang/String"), accessFlags := 18, slot := 1, constantValue := 0 }, { name := "DATE", type := (.object "java/util/regex/Pattern"), accessFlags := 26, slot := 0, constantValue := 0 }, { name := "TRUE", type := (.object "java/util/Set"), accessFlags := 26, slot := 1, constantValue := 0 }]
  methods := #[k15m0]
  instanceTypes := #[(.object "com/example/backfill/backfill/migration/ColumnValue$Kind"), (.object "java/lang/String")]
  staticTypes := #[(.object "java/util/regex/Pattern"), (.object "java/util/Set")]
  resolved := Array.replicate 236 none
  statics := none }

def pool16 : Array CpInfo := pool [(2, .class_ 4), (1, u "java/lang/Object"), (0, u "<init>"), (0, u "()V"), (17, .class_ 26), (1, u "jdk/internal/util/Preconditions"), (28, .class_ 56), (0, u "jdk/internal/util/Preconditions$4"), (57, .class_ 115), (0, u "jdk/internal/util/Preconditions$1"), (7, u "SIOOBE_FORMATTER"), (0, u "Ljava/util/function/BiFunction;"), (0, .class_ 126), (0, u "jdk/internal/util/Preconditions$2"), (3, u "AIOOBE_FORMATTER"), (0, .class_ 132), (0, u "jdk/internal/util/Preconditions$3"), (3, u "IOOBE_FORMATTER")] 57

def k16m0 : Method := { name := "<init>", desc := "()V", sig := { parameters := [], returnType := none }, accessFlags := 1, code := none }
/-- jdk/internal/util/Preconditions -/
def k16 : Class := { plain "jdk/internal/util/Preconditions" (some 0) with
  accessFlags := 33
  interfaces := #[]
  cf := some (fileOf pool16 24 #[.nestMembers #[55, 131, 125, 114]] #[{ accessFlags := 1, nameIndex := 5, descriptorIndex := 6, attributes := #[] }] 33 2 #[] #[{ accessFlags := 25, nameIndex := 123, descriptorIndex := 124, attributes := #[] }, { accessFlags := 25, nameIndex := 130, descriptorIndex := 124, attributes := #[] }, { accessFlags := 25, nameIndex := 136, descriptorIndex := 124, attributes := #[] }])
  fields := #[{ name := "SIOOBE_FORMATTER", type := (.object "java/util/function/BiFunction"), accessFlags := 25, slot := 0, constantValue := 0 }, { name := "AIOOBE_FORMATTER", type := (.object "java/util/function/BiFunction"), accessFlags := 25, slot := 1, constantValue := 0 }, { name := "IOOBE_FORMATTER", type := (.object "java/util/function/BiFunction"), accessFlags := 25, slot := 2, constantValue := 0 }]
  methods := #[k16m0]
  instanceTypes := #[]
  staticTypes := #[(.object "java/util/function/BiFunction"), (.object "java/util/function/BiFunction"), (.object "java/util/function/BiFunction")]
  resolved := Array.replicate 194 none
  statics := some 2 }

def pool17 : Array CpInfo := pool [(9, u "<init>"), (6, .class_ 18), (1, u "java/lang/Object"), (0, u "()V"), (1, .class_ 23), (1, u "jdk/internal/util/ArraysSupport"), (0, u "LOG2_ARRAY_LONG_INDEX_SCALE"), (0, u "I"), (2, u "U"), (0, u "Ljdk/internal/misc/Unsafe;"), (8, u "BIG_ENDIAN"), (0, u "Z"), (8, u "LOG2_BYTE_BIT_SIZE"), (4, u "LOG2_ARRAY_INT_INDEX_SCALE"), (54, u "JLA"), (0, u "Ljdk/internal/access/JavaLangAccess;"), (11, u "LOG2_ARRAY_BOOLEAN_INDEX_SCALE"), (9, u "LOG2_ARRAY_BYTE_INDEX_SCALE"), (5, u "LOG2_ARRAY_CHAR_INDEX_SCALE"), (5, u "LOG2_ARRAY_SHORT_INDEX_SCALE"), (18, u "LOG2_ARRAY_FLOAT_INDEX_SCALE"), (24, u "LOG2_ARRAY_DOUBLE_INDEX_SCALE"), (89, u "T_BOOLEAN"), (2, u "T_CHAR"), (1, u "T_FLOAT"), (1, u "T_DOUBLE"), (1, u "T_BYTE"), (1, u "T_SHORT"), (1, u "T_INT"), (1, u "T_LONG"), (1, u "SOFT_MAX_ARRAY_LENGTH")] 83

def k17m0 : Method := { name := "<init>", desc := "()V", sig := { parameters := [], returnType := none }, accessFlags := 2, code := none }
/-- jdk/internal/util/ArraysSupport -/
def k17 : Class := { plain "jdk/internal/util/ArraysSupport" (some 0) with
  accessFlags := 33
  interfaces := #[]
  cf := some (fileOf pool17 21 #[] #[{ accessFlags := 2, nameIndex := 9, descriptorIndex := 19, attributes := #[] }] 33 16 #[] #[{ accessFlags := 24, nameIndex := 28, descriptorIndex := 29, attributes := #[] }, { accessFlags := 26, nameIndex := 38, descriptorIndex := 39, attributes := #[] }, { accessFlags := 25, nameIndex := 121, descriptorIndex := 25, attributes := #[] }, { accessFlags := 25, nameIndex := 131, descriptorIndex := 25, attributes := #[] }, { accessFlags := 25, nameIndex := 137, descriptorIndex := 25, attributes := #[] }, { accessFlags := 25, nameIndex := 143, descriptorIndex := 25, attributes := #[] }, { accessFlags := 25, nameIndex := 53, descriptorIndex := 25, attributes := #[] }, { accessFlags := 25, nameIndex := 24, descriptorIndex := 25, attributes := #[] }, { accessFlags := 25, nameIndex := 162, descriptorIndex := 25, attributes := #[] }, { accessFlags := 25, nameIndex := 187, descriptorIndex := 25, attributes := #[] }, { accessFlags := 26, nameIndex := 48, descriptorIndex := 25, attributes := #[] }, { accessFlags := 25, nameIndex := 277, descriptorIndex := 25, attributes := #[] }, { accessFlags := 25, nameIndex := 280, descriptorIndex := 25, attributes := #[] }, { accessFlags := 25, nameIndex := 282, descriptorIndex := 25, attributes := #[] }, { accessFlags := 25, nameIndex := 284, descriptorIndex := 25, attributes := #[] }, { accessFlags := 25, nameIndex := 286, descriptorIndex := 25, attributes := #[] }, { accessFlags := 25, nameIndex := 288, descriptorIndex := 25, attributes := #[] }, { accessFlags := 25, nameIndex := 290, descriptorIndex := 25, attributes := #[] }, { accessFlags := 25, nameIndex := 292, descriptorIndex := 25, attributes := #[] }, { accessFlags := 26, nameIndex := 108, descriptorIndex := 109, attributes := #[] }, { accessFlags := 25, nameIndex := 294, descriptorIndex := 25, attributes := #[] }])
  fields := #[{ name := "U", type := (.object "jdk/internal/misc/Unsafe"), accessFlags := 24, slot := 0, constantValue := 0 }, { name := "BIG_ENDIAN", type := .boolean, accessFlags := 26, slot := 1, constantValue := 0 }, { name := "LOG2_ARRAY_BOOLEAN_INDEX_SCALE", type := .int, accessFlags := 25, slot := 2, constantValue := 0 }, { name := "LOG2_ARRAY_BYTE_INDEX_SCALE", type := .int, accessFlags := 25, slot := 3, constantValue := 0 }, { name := "LOG2_ARRAY_CHAR_INDEX_SCALE", type := .int, accessFlags := 25, slot := 4, constantValue := 0 }, { name := "LOG2_ARRAY_SHORT_INDEX_SCALE", type := .int, accessFlags := 25, slot := 5, constantValue := 0 }, { name := "LOG2_ARRAY_INT_INDEX_SCALE", type := .int, accessFlags := 25, slot := 6, constantValue := 0 }, { name := "LOG2_ARRAY_LONG_INDEX_SCALE", type := .int, accessFlags := 25, slot := 7, constantValue := 0 }, { name := "LOG2_ARRAY_FLOAT_INDEX_SCALE", type := .int, accessFlags := 25, slot := 8, constantValue := 0 }, { name := "LOG2_ARRAY_DOUBLE_INDEX_SCALE", type := .int, accessFlags := 25, slot := 9, constantValue := 0 }, { name := "LOG2_BYTE_BIT_SIZE", type := .int, accessFlags := 26, slot := 10, constantValue := 0 }, { name := "T_BOOLEAN", type := .int, accessFlags := 25, slot := 11, constantValue := 0 }, { name := "T_CHAR", type := .int, accessFlags := 25, slot := 12, constantValue := 0 }, { name := "T_FLOAT", type := .int, accessFlags := 25, slot := 13, constantValue := 0 }, { name := "T_DOUBLE", type := .int, accessFlags := 25, slot := 14, constantValue := 0 }, { name := "T_BYTE", type := .int, accessFlags := 25, slot := 15, constantValue := 0 }, { name := "T_SHORT", type := .int, accessFlags := 25, slot := 16, constantValue := 0 }, { name := "T_INT", type := .int, accessFlags := 25, slot := 17, constantValue := 0 }, { name := "T_LONG", type := .int, accessFlags := 25, slot := 18, constantValue := 0 }, { name := "JLA", type := (.object "jdk/internal/access/JavaLangAccess"), accessFlags := 26, slot := 19, constantValue := 0 }, { name := "SOFT_MAX_ARRAY_LENGTH", type := .int, accessFlags := 25, slot := 20, constantValue := 0 }]
  methods := #[k17m0]
  instanceTypes := #[]
  staticTypes := #[(.object "jdk/internal/misc/Unsafe"), .boolean, .int, .int, .int, .int, .int, .int, .int, .int, .int, .int, .int, .int, .int, .int, .int, .int, .int, (.object "jdk/internal/access/JavaLangAccess"), .int]
  resolved := Array.replicate 378 none
  statics := none }

def pool18 : Array CpInfo := pool [(1, u "java/lang/Cloneable"), (0, .class_ 1), (0, u "java/lang/Object"), (0, .class_ 3)] 3

/-- java/lang/Cloneable -/
def k18 : Class := { plain "java/lang/Cloneable" (some 0) with
  accessFlags := 1537
  interfaces := #[]
  cf := some (fileOf pool18 2 #[] #[] 1537 4 #[] #[])
  fields := #[]
  methods := #[]
  instanceTypes := #[]
  staticTypes := #[]
  resolved := Array.replicate 8 none
  statics := none }

/-- the primitive byte -/
def k19 : Class := { plain "byte" none with kind := .primitive 'B', accessFlags := 0x411 }
/-- [B -/
def k20 : Class := { plain "[B" (some 0) with kind := .array 19 .byte, interfaces := #[18, 4], accessFlags := 1041 }

/-- the primitive char -/
def k21 : Class := { plain "char" none with kind := .primitive 'C', accessFlags := 0x411 }
/-- [C -/
def k22 : Class := { plain "[C" (some 0) with kind := .array 21 .char, interfaces := #[18, 4], accessFlags := 1041 }

/-- the primitive int -/
def k23 : Class := { plain "int" none with kind := .primitive 'I', accessFlags := 0x411 }
/-- [I -/
def k24 : Class := { plain "[I" (some 0) with kind := .array 23 .int, interfaces := #[18, 4], accessFlags := 1041 }

def heap : Heap := #[{ cls := 6, slots := #[.ref 5, .ref 6, .ref 7, .ref 3, .ref 4, .null], vm := .statics 6 },
  { cls := 9, slots := #[.long 0, .int 1, .null, .int 0, .null, .int 0, .int 0], vm := .statics 9 },
  { cls := 16, slots := #[.null, .null, .null], vm := .statics 16 },
  { cls := 6, slots := #[.null, .int 0, .int 0, .null], vm := .none },
  { cls := 6, slots := #[.null, .int 0, .int 0, .null], vm := .none },
  { cls := 6, slots := #[.null, .int 0, .int 0, .null], vm := .none },
  { cls := 6, slots := #[.null, .int 0, .int 0, .null], vm := .none },
  { cls := 6, slots := #[.null, .int 0, .int 0, .null], vm := .none }]
def classes : Array Class := #[k0, k1, k2, k3, k4, k5, k6, k7, k8, k9, k10, k11, k12, k13, k14, k15, k16, k17, k18, k19, k20, k21, k22, k23, k24]
def interned : List (Array UInt16 × Addr) := []
def slotsUsed : Nat := 36
def theMethod : MethodId := ⟨1, 2⟩
def args0 : Array Value := #[.int 0, .int 0, .int 65, .int 66]
def aboutOver (below : List Frame) : State where
  vm := { classes := classes, interned := interned.toArray }
  heap := heap
  slotsUsed := slotsUsed
  threads := #[{ frames := .invoking theMethod args0 :: below }]
def below0 : List Frame := [.native { method := ⟨0, 0⟩, args := #[] }]
def about1 : State := aboutOver below0
def p0 : Program := .bare "" "" ""
def e0 : Env := launch0.env 0 0 0
theorem w_frames : about1.frames = Frame.invoking theMethod args0 :: below0 := rfl
set_option maxRecDepth 65536 in
theorem w_args : argsFit about1.vm theMethod args0 = true := by decide +kernel
set_option maxRecDepth 65536 in
theorem w_heap : heapFits about1 = true := by decide +kernel
set_option maxRecDepth 65536 in
theorem w_runnable : about1.curStatus? = some .runnable := by decide +kernel
set_option maxRecDepth 65536 in
theorem w_alone : about1.alone = true := by decide +kernel
set_option maxRecDepth 65536 in
theorem w_named : about1.methodNamed? x = some theMethod := by decide +kernel
set_option maxRecDepth 65536 in
theorem w_hears : about1.hears theMethod below0 = true := by decide +kernel
set_option maxRecDepth 65536 in
theorem w_ripe : about1.ripe theMethod args0 below0 = true := by decide +kernel
theorem w_running : about1.status = .running := rfl
set_option maxRecDepth 65536 in
theorem w_room : about1.hasRoom e0.platform room_1 = true :=
  launch0.hasRoom_least _ room_1 (by decide +kernel) (by decide +kernel) (by decide +kernel) (by decide +kernel) (by decide +kernel) (by decide +kernel)
theorem allAtoms_all (ts : List Jvm.Cond) (a : Array Jvm.Value) (st : Jvm.State) : (allAtoms ts).before a st = ts.all (fun c => c.before a st) := by
  induction ts with
  | nil => rfl
  | cons c t ih =>
    show (Jvm.Cond.and c (allAtoms t)).before a st = _
    rw [Jvm.Cond.before_and, ih, List.all_cons]
def words1 : List Jvm.Cond := Jvm.Cond.code x code maxLocals ret :: tables_1
/-- a 'code' word, met by the world's own term for the bytes: nothing is compared byte by byte -/
theorem code_word {y : MethodName} {bytes : ByteArray} {mx : Nat} {rt : Option FieldType} {a : Array Value} {s : State} {m : MethodId} {meth : Method} {c : Code} (h1 : s.methodNamed? y = some m) (h2 : s.vm.method? m = some meth) (h3 : meth.code = some c) (h4 : c.code = bytes)
    (h5 : (c.maxLocals == mx && c.exceptionTable.isEmpty && decide (c.maxStack ≤ mostOperands) && decide (meth.sig.returnType = rt) && !meth.locks && decide (parseMethodDescriptor y.desc = some meth.sig)) = true) : (Jvm.Cond.code y bytes mx rt).before a s = true := by
  simp only [Bool.and_eq_true, beq_iff_eq, Bool.not_eq_true', decide_eq_true_eq] at h5
  obtain ⟨⟨⟨⟨⟨g1, g2⟩, g3⟩, g4⟩, g5⟩, g6⟩ := h5
  simp [Cond.before, Cond.holds, Cond.value, h1, h2, h3, h4, g1, g2, g3, g4, g5, g6]
def isCode : Jvm.Cond → Bool
  | .code _ _ _ _ => true
  | _ => false
theorem all_split {L : List Jvm.Cond} {P : Jvm.Cond → Bool} (h1 : L.all (fun c => isCode c || P c) = true) (h2 : ∀ c ∈ L.filter isCode, P c = true) : L.all P = true := by
  refine List.all_eq_true.mpr fun c hc => ?_
  have h := List.all_eq_true.mp h1 c hc
  rcases Bool.eq_false_or_eq_true (isCode c) with hi | hi
  · exact h2 c (List.mem_filter.mpr ⟨hc, hi⟩)
  · simpa [hi] using h
set_option maxRecDepth 65536 in
theorem w_c0 : (Jvm.Cond.code x code maxLocals ret).before args0 about1 = true := code_word (m := ⟨1, 2⟩) (meth := k1m2) (c := k1c2) (by decide +kernel) rfl rfl rfl (by decide +kernel)
set_option maxRecDepth 65536 in
theorem w_c1 : (Jvm.Cond.code ({ cls := "com/example/backfill/backfill/migration/NewColumnNotNullAtCompletePinLaw", name := "kindOf", desc := "(I)Lcom/example/backfill/backfill/migration/ColumnValue$Kind;" } : Jvm.MethodName) method_2_code (2 : Nat) (Option.some (Jvm.ClassFile.FieldType.object "com/example/backfill/backfill/migration/ColumnValue$Kind"))).before args0 about1 = true := code_word (m := ⟨1, 1⟩) (meth := k1m1) (c := k1c1) (by decide +kernel) rfl rfl rfl (by decide +kernel)
set_option maxRecDepth 65536 in
theorem w_c2 : (Jvm.Cond.code ({ cls := "java/lang/String", name := "valueOf", desc := "(C)Ljava/lang/String;" } : Jvm.MethodName) jdk_42_method_139_code (1 : Nat) (Option.some (Jvm.ClassFile.FieldType.object "java/lang/String"))).before args0 about1 = true := code_word (m := ⟨9, 2⟩) (meth := k9m2) (c := k9c2) (by decide +kernel) rfl rfl rfl (by decide +kernel)
set_option maxRecDepth 65536 in
theorem w_c3 : (Jvm.Cond.code ({ cls := "java/lang/StringLatin1", name := "canEncode", desc := "(C)Z" } : Jvm.MethodName) jdk_43_method_3_code (1 : Nat) (Option.some Jvm.ClassFile.FieldType.boolean)).before args0 about1 = true := code_word (m := ⟨10, 1⟩) (meth := k10m1) (c := k10c1) (by decide +kernel) rfl rfl rfl (by decide +kernel)
set_option maxRecDepth 65536 in
theorem w_c4 : (Jvm.Cond.code ({ cls := "java/lang/StringLatin1", name := "toBytes", desc := "(C)[B" } : Jvm.MethodName) jdk_43_method_46_code (1 : Nat) (Option.some (Jvm.ClassFile.FieldType.array Jvm.ClassFile.FieldType.byte))).before args0 about1 = true := code_word (m := ⟨10, 2⟩) (meth := k10m2) (c := k10c2) (by decide +kernel) rfl rfl rfl (by decide +kernel)
set_option maxRecDepth 65536 in
theorem w_c5 : (Jvm.Cond.code ({ cls := "java/lang/String", name := "<init>", desc := "([BB)V" } : Jvm.MethodName) jdk_42_method_151_code (3 : Nat) (Option.none : Option Jvm.ClassFile.FieldType)).before args0 about1 = true := code_word (m := ⟨9, 4⟩) (meth := k9m4) (c := k9c4) (by decide +kernel) rfl rfl rfl (by decide +kernel)
set_option maxRecDepth 65536 in
theorem w_c6 : (Jvm.Cond.code ({ cls := "java/lang/Object", name := "<init>", desc := "()V" } : Jvm.MethodName) object_method_1_code (1 : Nat) (Option.none : Option Jvm.ClassFile.FieldType)).before args0 about1 = true := code_word (m := ⟨0, 0⟩) (meth := k0m0) (c := k0c0) (by decide +kernel) rfl rfl rfl (by decide +kernel)
set_option maxRecDepth 65536 in
theorem w_c7 : (Jvm.Cond.code ({ cls := "com/example/backfill/backfill/migration/ColumnDefinition", name := "<init>", desc := "(Ljava/lang/String;Ljava/lang/String;Lcom/example/backfill/backfill/migration/ColumnValue;ZZZZLjava/lang/String;Lcom/example/backfill/backfill/migration/ColumnValue;)V" } : Jvm.MethodName) prog_28_method_1_code (10 : Nat) (Option.none : Option Jvm.ClassFile.FieldType)).before args0 about1 = true := code_word (m := ⟨12, 0⟩) (meth := k12m0) (c := k12c0) (by decide +kernel) rfl rfl rfl (by decide +kernel)
set_option maxRecDepth 65536 in
theorem w_c8 : (Jvm.Cond.code ({ cls := "java/lang/Record", name := "<init>", desc := "()V" } : Jvm.MethodName) jdk_30_method_1_code (1 : Nat) (Option.none : Option Jvm.ClassFile.FieldType)).before args0 about1 = true := code_word (m := ⟨11, 0⟩) (meth := k11m0) (c := k11c0) (by decide +kernel) rfl rfl rfl (by decide +kernel)
set_option maxRecDepth 65536 in
theorem w_c9 : (Jvm.Cond.code ({ cls := "java/util/Objects", name := "requireNonNull", desc := "(Ljava/lang/Object;Ljava/lang/String;)Ljava/lang/Object;" } : Jvm.MethodName) jdk_31_method_11_code (2 : Nat) (Option.some (Jvm.ClassFile.FieldType.object "java/lang/Object"))).before args0 about1 = true := code_word (m := ⟨13, 1⟩) (meth := k13m1) (c := k13c1) (by decide +kernel) rfl rfl rfl (by decide +kernel)
set_option maxRecDepth 65536 in
theorem w_c10 : (Jvm.Cond.code ({ cls := "com/example/backfill/backfill/migration/NewColumn", name := "<init>", desc := "(Ljava/lang/String;Lcom/example/backfill/backfill/migration/ColumnDefinition;)V" } : Jvm.MethodName) prog_63_method_1_code (3 : Nat) (Option.none : Option Jvm.ClassFile.FieldType)).before args0 about1 = true := code_word (m := ⟨14, 0⟩) (meth := k14m0) (c := k14c0) (by decide +kernel) rfl rfl rfl (by decide +kernel)
set_option maxRecDepth 65536 in
theorem w_c11 : (Jvm.Cond.code ({ cls := "com/example/backfill/backfill/migration/NewColumn", name := "notNullAtComplete", desc := "()Z" } : Jvm.MethodName) prog_63_method_2_code (1 : Nat) (Option.some Jvm.ClassFile.FieldType.boolean)).before args0 about1 = true := code_word (m := ⟨14, 1⟩) (meth := k14m1) (c := k14c1) (by decide +kernel) rfl rfl rfl (by decide +kernel)
set_option maxRecDepth 65536 in
theorem w_c12 : (Jvm.Cond.code ({ cls := "com/example/backfill/backfill/migration/ColumnDefinition", name := "nullable", desc := "()Z" } : Jvm.MethodName) prog_28_method_11_code (1 : Nat) (Option.some Jvm.ClassFile.FieldType.boolean)).before args0 about1 = true := code_word (m := ⟨12, 2⟩) (meth := k12m2) (c := k12c2) (by decide +kernel) rfl rfl rfl (by decide +kernel)
set_option maxRecDepth 65536 in
theorem w_c13 : (Jvm.Cond.code ({ cls := "com/example/backfill/backfill/migration/ColumnDefinition", name := "defaultValue", desc := "()Lcom/example/backfill/backfill/migration/ColumnValue;" } : Jvm.MethodName) prog_28_method_10_code (1 : Nat) (Option.some (Jvm.ClassFile.FieldType.object "com/example/backfill/backfill/migration/ColumnValue"))).before args0 about1 = true := code_word (m := ⟨12, 1⟩) (meth := k12m1) (c := k12c1) (by decide +kernel) rfl rfl rfl (by decide +kernel)
set_option maxRecDepth 65536 in
theorem w_c14 : (Jvm.Cond.code ({ cls := "com/example/backfill/backfill/migration/ColumnValue", name := "<init>", desc := "(Lcom/example/backfill/backfill/migration/ColumnValue$Kind;Ljava/lang/String;)V" } : Jvm.MethodName) prog_29_method_1_code (3 : Nat) (Option.none : Option Jvm.ClassFile.FieldType)).before args0 about1 = true := code_word (m := ⟨15, 0⟩) (meth := k15m0) (c := k15c0) (by decide +kernel) rfl rfl rfl (by decide +kernel)
set_option maxRecDepth 65536 in
theorem w_c15 : (Jvm.Cond.code ({ cls := "java/lang/String", name := "<init>", desc := "([C)V" } : Jvm.MethodName) jdk_42_method_3_code (2 : Nat) (Option.none : Option Jvm.ClassFile.FieldType)).before args0 about1 = true := code_word (m := ⟨9, 1⟩) (meth := k9m1) (c := k9c1) (by decide +kernel) rfl rfl rfl (by decide +kernel)
set_option maxRecDepth 65536 in
theorem w_c16 : (Jvm.Cond.code ({ cls := "java/lang/String", name := "<init>", desc := "([CIILjava/lang/Void;)V" } : Jvm.MethodName) jdk_42_method_149_code (6 : Nat) (Option.none : Option Jvm.ClassFile.FieldType)).before args0 about1 = true := code_word (m := ⟨9, 3⟩) (meth := k9m3) (c := k9c3) (by decide +kernel) rfl rfl rfl (by decide +kernel)
def codes1 : List Jvm.Cond := [Jvm.Cond.code x code maxLocals ret, Jvm.Cond.code ({ cls := "com/example/backfill/backfill/migration/NewColumnNotNullAtCompletePinLaw", name := "kindOf", desc := "(I)Lcom/example/backfill/backfill/migration/ColumnValue$Kind;" } : Jvm.MethodName) method_2_code (2 : Nat) (Option.some (Jvm.ClassFile.FieldType.object "com/example/backfill/backfill/migration/ColumnValue$Kind")), Jvm.Cond.code ({ cls := "java/lang/String", name := "valueOf", desc := "(C)Ljava/lang/String;" } : Jvm.MethodName) jdk_42_method_139_code (1 : Nat) (Option.some (Jvm.ClassFile.FieldType.object "java/lang/String")), Jvm.Cond.code ({ cls := "java/lang/StringLatin1", name := "canEncode", desc := "(C)Z" } : Jvm.MethodName) jdk_43_method_3_code (1 : Nat) (Option.some Jvm.ClassFile.FieldType.boolean), Jvm.Cond.code ({ cls := "java/lang/StringLatin1", name := "toBytes", desc := "(C)[B" } : Jvm.MethodName) jdk_43_method_46_code (1 : Nat) (Option.some (Jvm.ClassFile.FieldType.array Jvm.ClassFile.FieldType.byte)), Jvm.Cond.code ({ cls := "java/lang/String", name := "<init>", desc := "([BB)V" } : Jvm.MethodName) jdk_42_method_151_code (3 : Nat) (Option.none : Option Jvm.ClassFile.FieldType), Jvm.Cond.code ({ cls := "java/lang/Object", name := "<init>", desc := "()V" } : Jvm.MethodName) object_method_1_code (1 : Nat) (Option.none : Option Jvm.ClassFile.FieldType), Jvm.Cond.code ({ cls := "com/example/backfill/backfill/migration/ColumnDefinition", name := "<init>", desc := "(Ljava/lang/String;Ljava/lang/String;Lcom/example/backfill/backfill/migration/ColumnValue;ZZZZLjava/lang/String;Lcom/example/backfill/backfill/migration/ColumnValue;)V" } : Jvm.MethodName) prog_28_method_1_code (10 : Nat) (Option.none : Option Jvm.ClassFile.FieldType), Jvm.Cond.code ({ cls := "java/lang/Record", name := "<init>", desc := "()V" } : Jvm.MethodName) jdk_30_method_1_code (1 : Nat) (Option.none : Option Jvm.ClassFile.FieldType), Jvm.Cond.code ({ cls := "java/util/Objects", name := "requireNonNull", desc := "(Ljava/lang/Object;Ljava/lang/String;)Ljava/lang/Object;" } : Jvm.MethodName) jdk_31_method_11_code (2 : Nat) (Option.some (Jvm.ClassFile.FieldType.object "java/lang/Object")), Jvm.Cond.code ({ cls := "com/example/backfill/backfill/migration/NewColumn", name := "<init>", desc := "(Ljava/lang/String;Lcom/example/backfill/backfill/migration/ColumnDefinition;)V" } : Jvm.MethodName) prog_63_method_1_code (3 : Nat) (Option.none : Option Jvm.ClassFile.FieldType), Jvm.Cond.code ({ cls := "com/example/backfill/backfill/migration/NewColumn", name := "notNullAtComplete", desc := "()Z" } : Jvm.MethodName) prog_63_method_2_code (1 : Nat) (Option.some Jvm.ClassFile.FieldType.boolean), Jvm.Cond.code ({ cls := "com/example/backfill/backfill/migration/ColumnDefinition", name := "nullable", desc := "()Z" } : Jvm.MethodName) prog_28_method_11_code (1 : Nat) (Option.some Jvm.ClassFile.FieldType.boolean), Jvm.Cond.code ({ cls := "com/example/backfill/backfill/migration/ColumnDefinition", name := "defaultValue", desc := "()Lcom/example/backfill/backfill/migration/ColumnValue;" } : Jvm.MethodName) prog_28_method_10_code (1 : Nat) (Option.some (Jvm.ClassFile.FieldType.object "com/example/backfill/backfill/migration/ColumnValue")), Jvm.Cond.code ({ cls := "com/example/backfill/backfill/migration/ColumnValue", name := "<init>", desc := "(Lcom/example/backfill/backfill/migration/ColumnValue$Kind;Ljava/lang/String;)V" } : Jvm.MethodName) prog_29_method_1_code (3 : Nat) (Option.none : Option Jvm.ClassFile.FieldType), Jvm.Cond.code ({ cls := "java/lang/String", name := "<init>", desc := "([C)V" } : Jvm.MethodName) jdk_42_method_3_code (2 : Nat) (Option.none : Option Jvm.ClassFile.FieldType), Jvm.Cond.code ({ cls := "java/lang/String", name := "<init>", desc := "([CIILjava/lang/Void;)V" } : Jvm.MethodName) jdk_42_method_149_code (6 : Nat) (Option.none : Option Jvm.ClassFile.FieldType)]
set_option maxRecDepth 65536 in
theorem codes_eq : words1.filter isCode = codes1 := rfl
theorem w_codes : ∀ c ∈ words1.filter isCode, c.before args0 about1 = true := by
  rw [codes_eq]
  intro c hc
  simp only [codes1, List.mem_cons, List.not_mem_nil, or_false] at hc
  rcases hc with rfl | rfl | rfl | rfl | rfl | rfl | rfl | rfl | rfl | rfl | rfl | rfl | rfl | rfl | rfl | rfl | rfl
  · exact w_c0
  · exact w_c1
  · exact w_c2
  · exact w_c3
  · exact w_c4
  · exact w_c5
  · exact w_c6
  · exact w_c7
  · exact w_c8
  · exact w_c9
  · exact w_c10
  · exact w_c11
  · exact w_c12
  · exact w_c13
  · exact w_c14
  · exact w_c15
  · exact w_c16
set_option maxRecDepth 65536 in
theorem w_t1 : (words1.take 24).all (fun c => isCode c || c.before args0 about1) = true := by decide +kernel
set_option maxRecDepth 65536 in
theorem w_t2 : ((words1.drop 24).take 24).all (fun c => isCode c || c.before args0 about1) = true := by decide +kernel
set_option maxRecDepth 65536 in
theorem w_t3 : (((words1.drop 24).drop 24).take 24).all (fun c => isCode c || c.before args0 about1) = true := by decide +kernel
set_option maxRecDepth 65536 in
theorem w_t4 : ((((words1.drop 24).drop 24).drop 24).take 24).all (fun c => isCode c || c.before args0 about1) = true := by decide +kernel
set_option maxRecDepth 65536 in
theorem w_t5 : (((((words1.drop 24).drop 24).drop 24).drop 24).take 24).all (fun c => isCode c || c.before args0 about1) = true := by decide +kernel
set_option maxRecDepth 65536 in
theorem w_t6 : (((((words1.drop 24).drop 24).drop 24).drop 24).drop 24).all (fun c => isCode c || c.before args0 about1) = true := by decide +kernel
theorem w_tables : (allAtoms (Jvm.Cond.code x code maxLocals ret :: tables_1)).before args0 about1 = true := by
  rw [allAtoms_all]
  show words1.all (fun c => c.before args0 about1) = true
  refine all_split ?_ w_codes
  rw [← List.take_append_drop 24 words1, List.all_append, w_t1, ← List.take_append_drop 24 (words1.drop 24), List.all_append, w_t2, ← List.take_append_drop 24 ((words1.drop 24).drop 24), List.all_append, w_t3, ← List.take_append_drop 24 (((words1.drop 24).drop 24).drop 24), List.all_append, w_t4, ← List.take_append_drop 24 ((((words1.drop 24).drop 24).drop 24).drop 24), List.all_append, w_t5, w_t6]
  rfl
set_option maxRecDepth 65536 in
theorem w_rest : rest_1_c.before args0 about1 = true := by decide +kernel
set_option maxRecDepth 65536 in
theorem w_case : (Jvm.Cond.and given_1 narrow_1).before args0 about1 = true := by decide +kernel
set_option maxRecDepth 65536 in
theorem w_consts : constsHeld consts_1 about1 := Jvm.Lit.constsHeldB_iff.mp (by decide +kernel)
theorem w_applies : (headSpec (Jvm.Cond.code x code maxLocals ret :: tables_1) room_1).applies x e0.platform about1 = true :=
  (Spec.applies_iff w_frames).mpr ⟨w_running, w_runnable, w_alone, w_named, w_hears, w_ripe, w_room, w_tables⟩
theorem atStart : AtStart classFile x code maxLocals ret World_1 tables_1 room_1 Calls_1 rest_1 Pre_1 launch0 p0 e0 about1 theMethod args0 below0 :=
  ⟨lists_1, trivial, launch0.admits_env _ _ _, launch0.least_env, fairChoices_fair.cas, fairChoices_fair.clock, w_frames, w_args, w_heap, w_applies, ⟨w_consts, trivial⟩, w_rest, w_case⟩
end start1
theorem witness_1 : WitnessClaimed_1 := ⟨start1.p0, start1.e0, start1.about1, start1.theMethod, start1.args0, start1.below0, start1.atStart⟩
end Jvm.Pilot.@@N@@
