import JvmDerived
import JvmDerived.Pilot.@@N@@Statement
import JvmDerived.Pilot.@@N@@Code
set_option linter.unusedVariables false
set_option linter.unusedSimpArgs false
namespace Jvm.OwnKit
open Sem ClassFile Op Lib Bundle Jvm.Stand Jvm.Free Jvm.LawKit Jvm.RoadKit
section Kit
variable {p : Program} {l : Launch} {e : Env} {R : Room} {s : State} {m : MethodId} {args : Array Value} {below : List Frame} {meth : Method} {c : Code} {Z : State} {a0 : Array Value} {EL : List (String × Nat)} {own : String} {Q : Option Value → Vm → Heap → Prop} {vm : Vm} {h : Heap} {cells slots : Nat} {g : JFrame}
/-- the k-th word -/
theorem ow {L : List Jvm.Cond} (hw : ∀ d ∈ L, d.before a0 Z = true) (k : Nat) {d : Jvm.Cond} (q : L[k]? = some d) : d.before a0 Z = true := hw _ (List.mem_of_getElem? q)
/-- a standing place of a walk that may have interned: tables vm, heap h, usage -/
def St (p : Program) (l : Launch) (e : Env) (R : Room) (s : State) (m : MethodId) (args : Array Value) (below : List Frame) (meth : Method) (c : Code) (Z : State) (a0 : Array Value) (EL : List (String × Nat)) (own : String) (vm : Vm) (T : State) (h : Heap) (cells slots : Nat) : Prop :=
  ∃ (locs : List Loc) (k0 : Nat), Stand p l e R (s.setVm vm) m args below meth c T locs cells slots ∧ T.heap = h ∧ Z.Warmed39 vm ∧ vm.findClass own = some m.cls ∧ s.Since vm k0 ∧ k0 ≤ h.size ∧ Fr Z.heap.size locs ∧ CHr Z EL s.vm s.heap vm h ∧ Ext Z.heap s.heap ∧ EW Z a0 EL ∧ p.tables.exec = Jvm.exec ∧ meth.locks = false
/-- from every such place with this frame the method ends as Q says -/
def Go (p : Program) (l : Launch) (e : Env) (R : Room) (s : State) (m : MethodId) (args : Array Value) (below : List Frame) (meth : Method) (c : Code) (Z : State) (a0 : Array Value) (EL : List (String × Nat)) (own : String) (Q : Option Value → Vm → Heap → Prop) (vm : Vm) (h : Heap) (cells slots : Nat) (g : JFrame) : Prop :=
  ∀ T, St p l e R s m args below meth c Z a0 EL own vm T h cells slots → ∃ s₂ o, Steps p.tables e below (T.setTop g) s₂ ∧ s₂.status = .running ∧ Ended s₂ below o ∧
    ∃ v L, o = .returned v ∧ (Fr Z.heap.size L ∧ Q v s₂.vm s₂.heap) ∧ CHr Z EL s.vm s.heap s₂.vm s₂.heap ∧ ReturnedEndW s o s₂ L R.cells R.slots
/-- a plain step -/
theorem gs (g' : JFrame) (st : ∀ T target, At T m c below → Steps p.tables e below (T.setTop g') target → Steps p.tables e below (T.setTop g) target)
    (k : Go p l e R s m args below meth c Z a0 EL own Q vm h cells slots g') : Go p l e R s m args below meth c Z a0 EL own Q vm h cells slots g := fun T X => by
  obtain ⟨s2, o, q1, q2⟩ := k T X
  obtain ⟨locs, k0, X', -⟩ := X
  exact ⟨s2, o, st _ _ X'.here q1, q2⟩
theorem gat (g' : JFrame) (q : g = g') (k : Go p l e R s m args below meth c Z a0 EL own Q vm h cells slots g') : Go p l e R s m args below meth c Z a0 EL own Q vm h cells slots g := q ▸ k
/-- a step that asks the standing place -/
theorem gx (g' : JFrame) (st : ∀ T locs, Stand p l e R (s.setVm vm) m args below meth c T locs cells slots → Z.Warmed39 vm → vm.findClass own = some m.cls → T.heap = h → ∀ target, Steps p.tables e below (T.setTop g') target → Steps p.tables e below (T.setTop g) target)
    (k : Go p l e R s m args below meth c Z a0 EL own Q vm h cells slots g') : Go p l e R s m args below meth c Z a0 EL own Q vm h cells slots g := fun T X => by
  obtain ⟨s2, o, q1, q2⟩ := k T X
  obtain ⟨locs, k0, X', eT, hZ, hown, -⟩ := X
  exact ⟨s2, o, st _ _ X' hZ hown eT _ q1, q2⟩
/-- a step to another state, the heap as it was -/
theorem gy (g' : JFrame) (st : ∀ T locs, Stand p l e R (s.setVm vm) m args below meth c T locs cells slots → Z.Warmed39 vm → vm.findClass own = some m.cls → T.heap = h → ∃ T', Stand p l e R (s.setVm vm) m args below meth c T' locs cells slots ∧ T'.heap = h ∧ ∀ target, Steps p.tables e below (T'.setTop g') target → Steps p.tables e below (T.setTop g) target)
    (k : Go p l e R s m args below meth c Z a0 EL own Q vm h cells slots g') : Go p l e R s m args below meth c Z a0 EL own Q vm h cells slots g := fun T X => by
  obtain ⟨locs, k0, X', eT, hZ, hown, r⟩ := X
  obtain ⟨T', X1, e1, s1⟩ := st T locs X' hZ hown eT
  obtain ⟨s2, o, q1, q2⟩ := k T' ⟨locs, k0, X1, e1, hZ, hown, r⟩
  exact ⟨s2, o, s1 _ q1, q2⟩
/-- what the standing place knows -/
theorem ginfo (k : Z.Warmed39 vm → CHv Z EL vm h → Ext Z.heap h → Go p l e R s m args below meth c Z a0 EL own Q vm h cells slots g) : Go p l e R s m args below meth c Z a0 EL own Q vm h cells slots g := fun T X => by
  have X0 := X
  obtain ⟨locs, k0, X', eT, hZ, hown, hS, hk, N, H, E0, r⟩ := X
  refine k hZ H.1 ⟨?_, ?_⟩ T X0
  · exact Nat.le_trans E0.1 H.2.1
  · intro b cl hcl
    have hb := (Array.getElem?_eq_some_iff.mp hcl).1
    obtain ⟨c', h1, h2, -, h4⟩ := X'.same.2.2.2.2.2 b cl (show s.heap[b]? = some cl from E0.2 b cl hcl)
    have hsl : c'.slots = cl.slots := Array.ext_getElem? fun i => h4 i fun hm => absurd (N _ hm) (Nat.not_le.mpr hb)
    have hcc : c' = cl := by rw [h2, hsl]
    have h1' : T.heap[b]? = some c' := h1
    rw [← eT, ← hcc]; exact h1'
theorem gmono {cells' slots' : Nat} (hc : cells ≤ cells') (hs : slots ≤ slots') (k : Go p l e R s m args below meth c Z a0 EL own Q vm h cells' slots' g) : Go p l e R s m args below meth c Z a0 EL own Q vm h cells slots g := fun T X => by
  obtain ⟨locs, k0, X', r⟩ := X
  exact k T ⟨locs, k0, { X' with same := X'.same.mono hc hs }, r⟩
/-- the heap grows at its end -/
theorem gnew {cells' slots' : Nat} {P : Heap → Prop} (g' : Heap → JFrame)
    (st : ∀ T locs, Stand p l e R (s.setVm vm) m args below meth c T locs cells slots → Z.Warmed39 vm → vm.findClass own = some m.cls → T.heap = h → ∃ T' h', Stand p l e R (s.setVm vm) m args below meth c T' locs cells' slots' ∧ T'.heap = h' ∧ Ext h h' ∧ P h' ∧ ∀ target, Steps p.tables e below (T'.setTop (g' h')) target → Steps p.tables e below (T.setTop g) target)
    (k : ∀ h', Ext h h' → CHr Z EL vm h vm h' → P h' → Z.heap.size ≤ h.size → Safe Z EL vm h' h.size → Go p l e R s m args below meth c Z a0 EL own Q vm h' cells' slots' (g' h')) : Go p l e R s m args below meth c Z a0 EL own Q vm h cells slots g := fun T X => by
  obtain ⟨locs, k0, X', eT, hZ, hown, hS, hk, N, H, E0, r⟩ := X
  obtain ⟨T', h', X1, e1, E, hP, s1⟩ := st T locs X' hZ hown eT
  obtain ⟨s2, o, q1, q2⟩ := k h' E (CHr.ext E H.1) hP (Nat.le_trans E0.1 H.2.1) (Safe.ext E H.1 (Safe.new (Nat.le_refl _))) T' ⟨locs, k0, X1, e1, hZ, hown, hS, Nat.le_trans hk E.1, N, H.trans (CHr.ext E H.1), E0, r⟩
  exact ⟨s2, o, s1 _ q1, q2⟩
/-- one place is written -/
theorem gwr (g' : JFrame) {a : Addr} {sl : Nat} {v : Value} (ha : Z.heap.size ≤ a) (hs : Z.vm.Alike vm → Safe Z EL vm h a)
    (st : ∀ T locs, Stand p l e R (s.setVm vm) m args below meth c T locs cells slots → Z.Warmed39 vm → vm.findClass own = some m.cls → T.heap = h → ∃ T' h', Stand p l e R (s.setVm vm) m args below meth c T' (locs ++ [⟨a, sl⟩]) cells slots ∧ T'.heap = h' ∧ Wr h h' a sl v ∧ ∀ target, Steps p.tables e below (T'.setTop g') target → Steps p.tables e below (T.setTop g) target)
    (k : ∀ h', Wr h h' a sl v → CHr Z EL vm h vm h' → Go p l e R s m args below meth c Z a0 EL own Q vm h' cells slots g') : Go p l e R s m args below meth c Z a0 EL own Q vm h cells slots g := fun T X => by
  obtain ⟨locs, k0, X', eT, hZ, hown, hS, hk, N, H, E0, r⟩ := X
  obtain ⟨T', h', X1, e1, W, s1⟩ := st T locs X' hZ hown eT
  obtain ⟨s2, o, q1, q2⟩ := k h' W (CHr.wr W (hs hZ.alike) H.1) T' ⟨_, k0, X1, e1, hZ, hown, hS, by rw [W.size]; exact hk, Fr.snoc X1 N ha, H.trans (CHr.wr W (hs hZ.alike) H.1), E0, r⟩
  exact ⟨s2, o, s1 _ q1, q2⟩
/-- the end -/
theorem gret {v : Option Value} (hv : meth.sig.returnType = none → v = none) (hc : cells ≤ R.cells) (hs : slots ≤ R.slots)
    (st : ∀ T locs fs, Stand p l e R (s.setVm vm) m args below meth c T locs cells slots → (∀ (f : JFrame) (acts : List Action), f.method = m → f.locked = none → f.entered = [] → (doReturn e (T.setTop f) acts v).1 = T.setFrames fs) → Steps p.tables e below (T.setTop g) (T.setFrames fs))
    (hq : ∀ vm', CHr Z EL vm h vm' h → Q v vm' h) : Go p l e R s m args below meth c Z a0 EL own Q vm h cells slots g := fun T X => by
  obtain ⟨locs, k0, X', eT, hZ, hown, hS, hk, N, H, E0, hw, hx, hlk⟩ := X
  obtain ⟨fs, hr, hrun, hend, hW⟩ := X'.leaveW hS (by rw [eT]; exact hk) hv hlk
  have C1 : CHr Z EL vm h T.vm h := CHv.at X' hZ hw H.1
  refine ⟨_, _, st T locs fs X' hr, hrun, hend, v, locs, rfl, ⟨N, ?_⟩, ?_, ?_⟩
  · show Q v T.vm T.heap
    rw [eT]; exact hq _ C1
  · show CHr Z EL s.vm s.heap T.vm T.heap
    rw [eT]; exact H.trans C1
  · exact ⟨hW.1, hW.2.1, hW.2.2.1, hW.2.2.2.mono hc hs⟩
theorem gretI {pc : Nat} {Ls : Array Slot} {z : Int32} {rest : List Value} (hx : p.tables.exec = Jvm.exec) (hret : meth.sig.returnType = some .int) (hd : decode c.code pc = .ok (.ireturn, 1)) (hc : cells ≤ R.cells) (hs : slots ≤ R.slots)
    (hq : ∀ vm', CHr Z EL vm h vm' h → Q (some (.int z)) vm' h) : Go p l e R s m args below meth c Z a0 EL own Q vm h cells slots (mkF m pc Ls (.int z :: rest)) :=
  gret (v := some (.int z)) (fun q => by rw [hret] at q; cases q) hc hs (fun T locs fs X hr => retOut X hx hret rfl (Or.inl ⟨rfl, Or.inl rfl, z, rfl⟩) hd hr) hq
theorem gretN {t : FieldType} {pc : Nat} {Ls : Array Slot} {z : Int32} {rest : List Value} (hx : p.tables.exec = Jvm.exec) (hret : meth.sig.returnType = some t) (ht : t = .boolean ∨ t = .byte ∨ t = .char ∨ t = .short) (hd : decode c.code pc = .ok (.ireturn, 1)) (hc : cells ≤ R.cells) (hs : slots ≤ R.slots)
    (hq : ∀ vm', CHr Z EL vm h vm' h → Q (some (.int (nar t z))) vm' h) : Go p l e R s m args below meth c Z a0 EL own Q vm h cells slots (mkF m pc Ls (.int z :: rest)) :=
  gret (v := some (.int (nar t z))) (fun q => by rw [hret] at q; cases q) hc hs (fun T locs fs X hr => retN X hx hret ht hd hr) hq
theorem gretJ {pc : Nat} {Ls : Array Slot} {z : Int64} {rest : List Value} (hx : p.tables.exec = Jvm.exec) (hret : meth.sig.returnType = some .long) (hd : decode c.code pc = .ok (.lreturn, 1)) (hc : cells ≤ R.cells) (hs : slots ≤ R.slots)
    (hq : ∀ vm', CHr Z EL vm h vm' h → Q (some (.long z)) vm' h) : Go p l e R s m args below meth c Z a0 EL own Q vm h cells slots (mkF m pc Ls (.long z :: rest)) :=
  gret (v := some (.long z)) (fun q => by rw [hret] at q; cases q) hc hs (fun T locs fs X hr => retOut X hx hret rfl (Or.inr (Or.inl ⟨rfl, rfl, z, rfl⟩)) hd hr) hq
theorem gretA {t : FieldType} {pc : Nat} {Ls : Array Slot} {v : Value} {rest : List Value} (hx : p.tables.exec = Jvm.exec) (hret : meth.sig.returnType = some t) (ht : t.isReference = true) (hv : v.isRef = true) (hd : decode c.code pc = .ok (.areturn, 1)) (hc : cells ≤ R.cells) (hs : slots ≤ R.slots)
    (hq : ∀ vm', CHr Z EL vm h vm' h → Q (some v) vm' h) : Go p l e R s m args below meth c Z a0 EL own Q vm h cells slots (mkF m pc Ls (v :: rest)) :=
  gret (v := some v) (fun q => by rw [hret] at q; cases q) hc hs (fun T locs fs X hr => retOut X hx hret (by cases t <;> first | (cases ht; done) | (cases v <;> first | rfl | (cases hv; done))) (Or.inr (Or.inr (Or.inr (Or.inr ⟨rfl, ht, hv⟩)))) hd hr) hq
theorem gretV {pc : Nat} {Ls : Array Slot} (hx : p.tables.exec = Jvm.exec) (hret : meth.sig.returnType = none) (hd : decode c.code pc = .ok (.return_, 1)) (hc : cells ≤ R.cells) (hs : slots ≤ R.slots)
    (hq : ∀ vm', CHr Z EL vm h vm' h → Q none vm' h) : Go p l e R s m args below meth c Z a0 EL own Q vm h cells slots (mkF m pc Ls []) :=
  gret (v := none) (fun _ => rfl) hc hs (fun T locs fs X hr => X.returnOut hx hret hd hr) hq
/-! contracts -/
def Met (l : Launch) (y : MethodName) (bytes : ByteArray) (maxL : Nat) (ret : Option FieldType) (ws : List Jvm.Cond) (rm : Room) (Z : State) (EL : List (String × Nat)) (vm0 : Vm) (h0 : Heap) (as' : Array Value) (Q : Option Value → Vm → Heap → Prop) : Prop :=
  MetFree l y (head1 (Jvm.Cond.code y bytes maxL ret :: ws) rm) (fun a U => a = as' ∧ Z.Warmed39 U.vm ∧ U.heap = h0 ∧ CHr Z EL vm0 h0 U.vm h0) (fun _ _ _ _ _ => True)
    (fun _ U o U' => ∃ v L, o = .returned v ∧ (Fr Z.heap.size L ∧ Q v U'.vm U'.heap) ∧ CHr Z EL U.vm U.heap U'.vm U'.heap ∧ ReturnedEndW U o U' L rm.cells rm.slots)
theorem Met.of_walk {y : MethodName} {bytes : ByteArray} {maxL : Nat} {ret : Option FieldType} {ws : List Jvm.Cond} {rm : Room} {vm0 : Vm} {h0 : Heap} {as' : Array Value} (L0 : Array Slot) (hpn : plainFor y = true) (X00 : Ext Z.heap h0) (hEL : EW Z a0 EL)
    (hef : ∀ m, entryFrame m as' maxL = mkF m 0 L0 [])
    (walk : ∀ (p : Program) (e : Env) (s : State) (m : MethodId) (below : List Frame) (meth : Method) (c : Code) (vm : Vm), p.tables.exec = Jvm.exec → c.code = bytes → c.maxLocals = maxL → meth.sig.returnType = ret → meth.name = y.name → CHr Z EL vm0 h0 vm h0 →
      Go p l e rm s m as' below meth c Z a0 EL y.cls Q vm h0 0 0 (mkF m 0 L0 [])) : Met l y bytes maxL ret ws rm Z EL vm0 h0 as' Q := by
  refine MetFree.of_bodySF hpn hisR ?_
  intro p e s m args below meth c s₁ Bd hml0 hP hK
  obtain ⟨rfl, hZ, hh, hC⟩ := hP
  have X0 : Stand p l e rm s m args below meth c s₁ [] 0 0 := Stand.of_body Bd
  have e0 : s₁.heap = h0 := by rw [← hh, Bd.state]; rfl
  obtain ⟨s2, o, q1, q2⟩ := walk p e s m below meth c s.vm Bd.exec Bd.bytes hml0 Bd.returns (name_of_methodNamed Bd.named Bd.method).1 hC s₁
    ⟨[], 0, X0, e0, hZ, findClass_of_methodNamed Bd.named, (State.WarmedH.refl s).since 0, Nat.zero_le _, Fr.nil _, by rw [hh]; exact CHr.refl hC.1, by rw [hh]; exact X00, hEL, Bd.exec, Bd.notSynchronized⟩
  exact ⟨s2, o, by rw [hef]; exact q1, q2⟩
def Pay (l : Launch) (R : Room) (p : Program) (e : Env) (below : List Frame) (s : State) (args : Array Value) (Z : State) (EL : List (String × Nat)) (vm : Vm) (h : Heap) (y : MethodName) (len W : Nat) (as' : Array Value) (rc rs : Nat) (Q : Option Value → Vm → Heap → Prop) : Prop :=
  BackS l R p e below (s.setVm vm) args y len W (fun A a => a = as' ∧ A.U.heap = h ∧ A.cells + rc ≤ R.cells ∧ A.slots + rs ≤ R.slots)
    (fun A _ v B => ∃ L, (Fr Z.heap.size L ∧ Q v B.U.vm B.U.heap) ∧ B.locs = A.locs ++ L ∧ B.cells = A.cells + rc ∧ B.slots = A.slots + rs ∧ CHr Z EL vm h B.U.vm B.U.heap)
theorem Pay.of_met {y : MethodName} {bytes : ByteArray} {maxL : Nat} {ret : Option FieldType} {rm : Room} {len W : Nat} {as' : Array Value} (hM : Met l y bytes maxL ret [] rm Z EL vm h as' Q)
    (wc : (Jvm.Cond.code y bytes maxL ret).before a0 Z = true) (wz : (Jvm.Cond.initialized y.cls).before a0 Z = true) (hf : rm.frames + 1 ≤ R.frames) (hl : W + (maxL + 11) + rm.locals ≤ R.locals) (hZ : Z.Warmed39 vm) (H : CHv Z EL vm h) (hEL : EW Z a0 EL) :
    Pay l R p e below s args Z EL vm h y len W as' rm.cells rm.slots Q :=
  BackS.of_freeW (bytes := bytes) (maxL := maxL) (ret := ret) (E := fun _ first o t L k n => k = rm.cells ∧ n = rm.slots ∧ (∃ v, o = .returned v ∧ (Fr Z.heap.size L ∧ Q v t.vm t.heap)) ∧ CHr Z EL first.vm first.heap t.vm t.heap) hM hf hl
    (fun m meth c A a Y hp => have hU : Z.Warmed39 A.U.vm := wtrans (s := s.setVm vm) hZ Y.warmed
      ⟨by show (Jvm.Cond.and _ .tt).before a A.U = true; rw [Cond.before_and, mv hU wc]; rfl, mv hU wc, mv hU wz, hp.2.2.1, hp.2.2.2⟩)
    (fun m meth c A a g mk Y hp => ⟨hp.1, wtrans (s := s.setVm vm) hZ Y.warmed, hp.2.1, (show CHr Z EL vm h A.U.vm h from CHv.at Y hZ hEL H)⟩) (fun _ _ _ _ _ _ _ _ _ => trivial)
    (fun _ _ _ _ ⟨v, L, h1, h2, h3, h4⟩ => ⟨L, _, _, h4, rfl, rfl, ⟨v, h1, h2⟩, h3⟩)
    (fun m meth c A a g mk v t L k n Y hp _ _ ⟨e1, e2, ⟨v', e3, e4⟩, e5⟩ => by
      cases e3; subst e1 e2
      refine ⟨L, e4, rfl, rfl, rfl, (CHv.at Y hZ hEL H).trans ?_⟩
      rw [← hp.2.1]; exact e5)
theorem Pay.of_back {y : MethodName} {len W : Nat} {as' : Array Value} {rc rs : Nat} {Q0 : Option Value → Heap → List Loc → Prop}
    (hK : Back l R p e below (s.setVm vm) args y len W (fun A a => a = as' ∧ A.U.heap = h ∧ A.cells + rc ≤ R.cells ∧ A.slots + rs ≤ R.slots) (fun A _ v B => ∃ L, Q0 v B.U.heap L ∧ B.locs = A.locs ++ L ∧ B.cells = A.cells + rc ∧ B.slots = A.slots + rs))
    (hZ : Z.Warmed39 vm) (H : CHv Z EL vm h) (hEL : EW Z a0 EL)
    (hq : ∀ v h' L, Q0 v h' L → Fr Z.heap.size L ∧ (∃ ws, Keep h h' ws ∧ ∀ x ∈ ws, Safe Z EL vm h x) ∧ ∀ vm', CHr Z EL vm h vm' h' → Q v vm' h') : Pay l R p e below s args Z EL vm h y len W as' rc rs Q := by
  intro m meth c A g ig mk a X hg hsize hdg hW hn hp
  obtain ⟨v, B, X', ⟨L, q0, q1, q2, q3⟩, hsteps⟩ := hK m meth c A g ig mk a X hg hsize hdg hW hn hp
  obtain ⟨hF, ⟨ws, K, hs⟩, hQ⟩ := hq _ _ _ q0
  have C1 : CHr Z EL vm h vm B.U.heap := CHr.keep K hs H
  have C2 : CHr Z EL vm h B.U.vm B.U.heap := C1.trans (CHv.at X' hZ hEL C1.1)
  exact ⟨v, B, X'.retabled X'.warmed.wide, X'.warmed.since _, by rw [hp.2.1]; exact K.1, ⟨L, ⟨hF, hQ _ C2⟩, q1, q2, q3, C2⟩, hsteps⟩
theorem Pay.mono {y : MethodName} {len W rc rs : Nat} {as' : Array Value} {Q' : Option Value → Vm → Heap → Prop} (hP : Pay l R p e below s args Z EL vm h y len W as' rc rs Q) (hq : ∀ v vm' h', Q v vm' h' → Q' v vm' h') : Pay l R p e below s args Z EL vm h y len W as' rc rs Q' := by
  intro m meth c A g ig mk a X hg hsize hdg hW hn hp
  obtain ⟨v, B, X', h1, h2, ⟨L, ⟨q1, q2⟩, r⟩, st⟩ := hP m meth c A g ig mk a X hg hsize hdg hW hn hp
  exact ⟨v, B, X', h1, h2, ⟨L, ⟨q1, hq _ _ _ q2⟩, r⟩, st⟩
/-- behind any call -/
theorem gback {y : MethodName} {rc rs : Nat} {as' : Array Value} {Q' : Option Value → Vm → Heap → Prop} {rest : List Value} {pc' : Nat} {L : Array Slot}
    (st : ∀ T locs, Stand p l e R (s.setVm vm) m args below meth c T locs cells slots → Z.Warmed39 vm → vm.findClass own = some m.cls → T.heap = h → CHv Z EL vm h → EW Z a0 EL →
      ∃ (v : Option Value) (vm₁ : Vm) (B : Pt), (s.setVm vm).WarmedH vm₁ ∧ Stand p l e R ((s.setVm vm).setVm B.U.vm) m args below meth c B.U B.locs B.cells B.slots ∧ (s.setVm vm).Since B.U.vm B.U.heap.size ∧ T.heap.size ≤ B.U.heap.size ∧
        (∃ L, (Fr Z.heap.size L ∧ Q' v B.U.vm B.U.heap) ∧ B.locs = locs ++ L ∧ B.cells = cells + rc ∧ B.slots = slots + rs ∧ CHr Z EL vm h B.U.vm B.U.heap) ∧ Steps p.tables e below (T.setTop g) (B.U.setTop (mkF m pc' L (v.toList ++ rest))))
    (k : ∀ v vm' h', CHr Z EL vm h vm' h' → Q' v vm' h' → Go p l e R s m args below meth c Z a0 EL own Q vm' h' (cells + rc) (slots + rs) (mkF m pc' L (v.toList ++ rest))) : Go p l e R s m args below meth c Z a0 EL own Q vm h cells slots g := fun T X => by
  obtain ⟨locs, k0, X', eT, hZ, hown, hS, hk, N, H, E0, hEL, hx, hlk⟩ := X
  obtain ⟨v, vm1, ⟨U, Lx, cx, sx⟩, hW1, X1, hS1, hgr, ⟨L1, ⟨hF, hQ⟩, hl, hc, hs, hC⟩, s1⟩ := st T locs X' hZ hown eT H.1 hEL
  dsimp only [Pt.U, Pt.locs, Pt.cells, Pt.slots] at X1 hS1 hgr hF hQ hl hc hs hC s1
  subst hl hc hs
  obtain ⟨s2, o, q1, q2⟩ := k v U.vm U.heap hC hQ U ⟨_, U.heap.size, X1, rfl, State.Warmed39.trans (t := s.setVm vm) hZ hS1.1, (hS1.1.alike.findClass _ _).trans hown, hS.trans hS1 (Nat.le_trans hk (by rw [← eT]; exact hgr)), Nat.le_refl _, Fr.app N hF, H.trans hC, E0, hEL, hx, hlk⟩
  exact ⟨s2, o, s1.trans q1, q2⟩
end Kit
end Jvm.OwnKit
namespace Jvm.OwnKit
open Sem ClassFile Op Lib Bundle Jvm.Stand Jvm.Free Jvm.LawKit Jvm.RoadKit
section Kit2
variable {p : Program} {l : Launch} {e : Env} {R : Room} {s : State} {m : MethodId} {args : Array Value} {below : List Frame} {meth : Method} {c : Code} {Z : State} {a0 : Array Value} {EL : List (String × Nat)} {own : String} {Q : Option Value → Vm → Heap → Prop} {vm : Vm} {h : Heap} {cells slots : Nat} {g : JFrame}
/-! calls -/
theorem gcallS {index : Nat} {y : MethodName} {bytes : ByteArray} {maxL : Nat} {ret : Option FieldType} (hx : p.tables.exec = Jvm.exec) (wl : (Cond.methodLink own index y).before a0 Z = true) (wst : (Cond.static y).before a0 Z = true) (wz : (Cond.initialized y.cls).before a0 Z = true) (wc : (Cond.code y bytes maxL ret).before a0 Z = true)
    (hy : y.cls ≠ "java/lang/invoke/MethodHandle" ∧ y.cls ≠ "java/lang/invoke/VarHandle") {W rc rs : Nat} {as' : Array Value} {Q' : Option Value → Vm → Heap → Prop} (hP : Z.Warmed39 vm → CHv Z EL vm h → EW Z a0 EL → Pay l R p e below s args Z EL vm h y 3 W as' rc rs Q')
    {pc : Nat} (pc' : Nat) {L : Array Slot} {S argsL rest : List Value} (hlen : ∀ sig, parseMethodDescriptor y.desc = some sig → argsL.length = sig.parameters.length) (has : argsL.toArray = as') (hstk : S = argsL.reverse ++ rest) (hW : (rest.map fun v => v.category).sum ≤ W) (hml : L.size = c.maxLocals)
    (hd : decode c.code pc = .ok (.invokestatic index, 3)) (hp : pc + 3 = pc') (hc : cells + rc ≤ R.cells) (hs : slots + rs ≤ R.slots)
    (k : ∀ v vm' h', CHr Z EL vm h vm' h' → Q' v vm' h' → Go p l e R s m args below meth c Z a0 EL own Q vm' h' (cells + rc) (slots + rs) (mkF m pc' L (v.toList ++ rest))) : Go p l e R s m args below meth c Z a0 EL own Q vm h cells slots (mkF m pc L S) :=
  gback (y := y) (as' := as') (fun T locs X hZ hown eT H hEL => by
    subst has hp hstk
    exact callSS (s := s.setVm vm) X hx hown (mvT hZ wl) (mvT hZ wst) (mvT hZ wz) (mvT hZ wc) hy (hP hZ H hEL) (g := mkF m pc L _) rfl hml hlen rfl (by show 2 * 0 + _ ≤ _; omega) hd (fun _ _ => ⟨rfl, eT, hc, hs⟩)) k
theorem gcallI {index : Nat} {y : MethodName} {bytes : ByteArray} {maxL : Nat} (hx : p.tables.exec = Jvm.exec) (hyi : y.name = "<init>") (wl : (Cond.methodLink own index y).before a0 Z = true) (wi : (Cond.instanceMethod y).before a0 Z = true) (wc : (Cond.code y bytes maxL none).before a0 Z = true)
    (hy : y.cls ≠ "java/lang/invoke/MethodHandle" ∧ y.cls ≠ "java/lang/invoke/VarHandle") {W rc rs : Nat} {as' : Array Value} {Q' : Option Value → Vm → Heap → Prop} (hP : Z.Warmed39 vm → CHv Z EL vm h → EW Z a0 EL → Pay l R p e below s args Z EL vm h y 3 W as' rc rs Q')
    {pc : Nat} (pc' : Nat) {L : Array Slot} {S argsL rest : List Value} {a : Addr} (hlen : ∀ sig, parseMethodDescriptor y.desc = some sig → argsL.length = sig.parameters.length) (has : (.ref a :: argsL).toArray = as') (hstk : S = argsL.reverse ++ .ref a :: rest) (hW : (rest.map fun v => v.category).sum ≤ W) (hml : L.size = c.maxLocals)
    (hd : decode c.code pc = .ok (.invokespecial index, 3)) (hp : pc + 3 = pc') (hc : cells + rc ≤ R.cells) (hs : slots + rs ≤ R.slots)
    (k : ∀ v vm' h', CHr Z EL vm h vm' h' → Q' v vm' h' → Go p l e R s m args below meth c Z a0 EL own Q vm' h' (cells + rc) (slots + rs) (mkF m pc' L (v.toList ++ rest))) : Go p l e R s m args below meth c Z a0 EL own Q vm h cells slots (mkF m pc L S) :=
  gback (y := y) (as' := as') (fun T locs X hZ hown eT H hEL => by
    subst has hp hstk
    exact X.specialBackS (s := s.setVm vm) hx hyi hown (mvT hZ wl) (mvT hZ wi) (mvT hZ wc) hy (hP hZ H hEL) (g := mkF m pc L _) rfl hml (Steps.refl _) hlen rfl (by show 2 * 0 + _ ≤ _; omega) hd (fun _ _ => ⟨rfl, eT, hc, hs⟩)) k
theorem gcallV {index : Nat} {C : String} {y z : MethodName} (hx : p.tables.exec = Jvm.exec) (wl : (Cond.methodLink own index y).before a0 Z = true) (wd : (Cond.declares y).before a0 Z = true) (nf : ∀ (U : State), Z.Warmed39 U.vm → NotFace U y) (wsel : (Cond.selects C y z).before a0 Z = true) (wi : (Cond.instanceMethod z).before a0 Z = true)
    (hy : y.cls ≠ "java/lang/invoke/MethodHandle" ∧ y.cls ≠ "java/lang/invoke/VarHandle") {W rc rs : Nat} {as' : Array Value} {Q' : Option Value → Vm → Heap → Prop} (hP : Z.Warmed39 vm → CHv Z EL vm h → EW Z a0 EL → Pay l R p e below s args Z EL vm h z 3 W as' rc rs Q')
    {pc : Nat} (pc' : Nat) {L : Array Slot} {S argsL rest : List Value} {a : Addr} (E : Exa Z h a C) (hlen : ∀ sig, parseMethodDescriptor y.desc = some sig → argsL.length = sig.parameters.length) (has : (.ref a :: argsL).toArray = as') (hstk : S = argsL.reverse ++ .ref a :: rest) (hW : (rest.map fun v => v.category).sum ≤ W) (hml : L.size = c.maxLocals)
    (hd : decode c.code pc = .ok (.invokevirtual index, 3)) (hp : pc + 3 = pc') (hc : cells + rc ≤ R.cells) (hs : slots + rs ≤ R.slots)
    (k : ∀ v vm' h', CHr Z EL vm h vm' h' → Q' v vm' h' → Go p l e R s m args below meth c Z a0 EL own Q vm' h' (cells + rc) (slots + rs) (mkF m pc' L (v.toList ++ rest))) : Go p l e R s m args below meth c Z a0 EL own Q vm h cells slots (mkF m pc L S) :=
  gback (y := z) (as' := as') (fun T locs X hZ hown eT H hEL => by
    subst has hp hstk
    obtain ⟨cB, kB, h1, h2, h3⟩ := isOf (s := s.setVm vm) hZ eT E
    exact X.virtualBackS (s := s.setVm vm) hx hown (mvT hZ wl) (mvT hZ wd) (nf _ hZ) (mvT hZ wsel) (mvT hZ wi) hy (hP hZ H hEL) h1 h3 (g := mkF m pc L _) rfl hml (Steps.refl _) hlen rfl (by show 2 * 0 + _ ≤ _; omega) hd (fun _ _ => ⟨rfl, eT, hc, hs⟩)) k
theorem nfSel {C : String} {y : MethodName} (w : (Cond.selects C y y).before a0 Z = true) : ∀ (U : State), Z.Warmed39 U.vm → NotFace U y := fun U hU => notFace_of_selects (args := #[]) (mvT hU w)
theorem nfSup {S : String} {y : MethodName} (w : (Cond.superclass y.cls S).before a0 Z = true) : ∀ (U : State), Z.Warmed39 U.vm → NotFace U y := fun U hU => nf_super (args := #[]) (mvT hU w)
theorem nfTop {y : MethodName} (w : (Cond.noSuperclass y.cls).before a0 Z = true) : ∀ (U : State), Z.Warmed39 U.vm → NotFace U y := fun U hU => nf_top (args := #[]) (mvT hU w)
theorem gcallF {index count : Nat} {C : String} {xi y : MethodName} (hx : p.tables.exec = Jvm.exec) (wl : (Cond.methodLink own index xi).before a0 Z = true) (wd : (Cond.declares xi).before a0 Z = true) (wf : ∀ (U : State) (aa : Array Value), Z.Warmed39 U.vm → (Cond.interfaceMethod xi.cls xi.cls xi.name xi.desc).before aa U = true) (wsel : (Cond.selects C xi y).before a0 Z = true) (wi : (Cond.instanceMethod y).before a0 Z = true)
    (wp : (Cond.publicMethod y).before a0 Z = true) (wu : (Cond.unhidden C xi.name xi.desc).before a0 Z = true) (wca : (Cond.castable C xi.cls).before a0 Z = true)
    (hy : xi.cls ≠ "java/lang/invoke/MethodHandle" ∧ xi.cls ≠ "java/lang/invoke/VarHandle") {W rc rs : Nat} {as' : Array Value} {Q' : Option Value → Vm → Heap → Prop} (hP : Z.Warmed39 vm → CHv Z EL vm h → EW Z a0 EL → Pay l R p e below s args Z EL vm h y 5 W as' rc rs Q')
    {pc : Nat} (pc' : Nat) {L : Array Slot} {S argsL rest : List Value} {a : Addr} (E : Exa Z h a C) (hlen : ∀ sig, parseMethodDescriptor xi.desc = some sig → argsL.length = sig.parameters.length) (has : (.ref a :: argsL).toArray = as') (hstk : S = argsL.reverse ++ .ref a :: rest) (hW : (rest.map fun v => v.category).sum ≤ W) (hml : L.size = c.maxLocals)
    (hd : decode c.code pc = .ok (.invokeinterface index count, 5)) (hp : pc + 5 = pc') (hc : cells + rc ≤ R.cells) (hs : slots + rs ≤ R.slots)
    (k : ∀ v vm' h', CHr Z EL vm h vm' h' → Q' v vm' h' → Go p l e R s m args below meth c Z a0 EL own Q vm' h' (cells + rc) (slots + rs) (mkF m pc' L (v.toList ++ rest))) : Go p l e R s m args below meth c Z a0 EL own Q vm h cells slots (mkF m pc L S) :=
  gback (y := y) (as' := as') (fun T locs X hZ hown eT H hEL => by
    subst has hp hstk
    obtain ⟨cB, kB, h1, h2, h3⟩ := isOf (s := s.setVm vm) hZ eT E
    exact X.interfaceBackS (s := s.setVm vm) hx hown (mvT hZ wl) (mvT hZ wd) (wf _ _ hZ) (mvT hZ wsel) (mvT hZ wi) (mvT hZ wp) (mvT hZ wu) (mvT hZ wca) hy (hP hZ H hEL) h1 h2 h3 (g := mkF m pc L _) rfl hml (Steps.refl _) hlen rfl (by show 2 * 0 + _ ≤ _; omega) hd (fun _ _ => ⟨rfl, eT, hc, hs⟩)) k
theorem gcallU {index : Nat} {K : String} {y : MethodName} {bytes : ByteArray} {maxL : Nat} {ret : Option FieldType} (hx : p.tables.exec = Jvm.exec) (wl : (Cond.methodLink own index y).before a0 Z = true) (wsm : (Cond.sameMethod y.cls y.cls y.name y.desc).before a0 Z = true) (wi : (Cond.instanceMethod y).before a0 Z = true) (wsu : (Cond.superclass own y.cls).before a0 Z = true) (hn : y.name ≠ "<init>") (wc : (Cond.code y bytes maxL ret).before a0 Z = true)
    {W rc rs : Nat} {as' : Array Value} {Q' : Option Value → Vm → Heap → Prop} (hP : Z.Warmed39 vm → CHv Z EL vm h → EW Z a0 EL → Pay l R p e below s args Z EL vm h y 3 W as' rc rs Q')
    {pc : Nat} (pc' : Nat) {L : Array Slot} {S argsL rest : List Value} {a : Addr} (I : Ins Z h a K true) (hlen : ∀ sig, parseMethodDescriptor y.desc = some sig → argsL.length = sig.parameters.length) (has : (.ref a :: argsL).toArray = as') (hstk : S = argsL.reverse ++ .ref a :: rest) (hW : (rest.map fun v => v.category).sum ≤ W) (hml : L.size = c.maxLocals)
    (hd : decode c.code pc = .ok (.invokespecial index, 3)) (hp : pc + 3 = pc') (hc : cells + rc ≤ R.cells) (hs : slots + rs ≤ R.slots)
    (k : ∀ v vm' h', CHr Z EL vm h vm' h' → Q' v vm' h' → Go p l e R s m args below meth c Z a0 EL own Q vm' h' (cells + rc) (slots + rs) (mkF m pc' L (v.toList ++ rest))) : Go p l e R s m args below meth c Z a0 EL own Q vm h cells slots (mkF m pc L S) :=
  gback (y := y) (as' := as') (fun T locs X hZ hown eT H hEL => by
    subst has hp hstk
    exact superBackS (s := s.setVm vm) X hx hZ hown wl wsm wi wsu hn (hP hZ H hEL) eT I (g := mkF m pc L _) rfl hml wc hlen rfl (by show 2 * 0 + _ ≤ _; omega) hd (fun _ _ => ⟨rfl, eT, hc, hs⟩)) k
theorem gcallP {index : Nat} {y : MethodName} {bytes : ByteArray} {maxL : Nat} {ret : Option FieldType} (hx : p.tables.exec = Jvm.exec) (wl : (Cond.methodLink own index y).before a0 Z = true) (wi : (Cond.instanceMethod y).before a0 Z = true) (wsel : (Cond.selects y.cls y y).before a0 Z = true) (wp : (Cond.privateMethod y).before a0 Z = true) (wc : (Cond.code y bytes maxL ret).before a0 Z = true)
    (hy : y.cls ≠ "java/lang/invoke/MethodHandle" ∧ y.cls ≠ "java/lang/invoke/VarHandle") {W rc rs : Nat} {as' : Array Value} {Q' : Option Value → Vm → Heap → Prop} (hP : Z.Warmed39 vm → CHv Z EL vm h → EW Z a0 EL → Pay l R p e below s args Z EL vm h y 3 W as' rc rs Q')
    {pc : Nat} (pc' : Nat) {L : Array Slot} {S argsL rest : List Value} {a : Addr} {K : String} (E : Exa Z h a K) (hlen : ∀ sig, parseMethodDescriptor y.desc = some sig → argsL.length = sig.parameters.length) (has : (.ref a :: argsL).toArray = as') (hstk : S = argsL.reverse ++ .ref a :: rest) (hW : (rest.map fun v => v.category).sum ≤ W) (hml : L.size = c.maxLocals)
    (hd : decode c.code pc = .ok (.invokevirtual index, 3)) (hp : pc + 3 = pc') (hc : cells + rc ≤ R.cells) (hs : slots + rs ≤ R.slots)
    (k : ∀ v vm' h', CHr Z EL vm h vm' h' → Q' v vm' h' → Go p l e R s m args below meth c Z a0 EL own Q vm' h' (cells + rc) (slots + rs) (mkF m pc' L (v.toList ++ rest))) : Go p l e R s m args below meth c Z a0 EL own Q vm h cells slots (mkF m pc L S) :=
  gback (y := y) (as' := as') (fun T locs X hZ hown eT H hEL => by
    subst has hp hstk
    obtain ⟨cq, q1, q2⟩ := E.cell
    exact X.privateBackS (s := s.setVm vm) hx hown (mvT hZ wl) (mvT hZ wi) (mvT hZ wsel) (Cond.privateMethod_at (mvP (s := s.setVm vm) hZ wp (args := #[]))) (mvT hZ wc) hy (hP hZ H hEL) (g := mkF m pc L _) rfl hml (Steps.refl _) (by rw [eT]; exact q1) q2 hlen rfl (by show 2 * 0 + _ ≤ _; omega) hd (fun _ _ => ⟨rfl, eT, hc, hs⟩)) k
/-- Object.<init> -/
theorem ginitO {idx : Nat} (hx : p.tables.exec = Jvm.exec) (w1 : (Cond.methodLink own idx Lib.objectInit).before a0 Z = true) (w2 : (Cond.instanceMethod Lib.objectInit).before a0 Z = true) (w3 : (Cond.code Lib.objectInit ⟨#[0xb1]⟩ 1 none).before a0 Z = true)
    {pc : Nat} (pc' : Nat) {L : Array Slot} {rest : List Value} {a : Addr} {W : Nat} (hW : (rest.map fun v => v.category).sum ≤ W) (hml : L.size = c.maxLocals) (hd : decode c.code pc = .ok (.invokespecial idx, 3)) (hp : pc + 3 = pc') (hf : 1 ≤ R.frames) (hl : W + 12 ≤ R.locals)
    (k : Go p l e R s m args below meth c Z a0 EL own Q vm h cells slots (mkF m pc' L rest)) : Go p l e R s m args below meth c Z a0 EL own Q vm h cells slots (mkF m pc L (.ref a :: rest)) :=
  gy _ (fun T locs X hZ hown eT => by
    subst hp
    exact initO (s := s.setVm vm) X hx hZ hown w1 w2 w3 eT (g := mkF m pc L (.ref a :: rest)) rfl hml rfl hd hf (W := W) (by show 2 * 0 + _ ≤ _; omega) hl) k
/-! fields -/
theorem ggetF {R0 O n d host : String} {index : Nat} (hx : p.tables.exec = Jvm.exec) (w : (Cond.fieldLink own index R0 n d).before a0 Z = true ∨ (Cond.fieldLinkNest own index R0 n d host).before a0 Z = true) (via : Via Z R0 O n d) {a : Addr} {v : Value} (F : Fld Z h a O n d v)
    {pc : Nat} (pc' : Nat) {L : Array Slot} {rest : List Value} (hd : decode c.code pc = .ok (.getfield index, 3)) (hp : pc + 3 = pc')
    (k : Go p l e R s m args below meth c Z a0 EL own Q vm h cells slots (mkF m pc' L (v :: rest))) : Go p l e R s m args below meth c Z a0 EL own Q vm h cells slots (mkF m pc L (.ref a :: rest)) :=
  gy _ (fun T locs X hZ hown eT => by
    subst hp
    exact getF (s := s.setVm vm) X hx hZ hown (host := host) w via eT F (g := mkF m pc L (.ref a :: rest)) rfl rfl hd) k
theorem ggetS {R0 O n d host : String} {index : Nat} (hx : p.tables.exec = Jvm.exec) (w : (Cond.fieldLink own index R0 n d).before a0 Z = true ∨ (Cond.fieldLinkNest own index R0 n d host).before a0 Z = true) (via : Via Z R0 O n d) {v : Value} (F : Sta Z Z.heap O n d v)
    {pc : Nat} (pc' : Nat) {L : Array Slot} {S : List Value} (hd : decode c.code pc = .ok (.getstatic index, 3)) (hp : pc + 3 = pc')
    (k : Go p l e R s m args below meth c Z a0 EL own Q vm h cells slots (mkF m pc' L (v :: S))) : Go p l e R s m args below meth c Z a0 EL own Q vm h cells slots (mkF m pc L S) :=
  ginfo fun _ _ E => gy _ (fun T locs X hZ hown eT => by
    subst hp
    exact getS2 (s := s.setVm vm) X hx hZ hown (host := host) w via eT (F.ext E) (g := mkF m pc L S) rfl hd) k
theorem gputF {R0 O n d host C : String} {index kk : Nat} {ty : FieldType} (hx : p.tables.exec = Jvm.exec) (w : (Cond.fieldLink own index R0 n d).before a0 Z = true ∨ (Cond.fieldLinkNest own index R0 n d host).before a0 Z = true) (via : Via Z R0 O n d) {a : Addr} {v old : Value} (F : Fld Z h a O n d old) (E : Exa Z h a C)
    (Lw : (Cond.lays C O n d).before a0 Z = true ∨ ((Cond.laysFinal C O n d).before a0 Z = true ∧ own = O ∧ meth.name = "<init>")) (wi : (Cond.instantiable C kk).before a0 Z = true) (hty : parseFieldDescriptor d = some ty) (hn : narrow ty v = v) (hf : fits ty v = true) (ha : Z.heap.size ≤ a) (hs : Z.vm.Alike vm → Safe Z EL vm h a)
    {pc : Nat} (pc' : Nat) {L : Array Slot} {rest : List Value} (hd : decode c.code pc = .ok (.putfield index, 3)) (hp : pc + 3 = pc')
    (k : ∀ h', Wr h h' a (Jvm.RoadKit.slotOf Z O n d) v → CHr Z EL vm h vm h' → Go p l e R s m args below meth c Z a0 EL own Q vm h' cells slots (mkF m pc' L rest)) : Go p l e R s m args below meth c Z a0 EL own Q vm h cells slots (mkF m pc L (v :: .ref a :: rest)) :=
  gwr _ ha hs (fun T locs X hZ hown eT => by
    subst hp
    exact putF (s := s.setVm vm) X hx hZ hown (host := host) w via eT F E Lw wi hty hn hf (g := mkF m pc L (v :: .ref a :: rest)) rfl rfl hd) k
/-! objects and arrays are made -/
theorem gnewO {C : String} {index n : Nat} (hx : p.tables.exec = Jvm.exec) (w : (Cond.classLink own index C).before a0 Z = true) (wi : (Cond.instantiable C n).before a0 Z = true) (wz : (Cond.initialized C).before a0 Z = true)
    {pc : Nat} (pc' : Nat) {L : Array Slot} {S : List Value} (hd : decode c.code pc = .ok (.new index, 3)) (hp : pc + 3 = pc') (hc : cells + 1 ≤ R.cells) (hl : slots + n ≤ R.slots)
    (k : ∀ (b : Addr) (h' : Heap), h.size = b → Ext h h' → CHr Z EL vm h vm h' → Exa Z h' b C → (∀ {O nm d : String} {ty : FieldType}, Laid Z a0 C O nm d → parseFieldDescriptor d = some ty → Fld Z h' b O nm d (defaultValue ty)) → Z.heap.size ≤ b → Safe Z EL vm h' b → Go p l e R s m args below meth c Z a0 EL own Q vm h' (cells + 1) (slots + n) (mkF m pc' L (.ref b :: S))) :
    Go p l e R s m args below meth c Z a0 EL own Q vm h cells slots (mkF m pc L S) :=
  gnew (P := fun h' => Exa Z h' h.size C ∧ ∀ (O nm d : String) (ty : FieldType), Laid Z a0 C O nm d → parseFieldDescriptor d = some ty → Fld Z h' h.size O nm d (defaultValue ty)) (fun _ => mkF m pc' L (.ref h.size :: S))
    (fun T locs X hZ hown eT => by
      subst hp
      obtain ⟨T', h', X', e', E, A, D, -, st⟩ := newO (s := s.setVm vm) X hx hZ hown w wi wz eT (g := mkF m pc L S) rfl hd hc hl
      exact ⟨T', h', X', e', E, ⟨A, fun _ _ _ _ q r => D q r⟩, st⟩)
    (fun h' E hC hP hz hs => k _ h' rfl E hC hP.1 (fun q r => hP.2 _ _ _ _ q r) hz hs)
theorem gnewP {aty : ArrayType} (hx : p.tables.exec = Jvm.exec) (w : (Cond.arrayClass (newarray.typeOf aty)).before a0 Z = true) {n : Int32} (hn : ¬ n < 0) {cap : Nat} (hcap : n.toNatClampNeg ≤ cap) (hb : cap * 8 ≤ 536870912)
    {pc : Nat} (pc' : Nat) {L : Array Slot} {S : List Value} (hd : decode c.code pc = .ok (.newarray aty, 2)) (hp : pc + 2 = pc') (hc : cells + 1 ≤ R.cells) (hl : slots + cap ≤ R.slots)
    (k : ∀ (b : Addr) (h' : Heap) (cA : ClassId), h.size = b → Ext h h' → CHr Z EL vm h vm h' → Arv Z h' b cA (newarray.typeOf aty) n [] (defaultValue (newarray.typeOf aty)) → Z.heap.size ≤ b → Safe Z EL vm h' b → Go p l e R s m args below meth c Z a0 EL own Q vm h' (cells + 1) (slots + cap) (mkF m pc' L (.ref b :: S))) :
    Go p l e R s m args below meth c Z a0 EL own Q vm h cells slots (mkF m pc L (.int n :: S)) :=
  gnew (P := fun h' => ∃ cA, Arv Z h' h.size cA (newarray.typeOf aty) n [] (defaultValue (newarray.typeOf aty))) (fun _ => mkF m pc' L (.ref h.size :: S))
    (fun T locs X hZ hown eT => by
      subst hp
      obtain ⟨T', h', cA, X', e', E, A, st⟩ := newP (s := s.setVm vm) X hx hZ w eT (g := mkF m pc L (.int n :: S)) rfl hd rfl hn hcap hb hc hl
      exact ⟨T', h', X', e', E, ⟨cA, Arv.new A hn⟩, st⟩)
    (fun h' E hC hP hz hs => by obtain ⟨cA, V⟩ := hP; exact k _ h' cA rfl E hC V hz hs)
theorem gnewR {C : String} {index : Nat} (hx : p.tables.exec = Jvm.exec) (w1 : (Cond.classLink own index C).before a0 Z = true) (w2 : (Cond.arrayOver (.object C)).before a0 Z = true) {n : Int32} (hn : ¬ n < 0) {cap : Nat} (hcap : n.toNatClampNeg ≤ cap) (hb : cap * 8 ≤ 536870912) {ad : String} (had : "[" ++ (FieldType.object C).toString = ad)
    {pc : Nat} (pc' : Nat) {L : Array Slot} {S : List Value} (hd : decode c.code pc = .ok (.anewarray index, 3)) (hp : pc + 3 = pc') (hc : cells + 1 ≤ R.cells) (hl : slots + cap ≤ R.slots)
    (k : ∀ (b : Addr) (h' : Heap) (cA : ClassId), h.size = b → Ext h h' → CHr Z EL vm h vm h' → Arv Z h' b cA (.object C) n [] .null → Exa Z h' b ad → Ovr Z cA C → Z.heap.size ≤ b → Safe Z EL vm h' b → Go p l e R s m args below meth c Z a0 EL own Q vm h' (cells + 1) (slots + cap) (mkF m pc' L (.ref b :: S))) :
    Go p l e R s m args below meth c Z a0 EL own Q vm h cells slots (mkF m pc L (.int n :: S)) :=
  gnew (P := fun h' => ∃ cA, Arv Z h' h.size cA (.object C) n [] .null ∧ Exa Z h' h.size ad ∧ Ovr Z cA C) (fun _ => mkF m pc' L (.ref h.size :: S))
    (fun T locs X hZ hown eT => by
      subst hp
      obtain ⟨T', h', cA, X', e', E, A, X1, O, st⟩ := newRE (s := s.setVm vm) X hx hZ hown w1 w2 eT (g := mkF m pc L (.int n :: S)) rfl hd rfl hn hcap hb hc hl had
      exact ⟨T', h', X', e', E, ⟨cA, Arv.new A hn, X1, O⟩, st⟩)
    (fun h' E hC hP hz hs => by obtain ⟨cA, V, X1, O⟩ := hP; exact k _ h' cA rfl E hC V X1 O hz hs)
/-! arrays are written and read -/
theorem gstC {a : Addr} {kc : ClassId} {n : Int32} {vs : List Value} {d : Value} {j x y : Int32} {i : Nat} (hx : p.tables.exec = Jvm.exec) (F : Arv Z h a kc .char n vs d) (hin : ¬ j < 0 ∧ j < n) (hj : j.toNatClampNeg = i) (hi : i < vs.length) (hy : nar .char x = y) (ha : Z.heap.size ≤ a)
    {pc : Nat} (pc' : Nat) {L : Array Slot} {rest : List Value} (hd : decode c.code pc = .ok (.castore, 1)) (hp : pc + 1 = pc')
    (k : ∀ h', Wr h h' a i (.int y) → CHr Z EL vm h vm h' → Arv Z h' a kc .char n (vs.set i (.int y)) d → Go p l e R s m args below meth c Z a0 EL own Q vm h' cells slots (mkF m pc' L rest)) : Go p l e R s m args below meth c Z a0 EL own Q vm h cells slots (mkF m pc L (.int x :: .int j :: .ref a :: rest)) := by
  subst hy hj hp
  obtain ⟨cl, Ar, q1, q2, q3, q4, q5⟩ := F
  exact gwr _ ha (fun al => Safe.arr al Ar (by decide)) (fun T locs X hZ hown eT => stC (s := s.setVm vm) X hx hZ eT Ar (j := j) (inb_of q2 hin) (g := mkF m pc L (.int x :: .int j :: .ref a :: rest)) rfl rfl hd) fun h' W hC => k h' W hC (Arv.set Ar q1 q2 q3 q4 q5 (fits_nar_char _) W _ rfl hi)
theorem gstB {a : Addr} {kc : ClassId} {n : Int32} {vs : List Value} {d : Value} {j x y : Int32} {i : Nat} (hx : p.tables.exec = Jvm.exec) (F : Arv Z h a kc .byte n vs d) (hin : ¬ j < 0 ∧ j < n) (hj : j.toNatClampNeg = i) (hi : i < vs.length) (hy : nar .byte x = y) (ha : Z.heap.size ≤ a) (hs : Z.vm.Alike vm → Safe Z EL vm h a)
    {pc : Nat} (pc' : Nat) {L : Array Slot} {rest : List Value} (hd : decode c.code pc = .ok (.bastore, 1)) (hp : pc + 1 = pc')
    (k : ∀ h', Wr h h' a i (.int y) → CHr Z EL vm h vm h' → Arv Z h' a kc .byte n (vs.set i (.int y)) d → Go p l e R s m args below meth c Z a0 EL own Q vm h' cells slots (mkF m pc' L rest)) : Go p l e R s m args below meth c Z a0 EL own Q vm h cells slots (mkF m pc L (.int x :: .int j :: .ref a :: rest)) := by
  subst hy hj hp
  obtain ⟨cl, Ar, q1, q2, q3, q4, q5⟩ := F
  exact gwr _ ha hs (fun T locs X hZ hown eT => stB (s := s.setVm vm) X hx hZ eT Ar (j := j) (inb_of q2 hin) (g := mkF m pc L (.int x :: .int j :: .ref a :: rest)) rfl rfl hd) fun h' W hC => k h' W hC (Arv.set Ar q1 q2 q3 q4 q5 (fits_nar_byte _) W _ rfl hi)
theorem gstR {a : Addr} {kc : ClassId} {C : String} {n : Int32} {vs : List Value} {d v : Value} {j : Int32} {i : Nat} (hx : p.tables.exec = Jvm.exec) (F : Arv Z h a kc (.object C) n vs d) (hin : ¬ j < 0 ∧ j < n) (hj : j.toNatClampNeg = i) (hi : i < vs.length) (S : Sto Z h a v) (hv : v.isRef = true) (ha : Z.heap.size ≤ a)
    {pc : Nat} (pc' : Nat) {L : Array Slot} {rest : List Value} (hd : decode c.code pc = .ok (.aastore, 1)) (hp : pc + 1 = pc')
    (k : ∀ h', Wr h h' a i v → CHr Z EL vm h vm h' → Arv Z h' a kc (.object C) n (vs.set i v) d → Go p l e R s m args below meth c Z a0 EL own Q vm h' cells slots (mkF m pc' L rest)) : Go p l e R s m args below meth c Z a0 EL own Q vm h cells slots (mkF m pc L (v :: .int j :: .ref a :: rest)) := by
  subst hj hp
  obtain ⟨cl, Ar, q1, q2, q3, q4, q5⟩ := F
  exact gwr _ ha (fun al => Safe.arr al Ar nofun) (fun T locs X hZ hown eT => stR (s := s.setVm vm) X hx hZ eT Ar (j := j) (inb_of q2 hin) rfl S (g := mkF m pc L (v :: .int j :: .ref a :: rest)) rfl rfl hd) fun h' W hC => k h' W hC (Arv.set Ar q1 q2 q3 q4 q5 (by cases v <;> first | rfl | (cases hv; done)) W _ rfl hi)
theorem gldC {a : Addr} {kc : ClassId} {n : Int32} {vs : List Value} {d v : Value} {j : Int32} {i : Nat} (hx : p.tables.exec = Jvm.exec) (F : Arv Z h a kc .char n vs d) (hin : ¬ j < 0 ∧ j < n) (hj : j.toNatClampNeg = i) (hv : vs.getD i d = v)
    {pc : Nat} (pc' : Nat) {L : Array Slot} {rest : List Value} (hd : decode c.code pc = .ok (.caload, 1)) (hp : pc + 1 = pc')
    (k : Go p l e R s m args below meth c Z a0 EL own Q vm h cells slots (mkF m pc' L (v :: rest))) : Go p l e R s m args below meth c Z a0 EL own Q vm h cells slots (mkF m pc L (.int j :: .ref a :: rest)) := by
  subst hj hp
  obtain ⟨cl, Ar, q1, q2, q3, q4, q5⟩ := F
  exact gx _ (fun T locs X hZ hown eT => X.caload (s := s.setVm vm) hx (by rw [eT]; exact Ar.1) (State.isArrayOf_alike hZ.alike Ar.2.1) Ar.2.2 (inb_of q2 hin) (q4.at (inb_of q2 hin) hv) (g := mkF m pc L (.int j :: .ref a :: rest)) rfl rfl hd) k
theorem gldB {a : Addr} {kc : ClassId} {n : Int32} {vs : List Value} {d v : Value} {j : Int32} {i : Nat} (hx : p.tables.exec = Jvm.exec) (F : Arv Z h a kc .byte n vs d) (hin : ¬ j < 0 ∧ j < n) (hj : j.toNatClampNeg = i) (hv : vs.getD i d = v)
    {pc : Nat} (pc' : Nat) {L : Array Slot} {rest : List Value} (hd : decode c.code pc = .ok (.baload, 1)) (hp : pc + 1 = pc')
    (k : Go p l e R s m args below meth c Z a0 EL own Q vm h cells slots (mkF m pc' L (v :: rest))) : Go p l e R s m args below meth c Z a0 EL own Q vm h cells slots (mkF m pc L (.int j :: .ref a :: rest)) := by
  subst hj hp
  obtain ⟨cl, Ar, q1, q2, q3, q4, q5⟩ := F
  exact gx _ (fun T locs X hZ hown eT => X.baloadBytes (s := s.setVm vm) hx (by rw [eT]; exact Ar.1) (State.isArrayOf_alike hZ.alike Ar.2.1) Ar.2.2 (inb_of q2 hin) (q4.at (inb_of q2 hin) hv) (g := mkF m pc L (.int j :: .ref a :: rest)) rfl rfl hd) k
theorem gldI {a : Addr} {kc : ClassId} {n : Int32} {vs : List Value} {d v : Value} {j : Int32} {i : Nat} (hx : p.tables.exec = Jvm.exec) (F : Arv Z h a kc .int n vs d) (hin : ¬ j < 0 ∧ j < n) (hj : j.toNatClampNeg = i) (hv : vs.getD i d = v)
    {pc : Nat} (pc' : Nat) {L : Array Slot} {rest : List Value} (hd : decode c.code pc = .ok (.iaload, 1)) (hp : pc + 1 = pc')
    (k : Go p l e R s m args below meth c Z a0 EL own Q vm h cells slots (mkF m pc' L (v :: rest))) : Go p l e R s m args below meth c Z a0 EL own Q vm h cells slots (mkF m pc L (.int j :: .ref a :: rest)) := by
  subst hj hp
  obtain ⟨cl, Ar, q1, q2, q3, q4, q5⟩ := F
  exact gx _ (fun T locs X hZ hown eT => X.iaload (s := s.setVm vm) hx (by rw [eT]; exact Ar.1) (State.isArrayOf_alike hZ.alike Ar.2.1) Ar.2.2 (inb_of q2 hin) (q4.at (inb_of q2 hin) hv) (g := mkF m pc L (.int j :: .ref a :: rest)) rfl rfl hd) k
theorem gldR {a : Addr} {kc : ClassId} {C : String} {n : Int32} {vs : List Value} {d v : Value} {j : Int32} {i : Nat} (hx : p.tables.exec = Jvm.exec) (F : Arv Z h a kc (.object C) n vs d) (hin : ¬ j < 0 ∧ j < n) (hj : j.toNatClampNeg = i) (hv : vs.getD i d = v)
    {pc : Nat} (pc' : Nat) {L : Array Slot} {rest : List Value} (hd : decode c.code pc = .ok (.aaload, 1)) (hp : pc + 1 = pc')
    (k : Go p l e R s m args below meth c Z a0 EL own Q vm h cells slots (mkF m pc' L (v :: rest))) : Go p l e R s m args below meth c Z a0 EL own Q vm h cells slots (mkF m pc L (.int j :: .ref a :: rest)) := by
  subst hj hp
  obtain ⟨cl, Ar, q1, q2, q3, q4, q5⟩ := F
  exact gx _ (fun T locs X hZ hown eT => X.aaload (s := s.setVm vm) hx (by rw [eT]; exact Ar.1) (State.isArrayOf_alike hZ.alike Ar.2.1) rfl Ar.2.2 (inb_of q2 hin) (q4.at (inb_of q2 hin) hv) (g := mkF m pc L (.int j :: .ref a :: rest)) rfl rfl hd) k
theorem glen {a : Addr} {kc : ClassId} {ty : FieldType} {n : Int32} {vs : List Value} {d : Value} (hx : p.tables.exec = Jvm.exec) (F : Arv Z h a kc ty n vs d)
    {pc : Nat} (pc' : Nat) {L : Array Slot} {rest : List Value} (hd : decode c.code pc = .ok (.arraylength, 1)) (hp : pc + 1 = pc')
    (k : Go p l e R s m args below meth c Z a0 EL own Q vm h cells slots (mkF m pc' L (.int n :: rest))) : Go p l e R s m args below meth c Z a0 EL own Q vm h cells slots (mkF m pc L (.ref a :: rest)) := by
  subst hp
  obtain ⟨cl, Ar, q1, q2, q3, q4, q5⟩ := F
  exact gx _ (fun T locs X hZ hown eT t kk => X.arraylength (s := s.setVm vm) hx (by rw [eT]; exact Ar.1) (State.isArrayOf_alike hZ.alike Ar.2.1) (g := mkF m pc L (.ref a :: rest)) rfl rfl hd t (by rw [len_of q2 q3]; exact kk)) k
/-! casts, constants -/
theorem gcast {K : String} {index : Nat} (hx : p.tables.exec = Jvm.exec) (w : (Cond.classLink own index K).before a0 Z = true) {a : Addr} (F : Ins Z h a K true) {pc : Nat} (pc' : Nat) {L : Array Slot} {rest : List Value} (hd : decode c.code pc = .ok (.checkcast index, 3)) (hp : pc + 3 = pc')
    (k : Go p l e R s m args below meth c Z a0 EL own Q vm h cells slots (mkF m pc' L (.ref a :: rest))) : Go p l e R s m args below meth c Z a0 EL own Q vm h cells slots (mkF m pc L (.ref a :: rest)) :=
  gy _ (fun T locs X hZ hown eT => by
    subst hp
    exact castY (s := s.setVm vm) X hx hZ hown w eT F (g := mkF m pc L (.ref a :: rest)) rfl rfl hd) k
theorem ginstY {K : String} {index : Nat} (hx : p.tables.exec = Jvm.exec) (w : (Cond.classLink own index K).before a0 Z = true) {a : Addr} (F : Ins Z h a K true) {pc : Nat} (pc' : Nat) {L : Array Slot} {rest : List Value} (hd : decode c.code pc = .ok (.instanceof index, 3)) (hp : pc + 3 = pc')
    (k : Go p l e R s m args below meth c Z a0 EL own Q vm h cells slots (mkF m pc' L (.int 1 :: rest))) : Go p l e R s m args below meth c Z a0 EL own Q vm h cells slots (mkF m pc L (.ref a :: rest)) :=
  gy _ (fun T locs X hZ hown eT => by
    subst hp
    exact instY (s := s.setVm vm) X hx hZ hown w eT F (g := mkF m pc L (.ref a :: rest)) rfl rfl hd) k
theorem ginstN {K C : String} {index : Nat} (hx : p.tables.exec = Jvm.exec) (w : (Cond.classLink own index K).before a0 Z = true) {a : Addr} (E : Exa Z h a C) (F : ∃ c t, Z.vm.findClass C = some c ∧ Z.vm.findClass K = some t ∧ Z.vm.assignable c t = false) {pc : Nat} (pc' : Nat) {L : Array Slot} {rest : List Value} (hd : decode c.code pc = .ok (.instanceof index, 3)) (hp : pc + 3 = pc')
    (k : Go p l e R s m args below meth c Z a0 EL own Q vm h cells slots (mkF m pc' L (.int 0 :: rest))) : Go p l e R s m args below meth c Z a0 EL own Q vm h cells slots (mkF m pc L (.ref a :: rest)) :=
  gy _ (fun T locs X hZ hown eT => by
    subst hp
    exact instNo (s := s.setVm vm) X hx hZ hown w eT E F (g := mkF m pc L (.ref a :: rest)) rfl rfl hd) k
theorem gldcI {index : Nat} {v : Int32} (hx : p.tables.exec = Jvm.exec) (w : (Cond.constant own index v).before a0 Z = true) {pc : Nat} (pc' : Nat) {L : Array Slot} {S : List Value} (hd : decode c.code pc = .ok (.ldc index, 2)) (hp : pc + 2 = pc')
    (k : Go p l e R s m args below meth c Z a0 EL own Q vm h cells slots (mkF m pc' L (.int v :: S))) : Go p l e R s m args below meth c Z a0 EL own Q vm h cells slots (mkF m pc L S) :=
  gx _ (fun T locs X hZ hown eT => by
    subst hp
    exact X.ldcInt (s := s.setVm vm) hx hown (mvT hZ w) (g := mkF m pc L S) rfl hd) k
theorem gldcJ {index : Nat} {v : Int64} (hx : p.tables.exec = Jvm.exec) (w : (Cond.constantLong own index v).before a0 Z = true) {pc : Nat} (pc' : Nat) {L : Array Slot} {S : List Value} (hd : decode c.code pc = .ok (.ldc2_w index, 3)) (hp : pc + 3 = pc')
    (k : Go p l e R s m args below meth c Z a0 EL own Q vm h cells slots (mkF m pc' L (.long v :: S))) : Go p l e R s m args below meth c Z a0 EL own Q vm h cells slots (mkF m pc L S) :=
  gx _ (fun T locs X hZ hown eT => by
    subst hp
    exact X.ldc2Long (s := s.setVm vm) hx hown (mvT hZ w) (g := mkF m pc L S) rfl hd) k
/-- ldc of a String constant whose text isn't read -/
theorem gldcO {index : Nat} {text : String} (hx : p.tables.exec = Jvm.exec) (w : (Cond.stringLink own index text).before a0 Z = true) (wS : ∀ a ∈ Bundle.stringAtoms, a.before a0 Z = true) {n : Nat} (hn : 4 * text.toList.length ≤ n) (hbig : n ≤ 536870912)
    {pc : Nat} (pc' : Nat) {L : Array Slot} {S : List Value} (hd : decode c.code pc = .ok (.ldc index, 2)) (hp : pc + 2 = pc') (hc : cells + 2 ≤ R.cells) (hl : slots + (n + 4) ≤ R.slots)
    (k : ∀ (a : Addr) (vm' : Vm) (h' : Heap), Ext h h' → CHr Z EL vm h vm' h' → Go p l e R s m args below meth c Z a0 EL own Q vm' h' (cells + 2) (slots + (n + 4)) (mkF m pc' L (.ref a :: S))) : Go p l e R s m args below meth c Z a0 EL own Q vm h cells slots (mkF m pc L S) := fun T X => by
  subst hp
  obtain ⟨locs, k0, X', eT, hZ, hown, hS, hk, N, H, E0, hEL, hx', hlk⟩ := X
  obtain ⟨a, T', h', k1, X1, e1, E, hS1, hk1, hZ1, ho1, hC, -, st⟩ := ldcOH X' hx hZ hown w wS eT hS hk hEL H.1 (g := mkF m pc L S) rfl hd hn hbig hc hl
  obtain ⟨s2, o, q1, q2⟩ := k a T'.vm h' E hC T' ⟨locs, k1, X1, e1, hZ1, ho1, hS1, hk1, N, H.trans hC, E0, hEL, hx', hlk⟩
  exact ⟨s2, o, st _ q1, q2⟩
/-- ldc of a String constant of EL, read -/
theorem gldcR {index : Nat} {text : String} (hx : p.tables.exec = Jvm.exec) (w : (Cond.stringLink own index text).before a0 Z = true) (wS : ∀ a ∈ Bundle.stringAtoms, a.before a0 Z = true) (hmem : (own, index) ∈ EL) {n : Nat} (hn : 4 * text.toList.length ≤ n) (hbig : n ≤ 536870912)
    {vs : List Value} {z : Int32} (ht : (∀ c ∈ text.toList, c.toNat < 256) ∧ text.toList.map (fun c => Value.int (Jvm.Lit.byteI c.toNat.toUInt16)) = vs) (hz : ¬ z < 0) (hlz : z.toNatClampNeg = vs.length)
    {pc : Nat} (pc' : Nat) {L : Array Slot} {S : List Value} (hd : decode c.code pc = .ok (.ldc index, 2)) (hp : pc + 2 = pc') (hc : cells + 2 ≤ R.cells) (hl : slots + (n + 4) ≤ R.slots)
    (k : ∀ (a b : Addr) (kb : ClassId) (vm' : Vm) (h' : Heap), Ext h h' → CHr Z EL vm h vm' h' → Exa Z h' a "java/lang/String" → Fld Z h' a "java/lang/String" "coder" "B" (.int 0) → Fld Z h' a "java/lang/String" "value" "[B" (.ref b) → Arv Z h' b kb .byte z vs (.int 0) → (∀ x, Safe Z EL vm' h' x → x ≠ a ∧ x ≠ b) →
      Go p l e R s m args below meth c Z a0 EL own Q vm' h' (cells + 2) (slots + (n + 4)) (mkF m pc' L (.ref a :: S))) : Go p l e R s m args below meth c Z a0 EL own Q vm h cells slots (mkF m pc L S) := fun T X => by
  subst hp
  obtain ⟨locs, k0, X', eT, hZ, hown, hS, hk, N, H, E0, hEL, hx', hlk⟩ := X
  obtain ⟨a, T', h', k1, b, kb, X1, e1, E, hS1, hk1, hZ1, ho1, F1, F2, F3, F4, -, -, hC, -, F5, st⟩ := ldcCH X' hx hZ hown w wS eT hS hk hEL hmem H.1 ht hz hlz (g := mkF m pc L S) rfl hd hn hbig hc hl
  obtain ⟨s2, o, q1, q2⟩ := k a b kb T'.vm h' E hC F1 F2 F3 F4 F5 T' ⟨locs, k1, X1, e1, hZ1, ho1, hS1, hk1, N, H.trans hC, E0, hEL, hx', hlk⟩
  exact ⟨s2, o, st _ q1, q2⟩
end Kit2
end Jvm.OwnKit
namespace Jvm.OwnKit
open Sem ClassFile Op Lib Bundle Jvm.Stand Jvm.Free Jvm.LawKit Jvm.RoadKit
section Kit3
variable {p : Program} {l : Launch} {e : Env} {R : Room} {s : State} {m : MethodId} {args : Array Value} {below : List Frame} {meth : Method} {c : Code} {Z : State} {a0 : Array Value} {EL : List (String × Nat)} {own : String} {Q : Option Value → Vm → Heap → Prop} {vm : Vm} {h h' : Heap} {cells slots : Nat} {g : JFrame}
theorem gi2c {x y : Int32} (hx : p.tables.exec = Jvm.exec) (hy : x.toUInt32.toUInt16.toUInt32.toInt32 = y) {pc : Nat} (pc' : Nat) {L : Array Slot} {rest : List Value} (hd : decode c.code pc = .ok (.i2c, 1)) (hp : pc + 1 = pc')
    (k : Go p l e R s m args below meth c Z a0 EL own Q vm h cells slots (mkF m pc' L (.int y :: rest))) : Go p l e R s m args below meth c Z a0 EL own Q vm h cells slots (mkF m pc L (.int x :: rest)) := by
  subst hy hp
  exact gs _ (fun _ _ A k => XS.i2c A hx rfl hd rfl k) k
theorem narC (x : Int32) : nar .char (x &&& 255) = x &&& 255 := i2c_mask x
theorem narC2 (x : Int32) : nar .char (x.toUInt32.toUInt16.toUInt32.toInt32) = x.toUInt32.toUInt16.toUInt32.toInt32 := by
  show (x.toUInt32.toUInt16.toUInt32.toInt32).toUInt32.toUInt16.toUInt32.toInt32 = _
  simp only [UInt32.toUInt32_toInt32, UInt16.toUInt16_toUInt32]
/-- a char of 0 to 255 -/
def B8 (c : Int32) : Prop := ¬ c < 0 ∧ ¬ (255 : Int32) < c
theorem b255 (x : Int32) : B8 (x &&& 255) := by
  have h := c_mask x 255 8 (by decide) (by decide)
  have e1 : (0 : Int32).toInt = 0 := rfl
  have e2 : (255 : Int32).toInt = 255 := rfl
  refine ⟨?_, ?_⟩
  · rw [Int32.lt_iff_toInt_lt, h, e1]; omega
  · rw [Int32.lt_iff_toInt_lt, h, e2]; omega
theorem bnil : ∀ c ∈ ([] : List Int32), B8 c := fun _ q => nomatch q
theorem bcons {a : Int32} {L : List Int32} (q : B8 a) (r : ∀ c ∈ L, B8 c) : ∀ c ∈ a :: L, B8 c := fun c z => (List.mem_cons.mp z).elim (fun u => u ▸ q) (r c)
/-- an ordinary Latin-1 String and its bytes -/
def Str (Z : State) (h : Heap) (a t : Addr) (cs : List Int32) : Prop := Exa Z h a "java/lang/String" ∧ Fld Z h a "java/lang/String" "coder" "B" (.int 0) ∧ Fld Z h a "java/lang/String" "value" "[B" (.ref t) ∧
  (∃ kb, Arv Z h t kb .byte (Int32.ofNat cs.length) ((cs.map fun c => c.toInt8.toInt32).map Value.int) (.int 0)) ∧ (∀ c ∈ cs, B8 c) ∧ cs.length ≤ 4000
variable {a t o : Addr} {cs : List Int32} {ws : List Addr} {sl : Nat} {v : Value}
theorem Str.ext (F : Str Z h a t cs) (E : Ext h h') : Str Z h' a t cs := by
  obtain ⟨f1, f2, f3, ⟨kb, f4⟩, f5⟩ := F
  exact ⟨f1.ext E, f2.ext E, f3.ext E, ⟨kb, f4.ext E⟩, f5⟩
theorem Str.keep (F : Str Z h a t cs) (K : Keep h h' ws) (q : a ∉ ws) (r : t ∉ ws) : Str Z h' a t cs := by
  obtain ⟨f1, f2, f3, ⟨kb, f4⟩, f5⟩ := F
  exact ⟨f1.keep K, f2.keep K q, f3.keep K q, ⟨kb, f4.keep K r⟩, f5⟩
theorem Str.other (F : Str Z h a t cs) (W : Wr h h' o sl v) (q : a ≠ o) (r : t ≠ o) : Str Z h' a t cs := by
  obtain ⟨f1, f2, f3, ⟨kb, f4⟩, f5⟩ := F
  exact ⟨f1.wr W, f2.other W (Or.inl q), f3.other W (Or.inl q), ⟨kb, f4.other W r⟩, f5⟩
theorem Str.tlt (F : Str Z h a t cs) : t < h.size := by
  obtain ⟨f1, f2, f3, ⟨kb, f4⟩, f5⟩ := F
  exact f4.lt
theorem Str.neT (F : Str Z h a t cs) {x : Addr} {C : String} {n : Nat} (E : Exa Z h x C) (w : (Cond.instantiable C n).before a0 Z = true) : x ≠ t := by
  obtain ⟨f1, f2, f3, ⟨kb, f4⟩, f5⟩ := F
  exact Exa.neArv E f4 w
theorem Str.neq {b u : Addr} {ds : List Int32} (F : Str Z h a t cs) (G : Str Z h b u ds) (q : cs ≠ ds) : a ≠ b := fun e => by
  subst e
  obtain ⟨-, -, f3, ⟨kb, A, f4, -, f6, -, f8, -⟩, f9, f10⟩ := F
  obtain ⟨-, -, g3, ⟨kb', A', g4, -, g6, -, g8, -⟩, g9, g10⟩ := G
  have e1 : t = u := by
    obtain ⟨cell, cf, k, i, f, h1, h2, -, -, -, -, h7⟩ := f3
    obtain ⟨cell', cf', k', i', f', h1', h2', -, -, -, -, h7'⟩ := g3
    cases h1.symm.trans h1'
    cases h2.symm.trans h2'
    have := Option.some.inj (h7.symm.trans h7')
    cases this; rfl
  subst e1
  cases f4.1.symm.trans g4.1
  have e2 : cs.length = ds.length := by
    rw [f6] at g6
    have r : ∀ n : Nat, n ≤ 4000 → (Int32.ofNat n).toNatClampNeg = n := fun n hn => by
      have := (back32 (n := Int32.ofNat n) (by rw [Int32.lt_iff_toInt_lt, Int32.toInt_ofNat_of_lt (by omega)]; simp)).1
      rw [Int32.toNatClampNeg, Int32.toInt_ofNat_of_lt (by omega)]; rfl
    rw [r _ f10, r _ g10] at g6; exact g6
  apply q
  apply List.ext_getElem e2
  intro i h1 h2
  have sz : i < A.slots.size := by
    rw [f6, Int32.toNatClampNeg, Int32.toInt_ofNat_of_lt (by omega)]; exact h1
  have w1 := f8 i sz
  have w2 := g8 i sz
  rw [w1] at w2
  have w3 := Option.some.inj w2
  simp only [List.map_map, List.getD_eq_getElem?_getD, List.getElem?_map, List.getElem?_eq_getElem h1, List.getElem?_eq_getElem h2, Option.map_some, Option.getD_some, Function.comp] at w3
  have w4 := Value.int.inj w3
  have b1 := f9 _ (List.getElem_mem h1)
  have b2 := g9 _ (List.getElem_mem h2)
  generalize cs[i] = x at *
  generalize ds[i] = y at *
  obtain ⟨b1a, b1b⟩ := b1
  obtain ⟨b2a, b2b⟩ := b2
  have c1 := c_i2b x
  have c2 := c_i2b y
  rw [w4] at c1
  rw [Int32.lt_iff_toInt_lt] at b1a b1b b2a b2b
  have e0 : (0 : Int32).toInt = 0 := rfl
  have e255 : (255 : Int32).toInt = 255 := rfl
  rw [e0] at b1a b2a
  rw [e255] at b1b b2b
  apply Int32.toInt_inj.mp
  omega
theorem Str.lit {kb : ClassId} {z : Int32} {vs : List Value} (E : Exa Z h a "java/lang/String") (C : Fld Z h a "java/lang/String" "coder" "B" (.int 0)) (V : Fld Z h a "java/lang/String" "value" "[B" (.ref t)) (A : Arv Z h t kb .byte z vs (.int 0)) (hb : ∀ c ∈ cs, ¬ c < 0 ∧ ¬ (255 : Int32) < c)
    (hz : z = Int32.ofNat cs.length) (hv : vs = (cs.map fun c => c.toInt8.toInt32).map Value.int) (hl : cs.length ≤ 4000) : Str Z h a t cs := ⟨E, C, V, ⟨kb, by rw [← hz, ← hv]; exact A⟩, hb, hl⟩
theorem Arv.sto {kc : ClassId} {C : String} {n : Int32} {vs : List Value} {d : Value} {y : Addr} (F : Arv Z h a kc (.object C) n vs d) (O : Ovr Z kc C) (I : Ins Z h y C true) : Sto Z h a (.ref y) := by
  obtain ⟨cl, Ar, q1, -⟩ := F
  exact Sto.ofV Ar q1 O I
end Kit3
end Jvm.OwnKit
namespace Jvm.OwnKit
open Sem ClassFile Op Lib Bundle Jvm.Stand Jvm.Free Jvm.LawKit Jvm.RoadKit
section Kit4
variable {p : Program} {l : Launch} {e : Env} {R : Room} {s : State} {m : MethodId} {args : Array Value} {below : List Frame} {meth : Method} {c : Code} {Z : State} {a0 : Array Value} {EL : List (String × Nat)} {own : String} {Q : Option Value → Vm → Heap → Prop} {vm : Vm} {h h' : Heap} {cells slots : Nat} {g : JFrame}
theorem Pay.weaken {y : MethodName} {len W rc rs rc' rs' : Nat} {as' : Array Value} (hP : Pay l R p e below s args Z EL vm h y len W as' rc rs Q) (hc : rc ≤ rc') (hs : rs ≤ rs') : Pay l R p e below s args Z EL vm h y len W as' rc' rs' Q := by
  intro m meth c A g ig mk a X hg hsize hdg hW hn hp
  obtain ⟨v, ⟨U, Lx, cx, sx⟩, X', h1, h2, ⟨L, q1, q2, q3, q4, q5⟩, st⟩ := hP m meth c A g ig mk a X hg hsize hdg hW hn ⟨hp.1, hp.2.1, by have := hp.2.2.1; omega, by have := hp.2.2.2; omega⟩
  dsimp only [Pt.U, Pt.locs, Pt.cells, Pt.slots] at X' h1 h2 q1 q2 q3 q4 q5 st
  subst q2 q3 q4
  exact ⟨v, ⟨U, _, A.cells + rc', A.slots + rs'⟩, { X' with same := X'.same.mono (by show A.cells + rc ≤ A.cells + rc'; omega) (by show A.slots + rs ≤ A.slots + rs'; omega) }, h1, h2, ⟨L, q1, rfl, rfl, rfl, q5⟩, st⟩
/-- roads that meet -/
theorem gjoin (P : Vm → Heap → JFrame → Prop) (cells' slots' : Nat) (k1 : ∀ vm' h' g', P vm' h' g' → Go p l e R s m args below meth c Z a0 EL own Q vm' h' cells' slots' g')
    (k2 : (∀ vm' h' g', P vm' h' g' → Go p l e R s m args below meth c Z a0 EL own Q vm' h' cells' slots' g') → Go p l e R s m args below meth c Z a0 EL own Q vm h cells slots g) : Go p l e R s m args below meth c Z a0 EL own Q vm h cells slots g := k2 k1
/-- C's chain of superclasses doesn't meet an instantiable K -/
theorem NSroot {O K : String} {n : Nat} (w : (Cond.noSuperclass O).before a0 Z = true) (wk : (Cond.instantiable K n).before a0 Z = true) (hn : O ≠ K) : NS Z O K := by
  obtain ⟨c, k, h1, h2, h3, -, -⟩ := Cond.noSuperclass_spec w
  obtain ⟨t, k', g1, g2, g3, g4, -⟩ := Cond.instantiable_spec wk
  have ne := ids_ne h1 g1 hn
  refine ⟨c, t, h1, g1, fun fuel => ?_⟩
  cases fuel with
  | zero => rfl
  | succ f => simp [Vm.isSubclassAux, ne, h2, h3]
theorem NSno {C S K : String} {n : Nat} (w : (Cond.superclass C S).before a0 Z = true) (wk : (Cond.instantiable K n).before a0 Z = true) (nn : NS Z C K) (hn : C ≠ K) : ∃ c t, Z.vm.findClass C = some c ∧ Z.vm.findClass K = some t ∧ Z.vm.assignable c t = false := by
  obtain ⟨c, t, h0, g0, n3⟩ := nn
  obtain ⟨p, k, kp, h1, h2, h3, h4, h5, -, h7⟩ := Cond.superclass_spec h0 w
  obtain ⟨t', k', g1, g2, g3, g4, -⟩ := Cond.instantiable_spec wk
  cases g0.symm.trans g1
  have ne := ids_ne h0 g0 hn
  have g5 : k'.isInterface = false := by cases hq : k'.isInterface <;> simp [hq] at g4 ⊢
  refine ⟨c, t, h0, g0, ?_⟩
  show Z.vm.assignableAux (255 + 1) c t = false
  simp [Vm.assignableAux, ne, h2, g2, h5, g3, g5, Vm.isSubclass, n3]
/-- a char[] of Latin-1 signs -/
def ChA (Z : State) (h : Heap) (b : Addr) (cs : List Int32) : Prop := ∃ kc, Arv Z h b kc .char (Int32.ofNat cs.length) (cs.map Value.int) (.int 0) ∧ (∀ c ∈ cs, B8 c) ∧ cs.length ≤ 4000
variable {b : Addr} {cs : List Int32} {ws : List Addr} {sl : Nat} {v : Value} {o : Addr}
theorem ChA.ext (F : ChA Z h b cs) (E : Ext h h') : ChA Z h' b cs := by obtain ⟨k, f, r⟩ := F; exact ⟨k, f.ext E, r⟩
theorem ChA.keep (F : ChA Z h b cs) (K : Keep h h' ws) (q : b ∉ ws) : ChA Z h' b cs := by obtain ⟨k, f, r⟩ := F; exact ⟨k, f.keep K q, r⟩
theorem ChA.wr (F : ChA Z h b cs) (W : Wr h h' o sl v) (q : b ≠ o) : ChA Z h' b cs := by obtain ⟨k, f, r⟩ := F; exact ⟨k, f.other W q, r⟩
theorem ChA.lt (F : ChA Z h b cs) : b < h.size := by obtain ⟨k, f, r⟩ := F; exact f.lt
/-! out of the case's words -/
theorem eqI {t : Term} {x y : Int32} {idx : List Nat} (h1 : t.eval args s none idx s = some (.int x)) (h2 : (Cond.eq t (Term.int y)).value args s none s idx = some true) : x = y := by simpa [Cond.value, Term.eval, h1] using h2
theorem lenlt {t : Term} {v : Value} {aa : Addr} {cl : Cell} (h : (Term.length t).eval args s none [] s = some v) (ht : t.eval args s none [] s = some (.ref aa)) (hA : s.arrayAt? aa = some cl) : cl.slots.size < 2 ^ 31 := by
  apply Decidable.byContradiction
  intro hb
  simp [Term.eval, ht, hA, hb] at h
theorem lenI {t : Term} {n : Int32} {aa : Addr} {cl : Cell} (w : (Cond.eq (Term.length t) (Term.int n)).value args s none s [] = some true) (ht : t.eval args s none [] s = some (.ref aa)) (hA : s.arrayAt? aa = some cl) : cl.slots.size < 2 ^ 31 ∧ cl.slots.size.toInt32 = n := by
  obtain ⟨x, y, f1, f2, -, -⟩ := cmp_v (Or.inl w)
  have hb := lenlt f1 ht hA
  exact ⟨hb, eqI (len_f ht hA hb) w⟩
theorem elI {t : Term} {aa : Addr} {cl : Cell} {j y : Int32} (ht : t.eval args s none [] s = some (.ref aa)) (hc : s.heap[aa]? = some cl) (w : (Cond.eq (Term.elem t (Term.int j)) (Term.int y)).value args s none s [] = some true) : cl.slots[j.toNatClampNeg]? = some (.int y) := by
  obtain ⟨x, y', e1, e2, k1, k2⟩ := cmp_v (Or.inl w)
  cases (Option.some.inj e2 : Value.int y = y')
  obtain ⟨z, rfl⟩ := k2
  have := eqI e1 w
  subst this
  exact (elem_in e1 ht rfl hc).2
theorem fldI {t : Term} {aa : Addr} {C n d : String} {y : Int32} (ht : t.eval args s none [] s = some (.ref aa)) (w : (Cond.eq (Term.field t C n d) (Term.int y)).value args s none s [] = some true) : Fld s s.heap aa C n d (.int y) := by
  obtain ⟨x, y', e1, e2, k1, k2⟩ := cmp_v (Or.inl w)
  cases (Option.some.inj e2 : Value.int y = y')
  obtain ⟨z, rfl⟩ := k2
  have := eqI e1 w
  subst this
  exact Fld.start ((fld_at ht).symm.trans e1)
theorem Str.start {t : Term} {cs : List Int32} {n : Int32} {aa : Addr} (hf : Fit s) (ev : t.eval args s none [] s = some (.ref aa)) (wE : (Cond.exactly t "java/lang/String").value args s none s [] = some true) (wC : (Cond.eq (Term.field t "java/lang/String" "coder" "B") (Term.int 0)).value args s none s [] = some true)
    (wA : (Cond.arrayOf (Term.field t "java/lang/String" "value" "[B") .byte).value args s none s [] = some true) (wL : (Cond.eq (Term.length (Term.field t "java/lang/String" "value" "[B")) (Term.int n)).value args s none s [] = some true) (hn : n = Int32.ofNat cs.length) (hl : cs.length ≤ 4000) (hb : ∀ c ∈ cs, B8 c)
    (H : ∀ (tt : Addr) (cl : Cell), (Term.field t "java/lang/String" "value" "[B").eval args s none [] s = some (.ref tt) → s.heap[tt]? = some cl → HasL cl 0 ((cs.map fun c => c.toInt8.toInt32).map Value.int)) : ∃ tt, Str s s.heap aa tt cs := by
  obtain ⟨tt, et⟩ := arr_v wA
  obtain ⟨cl, Ar⟩ := Arr.start et wA
  have hA : s.arrayAt? tt = some cl := Ar.fin (Vm.Alike.refl _)
  obtain ⟨h1, h2⟩ := lenI wL et hA
  have hz : ¬ n < 0 := by rw [hn, Int32.lt_iff_toInt_lt, Int32.toInt_ofNat_of_lt (by omega)]; simp
  have hz2 : n.toNatClampNeg = cs.length := by rw [hn, Int32.toNatClampNeg, Int32.toInt_ofNat_of_lt (by omega)]; rfl
  refine ⟨tt, Exa.start ev wE, fldI ev wC, Fld.start ((fld_at ev).symm.trans et), ⟨cl.cls, ?_⟩, hb, hl⟩
  rw [← hn]
  exact Arv.start hf Ar h1 h2 hz (by rw [hz2]; simp) (H tt cl et Ar.1)
end Kit4
end Jvm.OwnKit
/- laws to paste: Road.backV, Road.eqW, Road.codOf (cut by pick.py; bodies as the Statement names them) -/
namespace Jvm.Pilot.@@N@@
namespace StrChars
open Jvm Sem ClassFile Op Lib Jvm.Stand Jvm.Free.XT Jvm.Free.ALB Jvm.Free.JM Jvm.Free
open Jvm.Lib.Cold (StaticIs)
/-- a char array whose places are chars -/
def Ch (a : Addr) (A : Cell) (U : State) : Prop := Arr .char a A U ∧ Typed .char A
theorem Ch.mv {a : Addr} {A : Cell} {U U' : State} (h : Ch a A U) (hal : U.vm.Alike U'.vm) (hh : U'.heap = U.heap) : Ch a A U' := ⟨h.1.mv hal hh, h.2⟩
theorem Ch.keep {a : Addr} {A : Cell} {U U' : State} (h : Ch a A U) (hal : U.vm.Alike U'.vm) (hk : U'.heap[a]? = some A) : Ch a A U' := ⟨h.1.keep hal hk, h.2⟩
/-- what place i of a char[]'s cell holds -/
def cv (A : Cell) (i : Nat) : Int32 := match A.slots[i]? with | some (.int x) => x | _ => 0
theorem Ch.get {a : Addr} {A : Cell} {U : State} (h : Ch a A U) {i : Nat} (hi : i < A.slots.size) : A.slots[i]? = some (.int (cv A i)) := by
  have e := Array.getElem?_eq_getElem hi
  have f := h.2 i _ e
  unfold cv; rw [e]
  generalize A.slots[i] = v at f
  cases v <;> simp [fits] at f ⊢
/-- the byte that i2b leaves of a char -/
def lo8 (x : Int32) : Int32 := x.toInt8.toInt32
theorem fits_lo8 (y : Int32) : fits .byte (.int (lo8 y)) = true := by
  have h1 := y.toInt8.le_toInt
  have h2 := y.toInt8.toInt_lt
  simp only [lo8, fits, Bool.and_eq_true, decide_eq_true_eq, Int32.le_iff_toInt_le, Int8.toInt_toInt32, show (-128 : Int32).toInt = -128 from by decide, show (127 : Int32).toInt = 127 from by decide]
  omega
/-- A' is A but that each place j of lo .. hi - 1 holds f j -/
def Laid (A A' : Cell) (lo hi : Nat) (f : Nat → Value) : Prop := A'.cls = A.cls ∧ A'.vm = A.vm ∧ A'.slots.size = A.slots.size ∧ ∀ i, A'.slots[i]? = if lo ≤ i ∧ i < hi then some (f i) else A.slots[i]?
theorem Laid.zero (A : Cell) (lo : Nat) (f : Nat → Value) : Laid A A lo (lo + 0) f := ⟨rfl, rfl, rfl, fun i => by rw [if_neg (by omega)]⟩
theorem Laid.step {A Ak : Cell} {lo k : Nat} {f : Nat → Value} {v : Value} (h : Laid A Ak lo k f) (hlo : lo ≤ k) (hk : k < Ak.slots.size) (hv : v = f k) : Laid A (Ak.setSlot k v) lo (k + 1) f := by
  refine ⟨h.1, h.2.1, by simpa [Cell.setSlot] using h.2.2.1, fun i => ?_⟩
  by_cases e : k = i
  · subst e; rw [Cell.slots_setSlot_self v hk, if_pos (by omega), hv]
  · rw [Cell.slots_setSlot_ne v e, h.2.2.2 i]
    by_cases q : lo ≤ i ∧ i < k
    · rw [if_pos q, if_pos (by omega)]
    · rw [if_neg q, if_neg (by omega)]
def U16 : String := "java/lang/StringUTF16"
namespace Cmp5
def yN : MethodName := ⟨"java/lang/StringUTF16", "compress", "([CI[BII)I"⟩
abbrev yB : ByteArray := jdk_52_method_21_code
theorem d0 : decode yB 0 = .ok (.iconst 0, 1) := by decide +kernel
theorem d1 : decode yB 1 = .ok (.istore 5, 2) := by decide +kernel
theorem d3 : decode yB 3 = .ok (.iload 5, 2) := by decide +kernel
theorem d5 : decode yB 5 = .ok (.iload 4, 2) := by decide +kernel
theorem d7 : decode yB 7 = .ok (.if_icmp (.ge) 37, 3) := by decide +kernel
theorem d10 : decode yB 10 = .ok (.aload_n 0, 1) := by decide +kernel
theorem d11 : decode yB 11 = .ok (.iload_n 1, 1) := by decide +kernel
theorem d12 : decode yB 12 = .ok (.caload, 1) := by decide +kernel
theorem d13 : decode yB 13 = .ok (.istore 6, 2) := by decide +kernel
theorem d15 : decode yB 15 = .ok (.iload 6, 2) := by decide +kernel
theorem d17 : decode yB 17 = .ok (.sipush 255, 3) := by decide +kernel
theorem d20 : decode yB 20 = .ok (.if_icmp (.le) 6, 3) := by decide +kernel
theorem d26 : decode yB 26 = .ok (.aload_n 2, 1) := by decide +kernel
theorem d27 : decode yB 27 = .ok (.iload_n 3, 1) := by decide +kernel
theorem d28 : decode yB 28 = .ok (.iload 6, 2) := by decide +kernel
theorem d30 : decode yB 30 = .ok (.i2b, 1) := by decide +kernel
theorem d31 : decode yB 31 = .ok (.bastore, 1) := by decide +kernel
theorem d32 : decode yB 32 = .ok (.iinc 1 1, 3) := by decide +kernel
theorem d35 : decode yB 35 = .ok (.iinc 3 1, 3) := by decide +kernel
theorem d38 : decode yB 38 = .ok (.iinc 5 1, 3) := by decide +kernel
theorem d41 : decode yB 41 = .ok (.goto (-38), 3) := by decide +kernel
theorem d44 : decode yB 44 = .ok (.iload 4, 2) := by decide +kernel
theorem d46 : decode yB 46 = .ok (.ireturn, 1) := by decide +kernel
def site : List Cond := []
def tab : Cond := tabOf yN yB 7 (some .int) site
def P (b : Addr) (A : Cell) (d : Addr) (B : Cell) (o q len : Nat) (args : Array Value) (s : State) : Prop := args = #[.ref b, .int (Int32.ofNat o), .ref d, .int (Int32.ofNat q), .int (Int32.ofNat len)] ∧ Ch b A s ∧ Arr .byte d B s ∧ b ≠ d ∧ o + len ≤ A.slots.size ∧ q + len ≤ B.slots.size ∧ ∀ i, i < len → ¬ 255 < cv A (o + i)
def E (b : Addr) (A : Cell) (d : Addr) (B : Cell) (o q len : Nat) (r : Option Value) (s u : State) : Prop := r = some (.int (Int32.ofNat len)) ∧ ∃ B', Put d B' s u ∧ Laid B B' q (q + len) (fun j => Value.int (lo8 (cv A (o + (j - q)))))
/-- no char of the range above 255: len; the places written hold each char's low byte -/
theorem law (l : Launch) (b : Addr) (A : Cell) (d : Addr) (B : Cell) (o q len : Nat) : Law l yN 5 5 0 0 yB 7 (some .int) site (P b A d B o q len) (E b A d B o q len) (copyLocs d q len) 0 0 := by
  refine Law.of_walk (plainFor_of_name (by decide +kernel)) (by decide +kernel) (by decide +kernel) (by decide) (fun _ _ h => by rw [h.1]; rfl) (fun _ U U' hal hh h => ⟨h.1, h.2.1.mv hal hh, h.2.2.1.mv hal hh, h.2.2.2⟩) (fun r U U' V V' h1 hal h2 h => ⟨h.1, h.2.elim fun B' q => ⟨B', q.1.mv h1 h2, q.2⟩⟩) ?_
  intro p e s m args below meth c s₁ X0 hexec hbytes hml hret hlk hnm hown hh0 W hP
  obtain ⟨rfl, hA, hB, hne, l1, l2, hp⟩ := hP
  have c1 : Steps p.tables e below (s₁.setTop (entryFrame m #[.ref b, .int (Int32.ofNat o), .ref d, .int (Int32.ofNat q), .int (Int32.ofNat len)] 7)) (s₁.setTop (mkF m 0 #[.val (.ref b), .val (.int (Int32.ofNat o)), .val (.ref d), .val (.int (Int32.ofNat q)), .val (.int (Int32.ofNat len)), .unset, .unset] [])) := entry rfl
  have hA0 := hA.1.mv X0.warmed.alike hh0
  have hB0 := hB.mv X0.warmed.alike hh0
  have a31 := hA.1.2.2.2
  have c2 : Steps p.tables e below (s₁.setTop (entryFrame m #[.ref b, .int (Int32.ofNat o), .ref d, .int (Int32.ofNat q), .int (Int32.ofNat len)] 7)) (s₁.setTop (mkF m 3 #[.val (.ref b), .val (.int (Int32.ofNat o)), .val (.ref d), .val (.int (Int32.ofNat q)), .val (.int (Int32.ofNat len)), .val (.int 0), .unset] [])) := c1.trans (by
    refine iconstV X0.here hexec rfl 0 (hb hbytes d0) (by decide) ?_
    refine XS.istore X0.here hexec rfl (hb hbytes d1) rfl rfl ?_
    exact Steps.refl _)
  have loop : ∀ (r i : Nat), i + r = len → ∀ (z : Slot), (z = .unset ∨ ∃ w, z = .val w ∧ w.category = 1) → ∀ (Tl : State) (Bk : Cell), Stand p l e { frames := 0, locals := 0, cells := 0, slots := 0 } s m #[.ref b, .int (Int32.ofNat o), .ref d, .int (Int32.ofNat q), .int (Int32.ofNat len)] below meth c Tl ([] ++ copyLocs d q i) 0 0 → Put d Bk s₁ Tl → Laid B Bk q (q + i) (fun j => Value.int (lo8 (cv A (o + (j - q))))) →
      Steps p.tables e below (s₁.setTop (entryFrame m #[.ref b, .int (Int32.ofNat o), .ref d, .int (Int32.ofNat q), .int (Int32.ofNat len)] 7)) (Tl.setTop (mkF m 3 #[.val (.ref b), .val (.int (Int32.ofNat (o + i))), .val (.ref d), .val (.int (Int32.ofNat (q + i))), .val (.int (Int32.ofNat len)), .val (.int (Int32.ofNat i)), z] [])) → ∃ (T' : State) (B' : Cell) (z' : Slot), Stand p l e { frames := 0, locals := 0, cells := 0, slots := 0 } s m #[.ref b, .int (Int32.ofNat o), .ref d, .int (Int32.ofNat q), .int (Int32.ofNat len)] below meth c T' ([] ++ copyLocs d q len) 0 0 ∧ Put d B' s₁ T' ∧ Laid B B' q (q + len) (fun j => Value.int (lo8 (cv A (o + (j - q))))) ∧
      Steps p.tables e below (s₁.setTop (entryFrame m #[.ref b, .int (Int32.ofNat o), .ref d, .int (Int32.ofNat q), .int (Int32.ofNat len)] 7)) (T'.setTop (mkF m 3 #[.val (.ref b), .val (.int (Int32.ofNat (o + len))), .val (.ref d), .val (.int (Int32.ofNat (q + len))), .val (.int (Int32.ofNat len)), .val (.int (Int32.ofNat len)), z'] [])) := by
    intro r
    induction r with
    | zero =>
      intro i hi z hz Tl Bk Xl pl fl cl
      have hil : i = len := by omega
      rw [hil] at Xl fl cl
      exact ⟨Tl, Bk, z, Xl, pl, fl, cl⟩
    | succ r ih =>
      intro i hi z hz Tl Bk Xl pl fl cl
      have all := X0.warmed.alike.symm.trans Xl.warmed.alike
      have hAl := hA0.keep all (pl.other hne hA0.1)
      have hBk := hB0.like all pl.1 fl.1 fl.2.1 fl.2.2.1
      have hlt : q + i < Bk.slots.size := by rw [fl.2.2.1]; omega
      have c3 : Steps p.tables e below (s₁.setTop (entryFrame m #[.ref b, .int (Int32.ofNat o), .ref d, .int (Int32.ofNat q), .int (Int32.ofNat len)] 7)) (Tl.setTop (mkF m 12 #[.val (.ref b), .val (.int (Int32.ofNat (o + i))), .val (.ref d), .val (.int (Int32.ofNat (q + i))), .val (.int (Int32.ofNat len)), .val (.int (Int32.ofNat i)), z] [.int (Int32.ofNat (o + i)), .ref b])) := cl.trans (by
        refine XS.iload Xl.here hexec rfl (hb hbytes d3) rfl ?_
        refine XS.iload Xl.here hexec rfl (hb hbytes d5) rfl ?_
        refine XS.icmpNo Xl.here hexec rfl (hb hbytes d7) rfl (ii_ge_f (lt32 (by omega) (by omega))) ?_
        refine XS.aloadN Xl.here hexec rfl (hb hbytes d10) rfl rfl ?_
        refine XS.iloadN Xl.here hexec rfl (hb hbytes d11) rfl ?_
        exact Steps.refl _)
      have c4 : Steps p.tables e below (s₁.setTop (entryFrame m #[.ref b, .int (Int32.ofNat o), .ref d, .int (Int32.ofNat q), .int (Int32.ofNat len)] 7)) (Tl.setTop (mkF m 13 #[.val (.ref b), .val (.int (Int32.ofNat (o + i))), .val (.ref d), .val (.int (Int32.ofNat (q + i))), .val (.int (Int32.ofNat len)), .val (.int (Int32.ofNat i)), z] [.int (cv A (o + i))])) := c3.trans (by
        refine Xl.aget hexec hAl rfl (hA.get (i := o + i) (by omega)) rfl rfl (hb hbytes d12) ?_
        exact Steps.refl _)
      have c5 : Steps p.tables e below (s₁.setTop (entryFrame m #[.ref b, .int (Int32.ofNat o), .ref d, .int (Int32.ofNat q), .int (Int32.ofNat len)] 7)) (Tl.setTop (mkF m 15 #[.val (.ref b), .val (.int (Int32.ofNat (o + i))), .val (.ref d), .val (.int (Int32.ofNat (q + i))), .val (.int (Int32.ofNat len)), .val (.int (Int32.ofNat i)), .val (.int (cv A (o + i)))] [])) := c4.trans (by
        refine XS.istoreS Xl.here hexec rfl (hb hbytes d13) rfl rfl hz ?_
        exact Steps.refl _)
      have c6 : Steps p.tables e below (s₁.setTop (entryFrame m #[.ref b, .int (Int32.ofNat o), .ref d, .int (Int32.ofNat q), .int (Int32.ofNat len)] 7)) (Tl.setTop (mkF m 31 #[.val (.ref b), .val (.int (Int32.ofNat (o + i))), .val (.ref d), .val (.int (Int32.ofNat (q + i))), .val (.int (Int32.ofNat len)), .val (.int (Int32.ofNat i)), .val (.int (cv A (o + i)))] [.int (lo8 (cv A (o + i))), .int (Int32.ofNat (q + i)), .ref d])) := c5.trans (by
        refine XS.iload Xl.here hexec rfl (hb hbytes d15) rfl ?_
        refine sipushV Xl.here hexec rfl 255 (hb hbytes d17) (by decide) ?_
        refine XS.icmpYes Xl.here hexec rfl (pc0 := 20) rfl (hb hbytes d20) rfl (ii_le_t (hp i (by omega))) (by decide) rfl ?_
        refine XS.aloadN Xl.here hexec rfl (hb hbytes d26) rfl rfl ?_
        refine XS.iloadN Xl.here hexec rfl (hb hbytes d27) rfl ?_
        refine XS.iload Xl.here hexec rfl (hb hbytes d28) rfl ?_
        refine i2b Xl.here hexec rfl (hb hbytes d30) rfl ?_
        exact Steps.refl _)
      obtain ⟨T7, X7, p7, st7⟩ := Xl.aput hexec hBk rfl hlt rfl (fits_lo8 (cv A (o + i))) (g := (mkF m 31 #[.val (.ref b), .val (.int (Int32.ofNat (o + i))), .val (.ref d), .val (.int (Int32.ofNat (q + i))), .val (.int (Int32.ofNat len)), .val (.int (Int32.ofNat i)), .val (.int (cv A (o + i)))] [.int (lo8 (cv A (o + i))), .int (Int32.ofNat (q + i)), .ref d])) rfl (rest := []) rfl (hb hbytes d31)
      have c8 : Steps p.tables e below (s₁.setTop (entryFrame m #[.ref b, .int (Int32.ofNat o), .ref d, .int (Int32.ofNat q), .int (Int32.ofNat len)] 7)) (T7.setTop (mkF m 32 #[.val (.ref b), .val (.int (Int32.ofNat (o + i))), .val (.ref d), .val (.int (Int32.ofNat (q + i))), .val (.int (Int32.ofNat len)), .val (.int (Int32.ofNat i)), .val (.int (cv A (o + i)))] [])) := c6.trans (st7 _ (Steps.refl _))
      have c9 : Steps p.tables e below (s₁.setTop (entryFrame m #[.ref b, .int (Int32.ofNat o), .ref d, .int (Int32.ofNat q), .int (Int32.ofNat len)] 7)) (T7.setTop (mkF m 3 #[.val (.ref b), .val (.int (Int32.ofNat (o + i) + 1)), .val (.ref d), .val (.int (Int32.ofNat (q + i) + 1)), .val (.int (Int32.ofNat len)), .val (.int (Int32.ofNat i + 1)), .val (.int (cv A (o + i)))] [])) := c8.trans (by
        refine iincV X7.here hexec rfl 1 (hb hbytes d32) (by decide) rfl rfl ?_
        refine iincV X7.here hexec rfl 1 (hb hbytes d35) (by decide) rfl rfl ?_
        refine iincV X7.here hexec rfl 1 (hb hbytes d38) (by decide) rfl rfl ?_
        refine XS.goto X7.here hexec rfl (pc0 := 41) rfl (hb hbytes d41) (by decide) rfl ?_
        exact Steps.refl _)
      have c10 : Steps p.tables e below (s₁.setTop (entryFrame m #[.ref b, .int (Int32.ofNat o), .ref d, .int (Int32.ofNat q), .int (Int32.ofNat len)] 7)) (T7.setTop (mkF m 3 #[.val (.ref b), .val (.int (Int32.ofNat (o + (i + 1)))), .val (.ref d), .val (.int (Int32.ofNat (q + (i + 1)))), .val (.int (Int32.ofNat len)), .val (.int (Int32.ofNat (i + 1))), .val (.int (cv A (o + i)))] [])) := by
        have := c9
        rw [succ32, succ32, succ32] at this
        exact this
      exact ih (i + 1) (by omega) _ (Or.inr ⟨_, rfl, rfl⟩) T7 _ (by rw [copyLocs_step, ← List.append_assoc]; exact X7) (pl.trans p7) (fl.step (by omega) hlt (by simp)) c10
  obtain ⟨T9, B9, z9, X9, p9, f9, g9⟩ := loop len 0 (by omega) .unset (Or.inl rfl) s₁ B (by simpa [copyLocs] using X0) ⟨hB0.1, fun _ _ => rfl, rfl⟩ (Laid.zero _ _ _) c2
  have c11 : Steps p.tables e below (s₁.setTop (entryFrame m #[.ref b, .int (Int32.ofNat o), .ref d, .int (Int32.ofNat q), .int (Int32.ofNat len)] 7)) (T9.setTop (mkF m 46 #[.val (.ref b), .val (.int (Int32.ofNat (o + len))), .val (.ref d), .val (.int (Int32.ofNat (q + len))), .val (.int (Int32.ofNat len)), .val (.int (Int32.ofNat len)), z9] [.int (Int32.ofNat len)])) := g9.trans (by
    refine XS.iload X9.here hexec rfl (hb hbytes d3) rfl ?_
    refine XS.iload X9.here hexec rfl (hb hbytes d5) rfl ?_
    refine XS.icmpYes X9.here hexec rfl (pc0 := 7) rfl (hb hbytes d7) rfl (ii_ge_t (nlt32 (by omega) (Nat.le_refl _))) (by decide) rfl ?_
    refine XS.iload X9.here hexec rfl (hb hbytes d44) rfl ?_
    exact Steps.refl _)
  exact ⟨T9, some (.int (Int32.ofNat len)), _, _, _, X9, by simp, rfl, rfl, (fun h => by cases h), ⟨rfl, B9, p9.from hh0, f9⟩, fun fs hl => c11.trans (X9.ireturnOut hexec hret rfl (Or.inl rfl) (hb hbytes d46) hl)⟩
end Cmp5
namespace Cmp3
def yN : MethodName := ⟨"java/lang/StringUTF16", "compress", "([CII)[B"⟩
abbrev yB : ByteArray := jdk_52_method_16_code
theorem d0 : decode yB 0 = .ok (.iload_n 2, 1) := by decide +kernel
theorem d1 : decode yB 1 = .ok (.newarray .byte, 2) := by decide +kernel
theorem d3 : decode yB 3 = .ok (.astore_n 3, 1) := by decide +kernel
theorem d4 : decode yB 4 = .ok (.aload_n 0, 1) := by decide +kernel
theorem d5 : decode yB 5 = .ok (.iload_n 1, 1) := by decide +kernel
theorem d6 : decode yB 6 = .ok (.aload_n 3, 1) := by decide +kernel
theorem d7 : decode yB 7 = .ok (.iconst 0, 1) := by decide +kernel
theorem d8 : decode yB 8 = .ok (.iload_n 2, 1) := by decide +kernel
theorem d9 : decode yB 9 = .ok (.invokestatic 115, 3) := by decide +kernel
theorem d12 : decode yB 12 = .ok (.istore 4, 2) := by decide +kernel
theorem d14 : decode yB 14 = .ok (.iload 4, 2) := by decide +kernel
theorem d16 : decode yB 16 = .ok (.iload_n 2, 1) := by decide +kernel
theorem d17 : decode yB 17 = .ok (.if_icmp (.eq) 40, 3) := by decide +kernel
theorem d57 : decode yB 57 = .ok (.aload_n 3, 1) := by decide +kernel
theorem d58 : decode yB 58 = .ok (.areturn, 1) := by decide +kernel
def site : List Cond := [.arrayClass .byte, Cmp5.tab] ++ staticW U16 115 Cmp5.yN
def tab : Cond := tabOf yN yB 6 (some (.array .byte)) site
def P (b : Addr) (A : Cell) (o len : Nat) (args : Array Value) (s : State) : Prop := args = #[.ref b, .int (Int32.ofNat o), .int (Int32.ofNat len)] ∧ Ch b A s ∧ o + len ≤ A.slots.size ∧ len ≤ 536870912 ∧ ∀ i, i < len → ¬ 255 < cv A (o + i)
def E (b : Addr) (A : Cell) (o len : Nat) (r : Option Value) (s u : State) : Prop := NewArr .byte "[B" len (fun j => .int (lo8 (cv A (o + j)))) r s u ∧ u.heap.size = s.heap.size + 1
/-- no char of the range above 255: a new byte[] of their low bytes -/
theorem law (l : Launch) (b : Addr) (A : Cell) (o len : Nat) : Law l yN 3 3 1 18 yB 6 (some (.array .byte)) site (P b A o len) (E b A o len) [] 1 len := by
  refine Law.of_walk (plainFor_of_name (by decide +kernel)) (by decide +kernel) (by decide +kernel) (by decide) (fun _ _ h => by rw [h.1]; rfl) (fun _ U U' hal hh h => ⟨h.1, h.2.1.mv hal hh, h.2.2⟩) (fun r U U' V V' h1 hal h2 h => ⟨NewArr.mv r U U' V V' h1 hal h2 h.1, by rw [h1, h2]; exact h.2⟩) ?_
  intro p e s m args below meth c s₁ X0 hexec hbytes hml hret hlk hnm hown hh0 W hP
  obtain ⟨rfl, hA, l1, l2, hp⟩ := hP
  have a31 := hA.1.2.2.2
  have c1 : Steps p.tables e below (s₁.setTop (entryFrame m #[.ref b, .int (Int32.ofNat o), .int (Int32.ofNat len)] 6)) (s₁.setTop (mkF m 0 #[.val (.ref b), .val (.int (Int32.ofNat o)), .val (.int (Int32.ofNat len)), .unset, .unset, .unset] [])) := entry rfl
  have c2 : Steps p.tables e below (s₁.setTop (entryFrame m #[.ref b, .int (Int32.ofNat o), .int (Int32.ofNat len)] 6)) (s₁.setTop (mkF m 1 #[.val (.ref b), .val (.int (Int32.ofNat o)), .val (.int (Int32.ofNat len)), .unset, .unset, .unset] [.int (Int32.ofNat len)])) := c1.trans (by
    refine XS.iloadN X0.here hexec rfl (hb hbytes d0) rfl ?_
    exact Steps.refl _)
  obtain ⟨T3, B3, X3, ba3, bs3, bv3, bh3, bf3, st3⟩ := X0.anew hexec (atype := .byte) (wk W (.arrayClass .byte)) rfl (by show len * 1 ≤ _; omega) (by omega) (g := (mkF m 1 #[.val (.ref b), .val (.int (Int32.ofNat o)), .val (.int (Int32.ofNat len)), .unset, .unset, .unset] [.int (Int32.ofNat len)])) rfl (hb hbytes d1) (rest := []) rfl (Nat.le_refl _) (by show 0 + len ≤ len; omega)
  rw [hh0] at ba3 st3
  have kp3 : XT.Kept s T3 := (XT.Kept.of_eq hh0).push bh3
  have hA3 := hA.keep X3.warmed.alike (kp3 _ _ hA.1.1)
  have hne : b ≠ s.heap.size := hA.1.ne
  have c4 : Steps p.tables e below (s₁.setTop (entryFrame m #[.ref b, .int (Int32.ofNat o), .int (Int32.ofNat len)] 6)) (T3.setTop (mkF m 3 #[.val (.ref b), .val (.int (Int32.ofNat o)), .val (.int (Int32.ofNat len)), .unset, .unset, .unset] [.ref s.heap.size])) := c2.trans (st3 _ (Steps.refl _))
  have c5 : Steps p.tables e below (s₁.setTop (entryFrame m #[.ref b, .int (Int32.ofNat o), .int (Int32.ofNat len)] 6)) (T3.setTop (mkF m 9 #[.val (.ref b), .val (.int (Int32.ofNat o)), .val (.int (Int32.ofNat len)), .val (.ref s.heap.size), .unset, .unset] [.int (Int32.ofNat len), .int 0, .ref s.heap.size, .int (Int32.ofNat o), .ref b])) := c4.trans (by
    refine XS.astoreN X3.here hexec rfl (hb hbytes d3) rfl rfl rfl ?_
    refine XS.aloadN X3.here hexec rfl (hb hbytes d4) rfl rfl ?_
    refine XS.iloadN X3.here hexec rfl (hb hbytes d5) rfl ?_
    refine XS.aloadN X3.here hexec rfl (hb hbytes d6) rfl rfl ?_
    refine iconstV X3.here hexec rfl 0 (hb hbytes d7) (by decide) ?_
    refine XS.iloadN X3.here hexec rfl (hb hbytes d8) rfl ?_
    exact Steps.refl _)
  obtain ⟨v6, T6, X6, E6, g6⟩ := X3.callS hexec (Cmp5.law l b A s.heap.size B3 o 0 len) hown (wks W (staticW U16 115 Cmp5.yN)) (wk W Cmp5.tab) (W := 0) (Nat.le_of_ble_eq_true rfl) (Nat.le_of_ble_eq_true rfl) (Nat.le_refl _) (by show 0 + len + 0 ≤ len; omega) (g := (mkF m 9 #[.val (.ref b), .val (.int (Int32.ofNat o)), .val (.int (Int32.ofNat len)), .val (.ref s.heap.size), .unset, .unset] [.int (Int32.ofNat len), .int (Int32.ofNat 0), .ref s.heap.size, .int (Int32.ofNat o), .ref b])) rfl (by rw [hml]; rfl) c5 (argsL := [.ref b, .int (Int32.ofNat o), .ref s.heap.size, .int (Int32.ofNat 0), .int (Int32.ofNat len)]) (rest := []) rfl rfl (by show 2 * 0 + 0 ≤ _; decide) (hb hbytes d9) (⟨rfl, hA3, ba3, hne, l1, by rw [bs3]; simp, hp⟩)
  obtain ⟨rfl, B6, p6, f6⟩ := E6
  have c7 : Steps p.tables e below (s₁.setTop (entryFrame m #[.ref b, .int (Int32.ofNat o), .int (Int32.ofNat len)] 6)) (T6.setTop (mkF m 12 #[.val (.ref b), .val (.int (Int32.ofNat o)), .val (.int (Int32.ofNat len)), .val (.ref s.heap.size), .unset, .unset] [.int (Int32.ofNat len)])) := g6
  have c8 : Steps p.tables e below (s₁.setTop (entryFrame m #[.ref b, .int (Int32.ofNat o), .int (Int32.ofNat len)] 6)) (T6.setTop (mkF m 58 #[.val (.ref b), .val (.int (Int32.ofNat o)), .val (.int (Int32.ofNat len)), .val (.ref s.heap.size), .val (.int (Int32.ofNat len)), .unset] [.ref s.heap.size])) := c7.trans (by
    refine XS.istore X6.here hexec rfl (hb hbytes d12) rfl rfl ?_
    refine XS.iload X6.here hexec rfl (hb hbytes d14) rfl ?_
    refine XS.iloadN X6.here hexec rfl (hb hbytes d16) rfl ?_
    refine XS.icmpYes X6.here hexec rfl (pc0 := 17) rfl (hb hbytes d17) rfl (ii_eq_t rfl) (by decide) rfl ?_
    refine XS.aloadN X6.here hexec rfl (hb hbytes d57) rfl rfl ?_
    exact Steps.refl _)
  have X8 := X6.wide (L' := []) (cells' := 1) (slots' := len) (fun x hx hlt => by
    simp only [List.nil_append, copyLocs, List.mem_map, List.mem_range] at hx
    obtain ⟨i, -, rfl⟩ := hx
    exact absurd hlt (Nat.lt_irrefl _)) (Nat.le_refl _) (by omega)
  exact ⟨T6, some (.ref s.heap.size), _, _, _, X8, rfl, rfl, rfl, (fun h => by cases h), ⟨⟨rfl, B6, ba3.like (X3.warmed.alike.symm.trans X6.warmed.alike) p6.1 f6.1 f6.2.1 f6.2.2.1, f6.2.1.trans bv3, by rw [X6.warmed.alike.findClass, f6.1]; exact bf3, by rw [f6.2.2.1, bs3]; simp, fun j hj => by rw [f6.2.2.2 j, if_pos (by omega)]; rfl, kp3.put p6 (Nat.le_refl _)⟩, by rw [p6.2.2, bh3, hh0]; simp⟩, fun fs hl => c8.trans (X8.areturnOut hexec rfl hret rfl (hb hbytes d58) hl)⟩
end Cmp3
namespace CodL
def yN : MethodName := ⟨"java/lang/StringUTF16", "coderFromArrayLen", "([BI)B"⟩
abbrev yB : ByteArray := jdk_52_method_15_code
theorem d0 : decode yB 0 = .ok (.iload_n 1, 1) := by decide +kernel
theorem d1 : decode yB 1 = .ok (.aload_n 0, 1) := by decide +kernel
theorem d2 : decode yB 2 = .ok (.arraylength, 1) := by decide +kernel
theorem d3 : decode yB 3 = .ok (.isub, 1) := by decide +kernel
theorem d4 : decode yB 4 = .ok (.bipush 31, 2) := by decide +kernel
theorem d6 : decode yB 6 = .ok (.iushr, 1) := by decide +kernel
theorem d7 : decode yB 7 = .ok (.i2b, 1) := by decide +kernel
theorem d8 : decode yB 8 = .ok (.ireturn, 1) := by decide +kernel
def site : List Cond := []
def tab : Cond := tabOf yN yB 2 (some .byte) site
def P (d : Addr) (B : Cell) (args : Array Value) (s : State) : Prop := args = #[.ref d, .int (Int32.ofNat B.slots.size)] ∧ Arr .byte d B s
def E (r : Option Value) (s u : State) : Prop := XT.PureE (some (.int 0)) r s u
/-- an array as long as the number of chars: LATIN1 -/
theorem law (l : Launch) (d : Addr) (B : Cell) : Law l yN 2 2 0 0 yB 2 (some .byte) site (P d B) E [] 0 0 := by
  refine Law.of_walk (plainFor_of_name (by decide +kernel)) (by decide +kernel) (by decide +kernel) (by decide) (fun _ _ h => by rw [h.1]; rfl) (fun _ U U' hal hh h => ⟨h.1, h.2.mv hal hh⟩) (fun r U U' V V' h1 hal h2 h => XT.PureE.mv r U U' V V' h1 hal h2 h) ?_
  intro p e s m args below meth c s₁ X0 hexec hbytes hml hret hlk hnm hown hh0 W hP
  obtain ⟨rfl, hB⟩ := hP
  have hB0 := hB.mv X0.warmed.alike hh0
  have c1 : Steps p.tables e below (s₁.setTop (entryFrame m #[.ref d, .int (Int32.ofNat B.slots.size)] 2)) (s₁.setTop (mkF m 0 #[.val (.ref d), .val (.int (Int32.ofNat B.slots.size))] [])) := entry rfl
  have c2 : Steps p.tables e below (s₁.setTop (entryFrame m #[.ref d, .int (Int32.ofNat B.slots.size)] 2)) (s₁.setTop (mkF m 2 #[.val (.ref d), .val (.int (Int32.ofNat B.slots.size))] [.ref d, .int (Int32.ofNat B.slots.size)])) := c1.trans (by
    refine XS.iloadN X0.here hexec rfl (hb hbytes d0) rfl ?_
    refine XS.aloadN X0.here hexec rfl (hb hbytes d1) rfl rfl ?_
    exact Steps.refl _)
  have c3 : Steps p.tables e below (s₁.setTop (entryFrame m #[.ref d, .int (Int32.ofNat B.slots.size)] 2)) (s₁.setTop (mkF m 8 #[.val (.ref d), .val (.int (Int32.ofNat B.slots.size))] [.int (lo8 (ushr (Int32.ofNat B.slots.size - Int32.ofNat B.slots.size) 31))])) := c2.trans (by
    refine X0.alen hexec hB0 rfl rfl (hb hbytes d2) ?_
    refine XS.isub X0.here hexec rfl (hb hbytes d3) rfl ?_
    refine bipushV X0.here hexec rfl 31 (hb hbytes d4) (by decide) ?_
    refine iushr X0.here hexec rfl (hb hbytes d6) rfl ?_
    refine i2b X0.here hexec rfl (hb hbytes d7) rfl ?_
    exact Steps.refl _)
  have e0 : lo8 (ushr (Int32.ofNat B.slots.size - Int32.ofNat B.slots.size) 31) = 0 := by rw [Int32.sub_self]; decide
  rw [e0] at c3
  exact ⟨s₁, some (.int 0), _, _, _, X0, rfl, rfl, rfl, (fun h => by cases h), ⟨rfl, hh0⟩, fun fs hl => c3.trans (X0.ireturnOut hexec hret rfl (Or.inr (Or.inr (Or.inl rfl))) (hb hbytes d8) hl)⟩
end CodL
/-- the String at a is Latin-1 over a new byte[] (the heap's one new cell): the low bytes of the len chars of A from o on; every cell but a is kept -/
def Got (a : Addr) (D : Cell) (fV fC : Field) (A : Cell) (o len : Nat) (r : Option Value) (s u : State) : Prop := r = none ∧ ∃ D' V : Cell, Blank "java/lang/String" a D' u ∧ Same D D' [fV.slot, fC.slot] ∧ D'.slots[fV.slot]? = some (.ref s.heap.size) ∧ D'.slots[fC.slot]? = some (.int 0) ∧ Arr .byte s.heap.size V u ∧ V.vm = .none ∧ u.vm.findClass "[B" = some V.cls ∧ V.slots.size = len ∧ (∀ j, j < len → V.slots[j]? = some (.int (lo8 (cv A (o + j))))) ∧ (∀ (y : Addr) (c : Cell), y ≠ a → s.heap[y]? = some c → u.heap[y]? = some c) ∧ u.heap.size = s.heap.size + 1
theorem Got.mv {a : Addr} {D A : Cell} {fV fC : Field} {o len : Nat} : ∀ r (U U' V V' : State), U'.heap = U.heap → V.vm.Alike V'.vm → V'.heap = V.heap → Got a D fV fC A o len r U V → Got a D fV fC A o len r U' V' :=
  fun r U U' V V' h1 hal h2 ⟨e0, D', X, a1, a2, a3, a4, a5, a6, a7, a8, a9, a10, a11⟩ => ⟨e0, D', X, a1.mv hal h2, a2, by rw [h1]; exact a3, a4, by rw [h1]; exact a5.mv hal h2, a6, by rw [hal.findClass]; exact a7, a8, a9, by rw [h1, h2]; exact a10, by rw [h1, h2]; exact a11⟩
namespace New4
def yN : MethodName := ⟨"java/lang/String", "<init>", "([CIILjava/lang/Void;)V"⟩
abbrev yB : ByteArray := jdk_42_method_149_code
theorem d0 : decode yB 0 = .ok (.aload_n 0, 1) := by decide +kernel
theorem d1 : decode yB 1 = .ok (.invokespecial 1, 3) := by decide +kernel
theorem d4 : decode yB 4 = .ok (.iload_n 3, 1) := by decide +kernel
theorem d5 : decode yB 5 = .ok (.ifCond (.ne) 22, 3) := by decide +kernel
theorem d27 : decode yB 27 = .ok (.getstatic 38, 3) := by decide +kernel
theorem d30 : decode yB 30 = .ok (.ifCond (.eq) 28, 3) := by decide +kernel
theorem d33 : decode yB 33 = .ok (.aload_n 1, 1) := by decide +kernel
theorem d34 : decode yB 34 = .ok (.iload_n 2, 1) := by decide +kernel
theorem d35 : decode yB 35 = .ok (.iload_n 3, 1) := by decide +kernel
theorem d36 : decode yB 36 = .ok (.invokestatic 177, 3) := by decide +kernel
theorem d39 : decode yB 39 = .ok (.astore 5, 2) := by decide +kernel
theorem d41 : decode yB 41 = .ok (.aload_n 0, 1) := by decide +kernel
theorem d42 : decode yB 42 = .ok (.aload 5, 2) := by decide +kernel
theorem d44 : decode yB 44 = .ok (.iload_n 3, 1) := by decide +kernel
theorem d45 : decode yB 45 = .ok (.invokestatic 47, 3) := by decide +kernel
theorem d48 : decode yB 48 = .ok (.putfield 15, 3) := by decide +kernel
theorem d51 : decode yB 51 = .ok (.aload_n 0, 1) := by decide +kernel
theorem d52 : decode yB 52 = .ok (.aload 5, 2) := by decide +kernel
theorem d54 : decode yB 54 = .ok (.putfield 9, 3) := by decide +kernel
theorem d57 : decode yB 57 = .ok (.return_, 1) := by decide +kernel
def site : List Cond := [.fieldLink "java/lang/String" 38 "java/lang/String" "COMPACT_STRINGS" "Z", Cmp3.tab, CodL.tab, .laysFinal "java/lang/String" "java/lang/String" "value" "[B", .fieldLink "java/lang/String" 9 "java/lang/String" "value" "[B", .laysFinal "java/lang/String" "java/lang/String" "coder" "B", .fieldLink "java/lang/String" 15 "java/lang/String" "coder" "B"] ++ objW "java/lang/String" 1 ++ staticW "java/lang/String" 177 Cmp3.yN ++ staticW "java/lang/String" 47 CodL.yN
def tab : Cond := tabOf yN yB 6 none site
def P (a : Addr) (D : Cell) (fV fC : Field) (b : Addr) (A : Cell) (z : Int32) (o len : Nat) (args : Array Value) (s : State) : Prop := args = #[.ref a, .ref b, .int (Int32.ofNat o), .int (Int32.ofNat len), .null] ∧ Blank "java/lang/String" a D s ∧ Found "java/lang/String" "value" "[B" fV s ∧ Found "java/lang/String" "coder" "B" fC s ∧ Ch b A s ∧ StaticIs s "java/lang/String" "COMPACT_STRINGS" "Z" (.int z) ∧ ¬ z = 0 ∧ 0 < len ∧ o + len ≤ A.slots.size ∧ len ≤ 536870912 ∧ ∀ i, i < len → ¬ 255 < cv A (o + i)
def E (a : Addr) (D : Cell) (fV fC : Field) (A : Cell) (o len : Nat) (r : Option Value) (s u : State) : Prop := Got a D fV fC A o len r s u
/-- len > 0, no char of the range above 255: a Latin-1 String of their low bytes -/
theorem law (l : Launch) (a : Addr) (D : Cell) (fV fC : Field) (b : Addr) (A : Cell) (z : Int32) (o len : Nat) : Law l yN 5 4 2 35 yB 6 none site (P a D fV fC b A z o len) (E a D fV fC A o len) [⟨a, fC.slot⟩, ⟨a, fV.slot⟩] 1 len := by
  refine Law.of_walk (plainFor_of_name (by decide +kernel)) (by decide +kernel) (by decide +kernel) (by decide) (fun _ _ h => by rw [h.1]; rfl) (fun _ U U' hal hh h => ⟨h.1, h.2.1.mv hal hh, h.2.2.1.al hal, h.2.2.2.1.al hal, h.2.2.2.2.1.mv hal hh, h.2.2.2.2.2.1.there hal hh, h.2.2.2.2.2.2⟩) (fun r U U' V V' h1 hal h2 h => Got.mv r U U' V V' h1 hal h2 h) ?_
  intro p e s m args below meth c s₁ X0 hexec hbytes hml hret hlk hnm hown hh0 W hP
  obtain ⟨rfl, hB, f1, f2, hA, s1, hz, l0, l1, l2, hp⟩ := hP
  have a31 := hA.1.2.2.2
  have c1 : Steps p.tables e below (s₁.setTop (entryFrame m #[.ref a, .ref b, .int (Int32.ofNat o), .int (Int32.ofNat len), .null] 6)) (s₁.setTop (mkF m 0 #[.val (.ref a), .val (.ref b), .val (.int (Int32.ofNat o)), .val (.int (Int32.ofNat len)), .val .null, .unset] [])) := entry rfl
  have c2 : Steps p.tables e below (s₁.setTop (entryFrame m #[.ref a, .ref b, .int (Int32.ofNat o), .int (Int32.ofNat len), .null] 6)) (s₁.setTop (mkF m 1 #[.val (.ref a), .val (.ref b), .val (.int (Int32.ofNat o)), .val (.int (Int32.ofNat len)), .val .null, .unset] [.ref a])) := c1.trans (by
    refine XS.aloadN X0.here hexec rfl (hb hbytes d0) rfl rfl ?_
    exact Steps.refl _)
  obtain ⟨T3, X3, q3, st3⟩ := X0.oinit hexec hown (wks W (objW "java/lang/String" 1)) (g := (mkF m 1 #[.val (.ref a), .val (.ref b), .val (.int (Int32.ofNat o)), .val (.int (Int32.ofNat len)), .val .null, .unset] [.ref a])) rfl (by rw [hml]; rfl) (rest := []) rfl (hb hbytes d1) (W := 0) (by show 2 * 0 + 0 ≤ _; decide) (Nat.le_of_ble_eq_true rfl) (Nat.le_of_ble_eq_true rfl)
  have hh3 := q3.trans hh0
  have c4 : Steps p.tables e below (s₁.setTop (entryFrame m #[.ref a, .ref b, .int (Int32.ofNat o), .int (Int32.ofNat len), .null] 6)) (T3.setTop (mkF m 27 #[.val (.ref a), .val (.ref b), .val (.int (Int32.ofNat o)), .val (.int (Int32.ofNat len)), .val .null, .unset] [])) := (c2.trans (st3 _ (Steps.refl _))).trans (by
    refine XS.iloadN X3.here hexec rfl (hb hbytes d4) rfl ?_
    refine XS.ifYes X3.here hexec rfl (pc0 := 5) rfl (hb hbytes d5) rfl (i0_ne_t (nz32 (by omega) l0)) (by decide) rfl ?_
    exact Steps.refl _)
  obtain ⟨T5, X5, q5, st5⟩ := X3.sget hexec hown (wk W (.fieldLink "java/lang/String" 38 "java/lang/String" "COMPACT_STRINGS" "Z")) s1 (fun _ _ h => by rw [hh3]; exact h) (g := (mkF m 27 #[.val (.ref a), .val (.ref b), .val (.int (Int32.ofNat o)), .val (.int (Int32.ofNat len)), .val .null, .unset] [])) rfl (hb hbytes d27)
  have hh5 := q5.trans hh3
  have c6 : Steps p.tables e below (s₁.setTop (entryFrame m #[.ref a, .ref b, .int (Int32.ofNat o), .int (Int32.ofNat len), .null] 6)) (T5.setTop (mkF m 30 #[.val (.ref a), .val (.ref b), .val (.int (Int32.ofNat o)), .val (.int (Int32.ofNat len)), .val .null, .unset] [.int z])) := c4.trans (st5 _ (Steps.refl _))
  have c7 : Steps p.tables e below (s₁.setTop (entryFrame m #[.ref a, .ref b, .int (Int32.ofNat o), .int (Int32.ofNat len), .null] 6)) (T5.setTop (mkF m 36 #[.val (.ref a), .val (.ref b), .val (.int (Int32.ofNat o)), .val (.int (Int32.ofNat len)), .val .null, .unset] [.int (Int32.ofNat len), .int (Int32.ofNat o), .ref b])) := c6.trans (by
    refine XS.ifNo X5.here hexec rfl (hb hbytes d30) rfl (i0_eq_f hz) ?_
    refine XS.aloadN X5.here hexec rfl (hb hbytes d33) rfl rfl ?_
    refine XS.iloadN X5.here hexec rfl (hb hbytes d34) rfl ?_
    refine XS.iloadN X5.here hexec rfl (hb hbytes d35) rfl ?_
    exact Steps.refl _)
  obtain ⟨v8, T8, X8, E8, g8⟩ := X5.callS hexec (Cmp3.law l b A o len) hown (wks W (staticW "java/lang/String" 177 Cmp3.yN)) (wk W Cmp3.tab) (W := 0) (Nat.le_of_ble_eq_true rfl) (Nat.le_of_ble_eq_true rfl) (Nat.le_refl _) (by show 0 + len ≤ len; omega) (g := (mkF m 36 #[.val (.ref a), .val (.ref b), .val (.int (Int32.ofNat o)), .val (.int (Int32.ofNat len)), .val .null, .unset] [.int (Int32.ofNat len), .int (Int32.ofNat o), .ref b])) rfl (by rw [hml]; rfl) c7 (argsL := [.ref b, .int (Int32.ofNat o), .int (Int32.ofNat len)]) (rest := []) rfl rfl (by show 2 * 0 + 0 ≤ _; decide) (hb hbytes d36) (⟨rfl, hA.mv X5.warmed.alike hh5, l1, l2, hp⟩)
  obtain ⟨e8, z8⟩ := E8
  obtain ⟨rfl, N, n1, n2, n3, n4, n5, n6⟩ := NewArr.mv _ T5 s _ _ hh5.symm (Vm.Alike.refl _) rfl e8
  rw [hh5] at z8
  have hB1 := hB.keep X8.warmed.alike (n6 _ _ hB.1)
  have hne : s.heap.size ≠ a := (Nat.ne_of_lt (Array.getElem?_eq_some_iff.mp hB.1).1).symm
  have c9 : Steps p.tables e below (s₁.setTop (entryFrame m #[.ref a, .ref b, .int (Int32.ofNat o), .int (Int32.ofNat len), .null] 6)) (T8.setTop (mkF m 39 #[.val (.ref a), .val (.ref b), .val (.int (Int32.ofNat o)), .val (.int (Int32.ofNat len)), .val .null, .unset] [.ref s.heap.size])) := g8
  have c10 : Steps p.tables e below (s₁.setTop (entryFrame m #[.ref a, .ref b, .int (Int32.ofNat o), .int (Int32.ofNat len), .null] 6)) (T8.setTop (mkF m 45 #[.val (.ref a), .val (.ref b), .val (.int (Int32.ofNat o)), .val (.int (Int32.ofNat len)), .val .null, .val (.ref s.heap.size)] [.int (Int32.ofNat N.slots.size), .ref s.heap.size, .ref a])) := by
    have hc : Steps p.tables e below (s₁.setTop (entryFrame m #[.ref a, .ref b, .int (Int32.ofNat o), .int (Int32.ofNat len), .null] 6)) (T8.setTop (mkF m 45 #[.val (.ref a), .val (.ref b), .val (.int (Int32.ofNat o)), .val (.int (Int32.ofNat len)), .val .null, .val (.ref s.heap.size)] [.int (Int32.ofNat len), .ref s.heap.size, .ref a])) := c9.trans (by
      refine XS.astore X8.here hexec rfl (hb hbytes d39) rfl rfl rfl ?_
      refine XS.aloadN X8.here hexec rfl (hb hbytes d41) rfl rfl ?_
      refine XS.aload X8.here hexec rfl (hb hbytes d42) rfl rfl ?_
      refine XS.iloadN X8.here hexec rfl (hb hbytes d44) rfl ?_
      exact Steps.refl _)
    rw [n4]; exact hc
  obtain ⟨v11, T11, X11, E11, g11⟩ := X8.callS hexec (CodL.law l s.heap.size N) hown (wks W (staticW "java/lang/String" 47 CodL.yN)) (wk W CodL.tab) (W := 1) (Nat.le_of_ble_eq_true rfl) (Nat.le_of_ble_eq_true rfl) (Nat.le_refl _) (by show 0 + len + 0 ≤ len; omega) (g := (mkF m 45 #[.val (.ref a), .val (.ref b), .val (.int (Int32.ofNat o)), .val (.int (Int32.ofNat len)), .val .null, .val (.ref s.heap.size)] [.int (Int32.ofNat N.slots.size), .ref s.heap.size, .ref a])) rfl (by rw [hml]; rfl) c10 (argsL := [.ref s.heap.size, .int (Int32.ofNat N.slots.size)]) (rest := [.ref a]) rfl rfl (by show 2 * 0 + (1 + 0) ≤ _; decide) (hb hbytes d45) (⟨rfl, n1⟩)
  obtain ⟨rfl, q11⟩ := E11
  have hB11 := hB1.mv (X8.warmed.alike.symm.trans X11.warmed.alike) q11
  have c12 : Steps p.tables e below (s₁.setTop (entryFrame m #[.ref a, .ref b, .int (Int32.ofNat o), .int (Int32.ofNat len), .null] 6)) (T11.setTop (mkF m 48 #[.val (.ref a), .val (.ref b), .val (.int (Int32.ofNat o)), .val (.int (Int32.ofNat len)), .val .null, .val (.ref s.heap.size)] [.int 0, .ref a])) := g11
  obtain ⟨T13, X13, p13, bl13, sl13, st13⟩ := X11.finit hexec hown (wk W (.fieldLink "java/lang/String" 15 "java/lang/String" "coder" "B")) (Or.inr ⟨_, (wk W (.laysFinal "java/lang/String" "java/lang/String" "coder" "B"))⟩) (Or.inl ⟨rfl, hnm⟩) f2 (Or.inl rfl) hB11 (t := .byte) (by decide +kernel) rfl (g := (mkF m 48 #[.val (.ref a), .val (.ref b), .val (.int (Int32.ofNat o)), .val (.int (Int32.ofNat len)), .val .null, .val (.ref s.heap.size)] [.int 0, .ref a])) rfl (rest := []) rfl (hb hbytes d48)
  have c14 : Steps p.tables e below (s₁.setTop (entryFrame m #[.ref a, .ref b, .int (Int32.ofNat o), .int (Int32.ofNat len), .null] 6)) (T13.setTop (mkF m 54 #[.val (.ref a), .val (.ref b), .val (.int (Int32.ofNat o)), .val (.int (Int32.ofNat len)), .val .null, .val (.ref s.heap.size)] [.ref s.heap.size, .ref a])) := (c12.trans (st13 _ (Steps.refl _))).trans (by
    refine XS.aloadN X13.here hexec rfl (hb hbytes d51) rfl rfl ?_
    refine XS.aload X13.here hexec rfl (hb hbytes d52) rfl rfl ?_
    exact Steps.refl _)
  obtain ⟨T15, X15, p15, bl15, sl15, st15⟩ := X13.finit hexec hown (wk W (.fieldLink "java/lang/String" 9 "java/lang/String" "value" "[B")) (Or.inr ⟨_, (wk W (.laysFinal "java/lang/String" "java/lang/String" "value" "[B"))⟩) (Or.inl ⟨rfl, hnm⟩) f1 (Or.inl rfl) bl13 (t := (.array .byte)) (by decide +kernel) rfl (g := (mkF m 54 #[.val (.ref a), .val (.ref b), .val (.int (Int32.ofNat o)), .val (.int (Int32.ofNat len)), .val .null, .val (.ref s.heap.size)] [.ref s.heap.size, .ref a])) rfl (rest := []) rfl (hb hbytes d54)
  have c16 : Steps p.tables e below (s₁.setTop (entryFrame m #[.ref a, .ref b, .int (Int32.ofNat o), .int (Int32.ofNat len), .null] 6)) (T15.setTop (mkF m 57 #[.val (.ref a), .val (.ref b), .val (.int (Int32.ofNat o)), .val (.int (Int32.ofNat len)), .val .null, .val (.ref s.heap.size)] [])) := c14.trans (st15 _ (Steps.refl _))
  have ap := apart (Or.inr ⟨_, (wk W (.laysFinal "java/lang/String" "java/lang/String" "value" "[B"))⟩) (Or.inr ⟨_, (wk W (.laysFinal "java/lang/String" "java/lang/String" "coder" "B"))⟩) f1 f2 (t₁ := .array .byte) (t₂ := .byte) (by decide +kernel) (by decide +kernel) (by decide)
  have al := X8.warmed.alike.symm.trans X15.warmed.alike
  have n7 : T11.heap[s.heap.size]? = some N := by rw [q11]; exact n1.1
  exact ⟨T15, none, _, _, _, X15, by simp, rfl, by omega, (fun _ => rfl), ⟨rfl, _, N, bl15, ((Same.refl D _).set _ (by simp)).set _ (by simp), sl15, (Cell.slots_setSlot_ne _ ap).trans sl13, n1.keep al (p15.other hne (p13.other hne n7)), n2, by rw [al.findClass]; exact n3, n4, n5, fun y c h1 h2 => p15.other h1 (p13.other h1 (by rw [q11]; exact n6 y c h2)), by rw [p15.2.2, p13.2.2, q11]; exact z8⟩, fun fs hl => c16.trans (X15.returnOut hexec hret (hb hbytes d57) hl)⟩
end New4
namespace New1
def yN : MethodName := ⟨"java/lang/String", "<init>", "([C)V"⟩
abbrev yB : ByteArray := jdk_42_method_3_code
theorem d0 : decode yB 0 = .ok (.aload_n 0, 1) := by decide +kernel
theorem d1 : decode yB 1 = .ok (.aload_n 1, 1) := by decide +kernel
theorem d2 : decode yB 2 = .ok (.iconst 0, 1) := by decide +kernel
theorem d3 : decode yB 3 = .ok (.aload_n 1, 1) := by decide +kernel
theorem d4 : decode yB 4 = .ok (.arraylength, 1) := by decide +kernel
theorem d5 : decode yB 5 = .ok (.aconst_null, 1) := by decide +kernel
theorem d6 : decode yB 6 = .ok (.invokespecial 27, 3) := by decide +kernel
theorem d9 : decode yB 9 = .ok (.return_, 1) := by decide +kernel
def site : List Cond := [New4.tab] ++ initW "java/lang/String" 27 New4.yN
def tab : Cond := tabOf yN yB 2 none site
def P (a : Addr) (D : Cell) (fV fC : Field) (b : Addr) (A : Cell) (z : Int32) (args : Array Value) (s : State) : Prop := args = #[.ref a, .ref b] ∧ Blank "java/lang/String" a D s ∧ Found "java/lang/String" "value" "[B" fV s ∧ Found "java/lang/String" "coder" "B" fC s ∧ Ch b A s ∧ StaticIs s "java/lang/String" "COMPACT_STRINGS" "Z" (.int z) ∧ ¬ z = 0 ∧ 0 < A.slots.size ∧ A.slots.size ≤ 536870912 ∧ ∀ i, i < A.slots.size → ¬ 255 < cv A i
def E (a : Addr) (D : Cell) (fV fC : Field) (A : Cell) (r : Option Value) (s u : State) : Prop := Got a D fV fC A 0 A.slots.size r s u
/-- new String(chars), not empty, no char above 255: a Latin-1 String of their low bytes -/
theorem law (l : Launch) (a : Addr) (D : Cell) (fV fC : Field) (b : Addr) (A : Cell) (z : Int32) : Law l yN 2 1 3 52 yB 2 none site (P a D fV fC b A z) (E a D fV fC A) [⟨a, fC.slot⟩, ⟨a, fV.slot⟩] 1 A.slots.size := by
  refine Law.of_walk (plainFor_of_name (by decide +kernel)) (by decide +kernel) (by decide +kernel) (by decide) (fun _ _ h => by rw [h.1]; rfl) (fun _ U U' hal hh h => ⟨h.1, h.2.1.mv hal hh, h.2.2.1.al hal, h.2.2.2.1.al hal, h.2.2.2.2.1.mv hal hh, h.2.2.2.2.2.1.there hal hh, h.2.2.2.2.2.2⟩) (fun r U U' V V' h1 hal h2 h => Got.mv r U U' V V' h1 hal h2 h) ?_
  intro p e s m args below meth c s₁ X0 hexec hbytes hml hret hlk hnm hown hh0 W hP
  obtain ⟨rfl, hB, f1, f2, hA, s1, hz, l0, l2, hp⟩ := hP
  have c1 : Steps p.tables e below (s₁.setTop (entryFrame m #[.ref a, .ref b] 2)) (s₁.setTop (mkF m 0 #[.val (.ref a), .val (.ref b)] [])) := entry rfl
  have c2 : Steps p.tables e below (s₁.setTop (entryFrame m #[.ref a, .ref b] 2)) (s₁.setTop (mkF m 6 #[.val (.ref a), .val (.ref b)] [.null, .int (Int32.ofNat A.slots.size), .int 0, .ref b, .ref a])) := c1.trans (by
    refine XS.aloadN X0.here hexec rfl (hb hbytes d0) rfl rfl ?_
    refine XS.aloadN X0.here hexec rfl (hb hbytes d1) rfl rfl ?_
    refine iconstV X0.here hexec rfl 0 (hb hbytes d2) (by decide) ?_
    refine XS.aloadN X0.here hexec rfl (hb hbytes d3) rfl rfl ?_
    refine X0.alen hexec (hA.1.mv X0.warmed.alike hh0) rfl rfl (hb hbytes d4) ?_
    refine XS.aconstNull X0.here hexec rfl (hb hbytes d5) ?_
    exact Steps.refl _)
  obtain ⟨v3, T3, X3, E3, g3⟩ := X0.callN hexec (New4.law l a D fV fC b A z 0 A.slots.size) rfl hown (wks W (initW "java/lang/String" 27 New4.yN)) (W New4.tab (by simp only [site, List.mem_cons, List.mem_append, true_or, or_true])) (W := 0) (Nat.le_of_ble_eq_true rfl) (Nat.le_of_ble_eq_true rfl) (Nat.le_refl _) (by show 0 + A.slots.size ≤ A.slots.size; omega) (g := (mkF m 6 #[.val (.ref a), .val (.ref b)] [.null, .int (Int32.ofNat A.slots.size), .int (Int32.ofNat 0), .ref b, .ref a])) rfl (by rw [hml]; rfl) c2 (argsL := [.ref b, .int (Int32.ofNat 0), .int (Int32.ofNat A.slots.size), .null]) (rest := []) rfl rfl (by show 2 * 0 + 0 ≤ _; decide) (hb hbytes d6) (⟨rfl, hB.mv X0.warmed.alike hh0, f1.al X0.warmed.alike, f2.al X0.warmed.alike, hA.mv X0.warmed.alike hh0, s1.there X0.warmed.alike hh0, hz, l0, by omega, l2, fun i hi => by rw [Nat.zero_add]; exact hp i hi⟩)
  have e0 := Got.mv _ s₁ s _ _ hh0.symm (Vm.Alike.refl _) rfl E3
  obtain rfl := e0.1
  have c4 : Steps p.tables e below (s₁.setTop (entryFrame m #[.ref a, .ref b] 2)) (T3.setTop (mkF m 9 #[.val (.ref a), .val (.ref b)] [])) := g3
  exact ⟨T3, none, _, _, _, X3, by simp, rfl, by omega, (fun _ => rfl), e0, fun fs hl => c4.trans (X3.returnOut hexec hret (hb hbytes d9) hl)⟩
theorem pays {l : Launch} {R : Room} {p : Program} {e : Env} {below : List Frame} {s : State} {sargs : Array Value} {len W : Nat} (a : Addr) (D : Cell) (fV fC : Field) (b : Addr) (A : Cell) (z : Int32) (htab : tab.before sargs s = true) (hfr : 4 ≤ R.frames) (hlo : W + 65 ≤ R.locals) :
    Back l R p e below s sargs yN len W (fun A₁ a₁ => A₁.cells + 1 ≤ R.cells ∧ A₁.slots + A.slots.size ≤ R.slots ∧ P a D fV fC b A z a₁ A₁.U) (fun A₁ _ v₁ B₁ => E a D fV fC A v₁ A₁.U B₁.U ∧ B₁.locs = A₁.locs ++ [⟨a, fC.slot⟩, ⟨a, fV.slot⟩] ∧ B₁.cells = A₁.cells + 1 ∧ B₁.slots = A₁.slots + A.slots.size) :=
  (law l a D fV fC b A z).pays htab hfr (by omega)
end New1
/-- the byte, read back as charAt reads it, is the char -/
theorem lo8_mask {x : Int32} (h0 : ¬ x < 0) (h1 : ¬ 255 < x) : lo8 x &&& 255 = x := by
  have t : ∀ k : Fin 256, lo8 (Int32.ofNat k.val) &&& 255 = Int32.ofNat k.val := by decide +kernel
  rw [Int32.lt_iff_toInt_lt] at h0 h1
  have e0 : (0 : Int32).toInt = 0 := rfl
  have e1 : (255 : Int32).toInt = 255 := rfl
  obtain ⟨k, hk⟩ : ∃ k : Nat, x.toInt = k := ⟨x.toInt.toNat, by omega⟩
  have hx : x = Int32.ofNat k := Int32.toInt_inj.mp (by rw [hk, Int32.toInt_ofNat_small (by omega)])
  rw [hx]
  exact t ⟨k, by omega⟩
end StrChars
namespace StrChars.Road
open Jvm Sem ClassFile Op Lib Jvm.Stand Jvm.Free Jvm.Free.XT
open Jvm.Lib.Cold (StaticIs)
abbrev ST : String := "java/lang/String"
/-- every table word that New1's law asks, flat -/
abbrev words : List Jvm.Cond := [.code New1.yN New1.yB 2 none, .initialized ST, .methodLink ST 27 New4.yN, .instanceMethod New4.yN,
  .code New4.yN New4.yB 6 none, .fieldLink ST 38 ST "COMPACT_STRINGS" "Z", .laysFinal ST ST "value" "[B", .fieldLink ST 9 ST "value" "[B", .laysFinal ST ST "coder" "B", .fieldLink ST 15 ST "coder" "B",
  .methodLink ST 1 Lib.objectInit, .instanceMethod Lib.objectInit, .code Lib.objectInit ⟨#[0xb1]⟩ 1 none, .methodLink ST 177 Cmp3.yN, .static Cmp3.yN, .methodLink ST 47 CodL.yN, .static CodL.yN,
  .code Cmp3.yN Cmp3.yB 6 (some (.array .byte)), .initialized U16, .arrayClass .byte, .methodLink U16 115 Cmp5.yN, .static Cmp5.yN, .code Cmp5.yN Cmp5.yB 7 (some .int), .code CodL.yN CodL.yB 2 (some .byte)]
theorem tab_of {a : Array Value} {s : State} (h : ∀ w ∈ words, w.before a s = true) : New1.tab.before a s = true := by
  have h5 : Cmp5.tab.before a s = true := unparts (wk h (.code Cmp5.yN Cmp5.yB 7 (some .int))) (wks h (.initialized Cmp5.yN.cls :: Cmp5.site))
  have hc : CodL.tab.before a s = true := unparts (wk h (.code CodL.yN CodL.yB 2 (some .byte))) (wks h (.initialized CodL.yN.cls :: CodL.site))
  have q5 : ∀ w ∈ Cmp5.tab :: words, w.before a s = true := fun w hw => (List.mem_cons.mp hw).elim (fun e => e ▸ h5) (h w)
  have h3 : Cmp3.tab.before a s = true := unparts (wk q5 (.code Cmp3.yN Cmp3.yB 6 (some (.array .byte)))) (wks q5 (.initialized Cmp3.yN.cls :: Cmp3.site))
  have q3 : ∀ w ∈ Cmp3.tab :: CodL.tab :: words, w.before a s = true := fun w hw => (List.mem_cons.mp hw).elim (fun e => e ▸ h3) fun hw => (List.mem_cons.mp hw).elim (fun e => e ▸ hc) (h w)
  have h4 : New4.tab.before a s = true := unparts (wk q3 (.code New4.yN New4.yB 6 none)) (wks q3 (.initialized New4.yN.cls :: New4.site))
  have q4 : ∀ w ∈ New4.tab :: words, w.before a s = true := fun w hw => (List.mem_cons.mp hw).elim (fun e => e ▸ h4) (h w)
  exact unparts (wk q4 (.code New1.yN New1.yB 2 none)) (wks q4 (.initialized New1.yN.cls :: New1.site))
/-- the words ride from the start Z to the walk's own state -/
theorem moved {Z s : State} {a0 args : Array Value} (hZ : Z.Warmed39 s.vm) (hw : ∀ d ∈ words, d.before a0 Z = true) : ∀ d ∈ words, d.before args s = true := fun d hd => by
  have q := hw d hd
  have t : ∀ d ∈ words, d = .arrayClass .byte ∨ (d.onTables && d.keepsFace) = true := by decide +kernel
  rcases t d hd with rfl | t
  · exact RoadKit.mvA hZ q
  · exact RoadKit.mv hZ q t
/-- WHAT COMES BACK, over the tables of the start Z: h the heap at the call, h' behind it -/
def Q (Z : State) (x : Addr) (A : Cell) (h : Heap) (v : Option Value) (h' : Heap) (L : List Loc) : Prop := v = none ∧ (∀ y ∈ L, y.base = x) ∧ RoadKit.Keep h h' [x] ∧ h'.size = h.size + 1 ∧ RoadKit.Exa Z h' x ST ∧ RoadKit.Fld Z h' x ST "value" "[B" (.ref h.size) ∧ RoadKit.Fld Z h' x ST "coder" "B" (.int 0) ∧
  (∃ V : Cell, RoadKit.Arr Z h' h.size V .byte ∧ V.vm = .none ∧ Z.vm.findClass "[B" = some V.cls ∧ V.slots.size = A.slots.size ∧ ∀ j, j < A.slots.size → V.slots[j]? = some (.int (lo8 (cv A j)))) ∧
  ∀ (O n d : String) (w : Value), RoadKit.Fld Z h x O n d w → RoadKit.slotOf Z O n d ≠ RoadKit.slotOf Z ST "value" "[B" → RoadKit.slotOf Z O n d ≠ RoadKit.slotOf Z ST "coder" "B" → RoadKit.Fld Z h' x O n d w
/-- **new String(chars) AT A CALL, IN THE ROAD'S FORM**: for specialBack behind newO: x the fresh String, b the char[] with the cell A -/
theorem back {p : Program} {l : Launch} {e : Env} {R : Room} {s : State} {args : Array Value} {below : List Frame} {len W : Nat} {Z : State} {a0 : Array Value} {h : Heap} (hZ : Z.Warmed39 s.vm) (hw : ∀ d ∈ words, d.before a0 Z = true) {kI : Nat} (wi : (Jvm.Cond.instantiable ST kI).before a0 Z = true)
    {x b : Addr} {A : Cell} {z : Int32} {v0 c0 : Value} (E : RoadKit.Exa Z h x ST) (V : RoadKit.Fld Z h x ST "value" "[B" v0) (C : RoadKit.Fld Z h x ST "coder" "B" c0) (K : RoadKit.Arr Z h b A .char) (hty : Typed .char A) (S : RoadKit.Sta Z h ST "COMPACT_STRINGS" "Z" (.int z)) (hz : ¬ z = 0)
    (l0 : 0 < A.slots.size) (l2 : A.slots.size ≤ 536870912) (hp : ∀ i, i < A.slots.size → ¬ 255 < cv A i) (hfr : 4 ≤ R.frames) (hlo : W + 65 ≤ R.locals) :
    Back l R p e below s args New1.yN len W (fun P a => a = #[.ref x, .ref b] ∧ P.U.heap = h ∧ P.cells + 1 ≤ R.cells ∧ P.slots + A.slots.size ≤ R.slots)
      (fun P _ v B => ∃ L, Q Z x A h v B.U.heap L ∧ B.locs = P.locs ++ L ∧ B.cells = P.cells + 1 ∧ B.slots = P.slots + A.slots.size) := by
  intro m meth c P g ig mk a X hg hsize hdg hW hn hp'
  obtain ⟨rfl, rfl, r1, r2⟩ := hp'
  have al : Z.vm.Alike P.U.vm := hZ.alike.trans X.warmed.alike
  obtain ⟨D, cfV, kV, iV, fV, hD, gV, stV, knV, obV, asV, slV⟩ := id V
  obtain ⟨D', cfC, kC, iC, fC, hD', gC, stC, -, -, asC, slC⟩ := id C
  cases hD.symm.trans hD'
  obtain ⟨D2, kD, e1, e2, e3, e4, e5⟩ := id E
  cases hD.symm.trans e1
  obtain ⟨c2, k2, i1, i2, i3, -⟩ := Cond.instantiable_spec wi
  cases e2.symm.trans i1
  cases e3.symm.trans i2
  obtain ⟨kU, u1, u2⟩ := al.2.2 _ _ e3
  have hB : Blank ST x D P.U := ⟨hD, ⟨knV, fun q hq => by rw [hq] at obV; cases obV⟩, by rw [al.findClass]; exact e2, kU, u1, by rw [u2]; exact i3, by rw [u2]; exact e5 i3⟩
  have F1 : Found ST "value" "[B" fV P.U := ⟨SBG.found_only al ⟨cfV, kV, iV, gV⟩, stV⟩
  have F2 : Found ST "coder" "B" fC P.U := ⟨SBG.found_only al ⟨cfC, kC, iC, gC⟩, stC⟩
  have hA : Ch b A P.U := ⟨⟨K.1, State.isArrayOf_alike al K.2.1, K.2.2, by omega⟩, hty⟩
  have hS : StaticIs P.U ST "COMPACT_STRINGS" "Z" (.int z) := by
    obtain ⟨cfS, iS, kS, fS, st, cS, t1, t2, t3, t4, t5, t6, t7⟩ := S
    exact StaticIs.there (s := { Z with heap := P.U.heap }) ⟨cfS, iS, kS, fS, st, cS, t1, t2, t3, t4, t5, (fun q => by rw [q] at t6; cases t6), t7⟩ al rfl
  obtain ⟨v, B, X', ⟨⟨hv, E', V', q1, q2, q3, q4, q5, q6, q7, q8, q9, q10, q11⟩, hl, hc, hs⟩, st⟩ := New1.pays x D fV fC b A z (tab_of (moved hZ hw)) hfr hlo m meth c P g ig mk _ X hg hsize hdg hW hn ⟨r1, r2, rfl, hB, F1, F2, hA, hS, hz, l0, l2, hp⟩
  have al' : Z.vm.Alike B.U.vm := hZ.alike.trans X'.warmed.alike
  have hsz : E'.slots.size = D.slots.size := by
    obtain ⟨-, -, -, kB, w1, w2, w3⟩ := q1
    obtain ⟨kB', y1, y2⟩ := al'.2.2 _ _ e3
    rw [q2.2.1] at w1
    cases w1.symm.trans y1
    rw [w3, e5 i3, y2]
  refine ⟨v, B, X', ⟨_, ⟨hv, ?_, ⟨by omega, fun y cy hy hn' => q10 y cy (by simpa using hn') hy, fun y cy hy => ?_⟩, q11, ⟨E', _, q1.1, by rw [q2.2.1]; exact e2, by rw [q2.2.1]; exact e3, by rw [q2.1]; exact obV, fun _ => by rw [hsz]; exact e5 i3⟩,
    ⟨E', cfV, kV, iV, fV, q1.1, gV, stV, by rw [q2.1]; exact knV, by rw [q2.1]; exact obV, by rw [q2.2.1]; exact asV, q3⟩, ⟨E', cfC, kC, iC, fC, q1.1, gC, stC, by rw [q2.1]; exact knV, by rw [q2.1]; exact obV, by rw [q2.2.1]; exact asC, q4⟩,
    ⟨V', ⟨q5.1, State.isArrayOf_alike al'.symm q5.2.1, q5.2.2.1⟩, q6, by rw [← al'.findClass]; exact q7, q8, fun j hj => by have := q9 j hj; rwa [Nat.zero_add] at this⟩, fun O n d w F n1 n2 => ?_⟩, hl, hc, hs⟩, st⟩
  · intro y hy
    simp only [List.mem_cons, List.not_mem_nil, or_false] at hy
    rcases hy with rfl | rfl <;> rfl
  · by_cases q : y = x
    · subst q
      cases hD.symm.trans hy
      exact ⟨E', q1.1, q2.2.1, q2.1, hsz⟩
    · exact ⟨cy, q10 y cy q hy, rfl, rfl, rfl⟩
  · obtain ⟨D3, cf, k, i, f, g1, g2, g3, g4, g5, g6, g7⟩ := F
    cases hD.symm.trans g1
    simp only [RoadKit.slotOf, g2, gV, gC, Option.map_some, Option.getD_some] at n1 n2
    exact ⟨E', cf, k, i, f, q1.1, g2, g3, by rw [q2.1]; exact g4, by rw [q2.1]; exact g5, by rw [q2.2.1]; exact g6, by rw [q2.2.2 f.slot (by simp [n1, n2])]; exact g7⟩
end StrChars.Road
namespace StrChars.Road
open Jvm Sem ClassFile Op Lib Jvm.Stand Jvm.Free Jvm.Free.XT
/-- WHAT COMES BACK, the byte[] as a list of values -/
def QA (Z : State) (x : Addr) (zn : Int32) (cs : List Int32) (h : Heap) (v : Option Value) (h' : Heap) (L : List Loc) : Prop := v = none ∧ (∀ y ∈ L, y.base = x) ∧ RoadKit.Keep h h' [x] ∧ h'.size = h.size + 1 ∧ RoadKit.Exa Z h' x ST ∧ RoadKit.Fld Z h' x ST "value" "[B" (.ref h.size) ∧ RoadKit.Fld Z h' x ST "coder" "B" (.int 0) ∧
  (∃ kb, Z.vm.findClass "[B" = some kb ∧ RoadKit.Arv Z h' h.size kb .byte zn (cs.map fun c => .int (lo8 c)) (.int 0)) ∧
  ∀ (O n d : String) (w : Value), RoadKit.Fld Z h x O n d w → RoadKit.slotOf Z O n d ≠ RoadKit.slotOf Z ST "value" "[B" → RoadKit.slotOf Z O n d ≠ RoadKit.slotOf Z ST "coder" "B" → RoadKit.Fld Z h' x O n d w
/-- **new String(chars) AT A CALL, THE ARRAYS AS LISTS**: the char[] at b holds cs, not empty, no char above 255 -/
theorem backArv {p : Program} {l : Launch} {e : Env} {R : Room} {s : State} {args : Array Value} {below : List Frame} {len W : Nat} {Z : State} {a0 : Array Value} {h : Heap} (hZ : Z.Warmed39 s.vm) (hw : ∀ d ∈ words, d.before a0 Z = true) {kI : Nat} (wi : (Jvm.Cond.instantiable ST kI).before a0 Z = true)
    {x b : Addr} {k : ClassId} {zn z : Int32} {cs : List Int32} {dv v0 c0 : Value} (E : RoadKit.Exa Z h x ST) (V : RoadKit.Fld Z h x ST "value" "[B" v0) (C : RoadKit.Fld Z h x ST "coder" "B" c0) (K : RoadKit.Arv Z h b k .char zn (cs.map Value.int) dv) (S : RoadKit.Sta Z h ST "COMPACT_STRINGS" "Z" (.int z)) (hz : ¬ z = 0)
    (hlen : zn.toNatClampNeg = cs.length) (h0 : 0 < cs.length) (hbig : cs.length ≤ 536870912) (hall : ∀ c ∈ cs, ¬ 255 < c) (hfr : 4 ≤ R.frames) (hlo : W + 65 ≤ R.locals) :
    Back l R p e below s args New1.yN len W (fun P a => a = #[.ref x, .ref b] ∧ P.U.heap = h ∧ P.cells + 1 ≤ R.cells ∧ P.slots + cs.length ≤ R.slots)
      (fun P _ v B => ∃ L, QA Z x zn cs h v B.U.heap L ∧ B.locs = P.locs ++ L ∧ B.cells = P.cells + 1 ∧ B.slots = P.slots + cs.length) := by
  obtain ⟨A, K1, K2, K3, K4, K5, K6⟩ := K
  have e : A.slots.size = cs.length := K3.trans hlen
  have hat : ∀ (i : Nat) (hi : i < cs.length), A.slots[i]? = some (.int cs[i]) := fun i hi => by rw [K5 i (by omega)]; simp [List.getD_eq_getElem?_getD, hi]
  have hcv : ∀ (i : Nat) (hi : i < cs.length), cv A i = cs[i] := fun i hi => by unfold cv; rw [hat i hi]
  have hty : Typed .char A := fun i v hv => by
    have hi : i < A.slots.size := (Array.getElem?_eq_some_iff.mp hv).1
    have q := K5 i hi
    rw [hv] at q
    rw [Option.some.inj q]
    exact K6 i hi
  refine Back.mono (back hZ hw wi E V C K1 hty S hz (by omega) (by omega) (fun i hi => by rw [hcv i (by omega)]; exact hall _ (List.getElem_mem _)) hfr hlo) (fun P a hp => ⟨hp.1, hp.2.1, hp.2.2.1, by rw [e]; exact hp.2.2.2⟩) (fun P a v B hp hq => ?_)
  obtain ⟨L, ⟨q1, q2, q3, q4, q5, q6, q7, ⟨V', v1, v2, v3, v4, v5⟩, q9⟩, hl, hc, hs⟩ := hq
  refine ⟨L, ⟨q1, q2, q3, q4, q5, q6, q7, ⟨V'.cls, v3, V', v1, rfl, by rw [v4, e, hlen], K4, fun i hi => ?_, fun i hi => ?_⟩, q9⟩, hl, hc, by rw [hs, e]⟩
  · have hi' : i < cs.length := by omega
    rw [v5 i (by omega), hcv i hi']; simp [List.getD_eq_getElem?_getD, hi']
  · have hi' : i < cs.length := by omega
    simp only [List.getD_eq_getElem?_getD, List.getElem?_map, List.getElem?_eq_getElem hi', Option.map_some, Option.getD_some]
    exact fits_lo8 _
end StrChars.Road
namespace StrChars.Road
open Jvm Sem ClassFile Op Lib Jvm.Stand Jvm.Free Jvm.Free.XT
/-- WHAT COMES BACK, in the writer's own shape -/
def QV (Z : State) (x : Addr) (N : Int32) (bs : List Int32) (h : Heap) (n0 : Nat) (v : Option Value) (h' : Heap) (L : List Loc) : Prop := v = none ∧ RoadKit.Fr n0 L ∧ RoadKit.Keep h h' [x] ∧ RoadKit.Exa Z h' x ST ∧ RoadKit.Fld Z h' x ST "coder" "B" (.int 0) ∧
  ∃ (t : Addr) (kb : ClassId), n0 ≤ t ∧ h.size ≤ t ∧ ¬ t = x ∧ RoadKit.Fld Z h' x ST "value" "[B" (.ref t) ∧ RoadKit.Arv Z h' t kb .byte N (bs.map Value.int) (.int 0)
/-- **new String(chars) AT A CALL, FOR THE WRITER**: a char[] of n known ints, each 0 to 255 -/
theorem backV {p : Program} {l : Launch} {e : Env} {R : Room} {s : State} {args : Array Value} {below : List Frame} {len W : Nat} {Z : State} {a0 : Array Value} {h : Heap} (hZ : Z.Warmed39 s.vm) (hw : ∀ d ∈ words, d.before a0 Z = true) {kI : Nat} (wi : (Jvm.Cond.instantiable ST kI).before a0 Z = true)
    {x b : Addr} {kC : ClassId} {cs bs : List Int32} {d v0 c0 : Value} {z N : Int32} {n n0 : Nat} (hx0 : n0 ≤ x) (hh0 : n0 ≤ h.size) (E : RoadKit.Exa Z h x ST) (V : RoadKit.Fld Z h x ST "value" "[B" v0) (C : RoadKit.Fld Z h x ST "coder" "B" c0) (K : RoadKit.Arv Z h b kC .char N (cs.map Value.int) d) (S : RoadKit.Sta Z h ST "COMPACT_STRINGS" "Z" (.int z)) (hz : ¬ z = 0)
    (hn : cs.length = n) (hN : N = Int32.ofNat n) (l0 : 0 < n) (l2 : n ≤ 4000) (hp : ∀ c ∈ cs, ¬ c < 0 ∧ ¬ (255 : Int32) < c) (hb : bs = cs.map (fun c => c.toInt8.toInt32)) (hfr : 4 ≤ R.frames) (hlo : W + 65 ≤ R.locals) :
    Back l R p e below s args (⟨"java/lang/String", "<init>", "([C)V"⟩ : MethodName) len W (fun P a => a = #[.ref x, .ref b] ∧ P.U.heap = h ∧ P.cells + 1 ≤ R.cells ∧ P.slots + n ≤ R.slots)
      (fun P _ v B => ∃ L, QV Z x N bs h n0 v B.U.heap L ∧ B.locs = P.locs ++ L ∧ B.cells = P.cells + 1 ∧ B.slots = P.slots + n) := by
  subst hn hN hb
  refine Back.mono (backArv hZ hw wi E V C K S hz (n32 (by omega)) l0 (by omega) (fun c hc => (hp c hc).2) hfr hlo) (fun P a hp => hp) (fun P a v B hp hq => ?_)
  obtain ⟨L, ⟨q1, q2, q3, q4, q5, q6, q7, ⟨kb, v1, v2⟩, q9⟩, hl, hc, hs⟩ := hq
  exact ⟨L, ⟨q1, fun y hy => by rw [q2 y hy]; exact hx0, q3, q5, q7, h.size, kb, hh0, Nat.le_refl _, Nat.ne_of_gt E.lt, q6, by rw [List.map_map]; exact v2⟩, hl, hc, hs⟩
end StrChars.Road
namespace StrChars
open Jvm Sem ClassFile Op Lib Jvm.Stand Jvm.Free.XT Jvm.Free.ALB Jvm.Free.JM Jvm.Free
open Jvm.Lib.Cold (StaticIs)
def hi8 (x : Int32) : Int32 := lo8 (x >>> ((8 : Int32) &&& 31))
/-- what StringUTF16.getChar makes of two bytes -/
def pairCh (u v : Int32) : Int32 := (((u &&& 255) <<< ((0 : Int32) &&& 31)) ||| ((v &&& 255) <<< ((8 : Int32) &&& 31))).toUInt32.toUInt16.toUInt32.toInt32
theorem lo8_and (x : Int32) : (lo8 x &&& 255).toBitVec.toNat = x.toBitVec.toNat % 256 := by
  have h : (lo8 x).toBitVec = (x.toBitVec.signExtend 8).signExtend 32 := by rw [lo8, Int8.toBitVec_toInt32, Int32.toBitVec_toInt8]
  rw [Int32.toBitVec_and, BitVec.toNat_and, h]
  have e : ((x.toBitVec.signExtend 8).signExtend 32).toNat % 256 = x.toBitVec.toNat % 256 := by
    rw [BitVec.toNat_signExtend]
    have hlt := x.toBitVec.isLt
    simp only [BitVec.toNat_setWidth, BitVec.toNat_signExtend]
    split <;> split <;> omega
  rw [← e]
  exact Nat.and_two_pow_sub_one_eq_mod _ 8
theorem pair_says {c : Int32} (h0 : ¬ c < 0) (h1 : ¬ 65535 < c) : pairCh (lo8 c) (hi8 c) = c := by
  rw [Int32.lt_iff_toInt_lt] at h0 h1
  have e0 : (0 : Int32).toInt = 0 := rfl
  have e1 : (65535 : Int32).toInt = 65535 := rfl
  have hc : c.toInt = c.toBitVec.toNat := by
    have := c.toBitVec.isLt
    have e : c.toInt = c.toBitVec.toInt := rfl
    rw [e] at h0 h1
    rw [e]
    rw [BitVec.toInt_eq_toNat_cond] at h0 h1 ⊢
    split at h0 <;> split <;> omega
  have hn : c.toBitVec.toNat < 65536 := by omega
  have a1 := lo8_and c
  have a2 : (hi8 c &&& 255).toBitVec.toNat = c.toBitVec.toNat / 256 := by
    rw [hi8, lo8_and]
    have e : ((8 : Int32) &&& 31) = 8 := by decide
    rw [e, Int32.toBitVec_shiftRight]
    have e2 : ((8 : Int32).toBitVec.smod 32) = 8#32 := by decide
    rw [e2, BitVec.sshiftRight_eq', BitVec.toNat_sshiftRight_of_msb_false (by rw [BitVec.msb_eq_false_iff_two_mul_lt]; omega)]
    show c.toBitVec.toNat >>> 8 % 256 = _
    rw [Nat.shiftRight_eq_div_pow]
    omega
  unfold pairCh
  apply Int32.toBitVec_inj.mp
  apply BitVec.eq_of_toNat_eq
  have f0 : ((0 : Int32) &&& 31) = 0 := by decide
  have f8 : ((8 : Int32) &&& 31) = 8 := by decide
  rw [f0, f8]
  have g : (((lo8 c &&& 255) <<< (0 : Int32)) ||| ((hi8 c &&& 255) <<< (8 : Int32))).toBitVec.toNat = c.toBitVec.toNat := by
    rw [Int32.toBitVec_or, Int32.toBitVec_shiftLeft, Int32.toBitVec_shiftLeft]
    have s0 : ((0 : Int32).toBitVec.smod 32) = 0#32 := by decide
    have s8 : ((8 : Int32).toBitVec.smod 32) = 8#32 := by decide
    rw [s0, s8, BitVec.toNat_or]
    simp only [BitVec.shiftLeft_eq', BitVec.toNat_shiftLeft, a1, a2]
    show (c.toBitVec.toNat % 256) <<< 0 % 2 ^ 32 ||| (c.toBitVec.toNat / 256) <<< 8 % 2 ^ 32 = _
    rw [Nat.shiftLeft_zero, Nat.mod_eq_of_lt (show c.toBitVec.toNat % 256 < 2 ^ 32 by omega), Nat.mod_eq_of_lt (show (c.toBitVec.toNat / 256) <<< 8 < 2 ^ 32 by rw [Nat.shiftLeft_eq]; omega), Nat.or_comm, ← Nat.shiftLeft_add_eq_or_of_lt (by omega), Nat.shiftLeft_eq]
    omega
  show BitVec.toNat (((((lo8 c &&& 255) <<< (0 : Int32)) ||| ((hi8 c &&& 255) <<< (8 : Int32))).toBitVec.setWidth 16).setWidth 32) = _
  rw [BitVec.toNat_setWidth, BitVec.toNat_setWidth, g]
  omega
end StrChars
namespace StrChars
open Jvm Sem ClassFile Op Lib Jvm.Stand Jvm.Free.XT Jvm.Free.ALB Jvm.Free.JM Jvm.Free
open Jvm.Lib.Cold (StaticIs)
/-- the array's cell V codes the n chars f 0 .. f (n - 1) by the coder cd, as the JDK does: coder 1 just where some char is above 255 -/
def Cod (cd : Int32) (n : Nat) (f : Nat → Int32) (V : Cell) : Prop := (cd = 0 ∧ V.slots.size = n ∧ ∀ j, j < n → V.slots[j]? = some (.int (lo8 (f j))) ∧ ¬ 255 < f j) ∨ (cd = 1 ∧ V.slots.size = 2 * n ∧ (∀ j, j < n → V.slots[2 * j]? = some (.int (lo8 (f j))) ∧ V.slots[2 * j + 1]? = some (.int (hi8 (f j)))) ∧ ∃ j, j < n ∧ 255 < f j)
/-- **x is a String of the n chars f 0 .. f (n - 1)**, Latin-1 or UTF-16; its array at t has the cell V -/
def Txt (x t : Addr) (V : Cell) (cd : Int32) (n : Nat) (f : Nat → Int32) (U : State) : Prop := Exact "java/lang/String" x U ∧ Has x "java/lang/String" "value" "[B" (.ref t) U ∧ Has x "java/lang/String" "coder" "B" (.int cd) U ∧ XT.Arr .byte t V U ∧ Cod cd n f V ∧ ∀ j, j < n → ¬ f j < 0 ∧ ¬ 65535 < f j
theorem Txt.mv {x t : Addr} {V : Cell} {cd : Int32} {n : Nat} {f : Nat → Int32} {U U' : State} (h : Txt x t V cd n f U) (hal : U.vm.Alike U'.vm) (hh : U'.heap = U.heap) : Txt x t V cd n f U' := ⟨h.1.mv hal hh, h.2.1.mv hal hh, h.2.2.1.mv hal hh, h.2.2.2.1.mv hal hh, h.2.2.2.2⟩
end StrChars
namespace StrChars.Road
open Jvm Sem ClassFile Op Lib Jvm.Stand Jvm.Free Jvm.Free.XT
open Jvm.Lib.Cold (StaticIs)
theorem consq {a : Array Value} {s : State} {c : Jvm.Cond} {L : List Jvm.Cond} (h0 : c.before a s = true) (h : ∀ w ∈ L, w.before a s = true) : ∀ w ∈ c :: L, w.before a s = true := fun w hw => (List.mem_cons.mp hw).elim (fun e => e ▸ h0) (h w)
/-- the bytes of the chars cs, low before high -/
def wideBytes : List Int32 → List Value
  | [] => []
  | c :: cs => .int (lo8 c) :: .int (hi8 c) :: wideBytes cs
theorem wide_lo (d : Value) : ∀ (cs : List Int32) (j : Nat), j < cs.length → (wideBytes cs).getD (2 * j) d = .int (lo8 (cs.getD j 0))
  | [], j, h => absurd h (Nat.not_lt_zero j)
  | c :: cs, 0, _ => rfl
  | c :: cs, j + 1, h => by
    have q := wide_lo d cs j (by simpa using h)
    rw [show 2 * (j + 1) = 2 * j + 1 + 1 from by omega]
    simpa [wideBytes] using q
theorem wide_hi (d : Value) : ∀ (cs : List Int32) (j : Nat), j < cs.length → (wideBytes cs).getD (2 * j + 1) d = .int (hi8 (cs.getD j 0))
  | [], j, h => absurd h (Nat.not_lt_zero j)
  | c :: cs, 0, _ => rfl
  | c :: cs, j + 1, h => by
    have q := wide_hi d cs j (by simpa using h)
    rw [show 2 * (j + 1) + 1 = 2 * j + 1 + 1 + 1 from by omega]
    simpa [wideBytes] using q
theorem low_at (d : Value) (cs : List Int32) (j : Nat) (h : j < cs.length) : (cs.map fun c => Value.int (lo8 c)).getD j d = .int (lo8 (cs.getD j 0)) := by
  simp [List.getD_eq_getElem?_getD, h]
/-- an array of N2 bytes vs codes the chars cs by the coder cd -/
def CodA (cs : List Int32) (cd N2 : Int32) (vs : List Value) : Prop := (cd = 0 ∧ N2 = Int32.ofNat cs.length ∧ vs = (cs.map fun c => Value.int (lo8 c)) ∧ ∀ c ∈ cs, ¬ 255 < c) ∨ (cd = 1 ∧ N2 = Int32.ofNat (2 * cs.length) ∧ vs = wideBytes cs ∧ ∃ c ∈ cs, 255 < c)
theorem CodA.cod {cs : List Int32} {cd N2 : Int32} {vs : List Value} {V : Cell} (h : CodA cs cd N2 vs) (hn : 2 * cs.length < 2 ^ 31) (hs : V.slots.size = N2.toNatClampNeg) (hv : RoadKit.Has V vs (.int 0)) : Cod cd cs.length (fun j => cs.getD j 0) V := by
  rcases h with ⟨rfl, rfl, rfl, h⟩ | ⟨rfl, rfl, rfl, c, hc, hw⟩
  · rw [n32 (by omega)] at hs
    exact Or.inl ⟨rfl, hs, fun j hj => ⟨by rw [hv j (by omega), low_at _ _ _ hj], by
      have e : cs.getD j 0 = cs[j] := by simp [List.getD_eq_getElem?_getD, hj]
      show ¬ 255 < cs.getD j 0
      rw [e]; exact h _ (List.getElem_mem _)⟩⟩
  · rw [n32 (by omega)] at hs
    obtain ⟨j, hj, rfl⟩ := List.getElem_of_mem hc
    exact Or.inr ⟨rfl, hs, fun j hj => ⟨by rw [hv _ (by omega), wide_lo _ _ _ hj], by rw [hv _ (by omega), wide_hi _ _ _ hj]⟩, j, hj, by
      have e : cs.getD j 0 = cs[j] := by simp [List.getD_eq_getElem?_getD, hj]
      show 255 < cs.getD j 0
      rw [e]; exact hw⟩
/-- an object of exactly java/lang/String, its two fields found: as the laws ask it -/
theorem strObj {Z U : State} {a0 : Array Value} {kI : Nat} (wi : (Jvm.Cond.instantiable ST kI).before a0 Z = true) (al : Z.vm.Alike U.vm) {x : Addr} {v0 c0 : Value} (E : RoadKit.Exa Z U.heap x ST) (V : RoadKit.Fld Z U.heap x ST "value" "[B" v0) (C : RoadKit.Fld Z U.heap x ST "coder" "B" c0) :
    ∃ (D : Cell) (fV fC : Field), Blank ST x D U ∧ Found ST "value" "[B" fV U ∧ Found ST "coder" "B" fC U ∧ D.slots[fV.slot]? = some v0 ∧ D.slots[fC.slot]? = some c0 ∧ RoadKit.slotOf Z ST "value" "[B" = fV.slot ∧ RoadKit.slotOf Z ST "coder" "B" = fC.slot := by
  obtain ⟨D, cfV, kV, iV, fV, hD, gV, stV, knV, obV, asV, slV⟩ := V
  obtain ⟨D', cfC, kC, iC, fC, hD', gC, stC, -, -, asC, slC⟩ := C
  cases hD.symm.trans hD'
  obtain ⟨D2, kD, e1, e2, e3, e4, e5⟩ := E
  cases hD.symm.trans e1
  obtain ⟨c2, k2, i1, i2, i3, -⟩ := Cond.instantiable_spec wi
  cases e2.symm.trans i1
  cases e3.symm.trans i2
  obtain ⟨kU, u1, u2⟩ := al.2.2 _ _ e3
  exact ⟨D, fV, fC, ⟨hD, ⟨knV, fun q hq => by rw [hq] at obV; cases obV⟩, by rw [al.findClass]; exact e2, kU, u1, by rw [u2]; exact i3, by rw [u2]; exact e5 i3⟩, ⟨SBG.found_only al ⟨cfV, kV, iV, gV⟩, stV⟩, ⟨SBG.found_only al ⟨cfC, kC, iC, gC⟩, stC⟩, slV, slC, by simp [RoadKit.slotOf, gV], by simp [RoadKit.slotOf, gC]⟩
theorem sta_is {Z U : State} (al : Z.vm.Alike U.vm) {C n d : String} {v : Value} (S : RoadKit.Sta Z U.heap C n d v) : StaticIs U C n d v := by
  obtain ⟨cfS, iS, kS, fS, st, cS, t1, t2, t3, t4, t5, t6, t7⟩ := S
  exact StaticIs.there (s := { Z with heap := U.heap }) ⟨cfS, iS, kS, fS, st, cS, t1, t2, t3, t4, t5, (fun q => by rw [q] at t6; cases t6), t7⟩ al rfl
end StrChars.Road
namespace StrChars
open Jvm Sem ClassFile Op Lib Jvm.Stand Jvm.Free.XT Jvm.Free.ALB Jvm.Free.JM Jvm.Free
open Jvm.Lib.Cold (StaticIs)
/-- what place i of a byte[]'s cell holds -/
def yv (A : Cell) (i : Nat) : Int32 := match A.slots[i]? with | some (.int x) => x | _ => 0
theorem yv_get {a : Addr} {A : Cell} {U : State} (h : XT.Arr .byte a A U) (ht : Typed .byte A) {i : Nat} (hi : i < A.slots.size) : A.slots[i]? = some (.int (yv A i)) := by
  have e := Array.getElem?_eq_getElem hi
  have f := ht i _ e
  unfold yv; rw [e]
  generalize A.slots[i] = v at f
  cases v <;> simp [fits] at f ⊢
/-- the two arrays are equal, place for place -/
def EqC (A B : Cell) : Prop := A.slots.size = B.slots.size ∧ ∀ i, i < A.slots.size → yv A i = yv B i
/-- a boolean that says whether p -/
def Says01 (q : Prop) (r : Option Value) (s u : State) : Prop := ∃ v : Int32, r = some (.int v) ∧ u.heap = s.heap ∧ ((v = 1 ∧ q) ∨ (v = 0 ∧ ¬ q))
theorem Says01.mv {q : Prop} : ∀ r (U U' V V' : State), U'.heap = U.heap → V.vm.Alike V'.vm → V'.heap = V.heap → Says01 q r U V → Says01 q r U' V' :=
  fun r U U' V V' h1 _ h2 ⟨v, a, b, c⟩ => ⟨v, a, by rw [h1, h2]; exact b, c⟩
namespace LEq
def yN : MethodName := ⟨"java/lang/StringLatin1", "equals", "([B[B)Z"⟩
abbrev yB : ByteArray := jdk_43_method_13_code
theorem d0 : decode yB 0 = .ok (.aload_n 0, 1) := by decide +kernel
theorem d1 : decode yB 1 = .ok (.arraylength, 1) := by decide +kernel
theorem d2 : decode yB 2 = .ok (.aload_n 1, 1) := by decide +kernel
theorem d3 : decode yB 3 = .ok (.arraylength, 1) := by decide +kernel
theorem d4 : decode yB 4 = .ok (.if_icmp (.ne) 30, 3) := by decide +kernel
theorem d7 : decode yB 7 = .ok (.iconst 0, 1) := by decide +kernel
theorem d8 : decode yB 8 = .ok (.istore_n 2, 1) := by decide +kernel
theorem d9 : decode yB 9 = .ok (.iload_n 2, 1) := by decide +kernel
theorem d10 : decode yB 10 = .ok (.aload_n 0, 1) := by decide +kernel
theorem d11 : decode yB 11 = .ok (.arraylength, 1) := by decide +kernel
theorem d12 : decode yB 12 = .ok (.if_icmp (.ge) 20, 3) := by decide +kernel
theorem d15 : decode yB 15 = .ok (.aload_n 0, 1) := by decide +kernel
theorem d16 : decode yB 16 = .ok (.iload_n 2, 1) := by decide +kernel
theorem d17 : decode yB 17 = .ok (.baload, 1) := by decide +kernel
theorem d18 : decode yB 18 = .ok (.aload_n 1, 1) := by decide +kernel
theorem d19 : decode yB 19 = .ok (.iload_n 2, 1) := by decide +kernel
theorem d20 : decode yB 20 = .ok (.baload, 1) := by decide +kernel
theorem d21 : decode yB 21 = .ok (.if_icmp (.eq) 5, 3) := by decide +kernel
theorem d24 : decode yB 24 = .ok (.iconst 0, 1) := by decide +kernel
theorem d25 : decode yB 25 = .ok (.ireturn, 1) := by decide +kernel
theorem d26 : decode yB 26 = .ok (.iinc 2 1, 3) := by decide +kernel
theorem d29 : decode yB 29 = .ok (.goto (-20), 3) := by decide +kernel
theorem d32 : decode yB 32 = .ok (.iconst 1, 1) := by decide +kernel
theorem d33 : decode yB 33 = .ok (.ireturn, 1) := by decide +kernel
theorem d34 : decode yB 34 = .ok (.iconst 0, 1) := by decide +kernel
theorem d35 : decode yB 35 = .ok (.ireturn, 1) := by decide +kernel
def site : List Cond := []
def tab : Cond := tabOf yN yB 3 (some .boolean) site
def P (a : Addr) (A : Cell) (b : Addr) (B : Cell) (args : Array Value) (s : State) : Prop := args = #[.ref a, .ref b] ∧ XT.Arr .byte a A s ∧ Typed .byte A ∧ XT.Arr .byte b B s ∧ Typed .byte B
/-- whether two byte[] are equal, place for place -/
theorem law (l : Launch) (a : Addr) (A : Cell) (b : Addr) (B : Cell) : Law l yN 2 2 0 0 yB 3 (some .boolean) site (P a A b B) (Says01 (EqC A B)) [] 0 0 := by
  refine Law.of_walk (plainFor_of_name (by decide +kernel)) (by decide +kernel) (by decide +kernel) (by decide) (fun _ _ h => by rw [h.1]; rfl) (fun _ U U' hal hh h => ⟨h.1, h.2.1.mv hal hh, h.2.2.1, h.2.2.2.1.mv hal hh, h.2.2.2.2⟩) (fun r U U' V V' h1 hal h2 h => Says01.mv r U U' V V' h1 hal h2 h) ?_
  intro p e s m args below meth c s₁ X0 hexec hbytes hml hret hlk hnm hown hh0 W hP
  obtain ⟨rfl, hA, tA, hB, tB⟩ := hP
  have a31 := hA.2.2.2
  have b31 := hB.2.2.2
  have hA0 := hA.mv X0.warmed.alike hh0
  have hB0 := hB.mv X0.warmed.alike hh0
  have c1 : Steps p.tables e below (s₁.setTop (entryFrame m #[.ref a, .ref b] 3)) (s₁.setTop (mkF m 0 #[.val (.ref a), .val (.ref b), .unset] [])) := entry rfl
  have c2 : Steps p.tables e below (s₁.setTop (entryFrame m #[.ref a, .ref b] 3)) (s₁.setTop (mkF m 4 #[.val (.ref a), .val (.ref b), .unset] [.int (Int32.ofNat B.slots.size), .int (Int32.ofNat A.slots.size)])) := c1.trans (by
    refine XS.aloadN X0.here hexec rfl (hb hbytes d0) rfl rfl ?_
    refine X0.alen hexec hA0 rfl rfl (hb hbytes d1) ?_
    refine XS.aloadN X0.here hexec rfl (hb hbytes d2) rfl rfl ?_
    refine X0.alen hexec hB0 rfl rfl (hb hbytes d3) ?_
    exact Steps.refl _)
  by_cases hs : A.slots.size = B.slots.size
  · have c3 : Steps p.tables e below (s₁.setTop (entryFrame m #[.ref a, .ref b] 3)) (s₁.setTop (mkF m 9 #[.val (.ref a), .val (.ref b), .val (.int 0)] [])) := c2.trans (by
      refine XS.icmpNo X0.here hexec rfl (hb hbytes d4) rfl (ii_ne_f (by rw [hs])) ?_
      refine iconstV X0.here hexec rfl 0 (hb hbytes d7) (by decide) ?_
      refine XS.istoreN X0.here hexec rfl (hb hbytes d8) rfl rfl ?_
      exact Steps.refl _)
    have loop : ∀ (r i : Nat), i + r = A.slots.size → (∀ j, j < i → yv A j = yv B j) → Steps p.tables e below (s₁.setTop (entryFrame m #[.ref a, .ref b] 3)) (s₁.setTop (mkF m 9 #[.val (.ref a), .val (.ref b), .val (.int (Int32.ofNat i))] [])) → ∃ (pc : Nat) (Ls : Array Slot) (v : Int32), (pc = 25 ∨ pc = 33) ∧ ((v = 1 ∧ EqC A B) ∨ (v = 0 ∧ ¬ EqC A B)) ∧ Steps p.tables e below (s₁.setTop (entryFrame m #[.ref a, .ref b] 3)) (s₁.setTop (mkF m pc Ls [.int v])) := by
      intro r
      induction r with
      | zero =>
        intro i hi he cl
        exact ⟨33, _, 1, Or.inr rfl, Or.inl ⟨rfl, hs, fun j hj => he j (by omega)⟩, cl.trans (by
          refine XS.iloadN X0.here hexec rfl (hb hbytes d9) rfl ?_
          refine XS.aloadN X0.here hexec rfl (hb hbytes d10) rfl rfl ?_
          refine X0.alen hexec hA0 rfl rfl (hb hbytes d11) ?_
          refine XS.icmpYes X0.here hexec rfl (pc0 := 12) rfl (hb hbytes d12) rfl (ii_ge_t (nlt32 (by omega) (by omega))) (by decide) rfl ?_
          refine iconstV X0.here hexec rfl 1 (hb hbytes d32) (by decide) ?_
          exact Steps.refl _)⟩
      | succ r ih =>
        intro i hi he cl
        have c4 : Steps p.tables e below (s₁.setTop (entryFrame m #[.ref a, .ref b] 3)) (s₁.setTop (mkF m 21 #[.val (.ref a), .val (.ref b), .val (.int (Int32.ofNat i))] [.int (yv B i), .int (yv A i)])) := cl.trans (by
          refine XS.iloadN X0.here hexec rfl (hb hbytes d9) rfl ?_
          refine XS.aloadN X0.here hexec rfl (hb hbytes d10) rfl rfl ?_
          refine X0.alen hexec hA0 rfl rfl (hb hbytes d11) ?_
          refine XS.icmpNo X0.here hexec rfl (hb hbytes d12) rfl (ii_ge_f (lt32 (by omega) (by omega))) ?_
          refine XS.aloadN X0.here hexec rfl (hb hbytes d15) rfl rfl ?_
          refine XS.iloadN X0.here hexec rfl (hb hbytes d16) rfl ?_
          refine X0.aget hexec hA0 rfl (yv_get hA tA (i := i) (by omega)) rfl rfl (hb hbytes d17) ?_
          refine XS.aloadN X0.here hexec rfl (hb hbytes d18) rfl rfl ?_
          refine XS.iloadN X0.here hexec rfl (hb hbytes d19) rfl ?_
          refine X0.aget hexec hB0 rfl (yv_get hB tB (i := i) (by omega)) rfl rfl (hb hbytes d20) ?_
          exact Steps.refl _)
        by_cases hv : yv A i = yv B i
        · have c5 : Steps p.tables e below (s₁.setTop (entryFrame m #[.ref a, .ref b] 3)) (s₁.setTop (mkF m 9 #[.val (.ref a), .val (.ref b), .val (.int (Int32.ofNat i + 1))] [])) := c4.trans (by
            refine XS.icmpYes X0.here hexec rfl (pc0 := 21) rfl (hb hbytes d21) rfl (ii_eq_t hv) (by decide) rfl ?_
            refine iincV X0.here hexec rfl 1 (hb hbytes d26) (by decide) rfl rfl ?_
            refine XS.goto X0.here hexec rfl (pc0 := 29) rfl (hb hbytes d29) (by decide) rfl ?_
            exact Steps.refl _)
          rw [succ32] at c5
          exact ih (i + 1) (by omega) (fun j hj => by
            by_cases e : j = i
            · rw [e]; exact hv
            · exact he j (by omega)) c5
        · exact ⟨25, _, 0, Or.inl rfl, Or.inr ⟨rfl, fun q => hv (q.2 i (by omega))⟩, c4.trans (by
            refine XS.icmpNo X0.here hexec rfl (hb hbytes d21) rfl (ii_eq_f hv) ?_
            refine iconstV X0.here hexec rfl 0 (hb hbytes d24) (by decide) ?_
            exact Steps.refl _)⟩
    obtain ⟨pc, Ls, v, hpc, hv, cz⟩ := loop A.slots.size 0 (by omega) (fun j hj => absurd hj (Nat.not_lt_zero j)) c3
    have nv : narrow .boolean (.int v) = .int v := by rcases hv with ⟨rfl, -⟩ | ⟨rfl, -⟩ <;> rfl
    rcases hpc with rfl | rfl
    · exact ⟨s₁, some (.int v), _, _, _, X0, rfl, rfl, rfl, (fun h => by cases h), ⟨v, rfl, hh0, hv⟩, fun fs hl => cz.trans (X0.ireturnOut hexec hret nv (Or.inr (Or.inl rfl)) (hb hbytes d25) hl)⟩
    · exact ⟨s₁, some (.int v), _, _, _, X0, rfl, rfl, rfl, (fun h => by cases h), ⟨v, rfl, hh0, hv⟩, fun fs hl => cz.trans (X0.ireturnOut hexec hret nv (Or.inr (Or.inl rfl)) (hb hbytes d33) hl)⟩
  · have c3 : Steps p.tables e below (s₁.setTop (entryFrame m #[.ref a, .ref b] 3)) (s₁.setTop (mkF m 35 #[.val (.ref a), .val (.ref b), .unset] [.int 0])) := c2.trans (by
      refine XS.icmpYes X0.here hexec rfl (pc0 := 4) rfl (hb hbytes d4) rfl (ii_ne_t (ne32 a31 b31 hs)) (by decide) rfl ?_
      refine iconstV X0.here hexec rfl 0 (hb hbytes d34) (by decide) ?_
      exact Steps.refl _)
    exact ⟨s₁, some (.int 0), _, _, _, X0, rfl, rfl, rfl, (fun h => by cases h), ⟨0, rfl, hh0, Or.inr ⟨rfl, fun q => hs q.1⟩⟩, fun fs hl => c3.trans (X0.ireturnOut hexec hret rfl (Or.inr (Or.inl rfl)) (hb hbytes d35) hl)⟩
end LEq
theorem Cod.ty {cd : Int32} {n : Nat} {f : Nat → Int32} {V : Cell} (h : Cod cd n f V) : Typed .byte V := fun i v hv => by
  have hi : i < V.slots.size := (Array.getElem?_eq_some_iff.mp hv).1
  rcases h with ⟨-, k1, k2⟩ | ⟨-, k1, k2, -⟩
  · rw [(k2 i (by omega)).1] at hv; cases hv; exact fits_lo8 _
  · rcases Nat.mod_two_eq_zero_or_one i with e | e
    · obtain ⟨j, rfl⟩ : ∃ j, i = 2 * j := ⟨i / 2, by omega⟩
      rw [(k2 j (by omega)).1] at hv; cases hv; exact fits_lo8 _
    · obtain ⟨j, rfl⟩ : ∃ j, i = 2 * j + 1 := ⟨i / 2, by omega⟩
      rw [(k2 j (by omega)).2] at hv; cases hv; exact fits_lo8 _
/-- the same text -/
def SameT (n : Nat) (f : Nat → Int32) (k : Nat) (g : Nat → Int32) : Prop := n = k ∧ ∀ j, j < n → f j = g j
theorem lo8_inj {x y : Int32} (h0 : ¬ x < 0) (h1 : ¬ 255 < x) (k0 : ¬ y < 0) (k1 : ¬ 255 < y) (h : lo8 x = lo8 y) : x = y := by
  rw [← lo8_mask h0 h1, ← lo8_mask k0 k1, h]
/-- arrays coded by one coder are equal just where the texts are -/
theorem Cod.eqv {cd : Int32} {n k : Nat} {f g : Nat → Int32} {V V' : Cell} (h : Cod cd n f V) (h' : Cod cd k g V') (hf : ∀ j, j < n → ¬ f j < 0 ∧ ¬ 65535 < f j) (hg : ∀ j, j < k → ¬ g j < 0 ∧ ¬ 65535 < g j) : EqC V V' ↔ SameT n f k g := by
  have yvv : ∀ {W : Cell} {i : Nat} {x : Int32}, W.slots[i]? = some (.int x) → yv W i = x := fun q => by unfold yv; rw [q]
  rcases h with ⟨rfl, k1, k2⟩ | ⟨rfl, k1, k2, -⟩
  · rcases h' with ⟨-, m1, m2⟩ | ⟨e, -⟩
    · constructor
      · rintro ⟨e1, e2⟩
        refine ⟨by omega, fun j hj => ?_⟩
        have q := e2 j (by omega)
        rw [yvv (k2 j hj).1, yvv (m2 j (by omega)).1] at q
        exact lo8_inj (hf j hj).1 (k2 j hj).2 (hg j (by omega)).1 (m2 j (by omega)).2 q
      · rintro ⟨rfl, e2⟩
        refine ⟨by omega, fun j hj => ?_⟩
        rw [yvv (k2 j (by omega)).1, yvv (m2 j (by omega)).1, e2 j (by omega)]
    · exact absurd e (by decide)
  · rcases h' with ⟨e, -⟩ | ⟨-, m1, m2, -⟩
    · exact absurd e (by decide)
    · constructor
      · rintro ⟨e1, e2⟩
        refine ⟨by omega, fun j hj => ?_⟩
        have q1 := e2 (2 * j) (by omega)
        have q2 := e2 (2 * j + 1) (by omega)
        rw [yvv (k2 j hj).1, yvv (m2 j (by omega)).1] at q1
        rw [yvv (k2 j hj).2, yvv (m2 j (by omega)).2] at q2
        rw [← pair_says (hf j hj).1 (hf j hj).2, ← pair_says (hg j (by omega)).1 (hg j (by omega)).2, q1, q2]
      · rintro ⟨rfl, e2⟩
        refine ⟨by omega, fun i hi => ?_⟩
        rcases Nat.mod_two_eq_zero_or_one i with e | e
        · obtain ⟨j, rfl⟩ : ∃ j, i = 2 * j := ⟨i / 2, by omega⟩
          rw [yvv (k2 j (by omega)).1, yvv (m2 j (by omega)).1, e2 j (by omega)]
        · obtain ⟨j, rfl⟩ : ∃ j, i = 2 * j + 1 := ⟨i / 2, by omega⟩
          rw [yvv (k2 j (by omega)).2, yvv (m2 j (by omega)).2, e2 j (by omega)]
/-- two codings differ: so do the texts -/
theorem Cod.dif {cd cd' : Int32} {n k : Nat} {f g : Nat → Int32} {V V' : Cell} (h : Cod cd n f V) (h' : Cod cd' k g V') (hne : ¬ cd = cd') : ¬ SameT n f k g := by
  rintro ⟨rfl, e⟩
  rcases h with ⟨rfl, -, k2⟩ | ⟨rfl, -, -, j, hj, hw⟩
  · rcases h' with ⟨rfl, -⟩ | ⟨-, -, -, j, hj, hw⟩
    · exact hne rfl
    · exact (k2 j hj).2 (by rw [e j hj]; exact hw)
  · rcases h' with ⟨-, -, m2⟩ | ⟨rfl, -⟩
    · exact (m2 j hj).2 (by rw [← e j hj]; exact hw)
    · exact hne rfl
/-- an object of exactly C is an instance of C -/
theorem cinst {p : Program} {l : Launch} {e : Env} {R : Room} {s : State} {m : MethodId} {args : Array Value} {below : List Frame} {meth : Method} {c : Code} {T : State} {locs : List Loc} {cells slots : Nat} (X : Stand p l e R s m args below meth c T locs cells slots) (hexec : p.tables.exec = Jvm.exec) {own C : String} {index : Nat} (hown : s.vm.findClass own = some m.cls) (hlink : (Cond.classLink own index C).before args s = true) {a : Addr} (hE : Exact C a T)
    {g : JFrame} (hg : g.method = m) {rest : List Value} (hstack : g.stack = .ref a :: rest) (hdg : decode c.code g.pc = .ok (.instanceof index, 3)) :
    ∃ T', Stand p l e R s m args below meth c T' locs cells slots ∧ T'.heap = T.heap ∧ ∀ target, Steps p.tables e below (T'.setTop { g with pc := g.pc + 3, stack := .int 1 :: rest }) target → Steps p.tables e below (T.setTop g) target := by
  obtain ⟨cB, h1, D, h2, h3, h4⟩ := hE
  have h1' : s.vm.findClass C = some cB := by rw [← X.warmed.alike.findClass]; exact h1
  obtain ⟨vm', X', st⟩ := X.instanceofYes hexec hown hlink h2 h4 h1' (by rw [h3]; exact Jvm.Free.SB.assignable_self _ _) hg hstack hdg
  exact ⟨_, X', rfl, st⟩
theorem cself {p : Program} {l : Launch} {e : Env} {R : Room} {s : State} {m : MethodId} {args : Array Value} {below : List Frame} {meth : Method} {c : Code} {T : State} {locs : List Loc} {cells slots : Nat} (X : Stand p l e R s m args below meth c T locs cells slots) (hexec : p.tables.exec = Jvm.exec) {own C : String} {index : Nat} (hown : s.vm.findClass own = some m.cls) (hlink : (Cond.classLink own index C).before args s = true) {a : Addr} (hE : Exact C a T)
    {g : JFrame} (hg : g.method = m) {rest : List Value} (hstack : g.stack = .ref a :: rest) (hdg : decode c.code g.pc = .ok (.checkcast index, 3)) :
    ∃ T', Stand p l e R s m args below meth c T' locs cells slots ∧ T'.heap = T.heap ∧ ∀ target, Steps p.tables e below (T'.setTop { g with pc := g.pc + 3, stack := .ref a :: rest }) target → Steps p.tables e below (T.setTop g) target := by
  obtain ⟨cB, h1, D, h2, h3, h4⟩ := hE
  have h1' : s.vm.findClass C = some cB := by rw [← X.warmed.alike.findClass]; exact h1
  obtain ⟨vm', X', st⟩ := X.checkcastYes hexec hown hlink h2 h4 h1' (by rw [h3]; exact Jvm.Free.SB.assignable_self _ _) hg hstack hdg
  exact ⟨_, X', rfl, fun t h => st t (by rw [← hstack] at h; exact h)⟩
namespace SEq
def yN : MethodName := ⟨"java/lang/String", "equals", "(Ljava/lang/Object;)Z"⟩
abbrev yB : ByteArray := jdk_42_method_66_code
theorem d0 : decode yB 0 = .ok (.aload_n 0, 1) := by decide +kernel
theorem d1 : decode yB 1 = .ok (.aload_n 1, 1) := by decide +kernel
theorem d2 : decode yB 2 = .ok (.if_acmp (.ne) 5, 3) := by decide +kernel
theorem d5 : decode yB 5 = .ok (.iconst 1, 1) := by decide +kernel
theorem d6 : decode yB 6 = .ok (.ireturn, 1) := by decide +kernel
theorem d7 : decode yB 7 = .ok (.aload_n 1, 1) := by decide +kernel
theorem d8 : decode yB 8 = .ok (.instanceof 10, 3) := by decide +kernel
theorem d11 : decode yB 11 = .ok (.ifCond (.eq) 43, 3) := by decide +kernel
theorem d14 : decode yB 14 = .ok (.aload_n 1, 1) := by decide +kernel
theorem d15 : decode yB 15 = .ok (.checkcast 10, 3) := by decide +kernel
theorem d18 : decode yB 18 = .ok (.astore_n 2, 1) := by decide +kernel
theorem d19 : decode yB 19 = .ok (.getstatic 38, 3) := by decide +kernel
theorem d22 : decode yB 22 = .ok (.ifCond (.eq) 14, 3) := by decide +kernel
theorem d25 : decode yB 25 = .ok (.aload_n 0, 1) := by decide +kernel
theorem d26 : decode yB 26 = .ok (.getfield 15, 3) := by decide +kernel
theorem d29 : decode yB 29 = .ok (.aload_n 2, 1) := by decide +kernel
theorem d30 : decode yB 30 = .ok (.getfield 15, 3) := by decide +kernel
theorem d33 : decode yB 33 = .ok (.if_icmp (.ne) 21, 3) := by decide +kernel
theorem d36 : decode yB 36 = .ok (.aload_n 0, 1) := by decide +kernel
theorem d37 : decode yB 37 = .ok (.getfield 9, 3) := by decide +kernel
theorem d40 : decode yB 40 = .ok (.aload_n 2, 1) := by decide +kernel
theorem d41 : decode yB 41 = .ok (.getfield 9, 3) := by decide +kernel
theorem d44 : decode yB 44 = .ok (.invokestatic 541, 3) := by decide +kernel
theorem d47 : decode yB 47 = .ok (.ifCond (.eq) 7, 3) := by decide +kernel
theorem d50 : decode yB 50 = .ok (.iconst 1, 1) := by decide +kernel
theorem d51 : decode yB 51 = .ok (.goto 4, 3) := by decide +kernel
theorem d54 : decode yB 54 = .ok (.iconst 0, 1) := by decide +kernel
theorem d55 : decode yB 55 = .ok (.ireturn, 1) := by decide +kernel
def site : List Cond := [.classLink "java/lang/String" 10 "java/lang/String", .fieldLink "java/lang/String" 38 "java/lang/String" "COMPACT_STRINGS" "Z", .fieldLink "java/lang/String" 15 "java/lang/String" "coder" "B", .fieldLink "java/lang/String" 9 "java/lang/String" "value" "[B", LEq.tab] ++ staticW "java/lang/String" 541 LEq.yN
def tab : Cond := tabOf yN yB 3 (some .boolean) site
def P (x t : Addr) (V : Cell) (cd : Int32) (n : Nat) (f : Nat → Int32) (y t' : Addr) (V' : Cell) (cd' : Int32) (k : Nat) (g : Nat → Int32) (z : Int32) (args : Array Value) (s : State) : Prop := args = #[.ref x, .ref y] ∧ Txt x t V cd n f s ∧ Txt y t' V' cd' k g s ∧ StaticIs s "java/lang/String" "COMPACT_STRINGS" "Z" (.int z) ∧ ¬ z = 0
/-- equals(Object) of two Strings: whether the texts are the same -/
theorem law (l : Launch) (x t : Addr) (V : Cell) (cd : Int32) (n : Nat) (f : Nat → Int32) (y t' : Addr) (V' : Cell) (cd' : Int32) (k : Nat) (g : Nat → Int32) (z : Int32) : Law l yN 2 1 1 14 yB 3 (some .boolean) site (P x t V cd n f y t' V' cd' k g z) (Says01 (SameT n f k g)) [] 0 0 := by
  refine Law.of_walk (plainFor_of_name (by decide +kernel)) (by decide +kernel) (by decide +kernel) (by decide) (fun _ _ h => by rw [h.1]; rfl) (fun _ U U' hal hh h => ⟨h.1, h.2.1.mv hal hh, h.2.2.1.mv hal hh, h.2.2.2.1.there hal hh, h.2.2.2.2⟩) (fun r U U' V V' h1 hal h2 h => Says01.mv r U U' V V' h1 hal h2 h) ?_
  intro p e s m args below meth c s₁ X0 hexec hbytes hml hret hlk hnm hown hh0 W hP
  obtain ⟨rfl, hx, hy, s1, hz⟩ := hP
  have c1 : Steps p.tables e below (s₁.setTop (entryFrame m #[.ref x, .ref y] 3)) (s₁.setTop (mkF m 2 #[.val (.ref x), .val (.ref y), .unset] [.ref y, .ref x])) := Steps.trans (entry rfl) (by
    show Steps p.tables e below (s₁.setTop (mkF m 0 #[.val (.ref x), .val (.ref y), .unset] [])) _
    refine XS.aloadN X0.here hexec rfl (hb hbytes d0) rfl rfl ?_
    refine XS.aloadN X0.here hexec rfl (hb hbytes d1) rfl rfl ?_
    exact Steps.refl _)
  by_cases hxy : x = y
  · have c2 : Steps p.tables e below (s₁.setTop (entryFrame m #[.ref x, .ref y] 3)) (s₁.setTop (mkF m 6 #[.val (.ref x), .val (.ref y), .unset] [.int 1])) := c1.trans (by
      refine acmpNo X0.here hexec rfl (hb hbytes d2) rfl rfl rfl (by simp [acmp, hxy]) ?_
      refine iconstV X0.here hexec rfl 1 (hb hbytes d5) (by decide) ?_
      exact Steps.refl _)
    subst hxy
    have ec : cd = cd' := by
      obtain ⟨D, fd, a1, a2, a3⟩ := hx.2.2.1
      obtain ⟨D', fd', b1, b2, b3⟩ := hy.2.2.1
      cases a1.symm.trans b1
      obtain ⟨q1, q2, q3, q4⟩ := a2.1
      obtain ⟨r1, r2, r3, r4⟩ := b2.1
      cases q4.symm.trans r4
      cases a3.symm.trans b3; rfl
    have et : t = t' := by
      obtain ⟨D, fd, a1, a2, a3⟩ := hx.2.1
      obtain ⟨D', fd', b1, b2, b3⟩ := hy.2.1
      cases a1.symm.trans b1
      obtain ⟨q1, q2, q3, q4⟩ := a2.1
      obtain ⟨r1, r2, r3, r4⟩ := b2.1
      cases q4.symm.trans r4
      cases a3.symm.trans b3; rfl
    subst ec et
    have ev : V = V' := by cases hx.2.2.2.1.1.symm.trans hy.2.2.2.1.1; rfl
    subst ev
    have hs : SameT n f k g := (Cod.eqv hx.2.2.2.2.1 hy.2.2.2.2.1 hx.2.2.2.2.2 hy.2.2.2.2.2).mp ⟨rfl, fun _ _ => rfl⟩
    exact ⟨s₁, some (.int 1), _, _, _, X0, rfl, rfl, rfl, (fun h => by cases h), ⟨1, rfl, hh0, Or.inl ⟨rfl, hs⟩⟩, fun fs hl => c2.trans (X0.ireturnOut hexec hret rfl (Or.inr (Or.inl rfl)) (hb hbytes d6) hl)⟩
  · have c2 : Steps p.tables e below (s₁.setTop (entryFrame m #[.ref x, .ref y] 3)) (s₁.setTop (mkF m 8 #[.val (.ref x), .val (.ref y), .unset] [.ref y])) := c1.trans (by
      refine acmpYes X0.here hexec rfl (pc0 := 2) rfl (hb hbytes d2) rfl rfl rfl (by simp [acmp, hxy]) (by decide) rfl ?_
      refine XS.aloadN X0.here hexec rfl (hb hbytes d7) rfl rfl ?_
      exact Steps.refl _)
    obtain ⟨T3, X3, q3, st3⟩ := cinst X0 hexec hown (wk W (.classLink "java/lang/String" 10 "java/lang/String")) (hy.mv X0.warmed.alike hh0).1 (g := (mkF m 8 #[.val (.ref x), .val (.ref y), .unset] [.ref y])) rfl (rest := []) rfl (hb hbytes d8)
    have hh3 := q3.trans hh0
    have c4 : Steps p.tables e below (s₁.setTop (entryFrame m #[.ref x, .ref y] 3)) (T3.setTop (mkF m 15 #[.val (.ref x), .val (.ref y), .unset] [.ref y])) := (c2.trans (st3 _ (Steps.refl _))).trans (by
      refine XS.ifNo X3.here hexec rfl (hb hbytes d11) rfl (i0_eq_f (by decide)) ?_
      refine XS.aloadN X3.here hexec rfl (hb hbytes d14) rfl rfl ?_
      exact Steps.refl _)
    obtain ⟨T5, X5, q5, st5⟩ := cself X3 hexec hown (wk W (.classLink "java/lang/String" 10 "java/lang/String")) (hy.mv X3.warmed.alike hh3).1 (g := (mkF m 15 #[.val (.ref x), .val (.ref y), .unset] [.ref y])) rfl (rest := []) rfl (hb hbytes d15)
    have hh5 := q5.trans hh3
    have c6 : Steps p.tables e below (s₁.setTop (entryFrame m #[.ref x, .ref y] 3)) (T5.setTop (mkF m 19 #[.val (.ref x), .val (.ref y), .val (.ref y)] [])) := (c4.trans (st5 _ (Steps.refl _))).trans (by
      refine XS.astoreN X5.here hexec rfl (hb hbytes d18) rfl rfl rfl ?_
      exact Steps.refl _)
    obtain ⟨T7, X7, q7, st7⟩ := X5.sget hexec hown (wk W (.fieldLink "java/lang/String" 38 "java/lang/String" "COMPACT_STRINGS" "Z")) s1 (fun _ _ h => by rw [hh5]; exact h) (g := (mkF m 19 #[.val (.ref x), .val (.ref y), .val (.ref y)] [])) rfl (hb hbytes d19)
    have hh7 := q7.trans hh5
    have c8 : Steps p.tables e below (s₁.setTop (entryFrame m #[.ref x, .ref y] 3)) (T7.setTop (mkF m 26 #[.val (.ref x), .val (.ref y), .val (.ref y)] [.ref x])) := (c6.trans (st7 _ (Steps.refl _))).trans (by
      refine XS.ifNo X7.here hexec rfl (hb hbytes d22) rfl (i0_eq_f hz) ?_
      refine XS.aloadN X7.here hexec rfl (hb hbytes d25) rfl rfl ?_
      exact Steps.refl _)
    obtain ⟨T9, X9, q9, st9⟩ := X7.hget hexec hown (wk W (.fieldLink "java/lang/String" 15 "java/lang/String" "coder" "B")) (hx.mv X7.warmed.alike hh7).2.2.1 (g := (mkF m 26 #[.val (.ref x), .val (.ref y), .val (.ref y)] [.ref x])) rfl (rest := []) rfl (hb hbytes d26)
    have hh9 := q9.trans hh7
    have c10 : Steps p.tables e below (s₁.setTop (entryFrame m #[.ref x, .ref y] 3)) (T9.setTop (mkF m 30 #[.val (.ref x), .val (.ref y), .val (.ref y)] [.ref y, .int cd])) := (c8.trans (st9 _ (Steps.refl _))).trans (by
      refine XS.aloadN X9.here hexec rfl (hb hbytes d29) rfl rfl ?_
      exact Steps.refl _)
    obtain ⟨T11, X11, q11, st11⟩ := X9.hget hexec hown (wk W (.fieldLink "java/lang/String" 15 "java/lang/String" "coder" "B")) (hy.mv X9.warmed.alike hh9).2.2.1 (g := (mkF m 30 #[.val (.ref x), .val (.ref y), .val (.ref y)] [.ref y, .int cd])) rfl (rest := [.int cd]) rfl (hb hbytes d30)
    have hh11 := q11.trans hh9
    have c12 : Steps p.tables e below (s₁.setTop (entryFrame m #[.ref x, .ref y] 3)) (T11.setTop (mkF m 33 #[.val (.ref x), .val (.ref y), .val (.ref y)] [.int cd', .int cd])) := c10.trans (st11 _ (Steps.refl _))
    by_cases hcd : cd = cd'
    · subst hcd
      have c13 : Steps p.tables e below (s₁.setTop (entryFrame m #[.ref x, .ref y] 3)) (T11.setTop (mkF m 37 #[.val (.ref x), .val (.ref y), .val (.ref y)] [.ref x])) := c12.trans (by
        refine XS.icmpNo X11.here hexec rfl (hb hbytes d33) rfl (ii_ne_f rfl) ?_
        refine XS.aloadN X11.here hexec rfl (hb hbytes d36) rfl rfl ?_
        exact Steps.refl _)
      obtain ⟨T14, X14, q14, st14⟩ := X11.hget hexec hown (wk W (.fieldLink "java/lang/String" 9 "java/lang/String" "value" "[B")) (hx.mv X11.warmed.alike hh11).2.1 (g := (mkF m 37 #[.val (.ref x), .val (.ref y), .val (.ref y)] [.ref x])) rfl (rest := []) rfl (hb hbytes d37)
      have hh14 := q14.trans hh11
      have c15 : Steps p.tables e below (s₁.setTop (entryFrame m #[.ref x, .ref y] 3)) (T14.setTop (mkF m 41 #[.val (.ref x), .val (.ref y), .val (.ref y)] [.ref y, .ref t])) := (c13.trans (st14 _ (Steps.refl _))).trans (by
        refine XS.aloadN X14.here hexec rfl (hb hbytes d40) rfl rfl ?_
        exact Steps.refl _)
      obtain ⟨T16, X16, q16, st16⟩ := X14.hget hexec hown (wk W (.fieldLink "java/lang/String" 9 "java/lang/String" "value" "[B")) (hy.mv X14.warmed.alike hh14).2.1 (g := (mkF m 41 #[.val (.ref x), .val (.ref y), .val (.ref y)] [.ref y, .ref t])) rfl (rest := [.ref t]) rfl (hb hbytes d41)
      have hh16 := q16.trans hh14
      have c17 : Steps p.tables e below (s₁.setTop (entryFrame m #[.ref x, .ref y] 3)) (T16.setTop (mkF m 44 #[.val (.ref x), .val (.ref y), .val (.ref y)] [.ref t', .ref t])) := c15.trans (st16 _ (Steps.refl _))
      obtain ⟨v18, T18, X18, E18, g18⟩ := X16.callS hexec (LEq.law l t V t' V') hown (wks W (staticW "java/lang/String" 541 LEq.yN)) (wk W LEq.tab) (W := 0) (Nat.le_of_ble_eq_true rfl) (Nat.le_of_ble_eq_true rfl) (Nat.le_refl _) (Nat.le_refl _) (g := (mkF m 44 #[.val (.ref x), .val (.ref y), .val (.ref y)] [.ref t', .ref t])) rfl (by rw [hml]; rfl) c17 (argsL := [.ref t, .ref t']) (rest := []) rfl rfl (by show 2 * 0 + 0 ≤ _; decide) (hb hbytes d44) (⟨rfl, hx.2.2.2.1.mv X16.warmed.alike hh16, hx.2.2.2.2.1.ty, hy.2.2.2.1.mv X16.warmed.alike hh16, hy.2.2.2.2.1.ty⟩)
      obtain ⟨v, rfl, q18, hv⟩ := E18
      have iff := Cod.eqv hx.2.2.2.2.1 hy.2.2.2.2.1 hx.2.2.2.2.2 hy.2.2.2.2.2
      rcases hv with ⟨rfl, he⟩ | ⟨rfl, he⟩
      · have c19 : Steps p.tables e below (s₁.setTop (entryFrame m #[.ref x, .ref y] 3)) (T18.setTop (mkF m 55 #[.val (.ref x), .val (.ref y), .val (.ref y)] [.int 1])) := Steps.trans g18 (by
          refine XS.ifNo X18.here hexec rfl (hb hbytes d47) rfl (i0_eq_f (by decide)) ?_
          refine iconstV X18.here hexec rfl 1 (hb hbytes d50) (by decide) ?_
          refine XS.goto X18.here hexec rfl (pc0 := 51) rfl (hb hbytes d51) (by decide) rfl ?_
          exact Steps.refl _)
        exact ⟨T18, some (.int 1), _, _, _, X18, rfl, rfl, rfl, (fun h => by cases h), ⟨1, rfl, q18.trans hh16, Or.inl ⟨rfl, iff.mp he⟩⟩, fun fs hl => c19.trans (X18.ireturnOut hexec hret rfl (Or.inr (Or.inl rfl)) (hb hbytes d55) hl)⟩
      · have c19 : Steps p.tables e below (s₁.setTop (entryFrame m #[.ref x, .ref y] 3)) (T18.setTop (mkF m 55 #[.val (.ref x), .val (.ref y), .val (.ref y)] [.int 0])) := Steps.trans g18 (by
          refine XS.ifYes X18.here hexec rfl (pc0 := 47) rfl (hb hbytes d47) rfl (i0_eq_t rfl) (by decide) rfl ?_
          refine iconstV X18.here hexec rfl 0 (hb hbytes d54) (by decide) ?_
          exact Steps.refl _)
        exact ⟨T18, some (.int 0), _, _, _, X18, rfl, rfl, rfl, (fun h => by cases h), ⟨0, rfl, q18.trans hh16, Or.inr ⟨rfl, fun q => he (iff.mpr q)⟩⟩, fun fs hl => c19.trans (X18.ireturnOut hexec hret rfl (Or.inr (Or.inl rfl)) (hb hbytes d55) hl)⟩
    · have c13 : Steps p.tables e below (s₁.setTop (entryFrame m #[.ref x, .ref y] 3)) (T11.setTop (mkF m 55 #[.val (.ref x), .val (.ref y), .val (.ref y)] [.int 0])) := c12.trans (by
        refine XS.icmpYes X11.here hexec rfl (pc0 := 33) rfl (hb hbytes d33) rfl (ii_ne_t hcd) (by decide) rfl ?_
        refine iconstV X11.here hexec rfl 0 (hb hbytes d54) (by decide) ?_
        exact Steps.refl _)
      exact ⟨T11, some (.int 0), _, _, _, X11, rfl, rfl, rfl, (fun h => by cases h), ⟨0, rfl, hh11, Or.inr ⟨rfl, Cod.dif hx.2.2.2.2.1 hy.2.2.2.2.1 hcd⟩⟩, fun fs hl => c13.trans (X11.ireturnOut hexec hret rfl (Or.inr (Or.inl rfl)) (hb hbytes d55) hl)⟩
theorem pays {l : Launch} {R : Room} {p : Program} {e : Env} {below : List Frame} {s : State} {sargs : Array Value} {len W : Nat} (x t : Addr) (V : Cell) (cd : Int32) (n : Nat) (f : Nat → Int32) (y t' : Addr) (V' : Cell) (cd' : Int32) (k : Nat) (g : Nat → Int32) (z : Int32) (htab : tab.before sargs s = true) (hfr : 2 ≤ R.frames) (hlo : W + 28 ≤ R.locals) :
    Back l R p e below s sargs yN len W (fun A₁ a₁ => A₁.cells + 0 ≤ R.cells ∧ A₁.slots + 0 ≤ R.slots ∧ P x t V cd n f y t' V' cd' k g z a₁ A₁.U) (fun A₁ _ v₁ B₁ => Says01 (SameT n f k g) v₁ A₁.U B₁.U ∧ B₁.locs = A₁.locs ++ [] ∧ B₁.cells = A₁.cells + 0 ∧ B₁.slots = A₁.slots + 0) :=
  (law l x t V cd n f y t' V' cd' k g z).pays htab hfr (by omega)
end SEq
end StrChars
namespace StrChars.Road
open Jvm Sem ClassFile Op Lib Jvm.Stand Jvm.Free Jvm.Free.XT
open Jvm.Lib.Cold (StaticIs)
/-- the words of String.equals(Object) -/
abbrev wordsEq : List Jvm.Cond := [.code SEq.yN SEq.yB 3 (some .boolean), .initialized ST, .classLink ST 10 ST, .fieldLink ST 38 ST "COMPACT_STRINGS" "Z", .fieldLink ST 15 ST "coder" "B", .fieldLink ST 9 ST "value" "[B", .methodLink ST 541 LEq.yN, .static LEq.yN, .code LEq.yN LEq.yB 3 (some .boolean), .initialized "java/lang/StringLatin1"]
theorem tabEq_of {a : Array Value} {s : State} (h : ∀ w ∈ wordsEq, w.before a s = true) : SEq.tab.before a s = true := by
  have hl : LEq.tab.before a s = true := unparts (wk h (.code LEq.yN LEq.yB 3 (some .boolean))) (wks h (.initialized LEq.yN.cls :: LEq.site))
  have q := consq hl h
  exact unparts (wk q (.code SEq.yN SEq.yB 3 (some .boolean))) (wks q (.initialized SEq.yN.cls :: SEq.site))
theorem movedEq {Z s : State} {a0 args : Array Value} (hZ : Z.Warmed39 s.vm) (hw : ∀ d ∈ wordsEq, d.before a0 Z = true) : ∀ d ∈ wordsEq, d.before args s = true := fun d hd => by
  have t : ∀ d ∈ wordsEq, (d.onTables && d.keepsFace) = true := by decide +kernel
  exact RoadKit.mv hZ (hw d hd) (t d hd)
/-- the road's facts of a String, as the laws ask it -/
theorem txt_of {Z U : State} {a0 : Array Value} {kI : Nat} (wi : (Jvm.Cond.instantiable ST kI).before a0 Z = true) (al : Z.vm.Alike U.vm) {x t : Addr} {kb : ClassId} {cs : List Int32} {cd N2 : Int32} {vs : List Value} (E : RoadKit.Exa Z U.heap x ST) (V : RoadKit.Fld Z U.heap x ST "value" "[B" (.ref t)) (C : RoadKit.Fld Z U.heap x ST "coder" "B" (.int cd)) (K : RoadKit.Arv Z U.heap t kb .byte N2 vs (.int 0)) (hc : CodA cs cd N2 vs) (hb : ∀ c ∈ cs, ¬ c < 0 ∧ ¬ (65535 : Int32) < c) (l2 : cs.length ≤ 4000) :
    ∃ A, Txt x t A cd cs.length (fun j => cs.getD j 0) U := by
  obtain ⟨A, K1, K2, K3, K4, K5, K6⟩ := K
  have hcod := hc.cod (by omega) K3 K5
  obtain ⟨D, fV, fC, hB, F1, F2, g1, g2, -, -⟩ := strObj wi al E V C
  exact ⟨A, ⟨_, hB.2.2.1, D, hB.1, rfl, by cases q : D.vm <;> first | rfl | exact absurd q (hB.2.1.2 _)⟩, Has.of hB F1 g1, Has.of hB F2 g2, ⟨K1.1, State.isArrayOf_alike al K1.2.1, K1.2.2, by rcases hcod with ⟨-, q, -⟩ | ⟨-, q, -⟩ <;> omega⟩, hcod, fun j hj => by
    have e : cs.getD j 0 = cs[j] := by simp [List.getD_eq_getElem?_getD, hj]
    show ¬ cs.getD j 0 < 0 ∧ ¬ 65535 < cs.getD j 0
    rw [e]; exact hb _ (List.getElem_mem _)⟩
theorem same_list (cs ds : List Int32) : SameT cs.length (fun j => cs.getD j 0) ds.length (fun j => ds.getD j 0) ↔ cs = ds := by
  constructor
  · rintro ⟨e, q⟩
    refine List.ext_getElem e fun j h1 h2 => ?_
    have := q j h1
    simpa [List.getD_eq_getElem?_getD, h1, h2] using this
  · rintro rfl
    exact ⟨rfl, fun _ _ => rfl⟩
/-- **equals(Object) OF TWO SUCH STRINGS**: 1 just where the chars are the same -/
theorem eqW {p : Program} {l : Launch} {e : Env} {R : Room} {s : State} {args : Array Value} {below : List Frame} {len W : Nat} {Z : State} {a0 : Array Value} {h : Heap} (hZ : Z.Warmed39 s.vm) (hw : ∀ d ∈ wordsEq, d.before a0 Z = true) {kI : Nat} (wi : (Jvm.Cond.instantiable ST kI).before a0 Z = true)
    {x t : Addr} {kb : ClassId} {cs : List Int32} {cd N2 : Int32} {vs : List Value} (E : RoadKit.Exa Z h x ST) (V : RoadKit.Fld Z h x ST "value" "[B" (.ref t)) (C : RoadKit.Fld Z h x ST "coder" "B" (.int cd)) (K : RoadKit.Arv Z h t kb .byte N2 vs (.int 0)) (hc : CodA cs cd N2 vs) (hb : ∀ c ∈ cs, ¬ c < 0 ∧ ¬ (65535 : Int32) < c) (l2 : cs.length ≤ 4000)
    {y t' : Addr} {kb' : ClassId} {ds : List Int32} {cd' N2' : Int32} {vs' : List Value} (E' : RoadKit.Exa Z h y ST) (V' : RoadKit.Fld Z h y ST "value" "[B" (.ref t')) (C' : RoadKit.Fld Z h y ST "coder" "B" (.int cd')) (K' : RoadKit.Arv Z h t' kb' .byte N2' vs' (.int 0)) (hc' : CodA ds cd' N2' vs') (hb' : ∀ c ∈ ds, ¬ c < 0 ∧ ¬ (65535 : Int32) < c) (l2' : ds.length ≤ 4000)
    {z : Int32} (S : RoadKit.Sta Z h ST "COMPACT_STRINGS" "Z" (.int z)) (hz : ¬ z = 0) (hfr : 2 ≤ R.frames) (hlo : W + 28 ≤ R.locals) :
    Back l R p e below s args (⟨"java/lang/String", "equals", "(Ljava/lang/Object;)Z"⟩ : MethodName) len W (fun P a => a = #[.ref x, .ref y] ∧ P.U.heap = h ∧ P.cells + 0 ≤ R.cells ∧ P.slots + 0 ≤ R.slots)
      (fun P _ v B => ∃ L, (((v = some (.int 1) ∧ cs = ds) ∨ (v = some (.int 0) ∧ ¬ cs = ds)) ∧ L = [] ∧ B.U.heap = h) ∧ B.locs = P.locs ++ L ∧ B.cells = P.cells + 0 ∧ B.slots = P.slots + 0) := by
  intro m meth c P g ig mk a X hg hsize hdg hW hn hp'
  obtain ⟨rfl, rfl, r1, r2⟩ := hp'
  have al : Z.vm.Alike P.U.vm := hZ.alike.trans X.warmed.alike
  obtain ⟨A, hx⟩ := txt_of wi al E V C K hc hb l2
  obtain ⟨A', hy⟩ := txt_of wi al E' V' C' K' hc' hb' l2'
  obtain ⟨v, B, X', ⟨⟨w, hv, hh, hq⟩, hl, hk, hs⟩, st⟩ := SEq.pays x t A cd cs.length (fun j => cs.getD j 0) y t' A' cd' ds.length (fun j => ds.getD j 0) z (tabEq_of (movedEq hZ hw)) hfr hlo m meth c P g ig mk _ X hg hsize hdg hW hn ⟨r1, r2, rfl, hx, hy, sta_is al S, hz⟩
  refine ⟨v, B, X', ⟨[], ⟨?_, rfl, hh⟩, hl, hk, hs⟩, st⟩
  rcases hq with ⟨rfl, q⟩ | ⟨rfl, q⟩
  · exact Or.inl ⟨hv, (same_list cs ds).mp q⟩
  · exact Or.inr ⟨hv, fun e => q ((same_list cs ds).mpr e)⟩
end StrChars.Road
namespace StrChars.Road
open Jvm Sem ClassFile Op Lib Jvm.Stand Jvm.Free Jvm.Free.XT
open Jvm.Lib.Cold (StaticIs)
/-- what backV says of its String, as the contracts of this text ask it: cs's low bytes, coder 0 -/
theorem codOf {cs : List Int32} {n : Nat} (hn : cs.length = n) (hb : ∀ c ∈ cs, ¬ 255 < c) : CodA cs 0 (Int32.ofNat n) ((cs.map lo8).map Value.int) := Or.inl ⟨rfl, by rw [hn], by simp [List.map_map, Function.comp_def], hb⟩
end StrChars.Road
end Jvm.Pilot.@@N@@
namespace Jvm.Pilot.@@N@@
open Jvm Jvm.ClassFile Sem Op Lib Jvm.Free Jvm.Stand Jvm.LawKit Jvm.RoadKit Bundle Jvm.Pilot.@@N@@.Jvm.D Jvm.OwnKit
section OwnStr
variable {p : Program} {l : Launch} {e : Env} {R : Room} {s : State} {args : Array Value} {below : List Frame} {Z : State} {a0 : Array Value} {EL : List (String × Nat)} {vm : Vm} {h : Heap} {len W : Nat}
theorem own_up {cs : List Int32} (h : ∀ c ∈ cs, B8 c) : ∀ c ∈ cs, ¬ c < 0 ∧ ¬ (65535 : Int32) < c := fun c hc => ⟨(h c hc).1, fun q => (h c hc).2 (by rw [Int32.lt_iff_toInt_lt] at q ⊢; have e1 : (65535 : Int32).toInt = 65535 := rfl; have e2 : (255 : Int32).toInt = 255 := rfl; omega)⟩
theorem own_payNew {zc : Int32} (hws : ∀ d ∈ StrChars.Road.words, d.before a0 Z = true) (wi : (Jvm.Cond.instantiable "java/lang/String" 4).before a0 Z = true) (Scs : Sta Z Z.heap "java/lang/String" "COMPACT_STRINGS" "Z" (.int zc)) (hzc : ¬ zc = 0) (O : Ext Z.heap h)
    {x b : Addr} {kC : ClassId} {cs : List Int32} {d v0 c0 : Value} {N : Int32} {n : Nat} (gx0 : Z.heap.size ≤ x) (E : Exa Z h x "java/lang/String") (V : Fld Z h x "java/lang/String" "value" "[B" v0) (C : Fld Z h x "java/lang/String" "coder" "B" c0) (K : Arv Z h b kC .char N (cs.map Value.int) d)
    (hn : cs.length = n) (hN : N = Int32.ofNat n) (l0 : 0 < n) (l2 : n ≤ 4000) (hp : ∀ c ∈ cs, B8 c) (Sf : Safe Z EL vm h x) (hfr : 4 ≤ R.frames) (hlo : W + 65 ≤ R.locals) (hZ : Z.Warmed39 vm) (H : CHv Z EL vm h) (hEL : EW Z a0 EL) :
    Pay l R p e below s args Z EL vm h (⟨"java/lang/String", "<init>", "([C)V"⟩ : MethodName) len W #[.ref x, .ref b] 1 n (fun v _ h' => ∃ (t : Addr), v = none ∧ Keep h h' [x] ∧ h.size ≤ t ∧ Str Z h' x t cs) := by
  have hx : x < h.size := E.lt
  refine Pay.of_back (a0 := a0) (Q0 := StrChars.Road.QV Z x N (cs.map fun c => c.toInt8.toInt32) h Z.heap.size) (StrChars.Road.backV (s := s.setVm vm) hZ hws (kI := 4) wi (cs := cs) (bs := cs.map fun c => c.toInt8.toInt32) (n := n) gx0 O.1 E V C K (Scs.ext O) hzc hn hN l0 l2 hp rfl hfr hlo) hZ H hEL ?_
  rintro v h' L ⟨rfl, q1, q2, q3, q4, t, kb, q5, q6, q7, q8, q9⟩
  exact ⟨q1, ⟨[x], q2, allS Sf all0⟩, fun vm' _ => ⟨t, rfl, q2, q6, q3, q4, q8, ⟨kb, by rw [hn, ← hN]; exact q9⟩, hp, by rw [hn]; exact l2⟩⟩
theorem own_payEq {zc : Int32} (hws : ∀ d ∈ StrChars.Road.wordsEq, d.before a0 Z = true) (wi : (Jvm.Cond.instantiable "java/lang/String" 4).before a0 Z = true) (Scs : Sta Z Z.heap "java/lang/String" "COMPACT_STRINGS" "Z" (.int zc)) (hzc : ¬ zc = 0) (O : Ext Z.heap h)
    {x t y u : Addr} {cs ds : List Int32} (F : Str Z h x t cs) (G : Str Z h y u ds) (hfr : 2 ≤ R.frames) (hlo : W + 28 ≤ R.locals) (hZ : Z.Warmed39 vm) (H : CHv Z EL vm h) (hEL : EW Z a0 EL) :
    Pay l R p e below s args Z EL vm h (⟨"java/lang/String", "equals", "(Ljava/lang/Object;)Z"⟩ : MethodName) len W #[.ref x, .ref y] 0 0 (fun v _ h' => ∃ (z : Int32), v = some (.int z) ∧ h = h' ∧ ((z = 1 ∧ cs = ds) ∨ (z = 0 ∧ ¬ cs = ds))) := by
  obtain ⟨f1, f2, f3, ⟨kb, f4⟩, f5, f6⟩ := F
  obtain ⟨g1, g2, g3, ⟨kb', g4⟩, g5, g6⟩ := G
  refine Pay.of_back (a0 := a0) (Q0 := fun v h' L => ((v = some (.int 1) ∧ cs = ds) ∨ (v = some (.int 0) ∧ ¬ cs = ds)) ∧ L = [] ∧ h' = h) (StrChars.Road.eqW (s := s.setVm vm) hZ hws (kI := 4) wi (cs := cs) (ds := ds) f1 f3 f2 f4 (StrChars.Road.codOf (n := cs.length) rfl (fun c hc => (f5 c hc).2)) (own_up f5) f6 g1 g3 g2 g4 (StrChars.Road.codOf (n := ds.length) rfl (fun c hc => (g5 c hc).2)) (own_up g5) g6 (Scs.ext O) hzc hfr hlo) hZ H hEL ?_
  rintro v h' L ⟨q, rfl, rfl⟩
  refine ⟨Fr.nil _, ⟨[], Keep.refl _ _, all0⟩, fun _ _ => ?_⟩
  rcases q with ⟨rfl, q⟩ | ⟨rfl, q⟩
  · exact ⟨1, rfl, rfl, Or.inl ⟨rfl, q⟩⟩
  · exact ⟨0, rfl, rfl, Or.inr ⟨rfl, q⟩⟩
theorem own_payEqT {zc : Int32} (hws : ∀ d ∈ StrChars.Road.wordsEq, d.before a0 Z = true) (wi : (Jvm.Cond.instantiable "java/lang/String" 4).before a0 Z = true) (Scs : Sta Z Z.heap "java/lang/String" "COMPACT_STRINGS" "Z" (.int zc)) (hzc : ¬ zc = 0) (O : Ext Z.heap h)
    {x t y u : Addr} {cs ds : List Int32} (F : Str Z h x t cs) (G : Str Z h y u ds) (q : cs = ds) (hfr : 2 ≤ R.frames) (hlo : W + 28 ≤ R.locals) (hZ : Z.Warmed39 vm) (H : CHv Z EL vm h) (hEL : EW Z a0 EL) :
    Pay l R p e below s args Z EL vm h (⟨"java/lang/String", "equals", "(Ljava/lang/Object;)Z"⟩ : MethodName) len W #[.ref x, .ref y] 0 0 (fun v _ h' => v = some (.int (1 : Int32)) ∧ h = h') :=
  (own_payEq hws wi Scs hzc O F G hfr hlo hZ H hEL).mono fun v vm' h' r => by
    obtain ⟨z, rfl, rfl, ⟨rfl, -⟩ | ⟨-, w⟩⟩ := r
    · exact ⟨rfl, rfl⟩
    · exact absurd q w
theorem own_payEqF {zc : Int32} (hws : ∀ d ∈ StrChars.Road.wordsEq, d.before a0 Z = true) (wi : (Jvm.Cond.instantiable "java/lang/String" 4).before a0 Z = true) (Scs : Sta Z Z.heap "java/lang/String" "COMPACT_STRINGS" "Z" (.int zc)) (hzc : ¬ zc = 0) (O : Ext Z.heap h)
    {x t y u : Addr} {cs ds : List Int32} (F : Str Z h x t cs) (G : Str Z h y u ds) (q : ¬ cs = ds) (hfr : 2 ≤ R.frames) (hlo : W + 28 ≤ R.locals) (hZ : Z.Warmed39 vm) (H : CHv Z EL vm h) (hEL : EW Z a0 EL) :
    Pay l R p e below s args Z EL vm h (⟨"java/lang/String", "equals", "(Ljava/lang/Object;)Z"⟩ : MethodName) len W #[.ref x, .ref y] 0 0 (fun v _ h' => v = some (.int (0 : Int32)) ∧ h = h') :=
  (own_payEq hws wi Scs hzc O F G hfr hlo hZ H hEL).mono fun v vm' h' r => by
    obtain ⟨z, rfl, rfl, ⟨-, w⟩ | ⟨rfl, -⟩⟩ := r
    · exact absurd w q
    · exact ⟨rfl, rfl⟩
end OwnStr
end Jvm.Pilot.@@N@@
namespace Jvm.Pilot.@@N@@
open Jvm Jvm.ClassFile Sem Op Lib Jvm.Free Jvm.Stand Jvm.LawKit Jvm.RoadKit Bundle Jvm.Pilot.@@N@@.Jvm.D Jvm.OwnKit
def Ctx (Z : State) (a0 : Array Value) : Prop := (∀ d ∈ tables_1, d.before a0 Z = true) ∧ EW Z a0 consts_1 ∧ (∃ zc : Int32, Sta Z Z.heap "java/lang/String" "COMPACT_STRINGS" "Z" (.int zc) ∧ ¬ zc = 0) ∧ (∃ fm : Value, Sta Z Z.heap "jdk/internal/util/Preconditions" "SIOOBE_FORMATTER" "Ljava/util/function/BiFunction;" fm ∧ fm.isRef = true)
theorem own_SA {Z : State} {a0 : Array Value} (hw : ∀ d ∈ tables_1, d.before a0 Z = true) : ∀ a ∈ Bundle.stringAtoms, a.before a0 Z = true := fun d hd => hw d ((by decide +kernel : ∀ d ∈ Bundle.stringAtoms, d ∈ tables_1) d hd)
theorem own_wNew {Z : State} {a0 : Array Value} (hw : ∀ d ∈ tables_1, d.before a0 Z = true) : ∀ d ∈ StrChars.Road.words, d.before a0 Z = true := fun d hd => hw d ((by decide +kernel : ∀ d ∈ StrChars.Road.words, d ∈ tables_1) d hd)
theorem own_wEq {Z : State} {a0 : Array Value} (hw : ∀ d ∈ tables_1, d.before a0 Z = true) : ∀ d ∈ StrChars.Road.wordsEq, d.before a0 Z = true := fun d hd => hw d ((by decide +kernel : ∀ d ∈ StrChars.Road.wordsEq, d ∈ tables_1) d hd)
theorem own_d_jdk_42_method_149_0 : decode jdk_42_method_149_code 0 = .ok (.aload_n 0, 1) := by decide +kernel
theorem own_d_jdk_42_method_149_1 : decode jdk_42_method_149_code 1 = .ok (.invokespecial 1, 3) := by decide +kernel
theorem own_d_jdk_42_method_149_4 : decode jdk_42_method_149_code 4 = .ok (.iload_n 3, 1) := by decide +kernel
theorem own_d_jdk_42_method_149_5 : decode jdk_42_method_149_code 5 = .ok (.ifCond .ne 22, 3) := by decide +kernel
theorem own_d_jdk_42_method_149_8 : decode jdk_42_method_149_code 8 = .ok (.aload_n 0, 1) := by decide +kernel
theorem own_d_jdk_42_method_149_9 : decode jdk_42_method_149_code 9 = .ok (.ldc 7, 2) := by decide +kernel
theorem own_d_jdk_42_method_149_11 : decode jdk_42_method_149_code 11 = .ok (.getfield 9, 3) := by decide +kernel
theorem own_d_jdk_42_method_149_14 : decode jdk_42_method_149_code 14 = .ok (.putfield 9, 3) := by decide +kernel
theorem own_d_jdk_42_method_149_17 : decode jdk_42_method_149_code 17 = .ok (.aload_n 0, 1) := by decide +kernel
theorem own_d_jdk_42_method_149_18 : decode jdk_42_method_149_code 18 = .ok (.ldc 7, 2) := by decide +kernel
theorem own_d_jdk_42_method_149_20 : decode jdk_42_method_149_code 20 = .ok (.getfield 15, 3) := by decide +kernel
theorem own_d_jdk_42_method_149_23 : decode jdk_42_method_149_code 23 = .ok (.putfield 15, 3) := by decide +kernel
theorem own_d_jdk_42_method_149_26 : decode jdk_42_method_149_code 26 = .ok (.return_, 1) := by decide +kernel
theorem own_pn13 : plainName "java/lang/String" = true := by first | (simp [plainName, overriddenIn]; done) | decide +kernel
set_option maxRecDepth 65536 in
set_option maxHeartbeats 40000000 in
theorem own_emp4 (l : Launch) (Z : State) (a0 : Array Value) (cx : Ctx Z a0) (ws : List Jvm.Cond) (x : Addr) (b : Addr) (v0 : Value) (c0 : Value) (vm0 : Vm) (h0 : Heap) (X00 : Ext Z.heap h0) (P0 : Exa Z h0 x "java/lang/String") (P1 : Fld Z h0 x "java/lang/String" "value" "[B" v0) (P2 : Fld Z h0 x "java/lang/String" "coder" "B" c0) (P3 : Z.heap.size ≤ x) (P4 : Safe Z consts_1 vm0 h0 x) :
    Met l (⟨"java/lang/String", "<init>", "([CIILjava/lang/Void;)V"⟩ : MethodName) jdk_42_method_149_code 6 none ws ({ frames := 1, cells := 4, slots := 8, locals := 12 } : Room) Z consts_1 vm0 h0 #[(.ref x), (.ref b), (.int (0 : Int32)), (.int (0 : Int32)), .null] (fun v vm h => ∃ (t : Addr), v = none ∧ Keep h0 h [x] ∧ Str Z h x t ([] : List Int32) ∧ Safe Z consts_1 vm h x) := by
  obtain ⟨hw, hEL, ⟨zc, Scs, hzc⟩, ⟨fm, Sfm, hfm⟩⟩ := id cx
  have hSA := own_SA hw
  refine Met.of_walk (a0 := a0) #[.val (.ref x), .val (.ref b), .val (.int (0 : Int32)), .val (.int (0 : Int32)), .val .null, .unset] (plainFor_of_name own_pn13) X00 hEL (fun m => by first | (simp [entryFrame, mkF, argsToLocals, Value.category]; done) | rfl) ?_
  intro p e s m below meth c vm hx hby hml hret hnm hC0
  have lt_x : h0.size > x := P0.lt
  have L4 := hC0.safe lt_x P4
  refine gs (mkF m 1 #[.val (.ref x), .val (.ref b), .val (.int (0 : Int32)), .val (.int (0 : Int32)), .val .null, .unset] [(.ref x)]) (fun _ _ A k => XS.aloadN A hx rfl (hb hby own_d_jdk_42_method_149_0) rfl rfl k) ?_
  refine ginitO hx (ow hw 18 rfl) (ow hw 19 rfl) (ow hw 20 rfl) 4 (W := 0) (Nat.le_of_eq rfl) (by rw [hml]; rfl) (hb hby own_d_jdk_42_method_149_1) rfl (by decide) (by decide) ?_
  refine gs (mkF m 5 #[.val (.ref x), .val (.ref b), .val (.int (0 : Int32)), .val (.int (0 : Int32)), .val .null, .unset] [(.int (0 : Int32))]) (fun _ _ A k => XS.iloadN A hx rfl (hb hby own_d_jdk_42_method_149_4) rfl  k) ?_
  refine gs (mkF m 8 #[.val (.ref x), .val (.ref b), .val (.int (0 : Int32)), .val (.int (0 : Int32)), .val .null, .unset] []) (fun _ _ A k => XS.ifNo A hx rfl (hb hby own_d_jdk_42_method_149_5) rfl ((if0 _ _).trans (teq (by decide)).2) k) ?_
  refine gs (mkF m 9 #[.val (.ref x), .val (.ref b), .val (.int (0 : Int32)), .val (.int (0 : Int32)), .val .null, .unset] [(.ref x)]) (fun _ _ A k => XS.aloadN A hx rfl (hb hby own_d_jdk_42_method_149_8) rfl rfl k) ?_
  refine gldcR hx (ow hw 21 rfl) hSA (by decide) (n := 0) (by decide) (by decide) (vs := []) (z := (0 : Int32)) (by decide +kernel) (by decide) (by decide) 11 (hb hby own_d_jdk_42_method_149_9) rfl (by decide) (by decide) ?_
  intro b2 t2 k2 vm2 h2 E2 C2 Q2a Q2b Q2c Q2d Q2e
  have z2 := C2.2.1
  have S2 : Str Z h2 b2 t2 ([] : List Int32) := Str.lit Q2a Q2b Q2c Q2d (by decide) rfl rfl (by decide)
  have lt_b2 : h2.size > b2 := S2.1.lt
  have lt_t2 : h2.size > t2 := S2.tlt
  have f3 := (C2.safe (show h0.size > x by omega) L4)
  have ne2_x := Q2e x f3
  refine ggetF (host := "") hx (Or.inl (ow hw 27 rfl)) Via.refl S2.2.2.1 14 (hb hby own_d_jdk_42_method_149_11) rfl ?_
  have f4 := (P1.ext E2)
  have f5 := (P0.ext E2)
  refine gputF (host := "") hx (Or.inl (ow hw 27 rfl)) Via.refl f4 f5 (Or.inr ⟨(ow hw 23 rfl), rfl, hnm⟩) (ow hw 9 rfl) (ty := (.array .byte)) (by decide) rfl rfl P3 (fun _ => f3) 17 (hb hby own_d_jdk_42_method_149_14) rfl ?_
  intro h6 W6 C6
  have z6 := C6.2.1
  have F6 := f4.same W6
  refine gs (mkF m 18 #[.val (.ref x), .val (.ref b), .val (.int (0 : Int32)), .val (.int (0 : Int32)), .val .null, .unset] [(.ref x)]) (fun _ _ A k => XS.aloadN A hx rfl (hb hby own_d_jdk_42_method_149_17) rfl rfl k) ?_
  refine gldcR hx (ow hw 21 rfl) hSA (by decide) (n := 0) (by decide) (by decide) (vs := []) (z := (0 : Int32)) (by decide +kernel) (by decide) (by decide) 20 (hb hby own_d_jdk_42_method_149_18) rfl (by decide) (by decide) ?_
  intro b7 t7 k7 vm7 h7 E7 C7 Q7a Q7b Q7c Q7d Q7e
  have z7 := C7.2.1
  have S7 : Str Z h7 b7 t7 ([] : List Int32) := Str.lit Q7a Q7b Q7c Q7d (by decide) rfl rfl (by decide)
  have lt_b7 : h7.size > b7 := S7.1.lt
  have lt_t7 : h7.size > t7 := S7.tlt
  have f8 := (C7.safe (show h6.size > x by omega) (C6.safe (show h2.size > x by omega) f3))
  have ne7_x := Q7e x f8
  refine ggetF (host := "") hx (Or.inl (ow hw 28 rfl)) Via.refl S7.2.1 23 (hb hby own_d_jdk_42_method_149_20) rfl ?_
  have f9 := (((P2.ext E2).other W6 (Or.inr (slot_ne (Or.inr (ow hw 24 rfl)) (Or.inr (ow hw 23 rfl)) (by decide) (t := .byte) (t' := (.array .byte)) (by decide) (by decide)))).ext E7)
  have f10 := ((f5.wr W6).ext E7)
  refine gputF (host := "") hx (Or.inl (ow hw 28 rfl)) Via.refl f9 f10 (Or.inr ⟨(ow hw 24 rfl), rfl, hnm⟩) (ow hw 9 rfl) (ty := .byte) (by decide) rfl rfl P3 (fun _ => f8) 26 (hb hby own_d_jdk_42_method_149_23) rfl ?_
  intro h11 W11 C11
  have z11 := C11.2.1
  have F11 := f9.same W11
  have f13 := (((S2.other W6 (Ne.symm ne2_x.1) (Ne.symm ne2_x.2)).ext E7).other W11 (Ne.symm ne2_x.1) (Ne.symm ne2_x.2))
  have f15 := (f10.wr W11)
  have f16 := ((F6.ext E7).other W11 (Or.inr (slot_ne (Or.inr (ow hw 23 rfl)) (Or.inr (ow hw 24 rfl)) (by decide) (t := (.array .byte)) (t' := .byte) (by decide) (by decide))))
  have S14 : Str Z h11 x t2 ([] : List Int32) := ⟨f15, F11, f16, f13.2.2.2⟩
  have f17 := (C11.safe (show h7.size > x by omega) f8)
  exact gretV hx hret (hb hby own_d_jdk_42_method_149_26) (by decide) (by decide) (fun vq Cq => ⟨t2, rfl, (((((Keep.refl h0 [x]).ext E2).wr W6 (Or.inl (List.mem_of_getElem? (i := 0) rfl))).ext E7).wr W11 (Or.inl (List.mem_of_getElem? (i := 0) rfl))), S14, (Cq.safe (show h11.size > x by omega) f17)⟩)
theorem own_d_jdk_42_method_3_0 : decode jdk_42_method_3_code 0 = .ok (.aload_n 0, 1) := by decide +kernel
theorem own_d_jdk_42_method_3_1 : decode jdk_42_method_3_code 1 = .ok (.aload_n 1, 1) := by decide +kernel
theorem own_d_jdk_42_method_3_2 : decode jdk_42_method_3_code 2 = .ok (.iconst 0, 1) := by decide +kernel
theorem own_d_jdk_42_method_3_3 : decode jdk_42_method_3_code 3 = .ok (.aload_n 1, 1) := by decide +kernel
theorem own_d_jdk_42_method_3_4 : decode jdk_42_method_3_code 4 = .ok (.arraylength, 1) := by decide +kernel
theorem own_d_jdk_42_method_3_5 : decode jdk_42_method_3_code 5 = .ok (.aconst_null, 1) := by decide +kernel
theorem own_d_jdk_42_method_3_6 : decode jdk_42_method_3_code 6 = .ok (.invokespecial 27, 3) := by decide +kernel
theorem own_pd21 : parseMethodDescriptor "([CIILjava/lang/Void;)V" = some ⟨[(.array .char), .int, .int, (.object "java/lang/Void")], none⟩ := by decide +kernel
theorem own_d_jdk_42_method_3_9 : decode jdk_42_method_3_code 9 = .ok (.return_, 1) := by decide +kernel
set_option maxRecDepth 65536 in
set_option maxHeartbeats 40000000 in
theorem own_emp1 (l : Launch) (Z : State) (a0 : Array Value) (cx : Ctx Z a0) (ws : List Jvm.Cond) (x : Addr) (b : Addr) (v0 : Value) (c0 : Value) (kc : ClassId) (vm0 : Vm) (h0 : Heap) (X00 : Ext Z.heap h0) (P0 : Exa Z h0 x "java/lang/String") (P1 : Fld Z h0 x "java/lang/String" "value" "[B" v0) (P2 : Fld Z h0 x "java/lang/String" "coder" "B" c0) (P3 : Z.heap.size ≤ x) (P4 : Safe Z consts_1 vm0 h0 x) (P5 : Arv Z h0 b kc .char (0 : Int32) [] (.int (0 : Int32))) :
    Met l (⟨"java/lang/String", "<init>", "([C)V"⟩ : MethodName) jdk_42_method_3_code 2 none ws ({ frames := 2, cells := 4, slots := 8, locals := 29 } : Room) Z consts_1 vm0 h0 #[(.ref x), (.ref b)] (fun v vm h => ∃ (t : Addr), v = none ∧ Keep h0 h [x] ∧ Str Z h x t ([] : List Int32) ∧ Safe Z consts_1 vm h x) := by
  obtain ⟨hw, hEL, ⟨zc, Scs, hzc⟩, ⟨fm, Sfm, hfm⟩⟩ := id cx
  have hSA := own_SA hw
  refine Met.of_walk (a0 := a0) #[.val (.ref x), .val (.ref b)] (plainFor_of_name own_pn13) X00 hEL (fun m => by first | (simp [entryFrame, mkF, argsToLocals, Value.category]; done) | rfl) ?_
  intro p e s m below meth c vm hx hby hml hret hnm hC0
  have lt_x : h0.size > x := P0.lt
  have L4 := hC0.safe lt_x P4
  have lt_b : h0.size > b := P5.lt
  refine gs (mkF m 1 #[.val (.ref x), .val (.ref b)] [(.ref x)]) (fun _ _ A k => XS.aloadN A hx rfl (hb hby own_d_jdk_42_method_3_0) rfl rfl k) ?_
  refine gs (mkF m 2 #[.val (.ref x), .val (.ref b)] [(.ref b), (.ref x)]) (fun _ _ A k => XS.aloadN A hx rfl (hb hby own_d_jdk_42_method_3_1) rfl rfl k) ?_
  refine gs (mkF m 3 #[.val (.ref x), .val (.ref b)] [(.int (0 : Int32)), (.ref b), (.ref x)]) (fun _ _ A k => XS.iconst A hx rfl (hb hby own_d_jdk_42_method_3_2) k) ?_
  refine gs (mkF m 4 #[.val (.ref x), .val (.ref b)] [(.ref b), (.int (0 : Int32)), (.ref b), (.ref x)]) (fun _ _ A k => XS.aloadN A hx rfl (hb hby own_d_jdk_42_method_3_3) rfl rfl k) ?_
  refine glen hx P5 5 (hb hby own_d_jdk_42_method_3_4) rfl ?_
  refine gs (mkF m 6 #[.val (.ref x), .val (.ref b)] [.null, (.int (0 : Int32)), (.int (0 : Int32)), (.ref b), (.ref x)]) (fun _ _ A k => XS.aconstNull A hx rfl (hb hby own_d_jdk_42_method_3_5) k) ?_
  refine ginfo fun _ _ O1 => ?_
  refine gcallI (y := (⟨"java/lang/String", "<init>", "([CIILjava/lang/Void;)V"⟩ : MethodName)) hx rfl (ow hw 14 rfl) (ow hw 15 rfl) (ow hw 17 rfl) (by decide) (fun hZ H hEL => Pay.of_met (W := 0) (own_emp4 l Z a0 cx [] (x) (b) (v0) (c0) vm h0 O1 P0 P1 P2 P3 L4) (ow hw 17 rfl) (ow hw 10 rfl) (by decide) (by decide) hZ H hEL) (a := x) 9 (argsL := [(.ref b), (.int (0 : Int32)), (.int (0 : Int32)), .null]) (rest := []) (lenOf own_pd21 rfl) rfl rfl (Nat.le_of_eq rfl) (by rw [hml]; rfl) (hb hby own_d_jdk_42_method_3_6) rfl (by decide) (by decide) ?_
  rintro _ vm1 h1 C1 ⟨t1, rfl, K1, q1_0, q1_1⟩
  have z1 := C1.2.1
  have lt_t1 : h1.size > t1 := q1_0.tlt
  refine gat (mkF m 9 #[.val (.ref x), .val (.ref b)] []) rfl ?_
  exact gretV hx hret (hb hby own_d_jdk_42_method_3_9) (by decide) (by decide) (fun vq Cq => ⟨t1, rfl, ((Keep.refl h0 [x]).trans K1 (allS (Or.inl (List.mem_of_getElem? (i := 0) rfl)) all0)), q1_0, (Cq.safe (show h1.size > x by omega) q1_1)⟩)
theorem own_d_jdk_30_method_1_0 : decode jdk_30_method_1_code 0 = .ok (.aload_n 0, 1) := by decide +kernel
theorem own_d_jdk_30_method_1_1 : decode jdk_30_method_1_code 1 = .ok (.invokespecial 1, 3) := by decide +kernel
theorem own_d_jdk_30_method_1_4 : decode jdk_30_method_1_code 4 = .ok (.return_, 1) := by decide +kernel
theorem own_pn26 : plainName "java/lang/Record" = true := by first | (simp [plainName, overriddenIn]; done) | decide +kernel
set_option maxRecDepth 65536 in
set_option maxHeartbeats 40000000 in
theorem own_record (l : Launch) (Z : State) (a0 : Array Value) (cx : Ctx Z a0) (ws : List Jvm.Cond) (x : Addr) (vm0 : Vm) (h0 : Heap) (X00 : Ext Z.heap h0)  :
    Met l (⟨"java/lang/Record", "<init>", "()V"⟩ : MethodName) jdk_30_method_1_code 1 none ws ({ frames := 1, cells := 0, slots := 0, locals := 12 } : Room) Z consts_1 vm0 h0 #[(.ref x)] (fun v vm h => v = none ∧ h0 = h) := by
  obtain ⟨hw, hEL, ⟨zc, Scs, hzc⟩, ⟨fm, Sfm, hfm⟩⟩ := id cx
  have hSA := own_SA hw
  refine Met.of_walk (a0 := a0) #[.val (.ref x)] (plainFor_of_name own_pn26) X00 hEL (fun m => by first | (simp [entryFrame, mkF, argsToLocals, Value.category]; done) | rfl) ?_
  intro p e s m below meth c vm hx hby hml hret hnm hC0
  refine gs (mkF m 1 #[.val (.ref x)] [(.ref x)]) (fun _ _ A k => XS.aloadN A hx rfl (hb hby own_d_jdk_30_method_1_0) rfl rfl k) ?_
  refine ginitO hx (ow hw 40 rfl) (ow hw 19 rfl) (ow hw 20 rfl) 4 (W := 0) (Nat.le_of_eq rfl) (by rw [hml]; rfl) (hb hby own_d_jdk_30_method_1_1) rfl (by decide) (by decide) ?_
  exact gretV hx hret (hb hby own_d_jdk_30_method_1_4) (by decide) (by decide) (fun vq Cq => ⟨rfl, rfl⟩)
theorem own_d_jdk_31_method_11_0 : decode jdk_31_method_11_code 0 = .ok (.aload_n 0, 1) := by decide +kernel
theorem own_d_jdk_31_method_11_1 : decode jdk_31_method_11_code 1 = .ok (.ifnonnull 12, 3) := by decide +kernel
theorem own_d_jdk_31_method_11_13 : decode jdk_31_method_11_code 13 = .ok (.aload_n 0, 1) := by decide +kernel
theorem own_d_jdk_31_method_11_14 : decode jdk_31_method_11_code 14 = .ok (.areturn, 1) := by decide +kernel
theorem own_pn31 : plainName "java/util/Objects" = true := by first | (simp [plainName, overriddenIn]; done) | decide +kernel
set_option maxRecDepth 65536 in
set_option maxHeartbeats 40000000 in
theorem own_require2 (l : Launch) (Z : State) (a0 : Array Value) (cx : Ctx Z a0) (ws : List Jvm.Cond) (x : Addr) (b : Addr) (vm0 : Vm) (h0 : Heap) (X00 : Ext Z.heap h0)  :
    Met l (⟨"java/util/Objects", "requireNonNull", "(Ljava/lang/Object;Ljava/lang/String;)Ljava/lang/Object;"⟩ : MethodName) jdk_31_method_11_code 2 (some (.object "java/lang/Object")) ws ({ frames := 0, cells := 0, slots := 0, locals := 0 } : Room) Z consts_1 vm0 h0 #[(.ref x), (.ref b)] (fun v vm h => v = some (.ref x) ∧ h0 = h) := by
  obtain ⟨hw, hEL, ⟨zc, Scs, hzc⟩, ⟨fm, Sfm, hfm⟩⟩ := id cx
  have hSA := own_SA hw
  refine Met.of_walk (a0 := a0) #[.val (.ref x), .val (.ref b)] (plainFor_of_name own_pn31) X00 hEL (fun m => by first | (simp [entryFrame, mkF, argsToLocals, Value.category]; done) | rfl) ?_
  intro p e s m below meth c vm hx hby hml hret hnm hC0
  refine gs (mkF m 1 #[.val (.ref x), .val (.ref b)] [(.ref x)]) (fun _ _ A k => XS.aloadN A hx rfl (hb hby own_d_jdk_31_method_11_0) rfl rfl k) ?_
  refine gs (mkF m 13 #[.val (.ref x), .val (.ref b)] []) (fun _ _ A k => XS.ifnonnullYes A hx rfl (pc0 := 1) (pc' := 13) rfl (hb hby own_d_jdk_31_method_11_1) rfl (by decide) (by decide) k) ?_
  refine gs (mkF m 14 #[.val (.ref x), .val (.ref b)] [(.ref x)]) (fun _ _ A k => XS.aloadN A hx rfl (hb hby own_d_jdk_31_method_11_13) rfl rfl k) ?_
  exact gretA hx hret rfl rfl (hb hby own_d_jdk_31_method_11_14) (by decide) (by decide) (fun vq Cq => ⟨rfl, rfl⟩)
theorem own_rem3 (x : Int32) : (((x.toUInt32 >>> ((16 : Int32) &&& 31).toUInt32).toInt32) % (3 : Int32)) = (0 : Int32) ∨ (((x.toUInt32 >>> ((16 : Int32) &&& 31).toUInt32).toInt32) % (3 : Int32)) = (1 : Int32) ∨ (((x.toUInt32 >>> ((16 : Int32) &&& 31).toUInt32).toInt32) % (3 : Int32)) = (2 : Int32) := by
  have h1 := c_iushr x 16 16 (by decide) (by decide)
  generalize ((x.toUInt32 >>> ((16 : Int32) &&& 31).toUInt32).toInt32) = y at *
  have h2 := c_irem y 3 3 rfl
  have h0 : (0 : Int32).toInt = 0 := rfl
  have e1 : (1 : Int32).toInt = 1 := rfl
  have e2 : (2 : Int32).toInt = 2 := rfl
  rw [← Int32.toInt_inj, ← Int32.toInt_inj, ← Int32.toInt_inj, h0, e1, e2]
  have h3 : 0 ≤ y.toInt := by rw [h1]; omega
  have h4 := h2.1 h3
  omega
theorem own_d_method_2_0 : decode method_2_code 0 = .ok (.iload_n 0, 1) := by decide +kernel
theorem own_d_method_2_1 : decode method_2_code 1 = .ok (.bipush 16, 2) := by decide +kernel
theorem own_d_method_2_3 : decode method_2_code 3 = .ok (.iushr, 1) := by decide +kernel
theorem own_d_method_2_4 : decode method_2_code 4 = .ok (.iconst 3, 1) := by decide +kernel
theorem own_d_method_2_5 : decode method_2_code 5 = .ok (.irem, 1) := by decide +kernel
theorem own_d_method_2_6 : decode method_2_code 6 = .ok (.istore_n 1, 1) := by decide +kernel
theorem own_d_method_2_7 : decode method_2_code 7 = .ok (.iload_n 1, 1) := by decide +kernel
theorem own_d_method_2_8 : decode method_2_code 8 = .ok (.newarray .char, 2) := by decide +kernel
theorem own_d_method_2_10 : decode method_2_code 10 = .ok (.astore_n 2, 1) := by decide +kernel
theorem own_d_method_2_11 : decode method_2_code 11 = .ok (.iload_n 1, 1) := by decide +kernel
theorem own_d_method_2_12 : decode method_2_code 12 = .ok (.ifCond .le 12, 3) := by decide +kernel
theorem own_d_method_2_24 : decode method_2_code 24 = .ok (.iload_n 1, 1) := by decide +kernel
theorem own_d_method_2_25 : decode method_2_code 25 = .ok (.iconst 1, 1) := by decide +kernel
theorem own_d_method_2_26 : decode method_2_code 26 = .ok (.if_icmp .le 15, 3) := by decide +kernel
theorem own_d_method_2_41 : decode method_2_code 41 = .ok (.aload_n 2, 1) := by decide +kernel
theorem own_d_method_2_42 : decode method_2_code 42 = .ok (.areturn, 1) := by decide +kernel
theorem own_d_method_2_15 : decode method_2_code 15 = .ok (.aload_n 2, 1) := by decide +kernel
theorem own_d_method_2_16 : decode method_2_code 16 = .ok (.iconst 0, 1) := by decide +kernel
theorem own_d_method_2_17 : decode method_2_code 17 = .ok (.iload_n 0, 1) := by decide +kernel
theorem own_d_method_2_18 : decode method_2_code 18 = .ok (.sipush 255, 3) := by decide +kernel
theorem own_d_method_2_21 : decode method_2_code 21 = .ok (.iand, 1) := by decide +kernel
theorem own_d_method_2_22 : decode method_2_code 22 = .ok (.i2c, 1) := by decide +kernel
theorem own_d_method_2_23 : decode method_2_code 23 = .ok (.castore, 1) := by decide +kernel
theorem own_d_method_2_29 : decode method_2_code 29 = .ok (.aload_n 2, 1) := by decide +kernel
theorem own_d_method_2_30 : decode method_2_code 30 = .ok (.iconst 1, 1) := by decide +kernel
theorem own_d_method_2_31 : decode method_2_code 31 = .ok (.iload_n 0, 1) := by decide +kernel
theorem own_d_method_2_32 : decode method_2_code 32 = .ok (.bipush 8, 2) := by decide +kernel
theorem own_d_method_2_34 : decode method_2_code 34 = .ok (.iushr, 1) := by decide +kernel
theorem own_d_method_2_35 : decode method_2_code 35 = .ok (.sipush 255, 3) := by decide +kernel
theorem own_d_method_2_38 : decode method_2_code 38 = .ok (.iand, 1) := by decide +kernel
theorem own_d_method_2_39 : decode method_2_code 39 = .ok (.i2c, 1) := by decide +kernel
theorem own_d_method_2_40 : decode method_2_code 40 = .ok (.castore, 1) := by decide +kernel
theorem own_pn64 : plainName "com/example/backfill/backfill/migration/NotNullCheckReadsPinLaw" = true := by first | (simp [plainName, overriddenIn]; done) | decide +kernel
set_option maxRecDepth 65536 in
set_option maxHeartbeats 40000000 in
theorem own_draw (l : Launch) (Z : State) (a0 : Array Value) (cx : Ctx Z a0) (ws : List Jvm.Cond) (x : Int32) (vm0 : Vm) (h0 : Heap) (X00 : Ext Z.heap h0)  :
    Met l (⟨"com/example/backfill/backfill/migration/NotNullCheckReadsPinLaw", "draw", "(I)[C"⟩ : MethodName) method_2_code 3 (some (.array .char)) ws ({ frames := 0, cells := 1, slots := 2, locals := 0 } : Room) Z consts_1 vm0 h0 #[(.int x)] (fun v vm h => ∃ (b : Addr), ∃ (cs : List Int32), v = some (.ref b) ∧ Keep h0 h [] ∧ h0.size ≤ b ∧ ChA Z h b cs ∧ cs.length ≤ 2) := by
  obtain ⟨hw, hEL, ⟨zc, Scs, hzc⟩, ⟨fm, Sfm, hfm⟩⟩ := id cx
  have hSA := own_SA hw
  refine Met.of_walk (a0 := a0) #[.val (.int x), .unset, .unset] (plainFor_of_name own_pn64) X00 hEL (fun m => by first | (simp [entryFrame, mkF, argsToLocals, Value.category]; done) | rfl) ?_
  intro p e s m below meth c vm hx hby hml hret hnm hC0
  refine gs (mkF m 1 #[.val (.int x), .unset, .unset] [(.int x)]) (fun _ _ A k => XS.iloadN A hx rfl (hb hby own_d_method_2_0) rfl  k) ?_
  refine gs (mkF m 3 #[.val (.int x), .unset, .unset] [(.int (16 : Int32)), (.int x)]) (fun _ _ A k => XS.bipush A hx rfl (hb hby own_d_method_2_1) k) ?_
  refine gs (mkF m 4 #[.val (.int x), .unset, .unset] [(.int ((x.toUInt32 >>> ((16 : Int32) &&& 31).toUInt32).toInt32))]) (fun _ _ A k => XS.iushr A hx rfl (hb hby own_d_method_2_3) rfl k) ?_
  refine gs (mkF m 5 #[.val (.int x), .unset, .unset] [(.int (3 : Int32)), (.int ((x.toUInt32 >>> ((16 : Int32) &&& 31).toUInt32).toInt32))]) (fun _ _ A k => XS.iconst A hx rfl (hb hby own_d_method_2_4) k) ?_
  refine gx (mkF m 6 #[.val (.int x), .unset, .unset] [(.int (((x.toUInt32 >>> ((16 : Int32) &&& 31).toUInt32).toInt32) % (3 : Int32)))]) (fun T locs X _ _ _ _ k => iremM X hx rfl (hb hby own_d_method_2_5) rfl (by decide) k) ?_
  refine gs (mkF m 7 #[.val (.int x), .val (.int (((x.toUInt32 >>> ((16 : Int32) &&& 31).toUInt32).toInt32) % (3 : Int32))), .unset] []) (fun _ _ A k => XS.istoreN A hx rfl (hb hby own_d_method_2_6) rfl (l' := #[.val (.int x), .val (.int (((x.toUInt32 >>> ((16 : Int32) &&& 31).toUInt32).toInt32) % (3 : Int32))), .unset]) rfl k) ?_
  rcases own_rem3 x with q | q | q
  · rw [q]
    refine gs (mkF m 8 #[.val (.int x), .val (.int (0 : Int32)), .unset] [(.int (0 : Int32))]) (fun _ _ A k => XS.iloadN A hx rfl (hb hby own_d_method_2_7) rfl  k) ?_
    refine gnewP hx (ow hw 4 rfl) (n := (0 : Int32)) (by decide) (cap := 0) (by decide) (by decide) 10 (hb hby own_d_method_2_8) rfl (by decide) (by decide) ?_
    intro b1 h1 k1 g1 E1 C1 V1 n1 L1
    have z1 := C1.2.1
    have V1 : Arv Z h1 b1 k1 .char (0 : Int32) [] (.int (0 : Int32)) := V1.pad (pad_rep [] (.int (0 : Int32)) 0)
    have lt_b1 : h1.size > b1 := V1.lt
    refine gs (mkF m 11 #[.val (.int x), .val (.int (0 : Int32)), .val (.ref b1)] []) (fun _ _ A k => XS.astoreN A hx rfl (hb hby own_d_method_2_10) rfl rfl (l' := #[.val (.int x), .val (.int (0 : Int32)), .val (.ref b1)]) rfl k) ?_
    refine gs (mkF m 12 #[.val (.int x), .val (.int (0 : Int32)), .val (.ref b1)] [(.int (0 : Int32))]) (fun _ _ A k => XS.iloadN A hx rfl (hb hby own_d_method_2_11) rfl  k) ?_
    refine gs (mkF m 24 #[.val (.int x), .val (.int (0 : Int32)), .val (.ref b1)] []) (fun _ _ A k => XS.ifYes A hx rfl (pc0 := 12) (pc' := 24) rfl (hb hby own_d_method_2_12) rfl ((if0 _ _).trans (flt (by decide)).2.2.2) (by decide) (by decide) k) ?_
    refine gs (mkF m 25 #[.val (.int x), .val (.int (0 : Int32)), .val (.ref b1)] [(.int (0 : Int32))]) (fun _ _ A k => XS.iloadN A hx rfl (hb hby own_d_method_2_24) rfl  k) ?_
    refine gs (mkF m 26 #[.val (.int x), .val (.int (0 : Int32)), .val (.ref b1)] [(.int (1 : Int32)), (.int (0 : Int32))]) (fun _ _ A k => XS.iconst A hx rfl (hb hby own_d_method_2_25) k) ?_
    refine gs (mkF m 41 #[.val (.int x), .val (.int (0 : Int32)), .val (.ref b1)] []) (fun _ _ A k => XS.icmpYes A hx rfl (pc0 := 26) (pc' := 41) rfl (hb hby own_d_method_2_26) rfl (flt (by decide)).2.2.2 (by decide) (by decide) k) ?_
    refine gs (mkF m 42 #[.val (.int x), .val (.int (0 : Int32)), .val (.ref b1)] [(.ref b1)]) (fun _ _ A k => XS.aloadN A hx rfl (hb hby own_d_method_2_41) rfl rfl k) ?_
    exact gretA hx hret rfl rfl (hb hby own_d_method_2_42) (by decide) (by decide) (fun vq Cq => ⟨b1, [], rfl, ((Keep.refl h0 []).ext E1), (by omega), ⟨_, V1, bnil, Nat.le_of_ble_eq_true rfl⟩, (Nat.le_of_ble_eq_true rfl)⟩)
  · rw [q]
    refine gs (mkF m 8 #[.val (.int x), .val (.int (1 : Int32)), .unset] [(.int (1 : Int32))]) (fun _ _ A k => XS.iloadN A hx rfl (hb hby own_d_method_2_7) rfl  k) ?_
    refine gnewP hx (ow hw 4 rfl) (n := (1 : Int32)) (by decide) (cap := 1) (by decide) (by decide) 10 (hb hby own_d_method_2_8) rfl (by decide) (by decide) ?_
    intro b3 h3 k3 g3 E3 C3 V3 n3 L3
    have z3 := C3.2.1
    have V3 : Arv Z h3 b3 k3 .char (1 : Int32) [(.int (0 : Int32))] (.int (0 : Int32)) := V3.pad (pad_rep [] (.int (0 : Int32)) 1)
    have lt_b3 : h3.size > b3 := V3.lt
    refine gs (mkF m 11 #[.val (.int x), .val (.int (1 : Int32)), .val (.ref b3)] []) (fun _ _ A k => XS.astoreN A hx rfl (hb hby own_d_method_2_10) rfl rfl (l' := #[.val (.int x), .val (.int (1 : Int32)), .val (.ref b3)]) rfl k) ?_
    refine gs (mkF m 12 #[.val (.int x), .val (.int (1 : Int32)), .val (.ref b3)] [(.int (1 : Int32))]) (fun _ _ A k => XS.iloadN A hx rfl (hb hby own_d_method_2_11) rfl  k) ?_
    refine gs (mkF m 15 #[.val (.int x), .val (.int (1 : Int32)), .val (.ref b3)] []) (fun _ _ A k => XS.ifNo A hx rfl (hb hby own_d_method_2_12) rfl ((if0 _ _).trans (tlt (by decide)).2.2.2) k) ?_
    refine gs (mkF m 16 #[.val (.int x), .val (.int (1 : Int32)), .val (.ref b3)] [(.ref b3)]) (fun _ _ A k => XS.aloadN A hx rfl (hb hby own_d_method_2_15) rfl rfl k) ?_
    refine gs (mkF m 17 #[.val (.int x), .val (.int (1 : Int32)), .val (.ref b3)] [(.int (0 : Int32)), (.ref b3)]) (fun _ _ A k => XS.iconst A hx rfl (hb hby own_d_method_2_16) k) ?_
    refine gs (mkF m 18 #[.val (.int x), .val (.int (1 : Int32)), .val (.ref b3)] [(.int x), (.int (0 : Int32)), (.ref b3)]) (fun _ _ A k => XS.iloadN A hx rfl (hb hby own_d_method_2_17) rfl  k) ?_
    refine gs (mkF m 21 #[.val (.int x), .val (.int (1 : Int32)), .val (.ref b3)] [(.int (255 : Int32)), (.int x), (.int (0 : Int32)), (.ref b3)]) (fun _ _ A k => XS.sipush A hx rfl (hb hby own_d_method_2_18) k) ?_
    refine gs (mkF m 22 #[.val (.int x), .val (.int (1 : Int32)), .val (.ref b3)] [(.int (x &&& (255 : Int32))), (.int (0 : Int32)), (.ref b3)]) (fun _ _ A k => XS.iand A hx rfl (hb hby own_d_method_2_21) rfl k) ?_
    refine gi2c hx (i2c_mask _) 23 (hb hby own_d_method_2_22) rfl ?_
    refine gstC hx V3 ⟨by decide, by decide⟩ (i := 0) rfl (Nat.le_of_ble_eq_true rfl) (y := (x &&& (255 : Int32))) (narC _) n3 24 (hb hby own_d_method_2_23) rfl ?_
    intro h4 W4 C4 V4
    have z4 := C4.2.1
    replace V4 : Arv Z h4 b3 k3 .char (1 : Int32) [(.int (x &&& (255 : Int32)))] (.int (0 : Int32)) := V4
    refine gs (mkF m 25 #[.val (.int x), .val (.int (1 : Int32)), .val (.ref b3)] [(.int (1 : Int32))]) (fun _ _ A k => XS.iloadN A hx rfl (hb hby own_d_method_2_24) rfl  k) ?_
    refine gs (mkF m 26 #[.val (.int x), .val (.int (1 : Int32)), .val (.ref b3)] [(.int (1 : Int32)), (.int (1 : Int32))]) (fun _ _ A k => XS.iconst A hx rfl (hb hby own_d_method_2_25) k) ?_
    refine gs (mkF m 41 #[.val (.int x), .val (.int (1 : Int32)), .val (.ref b3)] []) (fun _ _ A k => XS.icmpYes A hx rfl (pc0 := 26) (pc' := 41) rfl (hb hby own_d_method_2_26) rfl (flt (by decide)).2.2.2 (by decide) (by decide) k) ?_
    refine gs (mkF m 42 #[.val (.int x), .val (.int (1 : Int32)), .val (.ref b3)] [(.ref b3)]) (fun _ _ A k => XS.aloadN A hx rfl (hb hby own_d_method_2_41) rfl rfl k) ?_
    exact gretA hx hret rfl rfl (hb hby own_d_method_2_42) (by decide) (by decide) (fun vq Cq => ⟨b3, [(x &&& (255 : Int32))], rfl, (((Keep.refl h0 []).ext E3).wr W4 (Or.inr (by omega))), (by omega), ⟨_, V4, (bcons (b255 _) bnil), Nat.le_of_ble_eq_true rfl⟩, (Nat.le_of_ble_eq_true rfl)⟩)
  · rw [q]
    refine gs (mkF m 8 #[.val (.int x), .val (.int (2 : Int32)), .unset] [(.int (2 : Int32))]) (fun _ _ A k => XS.iloadN A hx rfl (hb hby own_d_method_2_7) rfl  k) ?_
    refine gnewP hx (ow hw 4 rfl) (n := (2 : Int32)) (by decide) (cap := 2) (by decide) (by decide) 10 (hb hby own_d_method_2_8) rfl (by decide) (by decide) ?_
    intro b6 h6 k6 g6 E6 C6 V6 n6 L6
    have z6 := C6.2.1
    have V6 : Arv Z h6 b6 k6 .char (2 : Int32) [(.int (0 : Int32)), (.int (0 : Int32))] (.int (0 : Int32)) := V6.pad (pad_rep [] (.int (0 : Int32)) 2)
    have lt_b6 : h6.size > b6 := V6.lt
    refine gs (mkF m 11 #[.val (.int x), .val (.int (2 : Int32)), .val (.ref b6)] []) (fun _ _ A k => XS.astoreN A hx rfl (hb hby own_d_method_2_10) rfl rfl (l' := #[.val (.int x), .val (.int (2 : Int32)), .val (.ref b6)]) rfl k) ?_
    refine gs (mkF m 12 #[.val (.int x), .val (.int (2 : Int32)), .val (.ref b6)] [(.int (2 : Int32))]) (fun _ _ A k => XS.iloadN A hx rfl (hb hby own_d_method_2_11) rfl  k) ?_
    refine gs (mkF m 15 #[.val (.int x), .val (.int (2 : Int32)), .val (.ref b6)] []) (fun _ _ A k => XS.ifNo A hx rfl (hb hby own_d_method_2_12) rfl ((if0 _ _).trans (tlt (by decide)).2.2.2) k) ?_
    refine gs (mkF m 16 #[.val (.int x), .val (.int (2 : Int32)), .val (.ref b6)] [(.ref b6)]) (fun _ _ A k => XS.aloadN A hx rfl (hb hby own_d_method_2_15) rfl rfl k) ?_
    refine gs (mkF m 17 #[.val (.int x), .val (.int (2 : Int32)), .val (.ref b6)] [(.int (0 : Int32)), (.ref b6)]) (fun _ _ A k => XS.iconst A hx rfl (hb hby own_d_method_2_16) k) ?_
    refine gs (mkF m 18 #[.val (.int x), .val (.int (2 : Int32)), .val (.ref b6)] [(.int x), (.int (0 : Int32)), (.ref b6)]) (fun _ _ A k => XS.iloadN A hx rfl (hb hby own_d_method_2_17) rfl  k) ?_
    refine gs (mkF m 21 #[.val (.int x), .val (.int (2 : Int32)), .val (.ref b6)] [(.int (255 : Int32)), (.int x), (.int (0 : Int32)), (.ref b6)]) (fun _ _ A k => XS.sipush A hx rfl (hb hby own_d_method_2_18) k) ?_
    refine gs (mkF m 22 #[.val (.int x), .val (.int (2 : Int32)), .val (.ref b6)] [(.int (x &&& (255 : Int32))), (.int (0 : Int32)), (.ref b6)]) (fun _ _ A k => XS.iand A hx rfl (hb hby own_d_method_2_21) rfl k) ?_
    refine gi2c hx (i2c_mask _) 23 (hb hby own_d_method_2_22) rfl ?_
    refine gstC hx V6 ⟨by decide, by decide⟩ (i := 0) rfl (Nat.le_of_ble_eq_true rfl) (y := (x &&& (255 : Int32))) (narC _) n6 24 (hb hby own_d_method_2_23) rfl ?_
    intro h7 W7 C7 V7
    have z7 := C7.2.1
    replace V7 : Arv Z h7 b6 k6 .char (2 : Int32) [(.int (x &&& (255 : Int32))), (.int (0 : Int32))] (.int (0 : Int32)) := V7
    refine gs (mkF m 25 #[.val (.int x), .val (.int (2 : Int32)), .val (.ref b6)] [(.int (2 : Int32))]) (fun _ _ A k => XS.iloadN A hx rfl (hb hby own_d_method_2_24) rfl  k) ?_
    refine gs (mkF m 26 #[.val (.int x), .val (.int (2 : Int32)), .val (.ref b6)] [(.int (1 : Int32)), (.int (2 : Int32))]) (fun _ _ A k => XS.iconst A hx rfl (hb hby own_d_method_2_25) k) ?_
    refine gs (mkF m 29 #[.val (.int x), .val (.int (2 : Int32)), .val (.ref b6)] []) (fun _ _ A k => XS.icmpNo A hx rfl (hb hby own_d_method_2_26) rfl (tlt (by decide)).2.2.2 k) ?_
    refine gs (mkF m 30 #[.val (.int x), .val (.int (2 : Int32)), .val (.ref b6)] [(.ref b6)]) (fun _ _ A k => XS.aloadN A hx rfl (hb hby own_d_method_2_29) rfl rfl k) ?_
    refine gs (mkF m 31 #[.val (.int x), .val (.int (2 : Int32)), .val (.ref b6)] [(.int (1 : Int32)), (.ref b6)]) (fun _ _ A k => XS.iconst A hx rfl (hb hby own_d_method_2_30) k) ?_
    refine gs (mkF m 32 #[.val (.int x), .val (.int (2 : Int32)), .val (.ref b6)] [(.int x), (.int (1 : Int32)), (.ref b6)]) (fun _ _ A k => XS.iloadN A hx rfl (hb hby own_d_method_2_31) rfl  k) ?_
    refine gs (mkF m 34 #[.val (.int x), .val (.int (2 : Int32)), .val (.ref b6)] [(.int (8 : Int32)), (.int x), (.int (1 : Int32)), (.ref b6)]) (fun _ _ A k => XS.bipush A hx rfl (hb hby own_d_method_2_32) k) ?_
    refine gs (mkF m 35 #[.val (.int x), .val (.int (2 : Int32)), .val (.ref b6)] [(.int ((x.toUInt32 >>> ((8 : Int32) &&& 31).toUInt32).toInt32)), (.int (1 : Int32)), (.ref b6)]) (fun _ _ A k => XS.iushr A hx rfl (hb hby own_d_method_2_34) rfl k) ?_
    refine gs (mkF m 38 #[.val (.int x), .val (.int (2 : Int32)), .val (.ref b6)] [(.int (255 : Int32)), (.int ((x.toUInt32 >>> ((8 : Int32) &&& 31).toUInt32).toInt32)), (.int (1 : Int32)), (.ref b6)]) (fun _ _ A k => XS.sipush A hx rfl (hb hby own_d_method_2_35) k) ?_
    refine gs (mkF m 39 #[.val (.int x), .val (.int (2 : Int32)), .val (.ref b6)] [(.int (((x.toUInt32 >>> ((8 : Int32) &&& 31).toUInt32).toInt32) &&& (255 : Int32))), (.int (1 : Int32)), (.ref b6)]) (fun _ _ A k => XS.iand A hx rfl (hb hby own_d_method_2_38) rfl k) ?_
    refine gi2c hx (i2c_mask _) 40 (hb hby own_d_method_2_39) rfl ?_
    refine gstC hx V7 ⟨by decide, by decide⟩ (i := 1) rfl (Nat.le_of_ble_eq_true rfl) (y := (((x.toUInt32 >>> ((8 : Int32) &&& 31).toUInt32).toInt32) &&& (255 : Int32))) (narC _) n6 41 (hb hby own_d_method_2_40) rfl ?_
    intro h8 W8 C8 V8
    have z8 := C8.2.1
    replace V8 : Arv Z h8 b6 k6 .char (2 : Int32) [(.int (x &&& (255 : Int32))), (.int (((x.toUInt32 >>> ((8 : Int32) &&& 31).toUInt32).toInt32) &&& (255 : Int32)))] (.int (0 : Int32)) := V8
    refine gs (mkF m 42 #[.val (.int x), .val (.int (2 : Int32)), .val (.ref b6)] [(.ref b6)]) (fun _ _ A k => XS.aloadN A hx rfl (hb hby own_d_method_2_41) rfl rfl k) ?_
    exact gretA hx hret rfl rfl (hb hby own_d_method_2_42) (by decide) (by decide) (fun vq Cq => ⟨b6, [(x &&& (255 : Int32)), (((x.toUInt32 >>> ((8 : Int32) &&& 31).toUInt32).toInt32) &&& (255 : Int32))], rfl, ((((Keep.refl h0 []).ext E6).wr W7 (Or.inr (by omega))).wr W8 (Or.inr (by omega))), (by omega), ⟨_, V8, (bcons (b255 _) (bcons (b255 _) bnil)), Nat.le_of_ble_eq_true rfl⟩, (Nat.le_of_ble_eq_true rfl)⟩)
theorem own_d_method_3_0 : decode method_3_code 0 = .ok (.iload_n 0, 1) := by decide +kernel
theorem own_d_method_3_1 : decode method_3_code 1 = .ok (.ifCond .ne 5, 3) := by decide +kernel
theorem own_d_method_3_4 : decode method_3_code 4 = .ok (.aload_n 1, 1) := by decide +kernel
theorem own_d_method_3_5 : decode method_3_code 5 = .ok (.areturn, 1) := by decide +kernel
theorem own_d_method_3_6 : decode method_3_code 6 = .ok (.iload_n 0, 1) := by decide +kernel
theorem own_d_method_3_7 : decode method_3_code 7 = .ok (.iconst 1, 1) := by decide +kernel
theorem own_d_method_3_8 : decode method_3_code 8 = .ok (.if_icmp .ne 5, 3) := by decide +kernel
theorem own_d_method_3_11 : decode method_3_code 11 = .ok (.aload_n 2, 1) := by decide +kernel
theorem own_d_method_3_12 : decode method_3_code 12 = .ok (.areturn, 1) := by decide +kernel
theorem own_d_method_3_13 : decode method_3_code 13 = .ok (.iload_n 0, 1) := by decide +kernel
theorem own_d_method_3_14 : decode method_3_code 14 = .ok (.iconst 2, 1) := by decide +kernel
theorem own_d_method_3_15 : decode method_3_code 15 = .ok (.if_icmp .ne 5, 3) := by decide +kernel
theorem own_d_method_3_18 : decode method_3_code 18 = .ok (.aload_n 3, 1) := by decide +kernel
theorem own_d_method_3_19 : decode method_3_code 19 = .ok (.areturn, 1) := by decide +kernel
theorem own_d_method_3_20 : decode method_3_code 20 = .ok (.aload 4, 2) := by decide +kernel
theorem own_d_method_3_22 : decode method_3_code 22 = .ok (.areturn, 1) := by decide +kernel
set_option maxRecDepth 65536 in
set_option maxHeartbeats 40000000 in
theorem own_pick (l : Launch) (Z : State) (a0 : Array Value) (cx : Ctx Z a0) (ws : List Jvm.Cond) (i : Int32) (a1 : Addr) (a2 : Addr) (a3 : Addr) (a4 : Addr) (cs1 : List Int32) (cs2 : List Int32) (cs3 : List Int32) (cs4 : List Int32) (vm0 : Vm) (h0 : Heap) (X00 : Ext Z.heap h0) (P0 : ChA Z h0 a1 cs1) (P1 : ChA Z h0 a2 cs2) (P2 : ChA Z h0 a3 cs3) (P3 : ChA Z h0 a4 cs4) (P4 : cs1.length ≤ 2) (P5 : cs2.length ≤ 2) (P6 : cs3.length ≤ 2) (P7 : cs4.length ≤ 2) :
    Met l (⟨"com/example/backfill/backfill/migration/NotNullCheckReadsPinLaw", "pick", "(I[C[C[C[C)[C"⟩ : MethodName) method_3_code 5 (some (.array .char)) ws ({ frames := 0, cells := 0, slots := 0, locals := 0 } : Room) Z consts_1 vm0 h0 #[(.int i), (.ref a1), (.ref a2), (.ref a3), (.ref a4)] (fun v vm h => ∃ (r : Addr), ∃ (cs : List Int32), v = some (.ref r) ∧ h0 = h ∧ ChA Z h r cs ∧ cs.length ≤ 2 ∧ r < h0.size) := by
  obtain ⟨hw, hEL, ⟨zc, Scs, hzc⟩, ⟨fm, Sfm, hfm⟩⟩ := id cx
  have hSA := own_SA hw
  refine Met.of_walk (a0 := a0) #[.val (.int i), .val (.ref a1), .val (.ref a2), .val (.ref a3), .val (.ref a4)] (plainFor_of_name own_pn64) X00 hEL (fun m => by first | (simp [entryFrame, mkF, argsToLocals, Value.category]; done) | rfl) ?_
  intro p e s m below meth c vm hx hby hml hret hnm hC0
  have lt_a1 : h0.size > a1 := P0.lt
  have lt_a2 : h0.size > a2 := P1.lt
  have lt_a3 : h0.size > a3 := P2.lt
  have lt_a4 : h0.size > a4 := P3.lt
  refine gs (mkF m 1 #[.val (.int i), .val (.ref a1), .val (.ref a2), .val (.ref a3), .val (.ref a4)] [(.int i)]) (fun _ _ A k => XS.iloadN A hx rfl (hb hby own_d_method_3_0) rfl  k) ?_
  by_cases c1 : i = (0 : Int32)
  · refine gs (mkF m 4 #[.val (.int i), .val (.ref a1), .val (.ref a2), .val (.ref a3), .val (.ref a4)] []) (fun _ _ A k => XS.ifNo A hx rfl (hb hby own_d_method_3_1) rfl ((if0 _ _).trans (teq c1).2) k) ?_
    refine gs (mkF m 5 #[.val (.int i), .val (.ref a1), .val (.ref a2), .val (.ref a3), .val (.ref a4)] [(.ref a1)]) (fun _ _ A k => XS.aloadN A hx rfl (hb hby own_d_method_3_4) rfl rfl k) ?_
    exact gretA hx hret rfl rfl (hb hby own_d_method_3_5) (by decide) (by decide) (fun vq Cq => ⟨a1, cs1, rfl, rfl, P0, P4, lt_a1⟩)
  · refine gs (mkF m 6 #[.val (.int i), .val (.ref a1), .val (.ref a2), .val (.ref a3), .val (.ref a4)] []) (fun _ _ A k => XS.ifYes A hx rfl (pc0 := 1) (pc' := 6) rfl (hb hby own_d_method_3_1) rfl ((if0 _ _).trans (feq c1).2) (by decide) (by decide) k) ?_
    refine gs (mkF m 7 #[.val (.int i), .val (.ref a1), .val (.ref a2), .val (.ref a3), .val (.ref a4)] [(.int i)]) (fun _ _ A k => XS.iloadN A hx rfl (hb hby own_d_method_3_6) rfl  k) ?_
    refine gs (mkF m 8 #[.val (.int i), .val (.ref a1), .val (.ref a2), .val (.ref a3), .val (.ref a4)] [(.int (1 : Int32)), (.int i)]) (fun _ _ A k => XS.iconst A hx rfl (hb hby own_d_method_3_7) k) ?_
    by_cases c2 : i = (1 : Int32)
    · refine gs (mkF m 11 #[.val (.int i), .val (.ref a1), .val (.ref a2), .val (.ref a3), .val (.ref a4)] []) (fun _ _ A k => XS.icmpNo A hx rfl (hb hby own_d_method_3_8) rfl (teq c2).2 k) ?_
      refine gs (mkF m 12 #[.val (.int i), .val (.ref a1), .val (.ref a2), .val (.ref a3), .val (.ref a4)] [(.ref a2)]) (fun _ _ A k => XS.aloadN A hx rfl (hb hby own_d_method_3_11) rfl rfl k) ?_
      exact gretA hx hret rfl rfl (hb hby own_d_method_3_12) (by decide) (by decide) (fun vq Cq => ⟨a2, cs2, rfl, rfl, P1, P5, lt_a2⟩)
    · refine gs (mkF m 13 #[.val (.int i), .val (.ref a1), .val (.ref a2), .val (.ref a3), .val (.ref a4)] []) (fun _ _ A k => XS.icmpYes A hx rfl (pc0 := 8) (pc' := 13) rfl (hb hby own_d_method_3_8) rfl (feq c2).2 (by decide) (by decide) k) ?_
      refine gs (mkF m 14 #[.val (.int i), .val (.ref a1), .val (.ref a2), .val (.ref a3), .val (.ref a4)] [(.int i)]) (fun _ _ A k => XS.iloadN A hx rfl (hb hby own_d_method_3_13) rfl  k) ?_
      refine gs (mkF m 15 #[.val (.int i), .val (.ref a1), .val (.ref a2), .val (.ref a3), .val (.ref a4)] [(.int (2 : Int32)), (.int i)]) (fun _ _ A k => XS.iconst A hx rfl (hb hby own_d_method_3_14) k) ?_
      by_cases c3 : i = (2 : Int32)
      · refine gs (mkF m 18 #[.val (.int i), .val (.ref a1), .val (.ref a2), .val (.ref a3), .val (.ref a4)] []) (fun _ _ A k => XS.icmpNo A hx rfl (hb hby own_d_method_3_15) rfl (teq c3).2 k) ?_
        refine gs (mkF m 19 #[.val (.int i), .val (.ref a1), .val (.ref a2), .val (.ref a3), .val (.ref a4)] [(.ref a3)]) (fun _ _ A k => XS.aloadN A hx rfl (hb hby own_d_method_3_18) rfl rfl k) ?_
        exact gretA hx hret rfl rfl (hb hby own_d_method_3_19) (by decide) (by decide) (fun vq Cq => ⟨a3, cs3, rfl, rfl, P2, P6, lt_a3⟩)
      · refine gs (mkF m 20 #[.val (.int i), .val (.ref a1), .val (.ref a2), .val (.ref a3), .val (.ref a4)] []) (fun _ _ A k => XS.icmpYes A hx rfl (pc0 := 15) (pc' := 20) rfl (hb hby own_d_method_3_15) rfl (feq c3).2 (by decide) (by decide) k) ?_
        refine gs (mkF m 22 #[.val (.int i), .val (.ref a1), .val (.ref a2), .val (.ref a3), .val (.ref a4)] [(.ref a4)]) (fun _ _ A k => XS.aload A hx rfl (hb hby own_d_method_3_20) rfl rfl k) ?_
        exact gretA hx hret rfl rfl (hb hby own_d_method_3_22) (by decide) (by decide) (fun vq Cq => ⟨a4, cs4, rfl, rfl, P3, P7, lt_a4⟩)
theorem own_d_method_4_0 : decode method_4_code 0 = .ok (.aload_n 0, 1) := by decide +kernel
theorem own_d_method_4_1 : decode method_4_code 1 = .ok (.arraylength, 1) := by decide +kernel
theorem own_d_method_4_2 : decode method_4_code 2 = .ok (.aload_n 1, 1) := by decide +kernel
theorem own_d_method_4_3 : decode method_4_code 3 = .ok (.arraylength, 1) := by decide +kernel
theorem own_d_method_4_4 : decode method_4_code 4 = .ok (.if_icmp .eq 5, 3) := by decide +kernel
theorem own_d_method_4_9 : decode method_4_code 9 = .ok (.aload_n 0, 1) := by decide +kernel
theorem own_d_method_4_10 : decode method_4_code 10 = .ok (.arraylength, 1) := by decide +kernel
theorem own_d_method_4_11 : decode method_4_code 11 = .ok (.ifCond .le 14, 3) := by decide +kernel
theorem own_d_method_4_25 : decode method_4_code 25 = .ok (.aload_n 0, 1) := by decide +kernel
theorem own_d_method_4_26 : decode method_4_code 26 = .ok (.arraylength, 1) := by decide +kernel
theorem own_d_method_4_27 : decode method_4_code 27 = .ok (.iconst 1, 1) := by decide +kernel
theorem own_d_method_4_28 : decode method_4_code 28 = .ok (.if_icmp .le 14, 3) := by decide +kernel
theorem own_d_method_4_42 : decode method_4_code 42 = .ok (.iconst 1, 1) := by decide +kernel
theorem own_d_method_4_43 : decode method_4_code 43 = .ok (.ireturn, 1) := by decide +kernel
theorem own_d_method_4_7 : decode method_4_code 7 = .ok (.iconst 0, 1) := by decide +kernel
theorem own_d_method_4_8 : decode method_4_code 8 = .ok (.ireturn, 1) := by decide +kernel
theorem own_d_method_4_14 : decode method_4_code 14 = .ok (.aload_n 0, 1) := by decide +kernel
theorem own_d_method_4_15 : decode method_4_code 15 = .ok (.iconst 0, 1) := by decide +kernel
theorem own_d_method_4_16 : decode method_4_code 16 = .ok (.caload, 1) := by decide +kernel
theorem own_d_method_4_17 : decode method_4_code 17 = .ok (.aload_n 1, 1) := by decide +kernel
theorem own_d_method_4_18 : decode method_4_code 18 = .ok (.iconst 0, 1) := by decide +kernel
theorem own_d_method_4_19 : decode method_4_code 19 = .ok (.caload, 1) := by decide +kernel
theorem own_d_method_4_20 : decode method_4_code 20 = .ok (.if_icmp .eq 5, 3) := by decide +kernel
theorem own_d_method_4_23 : decode method_4_code 23 = .ok (.iconst 0, 1) := by decide +kernel
theorem own_d_method_4_24 : decode method_4_code 24 = .ok (.ireturn, 1) := by decide +kernel
theorem own_d_method_4_31 : decode method_4_code 31 = .ok (.aload_n 0, 1) := by decide +kernel
theorem own_d_method_4_32 : decode method_4_code 32 = .ok (.iconst 1, 1) := by decide +kernel
theorem own_d_method_4_33 : decode method_4_code 33 = .ok (.caload, 1) := by decide +kernel
theorem own_d_method_4_34 : decode method_4_code 34 = .ok (.aload_n 1, 1) := by decide +kernel
theorem own_d_method_4_35 : decode method_4_code 35 = .ok (.iconst 1, 1) := by decide +kernel
theorem own_d_method_4_36 : decode method_4_code 36 = .ok (.caload, 1) := by decide +kernel
theorem own_d_method_4_37 : decode method_4_code 37 = .ok (.if_icmp .eq 5, 3) := by decide +kernel
theorem own_d_method_4_40 : decode method_4_code 40 = .ok (.iconst 0, 1) := by decide +kernel
theorem own_d_method_4_41 : decode method_4_code 41 = .ok (.ireturn, 1) := by decide +kernel
set_option maxRecDepth 65536 in
set_option maxHeartbeats 40000000 in
theorem own_same (l : Launch) (Z : State) (a0 : Array Value) (cx : Ctx Z a0) (ws : List Jvm.Cond) (a : Addr) (b : Addr) (csa : List Int32) (csb : List Int32) (z : Int32) (vm0 : Vm) (h0 : Heap) (X00 : Ext Z.heap h0) (P0 : ChA Z h0 a csa) (P1 : ChA Z h0 b csb) (P2 : csa.length ≤ 2) (P3 : csb.length ≤ 2) (P4 : (csa = csb → z = 1) ∧ (¬ csa = csb → z = 0)) :
    Met l (⟨"com/example/backfill/backfill/migration/NotNullCheckReadsPinLaw", "same", "([C[C)Z"⟩ : MethodName) method_4_code 2 (some .boolean) ws ({ frames := 0, cells := 0, slots := 0, locals := 0 } : Room) Z consts_1 vm0 h0 #[(.ref a), (.ref b)] (fun v vm h => v = some (.int z) ∧ h0 = h) := by
  obtain ⟨hw, hEL, ⟨zc, Scs, hzc⟩, ⟨fm, Sfm, hfm⟩⟩ := id cx
  have hSA := own_SA hw
  refine Met.of_walk (a0 := a0) #[.val (.ref a), .val (.ref b)] (plainFor_of_name own_pn64) X00 hEL (fun m => by first | (simp [entryFrame, mkF, argsToLocals, Value.category]; done) | rfl) ?_
  intro p e s m below meth c vm hx hby hml hret hnm hC0
  have lt_a : h0.size > a := P0.lt
  have lt_b : h0.size > b := P1.lt
  obtain ⟨ka, Va, ba, -⟩ := P0
  obtain ⟨kb, Vb, bb, -⟩ := P1
  rcases csa with _ | ⟨p0, _ | ⟨p1, _ | ⟨p2, ra⟩⟩⟩
  · rcases csb with _ | ⟨r0, _ | ⟨r1, _ | ⟨r2, rb⟩⟩⟩
    · have Va' : Arv Z h0 a ka .char (0 : Int32) [] (.int 0) := Va
      have Vb' : Arv Z h0 b kb .char (0 : Int32) [] (.int 0) := Vb
      refine gs (mkF m 1 #[.val (.ref a), .val (.ref b)] [(.ref a)]) (fun _ _ A k => XS.aloadN A hx rfl (hb hby own_d_method_4_0) rfl rfl k) ?_
      refine glen hx Va' 2 (hb hby own_d_method_4_1) rfl ?_
      refine gs (mkF m 3 #[.val (.ref a), .val (.ref b)] [(.ref b), (.int (0 : Int32))]) (fun _ _ A k => XS.aloadN A hx rfl (hb hby own_d_method_4_2) rfl rfl k) ?_
      refine glen hx Vb' 4 (hb hby own_d_method_4_3) rfl ?_
      refine gs (mkF m 9 #[.val (.ref a), .val (.ref b)] []) (fun _ _ A k => XS.icmpYes A hx rfl (pc0 := 4) (pc' := 9) rfl (hb hby own_d_method_4_4) rfl (teq (by decide)).1 (by decide) (by decide) k) ?_
      refine gs (mkF m 10 #[.val (.ref a), .val (.ref b)] [(.ref a)]) (fun _ _ A k => XS.aloadN A hx rfl (hb hby own_d_method_4_9) rfl rfl k) ?_
      refine glen hx Va' 11 (hb hby own_d_method_4_10) rfl ?_
      refine gs (mkF m 25 #[.val (.ref a), .val (.ref b)] []) (fun _ _ A k => XS.ifYes A hx rfl (pc0 := 11) (pc' := 25) rfl (hb hby own_d_method_4_11) rfl ((if0 _ _).trans (flt (by decide)).2.2.2) (by decide) (by decide) k) ?_
      refine gs (mkF m 26 #[.val (.ref a), .val (.ref b)] [(.ref a)]) (fun _ _ A k => XS.aloadN A hx rfl (hb hby own_d_method_4_25) rfl rfl k) ?_
      refine glen hx Va' 27 (hb hby own_d_method_4_26) rfl ?_
      refine gs (mkF m 28 #[.val (.ref a), .val (.ref b)] [(.int (1 : Int32)), (.int (0 : Int32))]) (fun _ _ A k => XS.iconst A hx rfl (hb hby own_d_method_4_27) k) ?_
      refine gs (mkF m 42 #[.val (.ref a), .val (.ref b)] []) (fun _ _ A k => XS.icmpYes A hx rfl (pc0 := 28) (pc' := 42) rfl (hb hby own_d_method_4_28) rfl (flt (by decide)).2.2.2 (by decide) (by decide) k) ?_
      refine gs (mkF m 43 #[.val (.ref a), .val (.ref b)] [(.int (1 : Int32))]) (fun _ _ A k => XS.iconst A hx rfl (hb hby own_d_method_4_42) k) ?_
      exact gretN (t := .boolean) hx hret (by simp) (hb hby own_d_method_4_43) (by decide) (by decide) (fun vq Cq => ⟨(by rw [(P4.1 rfl)]; rfl), rfl⟩)
    · have Va' : Arv Z h0 a ka .char (0 : Int32) [] (.int 0) := Va
      have Vb' : Arv Z h0 b kb .char (1 : Int32) [(.int r0)] (.int 0) := Vb
      refine gs (mkF m 1 #[.val (.ref a), .val (.ref b)] [(.ref a)]) (fun _ _ A k => XS.aloadN A hx rfl (hb hby own_d_method_4_0) rfl rfl k) ?_
      refine glen hx Va' 2 (hb hby own_d_method_4_1) rfl ?_
      refine gs (mkF m 3 #[.val (.ref a), .val (.ref b)] [(.ref b), (.int (0 : Int32))]) (fun _ _ A k => XS.aloadN A hx rfl (hb hby own_d_method_4_2) rfl rfl k) ?_
      refine glen hx Vb' 4 (hb hby own_d_method_4_3) rfl ?_
      refine gs (mkF m 7 #[.val (.ref a), .val (.ref b)] []) (fun _ _ A k => XS.icmpNo A hx rfl (hb hby own_d_method_4_4) rfl (feq (by decide)).1 k) ?_
      refine gs (mkF m 8 #[.val (.ref a), .val (.ref b)] [(.int (0 : Int32))]) (fun _ _ A k => XS.iconst A hx rfl (hb hby own_d_method_4_7) k) ?_
      exact gretN (t := .boolean) hx hret (by simp) (hb hby own_d_method_4_8) (by decide) (by decide) (fun vq Cq => ⟨(by rw [(P4.2 (fun q => absurd (congrArg List.length q) (by simp)))]; rfl), rfl⟩)
    · have Va' : Arv Z h0 a ka .char (0 : Int32) [] (.int 0) := Va
      have Vb' : Arv Z h0 b kb .char (2 : Int32) [(.int r0), (.int r1)] (.int 0) := Vb
      refine gs (mkF m 1 #[.val (.ref a), .val (.ref b)] [(.ref a)]) (fun _ _ A k => XS.aloadN A hx rfl (hb hby own_d_method_4_0) rfl rfl k) ?_
      refine glen hx Va' 2 (hb hby own_d_method_4_1) rfl ?_
      refine gs (mkF m 3 #[.val (.ref a), .val (.ref b)] [(.ref b), (.int (0 : Int32))]) (fun _ _ A k => XS.aloadN A hx rfl (hb hby own_d_method_4_2) rfl rfl k) ?_
      refine glen hx Vb' 4 (hb hby own_d_method_4_3) rfl ?_
      refine gs (mkF m 7 #[.val (.ref a), .val (.ref b)] []) (fun _ _ A k => XS.icmpNo A hx rfl (hb hby own_d_method_4_4) rfl (feq (by decide)).1 k) ?_
      refine gs (mkF m 8 #[.val (.ref a), .val (.ref b)] [(.int (0 : Int32))]) (fun _ _ A k => XS.iconst A hx rfl (hb hby own_d_method_4_7) k) ?_
      exact gretN (t := .boolean) hx hret (by simp) (hb hby own_d_method_4_8) (by decide) (by decide) (fun vq Cq => ⟨(by rw [(P4.2 (fun q => absurd (congrArg List.length q) (by simp)))]; rfl), rfl⟩)
    · exact absurd P3 (by simp)
  · rcases csb with _ | ⟨r0, _ | ⟨r1, _ | ⟨r2, rb⟩⟩⟩
    · have Va' : Arv Z h0 a ka .char (1 : Int32) [(.int p0)] (.int 0) := Va
      have Vb' : Arv Z h0 b kb .char (0 : Int32) [] (.int 0) := Vb
      refine gs (mkF m 1 #[.val (.ref a), .val (.ref b)] [(.ref a)]) (fun _ _ A k => XS.aloadN A hx rfl (hb hby own_d_method_4_0) rfl rfl k) ?_
      refine glen hx Va' 2 (hb hby own_d_method_4_1) rfl ?_
      refine gs (mkF m 3 #[.val (.ref a), .val (.ref b)] [(.ref b), (.int (1 : Int32))]) (fun _ _ A k => XS.aloadN A hx rfl (hb hby own_d_method_4_2) rfl rfl k) ?_
      refine glen hx Vb' 4 (hb hby own_d_method_4_3) rfl ?_
      refine gs (mkF m 7 #[.val (.ref a), .val (.ref b)] []) (fun _ _ A k => XS.icmpNo A hx rfl (hb hby own_d_method_4_4) rfl (feq (by decide)).1 k) ?_
      refine gs (mkF m 8 #[.val (.ref a), .val (.ref b)] [(.int (0 : Int32))]) (fun _ _ A k => XS.iconst A hx rfl (hb hby own_d_method_4_7) k) ?_
      exact gretN (t := .boolean) hx hret (by simp) (hb hby own_d_method_4_8) (by decide) (by decide) (fun vq Cq => ⟨(by rw [(P4.2 (fun q => absurd (congrArg List.length q) (by simp)))]; rfl), rfl⟩)
    · have Va' : Arv Z h0 a ka .char (1 : Int32) [(.int p0)] (.int 0) := Va
      have Vb' : Arv Z h0 b kb .char (1 : Int32) [(.int r0)] (.int 0) := Vb
      refine gs (mkF m 1 #[.val (.ref a), .val (.ref b)] [(.ref a)]) (fun _ _ A k => XS.aloadN A hx rfl (hb hby own_d_method_4_0) rfl rfl k) ?_
      refine glen hx Va' 2 (hb hby own_d_method_4_1) rfl ?_
      refine gs (mkF m 3 #[.val (.ref a), .val (.ref b)] [(.ref b), (.int (1 : Int32))]) (fun _ _ A k => XS.aloadN A hx rfl (hb hby own_d_method_4_2) rfl rfl k) ?_
      refine glen hx Vb' 4 (hb hby own_d_method_4_3) rfl ?_
      refine gs (mkF m 9 #[.val (.ref a), .val (.ref b)] []) (fun _ _ A k => XS.icmpYes A hx rfl (pc0 := 4) (pc' := 9) rfl (hb hby own_d_method_4_4) rfl (teq (by decide)).1 (by decide) (by decide) k) ?_
      refine gs (mkF m 10 #[.val (.ref a), .val (.ref b)] [(.ref a)]) (fun _ _ A k => XS.aloadN A hx rfl (hb hby own_d_method_4_9) rfl rfl k) ?_
      refine glen hx Va' 11 (hb hby own_d_method_4_10) rfl ?_
      refine gs (mkF m 14 #[.val (.ref a), .val (.ref b)] []) (fun _ _ A k => XS.ifNo A hx rfl (hb hby own_d_method_4_11) rfl ((if0 _ _).trans (tlt (by decide)).2.2.2) k) ?_
      refine gs (mkF m 15 #[.val (.ref a), .val (.ref b)] [(.ref a)]) (fun _ _ A k => XS.aloadN A hx rfl (hb hby own_d_method_4_14) rfl rfl k) ?_
      refine gs (mkF m 16 #[.val (.ref a), .val (.ref b)] [(.int (0 : Int32)), (.ref a)]) (fun _ _ A k => XS.iconst A hx rfl (hb hby own_d_method_4_15) k) ?_
      refine gldC hx Va' ⟨by decide, by decide⟩ (i := 0) rfl (v := (.int p0)) rfl 17 (hb hby own_d_method_4_16) rfl ?_
      refine gs (mkF m 18 #[.val (.ref a), .val (.ref b)] [(.ref b), (.int p0)]) (fun _ _ A k => XS.aloadN A hx rfl (hb hby own_d_method_4_17) rfl rfl k) ?_
      refine gs (mkF m 19 #[.val (.ref a), .val (.ref b)] [(.int (0 : Int32)), (.ref b), (.int p0)]) (fun _ _ A k => XS.iconst A hx rfl (hb hby own_d_method_4_18) k) ?_
      refine gldC hx Vb' ⟨by decide, by decide⟩ (i := 0) rfl (v := (.int r0)) rfl 20 (hb hby own_d_method_4_19) rfl ?_
      by_cases c0 : p0 = r0
      · refine gs (mkF m 25 #[.val (.ref a), .val (.ref b)] []) (fun _ _ A k => XS.icmpYes A hx rfl (pc0 := 20) (pc' := 25) rfl (hb hby own_d_method_4_20) rfl (teq c0).1 (by decide) (by decide) k) ?_
        refine gs (mkF m 26 #[.val (.ref a), .val (.ref b)] [(.ref a)]) (fun _ _ A k => XS.aloadN A hx rfl (hb hby own_d_method_4_25) rfl rfl k) ?_
        refine glen hx Va' 27 (hb hby own_d_method_4_26) rfl ?_
        refine gs (mkF m 28 #[.val (.ref a), .val (.ref b)] [(.int (1 : Int32)), (.int (1 : Int32))]) (fun _ _ A k => XS.iconst A hx rfl (hb hby own_d_method_4_27) k) ?_
        refine gs (mkF m 42 #[.val (.ref a), .val (.ref b)] []) (fun _ _ A k => XS.icmpYes A hx rfl (pc0 := 28) (pc' := 42) rfl (hb hby own_d_method_4_28) rfl (flt (by decide)).2.2.2 (by decide) (by decide) k) ?_
        refine gs (mkF m 43 #[.val (.ref a), .val (.ref b)] [(.int (1 : Int32))]) (fun _ _ A k => XS.iconst A hx rfl (hb hby own_d_method_4_42) k) ?_
        exact gretN (t := .boolean) hx hret (by simp) (hb hby own_d_method_4_43) (by decide) (by decide) (fun vq Cq => ⟨(by rw [(P4.1 (by rw [c0]))]; rfl), rfl⟩)
      · refine gs (mkF m 23 #[.val (.ref a), .val (.ref b)] []) (fun _ _ A k => XS.icmpNo A hx rfl (hb hby own_d_method_4_20) rfl (feq c0).1 k) ?_
        refine gs (mkF m 24 #[.val (.ref a), .val (.ref b)] [(.int (0 : Int32))]) (fun _ _ A k => XS.iconst A hx rfl (hb hby own_d_method_4_23) k) ?_
        exact gretN (t := .boolean) hx hret (by simp) (hb hby own_d_method_4_24) (by decide) (by decide) (fun vq Cq => ⟨(by rw [(P4.2 (fun q => absurd (List.cons.inj q).1 c0))]; rfl), rfl⟩)
    · have Va' : Arv Z h0 a ka .char (1 : Int32) [(.int p0)] (.int 0) := Va
      have Vb' : Arv Z h0 b kb .char (2 : Int32) [(.int r0), (.int r1)] (.int 0) := Vb
      refine gs (mkF m 1 #[.val (.ref a), .val (.ref b)] [(.ref a)]) (fun _ _ A k => XS.aloadN A hx rfl (hb hby own_d_method_4_0) rfl rfl k) ?_
      refine glen hx Va' 2 (hb hby own_d_method_4_1) rfl ?_
      refine gs (mkF m 3 #[.val (.ref a), .val (.ref b)] [(.ref b), (.int (1 : Int32))]) (fun _ _ A k => XS.aloadN A hx rfl (hb hby own_d_method_4_2) rfl rfl k) ?_
      refine glen hx Vb' 4 (hb hby own_d_method_4_3) rfl ?_
      refine gs (mkF m 7 #[.val (.ref a), .val (.ref b)] []) (fun _ _ A k => XS.icmpNo A hx rfl (hb hby own_d_method_4_4) rfl (feq (by decide)).1 k) ?_
      refine gs (mkF m 8 #[.val (.ref a), .val (.ref b)] [(.int (0 : Int32))]) (fun _ _ A k => XS.iconst A hx rfl (hb hby own_d_method_4_7) k) ?_
      exact gretN (t := .boolean) hx hret (by simp) (hb hby own_d_method_4_8) (by decide) (by decide) (fun vq Cq => ⟨(by rw [(P4.2 (fun q => absurd (congrArg List.length q) (by simp)))]; rfl), rfl⟩)
    · exact absurd P3 (by simp)
  · rcases csb with _ | ⟨r0, _ | ⟨r1, _ | ⟨r2, rb⟩⟩⟩
    · have Va' : Arv Z h0 a ka .char (2 : Int32) [(.int p0), (.int p1)] (.int 0) := Va
      have Vb' : Arv Z h0 b kb .char (0 : Int32) [] (.int 0) := Vb
      refine gs (mkF m 1 #[.val (.ref a), .val (.ref b)] [(.ref a)]) (fun _ _ A k => XS.aloadN A hx rfl (hb hby own_d_method_4_0) rfl rfl k) ?_
      refine glen hx Va' 2 (hb hby own_d_method_4_1) rfl ?_
      refine gs (mkF m 3 #[.val (.ref a), .val (.ref b)] [(.ref b), (.int (2 : Int32))]) (fun _ _ A k => XS.aloadN A hx rfl (hb hby own_d_method_4_2) rfl rfl k) ?_
      refine glen hx Vb' 4 (hb hby own_d_method_4_3) rfl ?_
      refine gs (mkF m 7 #[.val (.ref a), .val (.ref b)] []) (fun _ _ A k => XS.icmpNo A hx rfl (hb hby own_d_method_4_4) rfl (feq (by decide)).1 k) ?_
      refine gs (mkF m 8 #[.val (.ref a), .val (.ref b)] [(.int (0 : Int32))]) (fun _ _ A k => XS.iconst A hx rfl (hb hby own_d_method_4_7) k) ?_
      exact gretN (t := .boolean) hx hret (by simp) (hb hby own_d_method_4_8) (by decide) (by decide) (fun vq Cq => ⟨(by rw [(P4.2 (fun q => absurd (congrArg List.length q) (by simp)))]; rfl), rfl⟩)
    · have Va' : Arv Z h0 a ka .char (2 : Int32) [(.int p0), (.int p1)] (.int 0) := Va
      have Vb' : Arv Z h0 b kb .char (1 : Int32) [(.int r0)] (.int 0) := Vb
      refine gs (mkF m 1 #[.val (.ref a), .val (.ref b)] [(.ref a)]) (fun _ _ A k => XS.aloadN A hx rfl (hb hby own_d_method_4_0) rfl rfl k) ?_
      refine glen hx Va' 2 (hb hby own_d_method_4_1) rfl ?_
      refine gs (mkF m 3 #[.val (.ref a), .val (.ref b)] [(.ref b), (.int (2 : Int32))]) (fun _ _ A k => XS.aloadN A hx rfl (hb hby own_d_method_4_2) rfl rfl k) ?_
      refine glen hx Vb' 4 (hb hby own_d_method_4_3) rfl ?_
      refine gs (mkF m 7 #[.val (.ref a), .val (.ref b)] []) (fun _ _ A k => XS.icmpNo A hx rfl (hb hby own_d_method_4_4) rfl (feq (by decide)).1 k) ?_
      refine gs (mkF m 8 #[.val (.ref a), .val (.ref b)] [(.int (0 : Int32))]) (fun _ _ A k => XS.iconst A hx rfl (hb hby own_d_method_4_7) k) ?_
      exact gretN (t := .boolean) hx hret (by simp) (hb hby own_d_method_4_8) (by decide) (by decide) (fun vq Cq => ⟨(by rw [(P4.2 (fun q => absurd (congrArg List.length q) (by simp)))]; rfl), rfl⟩)
    · have Va' : Arv Z h0 a ka .char (2 : Int32) [(.int p0), (.int p1)] (.int 0) := Va
      have Vb' : Arv Z h0 b kb .char (2 : Int32) [(.int r0), (.int r1)] (.int 0) := Vb
      refine gs (mkF m 1 #[.val (.ref a), .val (.ref b)] [(.ref a)]) (fun _ _ A k => XS.aloadN A hx rfl (hb hby own_d_method_4_0) rfl rfl k) ?_
      refine glen hx Va' 2 (hb hby own_d_method_4_1) rfl ?_
      refine gs (mkF m 3 #[.val (.ref a), .val (.ref b)] [(.ref b), (.int (2 : Int32))]) (fun _ _ A k => XS.aloadN A hx rfl (hb hby own_d_method_4_2) rfl rfl k) ?_
      refine glen hx Vb' 4 (hb hby own_d_method_4_3) rfl ?_
      refine gs (mkF m 9 #[.val (.ref a), .val (.ref b)] []) (fun _ _ A k => XS.icmpYes A hx rfl (pc0 := 4) (pc' := 9) rfl (hb hby own_d_method_4_4) rfl (teq (by decide)).1 (by decide) (by decide) k) ?_
      refine gs (mkF m 10 #[.val (.ref a), .val (.ref b)] [(.ref a)]) (fun _ _ A k => XS.aloadN A hx rfl (hb hby own_d_method_4_9) rfl rfl k) ?_
      refine glen hx Va' 11 (hb hby own_d_method_4_10) rfl ?_
      refine gs (mkF m 14 #[.val (.ref a), .val (.ref b)] []) (fun _ _ A k => XS.ifNo A hx rfl (hb hby own_d_method_4_11) rfl ((if0 _ _).trans (tlt (by decide)).2.2.2) k) ?_
      refine gs (mkF m 15 #[.val (.ref a), .val (.ref b)] [(.ref a)]) (fun _ _ A k => XS.aloadN A hx rfl (hb hby own_d_method_4_14) rfl rfl k) ?_
      refine gs (mkF m 16 #[.val (.ref a), .val (.ref b)] [(.int (0 : Int32)), (.ref a)]) (fun _ _ A k => XS.iconst A hx rfl (hb hby own_d_method_4_15) k) ?_
      refine gldC hx Va' ⟨by decide, by decide⟩ (i := 0) rfl (v := (.int p0)) rfl 17 (hb hby own_d_method_4_16) rfl ?_
      refine gs (mkF m 18 #[.val (.ref a), .val (.ref b)] [(.ref b), (.int p0)]) (fun _ _ A k => XS.aloadN A hx rfl (hb hby own_d_method_4_17) rfl rfl k) ?_
      refine gs (mkF m 19 #[.val (.ref a), .val (.ref b)] [(.int (0 : Int32)), (.ref b), (.int p0)]) (fun _ _ A k => XS.iconst A hx rfl (hb hby own_d_method_4_18) k) ?_
      refine gldC hx Vb' ⟨by decide, by decide⟩ (i := 0) rfl (v := (.int r0)) rfl 20 (hb hby own_d_method_4_19) rfl ?_
      by_cases c0 : p0 = r0
      · refine gs (mkF m 25 #[.val (.ref a), .val (.ref b)] []) (fun _ _ A k => XS.icmpYes A hx rfl (pc0 := 20) (pc' := 25) rfl (hb hby own_d_method_4_20) rfl (teq c0).1 (by decide) (by decide) k) ?_
        refine gs (mkF m 26 #[.val (.ref a), .val (.ref b)] [(.ref a)]) (fun _ _ A k => XS.aloadN A hx rfl (hb hby own_d_method_4_25) rfl rfl k) ?_
        refine glen hx Va' 27 (hb hby own_d_method_4_26) rfl ?_
        refine gs (mkF m 28 #[.val (.ref a), .val (.ref b)] [(.int (1 : Int32)), (.int (2 : Int32))]) (fun _ _ A k => XS.iconst A hx rfl (hb hby own_d_method_4_27) k) ?_
        refine gs (mkF m 31 #[.val (.ref a), .val (.ref b)] []) (fun _ _ A k => XS.icmpNo A hx rfl (hb hby own_d_method_4_28) rfl (tlt (by decide)).2.2.2 k) ?_
        refine gs (mkF m 32 #[.val (.ref a), .val (.ref b)] [(.ref a)]) (fun _ _ A k => XS.aloadN A hx rfl (hb hby own_d_method_4_31) rfl rfl k) ?_
        refine gs (mkF m 33 #[.val (.ref a), .val (.ref b)] [(.int (1 : Int32)), (.ref a)]) (fun _ _ A k => XS.iconst A hx rfl (hb hby own_d_method_4_32) k) ?_
        refine gldC hx Va' ⟨by decide, by decide⟩ (i := 1) rfl (v := (.int p1)) rfl 34 (hb hby own_d_method_4_33) rfl ?_
        refine gs (mkF m 35 #[.val (.ref a), .val (.ref b)] [(.ref b), (.int p1)]) (fun _ _ A k => XS.aloadN A hx rfl (hb hby own_d_method_4_34) rfl rfl k) ?_
        refine gs (mkF m 36 #[.val (.ref a), .val (.ref b)] [(.int (1 : Int32)), (.ref b), (.int p1)]) (fun _ _ A k => XS.iconst A hx rfl (hb hby own_d_method_4_35) k) ?_
        refine gldC hx Vb' ⟨by decide, by decide⟩ (i := 1) rfl (v := (.int r1)) rfl 37 (hb hby own_d_method_4_36) rfl ?_
        by_cases c1 : p1 = r1
        · refine gs (mkF m 42 #[.val (.ref a), .val (.ref b)] []) (fun _ _ A k => XS.icmpYes A hx rfl (pc0 := 37) (pc' := 42) rfl (hb hby own_d_method_4_37) rfl (teq c1).1 (by decide) (by decide) k) ?_
          refine gs (mkF m 43 #[.val (.ref a), .val (.ref b)] [(.int (1 : Int32))]) (fun _ _ A k => XS.iconst A hx rfl (hb hby own_d_method_4_42) k) ?_
          exact gretN (t := .boolean) hx hret (by simp) (hb hby own_d_method_4_43) (by decide) (by decide) (fun vq Cq => ⟨(by rw [(P4.1 (by rw [c0, c1]))]; rfl), rfl⟩)
        · refine gs (mkF m 40 #[.val (.ref a), .val (.ref b)] []) (fun _ _ A k => XS.icmpNo A hx rfl (hb hby own_d_method_4_37) rfl (feq c1).1 k) ?_
          refine gs (mkF m 41 #[.val (.ref a), .val (.ref b)] [(.int (0 : Int32))]) (fun _ _ A k => XS.iconst A hx rfl (hb hby own_d_method_4_40) k) ?_
          exact gretN (t := .boolean) hx hret (by simp) (hb hby own_d_method_4_41) (by decide) (by decide) (fun vq Cq => ⟨(by rw [(P4.2 (fun q => absurd (List.cons.inj (List.cons.inj q).2).1 c1))]; rfl), rfl⟩)
      · refine gs (mkF m 23 #[.val (.ref a), .val (.ref b)] []) (fun _ _ A k => XS.icmpNo A hx rfl (hb hby own_d_method_4_20) rfl (feq c0).1 k) ?_
        refine gs (mkF m 24 #[.val (.ref a), .val (.ref b)] [(.int (0 : Int32))]) (fun _ _ A k => XS.iconst A hx rfl (hb hby own_d_method_4_23) k) ?_
        exact gretN (t := .boolean) hx hret (by simp) (hb hby own_d_method_4_24) (by decide) (by decide) (fun vq Cq => ⟨(by rw [(P4.2 (fun q => absurd (List.cons.inj q).1 c0))]; rfl), rfl⟩)
    · exact absurd P3 (by simp)
  · exact absurd P2 (by simp)
theorem own_d_prog_65_method_1_0 : decode prog_65_method_1_code 0 = .ok (.aload_n 0, 1) := by decide +kernel
theorem own_d_prog_65_method_1_1 : decode prog_65_method_1_code 1 = .ok (.invokespecial 1, 3) := by decide +kernel
theorem own_pd117 : parseMethodDescriptor "()V" = some ⟨[], none⟩ := by decide +kernel
theorem own_d_prog_65_method_1_4 : decode prog_65_method_1_code 4 = .ok (.aload_n 1, 1) := by decide +kernel
theorem own_d_prog_65_method_1_5 : decode prog_65_method_1_code 5 = .ok (.ldc 7, 2) := by decide +kernel
theorem own_d_prog_65_method_1_7 : decode prog_65_method_1_code 7 = .ok (.invokestatic 9, 3) := by decide +kernel
theorem own_pd121 : parseMethodDescriptor "(Ljava/lang/Object;Ljava/lang/String;)Ljava/lang/Object;" = some ⟨[(.object "java/lang/Object"), (.object "java/lang/String")], some (.object "java/lang/Object")⟩ := by decide +kernel
theorem own_d_prog_65_method_1_10 : decode prog_65_method_1_code 10 = .ok (.pop, 1) := by decide +kernel
theorem own_d_prog_65_method_1_11 : decode prog_65_method_1_code 11 = .ok (.aload_n 2, 1) := by decide +kernel
theorem own_d_prog_65_method_1_12 : decode prog_65_method_1_code 12 = .ok (.ldc 15, 2) := by decide +kernel
theorem own_d_prog_65_method_1_14 : decode prog_65_method_1_code 14 = .ok (.invokestatic 9, 3) := by decide +kernel
theorem own_d_prog_65_method_1_17 : decode prog_65_method_1_code 17 = .ok (.pop, 1) := by decide +kernel
theorem own_d_prog_65_method_1_18 : decode prog_65_method_1_code 18 = .ok (.aload_n 3, 1) := by decide +kernel
theorem own_d_prog_65_method_1_19 : decode prog_65_method_1_code 19 = .ok (.ldc 17, 2) := by decide +kernel
theorem own_d_prog_65_method_1_21 : decode prog_65_method_1_code 21 = .ok (.invokestatic 9, 3) := by decide +kernel
theorem own_d_prog_65_method_1_24 : decode prog_65_method_1_code 24 = .ok (.pop, 1) := by decide +kernel
theorem own_d_prog_65_method_1_25 : decode prog_65_method_1_code 25 = .ok (.aload_n 0, 1) := by decide +kernel
theorem own_d_prog_65_method_1_26 : decode prog_65_method_1_code 26 = .ok (.aload_n 1, 1) := by decide +kernel
theorem own_d_prog_65_method_1_27 : decode prog_65_method_1_code 27 = .ok (.putfield 19, 3) := by decide +kernel
theorem own_d_prog_65_method_1_30 : decode prog_65_method_1_code 30 = .ok (.aload_n 0, 1) := by decide +kernel
theorem own_d_prog_65_method_1_31 : decode prog_65_method_1_code 31 = .ok (.aload_n 2, 1) := by decide +kernel
theorem own_d_prog_65_method_1_32 : decode prog_65_method_1_code 32 = .ok (.putfield 24, 3) := by decide +kernel
theorem own_d_prog_65_method_1_35 : decode prog_65_method_1_code 35 = .ok (.aload_n 0, 1) := by decide +kernel
theorem own_d_prog_65_method_1_36 : decode prog_65_method_1_code 36 = .ok (.aload_n 3, 1) := by decide +kernel
theorem own_d_prog_65_method_1_37 : decode prog_65_method_1_code 37 = .ok (.putfield 26, 3) := by decide +kernel
theorem own_d_prog_65_method_1_40 : decode prog_65_method_1_code 40 = .ok (.return_, 1) := by decide +kernel
theorem own_pn141 : plainName "com/example/backfill/backfill/migration/NotNullCheck" = true := by first | (simp [plainName, overriddenIn]; done) | decide +kernel
set_option maxRecDepth 65536 in
set_option maxHeartbeats 40000000 in
theorem own_ncinit (l : Launch) (Z : State) (a0 : Array Value) (cx : Ctx Z a0) (ws : List Jvm.Cond) (x : Addr) (s1 : Addr) (s2 : Addr) (s3 : Addr) (u1 : Value) (u2 : Value) (u3 : Value) (vm0 : Vm) (h0 : Heap) (X00 : Ext Z.heap h0) (P0 : Exa Z h0 x "com/example/backfill/backfill/migration/NotNullCheck") (P1 : Fld Z h0 x "com/example/backfill/backfill/migration/NotNullCheck" "table" "Ljava/lang/String;" u1) (P2 : Fld Z h0 x "com/example/backfill/backfill/migration/NotNullCheck" "column" "Ljava/lang/String;" u2) (P3 : Fld Z h0 x "com/example/backfill/backfill/migration/NotNullCheck" "name" "Ljava/lang/String;" u3) (P4 : Z.heap.size ≤ x) :
    Met l (⟨"com/example/backfill/backfill/migration/NotNullCheck", "<init>", "(Ljava/lang/String;Ljava/lang/String;Ljava/lang/String;)V"⟩ : MethodName) prog_65_method_1_code 4 none ws ({ frames := 2, cells := 6, slots := 72, locals := 24 } : Room) Z consts_1 vm0 h0 #[(.ref x), (.ref s1), (.ref s2), (.ref s3)] (fun v vm h => v = none ∧ Keep h0 h [x] ∧ Fld Z h x "com/example/backfill/backfill/migration/NotNullCheck" "table" "Ljava/lang/String;" (.ref s1) ∧ Fld Z h x "com/example/backfill/backfill/migration/NotNullCheck" "column" "Ljava/lang/String;" (.ref s2)) := by
  obtain ⟨hw, hEL, ⟨zc, Scs, hzc⟩, ⟨fm, Sfm, hfm⟩⟩ := id cx
  have hSA := own_SA hw
  refine Met.of_walk (a0 := a0) #[.val (.ref x), .val (.ref s1), .val (.ref s2), .val (.ref s3)] (plainFor_of_name own_pn141) X00 hEL (fun m => by first | (simp [entryFrame, mkF, argsToLocals, Value.category]; done) | rfl) ?_
  intro p e s m below meth c vm hx hby hml hret hnm hC0
  have lt_x : h0.size > x := P0.lt
  refine gs (mkF m 1 #[.val (.ref x), .val (.ref s1), .val (.ref s2), .val (.ref s3)] [(.ref x)]) (fun _ _ A k => XS.aloadN A hx rfl (hb hby own_d_prog_65_method_1_0) rfl rfl k) ?_
  refine ginfo fun _ _ O1 => ?_
  refine gcallI (y := (⟨"java/lang/Record", "<init>", "()V"⟩ : MethodName)) hx rfl (ow hw 35 rfl) (ow hw 36 rfl) (ow hw 39 rfl) (by decide) (fun hZ H hEL => Pay.of_met (W := 0) (own_record l Z a0 cx [] (x) vm h0 O1 ) (ow hw 39 rfl) (ow hw 38 rfl) (by decide) (by decide) hZ H hEL) (a := x) 4 (argsL := []) (rest := []) (lenOf own_pd117 rfl) rfl rfl (Nat.le_of_eq rfl) (by rw [hml]; rfl) (hb hby own_d_prog_65_method_1_1) rfl (by decide) (by decide) ?_
  rintro _ vm1 h1 C1 ⟨rfl, rfl⟩
  have z1 := C1.2.1
  refine gat (mkF m 4 #[.val (.ref x), .val (.ref s1), .val (.ref s2), .val (.ref s3)] []) rfl ?_
  refine gs (mkF m 5 #[.val (.ref x), .val (.ref s1), .val (.ref s2), .val (.ref s3)] [(.ref s1)]) (fun _ _ A k => XS.aloadN A hx rfl (hb hby own_d_prog_65_method_1_4) rfl rfl k) ?_
  refine gldcO hx (ow hw 41 rfl) hSA (n := 20) (by decide) (by decide) 7 (hb hby own_d_prog_65_method_1_5) rfl (by decide) (by decide) ?_
  intro b2 vm2 h2 E2 C2
  have z2 := C2.2.1
  refine ginfo fun _ _ O3 => ?_
  refine gcallS (y := (⟨"java/util/Objects", "requireNonNull", "(Ljava/lang/Object;Ljava/lang/String;)Ljava/lang/Object;"⟩ : MethodName)) hx (ow hw 42 rfl) (ow hw 43 rfl) (ow hw 44 rfl) (ow hw 45 rfl) (by decide) (fun hZ H hEL => Pay.of_met (W := 0) (own_require2 l Z a0 cx [] (s1) (b2) vm2 h2 O3 ) (ow hw 45 rfl) (ow hw 44 rfl) (by decide) (by decide) hZ H hEL) 10 (argsL := [(.ref s1), (.ref b2)]) (rest := []) (lenOf own_pd121 rfl) rfl rfl (Nat.le_of_eq rfl) (by rw [hml]; rfl) (hb hby own_d_prog_65_method_1_7) rfl (by decide) (by decide) ?_
  rintro _ vm3 h3 C3 ⟨rfl, rfl⟩
  have z3 := C3.2.1
  refine gat (mkF m 10 #[.val (.ref x), .val (.ref s1), .val (.ref s2), .val (.ref s3)] [(.ref s1)]) rfl ?_
  refine gs (mkF m 11 #[.val (.ref x), .val (.ref s1), .val (.ref s2), .val (.ref s3)] []) (fun _ _ A k => XS.pop A hx rfl (hb hby own_d_prog_65_method_1_10) rfl rfl k) ?_
  refine gs (mkF m 12 #[.val (.ref x), .val (.ref s1), .val (.ref s2), .val (.ref s3)] [(.ref s2)]) (fun _ _ A k => XS.aloadN A hx rfl (hb hby own_d_prog_65_method_1_11) rfl rfl k) ?_
  refine gldcO hx (ow hw 46 rfl) hSA (n := 24) (by decide) (by decide) 14 (hb hby own_d_prog_65_method_1_12) rfl (by decide) (by decide) ?_
  intro b4 vm4 h4 E4 C4
  have z4 := C4.2.1
  refine ginfo fun _ _ O5 => ?_
  refine gcallS (y := (⟨"java/util/Objects", "requireNonNull", "(Ljava/lang/Object;Ljava/lang/String;)Ljava/lang/Object;"⟩ : MethodName)) hx (ow hw 42 rfl) (ow hw 43 rfl) (ow hw 44 rfl) (ow hw 45 rfl) (by decide) (fun hZ H hEL => Pay.of_met (W := 0) (own_require2 l Z a0 cx [] (s2) (b4) vm4 h4 O5 ) (ow hw 45 rfl) (ow hw 44 rfl) (by decide) (by decide) hZ H hEL) 17 (argsL := [(.ref s2), (.ref b4)]) (rest := []) (lenOf own_pd121 rfl) rfl rfl (Nat.le_of_eq rfl) (by rw [hml]; rfl) (hb hby own_d_prog_65_method_1_14) rfl (by decide) (by decide) ?_
  rintro _ vm5 h5 C5 ⟨rfl, rfl⟩
  have z5 := C5.2.1
  refine gat (mkF m 17 #[.val (.ref x), .val (.ref s1), .val (.ref s2), .val (.ref s3)] [(.ref s2)]) rfl ?_
  refine gs (mkF m 18 #[.val (.ref x), .val (.ref s1), .val (.ref s2), .val (.ref s3)] []) (fun _ _ A k => XS.pop A hx rfl (hb hby own_d_prog_65_method_1_17) rfl rfl k) ?_
  refine gs (mkF m 19 #[.val (.ref x), .val (.ref s1), .val (.ref s2), .val (.ref s3)] [(.ref s3)]) (fun _ _ A k => XS.aloadN A hx rfl (hb hby own_d_prog_65_method_1_18) rfl rfl k) ?_
  refine gldcO hx (ow hw 47 rfl) hSA (n := 16) (by decide) (by decide) 21 (hb hby own_d_prog_65_method_1_19) rfl (by decide) (by decide) ?_
  intro b6 vm6 h6 E6 C6
  have z6 := C6.2.1
  refine ginfo fun _ _ O7 => ?_
  refine gcallS (y := (⟨"java/util/Objects", "requireNonNull", "(Ljava/lang/Object;Ljava/lang/String;)Ljava/lang/Object;"⟩ : MethodName)) hx (ow hw 42 rfl) (ow hw 43 rfl) (ow hw 44 rfl) (ow hw 45 rfl) (by decide) (fun hZ H hEL => Pay.of_met (W := 0) (own_require2 l Z a0 cx [] (s3) (b6) vm6 h6 O7 ) (ow hw 45 rfl) (ow hw 44 rfl) (by decide) (by decide) hZ H hEL) 24 (argsL := [(.ref s3), (.ref b6)]) (rest := []) (lenOf own_pd121 rfl) rfl rfl (Nat.le_of_eq rfl) (by rw [hml]; rfl) (hb hby own_d_prog_65_method_1_21) rfl (by decide) (by decide) ?_
  rintro _ vm7 h7 C7 ⟨rfl, rfl⟩
  have z7 := C7.2.1
  refine gat (mkF m 24 #[.val (.ref x), .val (.ref s1), .val (.ref s2), .val (.ref s3)] [(.ref s3)]) rfl ?_
  refine gs (mkF m 25 #[.val (.ref x), .val (.ref s1), .val (.ref s2), .val (.ref s3)] []) (fun _ _ A k => XS.pop A hx rfl (hb hby own_d_prog_65_method_1_24) rfl rfl k) ?_
  refine gs (mkF m 26 #[.val (.ref x), .val (.ref s1), .val (.ref s2), .val (.ref s3)] [(.ref x)]) (fun _ _ A k => XS.aloadN A hx rfl (hb hby own_d_prog_65_method_1_25) rfl rfl k) ?_
  refine gs (mkF m 27 #[.val (.ref x), .val (.ref s1), .val (.ref s2), .val (.ref s3)] [(.ref s1), (.ref x)]) (fun _ _ A k => XS.aloadN A hx rfl (hb hby own_d_prog_65_method_1_26) rfl rfl k) ?_
  have f8 := (((P1.ext E2).ext E4).ext E6)
  have f9 := (((P0.ext E2).ext E4).ext E6)
  refine gputF (host := "") hx (Or.inl (ow hw 48 rfl)) Via.refl f8 f9 (Or.inr ⟨(ow hw 49 rfl), rfl, hnm⟩) (ow hw 30 rfl) (ty := (.object "java/lang/String")) (by decide) rfl rfl P4 (fun al => Safe.exa al f9 (by decide) (by decide)) 30 (hb hby own_d_prog_65_method_1_27) rfl ?_
  intro h10 W10 C10
  have z10 := C10.2.1
  have F10 := f8.same W10
  refine gs (mkF m 31 #[.val (.ref x), .val (.ref s1), .val (.ref s2), .val (.ref s3)] [(.ref x)]) (fun _ _ A k => XS.aloadN A hx rfl (hb hby own_d_prog_65_method_1_30) rfl rfl k) ?_
  refine gs (mkF m 32 #[.val (.ref x), .val (.ref s1), .val (.ref s2), .val (.ref s3)] [(.ref s2), (.ref x)]) (fun _ _ A k => XS.aloadN A hx rfl (hb hby own_d_prog_65_method_1_31) rfl rfl k) ?_
  have f11 := ((((P2.ext E2).ext E4).ext E6).other W10 (Or.inr (slot_ne (Or.inr (ow hw 51 rfl)) (Or.inr (ow hw 49 rfl)) (by decide) (t := (.object "java/lang/String")) (t' := (.object "java/lang/String")) (by decide) (by decide))))
  have f12 := (f9.wr W10)
  refine gputF (host := "") hx (Or.inl (ow hw 50 rfl)) Via.refl f11 f12 (Or.inr ⟨(ow hw 51 rfl), rfl, hnm⟩) (ow hw 30 rfl) (ty := (.object "java/lang/String")) (by decide) rfl rfl P4 (fun al => Safe.exa al f12 (by decide) (by decide)) 35 (hb hby own_d_prog_65_method_1_32) rfl ?_
  intro h13 W13 C13
  have z13 := C13.2.1
  have F13 := f11.same W13
  refine gs (mkF m 36 #[.val (.ref x), .val (.ref s1), .val (.ref s2), .val (.ref s3)] [(.ref x)]) (fun _ _ A k => XS.aloadN A hx rfl (hb hby own_d_prog_65_method_1_35) rfl rfl k) ?_
  refine gs (mkF m 37 #[.val (.ref x), .val (.ref s1), .val (.ref s2), .val (.ref s3)] [(.ref s3), (.ref x)]) (fun _ _ A k => XS.aloadN A hx rfl (hb hby own_d_prog_65_method_1_36) rfl rfl k) ?_
  have f14 := (((((P3.ext E2).ext E4).ext E6).other W10 (Or.inr (slot_ne (Or.inr (ow hw 53 rfl)) (Or.inr (ow hw 49 rfl)) (by decide) (t := (.object "java/lang/String")) (t' := (.object "java/lang/String")) (by decide) (by decide)))).other W13 (Or.inr (slot_ne (Or.inr (ow hw 53 rfl)) (Or.inr (ow hw 51 rfl)) (by decide) (t := (.object "java/lang/String")) (t' := (.object "java/lang/String")) (by decide) (by decide))))
  have f15 := (f12.wr W13)
  refine gputF (host := "") hx (Or.inl (ow hw 52 rfl)) Via.refl f14 f15 (Or.inr ⟨(ow hw 53 rfl), rfl, hnm⟩) (ow hw 30 rfl) (ty := (.object "java/lang/String")) (by decide) rfl rfl P4 (fun al => Safe.exa al f15 (by decide) (by decide)) 40 (hb hby own_d_prog_65_method_1_37) rfl ?_
  intro h16 W16 C16
  have z16 := C16.2.1
  have F16 := f14.same W16
  have f18 := ((F10.other W13 (Or.inr (slot_ne (Or.inr (ow hw 49 rfl)) (Or.inr (ow hw 51 rfl)) (by decide) (t := (.object "java/lang/String")) (t' := (.object "java/lang/String")) (by decide) (by decide)))).other W16 (Or.inr (slot_ne (Or.inr (ow hw 49 rfl)) (Or.inr (ow hw 53 rfl)) (by decide) (t := (.object "java/lang/String")) (t' := (.object "java/lang/String")) (by decide) (by decide))))
  have f19 := (F13.other W16 (Or.inr (slot_ne (Or.inr (ow hw 51 rfl)) (Or.inr (ow hw 53 rfl)) (by decide) (t := (.object "java/lang/String")) (t' := (.object "java/lang/String")) (by decide) (by decide))))
  exact gretV hx hret (hb hby own_d_prog_65_method_1_40) (by decide) (by decide) (fun vq Cq => ⟨rfl, (((((((Keep.refl h0 [x]).ext E2).ext E4).ext E6).wr W10 (Or.inl (List.mem_of_getElem? (i := 0) rfl))).wr W13 (Or.inl (List.mem_of_getElem? (i := 0) rfl))).wr W16 (Or.inl (List.mem_of_getElem? (i := 0) rfl))), f18, f19⟩)
theorem own_d_prog_65_method_3_0 : decode prog_65_method_3_code 0 = .ok (.aload_n 0, 1) := by decide +kernel
theorem own_d_prog_65_method_3_1 : decode prog_65_method_3_code 1 = .ok (.getfield 19, 3) := by decide +kernel
theorem own_d_prog_65_method_3_4 : decode prog_65_method_3_code 4 = .ok (.aload_n 1, 1) := by decide +kernel
theorem own_d_prog_65_method_3_5 : decode prog_65_method_3_code 5 = .ok (.invokevirtual 37, 3) := by decide +kernel
theorem own_pd146 : parseMethodDescriptor "(Ljava/lang/Object;)Z" = some ⟨[(.object "java/lang/Object")], some .boolean⟩ := by decide +kernel
theorem own_d_prog_65_method_3_8 : decode prog_65_method_3_code 8 = .ok (.ifCond .eq 18, 3) := by decide +kernel
theorem own_d_prog_65_method_3_11 : decode prog_65_method_3_code 11 = .ok (.aload_n 0, 1) := by decide +kernel
theorem own_d_prog_65_method_3_12 : decode prog_65_method_3_code 12 = .ok (.getfield 24, 3) := by decide +kernel
theorem own_d_prog_65_method_3_15 : decode prog_65_method_3_code 15 = .ok (.aload_n 2, 1) := by decide +kernel
theorem own_d_prog_65_method_3_16 : decode prog_65_method_3_code 16 = .ok (.invokevirtual 37, 3) := by decide +kernel
theorem own_d_prog_65_method_3_19 : decode prog_65_method_3_code 19 = .ok (.ifCond .eq 7, 3) := by decide +kernel
theorem own_d_prog_65_method_3_22 : decode prog_65_method_3_code 22 = .ok (.iconst 1, 1) := by decide +kernel
theorem own_d_prog_65_method_3_23 : decode prog_65_method_3_code 23 = .ok (.goto 4, 3) := by decide +kernel
theorem own_d_prog_65_method_3_27 : decode prog_65_method_3_code 27 = .ok (.ireturn, 1) := by decide +kernel
theorem own_d_prog_65_method_3_26 : decode prog_65_method_3_code 26 = .ok (.iconst 0, 1) := by decide +kernel
set_option maxRecDepth 65536 in
set_option maxHeartbeats 40000000 in
theorem own_reads (l : Launch) (Z : State) (a0 : Array Value) (cx : Ctx Z a0) (ws : List Jvm.Cond) (x : Addr) (s1 : Addr) (s2 : Addr) (q1 : Addr) (q2 : Addr) (t1 : Addr) (t2 : Addr) (w1 : Addr) (w2 : Addr) (ca : List Int32) (cb : List Int32) (cc : List Int32) (cd : List Int32) (z : Int32) (vm0 : Vm) (h0 : Heap) (X00 : Ext Z.heap h0) (P0 : Fld Z h0 x "com/example/backfill/backfill/migration/NotNullCheck" "table" "Ljava/lang/String;" (.ref s1)) (P1 : Fld Z h0 x "com/example/backfill/backfill/migration/NotNullCheck" "column" "Ljava/lang/String;" (.ref s2)) (P2 : Str Z h0 s1 t1 ca) (P3 : Str Z h0 s2 t2 cb) (P4 : Str Z h0 q1 w1 cc) (P5 : Str Z h0 q2 w2 cd) (P6 : (ca = cc ∧ cb = cd → z = 1) ∧ (¬ (ca = cc ∧ cb = cd) → z = 0)) :
    Met l (⟨"com/example/backfill/backfill/migration/NotNullCheck", "reads", "(Ljava/lang/String;Ljava/lang/String;)Z"⟩ : MethodName) prog_65_method_3_code 3 (some .boolean) ws ({ frames := 2, cells := 0, slots := 0, locals := 28 } : Room) Z consts_1 vm0 h0 #[(.ref x), (.ref q1), (.ref q2)] (fun v vm h => v = some (.int z) ∧ h0 = h) := by
  obtain ⟨hw, hEL, ⟨zc, Scs, hzc⟩, ⟨fm, Sfm, hfm⟩⟩ := id cx
  have hSA := own_SA hw
  refine Met.of_walk (a0 := a0) #[.val (.ref x), .val (.ref q1), .val (.ref q2)] (plainFor_of_name own_pn141) X00 hEL (fun m => by first | (simp [entryFrame, mkF, argsToLocals, Value.category]; done) | rfl) ?_
  intro p e s m below meth c vm hx hby hml hret hnm hC0
  have lt_x : h0.size > x := P0.lt
  have lt_s1 : h0.size > s1 := P2.1.lt
  have lt_t1 : h0.size > t1 := P2.tlt
  have lt_s2 : h0.size > s2 := P3.1.lt
  have lt_t2 : h0.size > t2 := P3.tlt
  have lt_q1 : h0.size > q1 := P4.1.lt
  have lt_w1 : h0.size > w1 := P4.tlt
  have lt_q2 : h0.size > q2 := P5.1.lt
  have lt_w2 : h0.size > w2 := P5.tlt
  by_cases e1 : ca = cc
  · refine gs (mkF m 1 #[.val (.ref x), .val (.ref q1), .val (.ref q2)] [(.ref x)]) (fun _ _ A k => XS.aloadN A hx rfl (hb hby own_d_prog_65_method_3_0) rfl rfl k) ?_
    refine ggetF (host := "") hx (Or.inl (ow hw 48 rfl)) Via.refl P0 4 (hb hby own_d_prog_65_method_3_1) rfl ?_
    refine gs (mkF m 5 #[.val (.ref x), .val (.ref q1), .val (.ref q2)] [(.ref q1), (.ref s1)]) (fun _ _ A k => XS.aloadN A hx rfl (hb hby own_d_prog_65_method_3_4) rfl rfl k) ?_
    refine ginfo fun _ _ O1 => ?_
    refine gcallV (y := (⟨"java/lang/String", "equals", "(Ljava/lang/Object;)Z"⟩ : MethodName)) (z := (⟨"java/lang/String", "equals", "(Ljava/lang/Object;)Z"⟩ : MethodName)) hx (ow hw 59 rfl) (ow hw 60 rfl) (nfSel (ow hw 62 rfl)) (ow hw 62 rfl) (ow hw 61 rfl) (by decide) (fun hZ H hEL => own_payEqT (W := 0) (own_wEq hw) (ow hw 9 rfl) Scs hzc O1 P2 P4 e1 (by decide) (by decide) hZ H hEL) 8 (argsL := [(.ref q1)]) (rest := []) P2.1 (lenOf own_pd146 rfl) rfl rfl (Nat.le_of_eq rfl) (by rw [hml]; rfl) (hb hby own_d_prog_65_method_3_5) rfl (by decide) (by decide) ?_
    rintro _ vm1 h1 C1 ⟨rfl, rfl⟩
    have z1 := C1.2.1
    refine gat (mkF m 8 #[.val (.ref x), .val (.ref q1), .val (.ref q2)] [(.int (1 : Int32))]) rfl ?_
    refine gs (mkF m 11 #[.val (.ref x), .val (.ref q1), .val (.ref q2)] []) (fun _ _ A k => XS.ifNo A hx rfl (hb hby own_d_prog_65_method_3_8) rfl ((if0 _ _).trans (feq (by decide)).1) k) ?_
    by_cases e2 : cb = cd
    · refine gs (mkF m 12 #[.val (.ref x), .val (.ref q1), .val (.ref q2)] [(.ref x)]) (fun _ _ A k => XS.aloadN A hx rfl (hb hby own_d_prog_65_method_3_11) rfl rfl k) ?_
      refine ggetF (host := "") hx (Or.inl (ow hw 50 rfl)) Via.refl P1 15 (hb hby own_d_prog_65_method_3_12) rfl ?_
      refine gs (mkF m 16 #[.val (.ref x), .val (.ref q1), .val (.ref q2)] [(.ref q2), (.ref s2)]) (fun _ _ A k => XS.aloadN A hx rfl (hb hby own_d_prog_65_method_3_15) rfl rfl k) ?_
      refine ginfo fun _ _ O2 => ?_
      refine gcallV (y := (⟨"java/lang/String", "equals", "(Ljava/lang/Object;)Z"⟩ : MethodName)) (z := (⟨"java/lang/String", "equals", "(Ljava/lang/Object;)Z"⟩ : MethodName)) hx (ow hw 59 rfl) (ow hw 60 rfl) (nfSel (ow hw 62 rfl)) (ow hw 62 rfl) (ow hw 61 rfl) (by decide) (fun hZ H hEL => own_payEqT (W := 0) (own_wEq hw) (ow hw 9 rfl) Scs hzc O2 P3 P5 e2 (by decide) (by decide) hZ H hEL) 19 (argsL := [(.ref q2)]) (rest := []) P3.1 (lenOf own_pd146 rfl) rfl rfl (Nat.le_of_eq rfl) (by rw [hml]; rfl) (hb hby own_d_prog_65_method_3_16) rfl (by decide) (by decide) ?_
      rintro _ vm2 h2 C2 ⟨rfl, rfl⟩
      have z2 := C2.2.1
      refine gat (mkF m 19 #[.val (.ref x), .val (.ref q1), .val (.ref q2)] [(.int (1 : Int32))]) rfl ?_
      refine gs (mkF m 22 #[.val (.ref x), .val (.ref q1), .val (.ref q2)] []) (fun _ _ A k => XS.ifNo A hx rfl (hb hby own_d_prog_65_method_3_19) rfl ((if0 _ _).trans (feq (by decide)).1) k) ?_
      refine gs (mkF m 23 #[.val (.ref x), .val (.ref q1), .val (.ref q2)] [(.int (1 : Int32))]) (fun _ _ A k => XS.iconst A hx rfl (hb hby own_d_prog_65_method_3_22) k) ?_
      refine gs (mkF m 27 #[.val (.ref x), .val (.ref q1), .val (.ref q2)] [(.int (1 : Int32))]) (fun _ _ A k => XS.goto A hx rfl (pc0 := 23) (pc' := 27) rfl (hb hby own_d_prog_65_method_3_23) (by decide) (by decide) k) ?_
      exact gretN (t := .boolean) hx hret (by simp) (hb hby own_d_prog_65_method_3_27) (by decide) (by decide) (fun vq Cq => ⟨(by rw [(P6.1 ⟨e1, e2⟩)]; rfl), rfl⟩)
    · refine gs (mkF m 12 #[.val (.ref x), .val (.ref q1), .val (.ref q2)] [(.ref x)]) (fun _ _ A k => XS.aloadN A hx rfl (hb hby own_d_prog_65_method_3_11) rfl rfl k) ?_
      refine ggetF (host := "") hx (Or.inl (ow hw 50 rfl)) Via.refl P1 15 (hb hby own_d_prog_65_method_3_12) rfl ?_
      refine gs (mkF m 16 #[.val (.ref x), .val (.ref q1), .val (.ref q2)] [(.ref q2), (.ref s2)]) (fun _ _ A k => XS.aloadN A hx rfl (hb hby own_d_prog_65_method_3_15) rfl rfl k) ?_
      refine ginfo fun _ _ O4 => ?_
      refine gcallV (y := (⟨"java/lang/String", "equals", "(Ljava/lang/Object;)Z"⟩ : MethodName)) (z := (⟨"java/lang/String", "equals", "(Ljava/lang/Object;)Z"⟩ : MethodName)) hx (ow hw 59 rfl) (ow hw 60 rfl) (nfSel (ow hw 62 rfl)) (ow hw 62 rfl) (ow hw 61 rfl) (by decide) (fun hZ H hEL => own_payEqF (W := 0) (own_wEq hw) (ow hw 9 rfl) Scs hzc O4 P3 P5 e2 (by decide) (by decide) hZ H hEL) 19 (argsL := [(.ref q2)]) (rest := []) P3.1 (lenOf own_pd146 rfl) rfl rfl (Nat.le_of_eq rfl) (by rw [hml]; rfl) (hb hby own_d_prog_65_method_3_16) rfl (by decide) (by decide) ?_
      rintro _ vm4 h4 C4 ⟨rfl, rfl⟩
      have z4 := C4.2.1
      refine gat (mkF m 19 #[.val (.ref x), .val (.ref q1), .val (.ref q2)] [(.int (0 : Int32))]) rfl ?_
      refine gs (mkF m 26 #[.val (.ref x), .val (.ref q1), .val (.ref q2)] []) (fun _ _ A k => XS.ifYes A hx rfl (pc0 := 19) (pc' := 26) rfl (hb hby own_d_prog_65_method_3_19) rfl ((if0 _ _).trans (teq (by decide)).1) (by decide) (by decide) k) ?_
      refine gs (mkF m 27 #[.val (.ref x), .val (.ref q1), .val (.ref q2)] [(.int (0 : Int32))]) (fun _ _ A k => XS.iconst A hx rfl (hb hby own_d_prog_65_method_3_26) k) ?_
      exact gretN (t := .boolean) hx hret (by simp) (hb hby own_d_prog_65_method_3_27) (by decide) (by decide) (fun vq Cq => ⟨(by rw [(P6.2 (fun q => e2 q.2))]; rfl), rfl⟩)
  · refine gs (mkF m 1 #[.val (.ref x), .val (.ref q1), .val (.ref q2)] [(.ref x)]) (fun _ _ A k => XS.aloadN A hx rfl (hb hby own_d_prog_65_method_3_0) rfl rfl k) ?_
    refine ggetF (host := "") hx (Or.inl (ow hw 48 rfl)) Via.refl P0 4 (hb hby own_d_prog_65_method_3_1) rfl ?_
    refine gs (mkF m 5 #[.val (.ref x), .val (.ref q1), .val (.ref q2)] [(.ref q1), (.ref s1)]) (fun _ _ A k => XS.aloadN A hx rfl (hb hby own_d_prog_65_method_3_4) rfl rfl k) ?_
    refine ginfo fun _ _ O6 => ?_
    refine gcallV (y := (⟨"java/lang/String", "equals", "(Ljava/lang/Object;)Z"⟩ : MethodName)) (z := (⟨"java/lang/String", "equals", "(Ljava/lang/Object;)Z"⟩ : MethodName)) hx (ow hw 59 rfl) (ow hw 60 rfl) (nfSel (ow hw 62 rfl)) (ow hw 62 rfl) (ow hw 61 rfl) (by decide) (fun hZ H hEL => own_payEqF (W := 0) (own_wEq hw) (ow hw 9 rfl) Scs hzc O6 P2 P4 e1 (by decide) (by decide) hZ H hEL) 8 (argsL := [(.ref q1)]) (rest := []) P2.1 (lenOf own_pd146 rfl) rfl rfl (Nat.le_of_eq rfl) (by rw [hml]; rfl) (hb hby own_d_prog_65_method_3_5) rfl (by decide) (by decide) ?_
    rintro _ vm6 h6 C6 ⟨rfl, rfl⟩
    have z6 := C6.2.1
    refine gat (mkF m 8 #[.val (.ref x), .val (.ref q1), .val (.ref q2)] [(.int (0 : Int32))]) rfl ?_
    refine gs (mkF m 26 #[.val (.ref x), .val (.ref q1), .val (.ref q2)] []) (fun _ _ A k => XS.ifYes A hx rfl (pc0 := 8) (pc' := 26) rfl (hb hby own_d_prog_65_method_3_8) rfl ((if0 _ _).trans (teq (by decide)).1) (by decide) (by decide) k) ?_
    refine gs (mkF m 27 #[.val (.ref x), .val (.ref q1), .val (.ref q2)] [(.int (0 : Int32))]) (fun _ _ A k => XS.iconst A hx rfl (hb hby own_d_prog_65_method_3_26) k) ?_
    exact gretN (t := .boolean) hx hret (by simp) (hb hby own_d_prog_65_method_3_27) (by decide) (by decide) (fun vq Cq => ⟨(by rw [(P6.2 (fun q => e1 q.1))]; rfl), rfl⟩)
theorem own_payStr {p : Program} {l : Launch} {e : Env} {R : Room} {s : State} {args : Array Value} {below : List Frame} {Z : State} {a0 : Array Value} {vm : Vm} {h : Heap} {len W : Nat} (cx : Ctx Z a0) (O : Ext Z.heap h) {x b : Addr} {cs : List Int32} {v0 c0 : Value} (gx0 : Z.heap.size ≤ x) (E : Exa Z h x "java/lang/String") (V : Fld Z h x "java/lang/String" "value" "[B" v0) (C : Fld Z h x "java/lang/String" "coder" "B" c0) (K : ChA Z h b cs) (hl : cs.length ≤ 2) (Sf : Safe Z consts_1 vm h x)
    (hfr : 4 ≤ R.frames) (hlo : W + 65 ≤ R.locals) (hZ : Z.Warmed39 vm) (H : CHv Z consts_1 vm h) (hEL : EW Z a0 consts_1) :
    Pay l R p e below s args Z consts_1 vm h (⟨"java/lang/String", "<init>", "([C)V"⟩ : MethodName) len W #[.ref x, .ref b] 4 8 (fun v _ h' => ∃ (t : Addr), v = none ∧ Keep h h' [x] ∧ Str Z h' x t cs) := by
  obtain ⟨hw, -, ⟨zc, Scs, hzc⟩, -⟩ := id cx
  obtain ⟨kc, K1, K2, K3⟩ := K
  by_cases hcs : cs = []
  · subst hcs
    exact ((Pay.of_met (W := W) (own_emp1 l Z a0 cx [] x b v0 c0 kc vm h O E V C gx0 Sf K1) (ow hw 13 rfl) (ow hw 10 rfl) (by show 2 + 1 ≤ R.frames; omega) (by show W + (2 + 11) + 29 ≤ R.locals; omega) hZ H hEL).mono fun v vm' h' q => by
      obtain ⟨t, q1, q2, q3, q4⟩ := q; exact ⟨t, q1, q2, q3⟩).weaken (by decide) (by decide)
  · have hpos : 0 < cs.length := List.length_pos_iff.mpr hcs
    exact ((own_payNew (W := W) (own_wNew hw) (ow hw 9 rfl) Scs hzc O (cs := cs) (n := cs.length) gx0 E V C K1 rfl rfl hpos (by omega) K2 Sf hfr (by omega) hZ H hEL).mono fun v vm' h' q => by
      obtain ⟨t, q1, q2, q3, q4⟩ := q; exact ⟨t, q1, q2, q4⟩).weaken (by decide) (Nat.le_trans hl (by decide))
theorem own_pd157 : parseMethodDescriptor "(I)[C" = some ⟨[.int], some (.array .char)⟩ := by decide +kernel
theorem own_pd158 : parseMethodDescriptor "(I[C[C[C[C)[C" = some ⟨[.int, (.array .char), (.array .char), (.array .char), (.array .char)], some (.array .char)⟩ := by decide +kernel
theorem own_pd159 : parseMethodDescriptor "([C)V" = some ⟨[(.array .char)], none⟩ := by decide +kernel
theorem own_pd160 : parseMethodDescriptor "(Ljava/lang/String;Ljava/lang/String;Ljava/lang/String;)V" = some ⟨[(.object "java/lang/String"), (.object "java/lang/String"), (.object "java/lang/String")], none⟩ := by decide +kernel
theorem own_pd161 : parseMethodDescriptor "(Ljava/lang/String;Ljava/lang/String;)Z" = some ⟨[(.object "java/lang/String"), (.object "java/lang/String")], some .boolean⟩ := by decide +kernel
theorem own_pd162 : parseMethodDescriptor "([C[C)Z" = some ⟨[(.array .char), (.array .char)], some .boolean⟩ := by decide +kernel
set_option maxRecDepth 65536 in
set_option maxHeartbeats 40000000 in
theorem own_law (l : Launch) (Z : State) (a0 : Array Value) (cx : Ctx Z a0) (ws : List Jvm.Cond) (x0 : Int32) (x1 : Int32) (x2 : Int32) (x3 : Int32) (x4 : Int32) (x5 : Int32) (vm0 : Vm) (h0 : Heap) (X00 : Ext Z.heap h0)  :
    Met l x code maxLocals ret ws room_1 Z consts_1 vm0 h0 #[(.int x0), (.int x1), (.int x2), (.int x3), (.int x4), (.int x5)] (fun v vm h => v = some (.int (1 : Int32)) ∧ Keep h0 h []) := by
  obtain ⟨hw, hEL, ⟨zc, Scs, hzc⟩, ⟨fm, Sfm, hfm⟩⟩ := id cx
  have hSA := own_SA hw
  refine Met.of_walk (a0 := a0) #[.val (.int x0), .val (.int x1), .val (.int x2), .val (.int x3), .val (.int x4), .val (.int x5), .unset, .unset, .unset, .unset, .unset, .unset, .unset, .unset, .unset, .unset, .unset, .unset, .unset, .unset, .unset] (plainFor_of_name own_pn64) X00 hEL (fun m => by first | (simp [entryFrame, mkF, argsToLocals, Value.category, maxLocals]; done) | rfl) ?_
  intro p e s m below meth c vm hx hby hml hret hnm hC0
  refine gs (mkF m 1 #[.val (.int x0), .val (.int x1), .val (.int x2), .val (.int x3), .val (.int x4), .val (.int x5), .unset, .unset, .unset, .unset, .unset, .unset, .unset, .unset, .unset, .unset, .unset, .unset, .unset, .unset, .unset] [(.int x0)]) (fun _ _ A k => XS.iloadN A hx rfl (hb hby at_0) rfl  k) ?_
  refine ginfo fun _ _ O1 => ?_
  refine gcallS (y := (⟨"com/example/backfill/backfill/migration/NotNullCheckReadsPinLaw", "draw", "(I)[C"⟩ : MethodName)) hx (ow hw 0 rfl) (ow hw 1 rfl) (ow hw 2 rfl) (ow hw 3 rfl) (by decide) (fun hZ H hEL => Pay.of_met (W := 0) (own_draw l Z a0 cx [] (x0) vm h0 O1 ) (ow hw 3 rfl) (ow hw 2 rfl) (by decide) (by decide) hZ H hEL) 4 (argsL := [(.int x0)]) (rest := []) (lenOf own_pd157 rfl) rfl rfl (Nat.le_of_eq rfl) (by rw [hml]; rfl) (hb hby at_1) rfl (by decide) (by decide) ?_
  rintro _ vm1 h1 C1 ⟨b1, cs1, rfl, K1, q1_0, q1_1, q1_2⟩
  have z1 := C1.2.1
  have lt_b1 : h1.size > b1 := q1_1.lt
  refine gat (mkF m 4 #[.val (.int x0), .val (.int x1), .val (.int x2), .val (.int x3), .val (.int x4), .val (.int x5), .unset, .unset, .unset, .unset, .unset, .unset, .unset, .unset, .unset, .unset, .unset, .unset, .unset, .unset, .unset] [(.ref b1)]) rfl ?_
  refine gs (mkF m 6 #[.val (.int x0), .val (.int x1), .val (.int x2), .val (.int x3), .val (.int x4), .val (.int x5), .val (.ref b1), .unset, .unset, .unset, .unset, .unset, .unset, .unset, .unset, .unset, .unset, .unset, .unset, .unset, .unset] []) (fun _ _ A k => XS.astore A hx rfl (hb hby at_4) rfl rfl (l' := #[.val (.int x0), .val (.int x1), .val (.int x2), .val (.int x3), .val (.int x4), .val (.int x5), .val (.ref b1), .unset, .unset, .unset, .unset, .unset, .unset, .unset, .unset, .unset, .unset, .unset, .unset, .unset, .unset]) rfl k) ?_
  refine gs (mkF m 7 #[.val (.int x0), .val (.int x1), .val (.int x2), .val (.int x3), .val (.int x4), .val (.int x5), .val (.ref b1), .unset, .unset, .unset, .unset, .unset, .unset, .unset, .unset, .unset, .unset, .unset, .unset, .unset, .unset] [(.int x1)]) (fun _ _ A k => XS.iloadN A hx rfl (hb hby at_6) rfl  k) ?_
  refine ginfo fun _ _ O2 => ?_
  refine gcallS (y := (⟨"com/example/backfill/backfill/migration/NotNullCheckReadsPinLaw", "draw", "(I)[C"⟩ : MethodName)) hx (ow hw 0 rfl) (ow hw 1 rfl) (ow hw 2 rfl) (ow hw 3 rfl) (by decide) (fun hZ H hEL => Pay.of_met (W := 0) (own_draw l Z a0 cx [] (x1) vm1 h1 O2 ) (ow hw 3 rfl) (ow hw 2 rfl) (by decide) (by decide) hZ H hEL) 10 (argsL := [(.int x1)]) (rest := []) (lenOf own_pd157 rfl) rfl rfl (Nat.le_of_eq rfl) (by rw [hml]; rfl) (hb hby at_7) rfl (by decide) (by decide) ?_
  rintro _ vm2 h2 C2 ⟨b2, cs2, rfl, K2, q2_0, q2_1, q2_2⟩
  have z2 := C2.2.1
  have lt_b2 : h2.size > b2 := q2_1.lt
  refine gat (mkF m 10 #[.val (.int x0), .val (.int x1), .val (.int x2), .val (.int x3), .val (.int x4), .val (.int x5), .val (.ref b1), .unset, .unset, .unset, .unset, .unset, .unset, .unset, .unset, .unset, .unset, .unset, .unset, .unset, .unset] [(.ref b2)]) rfl ?_
  refine gs (mkF m 12 #[.val (.int x0), .val (.int x1), .val (.int x2), .val (.int x3), .val (.int x4), .val (.int x5), .val (.ref b1), .val (.ref b2), .unset, .unset, .unset, .unset, .unset, .unset, .unset, .unset, .unset, .unset, .unset, .unset, .unset] []) (fun _ _ A k => XS.astore A hx rfl (hb hby at_10) rfl rfl (l' := #[.val (.int x0), .val (.int x1), .val (.int x2), .val (.int x3), .val (.int x4), .val (.int x5), .val (.ref b1), .val (.ref b2), .unset, .unset, .unset, .unset, .unset, .unset, .unset, .unset, .unset, .unset, .unset, .unset, .unset]) rfl k) ?_
  refine gs (mkF m 13 #[.val (.int x0), .val (.int x1), .val (.int x2), .val (.int x3), .val (.int x4), .val (.int x5), .val (.ref b1), .val (.ref b2), .unset, .unset, .unset, .unset, .unset, .unset, .unset, .unset, .unset, .unset, .unset, .unset, .unset] [(.int x2)]) (fun _ _ A k => XS.iloadN A hx rfl (hb hby at_12) rfl  k) ?_
  refine ginfo fun _ _ O3 => ?_
  refine gcallS (y := (⟨"com/example/backfill/backfill/migration/NotNullCheckReadsPinLaw", "draw", "(I)[C"⟩ : MethodName)) hx (ow hw 0 rfl) (ow hw 1 rfl) (ow hw 2 rfl) (ow hw 3 rfl) (by decide) (fun hZ H hEL => Pay.of_met (W := 0) (own_draw l Z a0 cx [] (x2) vm2 h2 O3 ) (ow hw 3 rfl) (ow hw 2 rfl) (by decide) (by decide) hZ H hEL) 16 (argsL := [(.int x2)]) (rest := []) (lenOf own_pd157 rfl) rfl rfl (Nat.le_of_eq rfl) (by rw [hml]; rfl) (hb hby at_13) rfl (by decide) (by decide) ?_
  rintro _ vm3 h3 C3 ⟨b3, cs3, rfl, K3, q3_0, q3_1, q3_2⟩
  have z3 := C3.2.1
  have lt_b3 : h3.size > b3 := q3_1.lt
  refine gat (mkF m 16 #[.val (.int x0), .val (.int x1), .val (.int x2), .val (.int x3), .val (.int x4), .val (.int x5), .val (.ref b1), .val (.ref b2), .unset, .unset, .unset, .unset, .unset, .unset, .unset, .unset, .unset, .unset, .unset, .unset, .unset] [(.ref b3)]) rfl ?_
  refine gs (mkF m 18 #[.val (.int x0), .val (.int x1), .val (.int x2), .val (.int x3), .val (.int x4), .val (.int x5), .val (.ref b1), .val (.ref b2), .val (.ref b3), .unset, .unset, .unset, .unset, .unset, .unset, .unset, .unset, .unset, .unset, .unset, .unset] []) (fun _ _ A k => XS.astore A hx rfl (hb hby at_16) rfl rfl (l' := #[.val (.int x0), .val (.int x1), .val (.int x2), .val (.int x3), .val (.int x4), .val (.int x5), .val (.ref b1), .val (.ref b2), .val (.ref b3), .unset, .unset, .unset, .unset, .unset, .unset, .unset, .unset, .unset, .unset, .unset, .unset]) rfl k) ?_
  refine gs (mkF m 20 #[.val (.int x0), .val (.int x1), .val (.int x2), .val (.int x3), .val (.int x4), .val (.int x5), .val (.ref b1), .val (.ref b2), .val (.ref b3), .unset, .unset, .unset, .unset, .unset, .unset, .unset, .unset, .unset, .unset, .unset, .unset] [(.int x4)]) (fun _ _ A k => XS.iload A hx rfl (hb hby at_18) rfl  k) ?_
  refine ginfo fun _ _ O4 => ?_
  refine gcallS (y := (⟨"com/example/backfill/backfill/migration/NotNullCheckReadsPinLaw", "draw", "(I)[C"⟩ : MethodName)) hx (ow hw 0 rfl) (ow hw 1 rfl) (ow hw 2 rfl) (ow hw 3 rfl) (by decide) (fun hZ H hEL => Pay.of_met (W := 0) (own_draw l Z a0 cx [] (x4) vm3 h3 O4 ) (ow hw 3 rfl) (ow hw 2 rfl) (by decide) (by decide) hZ H hEL) 23 (argsL := [(.int x4)]) (rest := []) (lenOf own_pd157 rfl) rfl rfl (Nat.le_of_eq rfl) (by rw [hml]; rfl) (hb hby at_20) rfl (by decide) (by decide) ?_
  rintro _ vm4 h4 C4 ⟨b4, cs4, rfl, K4, q4_0, q4_1, q4_2⟩
  have z4 := C4.2.1
  have lt_b4 : h4.size > b4 := q4_1.lt
  refine gat (mkF m 23 #[.val (.int x0), .val (.int x1), .val (.int x2), .val (.int x3), .val (.int x4), .val (.int x5), .val (.ref b1), .val (.ref b2), .val (.ref b3), .unset, .unset, .unset, .unset, .unset, .unset, .unset, .unset, .unset, .unset, .unset, .unset] [(.ref b4)]) rfl ?_
  refine gs (mkF m 25 #[.val (.int x0), .val (.int x1), .val (.int x2), .val (.int x3), .val (.int x4), .val (.int x5), .val (.ref b1), .val (.ref b2), .val (.ref b3), .val (.ref b4), .unset, .unset, .unset, .unset, .unset, .unset, .unset, .unset, .unset, .unset, .unset] []) (fun _ _ A k => XS.astore A hx rfl (hb hby at_23) rfl rfl (l' := #[.val (.int x0), .val (.int x1), .val (.int x2), .val (.int x3), .val (.int x4), .val (.int x5), .val (.ref b1), .val (.ref b2), .val (.ref b3), .val (.ref b4), .unset, .unset, .unset, .unset, .unset, .unset, .unset, .unset, .unset, .unset, .unset]) rfl k) ?_
  refine gs (mkF m 27 #[.val (.int x0), .val (.int x1), .val (.int x2), .val (.int x3), .val (.int x4), .val (.int x5), .val (.ref b1), .val (.ref b2), .val (.ref b3), .val (.ref b4), .unset, .unset, .unset, .unset, .unset, .unset, .unset, .unset, .unset, .unset, .unset] [(.int x5)]) (fun _ _ A k => XS.iload A hx rfl (hb hby at_25) rfl  k) ?_
  refine ginfo fun _ _ O5 => ?_
  refine gcallS (y := (⟨"com/example/backfill/backfill/migration/NotNullCheckReadsPinLaw", "draw", "(I)[C"⟩ : MethodName)) hx (ow hw 0 rfl) (ow hw 1 rfl) (ow hw 2 rfl) (ow hw 3 rfl) (by decide) (fun hZ H hEL => Pay.of_met (W := 0) (own_draw l Z a0 cx [] (x5) vm4 h4 O5 ) (ow hw 3 rfl) (ow hw 2 rfl) (by decide) (by decide) hZ H hEL) 30 (argsL := [(.int x5)]) (rest := []) (lenOf own_pd157 rfl) rfl rfl (Nat.le_of_eq rfl) (by rw [hml]; rfl) (hb hby at_27) rfl (by decide) (by decide) ?_
  rintro _ vm5 h5 C5 ⟨b5, cs5, rfl, K5, q5_0, q5_1, q5_2⟩
  have z5 := C5.2.1
  have lt_b5 : h5.size > b5 := q5_1.lt
  refine gat (mkF m 30 #[.val (.int x0), .val (.int x1), .val (.int x2), .val (.int x3), .val (.int x4), .val (.int x5), .val (.ref b1), .val (.ref b2), .val (.ref b3), .val (.ref b4), .unset, .unset, .unset, .unset, .unset, .unset, .unset, .unset, .unset, .unset, .unset] [(.ref b5)]) rfl ?_
  refine gs (mkF m 32 #[.val (.int x0), .val (.int x1), .val (.int x2), .val (.int x3), .val (.int x4), .val (.int x5), .val (.ref b1), .val (.ref b2), .val (.ref b3), .val (.ref b4), .val (.ref b5), .unset, .unset, .unset, .unset, .unset, .unset, .unset, .unset, .unset, .unset] []) (fun _ _ A k => XS.astore A hx rfl (hb hby at_30) rfl rfl (l' := #[.val (.int x0), .val (.int x1), .val (.int x2), .val (.int x3), .val (.int x4), .val (.int x5), .val (.ref b1), .val (.ref b2), .val (.ref b3), .val (.ref b4), .val (.ref b5), .unset, .unset, .unset, .unset, .unset, .unset, .unset, .unset, .unset, .unset]) rfl k) ?_
  refine gs (mkF m 33 #[.val (.int x0), .val (.int x1), .val (.int x2), .val (.int x3), .val (.int x4), .val (.int x5), .val (.ref b1), .val (.ref b2), .val (.ref b3), .val (.ref b4), .val (.ref b5), .unset, .unset, .unset, .unset, .unset, .unset, .unset, .unset, .unset, .unset] [(.int x3)]) (fun _ _ A k => XS.iloadN A hx rfl (hb hby at_32) rfl  k) ?_
  refine gs (mkF m 34 #[.val (.int x0), .val (.int x1), .val (.int x2), .val (.int x3), .val (.int x4), .val (.int x5), .val (.ref b1), .val (.ref b2), .val (.ref b3), .val (.ref b4), .val (.ref b5), .unset, .unset, .unset, .unset, .unset, .unset, .unset, .unset, .unset, .unset] [(.int (3 : Int32)), (.int x3)]) (fun _ _ A k => XS.iconst A hx rfl (hb hby at_33) k) ?_
  refine gs (mkF m 35 #[.val (.int x0), .val (.int x1), .val (.int x2), .val (.int x3), .val (.int x4), .val (.int x5), .val (.ref b1), .val (.ref b2), .val (.ref b3), .val (.ref b4), .val (.ref b5), .unset, .unset, .unset, .unset, .unset, .unset, .unset, .unset, .unset, .unset] [(.int (x3 &&& (3 : Int32)))]) (fun _ _ A k => XS.iand A hx rfl (hb hby at_34) rfl k) ?_
  refine gs (mkF m 37 #[.val (.int x0), .val (.int x1), .val (.int x2), .val (.int x3), .val (.int x4), .val (.int x5), .val (.ref b1), .val (.ref b2), .val (.ref b3), .val (.ref b4), .val (.ref b5), .unset, .unset, .unset, .unset, .unset, .unset, .unset, .unset, .unset, .unset] [(.ref b1), (.int (x3 &&& (3 : Int32)))]) (fun _ _ A k => XS.aload A hx rfl (hb hby at_35) rfl rfl k) ?_
  refine gs (mkF m 39 #[.val (.int x0), .val (.int x1), .val (.int x2), .val (.int x3), .val (.int x4), .val (.int x5), .val (.ref b1), .val (.ref b2), .val (.ref b3), .val (.ref b4), .val (.ref b5), .unset, .unset, .unset, .unset, .unset, .unset, .unset, .unset, .unset, .unset] [(.ref b2), (.ref b1), (.int (x3 &&& (3 : Int32)))]) (fun _ _ A k => XS.aload A hx rfl (hb hby at_37) rfl rfl k) ?_
  refine gs (mkF m 41 #[.val (.int x0), .val (.int x1), .val (.int x2), .val (.int x3), .val (.int x4), .val (.int x5), .val (.ref b1), .val (.ref b2), .val (.ref b3), .val (.ref b4), .val (.ref b5), .unset, .unset, .unset, .unset, .unset, .unset, .unset, .unset, .unset, .unset] [(.ref b3), (.ref b2), (.ref b1), (.int (x3 &&& (3 : Int32)))]) (fun _ _ A k => XS.aload A hx rfl (hb hby at_39) rfl rfl k) ?_
  refine gs (mkF m 43 #[.val (.int x0), .val (.int x1), .val (.int x2), .val (.int x3), .val (.int x4), .val (.int x5), .val (.ref b1), .val (.ref b2), .val (.ref b3), .val (.ref b4), .val (.ref b5), .unset, .unset, .unset, .unset, .unset, .unset, .unset, .unset, .unset, .unset] [(.ref b4), (.ref b3), (.ref b2), (.ref b1), (.int (x3 &&& (3 : Int32)))]) (fun _ _ A k => XS.aload A hx rfl (hb hby at_41) rfl rfl k) ?_
  have f7 := ((((q1_1.keep K2 nin0).keep K3 nin0).keep K4 nin0).keep K5 nin0)
  have f8 := (((q2_1.keep K3 nin0).keep K4 nin0).keep K5 nin0)
  have f9 := ((q3_1.keep K4 nin0).keep K5 nin0)
  have f10 := (q4_1.keep K5 nin0)
  refine ginfo fun _ _ O6 => ?_
  refine gcallS (y := (⟨"com/example/backfill/backfill/migration/NotNullCheckReadsPinLaw", "pick", "(I[C[C[C[C)[C"⟩ : MethodName)) hx (ow hw 5 rfl) (ow hw 6 rfl) (ow hw 2 rfl) (ow hw 7 rfl) (by decide) (fun hZ H hEL => Pay.of_met (W := 0) (own_pick l Z a0 cx [] ((x3 &&& (3 : Int32))) (b1) (b2) (b3) (b4) (cs1) (cs2) (cs3) (cs4) vm5 h5 O6 f7 f8 f9 f10 (by first | assumption | decide | omega) (by first | assumption | decide | omega) (by first | assumption | decide | omega) (by first | assumption | decide | omega)) (ow hw 7 rfl) (ow hw 2 rfl) (by decide) (by decide) hZ H hEL) 46 (argsL := [(.int (x3 &&& (3 : Int32))), (.ref b1), (.ref b2), (.ref b3), (.ref b4)]) (rest := []) (lenOf own_pd158 rfl) rfl rfl (Nat.le_of_eq rfl) (by rw [hml]; rfl) (hb hby at_43) rfl (by decide) (by decide) ?_
  rintro _ vm6 h6 C6 ⟨r6, cs6, rfl, rfl, q6_0, q6_1, q6_2⟩
  have z6 := C6.2.1
  have lt_r6 : h5.size > r6 := q6_0.lt
  refine gat (mkF m 46 #[.val (.int x0), .val (.int x1), .val (.int x2), .val (.int x3), .val (.int x4), .val (.int x5), .val (.ref b1), .val (.ref b2), .val (.ref b3), .val (.ref b4), .val (.ref b5), .unset, .unset, .unset, .unset, .unset, .unset, .unset, .unset, .unset, .unset] [(.ref r6)]) rfl ?_
  refine gs (mkF m 48 #[.val (.int x0), .val (.int x1), .val (.int x2), .val (.int x3), .val (.int x4), .val (.int x5), .val (.ref b1), .val (.ref b2), .val (.ref b3), .val (.ref b4), .val (.ref b5), .val (.ref r6), .unset, .unset, .unset, .unset, .unset, .unset, .unset, .unset, .unset] []) (fun _ _ A k => XS.astore A hx rfl (hb hby at_46) rfl rfl (l' := #[.val (.int x0), .val (.int x1), .val (.int x2), .val (.int x3), .val (.int x4), .val (.int x5), .val (.ref b1), .val (.ref b2), .val (.ref b3), .val (.ref b4), .val (.ref b5), .val (.ref r6), .unset, .unset, .unset, .unset, .unset, .unset, .unset, .unset, .unset]) rfl k) ?_
  refine gs (mkF m 49 #[.val (.int x0), .val (.int x1), .val (.int x2), .val (.int x3), .val (.int x4), .val (.int x5), .val (.ref b1), .val (.ref b2), .val (.ref b3), .val (.ref b4), .val (.ref b5), .val (.ref r6), .unset, .unset, .unset, .unset, .unset, .unset, .unset, .unset, .unset] [(.int x3)]) (fun _ _ A k => XS.iloadN A hx rfl (hb hby at_48) rfl  k) ?_
  refine gs (mkF m 50 #[.val (.int x0), .val (.int x1), .val (.int x2), .val (.int x3), .val (.int x4), .val (.int x5), .val (.ref b1), .val (.ref b2), .val (.ref b3), .val (.ref b4), .val (.ref b5), .val (.ref r6), .unset, .unset, .unset, .unset, .unset, .unset, .unset, .unset, .unset] [(.int (2 : Int32)), (.int x3)]) (fun _ _ A k => XS.iconst A hx rfl (hb hby at_49) k) ?_
  refine gs (mkF m 51 #[.val (.int x0), .val (.int x1), .val (.int x2), .val (.int x3), .val (.int x4), .val (.int x5), .val (.ref b1), .val (.ref b2), .val (.ref b3), .val (.ref b4), .val (.ref b5), .val (.ref r6), .unset, .unset, .unset, .unset, .unset, .unset, .unset, .unset, .unset] [(.int ((x3.toUInt32 >>> ((2 : Int32) &&& 31).toUInt32).toInt32))]) (fun _ _ A k => XS.iushr A hx rfl (hb hby at_50) rfl k) ?_
  refine gs (mkF m 52 #[.val (.int x0), .val (.int x1), .val (.int x2), .val (.int x3), .val (.int x4), .val (.int x5), .val (.ref b1), .val (.ref b2), .val (.ref b3), .val (.ref b4), .val (.ref b5), .val (.ref r6), .unset, .unset, .unset, .unset, .unset, .unset, .unset, .unset, .unset] [(.int (3 : Int32)), (.int ((x3.toUInt32 >>> ((2 : Int32) &&& 31).toUInt32).toInt32))]) (fun _ _ A k => XS.iconst A hx rfl (hb hby at_51) k) ?_
  refine gs (mkF m 53 #[.val (.int x0), .val (.int x1), .val (.int x2), .val (.int x3), .val (.int x4), .val (.int x5), .val (.ref b1), .val (.ref b2), .val (.ref b3), .val (.ref b4), .val (.ref b5), .val (.ref r6), .unset, .unset, .unset, .unset, .unset, .unset, .unset, .unset, .unset] [(.int (((x3.toUInt32 >>> ((2 : Int32) &&& 31).toUInt32).toInt32) &&& (3 : Int32)))]) (fun _ _ A k => XS.iand A hx rfl (hb hby at_52) rfl k) ?_
  refine gs (mkF m 55 #[.val (.int x0), .val (.int x1), .val (.int x2), .val (.int x3), .val (.int x4), .val (.int x5), .val (.ref b1), .val (.ref b2), .val (.ref b3), .val (.ref b4), .val (.ref b5), .val (.ref r6), .unset, .unset, .unset, .unset, .unset, .unset, .unset, .unset, .unset] [(.ref b2), (.int (((x3.toUInt32 >>> ((2 : Int32) &&& 31).toUInt32).toInt32) &&& (3 : Int32)))]) (fun _ _ A k => XS.aload A hx rfl (hb hby at_53) rfl rfl k) ?_
  refine gs (mkF m 57 #[.val (.int x0), .val (.int x1), .val (.int x2), .val (.int x3), .val (.int x4), .val (.int x5), .val (.ref b1), .val (.ref b2), .val (.ref b3), .val (.ref b4), .val (.ref b5), .val (.ref r6), .unset, .unset, .unset, .unset, .unset, .unset, .unset, .unset, .unset] [(.ref b1), (.ref b2), (.int (((x3.toUInt32 >>> ((2 : Int32) &&& 31).toUInt32).toInt32) &&& (3 : Int32)))]) (fun _ _ A k => XS.aload A hx rfl (hb hby at_55) rfl rfl k) ?_
  refine gs (mkF m 59 #[.val (.int x0), .val (.int x1), .val (.int x2), .val (.int x3), .val (.int x4), .val (.int x5), .val (.ref b1), .val (.ref b2), .val (.ref b3), .val (.ref b4), .val (.ref b5), .val (.ref r6), .unset, .unset, .unset, .unset, .unset, .unset, .unset, .unset, .unset] [(.ref b3), (.ref b1), (.ref b2), (.int (((x3.toUInt32 >>> ((2 : Int32) &&& 31).toUInt32).toInt32) &&& (3 : Int32)))]) (fun _ _ A k => XS.aload A hx rfl (hb hby at_57) rfl rfl k) ?_
  refine gs (mkF m 61 #[.val (.int x0), .val (.int x1), .val (.int x2), .val (.int x3), .val (.int x4), .val (.int x5), .val (.ref b1), .val (.ref b2), .val (.ref b3), .val (.ref b4), .val (.ref b5), .val (.ref r6), .unset, .unset, .unset, .unset, .unset, .unset, .unset, .unset, .unset] [(.ref b5), (.ref b3), (.ref b1), (.ref b2), (.int (((x3.toUInt32 >>> ((2 : Int32) &&& 31).toUInt32).toInt32) &&& (3 : Int32)))]) (fun _ _ A k => XS.aload A hx rfl (hb hby at_59) rfl rfl k) ?_
  refine ginfo fun _ _ O11 => ?_
  refine gcallS (y := (⟨"com/example/backfill/backfill/migration/NotNullCheckReadsPinLaw", "pick", "(I[C[C[C[C)[C"⟩ : MethodName)) hx (ow hw 5 rfl) (ow hw 6 rfl) (ow hw 2 rfl) (ow hw 7 rfl) (by decide) (fun hZ H hEL => Pay.of_met (W := 0) (own_pick l Z a0 cx [] ((((x3.toUInt32 >>> ((2 : Int32) &&& 31).toUInt32).toInt32) &&& (3 : Int32))) (b2) (b1) (b3) (b5) (cs2) (cs1) (cs3) (cs5) vm6 h5 O11 f8 f7 f9 q5_1 (by first | assumption | decide | omega) (by first | assumption | decide | omega) (by first | assumption | decide | omega) (by first | assumption | decide | omega)) (ow hw 7 rfl) (ow hw 2 rfl) (by decide) (by decide) hZ H hEL) 64 (argsL := [(.int (((x3.toUInt32 >>> ((2 : Int32) &&& 31).toUInt32).toInt32) &&& (3 : Int32))), (.ref b2), (.ref b1), (.ref b3), (.ref b5)]) (rest := []) (lenOf own_pd158 rfl) rfl rfl (Nat.le_of_eq rfl) (by rw [hml]; rfl) (hb hby at_61) rfl (by decide) (by decide) ?_
  rintro _ vm11 h11 C11 ⟨r11, cs11, rfl, rfl, q11_0, q11_1, q11_2⟩
  have z11 := C11.2.1
  have lt_r11 : h5.size > r11 := q11_0.lt
  refine gat (mkF m 64 #[.val (.int x0), .val (.int x1), .val (.int x2), .val (.int x3), .val (.int x4), .val (.int x5), .val (.ref b1), .val (.ref b2), .val (.ref b3), .val (.ref b4), .val (.ref b5), .val (.ref r6), .unset, .unset, .unset, .unset, .unset, .unset, .unset, .unset, .unset] [(.ref r11)]) rfl ?_
  refine gs (mkF m 66 #[.val (.int x0), .val (.int x1), .val (.int x2), .val (.int x3), .val (.int x4), .val (.int x5), .val (.ref b1), .val (.ref b2), .val (.ref b3), .val (.ref b4), .val (.ref b5), .val (.ref r6), .val (.ref r11), .unset, .unset, .unset, .unset, .unset, .unset, .unset, .unset] []) (fun _ _ A k => XS.astore A hx rfl (hb hby at_64) rfl rfl (l' := #[.val (.int x0), .val (.int x1), .val (.int x2), .val (.int x3), .val (.int x4), .val (.int x5), .val (.ref b1), .val (.ref b2), .val (.ref b3), .val (.ref b4), .val (.ref b5), .val (.ref r6), .val (.ref r11), .unset, .unset, .unset, .unset, .unset, .unset, .unset, .unset]) rfl k) ?_
  refine gnewO hx (ow hw 8 rfl) (ow hw 9 rfl) (ow hw 10 rfl) 69 (hb hby at_66) rfl (by decide) (by decide) ?_
  intro b12 h12 g12 E12 C12 A12 D12 n12 L12
  have z12 := C12.2.1
  have lt_b12 : h12.size > b12 := A12.lt
  have F12_value : Fld Z h12 b12 "java/lang/String" "value" "[B" .null := D12 (Or.inr (ow hw 23 rfl)) (ty := (.array .byte)) (by decide)
  have F12_coder : Fld Z h12 b12 "java/lang/String" "coder" "B" (.int (0 : Int32)) := D12 (Or.inr (ow hw 24 rfl)) (ty := .byte) (by decide)
  refine gs (mkF m 70 #[.val (.int x0), .val (.int x1), .val (.int x2), .val (.int x3), .val (.int x4), .val (.int x5), .val (.ref b1), .val (.ref b2), .val (.ref b3), .val (.ref b4), .val (.ref b5), .val (.ref r6), .val (.ref r11), .unset, .unset, .unset, .unset, .unset, .unset, .unset, .unset] [(.ref b12), (.ref b12)]) (fun _ _ A k => XS.dup A hx rfl (hb hby at_69) rfl rfl k) ?_
  refine gs (mkF m 72 #[.val (.int x0), .val (.int x1), .val (.int x2), .val (.int x3), .val (.int x4), .val (.int x5), .val (.ref b1), .val (.ref b2), .val (.ref b3), .val (.ref b4), .val (.ref b5), .val (.ref r6), .val (.ref r11), .unset, .unset, .unset, .unset, .unset, .unset, .unset, .unset] [(.ref b1), (.ref b12), (.ref b12)]) (fun _ _ A k => XS.aload A hx rfl (hb hby at_70) rfl rfl k) ?_
  have f14 := (f7.ext E12)
  refine ginfo fun _ _ O13 => ?_
  refine gcallI (y := (⟨"java/lang/String", "<init>", "([C)V"⟩ : MethodName)) hx rfl (ow hw 11 rfl) (ow hw 12 rfl) (ow hw 13 rfl) (by decide) (fun hZ H hEL => own_payStr (W := 1) cx O13 n12 A12 F12_value F12_coder f14 (by assumption) L12 (by decide) (by decide) hZ H hEL) (a := b12) 75 (argsL := [(.ref b1)]) (rest := [(.ref b12)]) (lenOf own_pd159 rfl) rfl rfl (Nat.le_of_eq rfl) (by rw [hml]; rfl) (hb hby at_72) rfl (by decide) (by decide) ?_
  rintro _ vm13 h13 C13 ⟨t13, rfl, K13, S13⟩
  have z13 := C13.2.1
  have lt_t13 : h13.size > t13 := S13.tlt
  refine gat (mkF m 75 #[.val (.int x0), .val (.int x1), .val (.int x2), .val (.int x3), .val (.int x4), .val (.int x5), .val (.ref b1), .val (.ref b2), .val (.ref b3), .val (.ref b4), .val (.ref b5), .val (.ref r6), .val (.ref r11), .unset, .unset, .unset, .unset, .unset, .unset, .unset, .unset] [(.ref b12)]) rfl ?_
  refine gs (mkF m 77 #[.val (.int x0), .val (.int x1), .val (.int x2), .val (.int x3), .val (.int x4), .val (.int x5), .val (.ref b1), .val (.ref b2), .val (.ref b3), .val (.ref b4), .val (.ref b5), .val (.ref r6), .val (.ref r11), .val (.ref b12), .unset, .unset, .unset, .unset, .unset, .unset, .unset] []) (fun _ _ A k => XS.astore A hx rfl (hb hby at_75) rfl rfl (l' := #[.val (.int x0), .val (.int x1), .val (.int x2), .val (.int x3), .val (.int x4), .val (.int x5), .val (.ref b1), .val (.ref b2), .val (.ref b3), .val (.ref b4), .val (.ref b5), .val (.ref r6), .val (.ref r11), .val (.ref b12), .unset, .unset, .unset, .unset, .unset, .unset, .unset]) rfl k) ?_
  refine gnewO hx (ow hw 8 rfl) (ow hw 9 rfl) (ow hw 10 rfl) 80 (hb hby at_77) rfl (by decide) (by decide) ?_
  intro b15 h15 g15 E15 C15 A15 D15 n15 L15
  have z15 := C15.2.1
  have lt_b15 : h15.size > b15 := A15.lt
  have F15_value : Fld Z h15 b15 "java/lang/String" "value" "[B" .null := D15 (Or.inr (ow hw 23 rfl)) (ty := (.array .byte)) (by decide)
  have F15_coder : Fld Z h15 b15 "java/lang/String" "coder" "B" (.int (0 : Int32)) := D15 (Or.inr (ow hw 24 rfl)) (ty := .byte) (by decide)
  refine gs (mkF m 81 #[.val (.int x0), .val (.int x1), .val (.int x2), .val (.int x3), .val (.int x4), .val (.int x5), .val (.ref b1), .val (.ref b2), .val (.ref b3), .val (.ref b4), .val (.ref b5), .val (.ref r6), .val (.ref r11), .val (.ref b12), .unset, .unset, .unset, .unset, .unset, .unset, .unset] [(.ref b15), (.ref b15)]) (fun _ _ A k => XS.dup A hx rfl (hb hby at_80) rfl rfl k) ?_
  refine gs (mkF m 83 #[.val (.int x0), .val (.int x1), .val (.int x2), .val (.int x3), .val (.int x4), .val (.int x5), .val (.ref b1), .val (.ref b2), .val (.ref b3), .val (.ref b4), .val (.ref b5), .val (.ref r6), .val (.ref r11), .val (.ref b12), .unset, .unset, .unset, .unset, .unset, .unset, .unset] [(.ref b2), (.ref b15), (.ref b15)]) (fun _ _ A k => XS.aload A hx rfl (hb hby at_81) rfl rfl k) ?_
  have f17 := (((f8.ext E12).keep K13 (ninS (Nat.ne_of_lt (by omega)) nin0)).ext E15)
  refine ginfo fun _ _ O16 => ?_
  refine gcallI (y := (⟨"java/lang/String", "<init>", "([C)V"⟩ : MethodName)) hx rfl (ow hw 11 rfl) (ow hw 12 rfl) (ow hw 13 rfl) (by decide) (fun hZ H hEL => own_payStr (W := 1) cx O16 n15 A15 F15_value F15_coder f17 (by assumption) L15 (by decide) (by decide) hZ H hEL) (a := b15) 86 (argsL := [(.ref b2)]) (rest := [(.ref b15)]) (lenOf own_pd159 rfl) rfl rfl (Nat.le_of_eq rfl) (by rw [hml]; rfl) (hb hby at_83) rfl (by decide) (by decide) ?_
  rintro _ vm16 h16 C16 ⟨t16, rfl, K16, S16⟩
  have z16 := C16.2.1
  have lt_t16 : h16.size > t16 := S16.tlt
  refine gat (mkF m 86 #[.val (.int x0), .val (.int x1), .val (.int x2), .val (.int x3), .val (.int x4), .val (.int x5), .val (.ref b1), .val (.ref b2), .val (.ref b3), .val (.ref b4), .val (.ref b5), .val (.ref r6), .val (.ref r11), .val (.ref b12), .unset, .unset, .unset, .unset, .unset, .unset, .unset] [(.ref b15)]) rfl ?_
  refine gs (mkF m 88 #[.val (.int x0), .val (.int x1), .val (.int x2), .val (.int x3), .val (.int x4), .val (.int x5), .val (.ref b1), .val (.ref b2), .val (.ref b3), .val (.ref b4), .val (.ref b5), .val (.ref r6), .val (.ref r11), .val (.ref b12), .val (.ref b15), .unset, .unset, .unset, .unset, .unset, .unset] []) (fun _ _ A k => XS.astore A hx rfl (hb hby at_86) rfl rfl (l' := #[.val (.int x0), .val (.int x1), .val (.int x2), .val (.int x3), .val (.int x4), .val (.int x5), .val (.ref b1), .val (.ref b2), .val (.ref b3), .val (.ref b4), .val (.ref b5), .val (.ref r6), .val (.ref r11), .val (.ref b12), .val (.ref b15), .unset, .unset, .unset, .unset, .unset, .unset]) rfl k) ?_
  refine gnewO hx (ow hw 8 rfl) (ow hw 9 rfl) (ow hw 10 rfl) 91 (hb hby at_88) rfl (by decide) (by decide) ?_
  intro b18 h18 g18 E18 C18 A18 D18 n18 L18
  have z18 := C18.2.1
  have lt_b18 : h18.size > b18 := A18.lt
  have F18_value : Fld Z h18 b18 "java/lang/String" "value" "[B" .null := D18 (Or.inr (ow hw 23 rfl)) (ty := (.array .byte)) (by decide)
  have F18_coder : Fld Z h18 b18 "java/lang/String" "coder" "B" (.int (0 : Int32)) := D18 (Or.inr (ow hw 24 rfl)) (ty := .byte) (by decide)
  refine gs (mkF m 92 #[.val (.int x0), .val (.int x1), .val (.int x2), .val (.int x3), .val (.int x4), .val (.int x5), .val (.ref b1), .val (.ref b2), .val (.ref b3), .val (.ref b4), .val (.ref b5), .val (.ref r6), .val (.ref r11), .val (.ref b12), .val (.ref b15), .unset, .unset, .unset, .unset, .unset, .unset] [(.ref b18), (.ref b18)]) (fun _ _ A k => XS.dup A hx rfl (hb hby at_91) rfl rfl k) ?_
  refine gs (mkF m 94 #[.val (.int x0), .val (.int x1), .val (.int x2), .val (.int x3), .val (.int x4), .val (.int x5), .val (.ref b1), .val (.ref b2), .val (.ref b3), .val (.ref b4), .val (.ref b5), .val (.ref r6), .val (.ref r11), .val (.ref b12), .val (.ref b15), .unset, .unset, .unset, .unset, .unset, .unset] [(.ref b3), (.ref b18), (.ref b18)]) (fun _ _ A k => XS.aload A hx rfl (hb hby at_92) rfl rfl k) ?_
  have f20 := (((((f9.ext E12).keep K13 (ninS (Nat.ne_of_lt (by omega)) nin0)).ext E15).keep K16 (ninS (Nat.ne_of_lt (by omega)) nin0)).ext E18)
  refine ginfo fun _ _ O19 => ?_
  refine gcallI (y := (⟨"java/lang/String", "<init>", "([C)V"⟩ : MethodName)) hx rfl (ow hw 11 rfl) (ow hw 12 rfl) (ow hw 13 rfl) (by decide) (fun hZ H hEL => own_payStr (W := 1) cx O19 n18 A18 F18_value F18_coder f20 (by assumption) L18 (by decide) (by decide) hZ H hEL) (a := b18) 97 (argsL := [(.ref b3)]) (rest := [(.ref b18)]) (lenOf own_pd159 rfl) rfl rfl (Nat.le_of_eq rfl) (by rw [hml]; rfl) (hb hby at_94) rfl (by decide) (by decide) ?_
  rintro _ vm19 h19 C19 ⟨t19, rfl, K19, S19⟩
  have z19 := C19.2.1
  have lt_t19 : h19.size > t19 := S19.tlt
  refine gat (mkF m 97 #[.val (.int x0), .val (.int x1), .val (.int x2), .val (.int x3), .val (.int x4), .val (.int x5), .val (.ref b1), .val (.ref b2), .val (.ref b3), .val (.ref b4), .val (.ref b5), .val (.ref r6), .val (.ref r11), .val (.ref b12), .val (.ref b15), .unset, .unset, .unset, .unset, .unset, .unset] [(.ref b18)]) rfl ?_
  refine gs (mkF m 99 #[.val (.int x0), .val (.int x1), .val (.int x2), .val (.int x3), .val (.int x4), .val (.int x5), .val (.ref b1), .val (.ref b2), .val (.ref b3), .val (.ref b4), .val (.ref b5), .val (.ref r6), .val (.ref r11), .val (.ref b12), .val (.ref b15), .val (.ref b18), .unset, .unset, .unset, .unset, .unset] []) (fun _ _ A k => XS.astore A hx rfl (hb hby at_97) rfl rfl (l' := #[.val (.int x0), .val (.int x1), .val (.int x2), .val (.int x3), .val (.int x4), .val (.int x5), .val (.ref b1), .val (.ref b2), .val (.ref b3), .val (.ref b4), .val (.ref b5), .val (.ref r6), .val (.ref r11), .val (.ref b12), .val (.ref b15), .val (.ref b18), .unset, .unset, .unset, .unset, .unset]) rfl k) ?_
  refine gnewO hx (ow hw 8 rfl) (ow hw 9 rfl) (ow hw 10 rfl) 102 (hb hby at_99) rfl (by decide) (by decide) ?_
  intro b21 h21 g21 E21 C21 A21 D21 n21 L21
  have z21 := C21.2.1
  have lt_b21 : h21.size > b21 := A21.lt
  have F21_value : Fld Z h21 b21 "java/lang/String" "value" "[B" .null := D21 (Or.inr (ow hw 23 rfl)) (ty := (.array .byte)) (by decide)
  have F21_coder : Fld Z h21 b21 "java/lang/String" "coder" "B" (.int (0 : Int32)) := D21 (Or.inr (ow hw 24 rfl)) (ty := .byte) (by decide)
  refine gs (mkF m 103 #[.val (.int x0), .val (.int x1), .val (.int x2), .val (.int x3), .val (.int x4), .val (.int x5), .val (.ref b1), .val (.ref b2), .val (.ref b3), .val (.ref b4), .val (.ref b5), .val (.ref r6), .val (.ref r11), .val (.ref b12), .val (.ref b15), .val (.ref b18), .unset, .unset, .unset, .unset, .unset] [(.ref b21), (.ref b21)]) (fun _ _ A k => XS.dup A hx rfl (hb hby at_102) rfl rfl k) ?_
  refine gs (mkF m 105 #[.val (.int x0), .val (.int x1), .val (.int x2), .val (.int x3), .val (.int x4), .val (.int x5), .val (.ref b1), .val (.ref b2), .val (.ref b3), .val (.ref b4), .val (.ref b5), .val (.ref r6), .val (.ref r11), .val (.ref b12), .val (.ref b15), .val (.ref b18), .unset, .unset, .unset, .unset, .unset] [(.ref r6), (.ref b21), (.ref b21)]) (fun _ _ A k => XS.aload A hx rfl (hb hby at_103) rfl rfl k) ?_
  have f23 := (((((((q6_0.ext E12).keep K13 (ninS (Nat.ne_of_lt (by omega)) nin0)).ext E15).keep K16 (ninS (Nat.ne_of_lt (by omega)) nin0)).ext E18).keep K19 (ninS (Nat.ne_of_lt (by omega)) nin0)).ext E21)
  refine ginfo fun _ _ O22 => ?_
  refine gcallI (y := (⟨"java/lang/String", "<init>", "([C)V"⟩ : MethodName)) hx rfl (ow hw 11 rfl) (ow hw 12 rfl) (ow hw 13 rfl) (by decide) (fun hZ H hEL => own_payStr (W := 1) cx O22 n21 A21 F21_value F21_coder f23 (by assumption) L21 (by decide) (by decide) hZ H hEL) (a := b21) 108 (argsL := [(.ref r6)]) (rest := [(.ref b21)]) (lenOf own_pd159 rfl) rfl rfl (Nat.le_of_eq rfl) (by rw [hml]; rfl) (hb hby at_105) rfl (by decide) (by decide) ?_
  rintro _ vm22 h22 C22 ⟨t22, rfl, K22, S22⟩
  have z22 := C22.2.1
  have lt_t22 : h22.size > t22 := S22.tlt
  refine gat (mkF m 108 #[.val (.int x0), .val (.int x1), .val (.int x2), .val (.int x3), .val (.int x4), .val (.int x5), .val (.ref b1), .val (.ref b2), .val (.ref b3), .val (.ref b4), .val (.ref b5), .val (.ref r6), .val (.ref r11), .val (.ref b12), .val (.ref b15), .val (.ref b18), .unset, .unset, .unset, .unset, .unset] [(.ref b21)]) rfl ?_
  refine gs (mkF m 110 #[.val (.int x0), .val (.int x1), .val (.int x2), .val (.int x3), .val (.int x4), .val (.int x5), .val (.ref b1), .val (.ref b2), .val (.ref b3), .val (.ref b4), .val (.ref b5), .val (.ref r6), .val (.ref r11), .val (.ref b12), .val (.ref b15), .val (.ref b18), .val (.ref b21), .unset, .unset, .unset, .unset] []) (fun _ _ A k => XS.astore A hx rfl (hb hby at_108) rfl rfl (l' := #[.val (.int x0), .val (.int x1), .val (.int x2), .val (.int x3), .val (.int x4), .val (.int x5), .val (.ref b1), .val (.ref b2), .val (.ref b3), .val (.ref b4), .val (.ref b5), .val (.ref r6), .val (.ref r11), .val (.ref b12), .val (.ref b15), .val (.ref b18), .val (.ref b21), .unset, .unset, .unset, .unset]) rfl k) ?_
  refine gnewO hx (ow hw 8 rfl) (ow hw 9 rfl) (ow hw 10 rfl) 113 (hb hby at_110) rfl (by decide) (by decide) ?_
  intro b24 h24 g24 E24 C24 A24 D24 n24 L24
  have z24 := C24.2.1
  have lt_b24 : h24.size > b24 := A24.lt
  have F24_value : Fld Z h24 b24 "java/lang/String" "value" "[B" .null := D24 (Or.inr (ow hw 23 rfl)) (ty := (.array .byte)) (by decide)
  have F24_coder : Fld Z h24 b24 "java/lang/String" "coder" "B" (.int (0 : Int32)) := D24 (Or.inr (ow hw 24 rfl)) (ty := .byte) (by decide)
  refine gs (mkF m 114 #[.val (.int x0), .val (.int x1), .val (.int x2), .val (.int x3), .val (.int x4), .val (.int x5), .val (.ref b1), .val (.ref b2), .val (.ref b3), .val (.ref b4), .val (.ref b5), .val (.ref r6), .val (.ref r11), .val (.ref b12), .val (.ref b15), .val (.ref b18), .val (.ref b21), .unset, .unset, .unset, .unset] [(.ref b24), (.ref b24)]) (fun _ _ A k => XS.dup A hx rfl (hb hby at_113) rfl rfl k) ?_
  refine gs (mkF m 116 #[.val (.int x0), .val (.int x1), .val (.int x2), .val (.int x3), .val (.int x4), .val (.int x5), .val (.ref b1), .val (.ref b2), .val (.ref b3), .val (.ref b4), .val (.ref b5), .val (.ref r6), .val (.ref r11), .val (.ref b12), .val (.ref b15), .val (.ref b18), .val (.ref b21), .unset, .unset, .unset, .unset] [(.ref r11), (.ref b24), (.ref b24)]) (fun _ _ A k => XS.aload A hx rfl (hb hby at_114) rfl rfl k) ?_
  have f26 := (((((((((q11_0.ext E12).keep K13 (ninS (Nat.ne_of_lt (by omega)) nin0)).ext E15).keep K16 (ninS (Nat.ne_of_lt (by omega)) nin0)).ext E18).keep K19 (ninS (Nat.ne_of_lt (by omega)) nin0)).ext E21).keep K22 (ninS (Nat.ne_of_lt (by omega)) nin0)).ext E24)
  refine ginfo fun _ _ O25 => ?_
  refine gcallI (y := (⟨"java/lang/String", "<init>", "([C)V"⟩ : MethodName)) hx rfl (ow hw 11 rfl) (ow hw 12 rfl) (ow hw 13 rfl) (by decide) (fun hZ H hEL => own_payStr (W := 1) cx O25 n24 A24 F24_value F24_coder f26 (by assumption) L24 (by decide) (by decide) hZ H hEL) (a := b24) 119 (argsL := [(.ref r11)]) (rest := [(.ref b24)]) (lenOf own_pd159 rfl) rfl rfl (Nat.le_of_eq rfl) (by rw [hml]; rfl) (hb hby at_116) rfl (by decide) (by decide) ?_
  rintro _ vm25 h25 C25 ⟨t25, rfl, K25, S25⟩
  have z25 := C25.2.1
  have lt_t25 : h25.size > t25 := S25.tlt
  refine gat (mkF m 119 #[.val (.int x0), .val (.int x1), .val (.int x2), .val (.int x3), .val (.int x4), .val (.int x5), .val (.ref b1), .val (.ref b2), .val (.ref b3), .val (.ref b4), .val (.ref b5), .val (.ref r6), .val (.ref r11), .val (.ref b12), .val (.ref b15), .val (.ref b18), .val (.ref b21), .unset, .unset, .unset, .unset] [(.ref b24)]) rfl ?_
  refine gs (mkF m 121 #[.val (.int x0), .val (.int x1), .val (.int x2), .val (.int x3), .val (.int x4), .val (.int x5), .val (.ref b1), .val (.ref b2), .val (.ref b3), .val (.ref b4), .val (.ref b5), .val (.ref r6), .val (.ref r11), .val (.ref b12), .val (.ref b15), .val (.ref b18), .val (.ref b21), .val (.ref b24), .unset, .unset, .unset] []) (fun _ _ A k => XS.astore A hx rfl (hb hby at_119) rfl rfl (l' := #[.val (.int x0), .val (.int x1), .val (.int x2), .val (.int x3), .val (.int x4), .val (.int x5), .val (.ref b1), .val (.ref b2), .val (.ref b3), .val (.ref b4), .val (.ref b5), .val (.ref r6), .val (.ref r11), .val (.ref b12), .val (.ref b15), .val (.ref b18), .val (.ref b21), .val (.ref b24), .unset, .unset, .unset]) rfl k) ?_
  refine gnewO hx (ow hw 29 rfl) (ow hw 30 rfl) (ow hw 31 rfl) 124 (hb hby at_121) rfl (by decide) (by decide) ?_
  intro b27 h27 g27 E27 C27 A27 D27 n27 L27
  have z27 := C27.2.1
  have lt_b27 : h27.size > b27 := A27.lt
  have F27_table : Fld Z h27 b27 "com/example/backfill/backfill/migration/NotNullCheck" "table" "Ljava/lang/String;" .null := D27 (Or.inr (ow hw 49 rfl)) (ty := (.object "java/lang/String")) (by decide)
  have F27_column : Fld Z h27 b27 "com/example/backfill/backfill/migration/NotNullCheck" "column" "Ljava/lang/String;" .null := D27 (Or.inr (ow hw 51 rfl)) (ty := (.object "java/lang/String")) (by decide)
  have F27_name : Fld Z h27 b27 "com/example/backfill/backfill/migration/NotNullCheck" "name" "Ljava/lang/String;" .null := D27 (Or.inr (ow hw 53 rfl)) (ty := (.object "java/lang/String")) (by decide)
  refine gs (mkF m 125 #[.val (.int x0), .val (.int x1), .val (.int x2), .val (.int x3), .val (.int x4), .val (.int x5), .val (.ref b1), .val (.ref b2), .val (.ref b3), .val (.ref b4), .val (.ref b5), .val (.ref r6), .val (.ref r11), .val (.ref b12), .val (.ref b15), .val (.ref b18), .val (.ref b21), .val (.ref b24), .unset, .unset, .unset] [(.ref b27), (.ref b27)]) (fun _ _ A k => XS.dup A hx rfl (hb hby at_124) rfl rfl k) ?_
  refine gs (mkF m 127 #[.val (.int x0), .val (.int x1), .val (.int x2), .val (.int x3), .val (.int x4), .val (.int x5), .val (.ref b1), .val (.ref b2), .val (.ref b3), .val (.ref b4), .val (.ref b5), .val (.ref r6), .val (.ref r11), .val (.ref b12), .val (.ref b15), .val (.ref b18), .val (.ref b21), .val (.ref b24), .unset, .unset, .unset] [(.ref b12), (.ref b27), (.ref b27)]) (fun _ _ A k => XS.aload A hx rfl (hb hby at_125) rfl rfl k) ?_
  refine gs (mkF m 129 #[.val (.int x0), .val (.int x1), .val (.int x2), .val (.int x3), .val (.int x4), .val (.int x5), .val (.ref b1), .val (.ref b2), .val (.ref b3), .val (.ref b4), .val (.ref b5), .val (.ref r6), .val (.ref r11), .val (.ref b12), .val (.ref b15), .val (.ref b18), .val (.ref b21), .val (.ref b24), .unset, .unset, .unset] [(.ref b15), (.ref b12), (.ref b27), (.ref b27)]) (fun _ _ A k => XS.aload A hx rfl (hb hby at_127) rfl rfl k) ?_
  refine gs (mkF m 131 #[.val (.int x0), .val (.int x1), .val (.int x2), .val (.int x3), .val (.int x4), .val (.int x5), .val (.ref b1), .val (.ref b2), .val (.ref b3), .val (.ref b4), .val (.ref b5), .val (.ref r6), .val (.ref r11), .val (.ref b12), .val (.ref b15), .val (.ref b18), .val (.ref b21), .val (.ref b24), .unset, .unset, .unset] [(.ref b18), (.ref b15), (.ref b12), (.ref b27), (.ref b27)]) (fun _ _ A k => XS.aload A hx rfl (hb hby at_129) rfl rfl k) ?_
  refine ginfo fun _ _ O28 => ?_
  refine gcallI (y := (⟨"com/example/backfill/backfill/migration/NotNullCheck", "<init>", "(Ljava/lang/String;Ljava/lang/String;Ljava/lang/String;)V"⟩ : MethodName)) hx rfl (ow hw 32 rfl) (ow hw 33 rfl) (ow hw 34 rfl) (by decide) (fun hZ H hEL => Pay.of_met (W := 1) (own_ncinit l Z a0 cx [] (b27) (b12) (b15) (b18) (.null) (.null) (.null) vm25 h27 O28 A27 F27_table F27_column F27_name n27) (ow hw 34 rfl) (ow hw 31 rfl) (by decide) (by decide) hZ H hEL) (a := b27) 134 (argsL := [(.ref b12), (.ref b15), (.ref b18)]) (rest := [(.ref b27)]) (lenOf own_pd160 rfl) rfl rfl (Nat.le_of_eq rfl) (by rw [hml]; rfl) (hb hby at_131) rfl (by decide) (by decide) ?_
  rintro _ vm28 h28 C28 ⟨rfl, K28, q28_0, q28_1⟩
  have z28 := C28.2.1
  refine gat (mkF m 134 #[.val (.int x0), .val (.int x1), .val (.int x2), .val (.int x3), .val (.int x4), .val (.int x5), .val (.ref b1), .val (.ref b2), .val (.ref b3), .val (.ref b4), .val (.ref b5), .val (.ref r6), .val (.ref r11), .val (.ref b12), .val (.ref b15), .val (.ref b18), .val (.ref b21), .val (.ref b24), .unset, .unset, .unset] [(.ref b27)]) rfl ?_
  refine gs (mkF m 136 #[.val (.int x0), .val (.int x1), .val (.int x2), .val (.int x3), .val (.int x4), .val (.int x5), .val (.ref b1), .val (.ref b2), .val (.ref b3), .val (.ref b4), .val (.ref b5), .val (.ref r6), .val (.ref r11), .val (.ref b12), .val (.ref b15), .val (.ref b18), .val (.ref b21), .val (.ref b24), .val (.ref b27), .unset, .unset] []) (fun _ _ A k => XS.astore A hx rfl (hb hby at_134) rfl rfl (l' := #[.val (.int x0), .val (.int x1), .val (.int x2), .val (.int x3), .val (.int x4), .val (.int x5), .val (.ref b1), .val (.ref b2), .val (.ref b3), .val (.ref b4), .val (.ref b5), .val (.ref r6), .val (.ref r11), .val (.ref b12), .val (.ref b15), .val (.ref b18), .val (.ref b21), .val (.ref b24), .val (.ref b27), .unset, .unset]) rfl k) ?_
  by_cases e1 : cs1 = cs6
  · by_cases e2 : cs2 = cs11
    · refine gs (mkF m 138 #[.val (.int x0), .val (.int x1), .val (.int x2), .val (.int x3), .val (.int x4), .val (.int x5), .val (.ref b1), .val (.ref b2), .val (.ref b3), .val (.ref b4), .val (.ref b5), .val (.ref r6), .val (.ref r11), .val (.ref b12), .val (.ref b15), .val (.ref b18), .val (.ref b21), .val (.ref b24), .val (.ref b27), .unset, .unset] [(.ref b27)]) (fun _ _ A k => XS.aload A hx rfl (hb hby at_136) rfl rfl k) ?_
      refine gs (mkF m 140 #[.val (.int x0), .val (.int x1), .val (.int x2), .val (.int x3), .val (.int x4), .val (.int x5), .val (.ref b1), .val (.ref b2), .val (.ref b3), .val (.ref b4), .val (.ref b5), .val (.ref r6), .val (.ref r11), .val (.ref b12), .val (.ref b15), .val (.ref b18), .val (.ref b21), .val (.ref b24), .val (.ref b27), .unset, .unset] [(.ref b21), (.ref b27)]) (fun _ _ A k => XS.aload A hx rfl (hb hby at_138) rfl rfl k) ?_
      refine gs (mkF m 142 #[.val (.int x0), .val (.int x1), .val (.int x2), .val (.int x3), .val (.int x4), .val (.int x5), .val (.ref b1), .val (.ref b2), .val (.ref b3), .val (.ref b4), .val (.ref b5), .val (.ref r6), .val (.ref r11), .val (.ref b12), .val (.ref b15), .val (.ref b18), .val (.ref b21), .val (.ref b24), .val (.ref b27), .unset, .unset] [(.ref b24), (.ref b21), (.ref b27)]) (fun _ _ A k => XS.aload A hx rfl (hb hby at_140) rfl rfl k) ?_
      have f30 := ((((((((((S13.ext E15).keep K16 (ninS (Nat.ne_of_lt (by omega)) nin0) (ninS (Nat.ne_of_lt (by omega)) nin0)).ext E18).keep K19 (ninS (Nat.ne_of_lt (by omega)) nin0) (ninS (Nat.ne_of_lt (by omega)) nin0)).ext E21).keep K22 (ninS (Nat.ne_of_lt (by omega)) nin0) (ninS (Nat.ne_of_lt (by omega)) nin0)).ext E24).keep K25 (ninS (Nat.ne_of_lt (by omega)) nin0) (ninS (Nat.ne_of_lt (by omega)) nin0)).ext E27).keep K28 (ninS (Nat.ne_of_lt (by omega)) nin0) (ninS (Nat.ne_of_lt (by omega)) nin0))
      have f31 := ((((((((S16.ext E18).keep K19 (ninS (Nat.ne_of_lt (by omega)) nin0) (ninS (Nat.ne_of_lt (by omega)) nin0)).ext E21).keep K22 (ninS (Nat.ne_of_lt (by omega)) nin0) (ninS (Nat.ne_of_lt (by omega)) nin0)).ext E24).keep K25 (ninS (Nat.ne_of_lt (by omega)) nin0) (ninS (Nat.ne_of_lt (by omega)) nin0)).ext E27).keep K28 (ninS (Nat.ne_of_lt (by omega)) nin0) (ninS (Nat.ne_of_lt (by omega)) nin0))
      have f32 := ((((S22.ext E24).keep K25 (ninS (Nat.ne_of_lt (by omega)) nin0) (ninS (Nat.ne_of_lt (by omega)) nin0)).ext E27).keep K28 (ninS (Nat.ne_of_lt (by omega)) nin0) (ninS (Nat.ne_of_lt (by omega)) nin0))
      have f33 := ((S25.ext E27).keep K28 (ninS (Nat.ne_of_lt (by omega)) nin0) (ninS (Nat.ne_of_lt (by omega)) nin0))
      refine ginfo fun _ _ O29 => ?_
      have f34 := (A27.keep K28)
      refine gcallV (y := (⟨"com/example/backfill/backfill/migration/NotNullCheck", "reads", "(Ljava/lang/String;Ljava/lang/String;)Z"⟩ : MethodName)) (z := (⟨"com/example/backfill/backfill/migration/NotNullCheck", "reads", "(Ljava/lang/String;Ljava/lang/String;)Z"⟩ : MethodName)) hx (ow hw 54 rfl) (ow hw 55 rfl) (nfSel (ow hw 57 rfl)) (ow hw 57 rfl) (ow hw 56 rfl) (by decide) (fun hZ H hEL => Pay.of_met (W := 0) (own_reads l Z a0 cx [] (b27) (b12) (b15) (b21) (b24) (t13) (t16) (t22) (t25) (cs1) (cs2) (cs6) (cs11) ((1 : Int32)) vm28 h28 O29 q28_0 q28_1 f30 f31 f32 f33 ⟨fun _ => rfl, fun q => absurd ⟨e1, e2⟩ q⟩) (ow hw 58 rfl) (ow hw 31 rfl) (by decide) (by decide) hZ H hEL) 145 (argsL := [(.ref b21), (.ref b24)]) (rest := []) f34 (lenOf own_pd161 rfl) rfl rfl (Nat.le_of_eq rfl) (by rw [hml]; rfl) (hb hby at_142) rfl (by decide) (by decide) ?_
      rintro _ vm29 h29 C29 ⟨rfl, rfl⟩
      have z29 := C29.2.1
      refine gat (mkF m 145 #[.val (.int x0), .val (.int x1), .val (.int x2), .val (.int x3), .val (.int x4), .val (.int x5), .val (.ref b1), .val (.ref b2), .val (.ref b3), .val (.ref b4), .val (.ref b5), .val (.ref r6), .val (.ref r11), .val (.ref b12), .val (.ref b15), .val (.ref b18), .val (.ref b21), .val (.ref b24), .val (.ref b27), .unset, .unset] [(.int (1 : Int32))]) rfl ?_
      refine gs (mkF m 147 #[.val (.int x0), .val (.int x1), .val (.int x2), .val (.int x3), .val (.int x4), .val (.int x5), .val (.ref b1), .val (.ref b2), .val (.ref b3), .val (.ref b4), .val (.ref b5), .val (.ref r6), .val (.ref r11), .val (.ref b12), .val (.ref b15), .val (.ref b18), .val (.ref b21), .val (.ref b24), .val (.ref b27), .val (.int (1 : Int32)), .unset] []) (fun _ _ A k => XS.istore A hx rfl (hb hby at_145) rfl (l' := #[.val (.int x0), .val (.int x1), .val (.int x2), .val (.int x3), .val (.int x4), .val (.int x5), .val (.ref b1), .val (.ref b2), .val (.ref b3), .val (.ref b4), .val (.ref b5), .val (.ref r6), .val (.ref r11), .val (.ref b12), .val (.ref b15), .val (.ref b18), .val (.ref b21), .val (.ref b24), .val (.ref b27), .val (.int (1 : Int32)), .unset]) rfl k) ?_
      refine gs (mkF m 149 #[.val (.int x0), .val (.int x1), .val (.int x2), .val (.int x3), .val (.int x4), .val (.int x5), .val (.ref b1), .val (.ref b2), .val (.ref b3), .val (.ref b4), .val (.ref b5), .val (.ref r6), .val (.ref r11), .val (.ref b12), .val (.ref b15), .val (.ref b18), .val (.ref b21), .val (.ref b24), .val (.ref b27), .val (.int (1 : Int32)), .unset] [(.ref b1)]) (fun _ _ A k => XS.aload A hx rfl (hb hby at_147) rfl rfl k) ?_
      refine gs (mkF m 151 #[.val (.int x0), .val (.int x1), .val (.int x2), .val (.int x3), .val (.int x4), .val (.int x5), .val (.ref b1), .val (.ref b2), .val (.ref b3), .val (.ref b4), .val (.ref b5), .val (.ref r6), .val (.ref r11), .val (.ref b12), .val (.ref b15), .val (.ref b18), .val (.ref b21), .val (.ref b24), .val (.ref b27), .val (.int (1 : Int32)), .unset] [(.ref r6), (.ref b1)]) (fun _ _ A k => XS.aload A hx rfl (hb hby at_149) rfl rfl k) ?_
      have f36 := (((((((((((f14.keep K13 (ninS (Nat.ne_of_lt (by omega)) nin0)).ext E15).keep K16 (ninS (Nat.ne_of_lt (by omega)) nin0)).ext E18).keep K19 (ninS (Nat.ne_of_lt (by omega)) nin0)).ext E21).keep K22 (ninS (Nat.ne_of_lt (by omega)) nin0)).ext E24).keep K25 (ninS (Nat.ne_of_lt (by omega)) nin0)).ext E27).keep K28 (ninS (Nat.ne_of_lt (by omega)) nin0))
      have f37 := (((((f23.keep K22 (ninS (Nat.ne_of_lt (by omega)) nin0)).ext E24).keep K25 (ninS (Nat.ne_of_lt (by omega)) nin0)).ext E27).keep K28 (ninS (Nat.ne_of_lt (by omega)) nin0))
      refine ginfo fun _ _ O35 => ?_
      refine gcallS (y := (⟨"com/example/backfill/backfill/migration/NotNullCheckReadsPinLaw", "same", "([C[C)Z"⟩ : MethodName)) hx (ow hw 70 rfl) (ow hw 71 rfl) (ow hw 2 rfl) (ow hw 72 rfl) (by decide) (fun hZ H hEL => Pay.of_met (W := 0) (own_same l Z a0 cx [] (b1) (r6) (cs1) (cs6) ((1 : Int32)) vm29 h28 O35 f36 f37 (by first | assumption | decide | omega) (by first | assumption | decide | omega) ⟨fun _ => rfl, fun q => absurd e1 q⟩) (ow hw 72 rfl) (ow hw 2 rfl) (by decide) (by decide) hZ H hEL) 154 (argsL := [(.ref b1), (.ref r6)]) (rest := []) (lenOf own_pd162 rfl) rfl rfl (Nat.le_of_eq rfl) (by rw [hml]; rfl) (hb hby at_151) rfl (by decide) (by decide) ?_
      rintro _ vm35 h35 C35 ⟨rfl, rfl⟩
      have z35 := C35.2.1
      refine gat (mkF m 154 #[.val (.int x0), .val (.int x1), .val (.int x2), .val (.int x3), .val (.int x4), .val (.int x5), .val (.ref b1), .val (.ref b2), .val (.ref b3), .val (.ref b4), .val (.ref b5), .val (.ref r6), .val (.ref r11), .val (.ref b12), .val (.ref b15), .val (.ref b18), .val (.ref b21), .val (.ref b24), .val (.ref b27), .val (.int (1 : Int32)), .unset] [(.int (1 : Int32))]) rfl ?_
      refine gs (mkF m 157 #[.val (.int x0), .val (.int x1), .val (.int x2), .val (.int x3), .val (.int x4), .val (.int x5), .val (.ref b1), .val (.ref b2), .val (.ref b3), .val (.ref b4), .val (.ref b5), .val (.ref r6), .val (.ref r11), .val (.ref b12), .val (.ref b15), .val (.ref b18), .val (.ref b21), .val (.ref b24), .val (.ref b27), .val (.int (1 : Int32)), .unset] []) (fun _ _ A k => XS.ifNo A hx rfl (hb hby at_154) rfl ((if0 _ _).trans (feq (by decide)).1) k) ?_
      refine gs (mkF m 159 #[.val (.int x0), .val (.int x1), .val (.int x2), .val (.int x3), .val (.int x4), .val (.int x5), .val (.ref b1), .val (.ref b2), .val (.ref b3), .val (.ref b4), .val (.ref b5), .val (.ref r6), .val (.ref r11), .val (.ref b12), .val (.ref b15), .val (.ref b18), .val (.ref b21), .val (.ref b24), .val (.ref b27), .val (.int (1 : Int32)), .unset] [(.ref b2)]) (fun _ _ A k => XS.aload A hx rfl (hb hby at_157) rfl rfl k) ?_
      refine gs (mkF m 161 #[.val (.int x0), .val (.int x1), .val (.int x2), .val (.int x3), .val (.int x4), .val (.int x5), .val (.ref b1), .val (.ref b2), .val (.ref b3), .val (.ref b4), .val (.ref b5), .val (.ref r6), .val (.ref r11), .val (.ref b12), .val (.ref b15), .val (.ref b18), .val (.ref b21), .val (.ref b24), .val (.ref b27), .val (.int (1 : Int32)), .unset] [(.ref r11), (.ref b2)]) (fun _ _ A k => XS.aload A hx rfl (hb hby at_159) rfl rfl k) ?_
      have f39 := (((((((((f17.keep K16 (ninS (Nat.ne_of_lt (by omega)) nin0)).ext E18).keep K19 (ninS (Nat.ne_of_lt (by omega)) nin0)).ext E21).keep K22 (ninS (Nat.ne_of_lt (by omega)) nin0)).ext E24).keep K25 (ninS (Nat.ne_of_lt (by omega)) nin0)).ext E27).keep K28 (ninS (Nat.ne_of_lt (by omega)) nin0))
      have f40 := (((f26.keep K25 (ninS (Nat.ne_of_lt (by omega)) nin0)).ext E27).keep K28 (ninS (Nat.ne_of_lt (by omega)) nin0))
      refine ginfo fun _ _ O38 => ?_
      refine gcallS (y := (⟨"com/example/backfill/backfill/migration/NotNullCheckReadsPinLaw", "same", "([C[C)Z"⟩ : MethodName)) hx (ow hw 70 rfl) (ow hw 71 rfl) (ow hw 2 rfl) (ow hw 72 rfl) (by decide) (fun hZ H hEL => Pay.of_met (W := 0) (own_same l Z a0 cx [] (b2) (r11) (cs2) (cs11) ((1 : Int32)) vm35 h28 O38 f39 f40 (by first | assumption | decide | omega) (by first | assumption | decide | omega) ⟨fun _ => rfl, fun q => absurd e2 q⟩) (ow hw 72 rfl) (ow hw 2 rfl) (by decide) (by decide) hZ H hEL) 164 (argsL := [(.ref b2), (.ref r11)]) (rest := []) (lenOf own_pd162 rfl) rfl rfl (Nat.le_of_eq rfl) (by rw [hml]; rfl) (hb hby at_161) rfl (by decide) (by decide) ?_
      rintro _ vm38 h38 C38 ⟨rfl, rfl⟩
      have z38 := C38.2.1
      refine gat (mkF m 164 #[.val (.int x0), .val (.int x1), .val (.int x2), .val (.int x3), .val (.int x4), .val (.int x5), .val (.ref b1), .val (.ref b2), .val (.ref b3), .val (.ref b4), .val (.ref b5), .val (.ref r6), .val (.ref r11), .val (.ref b12), .val (.ref b15), .val (.ref b18), .val (.ref b21), .val (.ref b24), .val (.ref b27), .val (.int (1 : Int32)), .unset] [(.int (1 : Int32))]) rfl ?_
      refine gs (mkF m 167 #[.val (.int x0), .val (.int x1), .val (.int x2), .val (.int x3), .val (.int x4), .val (.int x5), .val (.ref b1), .val (.ref b2), .val (.ref b3), .val (.ref b4), .val (.ref b5), .val (.ref r6), .val (.ref r11), .val (.ref b12), .val (.ref b15), .val (.ref b18), .val (.ref b21), .val (.ref b24), .val (.ref b27), .val (.int (1 : Int32)), .unset] []) (fun _ _ A k => XS.ifNo A hx rfl (hb hby at_164) rfl ((if0 _ _).trans (feq (by decide)).1) k) ?_
      refine gs (mkF m 168 #[.val (.int x0), .val (.int x1), .val (.int x2), .val (.int x3), .val (.int x4), .val (.int x5), .val (.ref b1), .val (.ref b2), .val (.ref b3), .val (.ref b4), .val (.ref b5), .val (.ref r6), .val (.ref r11), .val (.ref b12), .val (.ref b15), .val (.ref b18), .val (.ref b21), .val (.ref b24), .val (.ref b27), .val (.int (1 : Int32)), .unset] [(.int (1 : Int32))]) (fun _ _ A k => XS.iconst A hx rfl (hb hby at_167) k) ?_
      refine gs (mkF m 172 #[.val (.int x0), .val (.int x1), .val (.int x2), .val (.int x3), .val (.int x4), .val (.int x5), .val (.ref b1), .val (.ref b2), .val (.ref b3), .val (.ref b4), .val (.ref b5), .val (.ref r6), .val (.ref r11), .val (.ref b12), .val (.ref b15), .val (.ref b18), .val (.ref b21), .val (.ref b24), .val (.ref b27), .val (.int (1 : Int32)), .unset] [(.int (1 : Int32))]) (fun _ _ A k => XS.goto A hx rfl (pc0 := 168) (pc' := 172) rfl (hb hby at_168) (by decide) (by decide) k) ?_
      refine gs (mkF m 174 #[.val (.int x0), .val (.int x1), .val (.int x2), .val (.int x3), .val (.int x4), .val (.int x5), .val (.ref b1), .val (.ref b2), .val (.ref b3), .val (.ref b4), .val (.ref b5), .val (.ref r6), .val (.ref r11), .val (.ref b12), .val (.ref b15), .val (.ref b18), .val (.ref b21), .val (.ref b24), .val (.ref b27), .val (.int (1 : Int32)), .val (.int (1 : Int32))] []) (fun _ _ A k => XS.istore A hx rfl (hb hby at_172) rfl (l' := #[.val (.int x0), .val (.int x1), .val (.int x2), .val (.int x3), .val (.int x4), .val (.int x5), .val (.ref b1), .val (.ref b2), .val (.ref b3), .val (.ref b4), .val (.ref b5), .val (.ref r6), .val (.ref r11), .val (.ref b12), .val (.ref b15), .val (.ref b18), .val (.ref b21), .val (.ref b24), .val (.ref b27), .val (.int (1 : Int32)), .val (.int (1 : Int32))]) rfl k) ?_
      refine gs (mkF m 176 #[.val (.int x0), .val (.int x1), .val (.int x2), .val (.int x3), .val (.int x4), .val (.int x5), .val (.ref b1), .val (.ref b2), .val (.ref b3), .val (.ref b4), .val (.ref b5), .val (.ref r6), .val (.ref r11), .val (.ref b12), .val (.ref b15), .val (.ref b18), .val (.ref b21), .val (.ref b24), .val (.ref b27), .val (.int (1 : Int32)), .val (.int (1 : Int32))] [(.int (1 : Int32))]) (fun _ _ A k => XS.iload A hx rfl (hb hby at_174) rfl  k) ?_
      refine gs (mkF m 178 #[.val (.int x0), .val (.int x1), .val (.int x2), .val (.int x3), .val (.int x4), .val (.int x5), .val (.ref b1), .val (.ref b2), .val (.ref b3), .val (.ref b4), .val (.ref b5), .val (.ref r6), .val (.ref r11), .val (.ref b12), .val (.ref b15), .val (.ref b18), .val (.ref b21), .val (.ref b24), .val (.ref b27), .val (.int (1 : Int32)), .val (.int (1 : Int32))] [(.int (1 : Int32)), (.int (1 : Int32))]) (fun _ _ A k => XS.iload A hx rfl (hb hby at_176) rfl  k) ?_
      refine gs (mkF m 181 #[.val (.int x0), .val (.int x1), .val (.int x2), .val (.int x3), .val (.int x4), .val (.int x5), .val (.ref b1), .val (.ref b2), .val (.ref b3), .val (.ref b4), .val (.ref b5), .val (.ref r6), .val (.ref r11), .val (.ref b12), .val (.ref b15), .val (.ref b18), .val (.ref b21), .val (.ref b24), .val (.ref b27), .val (.int (1 : Int32)), .val (.int (1 : Int32))] []) (fun _ _ A k => XS.icmpNo A hx rfl (hb hby at_178) rfl (teq (by decide)).2 k) ?_
      refine gs (mkF m 182 #[.val (.int x0), .val (.int x1), .val (.int x2), .val (.int x3), .val (.int x4), .val (.int x5), .val (.ref b1), .val (.ref b2), .val (.ref b3), .val (.ref b4), .val (.ref b5), .val (.ref r6), .val (.ref r11), .val (.ref b12), .val (.ref b15), .val (.ref b18), .val (.ref b21), .val (.ref b24), .val (.ref b27), .val (.int (1 : Int32)), .val (.int (1 : Int32))] [(.int (1 : Int32))]) (fun _ _ A k => XS.iconst A hx rfl (hb hby at_181) k) ?_
      refine gs (mkF m 186 #[.val (.int x0), .val (.int x1), .val (.int x2), .val (.int x3), .val (.int x4), .val (.int x5), .val (.ref b1), .val (.ref b2), .val (.ref b3), .val (.ref b4), .val (.ref b5), .val (.ref r6), .val (.ref r11), .val (.ref b12), .val (.ref b15), .val (.ref b18), .val (.ref b21), .val (.ref b24), .val (.ref b27), .val (.int (1 : Int32)), .val (.int (1 : Int32))] [(.int (1 : Int32))]) (fun _ _ A k => XS.goto A hx rfl (pc0 := 182) (pc' := 186) rfl (hb hby at_182) (by decide) (by decide) k) ?_
      exact gretN (t := .boolean) hx hret (by simp) (hb hby at_186) (by decide) (by decide) (fun vq Cq => ⟨rfl, ((((((((((((((((((Keep.refl h0 []).trans K1 all0).trans K2 all0).trans K3 all0).trans K4 all0).trans K5 all0).ext E12).trans K13 (allS (Or.inr (by omega)) all0)).ext E15).trans K16 (allS (Or.inr (by omega)) all0)).ext E18).trans K19 (allS (Or.inr (by omega)) all0)).ext E21).trans K22 (allS (Or.inr (by omega)) all0)).ext E24).trans K25 (allS (Or.inr (by omega)) all0)).ext E27).trans K28 (allS (Or.inr (by omega)) all0))⟩)
    · refine gs (mkF m 138 #[.val (.int x0), .val (.int x1), .val (.int x2), .val (.int x3), .val (.int x4), .val (.int x5), .val (.ref b1), .val (.ref b2), .val (.ref b3), .val (.ref b4), .val (.ref b5), .val (.ref r6), .val (.ref r11), .val (.ref b12), .val (.ref b15), .val (.ref b18), .val (.ref b21), .val (.ref b24), .val (.ref b27), .unset, .unset] [(.ref b27)]) (fun _ _ A k => XS.aload A hx rfl (hb hby at_136) rfl rfl k) ?_
      refine gs (mkF m 140 #[.val (.int x0), .val (.int x1), .val (.int x2), .val (.int x3), .val (.int x4), .val (.int x5), .val (.ref b1), .val (.ref b2), .val (.ref b3), .val (.ref b4), .val (.ref b5), .val (.ref r6), .val (.ref r11), .val (.ref b12), .val (.ref b15), .val (.ref b18), .val (.ref b21), .val (.ref b24), .val (.ref b27), .unset, .unset] [(.ref b21), (.ref b27)]) (fun _ _ A k => XS.aload A hx rfl (hb hby at_138) rfl rfl k) ?_
      refine gs (mkF m 142 #[.val (.int x0), .val (.int x1), .val (.int x2), .val (.int x3), .val (.int x4), .val (.int x5), .val (.ref b1), .val (.ref b2), .val (.ref b3), .val (.ref b4), .val (.ref b5), .val (.ref r6), .val (.ref r11), .val (.ref b12), .val (.ref b15), .val (.ref b18), .val (.ref b21), .val (.ref b24), .val (.ref b27), .unset, .unset] [(.ref b24), (.ref b21), (.ref b27)]) (fun _ _ A k => XS.aload A hx rfl (hb hby at_140) rfl rfl k) ?_
      have f43 := ((((((((((S13.ext E15).keep K16 (ninS (Nat.ne_of_lt (by omega)) nin0) (ninS (Nat.ne_of_lt (by omega)) nin0)).ext E18).keep K19 (ninS (Nat.ne_of_lt (by omega)) nin0) (ninS (Nat.ne_of_lt (by omega)) nin0)).ext E21).keep K22 (ninS (Nat.ne_of_lt (by omega)) nin0) (ninS (Nat.ne_of_lt (by omega)) nin0)).ext E24).keep K25 (ninS (Nat.ne_of_lt (by omega)) nin0) (ninS (Nat.ne_of_lt (by omega)) nin0)).ext E27).keep K28 (ninS (Nat.ne_of_lt (by omega)) nin0) (ninS (Nat.ne_of_lt (by omega)) nin0))
      have f44 := ((((((((S16.ext E18).keep K19 (ninS (Nat.ne_of_lt (by omega)) nin0) (ninS (Nat.ne_of_lt (by omega)) nin0)).ext E21).keep K22 (ninS (Nat.ne_of_lt (by omega)) nin0) (ninS (Nat.ne_of_lt (by omega)) nin0)).ext E24).keep K25 (ninS (Nat.ne_of_lt (by omega)) nin0) (ninS (Nat.ne_of_lt (by omega)) nin0)).ext E27).keep K28 (ninS (Nat.ne_of_lt (by omega)) nin0) (ninS (Nat.ne_of_lt (by omega)) nin0))
      have f45 := ((((S22.ext E24).keep K25 (ninS (Nat.ne_of_lt (by omega)) nin0) (ninS (Nat.ne_of_lt (by omega)) nin0)).ext E27).keep K28 (ninS (Nat.ne_of_lt (by omega)) nin0) (ninS (Nat.ne_of_lt (by omega)) nin0))
      have f46 := ((S25.ext E27).keep K28 (ninS (Nat.ne_of_lt (by omega)) nin0) (ninS (Nat.ne_of_lt (by omega)) nin0))
      refine ginfo fun _ _ O42 => ?_
      have f47 := (A27.keep K28)
      refine gcallV (y := (⟨"com/example/backfill/backfill/migration/NotNullCheck", "reads", "(Ljava/lang/String;Ljava/lang/String;)Z"⟩ : MethodName)) (z := (⟨"com/example/backfill/backfill/migration/NotNullCheck", "reads", "(Ljava/lang/String;Ljava/lang/String;)Z"⟩ : MethodName)) hx (ow hw 54 rfl) (ow hw 55 rfl) (nfSel (ow hw 57 rfl)) (ow hw 57 rfl) (ow hw 56 rfl) (by decide) (fun hZ H hEL => Pay.of_met (W := 0) (own_reads l Z a0 cx [] (b27) (b12) (b15) (b21) (b24) (t13) (t16) (t22) (t25) (cs1) (cs2) (cs6) (cs11) ((0 : Int32)) vm28 h28 O42 q28_0 q28_1 f43 f44 f45 f46 ⟨fun q => absurd q.2 e2, fun _ => rfl⟩) (ow hw 58 rfl) (ow hw 31 rfl) (by decide) (by decide) hZ H hEL) 145 (argsL := [(.ref b21), (.ref b24)]) (rest := []) f47 (lenOf own_pd161 rfl) rfl rfl (Nat.le_of_eq rfl) (by rw [hml]; rfl) (hb hby at_142) rfl (by decide) (by decide) ?_
      rintro _ vm42 h42 C42 ⟨rfl, rfl⟩
      have z42 := C42.2.1
      refine gat (mkF m 145 #[.val (.int x0), .val (.int x1), .val (.int x2), .val (.int x3), .val (.int x4), .val (.int x5), .val (.ref b1), .val (.ref b2), .val (.ref b3), .val (.ref b4), .val (.ref b5), .val (.ref r6), .val (.ref r11), .val (.ref b12), .val (.ref b15), .val (.ref b18), .val (.ref b21), .val (.ref b24), .val (.ref b27), .unset, .unset] [(.int (0 : Int32))]) rfl ?_
      refine gs (mkF m 147 #[.val (.int x0), .val (.int x1), .val (.int x2), .val (.int x3), .val (.int x4), .val (.int x5), .val (.ref b1), .val (.ref b2), .val (.ref b3), .val (.ref b4), .val (.ref b5), .val (.ref r6), .val (.ref r11), .val (.ref b12), .val (.ref b15), .val (.ref b18), .val (.ref b21), .val (.ref b24), .val (.ref b27), .val (.int (0 : Int32)), .unset] []) (fun _ _ A k => XS.istore A hx rfl (hb hby at_145) rfl (l' := #[.val (.int x0), .val (.int x1), .val (.int x2), .val (.int x3), .val (.int x4), .val (.int x5), .val (.ref b1), .val (.ref b2), .val (.ref b3), .val (.ref b4), .val (.ref b5), .val (.ref r6), .val (.ref r11), .val (.ref b12), .val (.ref b15), .val (.ref b18), .val (.ref b21), .val (.ref b24), .val (.ref b27), .val (.int (0 : Int32)), .unset]) rfl k) ?_
      refine gs (mkF m 149 #[.val (.int x0), .val (.int x1), .val (.int x2), .val (.int x3), .val (.int x4), .val (.int x5), .val (.ref b1), .val (.ref b2), .val (.ref b3), .val (.ref b4), .val (.ref b5), .val (.ref r6), .val (.ref r11), .val (.ref b12), .val (.ref b15), .val (.ref b18), .val (.ref b21), .val (.ref b24), .val (.ref b27), .val (.int (0 : Int32)), .unset] [(.ref b1)]) (fun _ _ A k => XS.aload A hx rfl (hb hby at_147) rfl rfl k) ?_
      refine gs (mkF m 151 #[.val (.int x0), .val (.int x1), .val (.int x2), .val (.int x3), .val (.int x4), .val (.int x5), .val (.ref b1), .val (.ref b2), .val (.ref b3), .val (.ref b4), .val (.ref b5), .val (.ref r6), .val (.ref r11), .val (.ref b12), .val (.ref b15), .val (.ref b18), .val (.ref b21), .val (.ref b24), .val (.ref b27), .val (.int (0 : Int32)), .unset] [(.ref r6), (.ref b1)]) (fun _ _ A k => XS.aload A hx rfl (hb hby at_149) rfl rfl k) ?_
      have f49 := (((((((((((f14.keep K13 (ninS (Nat.ne_of_lt (by omega)) nin0)).ext E15).keep K16 (ninS (Nat.ne_of_lt (by omega)) nin0)).ext E18).keep K19 (ninS (Nat.ne_of_lt (by omega)) nin0)).ext E21).keep K22 (ninS (Nat.ne_of_lt (by omega)) nin0)).ext E24).keep K25 (ninS (Nat.ne_of_lt (by omega)) nin0)).ext E27).keep K28 (ninS (Nat.ne_of_lt (by omega)) nin0))
      have f50 := (((((f23.keep K22 (ninS (Nat.ne_of_lt (by omega)) nin0)).ext E24).keep K25 (ninS (Nat.ne_of_lt (by omega)) nin0)).ext E27).keep K28 (ninS (Nat.ne_of_lt (by omega)) nin0))
      refine ginfo fun _ _ O48 => ?_
      refine gcallS (y := (⟨"com/example/backfill/backfill/migration/NotNullCheckReadsPinLaw", "same", "([C[C)Z"⟩ : MethodName)) hx (ow hw 70 rfl) (ow hw 71 rfl) (ow hw 2 rfl) (ow hw 72 rfl) (by decide) (fun hZ H hEL => Pay.of_met (W := 0) (own_same l Z a0 cx [] (b1) (r6) (cs1) (cs6) ((1 : Int32)) vm42 h28 O48 f49 f50 (by first | assumption | decide | omega) (by first | assumption | decide | omega) ⟨fun _ => rfl, fun q => absurd e1 q⟩) (ow hw 72 rfl) (ow hw 2 rfl) (by decide) (by decide) hZ H hEL) 154 (argsL := [(.ref b1), (.ref r6)]) (rest := []) (lenOf own_pd162 rfl) rfl rfl (Nat.le_of_eq rfl) (by rw [hml]; rfl) (hb hby at_151) rfl (by decide) (by decide) ?_
      rintro _ vm48 h48 C48 ⟨rfl, rfl⟩
      have z48 := C48.2.1
      refine gat (mkF m 154 #[.val (.int x0), .val (.int x1), .val (.int x2), .val (.int x3), .val (.int x4), .val (.int x5), .val (.ref b1), .val (.ref b2), .val (.ref b3), .val (.ref b4), .val (.ref b5), .val (.ref r6), .val (.ref r11), .val (.ref b12), .val (.ref b15), .val (.ref b18), .val (.ref b21), .val (.ref b24), .val (.ref b27), .val (.int (0 : Int32)), .unset] [(.int (1 : Int32))]) rfl ?_
      refine gs (mkF m 157 #[.val (.int x0), .val (.int x1), .val (.int x2), .val (.int x3), .val (.int x4), .val (.int x5), .val (.ref b1), .val (.ref b2), .val (.ref b3), .val (.ref b4), .val (.ref b5), .val (.ref r6), .val (.ref r11), .val (.ref b12), .val (.ref b15), .val (.ref b18), .val (.ref b21), .val (.ref b24), .val (.ref b27), .val (.int (0 : Int32)), .unset] []) (fun _ _ A k => XS.ifNo A hx rfl (hb hby at_154) rfl ((if0 _ _).trans (feq (by decide)).1) k) ?_
      refine gs (mkF m 159 #[.val (.int x0), .val (.int x1), .val (.int x2), .val (.int x3), .val (.int x4), .val (.int x5), .val (.ref b1), .val (.ref b2), .val (.ref b3), .val (.ref b4), .val (.ref b5), .val (.ref r6), .val (.ref r11), .val (.ref b12), .val (.ref b15), .val (.ref b18), .val (.ref b21), .val (.ref b24), .val (.ref b27), .val (.int (0 : Int32)), .unset] [(.ref b2)]) (fun _ _ A k => XS.aload A hx rfl (hb hby at_157) rfl rfl k) ?_
      refine gs (mkF m 161 #[.val (.int x0), .val (.int x1), .val (.int x2), .val (.int x3), .val (.int x4), .val (.int x5), .val (.ref b1), .val (.ref b2), .val (.ref b3), .val (.ref b4), .val (.ref b5), .val (.ref r6), .val (.ref r11), .val (.ref b12), .val (.ref b15), .val (.ref b18), .val (.ref b21), .val (.ref b24), .val (.ref b27), .val (.int (0 : Int32)), .unset] [(.ref r11), (.ref b2)]) (fun _ _ A k => XS.aload A hx rfl (hb hby at_159) rfl rfl k) ?_
      have f52 := (((((((((f17.keep K16 (ninS (Nat.ne_of_lt (by omega)) nin0)).ext E18).keep K19 (ninS (Nat.ne_of_lt (by omega)) nin0)).ext E21).keep K22 (ninS (Nat.ne_of_lt (by omega)) nin0)).ext E24).keep K25 (ninS (Nat.ne_of_lt (by omega)) nin0)).ext E27).keep K28 (ninS (Nat.ne_of_lt (by omega)) nin0))
      have f53 := (((f26.keep K25 (ninS (Nat.ne_of_lt (by omega)) nin0)).ext E27).keep K28 (ninS (Nat.ne_of_lt (by omega)) nin0))
      refine ginfo fun _ _ O51 => ?_
      refine gcallS (y := (⟨"com/example/backfill/backfill/migration/NotNullCheckReadsPinLaw", "same", "([C[C)Z"⟩ : MethodName)) hx (ow hw 70 rfl) (ow hw 71 rfl) (ow hw 2 rfl) (ow hw 72 rfl) (by decide) (fun hZ H hEL => Pay.of_met (W := 0) (own_same l Z a0 cx [] (b2) (r11) (cs2) (cs11) ((0 : Int32)) vm48 h28 O51 f52 f53 (by first | assumption | decide | omega) (by first | assumption | decide | omega) ⟨fun q => absurd q e2, fun _ => rfl⟩) (ow hw 72 rfl) (ow hw 2 rfl) (by decide) (by decide) hZ H hEL) 164 (argsL := [(.ref b2), (.ref r11)]) (rest := []) (lenOf own_pd162 rfl) rfl rfl (Nat.le_of_eq rfl) (by rw [hml]; rfl) (hb hby at_161) rfl (by decide) (by decide) ?_
      rintro _ vm51 h51 C51 ⟨rfl, rfl⟩
      have z51 := C51.2.1
      refine gat (mkF m 164 #[.val (.int x0), .val (.int x1), .val (.int x2), .val (.int x3), .val (.int x4), .val (.int x5), .val (.ref b1), .val (.ref b2), .val (.ref b3), .val (.ref b4), .val (.ref b5), .val (.ref r6), .val (.ref r11), .val (.ref b12), .val (.ref b15), .val (.ref b18), .val (.ref b21), .val (.ref b24), .val (.ref b27), .val (.int (0 : Int32)), .unset] [(.int (0 : Int32))]) rfl ?_
      refine gs (mkF m 171 #[.val (.int x0), .val (.int x1), .val (.int x2), .val (.int x3), .val (.int x4), .val (.int x5), .val (.ref b1), .val (.ref b2), .val (.ref b3), .val (.ref b4), .val (.ref b5), .val (.ref r6), .val (.ref r11), .val (.ref b12), .val (.ref b15), .val (.ref b18), .val (.ref b21), .val (.ref b24), .val (.ref b27), .val (.int (0 : Int32)), .unset] []) (fun _ _ A k => XS.ifYes A hx rfl (pc0 := 164) (pc' := 171) rfl (hb hby at_164) rfl ((if0 _ _).trans (teq (by decide)).1) (by decide) (by decide) k) ?_
      refine gs (mkF m 172 #[.val (.int x0), .val (.int x1), .val (.int x2), .val (.int x3), .val (.int x4), .val (.int x5), .val (.ref b1), .val (.ref b2), .val (.ref b3), .val (.ref b4), .val (.ref b5), .val (.ref r6), .val (.ref r11), .val (.ref b12), .val (.ref b15), .val (.ref b18), .val (.ref b21), .val (.ref b24), .val (.ref b27), .val (.int (0 : Int32)), .unset] [(.int (0 : Int32))]) (fun _ _ A k => XS.iconst A hx rfl (hb hby at_171) k) ?_
      refine gs (mkF m 174 #[.val (.int x0), .val (.int x1), .val (.int x2), .val (.int x3), .val (.int x4), .val (.int x5), .val (.ref b1), .val (.ref b2), .val (.ref b3), .val (.ref b4), .val (.ref b5), .val (.ref r6), .val (.ref r11), .val (.ref b12), .val (.ref b15), .val (.ref b18), .val (.ref b21), .val (.ref b24), .val (.ref b27), .val (.int (0 : Int32)), .val (.int (0 : Int32))] []) (fun _ _ A k => XS.istore A hx rfl (hb hby at_172) rfl (l' := #[.val (.int x0), .val (.int x1), .val (.int x2), .val (.int x3), .val (.int x4), .val (.int x5), .val (.ref b1), .val (.ref b2), .val (.ref b3), .val (.ref b4), .val (.ref b5), .val (.ref r6), .val (.ref r11), .val (.ref b12), .val (.ref b15), .val (.ref b18), .val (.ref b21), .val (.ref b24), .val (.ref b27), .val (.int (0 : Int32)), .val (.int (0 : Int32))]) rfl k) ?_
      refine gs (mkF m 176 #[.val (.int x0), .val (.int x1), .val (.int x2), .val (.int x3), .val (.int x4), .val (.int x5), .val (.ref b1), .val (.ref b2), .val (.ref b3), .val (.ref b4), .val (.ref b5), .val (.ref r6), .val (.ref r11), .val (.ref b12), .val (.ref b15), .val (.ref b18), .val (.ref b21), .val (.ref b24), .val (.ref b27), .val (.int (0 : Int32)), .val (.int (0 : Int32))] [(.int (0 : Int32))]) (fun _ _ A k => XS.iload A hx rfl (hb hby at_174) rfl  k) ?_
      refine gs (mkF m 178 #[.val (.int x0), .val (.int x1), .val (.int x2), .val (.int x3), .val (.int x4), .val (.int x5), .val (.ref b1), .val (.ref b2), .val (.ref b3), .val (.ref b4), .val (.ref b5), .val (.ref r6), .val (.ref r11), .val (.ref b12), .val (.ref b15), .val (.ref b18), .val (.ref b21), .val (.ref b24), .val (.ref b27), .val (.int (0 : Int32)), .val (.int (0 : Int32))] [(.int (0 : Int32)), (.int (0 : Int32))]) (fun _ _ A k => XS.iload A hx rfl (hb hby at_176) rfl  k) ?_
      refine gs (mkF m 181 #[.val (.int x0), .val (.int x1), .val (.int x2), .val (.int x3), .val (.int x4), .val (.int x5), .val (.ref b1), .val (.ref b2), .val (.ref b3), .val (.ref b4), .val (.ref b5), .val (.ref r6), .val (.ref r11), .val (.ref b12), .val (.ref b15), .val (.ref b18), .val (.ref b21), .val (.ref b24), .val (.ref b27), .val (.int (0 : Int32)), .val (.int (0 : Int32))] []) (fun _ _ A k => XS.icmpNo A hx rfl (hb hby at_178) rfl (teq (by decide)).2 k) ?_
      refine gs (mkF m 182 #[.val (.int x0), .val (.int x1), .val (.int x2), .val (.int x3), .val (.int x4), .val (.int x5), .val (.ref b1), .val (.ref b2), .val (.ref b3), .val (.ref b4), .val (.ref b5), .val (.ref r6), .val (.ref r11), .val (.ref b12), .val (.ref b15), .val (.ref b18), .val (.ref b21), .val (.ref b24), .val (.ref b27), .val (.int (0 : Int32)), .val (.int (0 : Int32))] [(.int (1 : Int32))]) (fun _ _ A k => XS.iconst A hx rfl (hb hby at_181) k) ?_
      refine gs (mkF m 186 #[.val (.int x0), .val (.int x1), .val (.int x2), .val (.int x3), .val (.int x4), .val (.int x5), .val (.ref b1), .val (.ref b2), .val (.ref b3), .val (.ref b4), .val (.ref b5), .val (.ref r6), .val (.ref r11), .val (.ref b12), .val (.ref b15), .val (.ref b18), .val (.ref b21), .val (.ref b24), .val (.ref b27), .val (.int (0 : Int32)), .val (.int (0 : Int32))] [(.int (1 : Int32))]) (fun _ _ A k => XS.goto A hx rfl (pc0 := 182) (pc' := 186) rfl (hb hby at_182) (by decide) (by decide) k) ?_
      exact gretN (t := .boolean) hx hret (by simp) (hb hby at_186) (by decide) (by decide) (fun vq Cq => ⟨rfl, ((((((((((((((((((Keep.refl h0 []).trans K1 all0).trans K2 all0).trans K3 all0).trans K4 all0).trans K5 all0).ext E12).trans K13 (allS (Or.inr (by omega)) all0)).ext E15).trans K16 (allS (Or.inr (by omega)) all0)).ext E18).trans K19 (allS (Or.inr (by omega)) all0)).ext E21).trans K22 (allS (Or.inr (by omega)) all0)).ext E24).trans K25 (allS (Or.inr (by omega)) all0)).ext E27).trans K28 (allS (Or.inr (by omega)) all0))⟩)
  · by_cases e2 : cs2 = cs11
    · refine gs (mkF m 138 #[.val (.int x0), .val (.int x1), .val (.int x2), .val (.int x3), .val (.int x4), .val (.int x5), .val (.ref b1), .val (.ref b2), .val (.ref b3), .val (.ref b4), .val (.ref b5), .val (.ref r6), .val (.ref r11), .val (.ref b12), .val (.ref b15), .val (.ref b18), .val (.ref b21), .val (.ref b24), .val (.ref b27), .unset, .unset] [(.ref b27)]) (fun _ _ A k => XS.aload A hx rfl (hb hby at_136) rfl rfl k) ?_
      refine gs (mkF m 140 #[.val (.int x0), .val (.int x1), .val (.int x2), .val (.int x3), .val (.int x4), .val (.int x5), .val (.ref b1), .val (.ref b2), .val (.ref b3), .val (.ref b4), .val (.ref b5), .val (.ref r6), .val (.ref r11), .val (.ref b12), .val (.ref b15), .val (.ref b18), .val (.ref b21), .val (.ref b24), .val (.ref b27), .unset, .unset] [(.ref b21), (.ref b27)]) (fun _ _ A k => XS.aload A hx rfl (hb hby at_138) rfl rfl k) ?_
      refine gs (mkF m 142 #[.val (.int x0), .val (.int x1), .val (.int x2), .val (.int x3), .val (.int x4), .val (.int x5), .val (.ref b1), .val (.ref b2), .val (.ref b3), .val (.ref b4), .val (.ref b5), .val (.ref r6), .val (.ref r11), .val (.ref b12), .val (.ref b15), .val (.ref b18), .val (.ref b21), .val (.ref b24), .val (.ref b27), .unset, .unset] [(.ref b24), (.ref b21), (.ref b27)]) (fun _ _ A k => XS.aload A hx rfl (hb hby at_140) rfl rfl k) ?_
      have f56 := ((((((((((S13.ext E15).keep K16 (ninS (Nat.ne_of_lt (by omega)) nin0) (ninS (Nat.ne_of_lt (by omega)) nin0)).ext E18).keep K19 (ninS (Nat.ne_of_lt (by omega)) nin0) (ninS (Nat.ne_of_lt (by omega)) nin0)).ext E21).keep K22 (ninS (Nat.ne_of_lt (by omega)) nin0) (ninS (Nat.ne_of_lt (by omega)) nin0)).ext E24).keep K25 (ninS (Nat.ne_of_lt (by omega)) nin0) (ninS (Nat.ne_of_lt (by omega)) nin0)).ext E27).keep K28 (ninS (Nat.ne_of_lt (by omega)) nin0) (ninS (Nat.ne_of_lt (by omega)) nin0))
      have f57 := ((((((((S16.ext E18).keep K19 (ninS (Nat.ne_of_lt (by omega)) nin0) (ninS (Nat.ne_of_lt (by omega)) nin0)).ext E21).keep K22 (ninS (Nat.ne_of_lt (by omega)) nin0) (ninS (Nat.ne_of_lt (by omega)) nin0)).ext E24).keep K25 (ninS (Nat.ne_of_lt (by omega)) nin0) (ninS (Nat.ne_of_lt (by omega)) nin0)).ext E27).keep K28 (ninS (Nat.ne_of_lt (by omega)) nin0) (ninS (Nat.ne_of_lt (by omega)) nin0))
      have f58 := ((((S22.ext E24).keep K25 (ninS (Nat.ne_of_lt (by omega)) nin0) (ninS (Nat.ne_of_lt (by omega)) nin0)).ext E27).keep K28 (ninS (Nat.ne_of_lt (by omega)) nin0) (ninS (Nat.ne_of_lt (by omega)) nin0))
      have f59 := ((S25.ext E27).keep K28 (ninS (Nat.ne_of_lt (by omega)) nin0) (ninS (Nat.ne_of_lt (by omega)) nin0))
      refine ginfo fun _ _ O55 => ?_
      have f60 := (A27.keep K28)
      refine gcallV (y := (⟨"com/example/backfill/backfill/migration/NotNullCheck", "reads", "(Ljava/lang/String;Ljava/lang/String;)Z"⟩ : MethodName)) (z := (⟨"com/example/backfill/backfill/migration/NotNullCheck", "reads", "(Ljava/lang/String;Ljava/lang/String;)Z"⟩ : MethodName)) hx (ow hw 54 rfl) (ow hw 55 rfl) (nfSel (ow hw 57 rfl)) (ow hw 57 rfl) (ow hw 56 rfl) (by decide) (fun hZ H hEL => Pay.of_met (W := 0) (own_reads l Z a0 cx [] (b27) (b12) (b15) (b21) (b24) (t13) (t16) (t22) (t25) (cs1) (cs2) (cs6) (cs11) ((0 : Int32)) vm28 h28 O55 q28_0 q28_1 f56 f57 f58 f59 ⟨fun q => absurd q.1 e1, fun _ => rfl⟩) (ow hw 58 rfl) (ow hw 31 rfl) (by decide) (by decide) hZ H hEL) 145 (argsL := [(.ref b21), (.ref b24)]) (rest := []) f60 (lenOf own_pd161 rfl) rfl rfl (Nat.le_of_eq rfl) (by rw [hml]; rfl) (hb hby at_142) rfl (by decide) (by decide) ?_
      rintro _ vm55 h55 C55 ⟨rfl, rfl⟩
      have z55 := C55.2.1
      refine gat (mkF m 145 #[.val (.int x0), .val (.int x1), .val (.int x2), .val (.int x3), .val (.int x4), .val (.int x5), .val (.ref b1), .val (.ref b2), .val (.ref b3), .val (.ref b4), .val (.ref b5), .val (.ref r6), .val (.ref r11), .val (.ref b12), .val (.ref b15), .val (.ref b18), .val (.ref b21), .val (.ref b24), .val (.ref b27), .unset, .unset] [(.int (0 : Int32))]) rfl ?_
      refine gs (mkF m 147 #[.val (.int x0), .val (.int x1), .val (.int x2), .val (.int x3), .val (.int x4), .val (.int x5), .val (.ref b1), .val (.ref b2), .val (.ref b3), .val (.ref b4), .val (.ref b5), .val (.ref r6), .val (.ref r11), .val (.ref b12), .val (.ref b15), .val (.ref b18), .val (.ref b21), .val (.ref b24), .val (.ref b27), .val (.int (0 : Int32)), .unset] []) (fun _ _ A k => XS.istore A hx rfl (hb hby at_145) rfl (l' := #[.val (.int x0), .val (.int x1), .val (.int x2), .val (.int x3), .val (.int x4), .val (.int x5), .val (.ref b1), .val (.ref b2), .val (.ref b3), .val (.ref b4), .val (.ref b5), .val (.ref r6), .val (.ref r11), .val (.ref b12), .val (.ref b15), .val (.ref b18), .val (.ref b21), .val (.ref b24), .val (.ref b27), .val (.int (0 : Int32)), .unset]) rfl k) ?_
      refine gs (mkF m 149 #[.val (.int x0), .val (.int x1), .val (.int x2), .val (.int x3), .val (.int x4), .val (.int x5), .val (.ref b1), .val (.ref b2), .val (.ref b3), .val (.ref b4), .val (.ref b5), .val (.ref r6), .val (.ref r11), .val (.ref b12), .val (.ref b15), .val (.ref b18), .val (.ref b21), .val (.ref b24), .val (.ref b27), .val (.int (0 : Int32)), .unset] [(.ref b1)]) (fun _ _ A k => XS.aload A hx rfl (hb hby at_147) rfl rfl k) ?_
      refine gs (mkF m 151 #[.val (.int x0), .val (.int x1), .val (.int x2), .val (.int x3), .val (.int x4), .val (.int x5), .val (.ref b1), .val (.ref b2), .val (.ref b3), .val (.ref b4), .val (.ref b5), .val (.ref r6), .val (.ref r11), .val (.ref b12), .val (.ref b15), .val (.ref b18), .val (.ref b21), .val (.ref b24), .val (.ref b27), .val (.int (0 : Int32)), .unset] [(.ref r6), (.ref b1)]) (fun _ _ A k => XS.aload A hx rfl (hb hby at_149) rfl rfl k) ?_
      have f62 := (((((((((((f14.keep K13 (ninS (Nat.ne_of_lt (by omega)) nin0)).ext E15).keep K16 (ninS (Nat.ne_of_lt (by omega)) nin0)).ext E18).keep K19 (ninS (Nat.ne_of_lt (by omega)) nin0)).ext E21).keep K22 (ninS (Nat.ne_of_lt (by omega)) nin0)).ext E24).keep K25 (ninS (Nat.ne_of_lt (by omega)) nin0)).ext E27).keep K28 (ninS (Nat.ne_of_lt (by omega)) nin0))
      have f63 := (((((f23.keep K22 (ninS (Nat.ne_of_lt (by omega)) nin0)).ext E24).keep K25 (ninS (Nat.ne_of_lt (by omega)) nin0)).ext E27).keep K28 (ninS (Nat.ne_of_lt (by omega)) nin0))
      refine ginfo fun _ _ O61 => ?_
      refine gcallS (y := (⟨"com/example/backfill/backfill/migration/NotNullCheckReadsPinLaw", "same", "([C[C)Z"⟩ : MethodName)) hx (ow hw 70 rfl) (ow hw 71 rfl) (ow hw 2 rfl) (ow hw 72 rfl) (by decide) (fun hZ H hEL => Pay.of_met (W := 0) (own_same l Z a0 cx [] (b1) (r6) (cs1) (cs6) ((0 : Int32)) vm55 h28 O61 f62 f63 (by first | assumption | decide | omega) (by first | assumption | decide | omega) ⟨fun q => absurd q e1, fun _ => rfl⟩) (ow hw 72 rfl) (ow hw 2 rfl) (by decide) (by decide) hZ H hEL) 154 (argsL := [(.ref b1), (.ref r6)]) (rest := []) (lenOf own_pd162 rfl) rfl rfl (Nat.le_of_eq rfl) (by rw [hml]; rfl) (hb hby at_151) rfl (by decide) (by decide) ?_
      rintro _ vm61 h61 C61 ⟨rfl, rfl⟩
      have z61 := C61.2.1
      refine gat (mkF m 154 #[.val (.int x0), .val (.int x1), .val (.int x2), .val (.int x3), .val (.int x4), .val (.int x5), .val (.ref b1), .val (.ref b2), .val (.ref b3), .val (.ref b4), .val (.ref b5), .val (.ref r6), .val (.ref r11), .val (.ref b12), .val (.ref b15), .val (.ref b18), .val (.ref b21), .val (.ref b24), .val (.ref b27), .val (.int (0 : Int32)), .unset] [(.int (0 : Int32))]) rfl ?_
      refine gs (mkF m 171 #[.val (.int x0), .val (.int x1), .val (.int x2), .val (.int x3), .val (.int x4), .val (.int x5), .val (.ref b1), .val (.ref b2), .val (.ref b3), .val (.ref b4), .val (.ref b5), .val (.ref r6), .val (.ref r11), .val (.ref b12), .val (.ref b15), .val (.ref b18), .val (.ref b21), .val (.ref b24), .val (.ref b27), .val (.int (0 : Int32)), .unset] []) (fun _ _ A k => XS.ifYes A hx rfl (pc0 := 154) (pc' := 171) rfl (hb hby at_154) rfl ((if0 _ _).trans (teq (by decide)).1) (by decide) (by decide) k) ?_
      refine gs (mkF m 172 #[.val (.int x0), .val (.int x1), .val (.int x2), .val (.int x3), .val (.int x4), .val (.int x5), .val (.ref b1), .val (.ref b2), .val (.ref b3), .val (.ref b4), .val (.ref b5), .val (.ref r6), .val (.ref r11), .val (.ref b12), .val (.ref b15), .val (.ref b18), .val (.ref b21), .val (.ref b24), .val (.ref b27), .val (.int (0 : Int32)), .unset] [(.int (0 : Int32))]) (fun _ _ A k => XS.iconst A hx rfl (hb hby at_171) k) ?_
      refine gs (mkF m 174 #[.val (.int x0), .val (.int x1), .val (.int x2), .val (.int x3), .val (.int x4), .val (.int x5), .val (.ref b1), .val (.ref b2), .val (.ref b3), .val (.ref b4), .val (.ref b5), .val (.ref r6), .val (.ref r11), .val (.ref b12), .val (.ref b15), .val (.ref b18), .val (.ref b21), .val (.ref b24), .val (.ref b27), .val (.int (0 : Int32)), .val (.int (0 : Int32))] []) (fun _ _ A k => XS.istore A hx rfl (hb hby at_172) rfl (l' := #[.val (.int x0), .val (.int x1), .val (.int x2), .val (.int x3), .val (.int x4), .val (.int x5), .val (.ref b1), .val (.ref b2), .val (.ref b3), .val (.ref b4), .val (.ref b5), .val (.ref r6), .val (.ref r11), .val (.ref b12), .val (.ref b15), .val (.ref b18), .val (.ref b21), .val (.ref b24), .val (.ref b27), .val (.int (0 : Int32)), .val (.int (0 : Int32))]) rfl k) ?_
      refine gs (mkF m 176 #[.val (.int x0), .val (.int x1), .val (.int x2), .val (.int x3), .val (.int x4), .val (.int x5), .val (.ref b1), .val (.ref b2), .val (.ref b3), .val (.ref b4), .val (.ref b5), .val (.ref r6), .val (.ref r11), .val (.ref b12), .val (.ref b15), .val (.ref b18), .val (.ref b21), .val (.ref b24), .val (.ref b27), .val (.int (0 : Int32)), .val (.int (0 : Int32))] [(.int (0 : Int32))]) (fun _ _ A k => XS.iload A hx rfl (hb hby at_174) rfl  k) ?_
      refine gs (mkF m 178 #[.val (.int x0), .val (.int x1), .val (.int x2), .val (.int x3), .val (.int x4), .val (.int x5), .val (.ref b1), .val (.ref b2), .val (.ref b3), .val (.ref b4), .val (.ref b5), .val (.ref r6), .val (.ref r11), .val (.ref b12), .val (.ref b15), .val (.ref b18), .val (.ref b21), .val (.ref b24), .val (.ref b27), .val (.int (0 : Int32)), .val (.int (0 : Int32))] [(.int (0 : Int32)), (.int (0 : Int32))]) (fun _ _ A k => XS.iload A hx rfl (hb hby at_176) rfl  k) ?_
      refine gs (mkF m 181 #[.val (.int x0), .val (.int x1), .val (.int x2), .val (.int x3), .val (.int x4), .val (.int x5), .val (.ref b1), .val (.ref b2), .val (.ref b3), .val (.ref b4), .val (.ref b5), .val (.ref r6), .val (.ref r11), .val (.ref b12), .val (.ref b15), .val (.ref b18), .val (.ref b21), .val (.ref b24), .val (.ref b27), .val (.int (0 : Int32)), .val (.int (0 : Int32))] []) (fun _ _ A k => XS.icmpNo A hx rfl (hb hby at_178) rfl (teq (by decide)).2 k) ?_
      refine gs (mkF m 182 #[.val (.int x0), .val (.int x1), .val (.int x2), .val (.int x3), .val (.int x4), .val (.int x5), .val (.ref b1), .val (.ref b2), .val (.ref b3), .val (.ref b4), .val (.ref b5), .val (.ref r6), .val (.ref r11), .val (.ref b12), .val (.ref b15), .val (.ref b18), .val (.ref b21), .val (.ref b24), .val (.ref b27), .val (.int (0 : Int32)), .val (.int (0 : Int32))] [(.int (1 : Int32))]) (fun _ _ A k => XS.iconst A hx rfl (hb hby at_181) k) ?_
      refine gs (mkF m 186 #[.val (.int x0), .val (.int x1), .val (.int x2), .val (.int x3), .val (.int x4), .val (.int x5), .val (.ref b1), .val (.ref b2), .val (.ref b3), .val (.ref b4), .val (.ref b5), .val (.ref r6), .val (.ref r11), .val (.ref b12), .val (.ref b15), .val (.ref b18), .val (.ref b21), .val (.ref b24), .val (.ref b27), .val (.int (0 : Int32)), .val (.int (0 : Int32))] [(.int (1 : Int32))]) (fun _ _ A k => XS.goto A hx rfl (pc0 := 182) (pc' := 186) rfl (hb hby at_182) (by decide) (by decide) k) ?_
      exact gretN (t := .boolean) hx hret (by simp) (hb hby at_186) (by decide) (by decide) (fun vq Cq => ⟨rfl, ((((((((((((((((((Keep.refl h0 []).trans K1 all0).trans K2 all0).trans K3 all0).trans K4 all0).trans K5 all0).ext E12).trans K13 (allS (Or.inr (by omega)) all0)).ext E15).trans K16 (allS (Or.inr (by omega)) all0)).ext E18).trans K19 (allS (Or.inr (by omega)) all0)).ext E21).trans K22 (allS (Or.inr (by omega)) all0)).ext E24).trans K25 (allS (Or.inr (by omega)) all0)).ext E27).trans K28 (allS (Or.inr (by omega)) all0))⟩)
    · refine gs (mkF m 138 #[.val (.int x0), .val (.int x1), .val (.int x2), .val (.int x3), .val (.int x4), .val (.int x5), .val (.ref b1), .val (.ref b2), .val (.ref b3), .val (.ref b4), .val (.ref b5), .val (.ref r6), .val (.ref r11), .val (.ref b12), .val (.ref b15), .val (.ref b18), .val (.ref b21), .val (.ref b24), .val (.ref b27), .unset, .unset] [(.ref b27)]) (fun _ _ A k => XS.aload A hx rfl (hb hby at_136) rfl rfl k) ?_
      refine gs (mkF m 140 #[.val (.int x0), .val (.int x1), .val (.int x2), .val (.int x3), .val (.int x4), .val (.int x5), .val (.ref b1), .val (.ref b2), .val (.ref b3), .val (.ref b4), .val (.ref b5), .val (.ref r6), .val (.ref r11), .val (.ref b12), .val (.ref b15), .val (.ref b18), .val (.ref b21), .val (.ref b24), .val (.ref b27), .unset, .unset] [(.ref b21), (.ref b27)]) (fun _ _ A k => XS.aload A hx rfl (hb hby at_138) rfl rfl k) ?_
      refine gs (mkF m 142 #[.val (.int x0), .val (.int x1), .val (.int x2), .val (.int x3), .val (.int x4), .val (.int x5), .val (.ref b1), .val (.ref b2), .val (.ref b3), .val (.ref b4), .val (.ref b5), .val (.ref r6), .val (.ref r11), .val (.ref b12), .val (.ref b15), .val (.ref b18), .val (.ref b21), .val (.ref b24), .val (.ref b27), .unset, .unset] [(.ref b24), (.ref b21), (.ref b27)]) (fun _ _ A k => XS.aload A hx rfl (hb hby at_140) rfl rfl k) ?_
      have f66 := ((((((((((S13.ext E15).keep K16 (ninS (Nat.ne_of_lt (by omega)) nin0) (ninS (Nat.ne_of_lt (by omega)) nin0)).ext E18).keep K19 (ninS (Nat.ne_of_lt (by omega)) nin0) (ninS (Nat.ne_of_lt (by omega)) nin0)).ext E21).keep K22 (ninS (Nat.ne_of_lt (by omega)) nin0) (ninS (Nat.ne_of_lt (by omega)) nin0)).ext E24).keep K25 (ninS (Nat.ne_of_lt (by omega)) nin0) (ninS (Nat.ne_of_lt (by omega)) nin0)).ext E27).keep K28 (ninS (Nat.ne_of_lt (by omega)) nin0) (ninS (Nat.ne_of_lt (by omega)) nin0))
      have f67 := ((((((((S16.ext E18).keep K19 (ninS (Nat.ne_of_lt (by omega)) nin0) (ninS (Nat.ne_of_lt (by omega)) nin0)).ext E21).keep K22 (ninS (Nat.ne_of_lt (by omega)) nin0) (ninS (Nat.ne_of_lt (by omega)) nin0)).ext E24).keep K25 (ninS (Nat.ne_of_lt (by omega)) nin0) (ninS (Nat.ne_of_lt (by omega)) nin0)).ext E27).keep K28 (ninS (Nat.ne_of_lt (by omega)) nin0) (ninS (Nat.ne_of_lt (by omega)) nin0))
      have f68 := ((((S22.ext E24).keep K25 (ninS (Nat.ne_of_lt (by omega)) nin0) (ninS (Nat.ne_of_lt (by omega)) nin0)).ext E27).keep K28 (ninS (Nat.ne_of_lt (by omega)) nin0) (ninS (Nat.ne_of_lt (by omega)) nin0))
      have f69 := ((S25.ext E27).keep K28 (ninS (Nat.ne_of_lt (by omega)) nin0) (ninS (Nat.ne_of_lt (by omega)) nin0))
      refine ginfo fun _ _ O65 => ?_
      have f70 := (A27.keep K28)
      refine gcallV (y := (⟨"com/example/backfill/backfill/migration/NotNullCheck", "reads", "(Ljava/lang/String;Ljava/lang/String;)Z"⟩ : MethodName)) (z := (⟨"com/example/backfill/backfill/migration/NotNullCheck", "reads", "(Ljava/lang/String;Ljava/lang/String;)Z"⟩ : MethodName)) hx (ow hw 54 rfl) (ow hw 55 rfl) (nfSel (ow hw 57 rfl)) (ow hw 57 rfl) (ow hw 56 rfl) (by decide) (fun hZ H hEL => Pay.of_met (W := 0) (own_reads l Z a0 cx [] (b27) (b12) (b15) (b21) (b24) (t13) (t16) (t22) (t25) (cs1) (cs2) (cs6) (cs11) ((0 : Int32)) vm28 h28 O65 q28_0 q28_1 f66 f67 f68 f69 ⟨fun q => absurd q.1 e1, fun _ => rfl⟩) (ow hw 58 rfl) (ow hw 31 rfl) (by decide) (by decide) hZ H hEL) 145 (argsL := [(.ref b21), (.ref b24)]) (rest := []) f70 (lenOf own_pd161 rfl) rfl rfl (Nat.le_of_eq rfl) (by rw [hml]; rfl) (hb hby at_142) rfl (by decide) (by decide) ?_
      rintro _ vm65 h65 C65 ⟨rfl, rfl⟩
      have z65 := C65.2.1
      refine gat (mkF m 145 #[.val (.int x0), .val (.int x1), .val (.int x2), .val (.int x3), .val (.int x4), .val (.int x5), .val (.ref b1), .val (.ref b2), .val (.ref b3), .val (.ref b4), .val (.ref b5), .val (.ref r6), .val (.ref r11), .val (.ref b12), .val (.ref b15), .val (.ref b18), .val (.ref b21), .val (.ref b24), .val (.ref b27), .unset, .unset] [(.int (0 : Int32))]) rfl ?_
      refine gs (mkF m 147 #[.val (.int x0), .val (.int x1), .val (.int x2), .val (.int x3), .val (.int x4), .val (.int x5), .val (.ref b1), .val (.ref b2), .val (.ref b3), .val (.ref b4), .val (.ref b5), .val (.ref r6), .val (.ref r11), .val (.ref b12), .val (.ref b15), .val (.ref b18), .val (.ref b21), .val (.ref b24), .val (.ref b27), .val (.int (0 : Int32)), .unset] []) (fun _ _ A k => XS.istore A hx rfl (hb hby at_145) rfl (l' := #[.val (.int x0), .val (.int x1), .val (.int x2), .val (.int x3), .val (.int x4), .val (.int x5), .val (.ref b1), .val (.ref b2), .val (.ref b3), .val (.ref b4), .val (.ref b5), .val (.ref r6), .val (.ref r11), .val (.ref b12), .val (.ref b15), .val (.ref b18), .val (.ref b21), .val (.ref b24), .val (.ref b27), .val (.int (0 : Int32)), .unset]) rfl k) ?_
      refine gs (mkF m 149 #[.val (.int x0), .val (.int x1), .val (.int x2), .val (.int x3), .val (.int x4), .val (.int x5), .val (.ref b1), .val (.ref b2), .val (.ref b3), .val (.ref b4), .val (.ref b5), .val (.ref r6), .val (.ref r11), .val (.ref b12), .val (.ref b15), .val (.ref b18), .val (.ref b21), .val (.ref b24), .val (.ref b27), .val (.int (0 : Int32)), .unset] [(.ref b1)]) (fun _ _ A k => XS.aload A hx rfl (hb hby at_147) rfl rfl k) ?_
      refine gs (mkF m 151 #[.val (.int x0), .val (.int x1), .val (.int x2), .val (.int x3), .val (.int x4), .val (.int x5), .val (.ref b1), .val (.ref b2), .val (.ref b3), .val (.ref b4), .val (.ref b5), .val (.ref r6), .val (.ref r11), .val (.ref b12), .val (.ref b15), .val (.ref b18), .val (.ref b21), .val (.ref b24), .val (.ref b27), .val (.int (0 : Int32)), .unset] [(.ref r6), (.ref b1)]) (fun _ _ A k => XS.aload A hx rfl (hb hby at_149) rfl rfl k) ?_
      have f72 := (((((((((((f14.keep K13 (ninS (Nat.ne_of_lt (by omega)) nin0)).ext E15).keep K16 (ninS (Nat.ne_of_lt (by omega)) nin0)).ext E18).keep K19 (ninS (Nat.ne_of_lt (by omega)) nin0)).ext E21).keep K22 (ninS (Nat.ne_of_lt (by omega)) nin0)).ext E24).keep K25 (ninS (Nat.ne_of_lt (by omega)) nin0)).ext E27).keep K28 (ninS (Nat.ne_of_lt (by omega)) nin0))
      have f73 := (((((f23.keep K22 (ninS (Nat.ne_of_lt (by omega)) nin0)).ext E24).keep K25 (ninS (Nat.ne_of_lt (by omega)) nin0)).ext E27).keep K28 (ninS (Nat.ne_of_lt (by omega)) nin0))
      refine ginfo fun _ _ O71 => ?_
      refine gcallS (y := (⟨"com/example/backfill/backfill/migration/NotNullCheckReadsPinLaw", "same", "([C[C)Z"⟩ : MethodName)) hx (ow hw 70 rfl) (ow hw 71 rfl) (ow hw 2 rfl) (ow hw 72 rfl) (by decide) (fun hZ H hEL => Pay.of_met (W := 0) (own_same l Z a0 cx [] (b1) (r6) (cs1) (cs6) ((0 : Int32)) vm65 h28 O71 f72 f73 (by first | assumption | decide | omega) (by first | assumption | decide | omega) ⟨fun q => absurd q e1, fun _ => rfl⟩) (ow hw 72 rfl) (ow hw 2 rfl) (by decide) (by decide) hZ H hEL) 154 (argsL := [(.ref b1), (.ref r6)]) (rest := []) (lenOf own_pd162 rfl) rfl rfl (Nat.le_of_eq rfl) (by rw [hml]; rfl) (hb hby at_151) rfl (by decide) (by decide) ?_
      rintro _ vm71 h71 C71 ⟨rfl, rfl⟩
      have z71 := C71.2.1
      refine gat (mkF m 154 #[.val (.int x0), .val (.int x1), .val (.int x2), .val (.int x3), .val (.int x4), .val (.int x5), .val (.ref b1), .val (.ref b2), .val (.ref b3), .val (.ref b4), .val (.ref b5), .val (.ref r6), .val (.ref r11), .val (.ref b12), .val (.ref b15), .val (.ref b18), .val (.ref b21), .val (.ref b24), .val (.ref b27), .val (.int (0 : Int32)), .unset] [(.int (0 : Int32))]) rfl ?_
      refine gs (mkF m 171 #[.val (.int x0), .val (.int x1), .val (.int x2), .val (.int x3), .val (.int x4), .val (.int x5), .val (.ref b1), .val (.ref b2), .val (.ref b3), .val (.ref b4), .val (.ref b5), .val (.ref r6), .val (.ref r11), .val (.ref b12), .val (.ref b15), .val (.ref b18), .val (.ref b21), .val (.ref b24), .val (.ref b27), .val (.int (0 : Int32)), .unset] []) (fun _ _ A k => XS.ifYes A hx rfl (pc0 := 154) (pc' := 171) rfl (hb hby at_154) rfl ((if0 _ _).trans (teq (by decide)).1) (by decide) (by decide) k) ?_
      refine gs (mkF m 172 #[.val (.int x0), .val (.int x1), .val (.int x2), .val (.int x3), .val (.int x4), .val (.int x5), .val (.ref b1), .val (.ref b2), .val (.ref b3), .val (.ref b4), .val (.ref b5), .val (.ref r6), .val (.ref r11), .val (.ref b12), .val (.ref b15), .val (.ref b18), .val (.ref b21), .val (.ref b24), .val (.ref b27), .val (.int (0 : Int32)), .unset] [(.int (0 : Int32))]) (fun _ _ A k => XS.iconst A hx rfl (hb hby at_171) k) ?_
      refine gs (mkF m 174 #[.val (.int x0), .val (.int x1), .val (.int x2), .val (.int x3), .val (.int x4), .val (.int x5), .val (.ref b1), .val (.ref b2), .val (.ref b3), .val (.ref b4), .val (.ref b5), .val (.ref r6), .val (.ref r11), .val (.ref b12), .val (.ref b15), .val (.ref b18), .val (.ref b21), .val (.ref b24), .val (.ref b27), .val (.int (0 : Int32)), .val (.int (0 : Int32))] []) (fun _ _ A k => XS.istore A hx rfl (hb hby at_172) rfl (l' := #[.val (.int x0), .val (.int x1), .val (.int x2), .val (.int x3), .val (.int x4), .val (.int x5), .val (.ref b1), .val (.ref b2), .val (.ref b3), .val (.ref b4), .val (.ref b5), .val (.ref r6), .val (.ref r11), .val (.ref b12), .val (.ref b15), .val (.ref b18), .val (.ref b21), .val (.ref b24), .val (.ref b27), .val (.int (0 : Int32)), .val (.int (0 : Int32))]) rfl k) ?_
      refine gs (mkF m 176 #[.val (.int x0), .val (.int x1), .val (.int x2), .val (.int x3), .val (.int x4), .val (.int x5), .val (.ref b1), .val (.ref b2), .val (.ref b3), .val (.ref b4), .val (.ref b5), .val (.ref r6), .val (.ref r11), .val (.ref b12), .val (.ref b15), .val (.ref b18), .val (.ref b21), .val (.ref b24), .val (.ref b27), .val (.int (0 : Int32)), .val (.int (0 : Int32))] [(.int (0 : Int32))]) (fun _ _ A k => XS.iload A hx rfl (hb hby at_174) rfl  k) ?_
      refine gs (mkF m 178 #[.val (.int x0), .val (.int x1), .val (.int x2), .val (.int x3), .val (.int x4), .val (.int x5), .val (.ref b1), .val (.ref b2), .val (.ref b3), .val (.ref b4), .val (.ref b5), .val (.ref r6), .val (.ref r11), .val (.ref b12), .val (.ref b15), .val (.ref b18), .val (.ref b21), .val (.ref b24), .val (.ref b27), .val (.int (0 : Int32)), .val (.int (0 : Int32))] [(.int (0 : Int32)), (.int (0 : Int32))]) (fun _ _ A k => XS.iload A hx rfl (hb hby at_176) rfl  k) ?_
      refine gs (mkF m 181 #[.val (.int x0), .val (.int x1), .val (.int x2), .val (.int x3), .val (.int x4), .val (.int x5), .val (.ref b1), .val (.ref b2), .val (.ref b3), .val (.ref b4), .val (.ref b5), .val (.ref r6), .val (.ref r11), .val (.ref b12), .val (.ref b15), .val (.ref b18), .val (.ref b21), .val (.ref b24), .val (.ref b27), .val (.int (0 : Int32)), .val (.int (0 : Int32))] []) (fun _ _ A k => XS.icmpNo A hx rfl (hb hby at_178) rfl (teq (by decide)).2 k) ?_
      refine gs (mkF m 182 #[.val (.int x0), .val (.int x1), .val (.int x2), .val (.int x3), .val (.int x4), .val (.int x5), .val (.ref b1), .val (.ref b2), .val (.ref b3), .val (.ref b4), .val (.ref b5), .val (.ref r6), .val (.ref r11), .val (.ref b12), .val (.ref b15), .val (.ref b18), .val (.ref b21), .val (.ref b24), .val (.ref b27), .val (.int (0 : Int32)), .val (.int (0 : Int32))] [(.int (1 : Int32))]) (fun _ _ A k => XS.iconst A hx rfl (hb hby at_181) k) ?_
      refine gs (mkF m 186 #[.val (.int x0), .val (.int x1), .val (.int x2), .val (.int x3), .val (.int x4), .val (.int x5), .val (.ref b1), .val (.ref b2), .val (.ref b3), .val (.ref b4), .val (.ref b5), .val (.ref r6), .val (.ref r11), .val (.ref b12), .val (.ref b15), .val (.ref b18), .val (.ref b21), .val (.ref b24), .val (.ref b27), .val (.int (0 : Int32)), .val (.int (0 : Int32))] [(.int (1 : Int32))]) (fun _ _ A k => XS.goto A hx rfl (pc0 := 182) (pc' := 186) rfl (hb hby at_182) (by decide) (by decide) k) ?_
      exact gretN (t := .boolean) hx hret (by simp) (hb hby at_186) (by decide) (by decide) (fun vq Cq => ⟨rfl, ((((((((((((((((((Keep.refl h0 []).trans K1 all0).trans K2 all0).trans K3 all0).trans K4 all0).trans K5 all0).ext E12).trans K13 (allS (Or.inr (by omega)) all0)).ext E15).trans K16 (allS (Or.inr (by omega)) all0)).ext E18).trans K19 (allS (Or.inr (by omega)) all0)).ext E21).trans K22 (allS (Or.inr (by omega)) all0)).ext E24).trans K25 (allS (Or.inr (by omega)) all0)).ext E27).trans K28 (allS (Or.inr (by omega)) all0))⟩)
set_option maxRecDepth 65536 in
set_option maxHeartbeats 40000000 in
theorem comes_1 {Post : Tables → Env → Array Value → State → Outcome → State → Prop} (hpost : ∀ tb e args s v u, (limb_1_1.after args s (.returned v) u = true ∧ limb_1_2.after args s (.returned v) u = true ∧ True) → ReturnedEndW s (.returned v) u (Jvm.fieldLocs frame_1_writes args s ++ Jvm.arrayLocs frame_1_arrays args s ++ Jvm.staticLocs frame_1_statics s) 48 4288 → Post tb e args s (.returned v) u) :
    ArmFor flags0 classFile x code maxLocals ret World_1 tables_1 room_1 Calls_1 rest_1 Pre_1 Post := by
  intro l hfl _ _ p e ha hc hk s m args below hf hA hF happ hP
  obtain ⟨hcalls, hrest, hpre⟩ := hP
  obtain ⟨-, -, -, hnamed, -, -, -, hat⟩ := (Spec.applies_iff hf).mp happ
  obtain ⟨hg, hn⟩ := and_e (Cond.before_iff.mp (show (Jvm.Cond.and given_1 narrow_1).before args s = true from hpre))
  obtain ⟨gc, g0⟩ := and_e hg
  obtain ⟨ga0, g1⟩ := and_e g0
  obtain ⟨ga1, g2⟩ := and_e g1
  obtain ⟨ga2, g3⟩ := and_e g2
  obtain ⟨ga3, g4⟩ := and_e g3
  obtain ⟨ga4, g5⟩ := and_e g4
  have ga5 := g5
  obtain ⟨w0, w1, w2, w3, w4, w5, rfl⟩ : ∃ w0 w1 w2 w3 w4 w5 : Value, args = #[w0, w1, w2, w3, w4, w5] := by
    have hs : args.size = 6 := by simpa [Cond.value, given_1] using gc
    obtain ⟨L⟩ := args
    match L, hs with
    | [w0, w1, w2, w3, w4, w5], _ => exact ⟨w0, w1, w2, w3, w4, w5, rfl⟩
  have hw := fun d (hd : d ∈ tables_1) => atoms_spec (ws := Jvm.Cond.code x code maxLocals ret :: tables_1) hat d (List.mem_cons_of_mem _ hd)
  have hfit : Fit s := fun {y c} hc i hi => by
    obtain ⟨ha, rfl⟩ := Array.getElem?_eq_some_iff.mp hc
    have q := List.all_eq_true.mp ((Array.all_eq_true_iff_forall_mem.mp hF) _ (Array.getElem_mem ha)) i (List.mem_range.mpr hi)
    simpa [Array.getElem?_eq_getElem hi] using q
  obtain ⟨hsets, hown0⟩ := atoms_of _ (rest_1_c_eq ▸ (show rest_1_c.before _ s = true from hrest))
  obtain ⟨i0, ei0⟩ := is_v ga0
  obtain rfl : w0 = (.int i0) := Option.some.inj ei0
  obtain ⟨i1, ei1⟩ := is_v ga1
  obtain rfl : w1 = (.int i1) := Option.some.inj ei1
  obtain ⟨i2, ei2⟩ := is_v ga2
  obtain rfl : w2 = (.int i2) := Option.some.inj ei2
  obtain ⟨i3, ei3⟩ := is_v ga3
  obtain rfl : w3 = (.int i3) := Option.some.inj ei3
  obtain ⟨i4, ei4⟩ := is_v ga4
  obtain rfl : w4 = (.int i4) := Option.some.inj ei4
  obtain ⟨i5, ei5⟩ := is_v ga5
  obtain rfl : w5 = (.int i5) := Option.some.inj ei5
  obtain ⟨zc, eG⟩ := is_v (Cond.before_iff.mp (hsets _ (List.mem_of_getElem? (i := 1) rfl)))
  have Scs := Sta.start eG (Or.inl (hsets _ (List.mem_of_getElem? (i := 0) rfl)))
  have hcw := hsets _ (List.mem_of_getElem? (i := 2) rfl)
  have hzc : ¬ zc = 0 := by
    have q := not_v (Cond.before_iff.mp hcw)
    intro z
    have q2 := eq_i (x := .int zc) (y := .int 0) eG (Term.int_eval (0)) (by rw [z])
    rw [q2] at q; cases q
  obtain ⟨fm, eF, hfm⟩ := isR_v (Cond.before_iff.mp (hsets _ (List.mem_of_getElem? (i := 8) rfl)))
  have Sfm := Sta.start eF (Or.inl (hsets _ (List.mem_of_getElem? (i := 7) rfl)))
  have hEL : EW s _ consts_1 := (EW.cons (ow hw 41 rfl) (by decide +kernel) (EW.cons (ow hw 46 rfl) (by decide +kernel) (EW.cons (ow hw 47 rfl) (by decide +kernel) (EW.cons (ow hw 21 rfl) (by decide +kernel) EW.nil))))
  have hCH : CHv s consts_1 s.vm s.heap := CHv.start hEL (fun p hp => hcalls.1 p hp) hcw (ow hw 22 rfl) (ow hw 9 rfl)
  have cx : Ctx s _ := ⟨hw, hEL, ⟨zc, Scs, hzc⟩, ⟨fm, Sfm, hfm⟩⟩
  obtain ⟨n, o, h1, h2, h3, _, L, rfl, ⟨N, ⟨rfl, -⟩⟩, -, hq⟩ := own_law l s _ cx tables_1 i0 i1 i2 i3 i4 i5 s.vm s.heap ⟨Nat.le_refl _, fun _ _ q => q⟩ p e ha hc hk s m _ below hf ((Spec.applies_iff_loose hf).mp happ).1 ⟨rfl, State.Warmed39.refl s, rfl, CHr.refl hCH⟩ trivial
  refine ⟨n, _, h1, h2, h3, hpost _ _ _ _ _ _ ⟨Cond.after_iff.mpr rfl, Cond.after_iff.mpr (eq_i res_at (Term.int_eval (1)) rfl), trivial⟩ ⟨hq.1, hq.2.1, hq.2.2.1, (hq.2.2.2.sift fun y hy => Or.inr (N y hy)).mono (by decide) (by decide)⟩⟩
theorem main_1_1 : Claimed_1_1 := comes_1 fun _ _ _ _ _ _ h hF => ⟨h.1, hF⟩
theorem main_1_2 : Claimed_1_2 := comes_1 fun _ _ _ _ _ _ h hF => ⟨h.2.1, hF⟩
end Jvm.Pilot.@@N@@
namespace Jvm.Pilot.@@N@@
open Jvm Jvm.ClassFile Sem Op Lib Jvm.Free Jvm.Stand Jvm.Pilot.@@N@@.Jvm.D
/-! MADE BY PROGRAM (witnessworld.py) out of the Statement's table words and the real class files: 23 classes; the members and pool entries that the words name. The judged class is class 1, her method 4. -/
namespace start1
open Jvm.ClassFile
def u (s : String) : CpInfo := .utf8 (stringToUtf16 s)
/-- a pool by its gaps: so many unusable entries, then the entry; so many at the end -/
def gap : Nat → List CpInfo → List CpInfo
  | 0, r => r
  | n + 1, r => .unusable :: gap n r
def poolList (es : List (Nat × CpInfo)) (last : Nat) : List CpInfo := es.foldr (fun e r => gap e.1 (e.2 :: r)) (gap last [])
def pool (es : List (Nat × CpInfo)) (last : Nat) : Array CpInfo := ⟨poolList es last⟩
def fileOf (pool : Array CpInfo) (this : Nat) (attrs : Array Attribute := #[]) (ms : Array MethodInfo := #[]) (fl : Nat := 33) (sup : Nat := 0) (ifs : Array Nat := #[]) (fds : Array FieldInfo := #[]) : ClassFile where
  minorVersion := 0
  majorVersion := 65
  constantPool := pool
  accessFlags := fl
  thisClass := this
  superClass := sup
  interfaces := ifs
  fields := fds
  methods := ms
  attributes := attrs
def plain (name : String) (sup : Option ClassId) : Class where
  name := name
  kind := .ordinary
  loader := none
  accessFlags := 33
  super := sup
  interfaces := #[]
  cf := none
  fields := #[]
  methods := #[]
  instanceTypes := #[]
  staticTypes := #[]
  resolved := #[]
  callSites := []
  init := .initialized
  statics := none
  mirror := none

def pool0 : Array CpInfo := pool [(5, u "<init>"), (0, u "()V"), (1, .class_ 10), (1, u "java/lang/Object")] 113

def k0c0 : Code := { maxStack := 0, maxLocals := 1, code := object_method_1_code, exceptionTable := #[], attributes := #[] }
def k0m0 : Method := { name := "<init>", desc := "()V", sig := { parameters := [], returnType := none }, accessFlags := 1, code := some k0c0 }
/-- java/lang/Object -/
def k0 : Class := { plain "java/lang/Object" none with
  accessFlags := 33
  interfaces := #[]
  cf := some (fileOf pool0 8 #[] #[{ accessFlags := 1, nameIndex := 5, descriptorIndex := 6, attributes := #[] }] 33 0 #[] #[])
  fields := #[]
  methods := #[k0m0]
  instanceTypes := #[]
  staticTypes := #[]
  resolved := Array.replicate 124 none
  statics := none }

def pool1 : Array CpInfo := pool [(2, .class_ 4), (1, u "java/lang/Object"), (0, u "<init>"), (0, u "()V"), (0, .methodref 8 9), (0, .class_ 10), (0, .nameAndType 11 12), (0, u "com/example/backfill/backfill/migration/NotNullCheckReadsPinLaw"), (0, u "draw"), (0, u "(I)[C"), (0, .methodref 8 14), (0, .nameAndType 15 16), (0, u "pick"), (0, u "(I[C[C[C[C)[C"), (0, .class_ 18), (0, u "java/lang/String"), (0, .methodref 17 20), (0, .nameAndType 5 21), (0, u "([C)V"), (0, .class_ 23), (0, u "com/example/backfill/backfill/migration/NotNullCheck"), (0, .methodref 22 25), (0, .nameAndType 5 26), (0, u "(Ljava/lang/String;Ljava/lang/String;Ljava/lang/String;)V"), (0, .methodref 22 28), (0, .nameAndType 29 30), (0, u "reads"), (0, u "(Ljava/lang/String;Ljava/lang/String;)Z"), (0, .methodref 8 32), (0, .nameAndType 33 34), (0, u "same"), (0, u "([C[C)Z"), (5, u "law"), (0, u "(IIIIII)Z")] 2

def k1m0 : Method := { name := "<init>", desc := "()V", sig := { parameters := [], returnType := none }, accessFlags := 2, code := none }
def k1c1 : Code := { maxStack := 4, maxLocals := 3, code := method_2_code, exceptionTable := #[], attributes := #[] }
def k1m1 : Method := { name := "draw", desc := "(I)[C", sig := { parameters := [.int], returnType := some (.array .char) }, accessFlags := 10, code := some k1c1 }
def k1c2 : Code := { maxStack := 2, maxLocals := 5, code := method_3_code, exceptionTable := #[], attributes := #[] }
def k1m2 : Method := { name := "pick", desc := "(I[C[C[C[C)[C", sig := { parameters := [.int, (.array .char), (.array .char), (.array .char), (.array .char)], returnType := some (.array .char) }, accessFlags := 10, code := some k1c2 }
def k1c3 : Code := { maxStack := 3, maxLocals := 2, code := method_4_code, exceptionTable := #[], attributes := #[] }
def k1m3 : Method := { name := "same", desc := "([C[C)Z", sig := { parameters := [(.array .char), (.array .char)], returnType := some .boolean }, accessFlags := 10, code := some k1c3 }
def k1c4 : Code := { maxStack := 5, maxLocals := 21, code := code, exceptionTable := #[], attributes := #[] }
def k1m4 : Method := { name := "law", desc := "(IIIIII)Z", sig := { parameters := [.int, .int, .int, .int, .int, .int], returnType := some .boolean }, accessFlags := 9, code := some k1c4 }
/-- com/example/backfill/backfill/migration/NotNullCheckReadsPinLaw -/
def k1 : Class := { plain "com/example/backfill/backfill/migration/NotNullCheckReadsPinLaw" (some 0) with
  accessFlags := 49
  interfaces := #[]
  cf := some (fileOf pool1 8 #[] #[{ accessFlags := 2, nameIndex := 5, descriptorIndex := 6, attributes := #[] }, { accessFlags := 10, nameIndex := 11, descriptorIndex := 12, attributes := #[] }, { accessFlags := 10, nameIndex := 15, descriptorIndex := 16, attributes := #[] }, { accessFlags := 10, nameIndex := 33, descriptorIndex := 34, attributes := #[] }, { accessFlags := 9, nameIndex := 40, descriptorIndex := 41, attributes := #[] }] 49 2 #[] #[])
  fields := #[]
  methods := #[k1m0, k1m1, k1m2, k1m3, k1m4]
  instanceTypes := #[]
  staticTypes := #[]
  resolved := Array.replicate 44 none
  statics := none }

def pool2 : Array CpInfo := pool [(1, .class_ 2), (0, u "java/io/Serializable"), (0, .class_ 4), (0, u "java/lang/Object")] 2

/-- java/io/Serializable -/
def k2 : Class := { plain "java/io/Serializable" (some 0) with
  accessFlags := 1537
  interfaces := #[]
  cf := some (fileOf pool2 1 #[] #[] 1537 3 #[] #[])
  fields := #[]
  methods := #[]
  instanceTypes := #[]
  staticTypes := #[]
  resolved := Array.replicate 7 none
  statics := none }

def pool3 : Array CpInfo := pool [(1, .class_ 2), (0, u "java/lang/Comparable"), (0, .class_ 4), (0, u "java/lang/Object")] 7

/-- java/lang/Comparable -/
def k3 : Class := { plain "java/lang/Comparable" (some 0) with
  accessFlags := 1537
  interfaces := #[]
  cf := some (fileOf pool3 1 #[] #[] 1537 3 #[] #[])
  fields := #[]
  methods := #[]
  instanceTypes := #[]
  staticTypes := #[]
  resolved := Array.replicate 12 none
  statics := none }

def pool4 : Array CpInfo := pool [(2, .class_ 4), (1, u "java/lang/CharSequence"), (42, .class_ 48), (0, u "java/lang/CharSequence$1CodePointIterator"), (10, .class_ 60), (0, u "java/lang/CharSequence$1CharIterator"), (5, .class_ 67), (0, u "java/lang/Object")] 63

/-- java/lang/CharSequence -/
def k4 : Class := { plain "java/lang/CharSequence" (some 0) with
  accessFlags := 1537
  interfaces := #[]
  cf := some (fileOf pool4 2 #[.nestMembers #[47, 59]] #[] 1537 66 #[] #[])
  fields := #[]
  methods := #[]
  instanceTypes := #[]
  staticTypes := #[]
  resolved := Array.replicate 131 none
  statics := none }

def pool5 : Array CpInfo := pool [(1, .class_ 2), (0, u "java/lang/constant/Constable"), (0, .class_ 4), (0, u "java/lang/Object")] 6

/-- java/lang/constant/Constable -/
def k5 : Class := { plain "java/lang/constant/Constable" (some 0) with
  accessFlags := 1537
  interfaces := #[]
  cf := some (fileOf pool5 1 #[] #[] 1537 3 #[] #[])
  fields := #[]
  methods := #[]
  instanceTypes := #[]
  staticTypes := #[]
  resolved := Array.replicate 11 none
  statics := none }

def pool6 : Array CpInfo := pool [(1, .class_ 2), (0, u "java/lang/constant/ConstantDesc"), (0, .class_ 4), (0, u "java/lang/Object")] 32

/-- java/lang/constant/ConstantDesc -/
def k6 : Class := { plain "java/lang/constant/ConstantDesc" (some 0) with
  accessFlags := 1537
  interfaces := #[]
  cf := some (fileOf pool6 1 #[] #[] 1537 3 #[] #[])
  fields := #[]
  methods := #[]
  instanceTypes := #[]
  staticTypes := #[]
  resolved := Array.replicate 37 none
  statics := none }

def pool7 : Array CpInfo := pool [(1, .methodref 2 3), (0, .class_ 4), (0, .nameAndType 5 6), (0, u "java/lang/Object"), (0, u "<init>"), (0, u "()V"), (0, .string 8), (0, u ""), (0, .fieldref 10 11), (0, .class_ 12), (0, .nameAndType 13 14), (0, u "java/lang/String"), (0, u "value"), (0, u "[B"), (0, .fieldref 10 16), (0, .nameAndType 17 18), (0, u "coder"), (0, u "B"), (2, u "hash"), (0, u "I"), (2, u "hashIsZero"), (0, u "Z"), (0, .methodref 10 28), (0, .nameAndType 5 29), (0, u "([CIILjava/lang/Void;)V"), (8, .fieldref 10 39), (0, .nameAndType 40 26), (0, u "COMPACT_STRINGS"), (1, .class_ 44), (1, u "java/lang/StringUTF16"), (0, u "compress"), (1, .methodref 42 48), (0, .nameAndType 49 50), (0, u "coderFromArrayLen"), (0, u "([BI)B"), (56, .class_ 109), (1, u "java/lang/StringLatin1"), (67, .methodref 42 178), (0, .nameAndType 45 179), (0, u "([CII)[B"), (361, .methodref 107 542), (0, .nameAndType 543 544), (0, u "equals"), (0, u "([B[B)Z"), (28, u "(Ljava/lang/Object;)Z"), (1, .class_ 576), (0, u "java/lang/CharSequence"), (22, u "CASE_INSENSITIVE_ORDER"), (0, u "Ljava/util/Comparator;"), (409, u "([C)V"), (90, u "serialPersistentFields"), (0, u "[Ljava/io/ObjectStreamField;"), (0, .class_ 1104), (0, u "java/lang/String$CaseInsensitiveComparator"), (1, .class_ 1107), (0, u "java/io/Serializable"), (0, .class_ 1109), (0, u "java/lang/Comparable"), (0, .class_ 1111), (0, u "java/lang/constant/Constable"), (0, .class_ 1113), (0, u "java/lang/constant/ConstantDesc"), (2, u "serialVersionUID"), (0, u "J"), (3, u "REPL"), (0, u "C"), (2, u "LATIN1"), (1, u "UTF16")] 323

def k7m0 : Method := { name := "<init>", desc := "()V", sig := { parameters := [], returnType := none }, accessFlags := 1, code := none }
def k7c1 : Code := { maxStack := 5, maxLocals := 2, code := jdk_42_method_3_code, exceptionTable := #[], attributes := #[] }
def k7m1 : Method := { name := "<init>", desc := "([C)V", sig := { parameters := [(.array .char)], returnType := none }, accessFlags := 1, code := some k7c1 }
def k7c2 : Code := { maxStack := 2, maxLocals := 3, code := jdk_42_method_66_code, exceptionTable := #[], attributes := #[] }
def k7m2 : Method := { name := "equals", desc := "(Ljava/lang/Object;)Z", sig := { parameters := [(.object "java/lang/Object")], returnType := some .boolean }, accessFlags := 1, code := some k7c2 }
def k7c3 : Code := { maxStack := 4, maxLocals := 6, code := jdk_42_method_149_code, exceptionTable := #[], attributes := #[] }
def k7m3 : Method := { name := "<init>", desc := "([CIILjava/lang/Void;)V", sig := { parameters := [(.array .char), .int, .int, (.object "java/lang/Void")], returnType := none }, accessFlags := 2, code := some k7c3 }
/-- java/lang/String -/
def k7 : Class := { plain "java/lang/String" (some 0) with
  accessFlags := 49
  interfaces := #[2, 3, 4, 5, 6]
  cf := some (fileOf pool7 10 #[.nestMembers #[1103]] #[{ accessFlags := 1, nameIndex := 5, descriptorIndex := 6, attributes := #[] }, { accessFlags := 1, nameIndex := 5, descriptorIndex := 1010, attributes := #[] }, { accessFlags := 1, nameIndex := 543, descriptorIndex := 573, attributes := #[] }, { accessFlags := 2, nameIndex := 5, descriptorIndex := 29, attributes := #[] }] 49 2 #[1106, 1108, 575, 1110, 1112] #[{ accessFlags := 18, nameIndex := 13, descriptorIndex := 14, attributes := #[] }, { accessFlags := 18, nameIndex := 17, descriptorIndex := 18, attributes := #[] }, { accessFlags := 2, nameIndex := 21, descriptorIndex := 22, attributes := #[] }, { accessFlags := 2, nameIndex := 25, descriptorIndex := 26, attributes := #[] }, { accessFlags := 26, nameIndex := 1116, descriptorIndex := 1117, attributes := #[] }, { accessFlags := 24, nameIndex := 40, descriptorIndex := 26, attributes := #[] }, { accessFlags := 26, nameIndex := 1101, descriptorIndex := 1102, attributes := #[] }, { accessFlags := 26, nameIndex := 1121, descriptorIndex := 1122, attributes := #[] }, { accessFlags := 25, nameIndex := 599, descriptorIndex := 600, attributes := #[] }, { accessFlags := 24, nameIndex := 1125, descriptorIndex := 18, attributes := #[] }, { accessFlags := 24, nameIndex := 1127, descriptorIndex := 18, attributes := #[] }])
  fields := #[{ name := "value", type := (.array .byte), accessFlags := 18, slot := 0, constantValue := 0 }, { name := "coder", type := .byte, accessFlags := 18, slot := 1, constantValue := 0 }, { name := "hash", type := .int, accessFlags := 2, slot := 2, constantValue := 0 }, { name := "hashIsZero", type := .boolean, accessFlags := 2, slot := 3, constantValue := 0 }, { name := "serialVersionUID", type := .long, accessFlags := 26, slot := 0, constantValue := 0 }, { name := "COMPACT_STRINGS", type := .boolean, accessFlags := 24, slot := 1, constantValue := 0 }, { name := "serialPersistentFields", type := (.array (.object "java/io/ObjectStreamField")), accessFlags := 26, slot := 2, constantValue := 0 }, { name := "REPL", type := .char, accessFlags := 26, slot := 3, constantValue := 0 }, { name := "CASE_INSENSITIVE_ORDER", type := (.object "java/util/Comparator"), accessFlags := 25, slot := 4, constantValue := 0 }, { name := "LATIN1", type := .byte, accessFlags := 24, slot := 5, constantValue := 0 }, { name := "UTF16", type := .byte, accessFlags := 24, slot := 6, constantValue := 0 }]
  methods := #[k7m0, k7m1, k7m2, k7m3]
  instanceTypes := #[(.array .byte), .byte, .int, .boolean]
  staticTypes := #[.long, .boolean, (.array (.object "java/io/ObjectStreamField")), .char, (.object "java/util/Comparator"), .byte, .byte]
  resolved := Array.replicate 1451 none
  statics := some 0 }

def pool8 : Array CpInfo := pool [(1, .methodref 2 3), (0, .class_ 4), (0, .nameAndType 5 6), (0, u "java/lang/Object"), (0, u "<init>"), (0, u "()V"), (0, .class_ 8), (0, u "java/lang/Record")] 13

def k8c0 : Code := { maxStack := 1, maxLocals := 1, code := jdk_30_method_1_code, exceptionTable := #[], attributes := #[] }
def k8m0 : Method := { name := "<init>", desc := "()V", sig := { parameters := [], returnType := none }, accessFlags := 4, code := some k8c0 }
/-- java/lang/Record -/
def k8 : Class := { plain "java/lang/Record" (some 0) with
  accessFlags := 1057
  interfaces := #[]
  cf := some (fileOf pool8 7 #[] #[{ accessFlags := 4, nameIndex := 5, descriptorIndex := 6, attributes := #[] }] 1057 2 #[] #[])
  fields := #[]
  methods := #[k8m0]
  instanceTypes := #[]
  staticTypes := #[]
  resolved := Array.replicate 22 none
  statics := none }

def pool9 : Array CpInfo := pool [(1, .class_ 2), (0, u "com/example/backfill/backfill/migration/Constraint"), (0, .class_ 4), (0, u "java/lang/Object")] 12

/-- com/example/backfill/backfill/migration/Constraint -/
def k9 : Class := { plain "com/example/backfill/backfill/migration/Constraint" (some 0) with
  accessFlags := 1537
  interfaces := #[]
  cf := some (fileOf pool9 1 #[] #[] 1537 3 #[] #[])
  fields := #[]
  methods := #[]
  instanceTypes := #[]
  staticTypes := #[]
  resolved := Array.replicate 17 none
  statics := none }

def pool10 : Array CpInfo := pool [(1, .methodref 2 3), (0, .class_ 4), (0, .nameAndType 5 6), (0, u "java/lang/Record"), (0, u "<init>"), (0, u "()V"), (0, .string 8), (0, u "table"), (0, .methodref 10 11), (0, .class_ 12), (0, .nameAndType 13 14), (0, u "java/util/Objects"), (0, u "requireNonNull"), (0, u "(Ljava/lang/Object;Ljava/lang/String;)Ljava/lang/Object;"), (0, .string 16), (0, u "column"), (0, .string 18), (0, u "name"), (0, .fieldref 20 21), (0, .class_ 22), (0, .nameAndType 8 23), (0, u "com/example/backfill/backfill/migration/NotNullCheck"), (0, u "Ljava/lang/String;"), (0, .fieldref 20 25), (0, .nameAndType 16 23), (0, .fieldref 20 27), (0, .nameAndType 18 23), (9, .methodref 38 39), (0, .class_ 40), (0, .nameAndType 41 42), (0, u "java/lang/String"), (0, u "equals"), (0, u "(Ljava/lang/Object;)Z"), (11, .class_ 55), (0, u "com/example/backfill/backfill/migration/Constraint"), (0, u "(Ljava/lang/String;Ljava/lang/String;Ljava/lang/String;)V"), (4, u "reads"), (0, u "(Ljava/lang/String;Ljava/lang/String;)Z")] 33

def k10c0 : Code := { maxStack := 2, maxLocals := 4, code := prog_65_method_1_code, exceptionTable := #[], attributes := #[] }
def k10m0 : Method := { name := "<init>", desc := "(Ljava/lang/String;Ljava/lang/String;Ljava/lang/String;)V", sig := { parameters := [(.object "java/lang/String"), (.object "java/lang/String"), (.object "java/lang/String")], returnType := none }, accessFlags := 1, code := some k10c0 }
def k10c1 : Code := { maxStack := 2, maxLocals := 3, code := prog_65_method_3_code, exceptionTable := #[], attributes := #[] }
def k10m1 : Method := { name := "reads", desc := "(Ljava/lang/String;Ljava/lang/String;)Z", sig := { parameters := [(.object "java/lang/String"), (.object "java/lang/String")], returnType := some .boolean }, accessFlags := 1, code := some k10c1 }
/-- com/example/backfill/backfill/migration/NotNullCheck -/
def k10 : Class := { plain "com/example/backfill/backfill/migration/NotNullCheck" (some 8) with
  accessFlags := 49
  interfaces := #[9]
  cf := some (fileOf pool10 20 #[] #[{ accessFlags := 1, nameIndex := 5, descriptorIndex := 56, attributes := #[] }, { accessFlags := 1, nameIndex := 61, descriptorIndex := 62, attributes := #[] }] 49 2 #[54] #[{ accessFlags := 18, nameIndex := 8, descriptorIndex := 23, attributes := #[] }, { accessFlags := 18, nameIndex := 16, descriptorIndex := 23, attributes := #[] }, { accessFlags := 18, nameIndex := 18, descriptorIndex := 23, attributes := #[] }])
  fields := #[{ name := "table", type := (.object "java/lang/String"), accessFlags := 18, slot := 0, constantValue := 0 }, { name := "column", type := (.object "java/lang/String"), accessFlags := 18, slot := 1, constantValue := 0 }, { name := "name", type := (.object "java/lang/String"), accessFlags := 18, slot := 2, constantValue := 0 }]
  methods := #[k10m0, k10m1]
  instanceTypes := #[(.object "java/lang/String"), (.object "java/lang/String"), (.object "java/lang/String")]
  staticTypes := #[]
  resolved := Array.replicate 96 none
  statics := none }

def pool11 : Array CpInfo := pool [(2, .class_ 4), (1, u "java/lang/Object"), (0, u "<init>"), (0, u "()V"), (35, .class_ 44), (1, u "java/util/Objects"), (0, u "requireNonNull"), (48, u "(Ljava/lang/Object;Ljava/lang/String;)Ljava/lang/Object;")] 89

def k11m0 : Method := { name := "<init>", desc := "()V", sig := { parameters := [], returnType := none }, accessFlags := 2, code := none }
def k11c1 : Code := { maxStack := 3, maxLocals := 2, code := jdk_31_method_11_code, exceptionTable := #[], attributes := #[] }
def k11m1 : Method := { name := "requireNonNull", desc := "(Ljava/lang/Object;Ljava/lang/String;)Ljava/lang/Object;", sig := { parameters := [(.object "java/lang/Object"), (.object "java/lang/String")], returnType := some (.object "java/lang/Object") }, accessFlags := 9, code := some k11c1 }
/-- java/util/Objects -/
def k11 : Class := { plain "java/util/Objects" (some 0) with
  accessFlags := 49
  interfaces := #[]
  cf := some (fileOf pool11 42 #[] #[{ accessFlags := 2, nameIndex := 5, descriptorIndex := 6, attributes := #[] }, { accessFlags := 9, nameIndex := 45, descriptorIndex := 94, attributes := #[] }] 49 2 #[] #[])
  fields := #[]
  methods := #[k11m0, k11m1]
  instanceTypes := #[]
  staticTypes := #[]
  resolved := Array.replicate 184 none
  statics := none }

def pool12 : Array CpInfo := pool [(4, .class_ 6), (1, u "java/lang/Object"), (0, u "<init>"), (0, u "()V"), (5, .class_ 16), (1, u "java/lang/StringLatin1"), (104, u "$assertionsDisabled"), (0, u "Z"), (98, .class_ 223), (1, u "java/lang/StringLatin1$LinesSpliterator"), (57, u "equals"), (0, u "([B[B)Z"), (107, .class_ 391), (0, u "java/lang/StringLatin1$CharsSpliterator")] 3

def k12m0 : Method := { name := "<init>", desc := "()V", sig := { parameters := [], returnType := none }, accessFlags := 0, code := none }
def k12c1 : Code := { maxStack := 3, maxLocals := 3, code := jdk_43_method_13_code, exceptionTable := #[], attributes := #[] }
def k12m1 : Method := { name := "equals", desc := "([B[B)Z", sig := { parameters := [(.array .byte), (.array .byte)], returnType := some .boolean }, accessFlags := 9, code := some k12c1 }
/-- java/lang/StringLatin1 -/
def k12 : Class := { plain "java/lang/StringLatin1" (some 0) with
  accessFlags := 48
  interfaces := #[]
  cf := some (fileOf pool12 14 #[.nestMembers #[390, 221]] #[{ accessFlags := 0, nameIndex := 7, descriptorIndex := 8, attributes := #[] }, { accessFlags := 9, nameIndex := 281, descriptorIndex := 282, attributes := #[] }] 48 4 #[] #[{ accessFlags := 4120, nameIndex := 121, descriptorIndex := 122, attributes := #[] }])
  fields := #[{ name := "$assertionsDisabled", type := .boolean, accessFlags := 4120, slot := 0, constantValue := 0 }]
  methods := #[k12m0, k12m1]
  instanceTypes := #[]
  staticTypes := #[.boolean]
  resolved := Array.replicate 395 none
  statics := none }

def pool13 : Array CpInfo := pool [(6, .class_ 8), (1, u "java/lang/Object"), (0, u "<init>"), (0, u "()V"), (1, .class_ 14), (1, u "java/lang/StringUTF16"), (31, u "$assertionsDisabled"), (0, u "Z"), (13, u "HI_BYTE_SHIFT"), (0, u "I"), (2, u "LO_BYTE_SHIFT"), (49, .methodref 12 116), (0, .nameAndType 117 118), (0, u "compress"), (0, u "([CI[BII)I"), (3, u "([CII)[B"), (138, u "coderFromArrayLen"), (0, u "([BI)B"), (106, .class_ 371), (1, u "java/lang/StringUTF16$LinesSpliterator"), (58, u "MAX_LENGTH"), (196, .class_ 628), (0, u "java/lang/StringUTF16$CodePointsSpliterator"), (0, .class_ 630), (0, u "java/lang/StringUTF16$CharsSpliterator")] 4

def k13m0 : Method := { name := "<init>", desc := "()V", sig := { parameters := [], returnType := none }, accessFlags := 0, code := none }
def k13c1 : Code := { maxStack := 2, maxLocals := 2, code := jdk_52_method_15_code, exceptionTable := #[], attributes := #[] }
def k13m1 : Method := { name := "coderFromArrayLen", desc := "([BI)B", sig := { parameters := [(.array .byte), .int], returnType := some .byte }, accessFlags := 8, code := some k13c1 }
def k13c2 : Code := { maxStack := 5, maxLocals := 6, code := jdk_52_method_16_code, exceptionTable := #[], attributes := #[] }
def k13m2 : Method := { name := "compress", desc := "([CII)[B", sig := { parameters := [(.array .char), .int, .int], returnType := some (.array .byte) }, accessFlags := 9, code := some k13c2 }
def k13c3 : Code := { maxStack := 3, maxLocals := 7, code := jdk_52_method_21_code, exceptionTable := #[], attributes := #[] }
def k13m3 : Method := { name := "compress", desc := "([CI[BII)I", sig := { parameters := [(.array .char), .int, (.array .byte), .int, .int], returnType := some .int }, accessFlags := 9, code := some k13c3 }
/-- java/lang/StringUTF16 -/
def k13 : Class := { plain "java/lang/StringUTF16" (some 0) with
  accessFlags := 48
  interfaces := #[]
  cf := some (fileOf pool13 12 #[.nestMembers #[627, 629, 369]] #[{ accessFlags := 0, nameIndex := 9, descriptorIndex := 10, attributes := #[] }, { accessFlags := 8, nameIndex := 261, descriptorIndex := 262, attributes := #[] }, { accessFlags := 9, nameIndex := 117, descriptorIndex := 122, attributes := #[] }, { accessFlags := 9, nameIndex := 117, descriptorIndex := 118, attributes := #[] }] 48 6 #[] #[{ accessFlags := 26, nameIndex := 61, descriptorIndex := 62, attributes := #[] }, { accessFlags := 26, nameIndex := 65, descriptorIndex := 62, attributes := #[] }, { accessFlags := 24, nameIndex := 430, descriptorIndex := 62, attributes := #[] }, { accessFlags := 4120, nameIndex := 46, descriptorIndex := 47, attributes := #[] }])
  fields := #[{ name := "HI_BYTE_SHIFT", type := .int, accessFlags := 26, slot := 0, constantValue := 0 }, { name := "LO_BYTE_SHIFT", type := .int, accessFlags := 26, slot := 1, constantValue := 0 }, { name := "MAX_LENGTH", type := .int, accessFlags := 24, slot := 2, constantValue := 0 }, { name := "$assertionsDisabled", type := .boolean, accessFlags := 4120, slot := 3, constantValue := 0 }]
  methods := #[k13m0, k13m1, k13m2, k13m3]
  instanceTypes := #[]
  staticTypes := #[.int, .int, .int, .boolean]
  resolved := Array.replicate 635 none
  statics := none }

def pool14 : Array CpInfo := pool [(2, .class_ 4), (1, u "java/lang/Object"), (0, u "<init>"), (0, u "()V"), (17, .class_ 26), (1, u "jdk/internal/util/Preconditions"), (28, .class_ 56), (0, u "jdk/internal/util/Preconditions$4"), (57, .class_ 115), (0, u "jdk/internal/util/Preconditions$1"), (7, u "SIOOBE_FORMATTER"), (0, u "Ljava/util/function/BiFunction;"), (0, .class_ 126), (0, u "jdk/internal/util/Preconditions$2"), (3, u "AIOOBE_FORMATTER"), (0, .class_ 132), (0, u "jdk/internal/util/Preconditions$3"), (3, u "IOOBE_FORMATTER")] 57

def k14m0 : Method := { name := "<init>", desc := "()V", sig := { parameters := [], returnType := none }, accessFlags := 1, code := none }
/-- jdk/internal/util/Preconditions -/
def k14 : Class := { plain "jdk/internal/util/Preconditions" (some 0) with
  accessFlags := 33
  interfaces := #[]
  cf := some (fileOf pool14 24 #[.nestMembers #[55, 131, 125, 114]] #[{ accessFlags := 1, nameIndex := 5, descriptorIndex := 6, attributes := #[] }] 33 2 #[] #[{ accessFlags := 25, nameIndex := 123, descriptorIndex := 124, attributes := #[] }, { accessFlags := 25, nameIndex := 130, descriptorIndex := 124, attributes := #[] }, { accessFlags := 25, nameIndex := 136, descriptorIndex := 124, attributes := #[] }])
  fields := #[{ name := "SIOOBE_FORMATTER", type := (.object "java/util/function/BiFunction"), accessFlags := 25, slot := 0, constantValue := 0 }, { name := "AIOOBE_FORMATTER", type := (.object "java/util/function/BiFunction"), accessFlags := 25, slot := 1, constantValue := 0 }, { name := "IOOBE_FORMATTER", type := (.object "java/util/function/BiFunction"), accessFlags := 25, slot := 2, constantValue := 0 }]
  methods := #[k14m0]
  instanceTypes := #[]
  staticTypes := #[(.object "java/util/function/BiFunction"), (.object "java/util/function/BiFunction"), (.object "java/util/function/BiFunction")]
  resolved := Array.replicate 194 none
  statics := some 1 }

def pool15 : Array CpInfo := pool [(9, u "<init>"), (6, .class_ 18), (1, u "java/lang/Object"), (0, u "()V"), (1, .class_ 23), (1, u "jdk/internal/util/ArraysSupport"), (0, u "LOG2_ARRAY_LONG_INDEX_SCALE"), (0, u "I"), (2, u "U"), (0, u "Ljdk/internal/misc/Unsafe;"), (8, u "BIG_ENDIAN"), (0, u "Z"), (8, u "LOG2_BYTE_BIT_SIZE"), (4, u "LOG2_ARRAY_INT_INDEX_SCALE"), (54, u "JLA"), (0, u "Ljdk/internal/access/JavaLangAccess;"), (11, u "LOG2_ARRAY_BOOLEAN_INDEX_SCALE"), (9, u "LOG2_ARRAY_BYTE_INDEX_SCALE"), (5, u "LOG2_ARRAY_CHAR_INDEX_SCALE"), (5, u "LOG2_ARRAY_SHORT_INDEX_SCALE"), (18, u "LOG2_ARRAY_FLOAT_INDEX_SCALE"), (24, u "LOG2_ARRAY_DOUBLE_INDEX_SCALE"), (89, u "T_BOOLEAN"), (2, u "T_CHAR"), (1, u "T_FLOAT"), (1, u "T_DOUBLE"), (1, u "T_BYTE"), (1, u "T_SHORT"), (1, u "T_INT"), (1, u "T_LONG"), (1, u "SOFT_MAX_ARRAY_LENGTH")] 83

def k15m0 : Method := { name := "<init>", desc := "()V", sig := { parameters := [], returnType := none }, accessFlags := 2, code := none }
/-- jdk/internal/util/ArraysSupport -/
def k15 : Class := { plain "jdk/internal/util/ArraysSupport" (some 0) with
  accessFlags := 33
  interfaces := #[]
  cf := some (fileOf pool15 21 #[] #[{ accessFlags := 2, nameIndex := 9, descriptorIndex := 19, attributes := #[] }] 33 16 #[] #[{ accessFlags := 24, nameIndex := 28, descriptorIndex := 29, attributes := #[] }, { accessFlags := 26, nameIndex := 38, descriptorIndex := 39, attributes := #[] }, { accessFlags := 25, nameIndex := 121, descriptorIndex := 25, attributes := #[] }, { accessFlags := 25, nameIndex := 131, descriptorIndex := 25, attributes := #[] }, { accessFlags := 25, nameIndex := 137, descriptorIndex := 25, attributes := #[] }, { accessFlags := 25, nameIndex := 143, descriptorIndex := 25, attributes := #[] }, { accessFlags := 25, nameIndex := 53, descriptorIndex := 25, attributes := #[] }, { accessFlags := 25, nameIndex := 24, descriptorIndex := 25, attributes := #[] }, { accessFlags := 25, nameIndex := 162, descriptorIndex := 25, attributes := #[] }, { accessFlags := 25, nameIndex := 187, descriptorIndex := 25, attributes := #[] }, { accessFlags := 26, nameIndex := 48, descriptorIndex := 25, attributes := #[] }, { accessFlags := 25, nameIndex := 277, descriptorIndex := 25, attributes := #[] }, { accessFlags := 25, nameIndex := 280, descriptorIndex := 25, attributes := #[] }, { accessFlags := 25, nameIndex := 282, descriptorIndex := 25, attributes := #[] }, { accessFlags := 25, nameIndex := 284, descriptorIndex := 25, attributes := #[] }, { accessFlags := 25, nameIndex := 286, descriptorIndex := 25, attributes := #[] }, { accessFlags := 25, nameIndex := 288, descriptorIndex := 25, attributes := #[] }, { accessFlags := 25, nameIndex := 290, descriptorIndex := 25, attributes := #[] }, { accessFlags := 25, nameIndex := 292, descriptorIndex := 25, attributes := #[] }, { accessFlags := 26, nameIndex := 108, descriptorIndex := 109, attributes := #[] }, { accessFlags := 25, nameIndex := 294, descriptorIndex := 25, attributes := #[] }])
  fields := #[{ name := "U", type := (.object "jdk/internal/misc/Unsafe"), accessFlags := 24, slot := 0, constantValue := 0 }, { name := "BIG_ENDIAN", type := .boolean, accessFlags := 26, slot := 1, constantValue := 0 }, { name := "LOG2_ARRAY_BOOLEAN_INDEX_SCALE", type := .int, accessFlags := 25, slot := 2, constantValue := 0 }, { name := "LOG2_ARRAY_BYTE_INDEX_SCALE", type := .int, accessFlags := 25, slot := 3, constantValue := 0 }, { name := "LOG2_ARRAY_CHAR_INDEX_SCALE", type := .int, accessFlags := 25, slot := 4, constantValue := 0 }, { name := "LOG2_ARRAY_SHORT_INDEX_SCALE", type := .int, accessFlags := 25, slot := 5, constantValue := 0 }, { name := "LOG2_ARRAY_INT_INDEX_SCALE", type := .int, accessFlags := 25, slot := 6, constantValue := 0 }, { name := "LOG2_ARRAY_LONG_INDEX_SCALE", type := .int, accessFlags := 25, slot := 7, constantValue := 0 }, { name := "LOG2_ARRAY_FLOAT_INDEX_SCALE", type := .int, accessFlags := 25, slot := 8, constantValue := 0 }, { name := "LOG2_ARRAY_DOUBLE_INDEX_SCALE", type := .int, accessFlags := 25, slot := 9, constantValue := 0 }, { name := "LOG2_BYTE_BIT_SIZE", type := .int, accessFlags := 26, slot := 10, constantValue := 0 }, { name := "T_BOOLEAN", type := .int, accessFlags := 25, slot := 11, constantValue := 0 }, { name := "T_CHAR", type := .int, accessFlags := 25, slot := 12, constantValue := 0 }, { name := "T_FLOAT", type := .int, accessFlags := 25, slot := 13, constantValue := 0 }, { name := "T_DOUBLE", type := .int, accessFlags := 25, slot := 14, constantValue := 0 }, { name := "T_BYTE", type := .int, accessFlags := 25, slot := 15, constantValue := 0 }, { name := "T_SHORT", type := .int, accessFlags := 25, slot := 16, constantValue := 0 }, { name := "T_INT", type := .int, accessFlags := 25, slot := 17, constantValue := 0 }, { name := "T_LONG", type := .int, accessFlags := 25, slot := 18, constantValue := 0 }, { name := "JLA", type := (.object "jdk/internal/access/JavaLangAccess"), accessFlags := 26, slot := 19, constantValue := 0 }, { name := "SOFT_MAX_ARRAY_LENGTH", type := .int, accessFlags := 25, slot := 20, constantValue := 0 }]
  methods := #[k15m0]
  instanceTypes := #[]
  staticTypes := #[(.object "jdk/internal/misc/Unsafe"), .boolean, .int, .int, .int, .int, .int, .int, .int, .int, .int, .int, .int, .int, .int, .int, .int, .int, .int, (.object "jdk/internal/access/JavaLangAccess"), .int]
  resolved := Array.replicate 378 none
  statics := none }

def pool16 : Array CpInfo := pool [(1, u "java/lang/Cloneable"), (0, .class_ 1), (0, u "java/lang/Object"), (0, .class_ 3)] 3

/-- java/lang/Cloneable -/
def k16 : Class := { plain "java/lang/Cloneable" (some 0) with
  accessFlags := 1537
  interfaces := #[]
  cf := some (fileOf pool16 2 #[] #[] 1537 4 #[] #[])
  fields := #[]
  methods := #[]
  instanceTypes := #[]
  staticTypes := #[]
  resolved := Array.replicate 8 none
  statics := none }

/-- the primitive byte -/
def k17 : Class := { plain "byte" none with kind := .primitive 'B', accessFlags := 0x411 }
/-- [B -/
def k18 : Class := { plain "[B" (some 0) with kind := .array 17 .byte, interfaces := #[16, 2], accessFlags := 1041 }

/-- the primitive char -/
def k19 : Class := { plain "char" none with kind := .primitive 'C', accessFlags := 0x411 }
/-- [C -/
def k20 : Class := { plain "[C" (some 0) with kind := .array 19 .char, interfaces := #[16, 2], accessFlags := 1041 }

/-- the primitive int -/
def k21 : Class := { plain "int" none with kind := .primitive 'I', accessFlags := 0x411 }
/-- [I -/
def k22 : Class := { plain "[I" (some 0) with kind := .array 21 .int, interfaces := #[16, 2], accessFlags := 1041 }

def heap : Heap := #[{ cls := 7, slots := #[.long 0, .int 1, .null, .int 0, .null, .int 0, .int 0], vm := .statics 7 },
  { cls := 14, slots := #[.null, .null, .null], vm := .statics 14 }]
def classes : Array Class := #[k0, k1, k2, k3, k4, k5, k6, k7, k8, k9, k10, k11, k12, k13, k14, k15, k16, k17, k18, k19, k20, k21, k22]
def interned : List (Array UInt16 × Addr) := []
def slotsUsed : Nat := 10
def theMethod : MethodId := ⟨1, 4⟩
def args0 : Array Value := #[.int 65537, .int 65538, .int 2, .int 1, .int 0, .int 0]
def aboutOver (below : List Frame) : State where
  vm := { classes := classes, interned := interned.toArray }
  heap := heap
  slotsUsed := slotsUsed
  threads := #[{ frames := .invoking theMethod args0 :: below }]
def below0 : List Frame := [.native { method := ⟨0, 0⟩, args := #[] }]
def about1 : State := aboutOver below0
def p0 : Program := .bare "" "" ""
def e0 : Env := launch0.env 0 0 0
theorem w_frames : about1.frames = Frame.invoking theMethod args0 :: below0 := rfl
set_option maxRecDepth 65536 in
theorem w_args : argsFit about1.vm theMethod args0 = true := by decide +kernel
set_option maxRecDepth 65536 in
theorem w_heap : heapFits about1 = true := by decide +kernel
set_option maxRecDepth 65536 in
theorem w_runnable : about1.curStatus? = some .runnable := by decide +kernel
set_option maxRecDepth 65536 in
theorem w_alone : about1.alone = true := by decide +kernel
set_option maxRecDepth 65536 in
theorem w_named : about1.methodNamed? x = some theMethod := by decide +kernel
set_option maxRecDepth 65536 in
theorem w_hears : about1.hears theMethod below0 = true := by decide +kernel
set_option maxRecDepth 65536 in
theorem w_ripe : about1.ripe theMethod args0 below0 = true := by decide +kernel
theorem w_running : about1.status = .running := rfl
set_option maxRecDepth 65536 in
theorem w_room : about1.hasRoom e0.platform room_1 = true :=
  launch0.hasRoom_least _ room_1 (by decide +kernel) (by decide +kernel) (by decide +kernel) (by decide +kernel) (by decide +kernel) (by decide +kernel)
theorem allAtoms_all (ts : List Jvm.Cond) (a : Array Jvm.Value) (st : Jvm.State) : (allAtoms ts).before a st = ts.all (fun c => c.before a st) := by
  induction ts with
  | nil => rfl
  | cons c t ih =>
    show (Jvm.Cond.and c (allAtoms t)).before a st = _
    rw [Jvm.Cond.before_and, ih, List.all_cons]
def words1 : List Jvm.Cond := Jvm.Cond.code x code maxLocals ret :: tables_1
/-- a 'code' word, met by the world's own term for the bytes: nothing is compared byte by byte -/
theorem code_word {y : MethodName} {bytes : ByteArray} {mx : Nat} {rt : Option FieldType} {a : Array Value} {s : State} {m : MethodId} {meth : Method} {c : Code} (h1 : s.methodNamed? y = some m) (h2 : s.vm.method? m = some meth) (h3 : meth.code = some c) (h4 : c.code = bytes)
    (h5 : (c.maxLocals == mx && c.exceptionTable.isEmpty && decide (c.maxStack ≤ mostOperands) && decide (meth.sig.returnType = rt) && !meth.locks && decide (parseMethodDescriptor y.desc = some meth.sig)) = true) : (Jvm.Cond.code y bytes mx rt).before a s = true := by
  simp only [Bool.and_eq_true, beq_iff_eq, Bool.not_eq_true', decide_eq_true_eq] at h5
  obtain ⟨⟨⟨⟨⟨g1, g2⟩, g3⟩, g4⟩, g5⟩, g6⟩ := h5
  simp [Cond.before, Cond.holds, Cond.value, h1, h2, h3, h4, g1, g2, g3, g4, g5, g6]
def isCode : Jvm.Cond → Bool
  | .code _ _ _ _ => true
  | _ => false
theorem all_split {L : List Jvm.Cond} {P : Jvm.Cond → Bool} (h1 : L.all (fun c => isCode c || P c) = true) (h2 : ∀ c ∈ L.filter isCode, P c = true) : L.all P = true := by
  refine List.all_eq_true.mpr fun c hc => ?_
  have h := List.all_eq_true.mp h1 c hc
  rcases Bool.eq_false_or_eq_true (isCode c) with hi | hi
  · exact h2 c (List.mem_filter.mpr ⟨hc, hi⟩)
  · simpa [hi] using h
set_option maxRecDepth 65536 in
theorem w_c0 : (Jvm.Cond.code x code maxLocals ret).before args0 about1 = true := code_word (m := ⟨1, 4⟩) (meth := k1m4) (c := k1c4) (by decide +kernel) rfl rfl rfl (by decide +kernel)
set_option maxRecDepth 65536 in
theorem w_c1 : (Jvm.Cond.code ({ cls := "com/example/backfill/backfill/migration/NotNullCheckReadsPinLaw", name := "draw", desc := "(I)[C" } : Jvm.MethodName) method_2_code (3 : Nat) (Option.some (Jvm.ClassFile.FieldType.array Jvm.ClassFile.FieldType.char))).before args0 about1 = true := code_word (m := ⟨1, 1⟩) (meth := k1m1) (c := k1c1) (by decide +kernel) rfl rfl rfl (by decide +kernel)
set_option maxRecDepth 65536 in
theorem w_c2 : (Jvm.Cond.code ({ cls := "com/example/backfill/backfill/migration/NotNullCheckReadsPinLaw", name := "pick", desc := "(I[C[C[C[C)[C" } : Jvm.MethodName) method_3_code (5 : Nat) (Option.some (Jvm.ClassFile.FieldType.array Jvm.ClassFile.FieldType.char))).before args0 about1 = true := code_word (m := ⟨1, 2⟩) (meth := k1m2) (c := k1c2) (by decide +kernel) rfl rfl rfl (by decide +kernel)
set_option maxRecDepth 65536 in
theorem w_c3 : (Jvm.Cond.code ({ cls := "java/lang/String", name := "<init>", desc := "([C)V" } : Jvm.MethodName) jdk_42_method_3_code (2 : Nat) (Option.none : Option Jvm.ClassFile.FieldType)).before args0 about1 = true := code_word (m := ⟨7, 1⟩) (meth := k7m1) (c := k7c1) (by decide +kernel) rfl rfl rfl (by decide +kernel)
set_option maxRecDepth 65536 in
theorem w_c4 : (Jvm.Cond.code ({ cls := "java/lang/String", name := "<init>", desc := "([CIILjava/lang/Void;)V" } : Jvm.MethodName) jdk_42_method_149_code (6 : Nat) (Option.none : Option Jvm.ClassFile.FieldType)).before args0 about1 = true := code_word (m := ⟨7, 3⟩) (meth := k7m3) (c := k7c3) (by decide +kernel) rfl rfl rfl (by decide +kernel)
set_option maxRecDepth 65536 in
theorem w_c5 : (Jvm.Cond.code ({ cls := "java/lang/Object", name := "<init>", desc := "()V" } : Jvm.MethodName) object_method_1_code (1 : Nat) (Option.none : Option Jvm.ClassFile.FieldType)).before args0 about1 = true := code_word (m := ⟨0, 0⟩) (meth := k0m0) (c := k0c0) (by decide +kernel) rfl rfl rfl (by decide +kernel)
set_option maxRecDepth 65536 in
theorem w_c6 : (Jvm.Cond.code ({ cls := "com/example/backfill/backfill/migration/NotNullCheck", name := "<init>", desc := "(Ljava/lang/String;Ljava/lang/String;Ljava/lang/String;)V" } : Jvm.MethodName) prog_65_method_1_code (4 : Nat) (Option.none : Option Jvm.ClassFile.FieldType)).before args0 about1 = true := code_word (m := ⟨10, 0⟩) (meth := k10m0) (c := k10c0) (by decide +kernel) rfl rfl rfl (by decide +kernel)
set_option maxRecDepth 65536 in
theorem w_c7 : (Jvm.Cond.code ({ cls := "java/lang/Record", name := "<init>", desc := "()V" } : Jvm.MethodName) jdk_30_method_1_code (1 : Nat) (Option.none : Option Jvm.ClassFile.FieldType)).before args0 about1 = true := code_word (m := ⟨8, 0⟩) (meth := k8m0) (c := k8c0) (by decide +kernel) rfl rfl rfl (by decide +kernel)
set_option maxRecDepth 65536 in
theorem w_c8 : (Jvm.Cond.code ({ cls := "java/util/Objects", name := "requireNonNull", desc := "(Ljava/lang/Object;Ljava/lang/String;)Ljava/lang/Object;" } : Jvm.MethodName) jdk_31_method_11_code (2 : Nat) (Option.some (Jvm.ClassFile.FieldType.object "java/lang/Object"))).before args0 about1 = true := code_word (m := ⟨11, 1⟩) (meth := k11m1) (c := k11c1) (by decide +kernel) rfl rfl rfl (by decide +kernel)
set_option maxRecDepth 65536 in
theorem w_c9 : (Jvm.Cond.code ({ cls := "com/example/backfill/backfill/migration/NotNullCheck", name := "reads", desc := "(Ljava/lang/String;Ljava/lang/String;)Z" } : Jvm.MethodName) prog_65_method_3_code (3 : Nat) (Option.some Jvm.ClassFile.FieldType.boolean)).before args0 about1 = true := code_word (m := ⟨10, 1⟩) (meth := k10m1) (c := k10c1) (by decide +kernel) rfl rfl rfl (by decide +kernel)
set_option maxRecDepth 65536 in
theorem w_c10 : (Jvm.Cond.code ({ cls := "java/lang/String", name := "equals", desc := "(Ljava/lang/Object;)Z" } : Jvm.MethodName) jdk_42_method_66_code (3 : Nat) (Option.some Jvm.ClassFile.FieldType.boolean)).before args0 about1 = true := code_word (m := ⟨7, 2⟩) (meth := k7m2) (c := k7c2) (by decide +kernel) rfl rfl rfl (by decide +kernel)
set_option maxRecDepth 65536 in
theorem w_c11 : (Jvm.Cond.code ({ cls := "java/lang/StringLatin1", name := "equals", desc := "([B[B)Z" } : Jvm.MethodName) jdk_43_method_13_code (3 : Nat) (Option.some Jvm.ClassFile.FieldType.boolean)).before args0 about1 = true := code_word (m := ⟨12, 1⟩) (meth := k12m1) (c := k12c1) (by decide +kernel) rfl rfl rfl (by decide +kernel)
set_option maxRecDepth 65536 in
theorem w_c12 : (Jvm.Cond.code ({ cls := "com/example/backfill/backfill/migration/NotNullCheckReadsPinLaw", name := "same", desc := "([C[C)Z" } : Jvm.MethodName) method_4_code (2 : Nat) (Option.some Jvm.ClassFile.FieldType.boolean)).before args0 about1 = true := code_word (m := ⟨1, 3⟩) (meth := k1m3) (c := k1c3) (by decide +kernel) rfl rfl rfl (by decide +kernel)
set_option maxRecDepth 65536 in
theorem w_c13 : (Jvm.Cond.code ({ cls := "java/lang/StringUTF16", name := "compress", desc := "([CII)[B" } : Jvm.MethodName) jdk_52_method_16_code (6 : Nat) (Option.some (Jvm.ClassFile.FieldType.array Jvm.ClassFile.FieldType.byte))).before args0 about1 = true := code_word (m := ⟨13, 2⟩) (meth := k13m2) (c := k13c2) (by decide +kernel) rfl rfl rfl (by decide +kernel)
set_option maxRecDepth 65536 in
theorem w_c14 : (Jvm.Cond.code ({ cls := "java/lang/StringUTF16", name := "compress", desc := "([CI[BII)I" } : Jvm.MethodName) jdk_52_method_21_code (7 : Nat) (Option.some Jvm.ClassFile.FieldType.int)).before args0 about1 = true := code_word (m := ⟨13, 3⟩) (meth := k13m3) (c := k13c3) (by decide +kernel) rfl rfl rfl (by decide +kernel)
set_option maxRecDepth 65536 in
theorem w_c15 : (Jvm.Cond.code ({ cls := "java/lang/StringUTF16", name := "coderFromArrayLen", desc := "([BI)B" } : Jvm.MethodName) jdk_52_method_15_code (2 : Nat) (Option.some Jvm.ClassFile.FieldType.byte)).before args0 about1 = true := code_word (m := ⟨13, 1⟩) (meth := k13m1) (c := k13c1) (by decide +kernel) rfl rfl rfl (by decide +kernel)
def codes1 : List Jvm.Cond := [Jvm.Cond.code x code maxLocals ret, Jvm.Cond.code ({ cls := "com/example/backfill/backfill/migration/NotNullCheckReadsPinLaw", name := "draw", desc := "(I)[C" } : Jvm.MethodName) method_2_code (3 : Nat) (Option.some (Jvm.ClassFile.FieldType.array Jvm.ClassFile.FieldType.char)), Jvm.Cond.code ({ cls := "com/example/backfill/backfill/migration/NotNullCheckReadsPinLaw", name := "pick", desc := "(I[C[C[C[C)[C" } : Jvm.MethodName) method_3_code (5 : Nat) (Option.some (Jvm.ClassFile.FieldType.array Jvm.ClassFile.FieldType.char)), Jvm.Cond.code ({ cls := "java/lang/String", name := "<init>", desc := "([C)V" } : Jvm.MethodName) jdk_42_method_3_code (2 : Nat) (Option.none : Option Jvm.ClassFile.FieldType), Jvm.Cond.code ({ cls := "java/lang/String", name := "<init>", desc := "([CIILjava/lang/Void;)V" } : Jvm.MethodName) jdk_42_method_149_code (6 : Nat) (Option.none : Option Jvm.ClassFile.FieldType), Jvm.Cond.code ({ cls := "java/lang/Object", name := "<init>", desc := "()V" } : Jvm.MethodName) object_method_1_code (1 : Nat) (Option.none : Option Jvm.ClassFile.FieldType), Jvm.Cond.code ({ cls := "com/example/backfill/backfill/migration/NotNullCheck", name := "<init>", desc := "(Ljava/lang/String;Ljava/lang/String;Ljava/lang/String;)V" } : Jvm.MethodName) prog_65_method_1_code (4 : Nat) (Option.none : Option Jvm.ClassFile.FieldType), Jvm.Cond.code ({ cls := "java/lang/Record", name := "<init>", desc := "()V" } : Jvm.MethodName) jdk_30_method_1_code (1 : Nat) (Option.none : Option Jvm.ClassFile.FieldType), Jvm.Cond.code ({ cls := "java/util/Objects", name := "requireNonNull", desc := "(Ljava/lang/Object;Ljava/lang/String;)Ljava/lang/Object;" } : Jvm.MethodName) jdk_31_method_11_code (2 : Nat) (Option.some (Jvm.ClassFile.FieldType.object "java/lang/Object")), Jvm.Cond.code ({ cls := "com/example/backfill/backfill/migration/NotNullCheck", name := "reads", desc := "(Ljava/lang/String;Ljava/lang/String;)Z" } : Jvm.MethodName) prog_65_method_3_code (3 : Nat) (Option.some Jvm.ClassFile.FieldType.boolean), Jvm.Cond.code ({ cls := "java/lang/String", name := "equals", desc := "(Ljava/lang/Object;)Z" } : Jvm.MethodName) jdk_42_method_66_code (3 : Nat) (Option.some Jvm.ClassFile.FieldType.boolean), Jvm.Cond.code ({ cls := "java/lang/StringLatin1", name := "equals", desc := "([B[B)Z" } : Jvm.MethodName) jdk_43_method_13_code (3 : Nat) (Option.some Jvm.ClassFile.FieldType.boolean), Jvm.Cond.code ({ cls := "com/example/backfill/backfill/migration/NotNullCheckReadsPinLaw", name := "same", desc := "([C[C)Z" } : Jvm.MethodName) method_4_code (2 : Nat) (Option.some Jvm.ClassFile.FieldType.boolean), Jvm.Cond.code ({ cls := "java/lang/StringUTF16", name := "compress", desc := "([CII)[B" } : Jvm.MethodName) jdk_52_method_16_code (6 : Nat) (Option.some (Jvm.ClassFile.FieldType.array Jvm.ClassFile.FieldType.byte)), Jvm.Cond.code ({ cls := "java/lang/StringUTF16", name := "compress", desc := "([CI[BII)I" } : Jvm.MethodName) jdk_52_method_21_code (7 : Nat) (Option.some Jvm.ClassFile.FieldType.int), Jvm.Cond.code ({ cls := "java/lang/StringUTF16", name := "coderFromArrayLen", desc := "([BI)B" } : Jvm.MethodName) jdk_52_method_15_code (2 : Nat) (Option.some Jvm.ClassFile.FieldType.byte)]
set_option maxRecDepth 65536 in
theorem codes_eq : words1.filter isCode = codes1 := rfl
theorem w_codes : ∀ c ∈ words1.filter isCode, c.before args0 about1 = true := by
  rw [codes_eq]
  intro c hc
  simp only [codes1, List.mem_cons, List.not_mem_nil, or_false] at hc
  rcases hc with rfl | rfl | rfl | rfl | rfl | rfl | rfl | rfl | rfl | rfl | rfl | rfl | rfl | rfl | rfl | rfl
  · exact w_c0
  · exact w_c1
  · exact w_c2
  · exact w_c3
  · exact w_c4
  · exact w_c5
  · exact w_c6
  · exact w_c7
  · exact w_c8
  · exact w_c9
  · exact w_c10
  · exact w_c11
  · exact w_c12
  · exact w_c13
  · exact w_c14
  · exact w_c15
set_option maxRecDepth 65536 in
theorem w_t1 : (words1.take 24).all (fun c => isCode c || c.before args0 about1) = true := by decide +kernel
set_option maxRecDepth 65536 in
theorem w_t2 : ((words1.drop 24).take 24).all (fun c => isCode c || c.before args0 about1) = true := by decide +kernel
set_option maxRecDepth 65536 in
theorem w_t3 : (((words1.drop 24).drop 24).take 24).all (fun c => isCode c || c.before args0 about1) = true := by decide +kernel
set_option maxRecDepth 65536 in
theorem w_t4 : (((words1.drop 24).drop 24).drop 24).all (fun c => isCode c || c.before args0 about1) = true := by decide +kernel
theorem w_tables : (allAtoms (Jvm.Cond.code x code maxLocals ret :: tables_1)).before args0 about1 = true := by
  rw [allAtoms_all]
  show words1.all (fun c => c.before args0 about1) = true
  refine all_split ?_ w_codes
  rw [← List.take_append_drop 24 words1, List.all_append, w_t1, ← List.take_append_drop 24 (words1.drop 24), List.all_append, w_t2, ← List.take_append_drop 24 ((words1.drop 24).drop 24), List.all_append, w_t3, w_t4]
  rfl
set_option maxRecDepth 65536 in
theorem w_rest : rest_1_c.before args0 about1 = true := by decide +kernel
set_option maxRecDepth 65536 in
theorem w_case : (Jvm.Cond.and given_1 narrow_1).before args0 about1 = true := by decide +kernel
set_option maxRecDepth 65536 in
theorem w_consts : constsHeld consts_1 about1 := Jvm.Lit.constsHeldB_iff.mp (by decide +kernel)
theorem w_applies : (headSpec (Jvm.Cond.code x code maxLocals ret :: tables_1) room_1).applies x e0.platform about1 = true :=
  (Spec.applies_iff w_frames).mpr ⟨w_running, w_runnable, w_alone, w_named, w_hears, w_ripe, w_room, w_tables⟩
theorem atStart : AtStart classFile x code maxLocals ret World_1 tables_1 room_1 Calls_1 rest_1 Pre_1 launch0 p0 e0 about1 theMethod args0 below0 :=
  ⟨lists_1, trivial, launch0.admits_env _ _ _, launch0.least_env, fairChoices_fair.cas, fairChoices_fair.clock, w_frames, w_args, w_heap, w_applies, ⟨w_consts, trivial⟩, w_rest, w_case⟩
end start1
theorem witness_1 : WitnessClaimed_1 := ⟨start1.p0, start1.e0, start1.about1, start1.theMethod, start1.args0, start1.below0, start1.atStart⟩
end Jvm.Pilot.@@N@@
