import JvmDerived
import JvmDerived.Pilot.@@N@@Statement
import JvmDerived.Pilot.@@N@@Code
set_option linter.unusedVariables false
set_option linter.unusedSimpArgs false
namespace Jvm.OwnKit
open Sem ClassFile Op Lib Bundle Jvm.Stand Jvm.Free Jvm.LawKit Jvm.RoadKit
section Kit
variable {p : Program} {l : Launch} {e : Env} {R : Room} {s : State} {m : MethodId} {args : Array Value} {below : List Frame} {meth : Method} {c : Code} {Z : State} {a0 : Array Value} {EL : List (String × Nat)} {own : String} {Q : Option Value → Vm → Heap → Prop} {vm : Vm} {h : Heap} {cells slots : Nat} {g : JFrame}
/-- the k-th word -/
theorem ow {L : List Jvm.Cond} (hw : ∀ d ∈ L, d.before a0 Z = true) (k : Nat) {d : Jvm.Cond} (q : L[k]? = some d) : d.before a0 Z = true := hw _ (List.mem_of_getElem? q)
/-- a standing place of a walk that may have interned: tables vm, heap h, usage -/
def St (p : Program) (l : Launch) (e : Env) (R : Room) (s : State) (m : MethodId) (args : Array Value) (below : List Frame) (meth : Method) (c : Code) (Z : State) (a0 : Array Value) (EL : List (String × Nat)) (own : String) (vm : Vm) (T : State) (h : Heap) (cells slots : Nat) : Prop :=
  ∃ (locs : List Loc) (k0 : Nat), Stand p l e R (s.setVm vm) m args below meth c T locs cells slots ∧ T.heap = h ∧ Z.Warmed39 vm ∧ vm.findClass own = some m.cls ∧ s.Since vm k0 ∧ k0 ≤ h.size ∧ Fr Z.heap.size locs ∧ CHr Z EL s.vm s.heap vm h ∧ Ext Z.heap s.heap ∧ EW Z a0 EL ∧ p.tables.exec = Jvm.exec ∧ meth.locks = false
/-- from every such place with this frame the method ends as Q says -/
def Go (p : Program) (l : Launch) (e : Env) (R : Room) (s : State) (m : MethodId) (args : Array Value) (below : List Frame) (meth : Method) (c : Code) (Z : State) (a0 : Array Value) (EL : List (String × Nat)) (own : String) (Q : Option Value → Vm → Heap → Prop) (vm : Vm) (h : Heap) (cells slots : Nat) (g : JFrame) : Prop :=
  ∀ T, St p l e R s m args below meth c Z a0 EL own vm T h cells slots → ∃ s₂ o, Steps p.tables e below (T.setTop g) s₂ ∧ s₂.status = .running ∧ Ended s₂ below o ∧
    ∃ v L, o = .returned v ∧ (Fr Z.heap.size L ∧ Q v s₂.vm s₂.heap) ∧ CHr Z EL s.vm s.heap s₂.vm s₂.heap ∧ ReturnedEndW s o s₂ L R.cells R.slots
/-- a plain step -/
theorem gs (g' : JFrame) (st : ∀ T target, At T m c below → Steps p.tables e below (T.setTop g') target → Steps p.tables e below (T.setTop g) target)
    (k : Go p l e R s m args below meth c Z a0 EL own Q vm h cells slots g') : Go p l e R s m args below meth c Z a0 EL own Q vm h cells slots g := fun T X => by
  obtain ⟨s2, o, q1, q2⟩ := k T X
  obtain ⟨locs, k0, X', -⟩ := X
  exact ⟨s2, o, st _ _ X'.here q1, q2⟩
theorem gat (g' : JFrame) (q : g = g') (k : Go p l e R s m args below meth c Z a0 EL own Q vm h cells slots g') : Go p l e R s m args below meth c Z a0 EL own Q vm h cells slots g := q ▸ k
/-- a step that asks the standing place -/
theorem gx (g' : JFrame) (st : ∀ T locs, Stand p l e R (s.setVm vm) m args below meth c T locs cells slots → Z.Warmed39 vm → vm.findClass own = some m.cls → T.heap = h → ∀ target, Steps p.tables e below (T.setTop g') target → Steps p.tables e below (T.setTop g) target)
    (k : Go p l e R s m args below meth c Z a0 EL own Q vm h cells slots g') : Go p l e R s m args below meth c Z a0 EL own Q vm h cells slots g := fun T X => by
  obtain ⟨s2, o, q1, q2⟩ := k T X
  obtain ⟨locs, k0, X', eT, hZ, hown, -⟩ := X
  exact ⟨s2, o, st _ _ X' hZ hown eT _ q1, q2⟩
/-- a step to another state, the heap as it was -/
theorem gy (g' : JFrame) (st : ∀ T locs, Stand p l e R (s.setVm vm) m args below meth c T locs cells slots → Z.Warmed39 vm → vm.findClass own = some m.cls → T.heap = h → ∃ T', Stand p l e R (s.setVm vm) m args below meth c T' locs cells slots ∧ T'.heap = h ∧ ∀ target, Steps p.tables e below (T'.setTop g') target → Steps p.tables e below (T.setTop g) target)
    (k : Go p l e R s m args below meth c Z a0 EL own Q vm h cells slots g') : Go p l e R s m args below meth c Z a0 EL own Q vm h cells slots g := fun T X => by
  obtain ⟨locs, k0, X', eT, hZ, hown, r⟩ := X
  obtain ⟨T', X1, e1, s1⟩ := st T locs X' hZ hown eT
  obtain ⟨s2, o, q1, q2⟩ := k T' ⟨locs, k0, X1, e1, hZ, hown, r⟩
  exact ⟨s2, o, s1 _ q1, q2⟩
/-- what the standing place knows -/
theorem ginfo (k : Z.Warmed39 vm → CHv Z EL vm h → Ext Z.heap h → Go p l e R s m args below meth c Z a0 EL own Q vm h cells slots g) : Go p l e R s m args below meth c Z a0 EL own Q vm h cells slots g := fun T X => by
  have X0 := X
  obtain ⟨locs, k0, X', eT, hZ, hown, hS, hk, N, H, E0, r⟩ := X
  refine k hZ H.1 ⟨?_, ?_⟩ T X0
  · exact Nat.le_trans E0.1 H.2.1
  · intro b cl hcl
    have hb := (Array.getElem?_eq_some_iff.mp hcl).1
    obtain ⟨c', h1, h2, -, h4⟩ := X'.same.2.2.2.2.2 b cl (show s.heap[b]? = some cl from E0.2 b cl hcl)
    have hsl : c'.slots = cl.slots := Array.ext_getElem? fun i => h4 i fun hm => absurd (N _ hm) (Nat.not_le.mpr hb)
    have hcc : c' = cl := by rw [h2, hsl]
    have h1' : T.heap[b]? = some c' := h1
    rw [← eT, ← hcc]; exact h1'
theorem gmono {cells' slots' : Nat} (hc : cells ≤ cells') (hs : slots ≤ slots') (k : Go p l e R s m args below meth c Z a0 EL own Q vm h cells' slots' g) : Go p l e R s m args below meth c Z a0 EL own Q vm h cells slots g := fun T X => by
  obtain ⟨locs, k0, X', r⟩ := X
  exact k T ⟨locs, k0, { X' with same := X'.same.mono hc hs }, r⟩
/-- the heap grows at its end -/
theorem gnew {cells' slots' : Nat} {P : Heap → Prop} (g' : Heap → JFrame)
    (st : ∀ T locs, Stand p l e R (s.setVm vm) m args below meth c T locs cells slots → Z.Warmed39 vm → vm.findClass own = some m.cls → T.heap = h → ∃ T' h', Stand p l e R (s.setVm vm) m args below meth c T' locs cells' slots' ∧ T'.heap = h' ∧ Ext h h' ∧ P h' ∧ ∀ target, Steps p.tables e below (T'.setTop (g' h')) target → Steps p.tables e below (T.setTop g) target)
    (k : ∀ h', Ext h h' → CHr Z EL vm h vm h' → P h' → Z.heap.size ≤ h.size → Safe Z EL vm h' h.size → Go p l e R s m args below meth c Z a0 EL own Q vm h' cells' slots' (g' h')) : Go p l e R s m args below meth c Z a0 EL own Q vm h cells slots g := fun T X => by
  obtain ⟨locs, k0, X', eT, hZ, hown, hS, hk, N, H, E0, r⟩ := X
  obtain ⟨T', h', X1, e1, E, hP, s1⟩ := st T locs X' hZ hown eT
  obtain ⟨s2, o, q1, q2⟩ := k h' E (CHr.ext E H.1) hP (Nat.le_trans E0.1 H.2.1) (Safe.ext E H.1 (Safe.new (Nat.le_refl _))) T' ⟨locs, k0, X1, e1, hZ, hown, hS, Nat.le_trans hk E.1, N, H.trans (CHr.ext E H.1), E0, r⟩
  exact ⟨s2, o, s1 _ q1, q2⟩
/-- one place is written -/
theorem gwr (g' : JFrame) {a : Addr} {sl : Nat} {v : Value} (ha : Z.heap.size ≤ a) (hs : Z.vm.Alike vm → Safe Z EL vm h a)
    (st : ∀ T locs, Stand p l e R (s.setVm vm) m args below meth c T locs cells slots → Z.Warmed39 vm → vm.findClass own = some m.cls → T.heap = h → ∃ T' h', Stand p l e R (s.setVm vm) m args below meth c T' (locs ++ [⟨a, sl⟩]) cells slots ∧ T'.heap = h' ∧ Wr h h' a sl v ∧ ∀ target, Steps p.tables e below (T'.setTop g') target → Steps p.tables e below (T.setTop g) target)
    (k : ∀ h', Wr h h' a sl v → CHr Z EL vm h vm h' → Go p l e R s m args below meth c Z a0 EL own Q vm h' cells slots g') : Go p l e R s m args below meth c Z a0 EL own Q vm h cells slots g := fun T X => by
  obtain ⟨locs, k0, X', eT, hZ, hown, hS, hk, N, H, E0, r⟩ := X
  obtain ⟨T', h', X1, e1, W, s1⟩ := st T locs X' hZ hown eT
  obtain ⟨s2, o, q1, q2⟩ := k h' W (CHr.wr W (hs hZ.alike) H.1) T' ⟨_, k0, X1, e1, hZ, hown, hS, by rw [W.size]; exact hk, Fr.snoc X1 N ha, H.trans (CHr.wr W (hs hZ.alike) H.1), E0, r⟩
  exact ⟨s2, o, s1 _ q1, q2⟩
/-- the end -/
theorem gret {v : Option Value} (hv : meth.sig.returnType = none → v = none) (hc : cells ≤ R.cells) (hs : slots ≤ R.slots)
    (st : ∀ T locs fs, Stand p l e R (s.setVm vm) m args below meth c T locs cells slots → (∀ (f : JFrame) (acts : List Action), f.method = m → f.locked = none → f.entered = [] → (doReturn e (T.setTop f) acts v).1 = T.setFrames fs) → Steps p.tables e below (T.setTop g) (T.setFrames fs))
    (hq : ∀ vm', CHr Z EL vm h vm' h → Q v vm' h) : Go p l e R s m args below meth c Z a0 EL own Q vm h cells slots g := fun T X => by
  obtain ⟨locs, k0, X', eT, hZ, hown, hS, hk, N, H, E0, hw, hx, hlk⟩ := X
  obtain ⟨fs, hr, hrun, hend, hW⟩ := X'.leaveW hS (by rw [eT]; exact hk) hv hlk
  have C1 : CHr Z EL vm h T.vm h := CHv.at X' hZ hw H.1
  refine ⟨_, _, st T locs fs X' hr, hrun, hend, v, locs, rfl, ⟨N, ?_⟩, ?_, ?_⟩
  · show Q v T.vm T.heap
    rw [eT]; exact hq _ C1
  · show CHr Z EL s.vm s.heap T.vm T.heap
    rw [eT]; exact H.trans C1
  · exact ⟨hW.1, hW.2.1, hW.2.2.1, hW.2.2.2.mono hc hs⟩
theorem gretI {pc : Nat} {Ls : Array Slot} {z : Int32} {rest : List Value} (hx : p.tables.exec = Jvm.exec) (hret : meth.sig.returnType = some .int) (hd : decode c.code pc = .ok (.ireturn, 1)) (hc : cells ≤ R.cells) (hs : slots ≤ R.slots)
    (hq : ∀ vm', CHr Z EL vm h vm' h → Q (some (.int z)) vm' h) : Go p l e R s m args below meth c Z a0 EL own Q vm h cells slots (mkF m pc Ls (.int z :: rest)) :=
  gret (v := some (.int z)) (fun q => by rw [hret] at q; cases q) hc hs (fun T locs fs X hr => retOut X hx hret rfl (Or.inl ⟨rfl, Or.inl rfl, z, rfl⟩) hd hr) hq
theorem gretN {t : FieldType} {pc : Nat} {Ls : Array Slot} {z : Int32} {rest : List Value} (hx : p.tables.exec = Jvm.exec) (hret : meth.sig.returnType = some t) (ht : t = .boolean ∨ t = .byte ∨ t = .char ∨ t = .short) (hd : decode c.code pc = .ok (.ireturn, 1)) (hc : cells ≤ R.cells) (hs : slots ≤ R.slots)
    (hq : ∀ vm', CHr Z EL vm h vm' h → Q (some (.int (nar t z))) vm' h) : Go p l e R s m args below meth c Z a0 EL own Q vm h cells slots (mkF m pc Ls (.int z :: rest)) :=
  gret (v := some (.int (nar t z))) (fun q => by rw [hret] at q; cases q) hc hs (fun T locs fs X hr => retN X hx hret ht hd hr) hq
theorem gretJ {pc : Nat} {Ls : Array Slot} {z : Int64} {rest : List Value} (hx : p.tables.exec = Jvm.exec) (hret : meth.sig.returnType = some .long) (hd : decode c.code pc = .ok (.lreturn, 1)) (hc : cells ≤ R.cells) (hs : slots ≤ R.slots)
    (hq : ∀ vm', CHr Z EL vm h vm' h → Q (some (.long z)) vm' h) : Go p l e R s m args below meth c Z a0 EL own Q vm h cells slots (mkF m pc Ls (.long z :: rest)) :=
  gret (v := some (.long z)) (fun q => by rw [hret] at q; cases q) hc hs (fun T locs fs X hr => retOut X hx hret rfl (Or.inr (Or.inl ⟨rfl, rfl, z, rfl⟩)) hd hr) hq
theorem gretA {t : FieldType} {pc : Nat} {Ls : Array Slot} {v : Value} {rest : List Value} (hx : p.tables.exec = Jvm.exec) (hret : meth.sig.returnType = some t) (ht : t.isReference = true) (hv : v.isRef = true) (hd : decode c.code pc = .ok (.areturn, 1)) (hc : cells ≤ R.cells) (hs : slots ≤ R.slots)
    (hq : ∀ vm', CHr Z EL vm h vm' h → Q (some v) vm' h) : Go p l e R s m args below meth c Z a0 EL own Q vm h cells slots (mkF m pc Ls (v :: rest)) :=
  gret (v := some v) (fun q => by rw [hret] at q; cases q) hc hs (fun T locs fs X hr => retOut X hx hret (by cases t <;> first | (cases ht; done) | (cases v <;> first | rfl | (cases hv; done))) (Or.inr (Or.inr (Or.inr (Or.inr ⟨rfl, ht, hv⟩)))) hd hr) hq
theorem gretV {pc : Nat} {Ls : Array Slot} (hx : p.tables.exec = Jvm.exec) (hret : meth.sig.returnType = none) (hd : decode c.code pc = .ok (.return_, 1)) (hc : cells ≤ R.cells) (hs : slots ≤ R.slots)
    (hq : ∀ vm', CHr Z EL vm h vm' h → Q none vm' h) : Go p l e R s m args below meth c Z a0 EL own Q vm h cells slots (mkF m pc Ls []) :=
  gret (v := none) (fun _ => rfl) hc hs (fun T locs fs X hr => X.returnOut hx hret hd hr) hq
/-! contracts -/
def Met (l : Launch) (y : MethodName) (bytes : ByteArray) (maxL : Nat) (ret : Option FieldType) (ws : List Jvm.Cond) (rm : Room) (Z : State) (EL : List (String × Nat)) (vm0 : Vm) (h0 : Heap) (as' : Array Value) (Q : Option Value → Vm → Heap → Prop) : Prop :=
  MetFree l y (head1 (Jvm.Cond.code y bytes maxL ret :: ws) rm) (fun a U => a = as' ∧ Z.Warmed39 U.vm ∧ U.heap = h0 ∧ CHr Z EL vm0 h0 U.vm h0) (fun _ _ _ _ _ => True)
    (fun _ U o U' => ∃ v L, o = .returned v ∧ (Fr Z.heap.size L ∧ Q v U'.vm U'.heap) ∧ CHr Z EL U.vm U.heap U'.vm U'.heap ∧ ReturnedEndW U o U' L rm.cells rm.slots)
theorem Met.of_walk {y : MethodName} {bytes : ByteArray} {maxL : Nat} {ret : Option FieldType} {ws : List Jvm.Cond} {rm : Room} {vm0 : Vm} {h0 : Heap} {as' : Array Value} (L0 : Array Slot) (hpn : plainFor y = true) (X00 : Ext Z.heap h0) (hEL : EW Z a0 EL)
    (hef : ∀ m, entryFrame m as' maxL = mkF m 0 L0 [])
    (walk : ∀ (p : Program) (e : Env) (s : State) (m : MethodId) (below : List Frame) (meth : Method) (c : Code) (vm : Vm), p.tables.exec = Jvm.exec → c.code = bytes → c.maxLocals = maxL → meth.sig.returnType = ret → meth.name = y.name → CHr Z EL vm0 h0 vm h0 →
      Go p l e rm s m as' below meth c Z a0 EL y.cls Q vm h0 0 0 (mkF m 0 L0 [])) : Met l y bytes maxL ret ws rm Z EL vm0 h0 as' Q := by
  refine MetFree.of_bodySF hpn hisR ?_
  intro p e s m args below meth c s₁ Bd hml0 hP hK
  obtain ⟨rfl, hZ, hh, hC⟩ := hP
  have X0 : Stand p l e rm s m args below meth c s₁ [] 0 0 := Stand.of_body Bd
  have e0 : s₁.heap = h0 := by rw [← hh, Bd.state]; rfl
  obtain ⟨s2, o, q1, q2⟩ := walk p e s m below meth c s.vm Bd.exec Bd.bytes hml0 Bd.returns (name_of_methodNamed Bd.named Bd.method).1 hC s₁
    ⟨[], 0, X0, e0, hZ, findClass_of_methodNamed Bd.named, (State.WarmedH.refl s).since 0, Nat.zero_le _, Fr.nil _, by rw [hh]; exact CHr.refl hC.1, by rw [hh]; exact X00, hEL, Bd.exec, Bd.notSynchronized⟩
  exact ⟨s2, o, by rw [hef]; exact q1, q2⟩
def Pay (l : Launch) (R : Room) (p : Program) (e : Env) (below : List Frame) (s : State) (args : Array Value) (Z : State) (EL : List (String × Nat)) (vm : Vm) (h : Heap) (y : MethodName) (len W : Nat) (as' : Array Value) (rc rs : Nat) (Q : Option Value → Vm → Heap → Prop) : Prop :=
  BackS l R p e below (s.setVm vm) args y len W (fun A a => a = as' ∧ A.U.heap = h ∧ A.cells + rc ≤ R.cells ∧ A.slots + rs ≤ R.slots)
    (fun A _ v B => ∃ L, (Fr Z.heap.size L ∧ Q v B.U.vm B.U.heap) ∧ B.locs = A.locs ++ L ∧ B.cells = A.cells + rc ∧ B.slots = A.slots + rs ∧ CHr Z EL vm h B.U.vm B.U.heap)
theorem Pay.of_met {y : MethodName} {bytes : ByteArray} {maxL : Nat} {ret : Option FieldType} {rm : Room} {len W : Nat} {as' : Array Value} (hM : Met l y bytes maxL ret [] rm Z EL vm h as' Q)
    (wc : (Jvm.Cond.code y bytes maxL ret).before a0 Z = true) (wz : (Jvm.Cond.initialized y.cls).before a0 Z = true) (hf : rm.frames + 1 ≤ R.frames) (hl : W + (maxL + 11) + rm.locals ≤ R.locals) (hZ : Z.Warmed39 vm) (H : CHv Z EL vm h) (hEL : EW Z a0 EL) :
    Pay l R p e below s args Z EL vm h y len W as' rm.cells rm.slots Q :=
  BackS.of_freeW (bytes := bytes) (maxL := maxL) (ret := ret) (E := fun _ first o t L k n => k = rm.cells ∧ n = rm.slots ∧ (∃ v, o = .returned v ∧ (Fr Z.heap.size L ∧ Q v t.vm t.heap)) ∧ CHr Z EL first.vm first.heap t.vm t.heap) hM hf hl
    (fun m meth c A a Y hp => have hU : Z.Warmed39 A.U.vm := wtrans (s := s.setVm vm) hZ Y.warmed
      ⟨by show (Jvm.Cond.and _ .tt).before a A.U = true; rw [Cond.before_and, mv hU wc]; rfl, mv hU wc, mv hU wz, hp.2.2.1, hp.2.2.2⟩)
    (fun m meth c A a g mk Y hp => ⟨hp.1, wtrans (s := s.setVm vm) hZ Y.warmed, hp.2.1, (show CHr Z EL vm h A.U.vm h from CHv.at Y hZ hEL H)⟩) (fun _ _ _ _ _ _ _ _ _ => trivial)
    (fun _ _ _ _ ⟨v, L, h1, h2, h3, h4⟩ => ⟨L, _, _, h4, rfl, rfl, ⟨v, h1, h2⟩, h3⟩)
    (fun m meth c A a g mk v t L k n Y hp _ _ ⟨e1, e2, ⟨v', e3, e4⟩, e5⟩ => by
      cases e3; subst e1 e2
      refine ⟨L, e4, rfl, rfl, rfl, (CHv.at Y hZ hEL H).trans ?_⟩
      rw [← hp.2.1]; exact e5)
theorem Pay.of_back {y : MethodName} {len W : Nat} {as' : Array Value} {rc rs : Nat} {Q0 : Option Value → Heap → List Loc → Prop}
    (hK : Back l R p e below (s.setVm vm) args y len W (fun A a => a = as' ∧ A.U.heap = h ∧ A.cells + rc ≤ R.cells ∧ A.slots + rs ≤ R.slots) (fun A _ v B => ∃ L, Q0 v B.U.heap L ∧ B.locs = A.locs ++ L ∧ B.cells = A.cells + rc ∧ B.slots = A.slots + rs))
    (hZ : Z.Warmed39 vm) (H : CHv Z EL vm h) (hEL : EW Z a0 EL)
    (hq : ∀ v h' L, Q0 v h' L → Fr Z.heap.size L ∧ (∃ ws, Keep h h' ws ∧ ∀ x ∈ ws, Safe Z EL vm h x) ∧ ∀ vm', CHr Z EL vm h vm' h' → Q v vm' h') : Pay l R p e below s args Z EL vm h y len W as' rc rs Q := by
  intro m meth c A g ig mk a X hg hsize hdg hW hn hp
  obtain ⟨v, B, X', ⟨L, q0, q1, q2, q3⟩, hsteps⟩ := hK m meth c A g ig mk a X hg hsize hdg hW hn hp
  obtain ⟨hF, ⟨ws, K, hs⟩, hQ⟩ := hq _ _ _ q0
  have C1 : CHr Z EL vm h vm B.U.heap := CHr.keep K hs H
  have C2 : CHr Z EL vm h B.U.vm B.U.heap := C1.trans (CHv.at X' hZ hEL C1.1)
  exact ⟨v, B, X'.retabled X'.warmed.wide, X'.warmed.since _, by rw [hp.2.1]; exact K.1, ⟨L, ⟨hF, hQ _ C2⟩, q1, q2, q3, C2⟩, hsteps⟩
theorem Pay.mono {y : MethodName} {len W rc rs : Nat} {as' : Array Value} {Q' : Option Value → Vm → Heap → Prop} (hP : Pay l R p e below s args Z EL vm h y len W as' rc rs Q) (hq : ∀ v vm' h', Q v vm' h' → Q' v vm' h') : Pay l R p e below s args Z EL vm h y len W as' rc rs Q' := by
  intro m meth c A g ig mk a X hg hsize hdg hW hn hp
  obtain ⟨v, B, X', h1, h2, ⟨L, ⟨q1, q2⟩, r⟩, st⟩ := hP m meth c A g ig mk a X hg hsize hdg hW hn hp
  exact ⟨v, B, X', h1, h2, ⟨L, ⟨q1, hq _ _ _ q2⟩, r⟩, st⟩
/-- behind any call -/
theorem gback {y : MethodName} {rc rs : Nat} {as' : Array Value} {Q' : Option Value → Vm → Heap → Prop} {rest : List Value} {pc' : Nat} {L : Array Slot}
    (st : ∀ T locs, Stand p l e R (s.setVm vm) m args below meth c T locs cells slots → Z.Warmed39 vm → vm.findClass own = some m.cls → T.heap = h → CHv Z EL vm h → EW Z a0 EL →
      ∃ (v : Option Value) (vm₁ : Vm) (B : Pt), (s.setVm vm).WarmedH vm₁ ∧ Stand p l e R ((s.setVm vm).setVm B.U.vm) m args below meth c B.U B.locs B.cells B.slots ∧ (s.setVm vm).Since B.U.vm B.U.heap.size ∧ T.heap.size ≤ B.U.heap.size ∧
        (∃ L, (Fr Z.heap.size L ∧ Q' v B.U.vm B.U.heap) ∧ B.locs = locs ++ L ∧ B.cells = cells + rc ∧ B.slots = slots + rs ∧ CHr Z EL vm h B.U.vm B.U.heap) ∧ Steps p.tables e below (T.setTop g) (B.U.setTop (mkF m pc' L (v.toList ++ rest))))
    (k : ∀ v vm' h', CHr Z EL vm h vm' h' → Q' v vm' h' → Go p l e R s m args below meth c Z a0 EL own Q vm' h' (cells + rc) (slots + rs) (mkF m pc' L (v.toList ++ rest))) : Go p l e R s m args below meth c Z a0 EL own Q vm h cells slots g := fun T X => by
  obtain ⟨locs, k0, X', eT, hZ, hown, hS, hk, N, H, E0, hEL, hx, hlk⟩ := X
  obtain ⟨v, vm1, ⟨U, Lx, cx, sx⟩, hW1, X1, hS1, hgr, ⟨L1, ⟨hF, hQ⟩, hl, hc, hs, hC⟩, s1⟩ := st T locs X' hZ hown eT H.1 hEL
  dsimp only [Pt.U, Pt.locs, Pt.cells, Pt.slots] at X1 hS1 hgr hF hQ hl hc hs hC s1
  subst hl hc hs
  obtain ⟨s2, o, q1, q2⟩ := k v U.vm U.heap hC hQ U ⟨_, U.heap.size, X1, rfl, State.Warmed39.trans (t := s.setVm vm) hZ hS1.1, (hS1.1.alike.findClass _ _).trans hown, hS.trans hS1 (Nat.le_trans hk (by rw [← eT]; exact hgr)), Nat.le_refl _, Fr.app N hF, H.trans hC, E0, hEL, hx, hlk⟩
  exact ⟨s2, o, s1.trans q1, q2⟩
end Kit
end Jvm.OwnKit
namespace Jvm.OwnKit
open Sem ClassFile Op Lib Bundle Jvm.Stand Jvm.Free Jvm.LawKit Jvm.RoadKit
section Kit2
variable {p : Program} {l : Launch} {e : Env} {R : Room} {s : State} {m : MethodId} {args : Array Value} {below : List Frame} {meth : Method} {c : Code} {Z : State} {a0 : Array Value} {EL : List (String × Nat)} {own : String} {Q : Option Value → Vm → Heap → Prop} {vm : Vm} {h : Heap} {cells slots : Nat} {g : JFrame}
/-! calls -/
theorem gcallS {index : Nat} {y : MethodName} {bytes : ByteArray} {maxL : Nat} {ret : Option FieldType} (hx : p.tables.exec = Jvm.exec) (wl : (Cond.methodLink own index y).before a0 Z = true) (wst : (Cond.static y).before a0 Z = true) (wz : (Cond.initialized y.cls).before a0 Z = true) (wc : (Cond.code y bytes maxL ret).before a0 Z = true)
    (hy : y.cls ≠ "java/lang/invoke/MethodHandle" ∧ y.cls ≠ "java/lang/invoke/VarHandle") {W rc rs : Nat} {as' : Array Value} {Q' : Option Value → Vm → Heap → Prop} (hP : Z.Warmed39 vm → CHv Z EL vm h → EW Z a0 EL → Pay l R p e below s args Z EL vm h y 3 W as' rc rs Q')
    {pc : Nat} (pc' : Nat) {L : Array Slot} {S argsL rest : List Value} (hlen : ∀ sig, parseMethodDescriptor y.desc = some sig → argsL.length = sig.parameters.length) (has : argsL.toArray = as') (hstk : S = argsL.reverse ++ rest) (hW : (rest.map fun v => v.category).sum ≤ W) (hml : L.size = c.maxLocals)
    (hd : decode c.code pc = .ok (.invokestatic index, 3)) (hp : pc + 3 = pc') (hc : cells + rc ≤ R.cells) (hs : slots + rs ≤ R.slots)
    (k : ∀ v vm' h', CHr Z EL vm h vm' h' → Q' v vm' h' → Go p l e R s m args below meth c Z a0 EL own Q vm' h' (cells + rc) (slots + rs) (mkF m pc' L (v.toList ++ rest))) : Go p l e R s m args below meth c Z a0 EL own Q vm h cells slots (mkF m pc L S) :=
  gback (y := y) (as' := as') (fun T locs X hZ hown eT H hEL => by
    subst has hp hstk
    exact callSS (s := s.setVm vm) X hx hown (mvT hZ wl) (mvT hZ wst) (mvT hZ wz) (mvT hZ wc) hy (hP hZ H hEL) (g := mkF m pc L _) rfl hml hlen rfl (by show 2 * 0 + _ ≤ _; omega) hd (fun _ _ => ⟨rfl, eT, hc, hs⟩)) k
theorem gcallI {index : Nat} {y : MethodName} {bytes : ByteArray} {maxL : Nat} (hx : p.tables.exec = Jvm.exec) (hyi : y.name = "<init>") (wl : (Cond.methodLink own index y).before a0 Z = true) (wi : (Cond.instanceMethod y).before a0 Z = true) (wc : (Cond.code y bytes maxL none).before a0 Z = true)
    (hy : y.cls ≠ "java/lang/invoke/MethodHandle" ∧ y.cls ≠ "java/lang/invoke/VarHandle") {W rc rs : Nat} {as' : Array Value} {Q' : Option Value → Vm → Heap → Prop} (hP : Z.Warmed39 vm → CHv Z EL vm h → EW Z a0 EL → Pay l R p e below s args Z EL vm h y 3 W as' rc rs Q')
    {pc : Nat} (pc' : Nat) {L : Array Slot} {S argsL rest : List Value} {a : Addr} (hlen : ∀ sig, parseMethodDescriptor y.desc = some sig → argsL.length = sig.parameters.length) (has : (.ref a :: argsL).toArray = as') (hstk : S = argsL.reverse ++ .ref a :: rest) (hW : (rest.map fun v => v.category).sum ≤ W) (hml : L.size = c.maxLocals)
    (hd : decode c.code pc = .ok (.invokespecial index, 3)) (hp : pc + 3 = pc') (hc : cells + rc ≤ R.cells) (hs : slots + rs ≤ R.slots)
    (k : ∀ v vm' h', CHr Z EL vm h vm' h' → Q' v vm' h' → Go p l e R s m args below meth c Z a0 EL own Q vm' h' (cells + rc) (slots + rs) (mkF m pc' L (v.toList ++ rest))) : Go p l e R s m args below meth c Z a0 EL own Q vm h cells slots (mkF m pc L S) :=
  gback (y := y) (as' := as') (fun T locs X hZ hown eT H hEL => by
    subst has hp hstk
    exact X.specialBackS (s := s.setVm vm) hx hyi hown (mvT hZ wl) (mvT hZ wi) (mvT hZ wc) hy (hP hZ H hEL) (g := mkF m pc L _) rfl hml (Steps.refl _) hlen rfl (by show 2 * 0 + _ ≤ _; omega) hd (fun _ _ => ⟨rfl, eT, hc, hs⟩)) k
theorem gcallV {index : Nat} {C : String} {y z : MethodName} (hx : p.tables.exec = Jvm.exec) (wl : (Cond.methodLink own index y).before a0 Z = true) (wd : (Cond.declares y).before a0 Z = true) (nf : ∀ (U : State), Z.Warmed39 U.vm → NotFace U y) (wsel : (Cond.selects C y z).before a0 Z = true) (wi : (Cond.instanceMethod z).before a0 Z = true)
    (hy : y.cls ≠ "java/lang/invoke/MethodHandle" ∧ y.cls ≠ "java/lang/invoke/VarHandle") {W rc rs : Nat} {as' : Array Value} {Q' : Option Value → Vm → Heap → Prop} (hP : Z.Warmed39 vm → CHv Z EL vm h → EW Z a0 EL → Pay l R p e below s args Z EL vm h z 3 W as' rc rs Q')
    {pc : Nat} (pc' : Nat) {L : Array Slot} {S argsL rest : List Value} {a : Addr} (E : Exa Z h a C) (hlen : ∀ sig, parseMethodDescriptor y.desc = some sig → argsL.length = sig.parameters.length) (has : (.ref a :: argsL).toArray = as') (hstk : S = argsL.reverse ++ .ref a :: rest) (hW : (rest.map fun v => v.category).sum ≤ W) (hml : L.size = c.maxLocals)
    (hd : decode c.code pc = .ok (.invokevirtual index, 3)) (hp : pc + 3 = pc') (hc : cells + rc ≤ R.cells) (hs : slots + rs ≤ R.slots)
    (k : ∀ v vm' h', CHr Z EL vm h vm' h' → Q' v vm' h' → Go p l e R s m args below meth c Z a0 EL own Q vm' h' (cells + rc) (slots + rs) (mkF m pc' L (v.toList ++ rest))) : Go p l e R s m args below meth c Z a0 EL own Q vm h cells slots (mkF m pc L S) :=
  gback (y := z) (as' := as') (fun T locs X hZ hown eT H hEL => by
    subst has hp hstk
    obtain ⟨cB, kB, h1, h2, h3⟩ := isOf (s := s.setVm vm) hZ eT E
    exact X.virtualBackS (s := s.setVm vm) hx hown (mvT hZ wl) (mvT hZ wd) (nf _ hZ) (mvT hZ wsel) (mvT hZ wi) hy (hP hZ H hEL) h1 h3 (g := mkF m pc L _) rfl hml (Steps.refl _) hlen rfl (by show 2 * 0 + _ ≤ _; omega) hd (fun _ _ => ⟨rfl, eT, hc, hs⟩)) k
theorem nfSel {C : String} {y : MethodName} (w : (Cond.selects C y y).before a0 Z = true) : ∀ (U : State), Z.Warmed39 U.vm → NotFace U y := fun U hU => notFace_of_selects (args := #[]) (mvT hU w)
theorem nfSup {S : String} {y : MethodName} (w : (Cond.superclass y.cls S).before a0 Z = true) : ∀ (U : State), Z.Warmed39 U.vm → NotFace U y := fun U hU => nf_super (args := #[]) (mvT hU w)
theorem nfTop {y : MethodName} (w : (Cond.noSuperclass y.cls).before a0 Z = true) : ∀ (U : State), Z.Warmed39 U.vm → NotFace U y := fun U hU => nf_top (args := #[]) (mvT hU w)
theorem gcallF {index count : Nat} {C : String} {xi y : MethodName} (hx : p.tables.exec = Jvm.exec) (wl : (Cond.methodLink own index xi).before a0 Z = true) (wd : (Cond.declares xi).before a0 Z = true) (wf : ∀ (U : State) (aa : Array Value), Z.Warmed39 U.vm → (Cond.interfaceMethod xi.cls xi.cls xi.name xi.desc).before aa U = true) (wsel : (Cond.selects C xi y).before a0 Z = true) (wi : (Cond.instanceMethod y).before a0 Z = true)
    (wp : (Cond.publicMethod y).before a0 Z = true) (wu : (Cond.unhidden C xi.name xi.desc).before a0 Z = true) (wca : (Cond.castable C xi.cls).before a0 Z = true)
    (hy : xi.cls ≠ "java/lang/invoke/MethodHandle" ∧ xi.cls ≠ "java/lang/invoke/VarHandle") {W rc rs : Nat} {as' : Array Value} {Q' : Option Value → Vm → Heap → Prop} (hP : Z.Warmed39 vm → CHv Z EL vm h → EW Z a0 EL → Pay l R p e below s args Z EL vm h y 5 W as' rc rs Q')
    {pc : Nat} (pc' : Nat) {L : Array Slot} {S argsL rest : List Value} {a : Addr} (E : Exa Z h a C) (hlen : ∀ sig, parseMethodDescriptor xi.desc = some sig → argsL.length = sig.parameters.length) (has : (.ref a :: argsL).toArray = as') (hstk : S = argsL.reverse ++ .ref a :: rest) (hW : (rest.map fun v => v.category).sum ≤ W) (hml : L.size = c.maxLocals)
    (hd : decode c.code pc = .ok (.invokeinterface index count, 5)) (hp : pc + 5 = pc') (hc : cells + rc ≤ R.cells) (hs : slots + rs ≤ R.slots)
    (k : ∀ v vm' h', CHr Z EL vm h vm' h' → Q' v vm' h' → Go p l e R s m args below meth c Z a0 EL own Q vm' h' (cells + rc) (slots + rs) (mkF m pc' L (v.toList ++ rest))) : Go p l e R s m args below meth c Z a0 EL own Q vm h cells slots (mkF m pc L S) :=
  gback (y := y) (as' := as') (fun T locs X hZ hown eT H hEL => by
    subst has hp hstk
    obtain ⟨cB, kB, h1, h2, h3⟩ := isOf (s := s.setVm vm) hZ eT E
    exact X.interfaceBackS (s := s.setVm vm) hx hown (mvT hZ wl) (mvT hZ wd) (wf _ _ hZ) (mvT hZ wsel) (mvT hZ wi) (mvT hZ wp) (mvT hZ wu) (mvT hZ wca) hy (hP hZ H hEL) h1 h2 h3 (g := mkF m pc L _) rfl hml (Steps.refl _) hlen rfl (by show 2 * 0 + _ ≤ _; omega) hd (fun _ _ => ⟨rfl, eT, hc, hs⟩)) k
theorem gcallU {index : Nat} {K : String} {y : MethodName} {bytes : ByteArray} {maxL : Nat} {ret : Option FieldType} (hx : p.tables.exec = Jvm.exec) (wl : (Cond.methodLink own index y).before a0 Z = true) (wsm : (Cond.sameMethod y.cls y.cls y.name y.desc).before a0 Z = true) (wi : (Cond.instanceMethod y).before a0 Z = true) (wsu : (Cond.superclass own y.cls).before a0 Z = true) (hn : y.name ≠ "<init>") (wc : (Cond.code y bytes maxL ret).before a0 Z = true)
    {W rc rs : Nat} {as' : Array Value} {Q' : Option Value → Vm → Heap → Prop} (hP : Z.Warmed39 vm → CHv Z EL vm h → EW Z a0 EL → Pay l R p e below s args Z EL vm h y 3 W as' rc rs Q')
    {pc : Nat} (pc' : Nat) {L : Array Slot} {S argsL rest : List Value} {a : Addr} (I : Ins Z h a K true) (hlen : ∀ sig, parseMethodDescriptor y.desc = some sig → argsL.length = sig.parameters.length) (has : (.ref a :: argsL).toArray = as') (hstk : S = argsL.reverse ++ .ref a :: rest) (hW : (rest.map fun v => v.category).sum ≤ W) (hml : L.size = c.maxLocals)
    (hd : decode c.code pc = .ok (.invokespecial index, 3)) (hp : pc + 3 = pc') (hc : cells + rc ≤ R.cells) (hs : slots + rs ≤ R.slots)
    (k : ∀ v vm' h', CHr Z EL vm h vm' h' → Q' v vm' h' → Go p l e R s m args below meth c Z a0 EL own Q vm' h' (cells + rc) (slots + rs) (mkF m pc' L (v.toList ++ rest))) : Go p l e R s m args below meth c Z a0 EL own Q vm h cells slots (mkF m pc L S) :=
  gback (y := y) (as' := as') (fun T locs X hZ hown eT H hEL => by
    subst has hp hstk
    exact superBackS (s := s.setVm vm) X hx hZ hown wl wsm wi wsu hn (hP hZ H hEL) eT I (g := mkF m pc L _) rfl hml wc hlen rfl (by show 2 * 0 + _ ≤ _; omega) hd (fun _ _ => ⟨rfl, eT, hc, hs⟩)) k
theorem gcallP {index : Nat} {y : MethodName} {bytes : ByteArray} {maxL : Nat} {ret : Option FieldType} (hx : p.tables.exec = Jvm.exec) (wl : (Cond.methodLink own index y).before a0 Z = true) (wi : (Cond.instanceMethod y).before a0 Z = true) (wsel : (Cond.selects y.cls y y).before a0 Z = true) (wp : (Cond.privateMethod y).before a0 Z = true) (wc : (Cond.code y bytes maxL ret).before a0 Z = true)
    (hy : y.cls ≠ "java/lang/invoke/MethodHandle" ∧ y.cls ≠ "java/lang/invoke/VarHandle") {W rc rs : Nat} {as' : Array Value} {Q' : Option Value → Vm → Heap → Prop} (hP : Z.Warmed39 vm → CHv Z EL vm h → EW Z a0 EL → Pay l R p e below s args Z EL vm h y 3 W as' rc rs Q')
    {pc : Nat} (pc' : Nat) {L : Array Slot} {S argsL rest : List Value} {a : Addr} {K : String} (E : Exa Z h a K) (hlen : ∀ sig, parseMethodDescriptor y.desc = some sig → argsL.length = sig.parameters.length) (has : (.ref a :: argsL).toArray = as') (hstk : S = argsL.reverse ++ .ref a :: rest) (hW : (rest.map fun v => v.category).sum ≤ W) (hml : L.size = c.maxLocals)
    (hd : decode c.code pc = .ok (.invokevirtual index, 3)) (hp : pc + 3 = pc') (hc : cells + rc ≤ R.cells) (hs : slots + rs ≤ R.slots)
    (k : ∀ v vm' h', CHr Z EL vm h vm' h' → Q' v vm' h' → Go p l e R s m args below meth c Z a0 EL own Q vm' h' (cells + rc) (slots + rs) (mkF m pc' L (v.toList ++ rest))) : Go p l e R s m args below meth c Z a0 EL own Q vm h cells slots (mkF m pc L S) :=
  gback (y := y) (as' := as') (fun T locs X hZ hown eT H hEL => by
    subst has hp hstk
    obtain ⟨cq, q1, q2⟩ := E.cell
    exact X.privateBackS (s := s.setVm vm) hx hown (mvT hZ wl) (mvT hZ wi) (mvT hZ wsel) (Cond.privateMethod_at (mvP (s := s.setVm vm) hZ wp (args := #[]))) (mvT hZ wc) hy (hP hZ H hEL) (g := mkF m pc L _) rfl hml (Steps.refl _) (by rw [eT]; exact q1) q2 hlen rfl (by show 2 * 0 + _ ≤ _; omega) hd (fun _ _ => ⟨rfl, eT, hc, hs⟩)) k
/-- Object.<init> -/
theorem ginitO {idx : Nat} (hx : p.tables.exec = Jvm.exec) (w1 : (Cond.methodLink own idx Lib.objectInit).before a0 Z = true) (w2 : (Cond.instanceMethod Lib.objectInit).before a0 Z = true) (w3 : (Cond.code Lib.objectInit ⟨#[0xb1]⟩ 1 none).before a0 Z = true)
    {pc : Nat} (pc' : Nat) {L : Array Slot} {rest : List Value} {a : Addr} {W : Nat} (hW : (rest.map fun v => v.category).sum ≤ W) (hml : L.size = c.maxLocals) (hd : decode c.code pc = .ok (.invokespecial idx, 3)) (hp : pc + 3 = pc') (hf : 1 ≤ R.frames) (hl : W + 12 ≤ R.locals)
    (k : Go p l e R s m args below meth c Z a0 EL own Q vm h cells slots (mkF m pc' L rest)) : Go p l e R s m args below meth c Z a0 EL own Q vm h cells slots (mkF m pc L (.ref a :: rest)) :=
  gy _ (fun T locs X hZ hown eT => by
    subst hp
    exact initO (s := s.setVm vm) X hx hZ hown w1 w2 w3 eT (g := mkF m pc L (.ref a :: rest)) rfl hml rfl hd hf (W := W) (by show 2 * 0 + _ ≤ _; omega) hl) k
/-! fields -/
theorem ggetF {R0 O n d host : String} {index : Nat} (hx : p.tables.exec = Jvm.exec) (w : (Cond.fieldLink own index R0 n d).before a0 Z = true ∨ (Cond.fieldLinkNest own index R0 n d host).before a0 Z = true) (via : Via Z R0 O n d) {a : Addr} {v : Value} (F : Fld Z h a O n d v)
    {pc : Nat} (pc' : Nat) {L : Array Slot} {rest : List Value} (hd : decode c.code pc = .ok (.getfield index, 3)) (hp : pc + 3 = pc')
    (k : Go p l e R s m args below meth c Z a0 EL own Q vm h cells slots (mkF m pc' L (v :: rest))) : Go p l e R s m args below meth c Z a0 EL own Q vm h cells slots (mkF m pc L (.ref a :: rest)) :=
  gy _ (fun T locs X hZ hown eT => by
    subst hp
    exact getF (s := s.setVm vm) X hx hZ hown (host := host) w via eT F (g := mkF m pc L (.ref a :: rest)) rfl rfl hd) k
theorem ggetS {R0 O n d host : String} {index : Nat} (hx : p.tables.exec = Jvm.exec) (w : (Cond.fieldLink own index R0 n d).before a0 Z = true ∨ (Cond.fieldLinkNest own index R0 n d host).before a0 Z = true) (via : Via Z R0 O n d) {v : Value} (F : Sta Z Z.heap O n d v)
    {pc : Nat} (pc' : Nat) {L : Array Slot} {S : List Value} (hd : decode c.code pc = .ok (.getstatic index, 3)) (hp : pc + 3 = pc')
    (k : Go p l e R s m args below meth c Z a0 EL own Q vm h cells slots (mkF m pc' L (v :: S))) : Go p l e R s m args below meth c Z a0 EL own Q vm h cells slots (mkF m pc L S) :=
  ginfo fun _ _ E => gy _ (fun T locs X hZ hown eT => by
    subst hp
    exact getS2 (s := s.setVm vm) X hx hZ hown (host := host) w via eT (F.ext E) (g := mkF m pc L S) rfl hd) k
theorem gputF {R0 O n d host C : String} {index kk : Nat} {ty : FieldType} (hx : p.tables.exec = Jvm.exec) (w : (Cond.fieldLink own index R0 n d).before a0 Z = true ∨ (Cond.fieldLinkNest own index R0 n d host).before a0 Z = true) (via : Via Z R0 O n d) {a : Addr} {v old : Value} (F : Fld Z h a O n d old) (E : Exa Z h a C)
    (Lw : (Cond.lays C O n d).before a0 Z = true ∨ ((Cond.laysFinal C O n d).before a0 Z = true ∧ own = O ∧ meth.name = "<init>")) (wi : (Cond.instantiable C kk).before a0 Z = true) (hty : parseFieldDescriptor d = some ty) (hn : narrow ty v = v) (hf : fits ty v = true) (ha : Z.heap.size ≤ a) (hs : Z.vm.Alike vm → Safe Z EL vm h a)
    {pc : Nat} (pc' : Nat) {L : Array Slot} {rest : List Value} (hd : decode c.code pc = .ok (.putfield index, 3)) (hp : pc + 3 = pc')
    (k : ∀ h', Wr h h' a (Jvm.RoadKit.slotOf Z O n d) v → CHr Z EL vm h vm h' → Go p l e R s m args below meth c Z a0 EL own Q vm h' cells slots (mkF m pc' L rest)) : Go p l e R s m args below meth c Z a0 EL own Q vm h cells slots (mkF m pc L (v :: .ref a :: rest)) :=
  gwr _ ha hs (fun T locs X hZ hown eT => by
    subst hp
    exact putF (s := s.setVm vm) X hx hZ hown (host := host) w via eT F E Lw wi hty hn hf (g := mkF m pc L (v :: .ref a :: rest)) rfl rfl hd) k
/-! objects and arrays are made -/
theorem gnewO {C : String} {index n : Nat} (hx : p.tables.exec = Jvm.exec) (w : (Cond.classLink own index C).before a0 Z = true) (wi : (Cond.instantiable C n).before a0 Z = true) (wz : (Cond.initialized C).before a0 Z = true)
    {pc : Nat} (pc' : Nat) {L : Array Slot} {S : List Value} (hd : decode c.code pc = .ok (.new index, 3)) (hp : pc + 3 = pc') (hc : cells + 1 ≤ R.cells) (hl : slots + n ≤ R.slots)
    (k : ∀ (b : Addr) (h' : Heap), h.size = b → Ext h h' → CHr Z EL vm h vm h' → Exa Z h' b C → (∀ {O nm d : String} {ty : FieldType}, Laid Z a0 C O nm d → parseFieldDescriptor d = some ty → Fld Z h' b O nm d (defaultValue ty)) → Z.heap.size ≤ b → Safe Z EL vm h' b → Go p l e R s m args below meth c Z a0 EL own Q vm h' (cells + 1) (slots + n) (mkF m pc' L (.ref b :: S))) :
    Go p l e R s m args below meth c Z a0 EL own Q vm h cells slots (mkF m pc L S) :=
  gnew (P := fun h' => Exa Z h' h.size C ∧ ∀ (O nm d : String) (ty : FieldType), Laid Z a0 C O nm d → parseFieldDescriptor d = some ty → Fld Z h' h.size O nm d (defaultValue ty)) (fun _ => mkF m pc' L (.ref h.size :: S))
    (fun T locs X hZ hown eT => by
      subst hp
      obtain ⟨T', h', X', e', E, A, D, -, st⟩ := newO (s := s.setVm vm) X hx hZ hown w wi wz eT (g := mkF m pc L S) rfl hd hc hl
      exact ⟨T', h', X', e', E, ⟨A, fun _ _ _ _ q r => D q r⟩, st⟩)
    (fun h' E hC hP hz hs => k _ h' rfl E hC hP.1 (fun q r => hP.2 _ _ _ _ q r) hz hs)
theorem gnewP {aty : ArrayType} (hx : p.tables.exec = Jvm.exec) (w : (Cond.arrayClass (newarray.typeOf aty)).before a0 Z = true) {n : Int32} (hn : ¬ n < 0) {cap : Nat} (hcap : n.toNatClampNeg ≤ cap) (hb : cap * 8 ≤ 536870912)
    {pc : Nat} (pc' : Nat) {L : Array Slot} {S : List Value} (hd : decode c.code pc = .ok (.newarray aty, 2)) (hp : pc + 2 = pc') (hc : cells + 1 ≤ R.cells) (hl : slots + cap ≤ R.slots)
    (k : ∀ (b : Addr) (h' : Heap) (cA : ClassId), h.size = b → Ext h h' → CHr Z EL vm h vm h' → Arv Z h' b cA (newarray.typeOf aty) n [] (defaultValue (newarray.typeOf aty)) → Z.heap.size ≤ b → Safe Z EL vm h' b → Go p l e R s m args below meth c Z a0 EL own Q vm h' (cells + 1) (slots + cap) (mkF m pc' L (.ref b :: S))) :
    Go p l e R s m args below meth c Z a0 EL own Q vm h cells slots (mkF m pc L (.int n :: S)) :=
  gnew (P := fun h' => ∃ cA, Arv Z h' h.size cA (newarray.typeOf aty) n [] (defaultValue (newarray.typeOf aty))) (fun _ => mkF m pc' L (.ref h.size :: S))
    (fun T locs X hZ hown eT => by
      subst hp
      obtain ⟨T', h', cA, X', e', E, A, st⟩ := newP (s := s.setVm vm) X hx hZ w eT (g := mkF m pc L (.int n :: S)) rfl hd rfl hn hcap hb hc hl
      exact ⟨T', h', X', e', E, ⟨cA, Arv.new A hn⟩, st⟩)
    (fun h' E hC hP hz hs => by obtain ⟨cA, V⟩ := hP; exact k _ h' cA rfl E hC V hz hs)
theorem gnewR {C : String} {index : Nat} (hx : p.tables.exec = Jvm.exec) (w1 : (Cond.classLink own index C).before a0 Z = true) (w2 : (Cond.arrayOver (.object C)).before a0 Z = true) {n : Int32} (hn : ¬ n < 0) {cap : Nat} (hcap : n.toNatClampNeg ≤ cap) (hb : cap * 8 ≤ 536870912) {ad : String} (had : "[" ++ (FieldType.object C).toString = ad)
    {pc : Nat} (pc' : Nat) {L : Array Slot} {S : List Value} (hd : decode c.code pc = .ok (.anewarray index, 3)) (hp : pc + 3 = pc') (hc : cells + 1 ≤ R.cells) (hl : slots + cap ≤ R.slots)
    (k : ∀ (b : Addr) (h' : Heap) (cA : ClassId), h.size = b → Ext h h' → CHr Z EL vm h vm h' → Arv Z h' b cA (.object C) n [] .null → Exa Z h' b ad → Ovr Z cA C → Z.heap.size ≤ b → Safe Z EL vm h' b → Go p l e R s m args below meth c Z a0 EL own Q vm h' (cells + 1) (slots + cap) (mkF m pc' L (.ref b :: S))) :
    Go p l e R s m args below meth c Z a0 EL own Q vm h cells slots (mkF m pc L (.int n :: S)) :=
  gnew (P := fun h' => ∃ cA, Arv Z h' h.size cA (.object C) n [] .null ∧ Exa Z h' h.size ad ∧ Ovr Z cA C) (fun _ => mkF m pc' L (.ref h.size :: S))
    (fun T locs X hZ hown eT => by
      subst hp
      obtain ⟨T', h', cA, X', e', E, A, X1, O, st⟩ := newRE (s := s.setVm vm) X hx hZ hown w1 w2 eT (g := mkF m pc L (.int n :: S)) rfl hd rfl hn hcap hb hc hl had
      exact ⟨T', h', X', e', E, ⟨cA, Arv.new A hn, X1, O⟩, st⟩)
    (fun h' E hC hP hz hs => by obtain ⟨cA, V, X1, O⟩ := hP; exact k _ h' cA rfl E hC V X1 O hz hs)
/-! arrays are written and read -/
theorem gstC {a : Addr} {kc : ClassId} {n : Int32} {vs : List Value} {d : Value} {j x y : Int32} {i : Nat} (hx : p.tables.exec = Jvm.exec) (F : Arv Z h a kc .char n vs d) (hin : ¬ j < 0 ∧ j < n) (hj : j.toNatClampNeg = i) (hi : i < vs.length) (hy : nar .char x = y) (ha : Z.heap.size ≤ a)
    {pc : Nat} (pc' : Nat) {L : Array Slot} {rest : List Value} (hd : decode c.code pc = .ok (.castore, 1)) (hp : pc + 1 = pc')
    (k : ∀ h', Wr h h' a i (.int y) → CHr Z EL vm h vm h' → Arv Z h' a kc .char n (vs.set i (.int y)) d → Go p l e R s m args below meth c Z a0 EL own Q vm h' cells slots (mkF m pc' L rest)) : Go p l e R s m args below meth c Z a0 EL own Q vm h cells slots (mkF m pc L (.int x :: .int j :: .ref a :: rest)) := by
  subst hy hj hp
  obtain ⟨cl, Ar, q1, q2, q3, q4, q5⟩ := F
  exact gwr _ ha (fun al => Safe.arr al Ar (by decide)) (fun T locs X hZ hown eT => stC (s := s.setVm vm) X hx hZ eT Ar (j := j) (inb_of q2 hin) (g := mkF m pc L (.int x :: .int j :: .ref a :: rest)) rfl rfl hd) fun h' W hC => k h' W hC (Arv.set Ar q1 q2 q3 q4 q5 (fits_nar_char _) W _ rfl hi)
theorem gstB {a : Addr} {kc : ClassId} {n : Int32} {vs : List Value} {d : Value} {j x y : Int32} {i : Nat} (hx : p.tables.exec = Jvm.exec) (F : Arv Z h a kc .byte n vs d) (hin : ¬ j < 0 ∧ j < n) (hj : j.toNatClampNeg = i) (hi : i < vs.length) (hy : nar .byte x = y) (ha : Z.heap.size ≤ a) (hs : Z.vm.Alike vm → Safe Z EL vm h a)
    {pc : Nat} (pc' : Nat) {L : Array Slot} {rest : List Value} (hd : decode c.code pc = .ok (.bastore, 1)) (hp : pc + 1 = pc')
    (k : ∀ h', Wr h h' a i (.int y) → CHr Z EL vm h vm h' → Arv Z h' a kc .byte n (vs.set i (.int y)) d → Go p l e R s m args below meth c Z a0 EL own Q vm h' cells slots (mkF m pc' L rest)) : Go p l e R s m args below meth c Z a0 EL own Q vm h cells slots (mkF m pc L (.int x :: .int j :: .ref a :: rest)) := by
  subst hy hj hp
  obtain ⟨cl, Ar, q1, q2, q3, q4, q5⟩ := F
  exact gwr _ ha hs (fun T locs X hZ hown eT => stB (s := s.setVm vm) X hx hZ eT Ar (j := j) (inb_of q2 hin) (g := mkF m pc L (.int x :: .int j :: .ref a :: rest)) rfl rfl hd) fun h' W hC => k h' W hC (Arv.set Ar q1 q2 q3 q4 q5 (fits_nar_byte _) W _ rfl hi)
theorem gstR {a : Addr} {kc : ClassId} {C : String} {n : Int32} {vs : List Value} {d v : Value} {j : Int32} {i : Nat} (hx : p.tables.exec = Jvm.exec) (F : Arv Z h a kc (.object C) n vs d) (hin : ¬ j < 0 ∧ j < n) (hj : j.toNatClampNeg = i) (hi : i < vs.length) (S : Sto Z h a v) (hv : v.isRef = true) (ha : Z.heap.size ≤ a)
    {pc : Nat} (pc' : Nat) {L : Array Slot} {rest : List Value} (hd : decode c.code pc = .ok (.aastore, 1)) (hp : pc + 1 = pc')
    (k : ∀ h', Wr h h' a i v → CHr Z EL vm h vm h' → Arv Z h' a kc (.object C) n (vs.set i v) d → Go p l e R s m args below meth c Z a0 EL own Q vm h' cells slots (mkF m pc' L rest)) : Go p l e R s m args below meth c Z a0 EL own Q vm h cells slots (mkF m pc L (v :: .int j :: .ref a :: rest)) := by
  subst hj hp
  obtain ⟨cl, Ar, q1, q2, q3, q4, q5⟩ := F
  exact gwr _ ha (fun al => Safe.arr al Ar nofun) (fun T locs X hZ hown eT => stR (s := s.setVm vm) X hx hZ eT Ar (j := j) (inb_of q2 hin) rfl S (g := mkF m pc L (v :: .int j :: .ref a :: rest)) rfl rfl hd) fun h' W hC => k h' W hC (Arv.set Ar q1 q2 q3 q4 q5 (by cases v <;> first | rfl | (cases hv; done)) W _ rfl hi)
theorem gldC {a : Addr} {kc : ClassId} {n : Int32} {vs : List Value} {d v : Value} {j : Int32} {i : Nat} (hx : p.tables.exec = Jvm.exec) (F : Arv Z h a kc .char n vs d) (hin : ¬ j < 0 ∧ j < n) (hj : j.toNatClampNeg = i) (hv : vs.getD i d = v)
    {pc : Nat} (pc' : Nat) {L : Array Slot} {rest : List Value} (hd : decode c.code pc = .ok (.caload, 1)) (hp : pc + 1 = pc')
    (k : Go p l e R s m args below meth c Z a0 EL own Q vm h cells slots (mkF m pc' L (v :: rest))) : Go p l e R s m args below meth c Z a0 EL own Q vm h cells slots (mkF m pc L (.int j :: .ref a :: rest)) := by
  subst hj hp
  obtain ⟨cl, Ar, q1, q2, q3, q4, q5⟩ := F
  exact gx _ (fun T locs X hZ hown eT => X.caload (s := s.setVm vm) hx (by rw [eT]; exact Ar.1) (State.isArrayOf_alike hZ.alike Ar.2.1) Ar.2.2 (inb_of q2 hin) (q4.at (inb_of q2 hin) hv) (g := mkF m pc L (.int j :: .ref a :: rest)) rfl rfl hd) k
theorem gldB {a : Addr} {kc : ClassId} {n : Int32} {vs : List Value} {d v : Value} {j : Int32} {i : Nat} (hx : p.tables.exec = Jvm.exec) (F : Arv Z h a kc .byte n vs d) (hin : ¬ j < 0 ∧ j < n) (hj : j.toNatClampNeg = i) (hv : vs.getD i d = v)
    {pc : Nat} (pc' : Nat) {L : Array Slot} {rest : List Value} (hd : decode c.code pc = .ok (.baload, 1)) (hp : pc + 1 = pc')
    (k : Go p l e R s m args below meth c Z a0 EL own Q vm h cells slots (mkF m pc' L (v :: rest))) : Go p l e R s m args below meth c Z a0 EL own Q vm h cells slots (mkF m pc L (.int j :: .ref a :: rest)) := by
  subst hj hp
  obtain ⟨cl, Ar, q1, q2, q3, q4, q5⟩ := F
  exact gx _ (fun T locs X hZ hown eT => X.baloadBytes (s := s.setVm vm) hx (by rw [eT]; exact Ar.1) (State.isArrayOf_alike hZ.alike Ar.2.1) Ar.2.2 (inb_of q2 hin) (q4.at (inb_of q2 hin) hv) (g := mkF m pc L (.int j :: .ref a :: rest)) rfl rfl hd) k
theorem gldI {a : Addr} {kc : ClassId} {n : Int32} {vs : List Value} {d v : Value} {j : Int32} {i : Nat} (hx : p.tables.exec = Jvm.exec) (F : Arv Z h a kc .int n vs d) (hin : ¬ j < 0 ∧ j < n) (hj : j.toNatClampNeg = i) (hv : vs.getD i d = v)
    {pc : Nat} (pc' : Nat) {L : Array Slot} {rest : List Value} (hd : decode c.code pc = .ok (.iaload, 1)) (hp : pc + 1 = pc')
    (k : Go p l e R s m args below meth c Z a0 EL own Q vm h cells slots (mkF m pc' L (v :: rest))) : Go p l e R s m args below meth c Z a0 EL own Q vm h cells slots (mkF m pc L (.int j :: .ref a :: rest)) := by
  subst hj hp
  obtain ⟨cl, Ar, q1, q2, q3, q4, q5⟩ := F
  exact gx _ (fun T locs X hZ hown eT => X.iaload (s := s.setVm vm) hx (by rw [eT]; exact Ar.1) (State.isArrayOf_alike hZ.alike Ar.2.1) Ar.2.2 (inb_of q2 hin) (q4.at (inb_of q2 hin) hv) (g := mkF m pc L (.int j :: .ref a :: rest)) rfl rfl hd) k
theorem gldR {a : Addr} {kc : ClassId} {C : String} {n : Int32} {vs : List Value} {d v : Value} {j : Int32} {i : Nat} (hx : p.tables.exec = Jvm.exec) (F : Arv Z h a kc (.object C) n vs d) (hin : ¬ j < 0 ∧ j < n) (hj : j.toNatClampNeg = i) (hv : vs.getD i d = v)
    {pc : Nat} (pc' : Nat) {L : Array Slot} {rest : List Value} (hd : decode c.code pc = .ok (.aaload, 1)) (hp : pc + 1 = pc')
    (k : Go p l e R s m args below meth c Z a0 EL own Q vm h cells slots (mkF m pc' L (v :: rest))) : Go p l e R s m args below meth c Z a0 EL own Q vm h cells slots (mkF m pc L (.int j :: .ref a :: rest)) := by
  subst hj hp
  obtain ⟨cl, Ar, q1, q2, q3, q4, q5⟩ := F
  exact gx _ (fun T locs X hZ hown eT => X.aaload (s := s.setVm vm) hx (by rw [eT]; exact Ar.1) (State.isArrayOf_alike hZ.alike Ar.2.1) rfl Ar.2.2 (inb_of q2 hin) (q4.at (inb_of q2 hin) hv) (g := mkF m pc L (.int j :: .ref a :: rest)) rfl rfl hd) k
theorem glen {a : Addr} {kc : ClassId} {ty : FieldType} {n : Int32} {vs : List Value} {d : Value} (hx : p.tables.exec = Jvm.exec) (F : Arv Z h a kc ty n vs d)
    {pc : Nat} (pc' : Nat) {L : Array Slot} {rest : List Value} (hd : decode c.code pc = .ok (.arraylength, 1)) (hp : pc + 1 = pc')
    (k : Go p l e R s m args below meth c Z a0 EL own Q vm h cells slots (mkF m pc' L (.int n :: rest))) : Go p l e R s m args below meth c Z a0 EL own Q vm h cells slots (mkF m pc L (.ref a :: rest)) := by
  subst hp
  obtain ⟨cl, Ar, q1, q2, q3, q4, q5⟩ := F
  exact gx _ (fun T locs X hZ hown eT t kk => X.arraylength (s := s.setVm vm) hx (by rw [eT]; exact Ar.1) (State.isArrayOf_alike hZ.alike Ar.2.1) (g := mkF m pc L (.ref a :: rest)) rfl rfl hd t (by rw [len_of q2 q3]; exact kk)) k
/-! casts, constants -/
theorem gcast {K : String} {index : Nat} (hx : p.tables.exec = Jvm.exec) (w : (Cond.classLink own index K).before a0 Z = true) {a : Addr} (F : Ins Z h a K true) {pc : Nat} (pc' : Nat) {L : Array Slot} {rest : List Value} (hd : decode c.code pc = .ok (.checkcast index, 3)) (hp : pc + 3 = pc')
    (k : Go p l e R s m args below meth c Z a0 EL own Q vm h cells slots (mkF m pc' L (.ref a :: rest))) : Go p l e R s m args below meth c Z a0 EL own Q vm h cells slots (mkF m pc L (.ref a :: rest)) :=
  gy _ (fun T locs X hZ hown eT => by
    subst hp
    exact castY (s := s.setVm vm) X hx hZ hown w eT F (g := mkF m pc L (.ref a :: rest)) rfl rfl hd) k
theorem ginstY {K : String} {index : Nat} (hx : p.tables.exec = Jvm.exec) (w : (Cond.classLink own index K).before a0 Z = true) {a : Addr} (F : Ins Z h a K true) {pc : Nat} (pc' : Nat) {L : Array Slot} {rest : List Value} (hd : decode c.code pc = .ok (.instanceof index, 3)) (hp : pc + 3 = pc')
    (k : Go p l e R s m args below meth c Z a0 EL own Q vm h cells slots (mkF m pc' L (.int 1 :: rest))) : Go p l e R s m args below meth c Z a0 EL own Q vm h cells slots (mkF m pc L (.ref a :: rest)) :=
  gy _ (fun T locs X hZ hown eT => by
    subst hp
    exact instY (s := s.setVm vm) X hx hZ hown w eT F (g := mkF m pc L (.ref a :: rest)) rfl rfl hd) k
theorem ginstN {K C : String} {index : Nat} (hx : p.tables.exec = Jvm.exec) (w : (Cond.classLink own index K).before a0 Z = true) {a : Addr} (E : Exa Z h a C) (F : ∃ c t, Z.vm.findClass C = some c ∧ Z.vm.findClass K = some t ∧ Z.vm.assignable c t = false) {pc : Nat} (pc' : Nat) {L : Array Slot} {rest : List Value} (hd : decode c.code pc = .ok (.instanceof index, 3)) (hp : pc + 3 = pc')
    (k : Go p l e R s m args below meth c Z a0 EL own Q vm h cells slots (mkF m pc' L (.int 0 :: rest))) : Go p l e R s m args below meth c Z a0 EL own Q vm h cells slots (mkF m pc L (.ref a :: rest)) :=
  gy _ (fun T locs X hZ hown eT => by
    subst hp
    exact instNo (s := s.setVm vm) X hx hZ hown w eT E F (g := mkF m pc L (.ref a :: rest)) rfl rfl hd) k
theorem gldcI {index : Nat} {v : Int32} (hx : p.tables.exec = Jvm.exec) (w : (Cond.constant own index v).before a0 Z = true) {pc : Nat} (pc' : Nat) {L : Array Slot} {S : List Value} (hd : decode c.code pc = .ok (.ldc index, 2)) (hp : pc + 2 = pc')
    (k : Go p l e R s m args below meth c Z a0 EL own Q vm h cells slots (mkF m pc' L (.int v :: S))) : Go p l e R s m args below meth c Z a0 EL own Q vm h cells slots (mkF m pc L S) :=
  gx _ (fun T locs X hZ hown eT => by
    subst hp
    exact X.ldcInt (s := s.setVm vm) hx hown (mvT hZ w) (g := mkF m pc L S) rfl hd) k
theorem gldcJ {index : Nat} {v : Int64} (hx : p.tables.exec = Jvm.exec) (w : (Cond.constantLong own index v).before a0 Z = true) {pc : Nat} (pc' : Nat) {L : Array Slot} {S : List Value} (hd : decode c.code pc = .ok (.ldc2_w index, 3)) (hp : pc + 3 = pc')
    (k : Go p l e R s m args below meth c Z a0 EL own Q vm h cells slots (mkF m pc' L (.long v :: S))) : Go p l e R s m args below meth c Z a0 EL own Q vm h cells slots (mkF m pc L S) :=
  gx _ (fun T locs X hZ hown eT => by
    subst hp
    exact X.ldc2Long (s := s.setVm vm) hx hown (mvT hZ w) (g := mkF m pc L S) rfl hd) k
/-- ldc of a String constant whose text isn't read -/
theorem gldcO {index : Nat} {text : String} (hx : p.tables.exec = Jvm.exec) (w : (Cond.stringLink own index text).before a0 Z = true) (wS : ∀ a ∈ Bundle.stringAtoms, a.before a0 Z = true) {n : Nat} (hn : 4 * text.toList.length ≤ n) (hbig : n ≤ 536870912)
    {pc : Nat} (pc' : Nat) {L : Array Slot} {S : List Value} (hd : decode c.code pc = .ok (.ldc index, 2)) (hp : pc + 2 = pc') (hc : cells + 2 ≤ R.cells) (hl : slots + (n + 4) ≤ R.slots)
    (k : ∀ (a : Addr) (vm' : Vm) (h' : Heap), Ext h h' → CHr Z EL vm h vm' h' → Go p l e R s m args below meth c Z a0 EL own Q vm' h' (cells + 2) (slots + (n + 4)) (mkF m pc' L (.ref a :: S))) : Go p l e R s m args below meth c Z a0 EL own Q vm h cells slots (mkF m pc L S) := fun T X => by
  subst hp
  obtain ⟨locs, k0, X', eT, hZ, hown, hS, hk, N, H, E0, hEL, hx', hlk⟩ := X
  obtain ⟨a, T', h', k1, X1, e1, E, hS1, hk1, hZ1, ho1, hC, -, st⟩ := ldcOH X' hx hZ hown w wS eT hS hk hEL H.1 (g := mkF m pc L S) rfl hd hn hbig hc hl
  obtain ⟨s2, o, q1, q2⟩ := k a T'.vm h' E hC T' ⟨locs, k1, X1, e1, hZ1, ho1, hS1, hk1, N, H.trans hC, E0, hEL, hx', hlk⟩
  exact ⟨s2, o, st _ q1, q2⟩
/-- ldc of a String constant of EL, read -/
theorem gldcR {index : Nat} {text : String} (hx : p.tables.exec = Jvm.exec) (w : (Cond.stringLink own index text).before a0 Z = true) (wS : ∀ a ∈ Bundle.stringAtoms, a.before a0 Z = true) (hmem : (own, index) ∈ EL) {n : Nat} (hn : 4 * text.toList.length ≤ n) (hbig : n ≤ 536870912)
    {vs : List Value} {z : Int32} (ht : (∀ c ∈ text.toList, c.toNat < 256) ∧ text.toList.map (fun c => Value.int (Jvm.Lit.byteI c.toNat.toUInt16)) = vs) (hz : ¬ z < 0) (hlz : z.toNatClampNeg = vs.length)
    {pc : Nat} (pc' : Nat) {L : Array Slot} {S : List Value} (hd : decode c.code pc = .ok (.ldc index, 2)) (hp : pc + 2 = pc') (hc : cells + 2 ≤ R.cells) (hl : slots + (n + 4) ≤ R.slots)
    (k : ∀ (a b : Addr) (kb : ClassId) (vm' : Vm) (h' : Heap), Ext h h' → CHr Z EL vm h vm' h' → Exa Z h' a "java/lang/String" → Fld Z h' a "java/lang/String" "coder" "B" (.int 0) → Fld Z h' a "java/lang/String" "value" "[B" (.ref b) → Arv Z h' b kb .byte z vs (.int 0) → (∀ x, Safe Z EL vm' h' x → x ≠ a ∧ x ≠ b) →
      Go p l e R s m args below meth c Z a0 EL own Q vm' h' (cells + 2) (slots + (n + 4)) (mkF m pc' L (.ref a :: S))) : Go p l e R s m args below meth c Z a0 EL own Q vm h cells slots (mkF m pc L S) := fun T X => by
  subst hp
  obtain ⟨locs, k0, X', eT, hZ, hown, hS, hk, N, H, E0, hEL, hx', hlk⟩ := X
  obtain ⟨a, T', h', k1, b, kb, X1, e1, E, hS1, hk1, hZ1, ho1, F1, F2, F3, F4, -, -, hC, -, F5, st⟩ := ldcCH X' hx hZ hown w wS eT hS hk hEL hmem H.1 ht hz hlz (g := mkF m pc L S) rfl hd hn hbig hc hl
  obtain ⟨s2, o, q1, q2⟩ := k a b kb T'.vm h' E hC F1 F2 F3 F4 F5 T' ⟨locs, k1, X1, e1, hZ1, ho1, hS1, hk1, N, H.trans hC, E0, hEL, hx', hlk⟩
  exact ⟨s2, o, st _ q1, q2⟩
end Kit2
end Jvm.OwnKit
namespace Jvm.OwnKit
open Sem ClassFile Op Lib Bundle Jvm.Stand Jvm.Free Jvm.LawKit Jvm.RoadKit
section Kit3
variable {p : Program} {l : Launch} {e : Env} {R : Room} {s : State} {m : MethodId} {args : Array Value} {below : List Frame} {meth : Method} {c : Code} {Z : State} {a0 : Array Value} {EL : List (String × Nat)} {own : String} {Q : Option Value → Vm → Heap → Prop} {vm : Vm} {h h' : Heap} {cells slots : Nat} {g : JFrame}
theorem gi2c {x y : Int32} (hx : p.tables.exec = Jvm.exec) (hy : x.toUInt32.toUInt16.toUInt32.toInt32 = y) {pc : Nat} (pc' : Nat) {L : Array Slot} {rest : List Value} (hd : decode c.code pc = .ok (.i2c, 1)) (hp : pc + 1 = pc')
    (k : Go p l e R s m args below meth c Z a0 EL own Q vm h cells slots (mkF m pc' L (.int y :: rest))) : Go p l e R s m args below meth c Z a0 EL own Q vm h cells slots (mkF m pc L (.int x :: rest)) := by
  subst hy hp
  exact gs _ (fun _ _ A k => XS.i2c A hx rfl hd rfl k) k
theorem narC (x : Int32) : nar .char (x &&& 255) = x &&& 255 := i2c_mask x
theorem narC2 (x : Int32) : nar .char (x.toUInt32.toUInt16.toUInt32.toInt32) = x.toUInt32.toUInt16.toUInt32.toInt32 := by
  show (x.toUInt32.toUInt16.toUInt32.toInt32).toUInt32.toUInt16.toUInt32.toInt32 = _
  simp only [UInt32.toUInt32_toInt32, UInt16.toUInt16_toUInt32]
/-- a char of 0 to 255 -/
def B8 (c : Int32) : Prop := ¬ c < 0 ∧ ¬ (255 : Int32) < c
theorem b255 (x : Int32) : B8 (x &&& 255) := by
  have h := c_mask x 255 8 (by decide) (by decide)
  have e1 : (0 : Int32).toInt = 0 := rfl
  have e2 : (255 : Int32).toInt = 255 := rfl
  refine ⟨?_, ?_⟩
  · rw [Int32.lt_iff_toInt_lt, h, e1]; omega
  · rw [Int32.lt_iff_toInt_lt, h, e2]; omega
theorem bnil : ∀ c ∈ ([] : List Int32), B8 c := fun _ q => nomatch q
theorem bcons {a : Int32} {L : List Int32} (q : B8 a) (r : ∀ c ∈ L, B8 c) : ∀ c ∈ a :: L, B8 c := fun c z => (List.mem_cons.mp z).elim (fun u => u ▸ q) (r c)
/-- an ordinary Latin-1 String and its bytes -/
def Str (Z : State) (h : Heap) (a t : Addr) (cs : List Int32) : Prop := Exa Z h a "java/lang/String" ∧ Fld Z h a "java/lang/String" "coder" "B" (.int 0) ∧ Fld Z h a "java/lang/String" "value" "[B" (.ref t) ∧
  (∃ kb, Arv Z h t kb .byte (Int32.ofNat cs.length) ((cs.map fun c => c.toInt8.toInt32).map Value.int) (.int 0)) ∧ (∀ c ∈ cs, B8 c) ∧ cs.length ≤ 4000
variable {a t o : Addr} {cs : List Int32} {ws : List Addr} {sl : Nat} {v : Value}
theorem Str.ext (F : Str Z h a t cs) (E : Ext h h') : Str Z h' a t cs := by
  obtain ⟨f1, f2, f3, ⟨kb, f4⟩, f5⟩ := F
  exact ⟨f1.ext E, f2.ext E, f3.ext E, ⟨kb, f4.ext E⟩, f5⟩
theorem Str.keep (F : Str Z h a t cs) (K : Keep h h' ws) (q : a ∉ ws) (r : t ∉ ws) : Str Z h' a t cs := by
  obtain ⟨f1, f2, f3, ⟨kb, f4⟩, f5⟩ := F
  exact ⟨f1.keep K, f2.keep K q, f3.keep K q, ⟨kb, f4.keep K r⟩, f5⟩
theorem Str.other (F : Str Z h a t cs) (W : Wr h h' o sl v) (q : a ≠ o) (r : t ≠ o) : Str Z h' a t cs := by
  obtain ⟨f1, f2, f3, ⟨kb, f4⟩, f5⟩ := F
  exact ⟨f1.wr W, f2.other W (Or.inl q), f3.other W (Or.inl q), ⟨kb, f4.other W r⟩, f5⟩
theorem Str.tlt (F : Str Z h a t cs) : t < h.size := by
  obtain ⟨f1, f2, f3, ⟨kb, f4⟩, f5⟩ := F
  exact f4.lt
theorem Str.neT (F : Str Z h a t cs) {x : Addr} {C : String} {n : Nat} (E : Exa Z h x C) (w : (Cond.instantiable C n).before a0 Z = true) : x ≠ t := by
  obtain ⟨f1, f2, f3, ⟨kb, f4⟩, f5⟩ := F
  exact Exa.neArv E f4 w
theorem Str.neq {b u : Addr} {ds : List Int32} (F : Str Z h a t cs) (G : Str Z h b u ds) (q : cs ≠ ds) : a ≠ b := fun e => by
  subst e
  obtain ⟨-, -, f3, ⟨kb, A, f4, -, f6, -, f8, -⟩, f9, f10⟩ := F
  obtain ⟨-, -, g3, ⟨kb', A', g4, -, g6, -, g8, -⟩, g9, g10⟩ := G
  have e1 : t = u := by
    obtain ⟨cell, cf, k, i, f, h1, h2, -, -, -, -, h7⟩ := f3
    obtain ⟨cell', cf', k', i', f', h1', h2', -, -, -, -, h7'⟩ := g3
    cases h1.symm.trans h1'
    cases h2.symm.trans h2'
    have := Option.some.inj (h7.symm.trans h7')
    cases this; rfl
  subst e1
  cases f4.1.symm.trans g4.1
  have e2 : cs.length = ds.length := by
    rw [f6] at g6
    have r : ∀ n : Nat, n ≤ 4000 → (Int32.ofNat n).toNatClampNeg = n := fun n hn => by
      have := (back32 (n := Int32.ofNat n) (by rw [Int32.lt_iff_toInt_lt, Int32.toInt_ofNat_of_lt (by omega)]; simp)).1
      rw [Int32.toNatClampNeg, Int32.toInt_ofNat_of_lt (by omega)]; rfl
    rw [r _ f10, r _ g10] at g6; exact g6
  apply q
  apply List.ext_getElem e2
  intro i h1 h2
  have sz : i < A.slots.size := by
    rw [f6, Int32.toNatClampNeg, Int32.toInt_ofNat_of_lt (by omega)]; exact h1
  have w1 := f8 i sz
  have w2 := g8 i sz
  rw [w1] at w2
  have w3 := Option.some.inj w2
  simp only [List.map_map, List.getD_eq_getElem?_getD, List.getElem?_map, List.getElem?_eq_getElem h1, List.getElem?_eq_getElem h2, Option.map_some, Option.getD_some, Function.comp] at w3
  have w4 := Value.int.inj w3
  have b1 := f9 _ (List.getElem_mem h1)
  have b2 := g9 _ (List.getElem_mem h2)
  generalize cs[i] = x at *
  generalize ds[i] = y at *
  obtain ⟨b1a, b1b⟩ := b1
  obtain ⟨b2a, b2b⟩ := b2
  have c1 := c_i2b x
  have c2 := c_i2b y
  rw [w4] at c1
  rw [Int32.lt_iff_toInt_lt] at b1a b1b b2a b2b
  have e0 : (0 : Int32).toInt = 0 := rfl
  have e255 : (255 : Int32).toInt = 255 := rfl
  rw [e0] at b1a b2a
  rw [e255] at b1b b2b
  apply Int32.toInt_inj.mp
  omega
theorem Str.lit {kb : ClassId} {z : Int32} {vs : List Value} (E : Exa Z h a "java/lang/String") (C : Fld Z h a "java/lang/String" "coder" "B" (.int 0)) (V : Fld Z h a "java/lang/String" "value" "[B" (.ref t)) (A : Arv Z h t kb .byte z vs (.int 0)) (hb : ∀ c ∈ cs, ¬ c < 0 ∧ ¬ (255 : Int32) < c)
    (hz : z = Int32.ofNat cs.length) (hv : vs = (cs.map fun c => c.toInt8.toInt32).map Value.int) (hl : cs.length ≤ 4000) : Str Z h a t cs := ⟨E, C, V, ⟨kb, by rw [← hz, ← hv]; exact A⟩, hb, hl⟩
theorem Arv.sto {kc : ClassId} {C : String} {n : Int32} {vs : List Value} {d : Value} {y : Addr} (F : Arv Z h a kc (.object C) n vs d) (O : Ovr Z kc C) (I : Ins Z h y C true) : Sto Z h a (.ref y) := by
  obtain ⟨cl, Ar, q1, -⟩ := F
  exact Sto.ofV Ar q1 O I
end Kit3
end Jvm.OwnKit
namespace Jvm.OwnKit
open Sem ClassFile Op Lib Bundle Jvm.Stand Jvm.Free Jvm.LawKit Jvm.RoadKit
section Kit4
variable {p : Program} {l : Launch} {e : Env} {R : Room} {s : State} {m : MethodId} {args : Array Value} {below : List Frame} {meth : Method} {c : Code} {Z : State} {a0 : Array Value} {EL : List (String × Nat)} {own : String} {Q : Option Value → Vm → Heap → Prop} {vm : Vm} {h h' : Heap} {cells slots : Nat} {g : JFrame}
theorem Pay.weaken {y : MethodName} {len W rc rs rc' rs' : Nat} {as' : Array Value} (hP : Pay l R p e below s args Z EL vm h y len W as' rc rs Q) (hc : rc ≤ rc') (hs : rs ≤ rs') : Pay l R p e below s args Z EL vm h y len W as' rc' rs' Q := by
  intro m meth c A g ig mk a X hg hsize hdg hW hn hp
  obtain ⟨v, ⟨U, Lx, cx, sx⟩, X', h1, h2, ⟨L, q1, q2, q3, q4, q5⟩, st⟩ := hP m meth c A g ig mk a X hg hsize hdg hW hn ⟨hp.1, hp.2.1, by have := hp.2.2.1; omega, by have := hp.2.2.2; omega⟩
  dsimp only [Pt.U, Pt.locs, Pt.cells, Pt.slots] at X' h1 h2 q1 q2 q3 q4 q5 st
  subst q2 q3 q4
  exact ⟨v, ⟨U, _, A.cells + rc', A.slots + rs'⟩, { X' with same := X'.same.mono (by show A.cells + rc ≤ A.cells + rc'; omega) (by show A.slots + rs ≤ A.slots + rs'; omega) }, h1, h2, ⟨L, q1, rfl, rfl, rfl, q5⟩, st⟩
/-- roads that meet -/
theorem gjoin (P : Vm → Heap → JFrame → Prop) (cells' slots' : Nat) (k1 : ∀ vm' h' g', P vm' h' g' → Go p l e R s m args below meth c Z a0 EL own Q vm' h' cells' slots' g')
    (k2 : (∀ vm' h' g', P vm' h' g' → Go p l e R s m args below meth c Z a0 EL own Q vm' h' cells' slots' g') → Go p l e R s m args below meth c Z a0 EL own Q vm h cells slots g) : Go p l e R s m args below meth c Z a0 EL own Q vm h cells slots g := k2 k1
/-- C's chain of superclasses doesn't meet an instantiable K -/
theorem NSroot {O K : String} {n : Nat} (w : (Cond.noSuperclass O).before a0 Z = true) (wk : (Cond.instantiable K n).before a0 Z = true) (hn : O ≠ K) : NS Z O K := by
  obtain ⟨c, k, h1, h2, h3, -, -⟩ := Cond.noSuperclass_spec w
  obtain ⟨t, k', g1, g2, g3, g4, -⟩ := Cond.instantiable_spec wk
  have ne := ids_ne h1 g1 hn
  refine ⟨c, t, h1, g1, fun fuel => ?_⟩
  cases fuel with
  | zero => rfl
  | succ f => simp [Vm.isSubclassAux, ne, h2, h3]
theorem NSno {C S K : String} {n : Nat} (w : (Cond.superclass C S).before a0 Z = true) (wk : (Cond.instantiable K n).before a0 Z = true) (nn : NS Z C K) (hn : C ≠ K) : ∃ c t, Z.vm.findClass C = some c ∧ Z.vm.findClass K = some t ∧ Z.vm.assignable c t = false := by
  obtain ⟨c, t, h0, g0, n3⟩ := nn
  obtain ⟨p, k, kp, h1, h2, h3, h4, h5, -, h7⟩ := Cond.superclass_spec h0 w
  obtain ⟨t', k', g1, g2, g3, g4, -⟩ := Cond.instantiable_spec wk
  cases g0.symm.trans g1
  have ne := ids_ne h0 g0 hn
  have g5 : k'.isInterface = false := by cases hq : k'.isInterface <;> simp [hq] at g4 ⊢
  refine ⟨c, t, h0, g0, ?_⟩
  show Z.vm.assignableAux (255 + 1) c t = false
  simp [Vm.assignableAux, ne, h2, g2, h5, g3, g5, Vm.isSubclass, n3]
/-- a char[] of Latin-1 signs -/
def ChA (Z : State) (h : Heap) (b : Addr) (cs : List Int32) : Prop := ∃ kc, Arv Z h b kc .char (Int32.ofNat cs.length) (cs.map Value.int) (.int 0) ∧ (∀ c ∈ cs, B8 c) ∧ cs.length ≤ 4000
variable {b : Addr} {cs : List Int32} {ws : List Addr} {sl : Nat} {v : Value} {o : Addr}
theorem ChA.ext (F : ChA Z h b cs) (E : Ext h h') : ChA Z h' b cs := by obtain ⟨k, f, r⟩ := F; exact ⟨k, f.ext E, r⟩
theorem ChA.keep (F : ChA Z h b cs) (K : Keep h h' ws) (q : b ∉ ws) : ChA Z h' b cs := by obtain ⟨k, f, r⟩ := F; exact ⟨k, f.keep K q, r⟩
theorem ChA.wr (F : ChA Z h b cs) (W : Wr h h' o sl v) (q : b ≠ o) : ChA Z h' b cs := by obtain ⟨k, f, r⟩ := F; exact ⟨k, f.other W q, r⟩
theorem ChA.lt (F : ChA Z h b cs) : b < h.size := by obtain ⟨k, f, r⟩ := F; exact f.lt
theorem narB (x : Int32) : nar .byte (x.toInt8.toInt32) = x.toInt8.toInt32 := by
  show (x.toInt8.toInt32).toInt8.toInt32 = _
  simp
theorem b16 (x : Int32) : ¬ (x.toUInt32.toUInt16.toUInt32.toInt32) < 0 ∧ ¬ (65535 : Int32) < (x.toUInt32.toUInt16.toUInt32.toInt32) := by
  have h := c_i2c x
  have e1 : (0 : Int32).toInt = 0 := rfl
  have e2 : (65535 : Int32).toInt = 65535 := rfl
  rw [Int32.lt_iff_toInt_lt, Int32.lt_iff_toInt_lt, e1, e2]
  omega
/-! out of the case's words -/
theorem staI {C n d : String} {y : Int32} (w : (Cond.eq (Term.static C n d) (Term.int y)).before args s = true) (wi : (Cond.initializedFor C n d).before args s = true) : Sta s s.heap C n d (.int y) := by
  have w := Cond.before_iff.mp w
  obtain ⟨x, y', e1, e2, k1, k2⟩ := cmp_v (Or.inl w)
  cases (Option.some.inj e2 : Value.int y = y')
  obtain ⟨z, rfl⟩ := k2
  have e3 : z = y := by
    generalize Term.static C n d = t at *
    simpa [Cond.value, Term.eval, e1] using w
  subst e3
  exact Sta.start e1 (Or.inl wi)
theorem eqI {t : Term} {x y : Int32} {idx : List Nat} (h1 : t.eval args s none idx s = some (.int x)) (h2 : (Cond.eq t (Term.int y)).value args s none s idx = some true) : x = y := by simpa [Cond.value, Term.eval, h1] using h2
theorem lenlt {t : Term} {v : Value} {aa : Addr} {cl : Cell} (h : (Term.length t).eval args s none [] s = some v) (ht : t.eval args s none [] s = some (.ref aa)) (hA : s.arrayAt? aa = some cl) : cl.slots.size < 2 ^ 31 := by
  apply Decidable.byContradiction
  intro hb
  simp [Term.eval, ht, hA, hb] at h
theorem lenI {t : Term} {n : Int32} {aa : Addr} {cl : Cell} (w : (Cond.eq (Term.length t) (Term.int n)).value args s none s [] = some true) (ht : t.eval args s none [] s = some (.ref aa)) (hA : s.arrayAt? aa = some cl) : cl.slots.size < 2 ^ 31 ∧ cl.slots.size.toInt32 = n := by
  obtain ⟨x, y, f1, f2, -, -⟩ := cmp_v (Or.inl w)
  have hb := lenlt f1 ht hA
  exact ⟨hb, eqI (len_f ht hA hb) w⟩
theorem elI {t : Term} {aa : Addr} {cl : Cell} {j y : Int32} (ht : t.eval args s none [] s = some (.ref aa)) (hc : s.heap[aa]? = some cl) (w : (Cond.eq (Term.elem t (Term.int j)) (Term.int y)).value args s none s [] = some true) : cl.slots[j.toNatClampNeg]? = some (.int y) := by
  obtain ⟨x, y', e1, e2, k1, k2⟩ := cmp_v (Or.inl w)
  cases (Option.some.inj e2 : Value.int y = y')
  obtain ⟨z, rfl⟩ := k2
  have := eqI e1 w
  subst this
  exact (elem_in e1 ht rfl hc).2
theorem fldI {t : Term} {aa : Addr} {C n d : String} {y : Int32} (ht : t.eval args s none [] s = some (.ref aa)) (w : (Cond.eq (Term.field t C n d) (Term.int y)).value args s none s [] = some true) : Fld s s.heap aa C n d (.int y) := by
  obtain ⟨x, y', e1, e2, k1, k2⟩ := cmp_v (Or.inl w)
  cases (Option.some.inj e2 : Value.int y = y')
  obtain ⟨z, rfl⟩ := k2
  have := eqI e1 w
  subst this
  exact Fld.start ((fld_at ht).symm.trans e1)
theorem Str.start {t : Term} {cs : List Int32} {n : Int32} {aa : Addr} (hf : Fit s) (ev : t.eval args s none [] s = some (.ref aa)) (wE : (Cond.exactly t "java/lang/String").value args s none s [] = some true) (wC : (Cond.eq (Term.field t "java/lang/String" "coder" "B") (Term.int 0)).value args s none s [] = some true)
    (wA : (Cond.arrayOf (Term.field t "java/lang/String" "value" "[B") .byte).value args s none s [] = some true) (wL : (Cond.eq (Term.length (Term.field t "java/lang/String" "value" "[B")) (Term.int n)).value args s none s [] = some true) (hn : n = Int32.ofNat cs.length) (hl : cs.length ≤ 4000) (hb : ∀ c ∈ cs, B8 c)
    (H : ∀ (tt : Addr) (cl : Cell), (Term.field t "java/lang/String" "value" "[B").eval args s none [] s = some (.ref tt) → s.heap[tt]? = some cl → HasL cl 0 ((cs.map fun c => c.toInt8.toInt32).map Value.int)) : ∃ tt, Str s s.heap aa tt cs := by
  obtain ⟨tt, et⟩ := arr_v wA
  obtain ⟨cl, Ar⟩ := Arr.start et wA
  have hA : s.arrayAt? tt = some cl := Ar.fin (Vm.Alike.refl _)
  obtain ⟨h1, h2⟩ := lenI wL et hA
  have hz : ¬ n < 0 := by rw [hn, Int32.lt_iff_toInt_lt, Int32.toInt_ofNat_of_lt (by omega)]; simp
  have hz2 : n.toNatClampNeg = cs.length := by rw [hn, Int32.toNatClampNeg, Int32.toInt_ofNat_of_lt (by omega)]; rfl
  refine ⟨tt, Exa.start ev wE, fldI ev wC, Fld.start ((fld_at ev).symm.trans et), ⟨cl.cls, ?_⟩, hb, hl⟩
  rw [← hn]
  exact Arv.start hf Ar h1 h2 hz (by rw [hz2]; simp) (H tt cl et Ar.1)
end Kit4
end Jvm.OwnKit
/- laws to paste: StrChars.pair_says (cut by pick.py; bodies as the Statement names them) -/
namespace Jvm.Pilot.@@N@@
namespace StrChars
open Jvm Sem ClassFile Op Lib Jvm.Stand Jvm.Free.XT Jvm.Free.ALB Jvm.Free.JM Jvm.Free
open Jvm.Lib.Cold (StaticIs)
/-- the byte that i2b leaves of a char -/
def lo8 (x : Int32) : Int32 := x.toInt8.toInt32
end StrChars
namespace StrChars
open Jvm Sem ClassFile Op Lib Jvm.Stand Jvm.Free.XT Jvm.Free.ALB Jvm.Free.JM Jvm.Free
open Jvm.Lib.Cold (StaticIs)
def hi8 (x : Int32) : Int32 := lo8 (x >>> ((8 : Int32) &&& 31))
/-- what StringUTF16.getChar makes of two bytes -/
def pairCh (u v : Int32) : Int32 := (((u &&& 255) <<< ((0 : Int32) &&& 31)) ||| ((v &&& 255) <<< ((8 : Int32) &&& 31))).toUInt32.toUInt16.toUInt32.toInt32
theorem lo8_and (x : Int32) : (lo8 x &&& 255).toBitVec.toNat = x.toBitVec.toNat % 256 := by
  have h : (lo8 x).toBitVec = (x.toBitVec.signExtend 8).signExtend 32 := by rw [lo8, Int8.toBitVec_toInt32, Int32.toBitVec_toInt8]
  rw [Int32.toBitVec_and, BitVec.toNat_and, h]
  have e : ((x.toBitVec.signExtend 8).signExtend 32).toNat % 256 = x.toBitVec.toNat % 256 := by
    rw [BitVec.toNat_signExtend]
    have hlt := x.toBitVec.isLt
    simp only [BitVec.toNat_setWidth, BitVec.toNat_signExtend]
    split <;> split <;> omega
  rw [← e]
  exact Nat.and_two_pow_sub_one_eq_mod _ 8
theorem pair_says {c : Int32} (h0 : ¬ c < 0) (h1 : ¬ 65535 < c) : pairCh (lo8 c) (hi8 c) = c := by
  rw [Int32.lt_iff_toInt_lt] at h0 h1
  have e0 : (0 : Int32).toInt = 0 := rfl
  have e1 : (65535 : Int32).toInt = 65535 := rfl
  have hc : c.toInt = c.toBitVec.toNat := by
    have := c.toBitVec.isLt
    have e : c.toInt = c.toBitVec.toInt := rfl
    rw [e] at h0 h1
    rw [e]
    rw [BitVec.toInt_eq_toNat_cond] at h0 h1 ⊢
    split at h0 <;> split <;> omega
  have hn : c.toBitVec.toNat < 65536 := by omega
  have a1 := lo8_and c
  have a2 : (hi8 c &&& 255).toBitVec.toNat = c.toBitVec.toNat / 256 := by
    rw [hi8, lo8_and]
    have e : ((8 : Int32) &&& 31) = 8 := by decide
    rw [e, Int32.toBitVec_shiftRight]
    have e2 : ((8 : Int32).toBitVec.smod 32) = 8#32 := by decide
    rw [e2, BitVec.sshiftRight_eq', BitVec.toNat_sshiftRight_of_msb_false (by rw [BitVec.msb_eq_false_iff_two_mul_lt]; omega)]
    show c.toBitVec.toNat >>> 8 % 256 = _
    rw [Nat.shiftRight_eq_div_pow]
    omega
  unfold pairCh
  apply Int32.toBitVec_inj.mp
  apply BitVec.eq_of_toNat_eq
  have f0 : ((0 : Int32) &&& 31) = 0 := by decide
  have f8 : ((8 : Int32) &&& 31) = 8 := by decide
  rw [f0, f8]
  have g : (((lo8 c &&& 255) <<< (0 : Int32)) ||| ((hi8 c &&& 255) <<< (8 : Int32))).toBitVec.toNat = c.toBitVec.toNat := by
    rw [Int32.toBitVec_or, Int32.toBitVec_shiftLeft, Int32.toBitVec_shiftLeft]
    have s0 : ((0 : Int32).toBitVec.smod 32) = 0#32 := by decide
    have s8 : ((8 : Int32).toBitVec.smod 32) = 8#32 := by decide
    rw [s0, s8, BitVec.toNat_or]
    simp only [BitVec.shiftLeft_eq', BitVec.toNat_shiftLeft, a1, a2]
    show (c.toBitVec.toNat % 256) <<< 0 % 2 ^ 32 ||| (c.toBitVec.toNat / 256) <<< 8 % 2 ^ 32 = _
    rw [Nat.shiftLeft_zero, Nat.mod_eq_of_lt (show c.toBitVec.toNat % 256 < 2 ^ 32 by omega), Nat.mod_eq_of_lt (show (c.toBitVec.toNat / 256) <<< 8 < 2 ^ 32 by rw [Nat.shiftLeft_eq]; omega), Nat.or_comm, ← Nat.shiftLeft_add_eq_or_of_lt (by omega), Nat.shiftLeft_eq]
    omega
  show BitVec.toNat (((((lo8 c &&& 255) <<< (0 : Int32)) ||| ((hi8 c &&& 255) <<< (8 : Int32))).toBitVec.setWidth 16).setWidth 32) = _
  rw [BitVec.toNat_setWidth, BitVec.toNat_setWidth, g]
  omega
end StrChars
end Jvm.Pilot.@@N@@
namespace Jvm.Pilot.@@N@@
open Jvm Jvm.ClassFile Sem Op Lib Jvm.Free Jvm.Stand Jvm.LawKit Jvm.RoadKit Bundle Jvm.Pilot.@@N@@.Jvm.D Jvm.OwnKit
def Ctx (Z : State) (a0 : Array Value) : Prop := (∀ d ∈ tables_1, d.before a0 Z = true) ∧ EW Z a0 ([] : List (String × Nat)) ∧ (∃ zc : Int32, Sta Z Z.heap "java/lang/String" "COMPACT_STRINGS" "Z" (.int zc) ∧ ¬ zc = 0) ∧ (∃ fm : Value, Sta Z Z.heap "jdk/internal/util/Preconditions" "SIOOBE_FORMATTER" "Ljava/util/function/BiFunction;" fm ∧ fm.isRef = true) ∧ Sta Z Z.heap "java/lang/StringUTF16" "$assertionsDisabled" "Z" (.int 1) ∧ Sta Z Z.heap "java/lang/StringUTF16" "HI_BYTE_SHIFT" "I" (.int 0) ∧ Sta Z Z.heap "java/lang/StringUTF16" "LO_BYTE_SHIFT" "I" (.int 8)
theorem own_SA {Z : State} {a0 : Array Value} (hw : ∀ d ∈ tables_1, d.before a0 Z = true) : ∀ a ∈ Bundle.stringAtoms, a.before a0 Z = true := fun d hd => hw d ((by decide +kernel : ∀ d ∈ Bundle.stringAtoms, d ∈ tables_1) d hd)
theorem own_pair {c : Int32} (h : ¬ c < 0 ∧ ¬ (65535 : Int32) < c) (hc : (255 : Int32) < c) : (255 : Int32) < StrChars.pairCh ((c >>> ((0 : Int32) &&& 31)).toInt8.toInt32) ((c >>> ((8 : Int32) &&& 31)).toInt8.toInt32) := by
  have e : (c >>> ((0 : Int32) &&& 31)) = c := by
    apply Int32.toInt_inj.mp
    rw [c_ishr c 0 0 (by decide)]; simp
  rw [e]
  have q := StrChars.pair_says h.1 h.2
  unfold StrChars.lo8 StrChars.hi8 StrChars.lo8 at q
  rw [q]; exact hc
theorem own_d_jdk_52_method_21_0 : decode jdk_52_method_21_code 0 = .ok (.iconst 0, 1) := by decide +kernel
theorem own_d_jdk_52_method_21_1 : decode jdk_52_method_21_code 1 = .ok (.istore 5, 2) := by decide +kernel
theorem own_d_jdk_52_method_21_3 : decode jdk_52_method_21_code 3 = .ok (.iload 5, 2) := by decide +kernel
theorem own_d_jdk_52_method_21_5 : decode jdk_52_method_21_code 5 = .ok (.iload 4, 2) := by decide +kernel
theorem own_d_jdk_52_method_21_7 : decode jdk_52_method_21_code 7 = .ok (.if_icmp .ge 37, 3) := by decide +kernel
theorem own_d_jdk_52_method_21_10 : decode jdk_52_method_21_code 10 = .ok (.aload_n 0, 1) := by decide +kernel
theorem own_d_jdk_52_method_21_11 : decode jdk_52_method_21_code 11 = .ok (.iload_n 1, 1) := by decide +kernel
theorem own_d_jdk_52_method_21_12 : decode jdk_52_method_21_code 12 = .ok (.caload, 1) := by decide +kernel
theorem own_d_jdk_52_method_21_13 : decode jdk_52_method_21_code 13 = .ok (.istore 6, 2) := by decide +kernel
theorem own_d_jdk_52_method_21_15 : decode jdk_52_method_21_code 15 = .ok (.iload 6, 2) := by decide +kernel
theorem own_d_jdk_52_method_21_17 : decode jdk_52_method_21_code 17 = .ok (.sipush 255, 3) := by decide +kernel
theorem own_d_jdk_52_method_21_20 : decode jdk_52_method_21_code 20 = .ok (.if_icmp .le 6, 3) := by decide +kernel
theorem own_d_jdk_52_method_21_23 : decode jdk_52_method_21_code 23 = .ok (.iload 5, 2) := by decide +kernel
theorem own_d_jdk_52_method_21_25 : decode jdk_52_method_21_code 25 = .ok (.ireturn, 1) := by decide +kernel
theorem own_pn14 : plainName "java/lang/StringUTF16" = true := by first | (simp [plainName, overriddenIn]; done) | decide +kernel
set_option maxRecDepth 65536 in
set_option maxHeartbeats 40000000 in
theorem own_c5_1_0 (l : Launch) (Z : State) (a0 : Array Value) (cx : Ctx Z a0) (ws : List Jvm.Cond) (a : Addr) (d : Addr) (kc : ClassId) (kd : ClassId) (c0 : Int32) (vm0 : Vm) (h0 : Heap) (X00 : Ext Z.heap h0) (P0 : Arv Z h0 a kc .char (1 : Int32) [(.int c0)] (.int (0 : Int32))) (P1 : Arv Z h0 d kd .byte (1 : Int32) [(.int (0 : Int32))] (.int (0 : Int32))) (P2 : Z.heap.size ≤ d) (P3 : Safe Z ([] : List (String × Nat)) vm0 h0 d) (hne : a ≠ d) (P5 : (255 : Int32) < c0) :
    Met l (⟨"java/lang/StringUTF16", "compress", "([CI[BII)I"⟩ : MethodName) jdk_52_method_21_code 7 (some .int) ws ({ frames := 0, cells := 0, slots := 0, locals := 0 } : Room) Z ([] : List (String × Nat)) vm0 h0 #[(.ref a), (.int (0 : Int32)), (.ref d), (.int (0 : Int32)), (.int (1 : Int32))] (fun v vm h => v = some (.int (0 : Int32)) ∧ Keep h0 h [d] ∧ Arv Z h d kd .byte (1 : Int32) [(.int (0 : Int32))] (.int (0 : Int32))) := by
  obtain ⟨hw, hEL, ⟨zc, Scs, hzc⟩, ⟨fm, Sfm, hfm⟩, Sad, Shi, Slo⟩ := id cx
  have hSA := own_SA hw
  refine Met.of_walk (a0 := a0) #[.val (.ref a), .val (.int (0 : Int32)), .val (.ref d), .val (.int (0 : Int32)), .val (.int (1 : Int32)), .unset, .unset] (plainFor_of_name own_pn14) X00 hEL (fun m => by first | (simp [entryFrame, mkF, argsToLocals, Value.category]; done) | rfl) ?_
  intro p e s m below meth c vm hx hby hml hret hnm hC0
  have lt_a : h0.size > a := P0.lt
  have lt_d : h0.size > d := P1.lt
  have L3 := hC0.safe lt_d P3
  refine gs (mkF m 1 #[.val (.ref a), .val (.int (0 : Int32)), .val (.ref d), .val (.int (0 : Int32)), .val (.int (1 : Int32)), .unset, .unset] [(.int (0 : Int32))]) (fun _ _ A k => XS.iconst A hx rfl (hb hby own_d_jdk_52_method_21_0) k) ?_
  refine gs (mkF m 3 #[.val (.ref a), .val (.int (0 : Int32)), .val (.ref d), .val (.int (0 : Int32)), .val (.int (1 : Int32)), .val (.int (0 : Int32)), .unset] []) (fun _ _ A k => XS.istore A hx rfl (hb hby own_d_jdk_52_method_21_1) rfl (l' := #[.val (.ref a), .val (.int (0 : Int32)), .val (.ref d), .val (.int (0 : Int32)), .val (.int (1 : Int32)), .val (.int (0 : Int32)), .unset]) rfl k) ?_
  refine gs (mkF m 5 #[.val (.ref a), .val (.int (0 : Int32)), .val (.ref d), .val (.int (0 : Int32)), .val (.int (1 : Int32)), .val (.int (0 : Int32)), .unset] [(.int (0 : Int32))]) (fun _ _ A k => XS.iload A hx rfl (hb hby own_d_jdk_52_method_21_3) rfl  k) ?_
  refine gs (mkF m 7 #[.val (.ref a), .val (.int (0 : Int32)), .val (.ref d), .val (.int (0 : Int32)), .val (.int (1 : Int32)), .val (.int (0 : Int32)), .unset] [(.int (1 : Int32)), (.int (0 : Int32))]) (fun _ _ A k => XS.iload A hx rfl (hb hby own_d_jdk_52_method_21_5) rfl  k) ?_
  refine gs (mkF m 10 #[.val (.ref a), .val (.int (0 : Int32)), .val (.ref d), .val (.int (0 : Int32)), .val (.int (1 : Int32)), .val (.int (0 : Int32)), .unset] []) (fun _ _ A k => XS.icmpNo A hx rfl (hb hby own_d_jdk_52_method_21_7) rfl (tlt (by decide)).2.1 k) ?_
  refine gs (mkF m 11 #[.val (.ref a), .val (.int (0 : Int32)), .val (.ref d), .val (.int (0 : Int32)), .val (.int (1 : Int32)), .val (.int (0 : Int32)), .unset] [(.ref a)]) (fun _ _ A k => XS.aloadN A hx rfl (hb hby own_d_jdk_52_method_21_10) rfl rfl k) ?_
  refine gs (mkF m 12 #[.val (.ref a), .val (.int (0 : Int32)), .val (.ref d), .val (.int (0 : Int32)), .val (.int (1 : Int32)), .val (.int (0 : Int32)), .unset] [(.int (0 : Int32)), (.ref a)]) (fun _ _ A k => XS.iloadN A hx rfl (hb hby own_d_jdk_52_method_21_11) rfl  k) ?_
  refine gldC hx P0 ⟨by decide, by decide⟩ (i := 0) rfl (v := (.int c0)) rfl 13 (hb hby own_d_jdk_52_method_21_12) rfl ?_
  refine gs (mkF m 15 #[.val (.ref a), .val (.int (0 : Int32)), .val (.ref d), .val (.int (0 : Int32)), .val (.int (1 : Int32)), .val (.int (0 : Int32)), .val (.int c0)] []) (fun _ _ A k => XS.istore A hx rfl (hb hby own_d_jdk_52_method_21_13) rfl (l' := #[.val (.ref a), .val (.int (0 : Int32)), .val (.ref d), .val (.int (0 : Int32)), .val (.int (1 : Int32)), .val (.int (0 : Int32)), .val (.int c0)]) rfl k) ?_
  refine gs (mkF m 17 #[.val (.ref a), .val (.int (0 : Int32)), .val (.ref d), .val (.int (0 : Int32)), .val (.int (1 : Int32)), .val (.int (0 : Int32)), .val (.int c0)] [(.int c0)]) (fun _ _ A k => XS.iload A hx rfl (hb hby own_d_jdk_52_method_21_15) rfl  k) ?_
  refine gs (mkF m 20 #[.val (.ref a), .val (.int (0 : Int32)), .val (.ref d), .val (.int (0 : Int32)), .val (.int (1 : Int32)), .val (.int (0 : Int32)), .val (.int c0)] [(.int (255 : Int32)), (.int c0)]) (fun _ _ A k => XS.sipush A hx rfl (hb hby own_d_jdk_52_method_21_17) k) ?_
  refine gs (mkF m 23 #[.val (.ref a), .val (.int (0 : Int32)), .val (.ref d), .val (.int (0 : Int32)), .val (.int (1 : Int32)), .val (.int (0 : Int32)), .val (.int c0)] []) (fun _ _ A k => XS.icmpNo A hx rfl (hb hby own_d_jdk_52_method_21_20) rfl (tlt P5).2.2.2 k) ?_
  refine gs (mkF m 25 #[.val (.ref a), .val (.int (0 : Int32)), .val (.ref d), .val (.int (0 : Int32)), .val (.int (1 : Int32)), .val (.int (0 : Int32)), .val (.int c0)] [(.int (0 : Int32))]) (fun _ _ A k => XS.iload A hx rfl (hb hby own_d_jdk_52_method_21_23) rfl  k) ?_
  exact gretI hx hret (hb hby own_d_jdk_52_method_21_25) (by decide) (by decide) (fun vq Cq => ⟨rfl, (Keep.refl h0 [d]), P1⟩)
theorem own_d_jdk_52_method_21_26 : decode jdk_52_method_21_code 26 = .ok (.aload_n 2, 1) := by decide +kernel
theorem own_d_jdk_52_method_21_27 : decode jdk_52_method_21_code 27 = .ok (.iload_n 3, 1) := by decide +kernel
theorem own_d_jdk_52_method_21_28 : decode jdk_52_method_21_code 28 = .ok (.iload 6, 2) := by decide +kernel
theorem own_d_jdk_52_method_21_30 : decode jdk_52_method_21_code 30 = .ok (.i2b, 1) := by decide +kernel
theorem own_d_jdk_52_method_21_31 : decode jdk_52_method_21_code 31 = .ok (.bastore, 1) := by decide +kernel
theorem own_d_jdk_52_method_21_32 : decode jdk_52_method_21_code 32 = .ok (.iinc 1 1, 3) := by decide +kernel
theorem own_d_jdk_52_method_21_35 : decode jdk_52_method_21_code 35 = .ok (.iinc 3 1, 3) := by decide +kernel
theorem own_d_jdk_52_method_21_38 : decode jdk_52_method_21_code 38 = .ok (.iinc 5 1, 3) := by decide +kernel
theorem own_d_jdk_52_method_21_41 : decode jdk_52_method_21_code 41 = .ok (.goto (-38), 3) := by decide +kernel
theorem own_d_jdk_52_method_21_44 : decode jdk_52_method_21_code 44 = .ok (.iload 4, 2) := by decide +kernel
theorem own_d_jdk_52_method_21_46 : decode jdk_52_method_21_code 46 = .ok (.ireturn, 1) := by decide +kernel
set_option maxRecDepth 65536 in
set_option maxHeartbeats 40000000 in
theorem own_c5_1_1 (l : Launch) (Z : State) (a0 : Array Value) (cx : Ctx Z a0) (ws : List Jvm.Cond) (a : Addr) (d : Addr) (kc : ClassId) (kd : ClassId) (c0 : Int32) (vm0 : Vm) (h0 : Heap) (X00 : Ext Z.heap h0) (P0 : Arv Z h0 a kc .char (1 : Int32) [(.int c0)] (.int (0 : Int32))) (P1 : Arv Z h0 d kd .byte (1 : Int32) [(.int (0 : Int32))] (.int (0 : Int32))) (P2 : Z.heap.size ≤ d) (P3 : Safe Z ([] : List (String × Nat)) vm0 h0 d) (hne : a ≠ d) (P5 : ¬ (255 : Int32) < c0) :
    Met l (⟨"java/lang/StringUTF16", "compress", "([CI[BII)I"⟩ : MethodName) jdk_52_method_21_code 7 (some .int) ws ({ frames := 0, cells := 0, slots := 0, locals := 0 } : Room) Z ([] : List (String × Nat)) vm0 h0 #[(.ref a), (.int (0 : Int32)), (.ref d), (.int (0 : Int32)), (.int (1 : Int32))] (fun v vm h => v = some (.int (1 : Int32)) ∧ Keep h0 h [d] ∧ Arv Z h d kd .byte (1 : Int32) [(.int (c0.toInt8.toInt32))] (.int (0 : Int32))) := by
  obtain ⟨hw, hEL, ⟨zc, Scs, hzc⟩, ⟨fm, Sfm, hfm⟩, Sad, Shi, Slo⟩ := id cx
  have hSA := own_SA hw
  refine Met.of_walk (a0 := a0) #[.val (.ref a), .val (.int (0 : Int32)), .val (.ref d), .val (.int (0 : Int32)), .val (.int (1 : Int32)), .unset, .unset] (plainFor_of_name own_pn14) X00 hEL (fun m => by first | (simp [entryFrame, mkF, argsToLocals, Value.category]; done) | rfl) ?_
  intro p e s m below meth c vm hx hby hml hret hnm hC0
  have lt_a : h0.size > a := P0.lt
  have lt_d : h0.size > d := P1.lt
  have L3 := hC0.safe lt_d P3
  refine gs (mkF m 1 #[.val (.ref a), .val (.int (0 : Int32)), .val (.ref d), .val (.int (0 : Int32)), .val (.int (1 : Int32)), .unset, .unset] [(.int (0 : Int32))]) (fun _ _ A k => XS.iconst A hx rfl (hb hby own_d_jdk_52_method_21_0) k) ?_
  refine gs (mkF m 3 #[.val (.ref a), .val (.int (0 : Int32)), .val (.ref d), .val (.int (0 : Int32)), .val (.int (1 : Int32)), .val (.int (0 : Int32)), .unset] []) (fun _ _ A k => XS.istore A hx rfl (hb hby own_d_jdk_52_method_21_1) rfl (l' := #[.val (.ref a), .val (.int (0 : Int32)), .val (.ref d), .val (.int (0 : Int32)), .val (.int (1 : Int32)), .val (.int (0 : Int32)), .unset]) rfl k) ?_
  refine gs (mkF m 5 #[.val (.ref a), .val (.int (0 : Int32)), .val (.ref d), .val (.int (0 : Int32)), .val (.int (1 : Int32)), .val (.int (0 : Int32)), .unset] [(.int (0 : Int32))]) (fun _ _ A k => XS.iload A hx rfl (hb hby own_d_jdk_52_method_21_3) rfl  k) ?_
  refine gs (mkF m 7 #[.val (.ref a), .val (.int (0 : Int32)), .val (.ref d), .val (.int (0 : Int32)), .val (.int (1 : Int32)), .val (.int (0 : Int32)), .unset] [(.int (1 : Int32)), (.int (0 : Int32))]) (fun _ _ A k => XS.iload A hx rfl (hb hby own_d_jdk_52_method_21_5) rfl  k) ?_
  refine gs (mkF m 10 #[.val (.ref a), .val (.int (0 : Int32)), .val (.ref d), .val (.int (0 : Int32)), .val (.int (1 : Int32)), .val (.int (0 : Int32)), .unset] []) (fun _ _ A k => XS.icmpNo A hx rfl (hb hby own_d_jdk_52_method_21_7) rfl (tlt (by decide)).2.1 k) ?_
  refine gs (mkF m 11 #[.val (.ref a), .val (.int (0 : Int32)), .val (.ref d), .val (.int (0 : Int32)), .val (.int (1 : Int32)), .val (.int (0 : Int32)), .unset] [(.ref a)]) (fun _ _ A k => XS.aloadN A hx rfl (hb hby own_d_jdk_52_method_21_10) rfl rfl k) ?_
  refine gs (mkF m 12 #[.val (.ref a), .val (.int (0 : Int32)), .val (.ref d), .val (.int (0 : Int32)), .val (.int (1 : Int32)), .val (.int (0 : Int32)), .unset] [(.int (0 : Int32)), (.ref a)]) (fun _ _ A k => XS.iloadN A hx rfl (hb hby own_d_jdk_52_method_21_11) rfl  k) ?_
  refine gldC hx P0 ⟨by decide, by decide⟩ (i := 0) rfl (v := (.int c0)) rfl 13 (hb hby own_d_jdk_52_method_21_12) rfl ?_
  refine gs (mkF m 15 #[.val (.ref a), .val (.int (0 : Int32)), .val (.ref d), .val (.int (0 : Int32)), .val (.int (1 : Int32)), .val (.int (0 : Int32)), .val (.int c0)] []) (fun _ _ A k => XS.istore A hx rfl (hb hby own_d_jdk_52_method_21_13) rfl (l' := #[.val (.ref a), .val (.int (0 : Int32)), .val (.ref d), .val (.int (0 : Int32)), .val (.int (1 : Int32)), .val (.int (0 : Int32)), .val (.int c0)]) rfl k) ?_
  refine gs (mkF m 17 #[.val (.ref a), .val (.int (0 : Int32)), .val (.ref d), .val (.int (0 : Int32)), .val (.int (1 : Int32)), .val (.int (0 : Int32)), .val (.int c0)] [(.int c0)]) (fun _ _ A k => XS.iload A hx rfl (hb hby own_d_jdk_52_method_21_15) rfl  k) ?_
  refine gs (mkF m 20 #[.val (.ref a), .val (.int (0 : Int32)), .val (.ref d), .val (.int (0 : Int32)), .val (.int (1 : Int32)), .val (.int (0 : Int32)), .val (.int c0)] [(.int (255 : Int32)), (.int c0)]) (fun _ _ A k => XS.sipush A hx rfl (hb hby own_d_jdk_52_method_21_17) k) ?_
  refine gs (mkF m 26 #[.val (.ref a), .val (.int (0 : Int32)), .val (.ref d), .val (.int (0 : Int32)), .val (.int (1 : Int32)), .val (.int (0 : Int32)), .val (.int c0)] []) (fun _ _ A k => XS.icmpYes A hx rfl (pc0 := 20) (pc' := 26) rfl (hb hby own_d_jdk_52_method_21_20) rfl (flt P5).2.2.2 (by decide) (by decide) k) ?_
  refine gs (mkF m 27 #[.val (.ref a), .val (.int (0 : Int32)), .val (.ref d), .val (.int (0 : Int32)), .val (.int (1 : Int32)), .val (.int (0 : Int32)), .val (.int c0)] [(.ref d)]) (fun _ _ A k => XS.aloadN A hx rfl (hb hby own_d_jdk_52_method_21_26) rfl rfl k) ?_
  refine gs (mkF m 28 #[.val (.ref a), .val (.int (0 : Int32)), .val (.ref d), .val (.int (0 : Int32)), .val (.int (1 : Int32)), .val (.int (0 : Int32)), .val (.int c0)] [(.int (0 : Int32)), (.ref d)]) (fun _ _ A k => XS.iloadN A hx rfl (hb hby own_d_jdk_52_method_21_27) rfl  k) ?_
  refine gs (mkF m 30 #[.val (.ref a), .val (.int (0 : Int32)), .val (.ref d), .val (.int (0 : Int32)), .val (.int (1 : Int32)), .val (.int (0 : Int32)), .val (.int c0)] [(.int c0), (.int (0 : Int32)), (.ref d)]) (fun _ _ A k => XS.iload A hx rfl (hb hby own_d_jdk_52_method_21_28) rfl  k) ?_
  refine gs (mkF m 31 #[.val (.ref a), .val (.int (0 : Int32)), .val (.ref d), .val (.int (0 : Int32)), .val (.int (1 : Int32)), .val (.int (0 : Int32)), .val (.int c0)] [(.int (c0.toInt8.toInt32)), (.int (0 : Int32)), (.ref d)]) (fun _ _ A k => XS.i2b A hx rfl (hb hby own_d_jdk_52_method_21_30) rfl k) ?_
  refine gstB hx P1 ⟨by decide, by decide⟩ (i := 0) rfl (Nat.le_of_ble_eq_true rfl) (y := (c0.toInt8.toInt32)) (narB _) P2 (fun _ => L3) 32 (hb hby own_d_jdk_52_method_21_31) rfl ?_
  intro h1 W1 C1 V1
  have z1 := C1.2.1
  replace V1 : Arv Z h1 d kd .byte (1 : Int32) [(.int (c0.toInt8.toInt32))] (.int (0 : Int32)) := V1
  refine gs (mkF m 35 #[.val (.ref a), .val (.int (1 : Int32)), .val (.ref d), .val (.int (0 : Int32)), .val (.int (1 : Int32)), .val (.int (0 : Int32)), .val (.int c0)] []) (fun _ _ A k => XS.iinc A hx rfl (hb hby own_d_jdk_52_method_21_32) rfl (l' := #[.val (.ref a), .val (.int (1 : Int32)), .val (.ref d), .val (.int (0 : Int32)), .val (.int (1 : Int32)), .val (.int (0 : Int32)), .val (.int c0)]) rfl k) ?_
  refine gs (mkF m 38 #[.val (.ref a), .val (.int (1 : Int32)), .val (.ref d), .val (.int (1 : Int32)), .val (.int (1 : Int32)), .val (.int (0 : Int32)), .val (.int c0)] []) (fun _ _ A k => XS.iinc A hx rfl (hb hby own_d_jdk_52_method_21_35) rfl (l' := #[.val (.ref a), .val (.int (1 : Int32)), .val (.ref d), .val (.int (1 : Int32)), .val (.int (1 : Int32)), .val (.int (0 : Int32)), .val (.int c0)]) rfl k) ?_
  refine gs (mkF m 41 #[.val (.ref a), .val (.int (1 : Int32)), .val (.ref d), .val (.int (1 : Int32)), .val (.int (1 : Int32)), .val (.int (1 : Int32)), .val (.int c0)] []) (fun _ _ A k => XS.iinc A hx rfl (hb hby own_d_jdk_52_method_21_38) rfl (l' := #[.val (.ref a), .val (.int (1 : Int32)), .val (.ref d), .val (.int (1 : Int32)), .val (.int (1 : Int32)), .val (.int (1 : Int32)), .val (.int c0)]) rfl k) ?_
  refine gs (mkF m 3 #[.val (.ref a), .val (.int (1 : Int32)), .val (.ref d), .val (.int (1 : Int32)), .val (.int (1 : Int32)), .val (.int (1 : Int32)), .val (.int c0)] []) (fun _ _ A k => XS.goto A hx rfl (pc0 := 41) (pc' := 3) rfl (hb hby own_d_jdk_52_method_21_41) (by decide) (by decide) k) ?_
  refine gs (mkF m 5 #[.val (.ref a), .val (.int (1 : Int32)), .val (.ref d), .val (.int (1 : Int32)), .val (.int (1 : Int32)), .val (.int (1 : Int32)), .val (.int c0)] [(.int (1 : Int32))]) (fun _ _ A k => XS.iload A hx rfl (hb hby own_d_jdk_52_method_21_3) rfl  k) ?_
  refine gs (mkF m 7 #[.val (.ref a), .val (.int (1 : Int32)), .val (.ref d), .val (.int (1 : Int32)), .val (.int (1 : Int32)), .val (.int (1 : Int32)), .val (.int c0)] [(.int (1 : Int32)), (.int (1 : Int32))]) (fun _ _ A k => XS.iload A hx rfl (hb hby own_d_jdk_52_method_21_5) rfl  k) ?_
  refine gs (mkF m 44 #[.val (.ref a), .val (.int (1 : Int32)), .val (.ref d), .val (.int (1 : Int32)), .val (.int (1 : Int32)), .val (.int (1 : Int32)), .val (.int c0)] []) (fun _ _ A k => XS.icmpYes A hx rfl (pc0 := 7) (pc' := 44) rfl (hb hby own_d_jdk_52_method_21_7) rfl (flt (by decide)).2.1 (by decide) (by decide) k) ?_
  refine gs (mkF m 46 #[.val (.ref a), .val (.int (1 : Int32)), .val (.ref d), .val (.int (1 : Int32)), .val (.int (1 : Int32)), .val (.int (1 : Int32)), .val (.int c0)] [(.int (1 : Int32))]) (fun _ _ A k => XS.iload A hx rfl (hb hby own_d_jdk_52_method_21_44) rfl  k) ?_
  exact gretI hx hret (hb hby own_d_jdk_52_method_21_46) (by decide) (by decide) (fun vq Cq => ⟨rfl, ((Keep.refl h0 [d]).wr W1 (Or.inl (List.mem_of_getElem? (i := 0) rfl))), V1⟩)
theorem own_d_jdk_52_method_3_0 : decode jdk_52_method_3_code 0 = .ok (.iload_n 0, 1) := by decide +kernel
theorem own_d_jdk_52_method_3_1 : decode jdk_52_method_3_code 1 = .ok (.ifCond .ge 11, 3) := by decide +kernel
theorem own_d_jdk_52_method_3_12 : decode jdk_52_method_3_code 12 = .ok (.iload_n 0, 1) := by decide +kernel
theorem own_d_jdk_52_method_3_13 : decode jdk_52_method_3_code 13 = .ok (.ldc 20, 2) := by decide +kernel
theorem own_d_jdk_52_method_3_15 : decode jdk_52_method_3_code 15 = .ok (.if_icmp .lt 40, 3) := by decide +kernel
theorem own_d_jdk_52_method_3_55 : decode jdk_52_method_3_code 55 = .ok (.iload_n 0, 1) := by decide +kernel
theorem own_d_jdk_52_method_3_56 : decode jdk_52_method_3_code 56 = .ok (.iconst 1, 1) := by decide +kernel
theorem own_d_jdk_52_method_3_57 : decode jdk_52_method_3_code 57 = .ok (.ishl, 1) := by decide +kernel
theorem own_d_jdk_52_method_3_58 : decode jdk_52_method_3_code 58 = .ok (.ireturn, 1) := by decide +kernel
set_option maxRecDepth 65536 in
set_option maxHeartbeats 40000000 in
theorem own_nbl1 (l : Launch) (Z : State) (a0 : Array Value) (cx : Ctx Z a0) (ws : List Jvm.Cond)  (vm0 : Vm) (h0 : Heap) (X00 : Ext Z.heap h0)  :
    Met l (⟨"java/lang/StringUTF16", "newBytesLength", "(I)I"⟩ : MethodName) jdk_52_method_3_code 1 (some .int) ws ({ frames := 0, cells := 0, slots := 0, locals := 0 } : Room) Z ([] : List (String × Nat)) vm0 h0 #[(.int (1 : Int32))] (fun v vm h => v = some (.int (2 : Int32)) ∧ h0 = h) := by
  obtain ⟨hw, hEL, ⟨zc, Scs, hzc⟩, ⟨fm, Sfm, hfm⟩, Sad, Shi, Slo⟩ := id cx
  have hSA := own_SA hw
  refine Met.of_walk (a0 := a0) #[.val (.int (1 : Int32))] (plainFor_of_name own_pn14) X00 hEL (fun m => by first | (simp [entryFrame, mkF, argsToLocals, Value.category]; done) | rfl) ?_
  intro p e s m below meth c vm hx hby hml hret hnm hC0
  refine gs (mkF m 1 #[.val (.int (1 : Int32))] [(.int (1 : Int32))]) (fun _ _ A k => XS.iloadN A hx rfl (hb hby own_d_jdk_52_method_3_0) rfl  k) ?_
  refine gs (mkF m 12 #[.val (.int (1 : Int32))] []) (fun _ _ A k => XS.ifYes A hx rfl (pc0 := 1) (pc' := 12) rfl (hb hby own_d_jdk_52_method_3_1) rfl ((if0 _ _).trans (flt (by decide)).2.1) (by decide) (by decide) k) ?_
  refine gs (mkF m 13 #[.val (.int (1 : Int32))] [(.int (1 : Int32))]) (fun _ _ A k => XS.iloadN A hx rfl (hb hby own_d_jdk_52_method_3_12) rfl  k) ?_
  refine gldcI hx (ow hw 52 rfl) 15 (hb hby own_d_jdk_52_method_3_13) rfl ?_
  refine gs (mkF m 55 #[.val (.int (1 : Int32))] []) (fun _ _ A k => XS.icmpYes A hx rfl (pc0 := 15) (pc' := 55) rfl (hb hby own_d_jdk_52_method_3_15) rfl (tlt (by decide)).1 (by decide) (by decide) k) ?_
  refine gs (mkF m 56 #[.val (.int (1 : Int32))] [(.int (1 : Int32))]) (fun _ _ A k => XS.iloadN A hx rfl (hb hby own_d_jdk_52_method_3_55) rfl  k) ?_
  refine gs (mkF m 57 #[.val (.int (1 : Int32))] [(.int (1 : Int32)), (.int (1 : Int32))]) (fun _ _ A k => XS.iconst A hx rfl (hb hby own_d_jdk_52_method_3_56) k) ?_
  refine gs (mkF m 58 #[.val (.int (1 : Int32))] [(.int (2 : Int32))]) (fun _ _ A k => XS.ishl A hx rfl (hb hby own_d_jdk_52_method_3_57) rfl k) ?_
  exact gretI hx hret (hb hby own_d_jdk_52_method_3_58) (by decide) (by decide) (fun vq Cq => ⟨rfl, rfl⟩)
theorem own_d_jdk_52_method_2_0 : decode jdk_52_method_2_code 0 = .ok (.iload_n 0, 1) := by decide +kernel
theorem own_d_jdk_52_method_2_1 : decode jdk_52_method_2_code 1 = .ok (.invokestatic 11, 3) := by decide +kernel
theorem own_pd37 : parseMethodDescriptor "(I)I" = some ⟨[.int], some .int⟩ := by decide +kernel
theorem own_d_jdk_52_method_2_4 : decode jdk_52_method_2_code 4 = .ok (.newarray .byte, 2) := by decide +kernel
theorem own_d_jdk_52_method_2_6 : decode jdk_52_method_2_code 6 = .ok (.areturn, 1) := by decide +kernel
set_option maxRecDepth 65536 in
set_option maxHeartbeats 40000000 in
theorem own_nbf1 (l : Launch) (Z : State) (a0 : Array Value) (cx : Ctx Z a0) (ws : List Jvm.Cond)  (vm0 : Vm) (h0 : Heap) (X00 : Ext Z.heap h0)  :
    Met l (⟨"java/lang/StringUTF16", "newBytesFor", "(I)[B"⟩ : MethodName) jdk_52_method_2_code 1 (some (.array .byte)) ws ({ frames := 1, cells := 1, slots := 2, locals := 12 } : Room) Z ([] : List (String × Nat)) vm0 h0 #[(.int (1 : Int32))] (fun v vm h => ∃ (r : Addr), ∃ (kb : ClassId), v = some (.ref r) ∧ Keep h0 h [] ∧ h0.size ≤ r ∧ Z.heap.size ≤ r ∧ Safe Z ([] : List (String × Nat)) vm h r ∧ Arv Z h r kb .byte (2 : Int32) [(.int (0 : Int32)), (.int (0 : Int32))] (.int (0 : Int32))) := by
  obtain ⟨hw, hEL, ⟨zc, Scs, hzc⟩, ⟨fm, Sfm, hfm⟩, Sad, Shi, Slo⟩ := id cx
  have hSA := own_SA hw
  refine Met.of_walk (a0 := a0) #[.val (.int (1 : Int32))] (plainFor_of_name own_pn14) X00 hEL (fun m => by first | (simp [entryFrame, mkF, argsToLocals, Value.category]; done) | rfl) ?_
  intro p e s m below meth c vm hx hby hml hret hnm hC0
  refine gs (mkF m 1 #[.val (.int (1 : Int32))] [(.int (1 : Int32))]) (fun _ _ A k => XS.iloadN A hx rfl (hb hby own_d_jdk_52_method_2_0) rfl  k) ?_
  refine ginfo fun _ _ O1 => ?_
  refine gcallS (y := (⟨"java/lang/StringUTF16", "newBytesLength", "(I)I"⟩ : MethodName)) hx (ow hw 49 rfl) (ow hw 50 rfl) (ow hw 18 rfl) (ow hw 51 rfl) (by decide) (fun hZ H hEL => Pay.of_met (W := 0) (own_nbl1 l Z a0 cx []  vm h0 O1 ) (ow hw 51 rfl) (ow hw 18 rfl) (by decide) (by decide) hZ H hEL) 4 (argsL := [(.int (1 : Int32))]) (rest := []) (lenOf own_pd37 rfl) rfl rfl (Nat.le_of_eq rfl) (by rw [hml]; rfl) (hb hby own_d_jdk_52_method_2_1) rfl (by decide) (by decide) ?_
  rintro _ vm1 h1 C1 ⟨rfl, rfl⟩
  have z1 := C1.2.1
  refine gat (mkF m 4 #[.val (.int (1 : Int32))] [(.int (2 : Int32))]) rfl ?_
  refine gnewP hx (ow hw 20 rfl) (n := (2 : Int32)) (by decide) (cap := 2) (by decide) (by decide) 6 (hb hby own_d_jdk_52_method_2_4) rfl (by decide) (by decide) ?_
  intro b2 h2 k2 g2 E2 C2 V2 n2 L2
  have z2 := C2.2.1
  have V2 : Arv Z h2 b2 k2 .byte (2 : Int32) [(.int (0 : Int32)), (.int (0 : Int32))] (.int (0 : Int32)) := V2.pad (pad_rep [] (.int (0 : Int32)) 2)
  have lt_b2 : h2.size > b2 := V2.lt
  exact gretA hx hret rfl rfl (hb hby own_d_jdk_52_method_2_6) (by decide) (by decide) (fun vq Cq => ⟨b2, k2, rfl, ((Keep.refl h0 []).ext E2), (by omega), n2, (Cq.safe (show h2.size > b2 by omega) L2), V2⟩)
theorem own_d_jdk_52_method_4_0 : decode jdk_52_method_4_code 0 = .ok (.getstatic 44, 3) := by decide +kernel
theorem own_d_jdk_52_method_4_3 : decode jdk_52_method_4_code 3 = .ok (.ifCond .ne 25, 3) := by decide +kernel
theorem own_d_jdk_52_method_4_28 : decode jdk_52_method_4_code 28 = .ok (.iload_n 1, 1) := by decide +kernel
theorem own_d_jdk_52_method_4_29 : decode jdk_52_method_4_code 29 = .ok (.iconst 1, 1) := by decide +kernel
theorem own_d_jdk_52_method_4_30 : decode jdk_52_method_4_code 30 = .ok (.ishl, 1) := by decide +kernel
theorem own_d_jdk_52_method_4_31 : decode jdk_52_method_4_code 31 = .ok (.istore_n 1, 1) := by decide +kernel
theorem own_d_jdk_52_method_4_32 : decode jdk_52_method_4_code 32 = .ok (.aload_n 0, 1) := by decide +kernel
theorem own_d_jdk_52_method_4_33 : decode jdk_52_method_4_code 33 = .ok (.iload_n 1, 1) := by decide +kernel
theorem own_d_jdk_52_method_4_34 : decode jdk_52_method_4_code 34 = .ok (.iinc 1 1, 3) := by decide +kernel
theorem own_d_jdk_52_method_4_37 : decode jdk_52_method_4_code 37 = .ok (.iload_n 2, 1) := by decide +kernel
theorem own_d_jdk_52_method_4_38 : decode jdk_52_method_4_code 38 = .ok (.getstatic 59, 3) := by decide +kernel
theorem own_d_jdk_52_method_4_41 : decode jdk_52_method_4_code 41 = .ok (.ishr, 1) := by decide +kernel
theorem own_d_jdk_52_method_4_42 : decode jdk_52_method_4_code 42 = .ok (.i2b, 1) := by decide +kernel
theorem own_d_jdk_52_method_4_43 : decode jdk_52_method_4_code 43 = .ok (.bastore, 1) := by decide +kernel
theorem own_d_jdk_52_method_4_44 : decode jdk_52_method_4_code 44 = .ok (.aload_n 0, 1) := by decide +kernel
theorem own_d_jdk_52_method_4_45 : decode jdk_52_method_4_code 45 = .ok (.iload_n 1, 1) := by decide +kernel
theorem own_d_jdk_52_method_4_46 : decode jdk_52_method_4_code 46 = .ok (.iload_n 2, 1) := by decide +kernel
theorem own_d_jdk_52_method_4_47 : decode jdk_52_method_4_code 47 = .ok (.getstatic 63, 3) := by decide +kernel
theorem own_d_jdk_52_method_4_50 : decode jdk_52_method_4_code 50 = .ok (.ishr, 1) := by decide +kernel
theorem own_d_jdk_52_method_4_51 : decode jdk_52_method_4_code 51 = .ok (.i2b, 1) := by decide +kernel
theorem own_d_jdk_52_method_4_52 : decode jdk_52_method_4_code 52 = .ok (.bastore, 1) := by decide +kernel
theorem own_d_jdk_52_method_4_53 : decode jdk_52_method_4_code 53 = .ok (.return_, 1) := by decide +kernel
set_option maxRecDepth 65536 in
set_option maxHeartbeats 40000000 in
theorem own_pc1_0 (l : Launch) (Z : State) (a0 : Array Value) (cx : Ctx Z a0) (ws : List Jvm.Cond) (a : Addr) (ch : Int32) (ka : ClassId) (u0 : Value) (u1 : Value) (vm0 : Vm) (h0 : Heap) (X00 : Ext Z.heap h0) (P0 : Arv Z h0 a ka .byte (2 : Int32) [u0, u1] (.int (0 : Int32))) (P1 : Z.heap.size ≤ a) (P2 : Safe Z ([] : List (String × Nat)) vm0 h0 a) :
    Met l (⟨"java/lang/StringUTF16", "putChar", "([BII)V"⟩ : MethodName) jdk_52_method_4_code 3 none ws ({ frames := 0, cells := 0, slots := 0, locals := 0 } : Room) Z ([] : List (String × Nat)) vm0 h0 #[(.ref a), (.int (0 : Int32)), (.int ch)] (fun v vm h => v = none ∧ Keep h0 h [a] ∧ Arv Z h a ka .byte (2 : Int32) [(.int ((ch >>> ((0 : Int32) &&& 31)).toInt8.toInt32)), (.int ((ch >>> ((8 : Int32) &&& 31)).toInt8.toInt32))] (.int (0 : Int32)) ∧ Safe Z ([] : List (String × Nat)) vm h a) := by
  obtain ⟨hw, hEL, ⟨zc, Scs, hzc⟩, ⟨fm, Sfm, hfm⟩, Sad, Shi, Slo⟩ := id cx
  have hSA := own_SA hw
  refine Met.of_walk (a0 := a0) #[.val (.ref a), .val (.int (0 : Int32)), .val (.int ch)] (plainFor_of_name own_pn14) X00 hEL (fun m => by first | (simp [entryFrame, mkF, argsToLocals, Value.category]; done) | rfl) ?_
  intro p e s m below meth c vm hx hby hml hret hnm hC0
  have lt_a : h0.size > a := P0.lt
  have L2 := hC0.safe lt_a P2
  refine ggetS (host := "") hx (Or.inl (ow hw 56 rfl)) Via.refl Sad 3 (hb hby own_d_jdk_52_method_4_0) rfl ?_
  refine gs (mkF m 28 #[.val (.ref a), .val (.int (0 : Int32)), .val (.int ch)] []) (fun _ _ A k => XS.ifYes A hx rfl (pc0 := 3) (pc' := 28) rfl (hb hby own_d_jdk_52_method_4_3) rfl ((if0 _ _).trans (feq (by decide)).2) (by decide) (by decide) k) ?_
  refine gs (mkF m 29 #[.val (.ref a), .val (.int (0 : Int32)), .val (.int ch)] [(.int (0 : Int32))]) (fun _ _ A k => XS.iloadN A hx rfl (hb hby own_d_jdk_52_method_4_28) rfl  k) ?_
  refine gs (mkF m 30 #[.val (.ref a), .val (.int (0 : Int32)), .val (.int ch)] [(.int (1 : Int32)), (.int (0 : Int32))]) (fun _ _ A k => XS.iconst A hx rfl (hb hby own_d_jdk_52_method_4_29) k) ?_
  refine gs (mkF m 31 #[.val (.ref a), .val (.int (0 : Int32)), .val (.int ch)] [(.int (0 : Int32))]) (fun _ _ A k => XS.ishl A hx rfl (hb hby own_d_jdk_52_method_4_30) rfl k) ?_
  refine gs (mkF m 32 #[.val (.ref a), .val (.int (0 : Int32)), .val (.int ch)] []) (fun _ _ A k => XS.istoreN A hx rfl (hb hby own_d_jdk_52_method_4_31) rfl (l' := #[.val (.ref a), .val (.int (0 : Int32)), .val (.int ch)]) rfl k) ?_
  refine gs (mkF m 33 #[.val (.ref a), .val (.int (0 : Int32)), .val (.int ch)] [(.ref a)]) (fun _ _ A k => XS.aloadN A hx rfl (hb hby own_d_jdk_52_method_4_32) rfl rfl k) ?_
  refine gs (mkF m 34 #[.val (.ref a), .val (.int (0 : Int32)), .val (.int ch)] [(.int (0 : Int32)), (.ref a)]) (fun _ _ A k => XS.iloadN A hx rfl (hb hby own_d_jdk_52_method_4_33) rfl  k) ?_
  refine gs (mkF m 37 #[.val (.ref a), .val (.int (1 : Int32)), .val (.int ch)] [(.int (0 : Int32)), (.ref a)]) (fun _ _ A k => XS.iinc A hx rfl (hb hby own_d_jdk_52_method_4_34) rfl (l' := #[.val (.ref a), .val (.int (1 : Int32)), .val (.int ch)]) rfl k) ?_
  refine gs (mkF m 38 #[.val (.ref a), .val (.int (1 : Int32)), .val (.int ch)] [(.int ch), (.int (0 : Int32)), (.ref a)]) (fun _ _ A k => XS.iloadN A hx rfl (hb hby own_d_jdk_52_method_4_37) rfl  k) ?_
  refine ggetS (host := "") hx (Or.inl (ow hw 57 rfl)) Via.refl Shi 41 (hb hby own_d_jdk_52_method_4_38) rfl ?_
  refine gs (mkF m 42 #[.val (.ref a), .val (.int (1 : Int32)), .val (.int ch)] [(.int (ch >>> ((0 : Int32) &&& 31))), (.int (0 : Int32)), (.ref a)]) (fun _ _ A k => XS.ishr A hx rfl (hb hby own_d_jdk_52_method_4_41) rfl k) ?_
  refine gs (mkF m 43 #[.val (.ref a), .val (.int (1 : Int32)), .val (.int ch)] [(.int ((ch >>> ((0 : Int32) &&& 31)).toInt8.toInt32)), (.int (0 : Int32)), (.ref a)]) (fun _ _ A k => XS.i2b A hx rfl (hb hby own_d_jdk_52_method_4_42) rfl k) ?_
  refine gstB hx P0 ⟨by decide, by decide⟩ (i := 0) rfl (Nat.le_of_ble_eq_true rfl) (y := ((ch >>> ((0 : Int32) &&& 31)).toInt8.toInt32)) (narB _) P1 (fun _ => L2) 44 (hb hby own_d_jdk_52_method_4_43) rfl ?_
  intro h1 W1 C1 V1
  have z1 := C1.2.1
  replace V1 : Arv Z h1 a ka .byte (2 : Int32) [(.int ((ch >>> ((0 : Int32) &&& 31)).toInt8.toInt32)), u1] (.int (0 : Int32)) := V1
  refine gs (mkF m 45 #[.val (.ref a), .val (.int (1 : Int32)), .val (.int ch)] [(.ref a)]) (fun _ _ A k => XS.aloadN A hx rfl (hb hby own_d_jdk_52_method_4_44) rfl rfl k) ?_
  refine gs (mkF m 46 #[.val (.ref a), .val (.int (1 : Int32)), .val (.int ch)] [(.int (1 : Int32)), (.ref a)]) (fun _ _ A k => XS.iloadN A hx rfl (hb hby own_d_jdk_52_method_4_45) rfl  k) ?_
  refine gs (mkF m 47 #[.val (.ref a), .val (.int (1 : Int32)), .val (.int ch)] [(.int ch), (.int (1 : Int32)), (.ref a)]) (fun _ _ A k => XS.iloadN A hx rfl (hb hby own_d_jdk_52_method_4_46) rfl  k) ?_
  refine ggetS (host := "") hx (Or.inl (ow hw 58 rfl)) Via.refl Slo 50 (hb hby own_d_jdk_52_method_4_47) rfl ?_
  refine gs (mkF m 51 #[.val (.ref a), .val (.int (1 : Int32)), .val (.int ch)] [(.int (ch >>> ((8 : Int32) &&& 31))), (.int (1 : Int32)), (.ref a)]) (fun _ _ A k => XS.ishr A hx rfl (hb hby own_d_jdk_52_method_4_50) rfl k) ?_
  refine gs (mkF m 52 #[.val (.ref a), .val (.int (1 : Int32)), .val (.int ch)] [(.int ((ch >>> ((8 : Int32) &&& 31)).toInt8.toInt32)), (.int (1 : Int32)), (.ref a)]) (fun _ _ A k => XS.i2b A hx rfl (hb hby own_d_jdk_52_method_4_51) rfl k) ?_
  have f3 := (C1.safe (show h0.size > a by omega) L2)
  refine gstB hx V1 ⟨by decide, by decide⟩ (i := 1) rfl (Nat.le_of_ble_eq_true rfl) (y := ((ch >>> ((8 : Int32) &&& 31)).toInt8.toInt32)) (narB _) P1 (fun _ => f3) 53 (hb hby own_d_jdk_52_method_4_52) rfl ?_
  intro h2 W2 C2 V2
  have z2 := C2.2.1
  replace V2 : Arv Z h2 a ka .byte (2 : Int32) [(.int ((ch >>> ((0 : Int32) &&& 31)).toInt8.toInt32)), (.int ((ch >>> ((8 : Int32) &&& 31)).toInt8.toInt32))] (.int (0 : Int32)) := V2
  have f5 := (C2.safe (show h1.size > a by omega) f3)
  exact gretV hx hret (hb hby own_d_jdk_52_method_4_53) (by decide) (by decide) (fun vq Cq => ⟨rfl, (((Keep.refl h0 [a]).wr W1 (Or.inl (List.mem_of_getElem? (i := 0) rfl))).wr W2 (Or.inl (List.mem_of_getElem? (i := 0) rfl))), V2, (Cq.safe (show h2.size > a by omega) f5)⟩)
theorem own_d_jdk_52_method_5_0 : decode jdk_52_method_5_code 0 = .ok (.getstatic 44, 3) := by decide +kernel
theorem own_d_jdk_52_method_5_3 : decode jdk_52_method_5_code 3 = .ok (.ifCond .ne 25, 3) := by decide +kernel
theorem own_d_jdk_52_method_5_28 : decode jdk_52_method_5_code 28 = .ok (.iload_n 1, 1) := by decide +kernel
theorem own_d_jdk_52_method_5_29 : decode jdk_52_method_5_code 29 = .ok (.iconst 1, 1) := by decide +kernel
theorem own_d_jdk_52_method_5_30 : decode jdk_52_method_5_code 30 = .ok (.ishl, 1) := by decide +kernel
theorem own_d_jdk_52_method_5_31 : decode jdk_52_method_5_code 31 = .ok (.istore_n 1, 1) := by decide +kernel
theorem own_d_jdk_52_method_5_32 : decode jdk_52_method_5_code 32 = .ok (.aload_n 0, 1) := by decide +kernel
theorem own_d_jdk_52_method_5_33 : decode jdk_52_method_5_code 33 = .ok (.iload_n 1, 1) := by decide +kernel
theorem own_d_jdk_52_method_5_34 : decode jdk_52_method_5_code 34 = .ok (.iinc 1 1, 3) := by decide +kernel
theorem own_d_jdk_52_method_5_37 : decode jdk_52_method_5_code 37 = .ok (.baload, 1) := by decide +kernel
theorem own_d_jdk_52_method_5_38 : decode jdk_52_method_5_code 38 = .ok (.sipush 255, 3) := by decide +kernel
theorem own_d_jdk_52_method_5_41 : decode jdk_52_method_5_code 41 = .ok (.iand, 1) := by decide +kernel
theorem own_d_jdk_52_method_5_42 : decode jdk_52_method_5_code 42 = .ok (.getstatic 59, 3) := by decide +kernel
theorem own_d_jdk_52_method_5_45 : decode jdk_52_method_5_code 45 = .ok (.ishl, 1) := by decide +kernel
theorem own_d_jdk_52_method_5_46 : decode jdk_52_method_5_code 46 = .ok (.aload_n 0, 1) := by decide +kernel
theorem own_d_jdk_52_method_5_47 : decode jdk_52_method_5_code 47 = .ok (.iload_n 1, 1) := by decide +kernel
theorem own_d_jdk_52_method_5_48 : decode jdk_52_method_5_code 48 = .ok (.baload, 1) := by decide +kernel
theorem own_d_jdk_52_method_5_49 : decode jdk_52_method_5_code 49 = .ok (.sipush 255, 3) := by decide +kernel
theorem own_d_jdk_52_method_5_52 : decode jdk_52_method_5_code 52 = .ok (.iand, 1) := by decide +kernel
theorem own_d_jdk_52_method_5_53 : decode jdk_52_method_5_code 53 = .ok (.getstatic 63, 3) := by decide +kernel
theorem own_d_jdk_52_method_5_56 : decode jdk_52_method_5_code 56 = .ok (.ishl, 1) := by decide +kernel
theorem own_d_jdk_52_method_5_57 : decode jdk_52_method_5_code 57 = .ok (.ior, 1) := by decide +kernel
theorem own_d_jdk_52_method_5_58 : decode jdk_52_method_5_code 58 = .ok (.i2c, 1) := by decide +kernel
theorem own_d_jdk_52_method_5_59 : decode jdk_52_method_5_code 59 = .ok (.ireturn, 1) := by decide +kernel
set_option maxRecDepth 65536 in
set_option maxHeartbeats 40000000 in
theorem own_gc1_0 (l : Launch) (Z : State) (a0 : Array Value) (cx : Ctx Z a0) (ws : List Jvm.Cond) (a : Addr) (ka : ClassId) (b0 : Int32) (b1 : Int32) (vm0 : Vm) (h0 : Heap) (X00 : Ext Z.heap h0) (P0 : Arv Z h0 a ka .byte (2 : Int32) [(.int b0), (.int b1)] (.int (0 : Int32))) :
    Met l (⟨"java/lang/StringUTF16", "getChar", "([BI)C"⟩ : MethodName) jdk_52_method_5_code 2 (some .char) ws ({ frames := 0, cells := 0, slots := 0, locals := 0 } : Room) Z ([] : List (String × Nat)) vm0 h0 #[(.ref a), (.int (0 : Int32))] (fun v vm h => v = some (.int (StrChars.pairCh b0 b1)) ∧ h0 = h) := by
  obtain ⟨hw, hEL, ⟨zc, Scs, hzc⟩, ⟨fm, Sfm, hfm⟩, Sad, Shi, Slo⟩ := id cx
  have hSA := own_SA hw
  refine Met.of_walk (a0 := a0) #[.val (.ref a), .val (.int (0 : Int32))] (plainFor_of_name own_pn14) X00 hEL (fun m => by first | (simp [entryFrame, mkF, argsToLocals, Value.category]; done) | rfl) ?_
  intro p e s m below meth c vm hx hby hml hret hnm hC0
  have lt_a : h0.size > a := P0.lt
  refine ggetS (host := "") hx (Or.inl (ow hw 56 rfl)) Via.refl Sad 3 (hb hby own_d_jdk_52_method_5_0) rfl ?_
  refine gs (mkF m 28 #[.val (.ref a), .val (.int (0 : Int32))] []) (fun _ _ A k => XS.ifYes A hx rfl (pc0 := 3) (pc' := 28) rfl (hb hby own_d_jdk_52_method_5_3) rfl ((if0 _ _).trans (feq (by decide)).2) (by decide) (by decide) k) ?_
  refine gs (mkF m 29 #[.val (.ref a), .val (.int (0 : Int32))] [(.int (0 : Int32))]) (fun _ _ A k => XS.iloadN A hx rfl (hb hby own_d_jdk_52_method_5_28) rfl  k) ?_
  refine gs (mkF m 30 #[.val (.ref a), .val (.int (0 : Int32))] [(.int (1 : Int32)), (.int (0 : Int32))]) (fun _ _ A k => XS.iconst A hx rfl (hb hby own_d_jdk_52_method_5_29) k) ?_
  refine gs (mkF m 31 #[.val (.ref a), .val (.int (0 : Int32))] [(.int (0 : Int32))]) (fun _ _ A k => XS.ishl A hx rfl (hb hby own_d_jdk_52_method_5_30) rfl k) ?_
  refine gs (mkF m 32 #[.val (.ref a), .val (.int (0 : Int32))] []) (fun _ _ A k => XS.istoreN A hx rfl (hb hby own_d_jdk_52_method_5_31) rfl (l' := #[.val (.ref a), .val (.int (0 : Int32))]) rfl k) ?_
  refine gs (mkF m 33 #[.val (.ref a), .val (.int (0 : Int32))] [(.ref a)]) (fun _ _ A k => XS.aloadN A hx rfl (hb hby own_d_jdk_52_method_5_32) rfl rfl k) ?_
  refine gs (mkF m 34 #[.val (.ref a), .val (.int (0 : Int32))] [(.int (0 : Int32)), (.ref a)]) (fun _ _ A k => XS.iloadN A hx rfl (hb hby own_d_jdk_52_method_5_33) rfl  k) ?_
  refine gs (mkF m 37 #[.val (.ref a), .val (.int (1 : Int32))] [(.int (0 : Int32)), (.ref a)]) (fun _ _ A k => XS.iinc A hx rfl (hb hby own_d_jdk_52_method_5_34) rfl (l' := #[.val (.ref a), .val (.int (1 : Int32))]) rfl k) ?_
  refine gldB hx P0 ⟨by decide, by decide⟩ (i := 0) rfl (v := (.int b0)) rfl 38 (hb hby own_d_jdk_52_method_5_37) rfl ?_
  refine gs (mkF m 41 #[.val (.ref a), .val (.int (1 : Int32))] [(.int (255 : Int32)), (.int b0)]) (fun _ _ A k => XS.sipush A hx rfl (hb hby own_d_jdk_52_method_5_38) k) ?_
  refine gs (mkF m 42 #[.val (.ref a), .val (.int (1 : Int32))] [(.int (b0 &&& (255 : Int32)))]) (fun _ _ A k => XS.iand A hx rfl (hb hby own_d_jdk_52_method_5_41) rfl k) ?_
  refine ggetS (host := "") hx (Or.inl (ow hw 57 rfl)) Via.refl Shi 45 (hb hby own_d_jdk_52_method_5_42) rfl ?_
  refine gs (mkF m 46 #[.val (.ref a), .val (.int (1 : Int32))] [(.int ((b0 &&& (255 : Int32)) <<< ((0 : Int32) &&& 31)))]) (fun _ _ A k => XS.ishl A hx rfl (hb hby own_d_jdk_52_method_5_45) rfl k) ?_
  refine gs (mkF m 47 #[.val (.ref a), .val (.int (1 : Int32))] [(.ref a), (.int ((b0 &&& (255 : Int32)) <<< ((0 : Int32) &&& 31)))]) (fun _ _ A k => XS.aloadN A hx rfl (hb hby own_d_jdk_52_method_5_46) rfl rfl k) ?_
  refine gs (mkF m 48 #[.val (.ref a), .val (.int (1 : Int32))] [(.int (1 : Int32)), (.ref a), (.int ((b0 &&& (255 : Int32)) <<< ((0 : Int32) &&& 31)))]) (fun _ _ A k => XS.iloadN A hx rfl (hb hby own_d_jdk_52_method_5_47) rfl  k) ?_
  refine gldB hx P0 ⟨by decide, by decide⟩ (i := 1) rfl (v := (.int b1)) rfl 49 (hb hby own_d_jdk_52_method_5_48) rfl ?_
  refine gs (mkF m 52 #[.val (.ref a), .val (.int (1 : Int32))] [(.int (255 : Int32)), (.int b1), (.int ((b0 &&& (255 : Int32)) <<< ((0 : Int32) &&& 31)))]) (fun _ _ A k => XS.sipush A hx rfl (hb hby own_d_jdk_52_method_5_49) k) ?_
  refine gs (mkF m 53 #[.val (.ref a), .val (.int (1 : Int32))] [(.int (b1 &&& (255 : Int32))), (.int ((b0 &&& (255 : Int32)) <<< ((0 : Int32) &&& 31)))]) (fun _ _ A k => XS.iand A hx rfl (hb hby own_d_jdk_52_method_5_52) rfl k) ?_
  refine ggetS (host := "") hx (Or.inl (ow hw 58 rfl)) Via.refl Slo 56 (hb hby own_d_jdk_52_method_5_53) rfl ?_
  refine gs (mkF m 57 #[.val (.ref a), .val (.int (1 : Int32))] [(.int ((b1 &&& (255 : Int32)) <<< ((8 : Int32) &&& 31))), (.int ((b0 &&& (255 : Int32)) <<< ((0 : Int32) &&& 31)))]) (fun _ _ A k => XS.ishl A hx rfl (hb hby own_d_jdk_52_method_5_56) rfl k) ?_
  refine gs (mkF m 58 #[.val (.ref a), .val (.int (1 : Int32))] [(.int (((b0 &&& (255 : Int32)) <<< ((0 : Int32) &&& 31)) ||| ((b1 &&& (255 : Int32)) <<< ((8 : Int32) &&& 31))))]) (fun _ _ A k => XS.ior A hx rfl (hb hby own_d_jdk_52_method_5_57) rfl k) ?_
  refine gi2c hx rfl 59 (hb hby own_d_jdk_52_method_5_58) rfl ?_
  exact gretN (t := .char) hx hret (by simp) (hb hby own_d_jdk_52_method_5_59) (by decide) (by decide) (fun vq Cq => ⟨(congrArg (fun z => some (Value.int z)) (narC2 _)), rfl⟩)
theorem own_d_jdk_52_method_14_0 : decode jdk_52_method_14_code 0 = .ok (.iload_n 2, 1) := by decide +kernel
theorem own_d_jdk_52_method_14_1 : decode jdk_52_method_14_code 1 = .ok (.invokestatic 107, 3) := by decide +kernel
theorem own_pd88 : parseMethodDescriptor "(I)[B" = some ⟨[.int], some (.array .byte)⟩ := by decide +kernel
theorem own_d_jdk_52_method_14_4 : decode jdk_52_method_14_code 4 = .ok (.astore_n 3, 1) := by decide +kernel
theorem own_d_jdk_52_method_14_5 : decode jdk_52_method_14_code 5 = .ok (.iconst 0, 1) := by decide +kernel
theorem own_d_jdk_52_method_14_6 : decode jdk_52_method_14_code 6 = .ok (.istore 4, 2) := by decide +kernel
theorem own_d_jdk_52_method_14_8 : decode jdk_52_method_14_code 8 = .ok (.iload 4, 2) := by decide +kernel
theorem own_d_jdk_52_method_14_10 : decode jdk_52_method_14_code 10 = .ok (.iload_n 2, 1) := by decide +kernel
theorem own_d_jdk_52_method_14_11 : decode jdk_52_method_14_code 11 = .ok (.if_icmp .ge 21, 3) := by decide +kernel
theorem own_d_jdk_52_method_14_14 : decode jdk_52_method_14_code 14 = .ok (.aload_n 3, 1) := by decide +kernel
theorem own_d_jdk_52_method_14_15 : decode jdk_52_method_14_code 15 = .ok (.iload 4, 2) := by decide +kernel
theorem own_d_jdk_52_method_14_17 : decode jdk_52_method_14_code 17 = .ok (.aload_n 0, 1) := by decide +kernel
theorem own_d_jdk_52_method_14_18 : decode jdk_52_method_14_code 18 = .ok (.iload_n 1, 1) := by decide +kernel
theorem own_d_jdk_52_method_14_19 : decode jdk_52_method_14_code 19 = .ok (.caload, 1) := by decide +kernel
theorem own_d_jdk_52_method_14_20 : decode jdk_52_method_14_code 20 = .ok (.invokestatic 111, 3) := by decide +kernel
theorem own_pd101 : parseMethodDescriptor "([BII)V" = some ⟨[(.array .byte), .int, .int], none⟩ := by decide +kernel
theorem own_d_jdk_52_method_14_23 : decode jdk_52_method_14_code 23 = .ok (.iinc 1 1, 3) := by decide +kernel
theorem own_d_jdk_52_method_14_26 : decode jdk_52_method_14_code 26 = .ok (.iinc 4 1, 3) := by decide +kernel
theorem own_d_jdk_52_method_14_29 : decode jdk_52_method_14_code 29 = .ok (.goto (-21), 3) := by decide +kernel
theorem own_d_jdk_52_method_14_32 : decode jdk_52_method_14_code 32 = .ok (.aload_n 3, 1) := by decide +kernel
theorem own_d_jdk_52_method_14_33 : decode jdk_52_method_14_code 33 = .ok (.areturn, 1) := by decide +kernel
set_option maxRecDepth 65536 in
set_option maxHeartbeats 40000000 in
theorem own_tb1 (l : Launch) (Z : State) (a0 : Array Value) (cx : Ctx Z a0) (ws : List Jvm.Cond) (a : Addr) (kc : ClassId) (c0 : Int32) (vm0 : Vm) (h0 : Heap) (X00 : Ext Z.heap h0) (P0 : Arv Z h0 a kc .char (1 : Int32) [(.int c0)] (.int (0 : Int32))) :
    Met l (⟨"java/lang/StringUTF16", "toBytes", "([CII)[B"⟩ : MethodName) jdk_52_method_14_code 5 (some (.array .byte)) ws ({ frames := 2, cells := 1, slots := 2, locals := 24 } : Room) Z ([] : List (String × Nat)) vm0 h0 #[(.ref a), (.int (0 : Int32)), (.int (1 : Int32))] (fun v vm h => ∃ (r : Addr), ∃ (kb : ClassId), v = some (.ref r) ∧ Keep h0 h [] ∧ h0.size ≤ r ∧ Arv Z h r kb .byte (2 : Int32) [(.int ((c0 >>> ((0 : Int32) &&& 31)).toInt8.toInt32)), (.int ((c0 >>> ((8 : Int32) &&& 31)).toInt8.toInt32))] (.int (0 : Int32))) := by
  obtain ⟨hw, hEL, ⟨zc, Scs, hzc⟩, ⟨fm, Sfm, hfm⟩, Sad, Shi, Slo⟩ := id cx
  have hSA := own_SA hw
  refine Met.of_walk (a0 := a0) #[.val (.ref a), .val (.int (0 : Int32)), .val (.int (1 : Int32)), .unset, .unset] (plainFor_of_name own_pn14) X00 hEL (fun m => by first | (simp [entryFrame, mkF, argsToLocals, Value.category]; done) | rfl) ?_
  intro p e s m below meth c vm hx hby hml hret hnm hC0
  have lt_a : h0.size > a := P0.lt
  refine gs (mkF m 1 #[.val (.ref a), .val (.int (0 : Int32)), .val (.int (1 : Int32)), .unset, .unset] [(.int (1 : Int32))]) (fun _ _ A k => XS.iloadN A hx rfl (hb hby own_d_jdk_52_method_14_0) rfl  k) ?_
  refine ginfo fun _ _ O1 => ?_
  refine gcallS (y := (⟨"java/lang/StringUTF16", "newBytesFor", "(I)[B"⟩ : MethodName)) hx (ow hw 46 rfl) (ow hw 47 rfl) (ow hw 18 rfl) (ow hw 48 rfl) (by decide) (fun hZ H hEL => Pay.of_met (W := 0) (own_nbf1 l Z a0 cx []  vm h0 O1 ) (ow hw 48 rfl) (ow hw 18 rfl) (by decide) (by decide) hZ H hEL) 4 (argsL := [(.int (1 : Int32))]) (rest := []) (lenOf own_pd88 rfl) rfl rfl (Nat.le_of_eq rfl) (by rw [hml]; rfl) (hb hby own_d_jdk_52_method_14_1) rfl (by decide) (by decide) ?_
  rintro _ vm1 h1 C1 ⟨r1, kb1, rfl, K1, q1_0, q1_1, q1_2, q1_3⟩
  have z1 := C1.2.1
  have lt_r1 : h1.size > r1 := q1_3.lt
  refine gat (mkF m 4 #[.val (.ref a), .val (.int (0 : Int32)), .val (.int (1 : Int32)), .unset, .unset] [(.ref r1)]) rfl ?_
  refine gs (mkF m 5 #[.val (.ref a), .val (.int (0 : Int32)), .val (.int (1 : Int32)), .val (.ref r1), .unset] []) (fun _ _ A k => XS.astoreN A hx rfl (hb hby own_d_jdk_52_method_14_4) rfl rfl (l' := #[.val (.ref a), .val (.int (0 : Int32)), .val (.int (1 : Int32)), .val (.ref r1), .unset]) rfl k) ?_
  refine gs (mkF m 6 #[.val (.ref a), .val (.int (0 : Int32)), .val (.int (1 : Int32)), .val (.ref r1), .unset] [(.int (0 : Int32))]) (fun _ _ A k => XS.iconst A hx rfl (hb hby own_d_jdk_52_method_14_5) k) ?_
  refine gs (mkF m 8 #[.val (.ref a), .val (.int (0 : Int32)), .val (.int (1 : Int32)), .val (.ref r1), .val (.int (0 : Int32))] []) (fun _ _ A k => XS.istore A hx rfl (hb hby own_d_jdk_52_method_14_6) rfl (l' := #[.val (.ref a), .val (.int (0 : Int32)), .val (.int (1 : Int32)), .val (.ref r1), .val (.int (0 : Int32))]) rfl k) ?_
  refine gs (mkF m 10 #[.val (.ref a), .val (.int (0 : Int32)), .val (.int (1 : Int32)), .val (.ref r1), .val (.int (0 : Int32))] [(.int (0 : Int32))]) (fun _ _ A k => XS.iload A hx rfl (hb hby own_d_jdk_52_method_14_8) rfl  k) ?_
  refine gs (mkF m 11 #[.val (.ref a), .val (.int (0 : Int32)), .val (.int (1 : Int32)), .val (.ref r1), .val (.int (0 : Int32))] [(.int (1 : Int32)), (.int (0 : Int32))]) (fun _ _ A k => XS.iloadN A hx rfl (hb hby own_d_jdk_52_method_14_10) rfl  k) ?_
  refine gs (mkF m 14 #[.val (.ref a), .val (.int (0 : Int32)), .val (.int (1 : Int32)), .val (.ref r1), .val (.int (0 : Int32))] []) (fun _ _ A k => XS.icmpNo A hx rfl (hb hby own_d_jdk_52_method_14_11) rfl (tlt (by decide)).2.1 k) ?_
  refine gs (mkF m 15 #[.val (.ref a), .val (.int (0 : Int32)), .val (.int (1 : Int32)), .val (.ref r1), .val (.int (0 : Int32))] [(.ref r1)]) (fun _ _ A k => XS.aloadN A hx rfl (hb hby own_d_jdk_52_method_14_14) rfl rfl k) ?_
  refine gs (mkF m 17 #[.val (.ref a), .val (.int (0 : Int32)), .val (.int (1 : Int32)), .val (.ref r1), .val (.int (0 : Int32))] [(.int (0 : Int32)), (.ref r1)]) (fun _ _ A k => XS.iload A hx rfl (hb hby own_d_jdk_52_method_14_15) rfl  k) ?_
  refine gs (mkF m 18 #[.val (.ref a), .val (.int (0 : Int32)), .val (.int (1 : Int32)), .val (.ref r1), .val (.int (0 : Int32))] [(.ref a), (.int (0 : Int32)), (.ref r1)]) (fun _ _ A k => XS.aloadN A hx rfl (hb hby own_d_jdk_52_method_14_17) rfl rfl k) ?_
  refine gs (mkF m 19 #[.val (.ref a), .val (.int (0 : Int32)), .val (.int (1 : Int32)), .val (.ref r1), .val (.int (0 : Int32))] [(.int (0 : Int32)), (.ref a), (.int (0 : Int32)), (.ref r1)]) (fun _ _ A k => XS.iloadN A hx rfl (hb hby own_d_jdk_52_method_14_18) rfl  k) ?_
  have f2 := (P0.keep K1 nin0)
  refine gldC hx f2 ⟨by decide, by decide⟩ (i := 0) rfl (v := (.int c0)) rfl 20 (hb hby own_d_jdk_52_method_14_19) rfl ?_
  refine ginfo fun _ _ O3 => ?_
  refine gcallS (y := (⟨"java/lang/StringUTF16", "putChar", "([BII)V"⟩ : MethodName)) hx (ow hw 53 rfl) (ow hw 54 rfl) (ow hw 18 rfl) (ow hw 55 rfl) (by decide) (fun hZ H hEL => Pay.of_met (W := 0) (own_pc1_0 l Z a0 cx [] (r1) (c0) (kb1) ((.int (0 : Int32))) ((.int (0 : Int32))) vm1 h1 O3 q1_3 q1_1 q1_2) (ow hw 55 rfl) (ow hw 18 rfl) (by decide) (by decide) hZ H hEL) 23 (argsL := [(.ref r1), (.int (0 : Int32)), (.int c0)]) (rest := []) (lenOf own_pd101 rfl) rfl rfl (Nat.le_of_eq rfl) (by rw [hml]; rfl) (hb hby own_d_jdk_52_method_14_20) rfl (by decide) (by decide) ?_
  rintro _ vm3 h3 C3 ⟨rfl, K3, q3_0, q3_1⟩
  have z3 := C3.2.1
  refine gat (mkF m 23 #[.val (.ref a), .val (.int (0 : Int32)), .val (.int (1 : Int32)), .val (.ref r1), .val (.int (0 : Int32))] []) rfl ?_
  refine gs (mkF m 26 #[.val (.ref a), .val (.int (1 : Int32)), .val (.int (1 : Int32)), .val (.ref r1), .val (.int (0 : Int32))] []) (fun _ _ A k => XS.iinc A hx rfl (hb hby own_d_jdk_52_method_14_23) rfl (l' := #[.val (.ref a), .val (.int (1 : Int32)), .val (.int (1 : Int32)), .val (.ref r1), .val (.int (0 : Int32))]) rfl k) ?_
  refine gs (mkF m 29 #[.val (.ref a), .val (.int (1 : Int32)), .val (.int (1 : Int32)), .val (.ref r1), .val (.int (1 : Int32))] []) (fun _ _ A k => XS.iinc A hx rfl (hb hby own_d_jdk_52_method_14_26) rfl (l' := #[.val (.ref a), .val (.int (1 : Int32)), .val (.int (1 : Int32)), .val (.ref r1), .val (.int (1 : Int32))]) rfl k) ?_
  refine gs (mkF m 8 #[.val (.ref a), .val (.int (1 : Int32)), .val (.int (1 : Int32)), .val (.ref r1), .val (.int (1 : Int32))] []) (fun _ _ A k => XS.goto A hx rfl (pc0 := 29) (pc' := 8) rfl (hb hby own_d_jdk_52_method_14_29) (by decide) (by decide) k) ?_
  refine gs (mkF m 10 #[.val (.ref a), .val (.int (1 : Int32)), .val (.int (1 : Int32)), .val (.ref r1), .val (.int (1 : Int32))] [(.int (1 : Int32))]) (fun _ _ A k => XS.iload A hx rfl (hb hby own_d_jdk_52_method_14_8) rfl  k) ?_
  refine gs (mkF m 11 #[.val (.ref a), .val (.int (1 : Int32)), .val (.int (1 : Int32)), .val (.ref r1), .val (.int (1 : Int32))] [(.int (1 : Int32)), (.int (1 : Int32))]) (fun _ _ A k => XS.iloadN A hx rfl (hb hby own_d_jdk_52_method_14_10) rfl  k) ?_
  refine gs (mkF m 32 #[.val (.ref a), .val (.int (1 : Int32)), .val (.int (1 : Int32)), .val (.ref r1), .val (.int (1 : Int32))] []) (fun _ _ A k => XS.icmpYes A hx rfl (pc0 := 11) (pc' := 32) rfl (hb hby own_d_jdk_52_method_14_11) rfl (flt (by decide)).2.1 (by decide) (by decide) k) ?_
  refine gs (mkF m 33 #[.val (.ref a), .val (.int (1 : Int32)), .val (.int (1 : Int32)), .val (.ref r1), .val (.int (1 : Int32))] [(.ref r1)]) (fun _ _ A k => XS.aloadN A hx rfl (hb hby own_d_jdk_52_method_14_32) rfl rfl k) ?_
  exact gretA hx hret rfl rfl (hb hby own_d_jdk_52_method_14_33) (by decide) (by decide) (fun vq Cq => ⟨r1, kb1, rfl, (((Keep.refl h0 []).trans K1 all0).trans K3 (allS (Or.inr (by omega)) all0)), (by omega), q3_0⟩)
theorem own_d_jdk_52_method_16_0 : decode jdk_52_method_16_code 0 = .ok (.iload_n 2, 1) := by decide +kernel
theorem own_d_jdk_52_method_16_1 : decode jdk_52_method_16_code 1 = .ok (.newarray .byte, 2) := by decide +kernel
theorem own_d_jdk_52_method_16_3 : decode jdk_52_method_16_code 3 = .ok (.astore_n 3, 1) := by decide +kernel
theorem own_d_jdk_52_method_16_4 : decode jdk_52_method_16_code 4 = .ok (.aload_n 0, 1) := by decide +kernel
theorem own_d_jdk_52_method_16_5 : decode jdk_52_method_16_code 5 = .ok (.iload_n 1, 1) := by decide +kernel
theorem own_d_jdk_52_method_16_6 : decode jdk_52_method_16_code 6 = .ok (.aload_n 3, 1) := by decide +kernel
theorem own_d_jdk_52_method_16_7 : decode jdk_52_method_16_code 7 = .ok (.iconst 0, 1) := by decide +kernel
theorem own_d_jdk_52_method_16_8 : decode jdk_52_method_16_code 8 = .ok (.iload_n 2, 1) := by decide +kernel
theorem own_d_jdk_52_method_16_9 : decode jdk_52_method_16_code 9 = .ok (.invokestatic 115, 3) := by decide +kernel
theorem own_pd116 : parseMethodDescriptor "([CI[BII)I" = some ⟨[(.array .char), .int, (.array .byte), .int, .int], some .int⟩ := by decide +kernel
theorem own_d_jdk_52_method_16_12 : decode jdk_52_method_16_code 12 = .ok (.istore 4, 2) := by decide +kernel
theorem own_d_jdk_52_method_16_14 : decode jdk_52_method_16_code 14 = .ok (.iload 4, 2) := by decide +kernel
theorem own_d_jdk_52_method_16_16 : decode jdk_52_method_16_code 16 = .ok (.iload_n 2, 1) := by decide +kernel
theorem own_d_jdk_52_method_16_17 : decode jdk_52_method_16_code 17 = .ok (.if_icmp .eq 40, 3) := by decide +kernel
theorem own_d_jdk_52_method_16_20 : decode jdk_52_method_16_code 20 = .ok (.aload_n 0, 1) := by decide +kernel
theorem own_d_jdk_52_method_16_21 : decode jdk_52_method_16_code 21 = .ok (.iload_n 1, 1) := by decide +kernel
theorem own_d_jdk_52_method_16_22 : decode jdk_52_method_16_code 22 = .ok (.iload_n 2, 1) := by decide +kernel
theorem own_d_jdk_52_method_16_23 : decode jdk_52_method_16_code 23 = .ok (.invokestatic 119, 3) := by decide +kernel
theorem own_pd125 : parseMethodDescriptor "([CII)[B" = some ⟨[(.array .char), .int, .int], some (.array .byte)⟩ := by decide +kernel
theorem own_d_jdk_52_method_16_26 : decode jdk_52_method_16_code 26 = .ok (.astore 5, 2) := by decide +kernel
theorem own_d_jdk_52_method_16_28 : decode jdk_52_method_16_code 28 = .ok (.aload 5, 2) := by decide +kernel
theorem own_d_jdk_52_method_16_30 : decode jdk_52_method_16_code 30 = .ok (.iload 4, 2) := by decide +kernel
theorem own_d_jdk_52_method_16_32 : decode jdk_52_method_16_code 32 = .ok (.invokestatic 71, 3) := by decide +kernel
theorem own_pd130 : parseMethodDescriptor "([BI)C" = some ⟨[(.array .byte), .int], some .char⟩ := by decide +kernel
theorem own_d_jdk_52_method_16_35 : decode jdk_52_method_16_code 35 = .ok (.sipush 255, 3) := by decide +kernel
theorem own_d_jdk_52_method_16_38 : decode jdk_52_method_16_code 38 = .ok (.if_icmp .gt 16, 3) := by decide +kernel
theorem own_d_jdk_52_method_16_54 : decode jdk_52_method_16_code 54 = .ok (.aload 5, 2) := by decide +kernel
theorem own_d_jdk_52_method_16_56 : decode jdk_52_method_16_code 56 = .ok (.areturn, 1) := by decide +kernel
set_option maxRecDepth 65536 in
set_option maxHeartbeats 40000000 in
theorem own_c3_1_0 (l : Launch) (Z : State) (a0 : Array Value) (cx : Ctx Z a0) (ws : List Jvm.Cond) (a : Addr) (kc : ClassId) (c0 : Int32) (vm0 : Vm) (h0 : Heap) (X00 : Ext Z.heap h0) (P0 : Arv Z h0 a kc .char (1 : Int32) [(.int c0)] (.int (0 : Int32))) (P1 : (255 : Int32) < c0) (hB : ¬ c0 < 0 ∧ ¬ (65535 : Int32) < c0) :
    Met l (⟨"java/lang/StringUTF16", "compress", "([CII)[B"⟩ : MethodName) jdk_52_method_16_code 6 (some (.array .byte)) ws ({ frames := 3, cells := 2, slots := 3, locals := 40 } : Room) Z ([] : List (String × Nat)) vm0 h0 #[(.ref a), (.int (0 : Int32)), (.int (1 : Int32))] (fun v vm h => ∃ (r : Addr), ∃ (kb : ClassId), v = some (.ref r) ∧ Keep h0 h [] ∧ h0.size ≤ r ∧ Arv Z h r kb .byte (2 : Int32) [(.int ((c0 >>> ((0 : Int32) &&& 31)).toInt8.toInt32)), (.int ((c0 >>> ((8 : Int32) &&& 31)).toInt8.toInt32))] (.int (0 : Int32))) := by
  obtain ⟨hw, hEL, ⟨zc, Scs, hzc⟩, ⟨fm, Sfm, hfm⟩, Sad, Shi, Slo⟩ := id cx
  have hSA := own_SA hw
  refine Met.of_walk (a0 := a0) #[.val (.ref a), .val (.int (0 : Int32)), .val (.int (1 : Int32)), .unset, .unset, .unset] (plainFor_of_name own_pn14) X00 hEL (fun m => by first | (simp [entryFrame, mkF, argsToLocals, Value.category]; done) | rfl) ?_
  intro p e s m below meth c vm hx hby hml hret hnm hC0
  have lt_a : h0.size > a := P0.lt
  refine gs (mkF m 1 #[.val (.ref a), .val (.int (0 : Int32)), .val (.int (1 : Int32)), .unset, .unset, .unset] [(.int (1 : Int32))]) (fun _ _ A k => XS.iloadN A hx rfl (hb hby own_d_jdk_52_method_16_0) rfl  k) ?_
  refine gnewP hx (ow hw 20 rfl) (n := (1 : Int32)) (by decide) (cap := 1) (by decide) (by decide) 3 (hb hby own_d_jdk_52_method_16_1) rfl (by decide) (by decide) ?_
  intro b1 h1 k1 g1 E1 C1 V1 n1 L1
  have z1 := C1.2.1
  have V1 : Arv Z h1 b1 k1 .byte (1 : Int32) [(.int (0 : Int32))] (.int (0 : Int32)) := V1.pad (pad_rep [] (.int (0 : Int32)) 1)
  have lt_b1 : h1.size > b1 := V1.lt
  refine gs (mkF m 4 #[.val (.ref a), .val (.int (0 : Int32)), .val (.int (1 : Int32)), .val (.ref b1), .unset, .unset] []) (fun _ _ A k => XS.astoreN A hx rfl (hb hby own_d_jdk_52_method_16_3) rfl rfl (l' := #[.val (.ref a), .val (.int (0 : Int32)), .val (.int (1 : Int32)), .val (.ref b1), .unset, .unset]) rfl k) ?_
  refine gs (mkF m 5 #[.val (.ref a), .val (.int (0 : Int32)), .val (.int (1 : Int32)), .val (.ref b1), .unset, .unset] [(.ref a)]) (fun _ _ A k => XS.aloadN A hx rfl (hb hby own_d_jdk_52_method_16_4) rfl rfl k) ?_
  refine gs (mkF m 6 #[.val (.ref a), .val (.int (0 : Int32)), .val (.int (1 : Int32)), .val (.ref b1), .unset, .unset] [(.int (0 : Int32)), (.ref a)]) (fun _ _ A k => XS.iloadN A hx rfl (hb hby own_d_jdk_52_method_16_5) rfl  k) ?_
  refine gs (mkF m 7 #[.val (.ref a), .val (.int (0 : Int32)), .val (.int (1 : Int32)), .val (.ref b1), .unset, .unset] [(.ref b1), (.int (0 : Int32)), (.ref a)]) (fun _ _ A k => XS.aloadN A hx rfl (hb hby own_d_jdk_52_method_16_6) rfl rfl k) ?_
  refine gs (mkF m 8 #[.val (.ref a), .val (.int (0 : Int32)), .val (.int (1 : Int32)), .val (.ref b1), .unset, .unset] [(.int (0 : Int32)), (.ref b1), (.int (0 : Int32)), (.ref a)]) (fun _ _ A k => XS.iconst A hx rfl (hb hby own_d_jdk_52_method_16_7) k) ?_
  refine gs (mkF m 9 #[.val (.ref a), .val (.int (0 : Int32)), .val (.int (1 : Int32)), .val (.ref b1), .unset, .unset] [(.int (1 : Int32)), (.int (0 : Int32)), (.ref b1), (.int (0 : Int32)), (.ref a)]) (fun _ _ A k => XS.iloadN A hx rfl (hb hby own_d_jdk_52_method_16_8) rfl  k) ?_
  have f3 := (P0.ext E1)
  refine ginfo fun _ _ O2 => ?_
  refine gcallS (y := (⟨"java/lang/StringUTF16", "compress", "([CI[BII)I"⟩ : MethodName)) hx (ow hw 21 rfl) (ow hw 22 rfl) (ow hw 18 rfl) (ow hw 23 rfl) (by decide) (fun hZ H hEL => Pay.of_met (W := 0) (own_c5_1_0 l Z a0 cx [] (a) (b1) (kc) (k1) (c0) vm h1 O2 f3 V1 n1 L1 (Nat.ne_of_lt (by omega)) (by first | assumption | decide | omega)) (ow hw 23 rfl) (ow hw 18 rfl) (by decide) (by decide) hZ H hEL) 12 (argsL := [(.ref a), (.int (0 : Int32)), (.ref b1), (.int (0 : Int32)), (.int (1 : Int32))]) (rest := []) (lenOf own_pd116 rfl) rfl rfl (Nat.le_of_eq rfl) (by rw [hml]; rfl) (hb hby own_d_jdk_52_method_16_9) rfl (by decide) (by decide) ?_
  rintro _ vm2 h2 C2 ⟨rfl, K2, q2_0⟩
  have z2 := C2.2.1
  refine gat (mkF m 12 #[.val (.ref a), .val (.int (0 : Int32)), .val (.int (1 : Int32)), .val (.ref b1), .unset, .unset] [(.int (0 : Int32))]) rfl ?_
  refine gs (mkF m 14 #[.val (.ref a), .val (.int (0 : Int32)), .val (.int (1 : Int32)), .val (.ref b1), .val (.int (0 : Int32)), .unset] []) (fun _ _ A k => XS.istore A hx rfl (hb hby own_d_jdk_52_method_16_12) rfl (l' := #[.val (.ref a), .val (.int (0 : Int32)), .val (.int (1 : Int32)), .val (.ref b1), .val (.int (0 : Int32)), .unset]) rfl k) ?_
  refine gs (mkF m 16 #[.val (.ref a), .val (.int (0 : Int32)), .val (.int (1 : Int32)), .val (.ref b1), .val (.int (0 : Int32)), .unset] [(.int (0 : Int32))]) (fun _ _ A k => XS.iload A hx rfl (hb hby own_d_jdk_52_method_16_14) rfl  k) ?_
  refine gs (mkF m 17 #[.val (.ref a), .val (.int (0 : Int32)), .val (.int (1 : Int32)), .val (.ref b1), .val (.int (0 : Int32)), .unset] [(.int (1 : Int32)), (.int (0 : Int32))]) (fun _ _ A k => XS.iloadN A hx rfl (hb hby own_d_jdk_52_method_16_16) rfl  k) ?_
  refine gs (mkF m 20 #[.val (.ref a), .val (.int (0 : Int32)), .val (.int (1 : Int32)), .val (.ref b1), .val (.int (0 : Int32)), .unset] []) (fun _ _ A k => XS.icmpNo A hx rfl (hb hby own_d_jdk_52_method_16_17) rfl (feq (by decide)).1 k) ?_
  refine gs (mkF m 21 #[.val (.ref a), .val (.int (0 : Int32)), .val (.int (1 : Int32)), .val (.ref b1), .val (.int (0 : Int32)), .unset] [(.ref a)]) (fun _ _ A k => XS.aloadN A hx rfl (hb hby own_d_jdk_52_method_16_20) rfl rfl k) ?_
  refine gs (mkF m 22 #[.val (.ref a), .val (.int (0 : Int32)), .val (.int (1 : Int32)), .val (.ref b1), .val (.int (0 : Int32)), .unset] [(.int (0 : Int32)), (.ref a)]) (fun _ _ A k => XS.iloadN A hx rfl (hb hby own_d_jdk_52_method_16_21) rfl  k) ?_
  refine gs (mkF m 23 #[.val (.ref a), .val (.int (0 : Int32)), .val (.int (1 : Int32)), .val (.ref b1), .val (.int (0 : Int32)), .unset] [(.int (1 : Int32)), (.int (0 : Int32)), (.ref a)]) (fun _ _ A k => XS.iloadN A hx rfl (hb hby own_d_jdk_52_method_16_22) rfl  k) ?_
  have f5 := (f3.keep K2 (ninS (Nat.ne_of_lt (by omega)) nin0))
  refine ginfo fun _ _ O4 => ?_
  refine gcallS (y := (⟨"java/lang/StringUTF16", "toBytes", "([CII)[B"⟩ : MethodName)) hx (ow hw 43 rfl) (ow hw 44 rfl) (ow hw 18 rfl) (ow hw 45 rfl) (by decide) (fun hZ H hEL => Pay.of_met (W := 0) (own_tb1 l Z a0 cx [] (a) (kc) (c0) vm2 h2 O4 f5) (ow hw 45 rfl) (ow hw 18 rfl) (by decide) (by decide) hZ H hEL) 26 (argsL := [(.ref a), (.int (0 : Int32)), (.int (1 : Int32))]) (rest := []) (lenOf own_pd125 rfl) rfl rfl (Nat.le_of_eq rfl) (by rw [hml]; rfl) (hb hby own_d_jdk_52_method_16_23) rfl (by decide) (by decide) ?_
  rintro _ vm4 h4 C4 ⟨r4, kb4, rfl, K4, q4_0, q4_1⟩
  have z4 := C4.2.1
  have lt_r4 : h4.size > r4 := q4_1.lt
  refine gat (mkF m 26 #[.val (.ref a), .val (.int (0 : Int32)), .val (.int (1 : Int32)), .val (.ref b1), .val (.int (0 : Int32)), .unset] [(.ref r4)]) rfl ?_
  refine gs (mkF m 28 #[.val (.ref a), .val (.int (0 : Int32)), .val (.int (1 : Int32)), .val (.ref b1), .val (.int (0 : Int32)), .val (.ref r4)] []) (fun _ _ A k => XS.astore A hx rfl (hb hby own_d_jdk_52_method_16_26) rfl rfl (l' := #[.val (.ref a), .val (.int (0 : Int32)), .val (.int (1 : Int32)), .val (.ref b1), .val (.int (0 : Int32)), .val (.ref r4)]) rfl k) ?_
  refine gs (mkF m 30 #[.val (.ref a), .val (.int (0 : Int32)), .val (.int (1 : Int32)), .val (.ref b1), .val (.int (0 : Int32)), .val (.ref r4)] [(.ref r4)]) (fun _ _ A k => XS.aload A hx rfl (hb hby own_d_jdk_52_method_16_28) rfl rfl k) ?_
  refine gs (mkF m 32 #[.val (.ref a), .val (.int (0 : Int32)), .val (.int (1 : Int32)), .val (.ref b1), .val (.int (0 : Int32)), .val (.ref r4)] [(.int (0 : Int32)), (.ref r4)]) (fun _ _ A k => XS.iload A hx rfl (hb hby own_d_jdk_52_method_16_30) rfl  k) ?_
  refine ginfo fun _ _ O6 => ?_
  refine gcallS (y := (⟨"java/lang/StringUTF16", "getChar", "([BI)C"⟩ : MethodName)) hx (ow hw 59 rfl) (ow hw 60 rfl) (ow hw 18 rfl) (ow hw 61 rfl) (by decide) (fun hZ H hEL => Pay.of_met (W := 0) (own_gc1_0 l Z a0 cx [] (r4) (kb4) (((c0 >>> ((0 : Int32) &&& 31)).toInt8.toInt32)) (((c0 >>> ((8 : Int32) &&& 31)).toInt8.toInt32)) vm4 h4 O6 q4_1) (ow hw 61 rfl) (ow hw 18 rfl) (by decide) (by decide) hZ H hEL) 35 (argsL := [(.ref r4), (.int (0 : Int32))]) (rest := []) (lenOf own_pd130 rfl) rfl rfl (Nat.le_of_eq rfl) (by rw [hml]; rfl) (hb hby own_d_jdk_52_method_16_32) rfl (by decide) (by decide) ?_
  rintro _ vm6 h6 C6 ⟨rfl, rfl⟩
  have z6 := C6.2.1
  refine gat (mkF m 35 #[.val (.ref a), .val (.int (0 : Int32)), .val (.int (1 : Int32)), .val (.ref b1), .val (.int (0 : Int32)), .val (.ref r4)] [(.int (StrChars.pairCh ((c0 >>> ((0 : Int32) &&& 31)).toInt8.toInt32) ((c0 >>> ((8 : Int32) &&& 31)).toInt8.toInt32)))]) rfl ?_
  refine gs (mkF m 38 #[.val (.ref a), .val (.int (0 : Int32)), .val (.int (1 : Int32)), .val (.ref b1), .val (.int (0 : Int32)), .val (.ref r4)] [(.int (255 : Int32)), (.int (StrChars.pairCh ((c0 >>> ((0 : Int32) &&& 31)).toInt8.toInt32) ((c0 >>> ((8 : Int32) &&& 31)).toInt8.toInt32)))]) (fun _ _ A k => XS.sipush A hx rfl (hb hby own_d_jdk_52_method_16_35) k) ?_
  refine gs (mkF m 54 #[.val (.ref a), .val (.int (0 : Int32)), .val (.int (1 : Int32)), .val (.ref b1), .val (.int (0 : Int32)), .val (.ref r4)] []) (fun _ _ A k => XS.icmpYes A hx rfl (pc0 := 38) (pc' := 54) rfl (hb hby own_d_jdk_52_method_16_38) rfl (tlt (own_pair hB P1)).2.2.1 (by decide) (by decide) k) ?_
  refine gs (mkF m 56 #[.val (.ref a), .val (.int (0 : Int32)), .val (.int (1 : Int32)), .val (.ref b1), .val (.int (0 : Int32)), .val (.ref r4)] [(.ref r4)]) (fun _ _ A k => XS.aload A hx rfl (hb hby own_d_jdk_52_method_16_54) rfl rfl k) ?_
  exact gretA hx hret rfl rfl (hb hby own_d_jdk_52_method_16_56) (by decide) (by decide) (fun vq Cq => ⟨r4, kb4, rfl, ((((Keep.refl h0 []).ext E1).trans K2 (allS (Or.inr (by omega)) all0)).trans K4 all0), (by omega), q4_1⟩)
theorem own_d_jdk_52_method_15_0 : decode jdk_52_method_15_code 0 = .ok (.iload_n 1, 1) := by decide +kernel
theorem own_d_jdk_52_method_15_1 : decode jdk_52_method_15_code 1 = .ok (.aload_n 0, 1) := by decide +kernel
theorem own_d_jdk_52_method_15_2 : decode jdk_52_method_15_code 2 = .ok (.arraylength, 1) := by decide +kernel
theorem own_d_jdk_52_method_15_3 : decode jdk_52_method_15_code 3 = .ok (.isub, 1) := by decide +kernel
theorem own_d_jdk_52_method_15_4 : decode jdk_52_method_15_code 4 = .ok (.bipush 31, 2) := by decide +kernel
theorem own_d_jdk_52_method_15_6 : decode jdk_52_method_15_code 6 = .ok (.iushr, 1) := by decide +kernel
theorem own_d_jdk_52_method_15_7 : decode jdk_52_method_15_code 7 = .ok (.i2b, 1) := by decide +kernel
theorem own_d_jdk_52_method_15_8 : decode jdk_52_method_15_code 8 = .ok (.ireturn, 1) := by decide +kernel
set_option maxRecDepth 65536 in
set_option maxHeartbeats 40000000 in
theorem own_cod_1_0 (l : Launch) (Z : State) (a0 : Array Value) (cx : Ctx Z a0) (ws : List Jvm.Cond) (a : Addr) (ka : ClassId) (vs : List Value) (vm0 : Vm) (h0 : Heap) (X00 : Ext Z.heap h0) (P0 : Arv Z h0 a ka .byte (2 : Int32) vs (.int (0 : Int32))) :
    Met l (⟨"java/lang/StringUTF16", "coderFromArrayLen", "([BI)B"⟩ : MethodName) jdk_52_method_15_code 2 (some .byte) ws ({ frames := 0, cells := 0, slots := 0, locals := 0 } : Room) Z ([] : List (String × Nat)) vm0 h0 #[(.ref a), (.int (1 : Int32))] (fun v vm h => v = some (.int (1 : Int32)) ∧ h0 = h) := by
  obtain ⟨hw, hEL, ⟨zc, Scs, hzc⟩, ⟨fm, Sfm, hfm⟩, Sad, Shi, Slo⟩ := id cx
  have hSA := own_SA hw
  refine Met.of_walk (a0 := a0) #[.val (.ref a), .val (.int (1 : Int32))] (plainFor_of_name own_pn14) X00 hEL (fun m => by first | (simp [entryFrame, mkF, argsToLocals, Value.category]; done) | rfl) ?_
  intro p e s m below meth c vm hx hby hml hret hnm hC0
  have lt_a : h0.size > a := P0.lt
  refine gs (mkF m 1 #[.val (.ref a), .val (.int (1 : Int32))] [(.int (1 : Int32))]) (fun _ _ A k => XS.iloadN A hx rfl (hb hby own_d_jdk_52_method_15_0) rfl  k) ?_
  refine gs (mkF m 2 #[.val (.ref a), .val (.int (1 : Int32))] [(.ref a), (.int (1 : Int32))]) (fun _ _ A k => XS.aloadN A hx rfl (hb hby own_d_jdk_52_method_15_1) rfl rfl k) ?_
  refine glen hx P0 3 (hb hby own_d_jdk_52_method_15_2) rfl ?_
  refine gs (mkF m 4 #[.val (.ref a), .val (.int (1 : Int32))] [(.int (-1 : Int32))]) (fun _ _ A k => XS.isub A hx rfl (hb hby own_d_jdk_52_method_15_3) rfl k) ?_
  refine gs (mkF m 6 #[.val (.ref a), .val (.int (1 : Int32))] [(.int (31 : Int32)), (.int (-1 : Int32))]) (fun _ _ A k => XS.bipush A hx rfl (hb hby own_d_jdk_52_method_15_4) k) ?_
  refine gs (mkF m 7 #[.val (.ref a), .val (.int (1 : Int32))] [(.int (1 : Int32))]) (fun _ _ A k => XS.iushr A hx rfl (hb hby own_d_jdk_52_method_15_6) rfl k) ?_
  refine gs (mkF m 8 #[.val (.ref a), .val (.int (1 : Int32))] [(.int (1 : Int32))]) (fun _ _ A k => XS.i2b A hx rfl (hb hby own_d_jdk_52_method_15_7) rfl k) ?_
  exact gretN (t := .byte) hx hret (by simp) (hb hby own_d_jdk_52_method_15_8) (by decide) (by decide) (fun vq Cq => ⟨rfl, rfl⟩)
def Str0 (Z : State) (h : Heap) (a t : Addr) : Prop := Exa Z h a "java/lang/String" ∧ Fld Z h a "java/lang/String" "value" "[B" (.ref t) ∧ ∃ (kb : ClassId) (N : Int32) (vs : List Value), Arv Z h t kb .byte N vs (.int (0 : Int32)) ∧ ¬ N = 0
theorem Str0.ext {Z : State} {h h' : Heap} {a t : Addr} (F : Str0 Z h a t) (E : Ext h h') : Str0 Z h' a t := by obtain ⟨f1, f2, kb, N, vs, f3, f4⟩ := F; exact ⟨f1.ext E, f2.ext E, kb, N, vs, f3.ext E, f4⟩
theorem Str0.keep {Z : State} {h h' : Heap} {a t : Addr} {ws : List Addr} (F : Str0 Z h a t) (K : Keep h h' ws) (q : a ∉ ws) (r : t ∉ ws) : Str0 Z h' a t := by obtain ⟨f1, f2, kb, N, vs, f3, f4⟩ := F; exact ⟨f1.keep K, f2.keep K q, kb, N, vs, f3.keep K r, f4⟩
theorem Str0.wr {Z : State} {h h' : Heap} {a t o : Addr} {sl : Nat} {v : Value} (F : Str0 Z h a t) (W : Wr h h' o sl v) (q : a ≠ o) (r : t ≠ o) : Str0 Z h' a t := by obtain ⟨f1, f2, kb, N, vs, f3, f4⟩ := F; exact ⟨f1.wr W, f2.other W (Or.inl q), kb, N, vs, f3.other W r, f4⟩
theorem Str0.tlt {Z : State} {h : Heap} {a t : Addr} (F : Str0 Z h a t) : t < h.size := by obtain ⟨f1, f2, kb, N, vs, f3, f4⟩ := F; exact f3.lt
theorem own_d_jdk_42_method_149_0 : decode jdk_42_method_149_code 0 = .ok (.aload_n 0, 1) := by decide +kernel
theorem own_d_jdk_42_method_149_1 : decode jdk_42_method_149_code 1 = .ok (.invokespecial 1, 3) := by decide +kernel
theorem own_d_jdk_42_method_149_4 : decode jdk_42_method_149_code 4 = .ok (.iload_n 3, 1) := by decide +kernel
theorem own_d_jdk_42_method_149_5 : decode jdk_42_method_149_code 5 = .ok (.ifCond .ne 22, 3) := by decide +kernel
theorem own_d_jdk_42_method_149_27 : decode jdk_42_method_149_code 27 = .ok (.getstatic 38, 3) := by decide +kernel
theorem own_d_jdk_42_method_149_30 : decode jdk_42_method_149_code 30 = .ok (.ifCond .eq 28, 3) := by decide +kernel
theorem own_d_jdk_42_method_149_33 : decode jdk_42_method_149_code 33 = .ok (.aload_n 1, 1) := by decide +kernel
theorem own_d_jdk_42_method_149_34 : decode jdk_42_method_149_code 34 = .ok (.iload_n 2, 1) := by decide +kernel
theorem own_d_jdk_42_method_149_35 : decode jdk_42_method_149_code 35 = .ok (.iload_n 3, 1) := by decide +kernel
theorem own_d_jdk_42_method_149_36 : decode jdk_42_method_149_code 36 = .ok (.invokestatic 177, 3) := by decide +kernel
theorem own_d_jdk_42_method_149_39 : decode jdk_42_method_149_code 39 = .ok (.astore 5, 2) := by decide +kernel
theorem own_d_jdk_42_method_149_41 : decode jdk_42_method_149_code 41 = .ok (.aload_n 0, 1) := by decide +kernel
theorem own_d_jdk_42_method_149_42 : decode jdk_42_method_149_code 42 = .ok (.aload 5, 2) := by decide +kernel
theorem own_d_jdk_42_method_149_44 : decode jdk_42_method_149_code 44 = .ok (.iload_n 3, 1) := by decide +kernel
theorem own_d_jdk_42_method_149_45 : decode jdk_42_method_149_code 45 = .ok (.invokestatic 47, 3) := by decide +kernel
theorem own_pd158 : parseMethodDescriptor "([BI)B" = some ⟨[(.array .byte), .int], some .byte⟩ := by decide +kernel
theorem own_d_jdk_42_method_149_48 : decode jdk_42_method_149_code 48 = .ok (.putfield 15, 3) := by decide +kernel
theorem own_d_jdk_42_method_149_51 : decode jdk_42_method_149_code 51 = .ok (.aload_n 0, 1) := by decide +kernel
theorem own_d_jdk_42_method_149_52 : decode jdk_42_method_149_code 52 = .ok (.aload 5, 2) := by decide +kernel
theorem own_d_jdk_42_method_149_54 : decode jdk_42_method_149_code 54 = .ok (.putfield 9, 3) := by decide +kernel
theorem own_d_jdk_42_method_149_57 : decode jdk_42_method_149_code 57 = .ok (.return_, 1) := by decide +kernel
theorem own_pn164 : plainName "java/lang/String" = true := by first | (simp [plainName, overriddenIn]; done) | decide +kernel
set_option maxRecDepth 65536 in
set_option maxHeartbeats 40000000 in
theorem own_i4_1_0 (l : Launch) (Z : State) (a0 : Array Value) (cx : Ctx Z a0) (ws : List Jvm.Cond) (x : Addr) (a : Addr) (v0 : Value) (c0v : Value) (kc : ClassId) (c0 : Int32) (vm0 : Vm) (h0 : Heap) (X00 : Ext Z.heap h0) (P0 : Exa Z h0 x "java/lang/String") (P1 : Fld Z h0 x "java/lang/String" "value" "[B" v0) (P2 : Fld Z h0 x "java/lang/String" "coder" "B" c0v) (P3 : Z.heap.size ≤ x) (P4 : Safe Z ([] : List (String × Nat)) vm0 h0 x) (P5 : Arv Z h0 a kc .char (1 : Int32) [(.int c0)] (.int (0 : Int32))) (P6 : (255 : Int32) < c0) (hB : ¬ c0 < 0 ∧ ¬ (65535 : Int32) < c0) :
    Met l (⟨"java/lang/String", "<init>", "([CIILjava/lang/Void;)V"⟩ : MethodName) jdk_42_method_149_code 6 none ws ({ frames := 4, cells := 2, slots := 3, locals := 57 } : Room) Z ([] : List (String × Nat)) vm0 h0 #[(.ref x), (.ref a), (.int (0 : Int32)), (.int (1 : Int32)), .null] (fun v vm h => ∃ (t : Addr), v = none ∧ Keep h0 h [x] ∧ Str0 Z h x t) := by
  obtain ⟨hw, hEL, ⟨zc, Scs, hzc⟩, ⟨fm, Sfm, hfm⟩, Sad, Shi, Slo⟩ := id cx
  have hSA := own_SA hw
  refine Met.of_walk (a0 := a0) #[.val (.ref x), .val (.ref a), .val (.int (0 : Int32)), .val (.int (1 : Int32)), .val .null, .unset] (plainFor_of_name own_pn164) X00 hEL (fun m => by first | (simp [entryFrame, mkF, argsToLocals, Value.category]; done) | rfl) ?_
  intro p e s m below meth c vm hx hby hml hret hnm hC0
  have lt_x : h0.size > x := P0.lt
  have L4 := hC0.safe lt_x P4
  have lt_a : h0.size > a := P5.lt
  refine gs (mkF m 1 #[.val (.ref x), .val (.ref a), .val (.int (0 : Int32)), .val (.int (1 : Int32)), .val .null, .unset] [(.ref x)]) (fun _ _ A k => XS.aloadN A hx rfl (hb hby own_d_jdk_42_method_149_0) rfl rfl k) ?_
  refine ginitO hx (ow hw 12 rfl) (ow hw 13 rfl) (ow hw 14 rfl) 4 (W := 0) (Nat.le_of_eq rfl) (by rw [hml]; rfl) (hb hby own_d_jdk_42_method_149_1) rfl (by decide) (by decide) ?_
  refine gs (mkF m 5 #[.val (.ref x), .val (.ref a), .val (.int (0 : Int32)), .val (.int (1 : Int32)), .val .null, .unset] [(.int (1 : Int32))]) (fun _ _ A k => XS.iloadN A hx rfl (hb hby own_d_jdk_42_method_149_4) rfl  k) ?_
  refine gs (mkF m 27 #[.val (.ref x), .val (.ref a), .val (.int (0 : Int32)), .val (.int (1 : Int32)), .val .null, .unset] []) (fun _ _ A k => XS.ifYes A hx rfl (pc0 := 5) (pc' := 27) rfl (hb hby own_d_jdk_42_method_149_5) rfl ((if0 _ _).trans (feq (by decide)).2) (by decide) (by decide) k) ?_
  refine ggetS (host := "") hx (Or.inl (ow hw 15 rfl)) Via.refl Scs 30 (hb hby own_d_jdk_42_method_149_27) rfl ?_
  refine gs (mkF m 33 #[.val (.ref x), .val (.ref a), .val (.int (0 : Int32)), .val (.int (1 : Int32)), .val .null, .unset] []) (fun _ _ A k => XS.ifNo A hx rfl (hb hby own_d_jdk_42_method_149_30) rfl ((if0 _ _).trans (feq hzc).1) k) ?_
  refine gs (mkF m 34 #[.val (.ref x), .val (.ref a), .val (.int (0 : Int32)), .val (.int (1 : Int32)), .val .null, .unset] [(.ref a)]) (fun _ _ A k => XS.aloadN A hx rfl (hb hby own_d_jdk_42_method_149_33) rfl rfl k) ?_
  refine gs (mkF m 35 #[.val (.ref x), .val (.ref a), .val (.int (0 : Int32)), .val (.int (1 : Int32)), .val .null, .unset] [(.int (0 : Int32)), (.ref a)]) (fun _ _ A k => XS.iloadN A hx rfl (hb hby own_d_jdk_42_method_149_34) rfl  k) ?_
  refine gs (mkF m 36 #[.val (.ref x), .val (.ref a), .val (.int (0 : Int32)), .val (.int (1 : Int32)), .val .null, .unset] [(.int (1 : Int32)), (.int (0 : Int32)), (.ref a)]) (fun _ _ A k => XS.iloadN A hx rfl (hb hby own_d_jdk_42_method_149_35) rfl  k) ?_
  refine ginfo fun _ _ O2 => ?_
  refine gcallS (y := (⟨"java/lang/StringUTF16", "compress", "([CII)[B"⟩ : MethodName)) hx (ow hw 16 rfl) (ow hw 17 rfl) (ow hw 18 rfl) (ow hw 19 rfl) (by decide) (fun hZ H hEL => Pay.of_met (W := 0) (own_c3_1_0 l Z a0 cx [] (a) (kc) (c0) vm h0 O2 P5 (by first | assumption | decide | omega) (by first | assumption | decide | omega)) (ow hw 19 rfl) (ow hw 18 rfl) (by decide) (by decide) hZ H hEL) 39 (argsL := [(.ref a), (.int (0 : Int32)), (.int (1 : Int32))]) (rest := []) (lenOf own_pd125 rfl) rfl rfl (Nat.le_of_eq rfl) (by rw [hml]; rfl) (hb hby own_d_jdk_42_method_149_36) rfl (by decide) (by decide) ?_
  rintro _ vm2 h2 C2 ⟨r2, kb2, rfl, K2, q2_0, q2_1⟩
  have z2 := C2.2.1
  have lt_r2 : h2.size > r2 := q2_1.lt
  refine gat (mkF m 39 #[.val (.ref x), .val (.ref a), .val (.int (0 : Int32)), .val (.int (1 : Int32)), .val .null, .unset] [(.ref r2)]) rfl ?_
  refine gs (mkF m 41 #[.val (.ref x), .val (.ref a), .val (.int (0 : Int32)), .val (.int (1 : Int32)), .val .null, .val (.ref r2)] []) (fun _ _ A k => XS.astore A hx rfl (hb hby own_d_jdk_42_method_149_39) rfl rfl (l' := #[.val (.ref x), .val (.ref a), .val (.int (0 : Int32)), .val (.int (1 : Int32)), .val .null, .val (.ref r2)]) rfl k) ?_
  refine gs (mkF m 42 #[.val (.ref x), .val (.ref a), .val (.int (0 : Int32)), .val (.int (1 : Int32)), .val .null, .val (.ref r2)] [(.ref x)]) (fun _ _ A k => XS.aloadN A hx rfl (hb hby own_d_jdk_42_method_149_41) rfl rfl k) ?_
  refine gs (mkF m 44 #[.val (.ref x), .val (.ref a), .val (.int (0 : Int32)), .val (.int (1 : Int32)), .val .null, .val (.ref r2)] [(.ref r2), (.ref x)]) (fun _ _ A k => XS.aload A hx rfl (hb hby own_d_jdk_42_method_149_42) rfl rfl k) ?_
  refine gs (mkF m 45 #[.val (.ref x), .val (.ref a), .val (.int (0 : Int32)), .val (.int (1 : Int32)), .val .null, .val (.ref r2)] [(.int (1 : Int32)), (.ref r2), (.ref x)]) (fun _ _ A k => XS.iloadN A hx rfl (hb hby own_d_jdk_42_method_149_44) rfl  k) ?_
  refine ginfo fun _ _ O3 => ?_
  refine gcallS (y := (⟨"java/lang/StringUTF16", "coderFromArrayLen", "([BI)B"⟩ : MethodName)) hx (ow hw 24 rfl) (ow hw 25 rfl) (ow hw 18 rfl) (ow hw 26 rfl) (by decide) (fun hZ H hEL => Pay.of_met (W := 1) (own_cod_1_0 l Z a0 cx [] (r2) (kb2) ([(.int ((c0 >>> ((0 : Int32) &&& 31)).toInt8.toInt32)), (.int ((c0 >>> ((8 : Int32) &&& 31)).toInt8.toInt32))]) vm2 h2 O3 q2_1) (ow hw 26 rfl) (ow hw 18 rfl) (by decide) (by decide) hZ H hEL) 48 (argsL := [(.ref r2), (.int (1 : Int32))]) (rest := [(.ref x)]) (lenOf own_pd158 rfl) rfl rfl (Nat.le_of_eq rfl) (by rw [hml]; rfl) (hb hby own_d_jdk_42_method_149_45) rfl (by decide) (by decide) ?_
  rintro _ vm3 h3 C3 ⟨rfl, rfl⟩
  have z3 := C3.2.1
  refine gat (mkF m 48 #[.val (.ref x), .val (.ref a), .val (.int (0 : Int32)), .val (.int (1 : Int32)), .val .null, .val (.ref r2)] [(.int (1 : Int32)), (.ref x)]) rfl ?_
  have f4 := (P2.keep K2 nin0)
  have f5 := (P0.keep K2)
  have f6 := (C3.safe (show h2.size > x by omega) (C2.safe (show h0.size > x by omega) L4))
  refine gputF (host := "") hx (Or.inl (ow hw 27 rfl)) Via.refl f4 f5 (Or.inr ⟨(ow hw 28 rfl), rfl, hnm⟩) (ow hw 3 rfl) (ty := .byte) (by decide) rfl rfl P3 (fun _ => f6) 51 (hb hby own_d_jdk_42_method_149_48) rfl ?_
  intro h7 W7 C7
  have z7 := C7.2.1
  have F7 := f4.same W7
  refine gs (mkF m 52 #[.val (.ref x), .val (.ref a), .val (.int (0 : Int32)), .val (.int (1 : Int32)), .val .null, .val (.ref r2)] [(.ref x)]) (fun _ _ A k => XS.aloadN A hx rfl (hb hby own_d_jdk_42_method_149_51) rfl rfl k) ?_
  refine gs (mkF m 54 #[.val (.ref x), .val (.ref a), .val (.int (0 : Int32)), .val (.int (1 : Int32)), .val .null, .val (.ref r2)] [(.ref r2), (.ref x)]) (fun _ _ A k => XS.aload A hx rfl (hb hby own_d_jdk_42_method_149_52) rfl rfl k) ?_
  have f8 := ((P1.keep K2 nin0).other W7 (Or.inr (slot_ne (Or.inr (ow hw 30 rfl)) (Or.inr (ow hw 28 rfl)) (by decide) (t := (.array .byte)) (t' := .byte) (by decide) (by decide))))
  have f9 := (f5.wr W7)
  have f10 := (C7.safe (show h2.size > x by omega) f6)
  refine gputF (host := "") hx (Or.inl (ow hw 29 rfl)) Via.refl f8 f9 (Or.inr ⟨(ow hw 30 rfl), rfl, hnm⟩) (ow hw 3 rfl) (ty := (.array .byte)) (by decide) rfl rfl P3 (fun _ => f10) 57 (hb hby own_d_jdk_42_method_149_54) rfl ?_
  intro h11 W11 C11
  have z11 := C11.2.1
  have F11 := f8.same W11
  have f12 := (f9.wr W11)
  have f13 := ((q2_1.other W7 (Nat.ne_of_gt (by omega))).other W11 (Nat.ne_of_gt (by omega)))
  exact gretV hx hret (hb hby own_d_jdk_42_method_149_57) (by decide) (by decide) (fun vq Cq => ⟨r2, rfl, ((((Keep.refl h0 [x]).trans K2 all0).wr W7 (Or.inl (List.mem_of_getElem? (i := 0) rfl))).wr W11 (Or.inl (List.mem_of_getElem? (i := 0) rfl))), ⟨f12, F11, _, _, _, f13, by decide⟩⟩)
theorem own_d_jdk_52_method_16_57 : decode jdk_52_method_16_code 57 = .ok (.aload_n 3, 1) := by decide +kernel
theorem own_d_jdk_52_method_16_58 : decode jdk_52_method_16_code 58 = .ok (.areturn, 1) := by decide +kernel
set_option maxRecDepth 65536 in
set_option maxHeartbeats 40000000 in
theorem own_c3_1_1 (l : Launch) (Z : State) (a0 : Array Value) (cx : Ctx Z a0) (ws : List Jvm.Cond) (a : Addr) (kc : ClassId) (c0 : Int32) (vm0 : Vm) (h0 : Heap) (X00 : Ext Z.heap h0) (P0 : Arv Z h0 a kc .char (1 : Int32) [(.int c0)] (.int (0 : Int32))) (P1 : ¬ (255 : Int32) < c0) :
    Met l (⟨"java/lang/StringUTF16", "compress", "([CII)[B"⟩ : MethodName) jdk_52_method_16_code 6 (some (.array .byte)) ws ({ frames := 1, cells := 1, slots := 1, locals := 18 } : Room) Z ([] : List (String × Nat)) vm0 h0 #[(.ref a), (.int (0 : Int32)), (.int (1 : Int32))] (fun v vm h => ∃ (r : Addr), ∃ (kb : ClassId), v = some (.ref r) ∧ Keep h0 h [] ∧ h0.size ≤ r ∧ Arv Z h r kb .byte (1 : Int32) [(.int (c0.toInt8.toInt32))] (.int (0 : Int32))) := by
  obtain ⟨hw, hEL, ⟨zc, Scs, hzc⟩, ⟨fm, Sfm, hfm⟩, Sad, Shi, Slo⟩ := id cx
  have hSA := own_SA hw
  refine Met.of_walk (a0 := a0) #[.val (.ref a), .val (.int (0 : Int32)), .val (.int (1 : Int32)), .unset, .unset, .unset] (plainFor_of_name own_pn14) X00 hEL (fun m => by first | (simp [entryFrame, mkF, argsToLocals, Value.category]; done) | rfl) ?_
  intro p e s m below meth c vm hx hby hml hret hnm hC0
  have lt_a : h0.size > a := P0.lt
  refine gs (mkF m 1 #[.val (.ref a), .val (.int (0 : Int32)), .val (.int (1 : Int32)), .unset, .unset, .unset] [(.int (1 : Int32))]) (fun _ _ A k => XS.iloadN A hx rfl (hb hby own_d_jdk_52_method_16_0) rfl  k) ?_
  refine gnewP hx (ow hw 20 rfl) (n := (1 : Int32)) (by decide) (cap := 1) (by decide) (by decide) 3 (hb hby own_d_jdk_52_method_16_1) rfl (by decide) (by decide) ?_
  intro b1 h1 k1 g1 E1 C1 V1 n1 L1
  have z1 := C1.2.1
  have V1 : Arv Z h1 b1 k1 .byte (1 : Int32) [(.int (0 : Int32))] (.int (0 : Int32)) := V1.pad (pad_rep [] (.int (0 : Int32)) 1)
  have lt_b1 : h1.size > b1 := V1.lt
  refine gs (mkF m 4 #[.val (.ref a), .val (.int (0 : Int32)), .val (.int (1 : Int32)), .val (.ref b1), .unset, .unset] []) (fun _ _ A k => XS.astoreN A hx rfl (hb hby own_d_jdk_52_method_16_3) rfl rfl (l' := #[.val (.ref a), .val (.int (0 : Int32)), .val (.int (1 : Int32)), .val (.ref b1), .unset, .unset]) rfl k) ?_
  refine gs (mkF m 5 #[.val (.ref a), .val (.int (0 : Int32)), .val (.int (1 : Int32)), .val (.ref b1), .unset, .unset] [(.ref a)]) (fun _ _ A k => XS.aloadN A hx rfl (hb hby own_d_jdk_52_method_16_4) rfl rfl k) ?_
  refine gs (mkF m 6 #[.val (.ref a), .val (.int (0 : Int32)), .val (.int (1 : Int32)), .val (.ref b1), .unset, .unset] [(.int (0 : Int32)), (.ref a)]) (fun _ _ A k => XS.iloadN A hx rfl (hb hby own_d_jdk_52_method_16_5) rfl  k) ?_
  refine gs (mkF m 7 #[.val (.ref a), .val (.int (0 : Int32)), .val (.int (1 : Int32)), .val (.ref b1), .unset, .unset] [(.ref b1), (.int (0 : Int32)), (.ref a)]) (fun _ _ A k => XS.aloadN A hx rfl (hb hby own_d_jdk_52_method_16_6) rfl rfl k) ?_
  refine gs (mkF m 8 #[.val (.ref a), .val (.int (0 : Int32)), .val (.int (1 : Int32)), .val (.ref b1), .unset, .unset] [(.int (0 : Int32)), (.ref b1), (.int (0 : Int32)), (.ref a)]) (fun _ _ A k => XS.iconst A hx rfl (hb hby own_d_jdk_52_method_16_7) k) ?_
  refine gs (mkF m 9 #[.val (.ref a), .val (.int (0 : Int32)), .val (.int (1 : Int32)), .val (.ref b1), .unset, .unset] [(.int (1 : Int32)), (.int (0 : Int32)), (.ref b1), (.int (0 : Int32)), (.ref a)]) (fun _ _ A k => XS.iloadN A hx rfl (hb hby own_d_jdk_52_method_16_8) rfl  k) ?_
  have f3 := (P0.ext E1)
  refine ginfo fun _ _ O2 => ?_
  refine gcallS (y := (⟨"java/lang/StringUTF16", "compress", "([CI[BII)I"⟩ : MethodName)) hx (ow hw 21 rfl) (ow hw 22 rfl) (ow hw 18 rfl) (ow hw 23 rfl) (by decide) (fun hZ H hEL => Pay.of_met (W := 0) (own_c5_1_1 l Z a0 cx [] (a) (b1) (kc) (k1) (c0) vm h1 O2 f3 V1 n1 L1 (Nat.ne_of_lt (by omega)) (by first | assumption | decide | omega)) (ow hw 23 rfl) (ow hw 18 rfl) (by decide) (by decide) hZ H hEL) 12 (argsL := [(.ref a), (.int (0 : Int32)), (.ref b1), (.int (0 : Int32)), (.int (1 : Int32))]) (rest := []) (lenOf own_pd116 rfl) rfl rfl (Nat.le_of_eq rfl) (by rw [hml]; rfl) (hb hby own_d_jdk_52_method_16_9) rfl (by decide) (by decide) ?_
  rintro _ vm2 h2 C2 ⟨rfl, K2, q2_0⟩
  have z2 := C2.2.1
  refine gat (mkF m 12 #[.val (.ref a), .val (.int (0 : Int32)), .val (.int (1 : Int32)), .val (.ref b1), .unset, .unset] [(.int (1 : Int32))]) rfl ?_
  refine gs (mkF m 14 #[.val (.ref a), .val (.int (0 : Int32)), .val (.int (1 : Int32)), .val (.ref b1), .val (.int (1 : Int32)), .unset] []) (fun _ _ A k => XS.istore A hx rfl (hb hby own_d_jdk_52_method_16_12) rfl (l' := #[.val (.ref a), .val (.int (0 : Int32)), .val (.int (1 : Int32)), .val (.ref b1), .val (.int (1 : Int32)), .unset]) rfl k) ?_
  refine gs (mkF m 16 #[.val (.ref a), .val (.int (0 : Int32)), .val (.int (1 : Int32)), .val (.ref b1), .val (.int (1 : Int32)), .unset] [(.int (1 : Int32))]) (fun _ _ A k => XS.iload A hx rfl (hb hby own_d_jdk_52_method_16_14) rfl  k) ?_
  refine gs (mkF m 17 #[.val (.ref a), .val (.int (0 : Int32)), .val (.int (1 : Int32)), .val (.ref b1), .val (.int (1 : Int32)), .unset] [(.int (1 : Int32)), (.int (1 : Int32))]) (fun _ _ A k => XS.iloadN A hx rfl (hb hby own_d_jdk_52_method_16_16) rfl  k) ?_
  refine gs (mkF m 57 #[.val (.ref a), .val (.int (0 : Int32)), .val (.int (1 : Int32)), .val (.ref b1), .val (.int (1 : Int32)), .unset] []) (fun _ _ A k => XS.icmpYes A hx rfl (pc0 := 17) (pc' := 57) rfl (hb hby own_d_jdk_52_method_16_17) rfl (teq (by decide)).1 (by decide) (by decide) k) ?_
  refine gs (mkF m 58 #[.val (.ref a), .val (.int (0 : Int32)), .val (.int (1 : Int32)), .val (.ref b1), .val (.int (1 : Int32)), .unset] [(.ref b1)]) (fun _ _ A k => XS.aloadN A hx rfl (hb hby own_d_jdk_52_method_16_57) rfl rfl k) ?_
  exact gretA hx hret rfl rfl (hb hby own_d_jdk_52_method_16_58) (by decide) (by decide) (fun vq Cq => ⟨b1, k1, rfl, (((Keep.refl h0 []).ext E1).trans K2 (allS (Or.inr (by omega)) all0)), (by omega), q2_0⟩)
set_option maxRecDepth 65536 in
set_option maxHeartbeats 40000000 in
theorem own_cod_1_1 (l : Launch) (Z : State) (a0 : Array Value) (cx : Ctx Z a0) (ws : List Jvm.Cond) (a : Addr) (ka : ClassId) (vs : List Value) (vm0 : Vm) (h0 : Heap) (X00 : Ext Z.heap h0) (P0 : Arv Z h0 a ka .byte (1 : Int32) vs (.int (0 : Int32))) :
    Met l (⟨"java/lang/StringUTF16", "coderFromArrayLen", "([BI)B"⟩ : MethodName) jdk_52_method_15_code 2 (some .byte) ws ({ frames := 0, cells := 0, slots := 0, locals := 0 } : Room) Z ([] : List (String × Nat)) vm0 h0 #[(.ref a), (.int (1 : Int32))] (fun v vm h => v = some (.int (0 : Int32)) ∧ h0 = h) := by
  obtain ⟨hw, hEL, ⟨zc, Scs, hzc⟩, ⟨fm, Sfm, hfm⟩, Sad, Shi, Slo⟩ := id cx
  have hSA := own_SA hw
  refine Met.of_walk (a0 := a0) #[.val (.ref a), .val (.int (1 : Int32))] (plainFor_of_name own_pn14) X00 hEL (fun m => by first | (simp [entryFrame, mkF, argsToLocals, Value.category]; done) | rfl) ?_
  intro p e s m below meth c vm hx hby hml hret hnm hC0
  have lt_a : h0.size > a := P0.lt
  refine gs (mkF m 1 #[.val (.ref a), .val (.int (1 : Int32))] [(.int (1 : Int32))]) (fun _ _ A k => XS.iloadN A hx rfl (hb hby own_d_jdk_52_method_15_0) rfl  k) ?_
  refine gs (mkF m 2 #[.val (.ref a), .val (.int (1 : Int32))] [(.ref a), (.int (1 : Int32))]) (fun _ _ A k => XS.aloadN A hx rfl (hb hby own_d_jdk_52_method_15_1) rfl rfl k) ?_
  refine glen hx P0 3 (hb hby own_d_jdk_52_method_15_2) rfl ?_
  refine gs (mkF m 4 #[.val (.ref a), .val (.int (1 : Int32))] [(.int (0 : Int32))]) (fun _ _ A k => XS.isub A hx rfl (hb hby own_d_jdk_52_method_15_3) rfl k) ?_
  refine gs (mkF m 6 #[.val (.ref a), .val (.int (1 : Int32))] [(.int (31 : Int32)), (.int (0 : Int32))]) (fun _ _ A k => XS.bipush A hx rfl (hb hby own_d_jdk_52_method_15_4) k) ?_
  refine gs (mkF m 7 #[.val (.ref a), .val (.int (1 : Int32))] [(.int (0 : Int32))]) (fun _ _ A k => XS.iushr A hx rfl (hb hby own_d_jdk_52_method_15_6) rfl k) ?_
  refine gs (mkF m 8 #[.val (.ref a), .val (.int (1 : Int32))] [(.int (0 : Int32))]) (fun _ _ A k => XS.i2b A hx rfl (hb hby own_d_jdk_52_method_15_7) rfl k) ?_
  exact gretN (t := .byte) hx hret (by simp) (hb hby own_d_jdk_52_method_15_8) (by decide) (by decide) (fun vq Cq => ⟨rfl, rfl⟩)
set_option maxRecDepth 65536 in
set_option maxHeartbeats 40000000 in
theorem own_i4_1_1 (l : Launch) (Z : State) (a0 : Array Value) (cx : Ctx Z a0) (ws : List Jvm.Cond) (x : Addr) (a : Addr) (v0 : Value) (c0v : Value) (kc : ClassId) (c0 : Int32) (vm0 : Vm) (h0 : Heap) (X00 : Ext Z.heap h0) (P0 : Exa Z h0 x "java/lang/String") (P1 : Fld Z h0 x "java/lang/String" "value" "[B" v0) (P2 : Fld Z h0 x "java/lang/String" "coder" "B" c0v) (P3 : Z.heap.size ≤ x) (P4 : Safe Z ([] : List (String × Nat)) vm0 h0 x) (P5 : Arv Z h0 a kc .char (1 : Int32) [(.int c0)] (.int (0 : Int32))) (P6 : ¬ (255 : Int32) < c0) :
    Met l (⟨"java/lang/String", "<init>", "([CIILjava/lang/Void;)V"⟩ : MethodName) jdk_42_method_149_code 6 none ws ({ frames := 2, cells := 1, slots := 1, locals := 35 } : Room) Z ([] : List (String × Nat)) vm0 h0 #[(.ref x), (.ref a), (.int (0 : Int32)), (.int (1 : Int32)), .null] (fun v vm h => ∃ (t : Addr), v = none ∧ Keep h0 h [x] ∧ Str0 Z h x t) := by
  obtain ⟨hw, hEL, ⟨zc, Scs, hzc⟩, ⟨fm, Sfm, hfm⟩, Sad, Shi, Slo⟩ := id cx
  have hSA := own_SA hw
  refine Met.of_walk (a0 := a0) #[.val (.ref x), .val (.ref a), .val (.int (0 : Int32)), .val (.int (1 : Int32)), .val .null, .unset] (plainFor_of_name own_pn164) X00 hEL (fun m => by first | (simp [entryFrame, mkF, argsToLocals, Value.category]; done) | rfl) ?_
  intro p e s m below meth c vm hx hby hml hret hnm hC0
  have lt_x : h0.size > x := P0.lt
  have L4 := hC0.safe lt_x P4
  have lt_a : h0.size > a := P5.lt
  refine gs (mkF m 1 #[.val (.ref x), .val (.ref a), .val (.int (0 : Int32)), .val (.int (1 : Int32)), .val .null, .unset] [(.ref x)]) (fun _ _ A k => XS.aloadN A hx rfl (hb hby own_d_jdk_42_method_149_0) rfl rfl k) ?_
  refine ginitO hx (ow hw 12 rfl) (ow hw 13 rfl) (ow hw 14 rfl) 4 (W := 0) (Nat.le_of_eq rfl) (by rw [hml]; rfl) (hb hby own_d_jdk_42_method_149_1) rfl (by decide) (by decide) ?_
  refine gs (mkF m 5 #[.val (.ref x), .val (.ref a), .val (.int (0 : Int32)), .val (.int (1 : Int32)), .val .null, .unset] [(.int (1 : Int32))]) (fun _ _ A k => XS.iloadN A hx rfl (hb hby own_d_jdk_42_method_149_4) rfl  k) ?_
  refine gs (mkF m 27 #[.val (.ref x), .val (.ref a), .val (.int (0 : Int32)), .val (.int (1 : Int32)), .val .null, .unset] []) (fun _ _ A k => XS.ifYes A hx rfl (pc0 := 5) (pc' := 27) rfl (hb hby own_d_jdk_42_method_149_5) rfl ((if0 _ _).trans (feq (by decide)).2) (by decide) (by decide) k) ?_
  refine ggetS (host := "") hx (Or.inl (ow hw 15 rfl)) Via.refl Scs 30 (hb hby own_d_jdk_42_method_149_27) rfl ?_
  refine gs (mkF m 33 #[.val (.ref x), .val (.ref a), .val (.int (0 : Int32)), .val (.int (1 : Int32)), .val .null, .unset] []) (fun _ _ A k => XS.ifNo A hx rfl (hb hby own_d_jdk_42_method_149_30) rfl ((if0 _ _).trans (feq hzc).1) k) ?_
  refine gs (mkF m 34 #[.val (.ref x), .val (.ref a), .val (.int (0 : Int32)), .val (.int (1 : Int32)), .val .null, .unset] [(.ref a)]) (fun _ _ A k => XS.aloadN A hx rfl (hb hby own_d_jdk_42_method_149_33) rfl rfl k) ?_
  refine gs (mkF m 35 #[.val (.ref x), .val (.ref a), .val (.int (0 : Int32)), .val (.int (1 : Int32)), .val .null, .unset] [(.int (0 : Int32)), (.ref a)]) (fun _ _ A k => XS.iloadN A hx rfl (hb hby own_d_jdk_42_method_149_34) rfl  k) ?_
  refine gs (mkF m 36 #[.val (.ref x), .val (.ref a), .val (.int (0 : Int32)), .val (.int (1 : Int32)), .val .null, .unset] [(.int (1 : Int32)), (.int (0 : Int32)), (.ref a)]) (fun _ _ A k => XS.iloadN A hx rfl (hb hby own_d_jdk_42_method_149_35) rfl  k) ?_
  refine ginfo fun _ _ O2 => ?_
  refine gcallS (y := (⟨"java/lang/StringUTF16", "compress", "([CII)[B"⟩ : MethodName)) hx (ow hw 16 rfl) (ow hw 17 rfl) (ow hw 18 rfl) (ow hw 19 rfl) (by decide) (fun hZ H hEL => Pay.of_met (W := 0) (own_c3_1_1 l Z a0 cx [] (a) (kc) (c0) vm h0 O2 P5 (by first | assumption | decide | omega)) (ow hw 19 rfl) (ow hw 18 rfl) (by decide) (by decide) hZ H hEL) 39 (argsL := [(.ref a), (.int (0 : Int32)), (.int (1 : Int32))]) (rest := []) (lenOf own_pd125 rfl) rfl rfl (Nat.le_of_eq rfl) (by rw [hml]; rfl) (hb hby own_d_jdk_42_method_149_36) rfl (by decide) (by decide) ?_
  rintro _ vm2 h2 C2 ⟨r2, kb2, rfl, K2, q2_0, q2_1⟩
  have z2 := C2.2.1
  have lt_r2 : h2.size > r2 := q2_1.lt
  refine gat (mkF m 39 #[.val (.ref x), .val (.ref a), .val (.int (0 : Int32)), .val (.int (1 : Int32)), .val .null, .unset] [(.ref r2)]) rfl ?_
  refine gs (mkF m 41 #[.val (.ref x), .val (.ref a), .val (.int (0 : Int32)), .val (.int (1 : Int32)), .val .null, .val (.ref r2)] []) (fun _ _ A k => XS.astore A hx rfl (hb hby own_d_jdk_42_method_149_39) rfl rfl (l' := #[.val (.ref x), .val (.ref a), .val (.int (0 : Int32)), .val (.int (1 : Int32)), .val .null, .val (.ref r2)]) rfl k) ?_
  refine gs (mkF m 42 #[.val (.ref x), .val (.ref a), .val (.int (0 : Int32)), .val (.int (1 : Int32)), .val .null, .val (.ref r2)] [(.ref x)]) (fun _ _ A k => XS.aloadN A hx rfl (hb hby own_d_jdk_42_method_149_41) rfl rfl k) ?_
  refine gs (mkF m 44 #[.val (.ref x), .val (.ref a), .val (.int (0 : Int32)), .val (.int (1 : Int32)), .val .null, .val (.ref r2)] [(.ref r2), (.ref x)]) (fun _ _ A k => XS.aload A hx rfl (hb hby own_d_jdk_42_method_149_42) rfl rfl k) ?_
  refine gs (mkF m 45 #[.val (.ref x), .val (.ref a), .val (.int (0 : Int32)), .val (.int (1 : Int32)), .val .null, .val (.ref r2)] [(.int (1 : Int32)), (.ref r2), (.ref x)]) (fun _ _ A k => XS.iloadN A hx rfl (hb hby own_d_jdk_42_method_149_44) rfl  k) ?_
  refine ginfo fun _ _ O3 => ?_
  refine gcallS (y := (⟨"java/lang/StringUTF16", "coderFromArrayLen", "([BI)B"⟩ : MethodName)) hx (ow hw 24 rfl) (ow hw 25 rfl) (ow hw 18 rfl) (ow hw 26 rfl) (by decide) (fun hZ H hEL => Pay.of_met (W := 1) (own_cod_1_1 l Z a0 cx [] (r2) (kb2) ([(.int (c0.toInt8.toInt32))]) vm2 h2 O3 q2_1) (ow hw 26 rfl) (ow hw 18 rfl) (by decide) (by decide) hZ H hEL) 48 (argsL := [(.ref r2), (.int (1 : Int32))]) (rest := [(.ref x)]) (lenOf own_pd158 rfl) rfl rfl (Nat.le_of_eq rfl) (by rw [hml]; rfl) (hb hby own_d_jdk_42_method_149_45) rfl (by decide) (by decide) ?_
  rintro _ vm3 h3 C3 ⟨rfl, rfl⟩
  have z3 := C3.2.1
  refine gat (mkF m 48 #[.val (.ref x), .val (.ref a), .val (.int (0 : Int32)), .val (.int (1 : Int32)), .val .null, .val (.ref r2)] [(.int (0 : Int32)), (.ref x)]) rfl ?_
  have f4 := (P2.keep K2 nin0)
  have f5 := (P0.keep K2)
  have f6 := (C3.safe (show h2.size > x by omega) (C2.safe (show h0.size > x by omega) L4))
  refine gputF (host := "") hx (Or.inl (ow hw 27 rfl)) Via.refl f4 f5 (Or.inr ⟨(ow hw 28 rfl), rfl, hnm⟩) (ow hw 3 rfl) (ty := .byte) (by decide) rfl rfl P3 (fun _ => f6) 51 (hb hby own_d_jdk_42_method_149_48) rfl ?_
  intro h7 W7 C7
  have z7 := C7.2.1
  have F7 := f4.same W7
  refine gs (mkF m 52 #[.val (.ref x), .val (.ref a), .val (.int (0 : Int32)), .val (.int (1 : Int32)), .val .null, .val (.ref r2)] [(.ref x)]) (fun _ _ A k => XS.aloadN A hx rfl (hb hby own_d_jdk_42_method_149_51) rfl rfl k) ?_
  refine gs (mkF m 54 #[.val (.ref x), .val (.ref a), .val (.int (0 : Int32)), .val (.int (1 : Int32)), .val .null, .val (.ref r2)] [(.ref r2), (.ref x)]) (fun _ _ A k => XS.aload A hx rfl (hb hby own_d_jdk_42_method_149_52) rfl rfl k) ?_
  have f8 := ((P1.keep K2 nin0).other W7 (Or.inr (slot_ne (Or.inr (ow hw 30 rfl)) (Or.inr (ow hw 28 rfl)) (by decide) (t := (.array .byte)) (t' := .byte) (by decide) (by decide))))
  have f9 := (f5.wr W7)
  have f10 := (C7.safe (show h2.size > x by omega) f6)
  refine gputF (host := "") hx (Or.inl (ow hw 29 rfl)) Via.refl f8 f9 (Or.inr ⟨(ow hw 30 rfl), rfl, hnm⟩) (ow hw 3 rfl) (ty := (.array .byte)) (by decide) rfl rfl P3 (fun _ => f10) 57 (hb hby own_d_jdk_42_method_149_54) rfl ?_
  intro h11 W11 C11
  have z11 := C11.2.1
  have F11 := f8.same W11
  have f12 := (f9.wr W11)
  have f13 := ((q2_1.other W7 (Nat.ne_of_gt (by omega))).other W11 (Nat.ne_of_gt (by omega)))
  exact gretV hx hret (hb hby own_d_jdk_42_method_149_57) (by decide) (by decide) (fun vq Cq => ⟨r2, rfl, ((((Keep.refl h0 [x]).trans K2 all0).wr W7 (Or.inl (List.mem_of_getElem? (i := 0) rfl))).wr W11 (Or.inl (List.mem_of_getElem? (i := 0) rfl))), ⟨f12, F11, _, _, _, f13, by decide⟩⟩)
theorem own_d_jdk_42_method_3_0 : decode jdk_42_method_3_code 0 = .ok (.aload_n 0, 1) := by decide +kernel
theorem own_d_jdk_42_method_3_1 : decode jdk_42_method_3_code 1 = .ok (.aload_n 1, 1) := by decide +kernel
theorem own_d_jdk_42_method_3_2 : decode jdk_42_method_3_code 2 = .ok (.iconst 0, 1) := by decide +kernel
theorem own_d_jdk_42_method_3_3 : decode jdk_42_method_3_code 3 = .ok (.aload_n 1, 1) := by decide +kernel
theorem own_d_jdk_42_method_3_4 : decode jdk_42_method_3_code 4 = .ok (.arraylength, 1) := by decide +kernel
theorem own_d_jdk_42_method_3_5 : decode jdk_42_method_3_code 5 = .ok (.aconst_null, 1) := by decide +kernel
theorem own_d_jdk_42_method_3_6 : decode jdk_42_method_3_code 6 = .ok (.invokespecial 27, 3) := by decide +kernel
theorem own_pd174 : parseMethodDescriptor "([CIILjava/lang/Void;)V" = some ⟨[(.array .char), .int, .int, (.object "java/lang/Void")], none⟩ := by decide +kernel
theorem own_d_jdk_42_method_3_9 : decode jdk_42_method_3_code 9 = .ok (.return_, 1) := by decide +kernel
set_option maxRecDepth 65536 in
set_option maxHeartbeats 40000000 in
theorem own_i1_1 (l : Launch) (Z : State) (a0 : Array Value) (cx : Ctx Z a0) (ws : List Jvm.Cond) (x : Addr) (a : Addr) (v0 : Value) (c0v : Value) (kc : ClassId) (c0 : Int32) (vm0 : Vm) (h0 : Heap) (X00 : Ext Z.heap h0) (P0 : Exa Z h0 x "java/lang/String") (P1 : Fld Z h0 x "java/lang/String" "value" "[B" v0) (P2 : Fld Z h0 x "java/lang/String" "coder" "B" c0v) (P3 : Z.heap.size ≤ x) (P4 : Safe Z ([] : List (String × Nat)) vm0 h0 x) (P5 : Arv Z h0 a kc .char (1 : Int32) [(.int c0)] (.int (0 : Int32))) (P6 : ¬ c0 < 0 ∧ ¬ (65535 : Int32) < c0) :
    Met l (⟨"java/lang/String", "<init>", "([C)V"⟩ : MethodName) jdk_42_method_3_code 2 none ws ({ frames := 5, cells := 2, slots := 3, locals := 74 } : Room) Z ([] : List (String × Nat)) vm0 h0 #[(.ref x), (.ref a)] (fun v vm h => ∃ (t : Addr), v = none ∧ Keep h0 h [x] ∧ Str0 Z h x t) := by
  obtain ⟨hw, hEL, ⟨zc, Scs, hzc⟩, ⟨fm, Sfm, hfm⟩, Sad, Shi, Slo⟩ := id cx
  have hSA := own_SA hw
  refine Met.of_walk (a0 := a0) #[.val (.ref x), .val (.ref a)] (plainFor_of_name own_pn164) X00 hEL (fun m => by first | (simp [entryFrame, mkF, argsToLocals, Value.category]; done) | rfl) ?_
  intro p e s m below meth c vm hx hby hml hret hnm hC0
  have lt_x : h0.size > x := P0.lt
  have L4 := hC0.safe lt_x P4
  have lt_a : h0.size > a := P5.lt
  refine gs (mkF m 1 #[.val (.ref x), .val (.ref a)] [(.ref x)]) (fun _ _ A k => XS.aloadN A hx rfl (hb hby own_d_jdk_42_method_3_0) rfl rfl k) ?_
  refine gs (mkF m 2 #[.val (.ref x), .val (.ref a)] [(.ref a), (.ref x)]) (fun _ _ A k => XS.aloadN A hx rfl (hb hby own_d_jdk_42_method_3_1) rfl rfl k) ?_
  refine gs (mkF m 3 #[.val (.ref x), .val (.ref a)] [(.int (0 : Int32)), (.ref a), (.ref x)]) (fun _ _ A k => XS.iconst A hx rfl (hb hby own_d_jdk_42_method_3_2) k) ?_
  refine gs (mkF m 4 #[.val (.ref x), .val (.ref a)] [(.ref a), (.int (0 : Int32)), (.ref a), (.ref x)]) (fun _ _ A k => XS.aloadN A hx rfl (hb hby own_d_jdk_42_method_3_3) rfl rfl k) ?_
  refine glen hx P5 5 (hb hby own_d_jdk_42_method_3_4) rfl ?_
  refine gs (mkF m 6 #[.val (.ref x), .val (.ref a)] [.null, (.int (1 : Int32)), (.int (0 : Int32)), (.ref a), (.ref x)]) (fun _ _ A k => XS.aconstNull A hx rfl (hb hby own_d_jdk_42_method_3_5) k) ?_
  by_cases g0 : (255 : Int32) < c0
  · refine ginfo fun _ _ O1 => ?_
    refine gcallI (y := (⟨"java/lang/String", "<init>", "([CIILjava/lang/Void;)V"⟩ : MethodName)) hx rfl (ow hw 8 rfl) (ow hw 9 rfl) (ow hw 11 rfl) (by decide) (fun hZ H hEL => Pay.of_met (W := 0) (own_i4_1_0 l Z a0 cx [] (x) (a) (v0) (c0v) (kc) (c0) vm h0 O1 P0 P1 P2 P3 L4 P5 (by first | assumption | decide | omega) (by first | assumption | decide | omega)) (ow hw 11 rfl) (ow hw 4 rfl) (by decide) (by decide) hZ H hEL) (a := x) 9 (argsL := [(.ref a), (.int (0 : Int32)), (.int (1 : Int32)), .null]) (rest := []) (lenOf own_pd174 rfl) rfl rfl (Nat.le_of_eq rfl) (by rw [hml]; rfl) (hb hby own_d_jdk_42_method_3_6) rfl (by decide) (by decide) ?_
    rintro _ vm1 h1 C1 ⟨t1, rfl, K1, q1_0⟩
    have z1 := C1.2.1
    refine gat (mkF m 9 #[.val (.ref x), .val (.ref a)] []) rfl ?_
    exact gretV hx hret (hb hby own_d_jdk_42_method_3_9) (by decide) (by decide) (fun vq Cq => ⟨t1, rfl, ((Keep.refl h0 [x]).trans K1 (allS (Or.inl (List.mem_of_getElem? (i := 0) rfl)) all0)), q1_0⟩)
  · refine ginfo fun _ _ O3 => ?_
    refine gcallI (y := (⟨"java/lang/String", "<init>", "([CIILjava/lang/Void;)V"⟩ : MethodName)) hx rfl (ow hw 8 rfl) (ow hw 9 rfl) (ow hw 11 rfl) (by decide) (fun hZ H hEL => Pay.of_met (W := 0) (own_i4_1_1 l Z a0 cx [] (x) (a) (v0) (c0v) (kc) (c0) vm h0 O3 P0 P1 P2 P3 L4 P5 (by first | assumption | decide | omega)) (ow hw 11 rfl) (ow hw 4 rfl) (by decide) (by decide) hZ H hEL) (a := x) 9 (argsL := [(.ref a), (.int (0 : Int32)), (.int (1 : Int32)), .null]) (rest := []) (lenOf own_pd174 rfl) rfl rfl (Nat.le_of_eq rfl) (by rw [hml]; rfl) (hb hby own_d_jdk_42_method_3_6) rfl (by decide) (by decide) ?_
    rintro _ vm3 h3 C3 ⟨t3, rfl, K3, q3_0⟩
    have z3 := C3.2.1
    refine gat (mkF m 9 #[.val (.ref x), .val (.ref a)] []) rfl ?_
    exact gretV hx hret (hb hby own_d_jdk_42_method_3_9) (by decide) (by decide) (fun vq Cq => ⟨t3, rfl, ((Keep.refl h0 [x]).trans K3 (allS (Or.inl (List.mem_of_getElem? (i := 0) rfl)) all0)), q3_0⟩)
set_option maxRecDepth 65536 in
set_option maxHeartbeats 40000000 in
theorem own_c5_2_0 (l : Launch) (Z : State) (a0 : Array Value) (cx : Ctx Z a0) (ws : List Jvm.Cond) (a : Addr) (d : Addr) (kc : ClassId) (kd : ClassId) (c0 : Int32) (c1 : Int32) (vm0 : Vm) (h0 : Heap) (X00 : Ext Z.heap h0) (P0 : Arv Z h0 a kc .char (2 : Int32) [(.int c0), (.int c1)] (.int (0 : Int32))) (P1 : Arv Z h0 d kd .byte (2 : Int32) [(.int (0 : Int32)), (.int (0 : Int32))] (.int (0 : Int32))) (P2 : Z.heap.size ≤ d) (P3 : Safe Z ([] : List (String × Nat)) vm0 h0 d) (hne : a ≠ d) (P5 : (255 : Int32) < c0) :
    Met l (⟨"java/lang/StringUTF16", "compress", "([CI[BII)I"⟩ : MethodName) jdk_52_method_21_code 7 (some .int) ws ({ frames := 0, cells := 0, slots := 0, locals := 0 } : Room) Z ([] : List (String × Nat)) vm0 h0 #[(.ref a), (.int (0 : Int32)), (.ref d), (.int (0 : Int32)), (.int (2 : Int32))] (fun v vm h => v = some (.int (0 : Int32)) ∧ Keep h0 h [d] ∧ Arv Z h d kd .byte (2 : Int32) [(.int (0 : Int32)), (.int (0 : Int32))] (.int (0 : Int32))) := by
  obtain ⟨hw, hEL, ⟨zc, Scs, hzc⟩, ⟨fm, Sfm, hfm⟩, Sad, Shi, Slo⟩ := id cx
  have hSA := own_SA hw
  refine Met.of_walk (a0 := a0) #[.val (.ref a), .val (.int (0 : Int32)), .val (.ref d), .val (.int (0 : Int32)), .val (.int (2 : Int32)), .unset, .unset] (plainFor_of_name own_pn14) X00 hEL (fun m => by first | (simp [entryFrame, mkF, argsToLocals, Value.category]; done) | rfl) ?_
  intro p e s m below meth c vm hx hby hml hret hnm hC0
  have lt_a : h0.size > a := P0.lt
  have lt_d : h0.size > d := P1.lt
  have L3 := hC0.safe lt_d P3
  refine gs (mkF m 1 #[.val (.ref a), .val (.int (0 : Int32)), .val (.ref d), .val (.int (0 : Int32)), .val (.int (2 : Int32)), .unset, .unset] [(.int (0 : Int32))]) (fun _ _ A k => XS.iconst A hx rfl (hb hby own_d_jdk_52_method_21_0) k) ?_
  refine gs (mkF m 3 #[.val (.ref a), .val (.int (0 : Int32)), .val (.ref d), .val (.int (0 : Int32)), .val (.int (2 : Int32)), .val (.int (0 : Int32)), .unset] []) (fun _ _ A k => XS.istore A hx rfl (hb hby own_d_jdk_52_method_21_1) rfl (l' := #[.val (.ref a), .val (.int (0 : Int32)), .val (.ref d), .val (.int (0 : Int32)), .val (.int (2 : Int32)), .val (.int (0 : Int32)), .unset]) rfl k) ?_
  refine gs (mkF m 5 #[.val (.ref a), .val (.int (0 : Int32)), .val (.ref d), .val (.int (0 : Int32)), .val (.int (2 : Int32)), .val (.int (0 : Int32)), .unset] [(.int (0 : Int32))]) (fun _ _ A k => XS.iload A hx rfl (hb hby own_d_jdk_52_method_21_3) rfl  k) ?_
  refine gs (mkF m 7 #[.val (.ref a), .val (.int (0 : Int32)), .val (.ref d), .val (.int (0 : Int32)), .val (.int (2 : Int32)), .val (.int (0 : Int32)), .unset] [(.int (2 : Int32)), (.int (0 : Int32))]) (fun _ _ A k => XS.iload A hx rfl (hb hby own_d_jdk_52_method_21_5) rfl  k) ?_
  refine gs (mkF m 10 #[.val (.ref a), .val (.int (0 : Int32)), .val (.ref d), .val (.int (0 : Int32)), .val (.int (2 : Int32)), .val (.int (0 : Int32)), .unset] []) (fun _ _ A k => XS.icmpNo A hx rfl (hb hby own_d_jdk_52_method_21_7) rfl (tlt (by decide)).2.1 k) ?_
  refine gs (mkF m 11 #[.val (.ref a), .val (.int (0 : Int32)), .val (.ref d), .val (.int (0 : Int32)), .val (.int (2 : Int32)), .val (.int (0 : Int32)), .unset] [(.ref a)]) (fun _ _ A k => XS.aloadN A hx rfl (hb hby own_d_jdk_52_method_21_10) rfl rfl k) ?_
  refine gs (mkF m 12 #[.val (.ref a), .val (.int (0 : Int32)), .val (.ref d), .val (.int (0 : Int32)), .val (.int (2 : Int32)), .val (.int (0 : Int32)), .unset] [(.int (0 : Int32)), (.ref a)]) (fun _ _ A k => XS.iloadN A hx rfl (hb hby own_d_jdk_52_method_21_11) rfl  k) ?_
  refine gldC hx P0 ⟨by decide, by decide⟩ (i := 0) rfl (v := (.int c0)) rfl 13 (hb hby own_d_jdk_52_method_21_12) rfl ?_
  refine gs (mkF m 15 #[.val (.ref a), .val (.int (0 : Int32)), .val (.ref d), .val (.int (0 : Int32)), .val (.int (2 : Int32)), .val (.int (0 : Int32)), .val (.int c0)] []) (fun _ _ A k => XS.istore A hx rfl (hb hby own_d_jdk_52_method_21_13) rfl (l' := #[.val (.ref a), .val (.int (0 : Int32)), .val (.ref d), .val (.int (0 : Int32)), .val (.int (2 : Int32)), .val (.int (0 : Int32)), .val (.int c0)]) rfl k) ?_
  refine gs (mkF m 17 #[.val (.ref a), .val (.int (0 : Int32)), .val (.ref d), .val (.int (0 : Int32)), .val (.int (2 : Int32)), .val (.int (0 : Int32)), .val (.int c0)] [(.int c0)]) (fun _ _ A k => XS.iload A hx rfl (hb hby own_d_jdk_52_method_21_15) rfl  k) ?_
  refine gs (mkF m 20 #[.val (.ref a), .val (.int (0 : Int32)), .val (.ref d), .val (.int (0 : Int32)), .val (.int (2 : Int32)), .val (.int (0 : Int32)), .val (.int c0)] [(.int (255 : Int32)), (.int c0)]) (fun _ _ A k => XS.sipush A hx rfl (hb hby own_d_jdk_52_method_21_17) k) ?_
  refine gs (mkF m 23 #[.val (.ref a), .val (.int (0 : Int32)), .val (.ref d), .val (.int (0 : Int32)), .val (.int (2 : Int32)), .val (.int (0 : Int32)), .val (.int c0)] []) (fun _ _ A k => XS.icmpNo A hx rfl (hb hby own_d_jdk_52_method_21_20) rfl (tlt P5).2.2.2 k) ?_
  refine gs (mkF m 25 #[.val (.ref a), .val (.int (0 : Int32)), .val (.ref d), .val (.int (0 : Int32)), .val (.int (2 : Int32)), .val (.int (0 : Int32)), .val (.int c0)] [(.int (0 : Int32))]) (fun _ _ A k => XS.iload A hx rfl (hb hby own_d_jdk_52_method_21_23) rfl  k) ?_
  exact gretI hx hret (hb hby own_d_jdk_52_method_21_25) (by decide) (by decide) (fun vq Cq => ⟨rfl, (Keep.refl h0 [d]), P1⟩)
set_option maxRecDepth 65536 in
set_option maxHeartbeats 40000000 in
theorem own_c5_2_1 (l : Launch) (Z : State) (a0 : Array Value) (cx : Ctx Z a0) (ws : List Jvm.Cond) (a : Addr) (d : Addr) (kc : ClassId) (kd : ClassId) (c0 : Int32) (c1 : Int32) (vm0 : Vm) (h0 : Heap) (X00 : Ext Z.heap h0) (P0 : Arv Z h0 a kc .char (2 : Int32) [(.int c0), (.int c1)] (.int (0 : Int32))) (P1 : Arv Z h0 d kd .byte (2 : Int32) [(.int (0 : Int32)), (.int (0 : Int32))] (.int (0 : Int32))) (P2 : Z.heap.size ≤ d) (P3 : Safe Z ([] : List (String × Nat)) vm0 h0 d) (hne : a ≠ d) (P5 : ¬ (255 : Int32) < c0) (P6 : (255 : Int32) < c1) :
    Met l (⟨"java/lang/StringUTF16", "compress", "([CI[BII)I"⟩ : MethodName) jdk_52_method_21_code 7 (some .int) ws ({ frames := 0, cells := 0, slots := 0, locals := 0 } : Room) Z ([] : List (String × Nat)) vm0 h0 #[(.ref a), (.int (0 : Int32)), (.ref d), (.int (0 : Int32)), (.int (2 : Int32))] (fun v vm h => v = some (.int (1 : Int32)) ∧ Keep h0 h [d] ∧ Arv Z h d kd .byte (2 : Int32) [(.int (c0.toInt8.toInt32)), (.int (0 : Int32))] (.int (0 : Int32))) := by
  obtain ⟨hw, hEL, ⟨zc, Scs, hzc⟩, ⟨fm, Sfm, hfm⟩, Sad, Shi, Slo⟩ := id cx
  have hSA := own_SA hw
  refine Met.of_walk (a0 := a0) #[.val (.ref a), .val (.int (0 : Int32)), .val (.ref d), .val (.int (0 : Int32)), .val (.int (2 : Int32)), .unset, .unset] (plainFor_of_name own_pn14) X00 hEL (fun m => by first | (simp [entryFrame, mkF, argsToLocals, Value.category]; done) | rfl) ?_
  intro p e s m below meth c vm hx hby hml hret hnm hC0
  have lt_a : h0.size > a := P0.lt
  have lt_d : h0.size > d := P1.lt
  have L3 := hC0.safe lt_d P3
  refine gs (mkF m 1 #[.val (.ref a), .val (.int (0 : Int32)), .val (.ref d), .val (.int (0 : Int32)), .val (.int (2 : Int32)), .unset, .unset] [(.int (0 : Int32))]) (fun _ _ A k => XS.iconst A hx rfl (hb hby own_d_jdk_52_method_21_0) k) ?_
  refine gs (mkF m 3 #[.val (.ref a), .val (.int (0 : Int32)), .val (.ref d), .val (.int (0 : Int32)), .val (.int (2 : Int32)), .val (.int (0 : Int32)), .unset] []) (fun _ _ A k => XS.istore A hx rfl (hb hby own_d_jdk_52_method_21_1) rfl (l' := #[.val (.ref a), .val (.int (0 : Int32)), .val (.ref d), .val (.int (0 : Int32)), .val (.int (2 : Int32)), .val (.int (0 : Int32)), .unset]) rfl k) ?_
  refine gs (mkF m 5 #[.val (.ref a), .val (.int (0 : Int32)), .val (.ref d), .val (.int (0 : Int32)), .val (.int (2 : Int32)), .val (.int (0 : Int32)), .unset] [(.int (0 : Int32))]) (fun _ _ A k => XS.iload A hx rfl (hb hby own_d_jdk_52_method_21_3) rfl  k) ?_
  refine gs (mkF m 7 #[.val (.ref a), .val (.int (0 : Int32)), .val (.ref d), .val (.int (0 : Int32)), .val (.int (2 : Int32)), .val (.int (0 : Int32)), .unset] [(.int (2 : Int32)), (.int (0 : Int32))]) (fun _ _ A k => XS.iload A hx rfl (hb hby own_d_jdk_52_method_21_5) rfl  k) ?_
  refine gs (mkF m 10 #[.val (.ref a), .val (.int (0 : Int32)), .val (.ref d), .val (.int (0 : Int32)), .val (.int (2 : Int32)), .val (.int (0 : Int32)), .unset] []) (fun _ _ A k => XS.icmpNo A hx rfl (hb hby own_d_jdk_52_method_21_7) rfl (tlt (by decide)).2.1 k) ?_
  refine gs (mkF m 11 #[.val (.ref a), .val (.int (0 : Int32)), .val (.ref d), .val (.int (0 : Int32)), .val (.int (2 : Int32)), .val (.int (0 : Int32)), .unset] [(.ref a)]) (fun _ _ A k => XS.aloadN A hx rfl (hb hby own_d_jdk_52_method_21_10) rfl rfl k) ?_
  refine gs (mkF m 12 #[.val (.ref a), .val (.int (0 : Int32)), .val (.ref d), .val (.int (0 : Int32)), .val (.int (2 : Int32)), .val (.int (0 : Int32)), .unset] [(.int (0 : Int32)), (.ref a)]) (fun _ _ A k => XS.iloadN A hx rfl (hb hby own_d_jdk_52_method_21_11) rfl  k) ?_
  refine gldC hx P0 ⟨by decide, by decide⟩ (i := 0) rfl (v := (.int c0)) rfl 13 (hb hby own_d_jdk_52_method_21_12) rfl ?_
  refine gs (mkF m 15 #[.val (.ref a), .val (.int (0 : Int32)), .val (.ref d), .val (.int (0 : Int32)), .val (.int (2 : Int32)), .val (.int (0 : Int32)), .val (.int c0)] []) (fun _ _ A k => XS.istore A hx rfl (hb hby own_d_jdk_52_method_21_13) rfl (l' := #[.val (.ref a), .val (.int (0 : Int32)), .val (.ref d), .val (.int (0 : Int32)), .val (.int (2 : Int32)), .val (.int (0 : Int32)), .val (.int c0)]) rfl k) ?_
  refine gs (mkF m 17 #[.val (.ref a), .val (.int (0 : Int32)), .val (.ref d), .val (.int (0 : Int32)), .val (.int (2 : Int32)), .val (.int (0 : Int32)), .val (.int c0)] [(.int c0)]) (fun _ _ A k => XS.iload A hx rfl (hb hby own_d_jdk_52_method_21_15) rfl  k) ?_
  refine gs (mkF m 20 #[.val (.ref a), .val (.int (0 : Int32)), .val (.ref d), .val (.int (0 : Int32)), .val (.int (2 : Int32)), .val (.int (0 : Int32)), .val (.int c0)] [(.int (255 : Int32)), (.int c0)]) (fun _ _ A k => XS.sipush A hx rfl (hb hby own_d_jdk_52_method_21_17) k) ?_
  refine gs (mkF m 26 #[.val (.ref a), .val (.int (0 : Int32)), .val (.ref d), .val (.int (0 : Int32)), .val (.int (2 : Int32)), .val (.int (0 : Int32)), .val (.int c0)] []) (fun _ _ A k => XS.icmpYes A hx rfl (pc0 := 20) (pc' := 26) rfl (hb hby own_d_jdk_52_method_21_20) rfl (flt P5).2.2.2 (by decide) (by decide) k) ?_
  refine gs (mkF m 27 #[.val (.ref a), .val (.int (0 : Int32)), .val (.ref d), .val (.int (0 : Int32)), .val (.int (2 : Int32)), .val (.int (0 : Int32)), .val (.int c0)] [(.ref d)]) (fun _ _ A k => XS.aloadN A hx rfl (hb hby own_d_jdk_52_method_21_26) rfl rfl k) ?_
  refine gs (mkF m 28 #[.val (.ref a), .val (.int (0 : Int32)), .val (.ref d), .val (.int (0 : Int32)), .val (.int (2 : Int32)), .val (.int (0 : Int32)), .val (.int c0)] [(.int (0 : Int32)), (.ref d)]) (fun _ _ A k => XS.iloadN A hx rfl (hb hby own_d_jdk_52_method_21_27) rfl  k) ?_
  refine gs (mkF m 30 #[.val (.ref a), .val (.int (0 : Int32)), .val (.ref d), .val (.int (0 : Int32)), .val (.int (2 : Int32)), .val (.int (0 : Int32)), .val (.int c0)] [(.int c0), (.int (0 : Int32)), (.ref d)]) (fun _ _ A k => XS.iload A hx rfl (hb hby own_d_jdk_52_method_21_28) rfl  k) ?_
  refine gs (mkF m 31 #[.val (.ref a), .val (.int (0 : Int32)), .val (.ref d), .val (.int (0 : Int32)), .val (.int (2 : Int32)), .val (.int (0 : Int32)), .val (.int c0)] [(.int (c0.toInt8.toInt32)), (.int (0 : Int32)), (.ref d)]) (fun _ _ A k => XS.i2b A hx rfl (hb hby own_d_jdk_52_method_21_30) rfl k) ?_
  refine gstB hx P1 ⟨by decide, by decide⟩ (i := 0) rfl (Nat.le_of_ble_eq_true rfl) (y := (c0.toInt8.toInt32)) (narB _) P2 (fun _ => L3) 32 (hb hby own_d_jdk_52_method_21_31) rfl ?_
  intro h1 W1 C1 V1
  have z1 := C1.2.1
  replace V1 : Arv Z h1 d kd .byte (2 : Int32) [(.int (c0.toInt8.toInt32)), (.int (0 : Int32))] (.int (0 : Int32)) := V1
  refine gs (mkF m 35 #[.val (.ref a), .val (.int (1 : Int32)), .val (.ref d), .val (.int (0 : Int32)), .val (.int (2 : Int32)), .val (.int (0 : Int32)), .val (.int c0)] []) (fun _ _ A k => XS.iinc A hx rfl (hb hby own_d_jdk_52_method_21_32) rfl (l' := #[.val (.ref a), .val (.int (1 : Int32)), .val (.ref d), .val (.int (0 : Int32)), .val (.int (2 : Int32)), .val (.int (0 : Int32)), .val (.int c0)]) rfl k) ?_
  refine gs (mkF m 38 #[.val (.ref a), .val (.int (1 : Int32)), .val (.ref d), .val (.int (1 : Int32)), .val (.int (2 : Int32)), .val (.int (0 : Int32)), .val (.int c0)] []) (fun _ _ A k => XS.iinc A hx rfl (hb hby own_d_jdk_52_method_21_35) rfl (l' := #[.val (.ref a), .val (.int (1 : Int32)), .val (.ref d), .val (.int (1 : Int32)), .val (.int (2 : Int32)), .val (.int (0 : Int32)), .val (.int c0)]) rfl k) ?_
  refine gs (mkF m 41 #[.val (.ref a), .val (.int (1 : Int32)), .val (.ref d), .val (.int (1 : Int32)), .val (.int (2 : Int32)), .val (.int (1 : Int32)), .val (.int c0)] []) (fun _ _ A k => XS.iinc A hx rfl (hb hby own_d_jdk_52_method_21_38) rfl (l' := #[.val (.ref a), .val (.int (1 : Int32)), .val (.ref d), .val (.int (1 : Int32)), .val (.int (2 : Int32)), .val (.int (1 : Int32)), .val (.int c0)]) rfl k) ?_
  refine gs (mkF m 3 #[.val (.ref a), .val (.int (1 : Int32)), .val (.ref d), .val (.int (1 : Int32)), .val (.int (2 : Int32)), .val (.int (1 : Int32)), .val (.int c0)] []) (fun _ _ A k => XS.goto A hx rfl (pc0 := 41) (pc' := 3) rfl (hb hby own_d_jdk_52_method_21_41) (by decide) (by decide) k) ?_
  refine gs (mkF m 5 #[.val (.ref a), .val (.int (1 : Int32)), .val (.ref d), .val (.int (1 : Int32)), .val (.int (2 : Int32)), .val (.int (1 : Int32)), .val (.int c0)] [(.int (1 : Int32))]) (fun _ _ A k => XS.iload A hx rfl (hb hby own_d_jdk_52_method_21_3) rfl  k) ?_
  refine gs (mkF m 7 #[.val (.ref a), .val (.int (1 : Int32)), .val (.ref d), .val (.int (1 : Int32)), .val (.int (2 : Int32)), .val (.int (1 : Int32)), .val (.int c0)] [(.int (2 : Int32)), (.int (1 : Int32))]) (fun _ _ A k => XS.iload A hx rfl (hb hby own_d_jdk_52_method_21_5) rfl  k) ?_
  refine gs (mkF m 10 #[.val (.ref a), .val (.int (1 : Int32)), .val (.ref d), .val (.int (1 : Int32)), .val (.int (2 : Int32)), .val (.int (1 : Int32)), .val (.int c0)] []) (fun _ _ A k => XS.icmpNo A hx rfl (hb hby own_d_jdk_52_method_21_7) rfl (tlt (by decide)).2.1 k) ?_
  refine gs (mkF m 11 #[.val (.ref a), .val (.int (1 : Int32)), .val (.ref d), .val (.int (1 : Int32)), .val (.int (2 : Int32)), .val (.int (1 : Int32)), .val (.int c0)] [(.ref a)]) (fun _ _ A k => XS.aloadN A hx rfl (hb hby own_d_jdk_52_method_21_10) rfl rfl k) ?_
  refine gs (mkF m 12 #[.val (.ref a), .val (.int (1 : Int32)), .val (.ref d), .val (.int (1 : Int32)), .val (.int (2 : Int32)), .val (.int (1 : Int32)), .val (.int c0)] [(.int (1 : Int32)), (.ref a)]) (fun _ _ A k => XS.iloadN A hx rfl (hb hby own_d_jdk_52_method_21_11) rfl  k) ?_
  have f2 := (P0.other W1 hne)
  refine gldC hx f2 ⟨by decide, by decide⟩ (i := 1) rfl (v := (.int c1)) rfl 13 (hb hby own_d_jdk_52_method_21_12) rfl ?_
  refine gs (mkF m 15 #[.val (.ref a), .val (.int (1 : Int32)), .val (.ref d), .val (.int (1 : Int32)), .val (.int (2 : Int32)), .val (.int (1 : Int32)), .val (.int c1)] []) (fun _ _ A k => XS.istore A hx rfl (hb hby own_d_jdk_52_method_21_13) rfl (l' := #[.val (.ref a), .val (.int (1 : Int32)), .val (.ref d), .val (.int (1 : Int32)), .val (.int (2 : Int32)), .val (.int (1 : Int32)), .val (.int c1)]) rfl k) ?_
  refine gs (mkF m 17 #[.val (.ref a), .val (.int (1 : Int32)), .val (.ref d), .val (.int (1 : Int32)), .val (.int (2 : Int32)), .val (.int (1 : Int32)), .val (.int c1)] [(.int c1)]) (fun _ _ A k => XS.iload A hx rfl (hb hby own_d_jdk_52_method_21_15) rfl  k) ?_
  refine gs (mkF m 20 #[.val (.ref a), .val (.int (1 : Int32)), .val (.ref d), .val (.int (1 : Int32)), .val (.int (2 : Int32)), .val (.int (1 : Int32)), .val (.int c1)] [(.int (255 : Int32)), (.int c1)]) (fun _ _ A k => XS.sipush A hx rfl (hb hby own_d_jdk_52_method_21_17) k) ?_
  refine gs (mkF m 23 #[.val (.ref a), .val (.int (1 : Int32)), .val (.ref d), .val (.int (1 : Int32)), .val (.int (2 : Int32)), .val (.int (1 : Int32)), .val (.int c1)] []) (fun _ _ A k => XS.icmpNo A hx rfl (hb hby own_d_jdk_52_method_21_20) rfl (tlt P6).2.2.2 k) ?_
  refine gs (mkF m 25 #[.val (.ref a), .val (.int (1 : Int32)), .val (.ref d), .val (.int (1 : Int32)), .val (.int (2 : Int32)), .val (.int (1 : Int32)), .val (.int c1)] [(.int (1 : Int32))]) (fun _ _ A k => XS.iload A hx rfl (hb hby own_d_jdk_52_method_21_23) rfl  k) ?_
  exact gretI hx hret (hb hby own_d_jdk_52_method_21_25) (by decide) (by decide) (fun vq Cq => ⟨rfl, ((Keep.refl h0 [d]).wr W1 (Or.inl (List.mem_of_getElem? (i := 0) rfl))), V1⟩)
set_option maxRecDepth 65536 in
set_option maxHeartbeats 40000000 in
theorem own_c5_2_2 (l : Launch) (Z : State) (a0 : Array Value) (cx : Ctx Z a0) (ws : List Jvm.Cond) (a : Addr) (d : Addr) (kc : ClassId) (kd : ClassId) (c0 : Int32) (c1 : Int32) (vm0 : Vm) (h0 : Heap) (X00 : Ext Z.heap h0) (P0 : Arv Z h0 a kc .char (2 : Int32) [(.int c0), (.int c1)] (.int (0 : Int32))) (P1 : Arv Z h0 d kd .byte (2 : Int32) [(.int (0 : Int32)), (.int (0 : Int32))] (.int (0 : Int32))) (P2 : Z.heap.size ≤ d) (P3 : Safe Z ([] : List (String × Nat)) vm0 h0 d) (hne : a ≠ d) (P5 : ¬ (255 : Int32) < c0) (P6 : ¬ (255 : Int32) < c1) :
    Met l (⟨"java/lang/StringUTF16", "compress", "([CI[BII)I"⟩ : MethodName) jdk_52_method_21_code 7 (some .int) ws ({ frames := 0, cells := 0, slots := 0, locals := 0 } : Room) Z ([] : List (String × Nat)) vm0 h0 #[(.ref a), (.int (0 : Int32)), (.ref d), (.int (0 : Int32)), (.int (2 : Int32))] (fun v vm h => v = some (.int (2 : Int32)) ∧ Keep h0 h [d] ∧ Arv Z h d kd .byte (2 : Int32) [(.int (c0.toInt8.toInt32)), (.int (c1.toInt8.toInt32))] (.int (0 : Int32))) := by
  obtain ⟨hw, hEL, ⟨zc, Scs, hzc⟩, ⟨fm, Sfm, hfm⟩, Sad, Shi, Slo⟩ := id cx
  have hSA := own_SA hw
  refine Met.of_walk (a0 := a0) #[.val (.ref a), .val (.int (0 : Int32)), .val (.ref d), .val (.int (0 : Int32)), .val (.int (2 : Int32)), .unset, .unset] (plainFor_of_name own_pn14) X00 hEL (fun m => by first | (simp [entryFrame, mkF, argsToLocals, Value.category]; done) | rfl) ?_
  intro p e s m below meth c vm hx hby hml hret hnm hC0
  have lt_a : h0.size > a := P0.lt
  have lt_d : h0.size > d := P1.lt
  have L3 := hC0.safe lt_d P3
  refine gs (mkF m 1 #[.val (.ref a), .val (.int (0 : Int32)), .val (.ref d), .val (.int (0 : Int32)), .val (.int (2 : Int32)), .unset, .unset] [(.int (0 : Int32))]) (fun _ _ A k => XS.iconst A hx rfl (hb hby own_d_jdk_52_method_21_0) k) ?_
  refine gs (mkF m 3 #[.val (.ref a), .val (.int (0 : Int32)), .val (.ref d), .val (.int (0 : Int32)), .val (.int (2 : Int32)), .val (.int (0 : Int32)), .unset] []) (fun _ _ A k => XS.istore A hx rfl (hb hby own_d_jdk_52_method_21_1) rfl (l' := #[.val (.ref a), .val (.int (0 : Int32)), .val (.ref d), .val (.int (0 : Int32)), .val (.int (2 : Int32)), .val (.int (0 : Int32)), .unset]) rfl k) ?_
  refine gs (mkF m 5 #[.val (.ref a), .val (.int (0 : Int32)), .val (.ref d), .val (.int (0 : Int32)), .val (.int (2 : Int32)), .val (.int (0 : Int32)), .unset] [(.int (0 : Int32))]) (fun _ _ A k => XS.iload A hx rfl (hb hby own_d_jdk_52_method_21_3) rfl  k) ?_
  refine gs (mkF m 7 #[.val (.ref a), .val (.int (0 : Int32)), .val (.ref d), .val (.int (0 : Int32)), .val (.int (2 : Int32)), .val (.int (0 : Int32)), .unset] [(.int (2 : Int32)), (.int (0 : Int32))]) (fun _ _ A k => XS.iload A hx rfl (hb hby own_d_jdk_52_method_21_5) rfl  k) ?_
  refine gs (mkF m 10 #[.val (.ref a), .val (.int (0 : Int32)), .val (.ref d), .val (.int (0 : Int32)), .val (.int (2 : Int32)), .val (.int (0 : Int32)), .unset] []) (fun _ _ A k => XS.icmpNo A hx rfl (hb hby own_d_jdk_52_method_21_7) rfl (tlt (by decide)).2.1 k) ?_
  refine gs (mkF m 11 #[.val (.ref a), .val (.int (0 : Int32)), .val (.ref d), .val (.int (0 : Int32)), .val (.int (2 : Int32)), .val (.int (0 : Int32)), .unset] [(.ref a)]) (fun _ _ A k => XS.aloadN A hx rfl (hb hby own_d_jdk_52_method_21_10) rfl rfl k) ?_
  refine gs (mkF m 12 #[.val (.ref a), .val (.int (0 : Int32)), .val (.ref d), .val (.int (0 : Int32)), .val (.int (2 : Int32)), .val (.int (0 : Int32)), .unset] [(.int (0 : Int32)), (.ref a)]) (fun _ _ A k => XS.iloadN A hx rfl (hb hby own_d_jdk_52_method_21_11) rfl  k) ?_
  refine gldC hx P0 ⟨by decide, by decide⟩ (i := 0) rfl (v := (.int c0)) rfl 13 (hb hby own_d_jdk_52_method_21_12) rfl ?_
  refine gs (mkF m 15 #[.val (.ref a), .val (.int (0 : Int32)), .val (.ref d), .val (.int (0 : Int32)), .val (.int (2 : Int32)), .val (.int (0 : Int32)), .val (.int c0)] []) (fun _ _ A k => XS.istore A hx rfl (hb hby own_d_jdk_52_method_21_13) rfl (l' := #[.val (.ref a), .val (.int (0 : Int32)), .val (.ref d), .val (.int (0 : Int32)), .val (.int (2 : Int32)), .val (.int (0 : Int32)), .val (.int c0)]) rfl k) ?_
  refine gs (mkF m 17 #[.val (.ref a), .val (.int (0 : Int32)), .val (.ref d), .val (.int (0 : Int32)), .val (.int (2 : Int32)), .val (.int (0 : Int32)), .val (.int c0)] [(.int c0)]) (fun _ _ A k => XS.iload A hx rfl (hb hby own_d_jdk_52_method_21_15) rfl  k) ?_
  refine gs (mkF m 20 #[.val (.ref a), .val (.int (0 : Int32)), .val (.ref d), .val (.int (0 : Int32)), .val (.int (2 : Int32)), .val (.int (0 : Int32)), .val (.int c0)] [(.int (255 : Int32)), (.int c0)]) (fun _ _ A k => XS.sipush A hx rfl (hb hby own_d_jdk_52_method_21_17) k) ?_
  refine gs (mkF m 26 #[.val (.ref a), .val (.int (0 : Int32)), .val (.ref d), .val (.int (0 : Int32)), .val (.int (2 : Int32)), .val (.int (0 : Int32)), .val (.int c0)] []) (fun _ _ A k => XS.icmpYes A hx rfl (pc0 := 20) (pc' := 26) rfl (hb hby own_d_jdk_52_method_21_20) rfl (flt P5).2.2.2 (by decide) (by decide) k) ?_
  refine gs (mkF m 27 #[.val (.ref a), .val (.int (0 : Int32)), .val (.ref d), .val (.int (0 : Int32)), .val (.int (2 : Int32)), .val (.int (0 : Int32)), .val (.int c0)] [(.ref d)]) (fun _ _ A k => XS.aloadN A hx rfl (hb hby own_d_jdk_52_method_21_26) rfl rfl k) ?_
  refine gs (mkF m 28 #[.val (.ref a), .val (.int (0 : Int32)), .val (.ref d), .val (.int (0 : Int32)), .val (.int (2 : Int32)), .val (.int (0 : Int32)), .val (.int c0)] [(.int (0 : Int32)), (.ref d)]) (fun _ _ A k => XS.iloadN A hx rfl (hb hby own_d_jdk_52_method_21_27) rfl  k) ?_
  refine gs (mkF m 30 #[.val (.ref a), .val (.int (0 : Int32)), .val (.ref d), .val (.int (0 : Int32)), .val (.int (2 : Int32)), .val (.int (0 : Int32)), .val (.int c0)] [(.int c0), (.int (0 : Int32)), (.ref d)]) (fun _ _ A k => XS.iload A hx rfl (hb hby own_d_jdk_52_method_21_28) rfl  k) ?_
  refine gs (mkF m 31 #[.val (.ref a), .val (.int (0 : Int32)), .val (.ref d), .val (.int (0 : Int32)), .val (.int (2 : Int32)), .val (.int (0 : Int32)), .val (.int c0)] [(.int (c0.toInt8.toInt32)), (.int (0 : Int32)), (.ref d)]) (fun _ _ A k => XS.i2b A hx rfl (hb hby own_d_jdk_52_method_21_30) rfl k) ?_
  refine gstB hx P1 ⟨by decide, by decide⟩ (i := 0) rfl (Nat.le_of_ble_eq_true rfl) (y := (c0.toInt8.toInt32)) (narB _) P2 (fun _ => L3) 32 (hb hby own_d_jdk_52_method_21_31) rfl ?_
  intro h1 W1 C1 V1
  have z1 := C1.2.1
  replace V1 : Arv Z h1 d kd .byte (2 : Int32) [(.int (c0.toInt8.toInt32)), (.int (0 : Int32))] (.int (0 : Int32)) := V1
  refine gs (mkF m 35 #[.val (.ref a), .val (.int (1 : Int32)), .val (.ref d), .val (.int (0 : Int32)), .val (.int (2 : Int32)), .val (.int (0 : Int32)), .val (.int c0)] []) (fun _ _ A k => XS.iinc A hx rfl (hb hby own_d_jdk_52_method_21_32) rfl (l' := #[.val (.ref a), .val (.int (1 : Int32)), .val (.ref d), .val (.int (0 : Int32)), .val (.int (2 : Int32)), .val (.int (0 : Int32)), .val (.int c0)]) rfl k) ?_
  refine gs (mkF m 38 #[.val (.ref a), .val (.int (1 : Int32)), .val (.ref d), .val (.int (1 : Int32)), .val (.int (2 : Int32)), .val (.int (0 : Int32)), .val (.int c0)] []) (fun _ _ A k => XS.iinc A hx rfl (hb hby own_d_jdk_52_method_21_35) rfl (l' := #[.val (.ref a), .val (.int (1 : Int32)), .val (.ref d), .val (.int (1 : Int32)), .val (.int (2 : Int32)), .val (.int (0 : Int32)), .val (.int c0)]) rfl k) ?_
  refine gs (mkF m 41 #[.val (.ref a), .val (.int (1 : Int32)), .val (.ref d), .val (.int (1 : Int32)), .val (.int (2 : Int32)), .val (.int (1 : Int32)), .val (.int c0)] []) (fun _ _ A k => XS.iinc A hx rfl (hb hby own_d_jdk_52_method_21_38) rfl (l' := #[.val (.ref a), .val (.int (1 : Int32)), .val (.ref d), .val (.int (1 : Int32)), .val (.int (2 : Int32)), .val (.int (1 : Int32)), .val (.int c0)]) rfl k) ?_
  refine gs (mkF m 3 #[.val (.ref a), .val (.int (1 : Int32)), .val (.ref d), .val (.int (1 : Int32)), .val (.int (2 : Int32)), .val (.int (1 : Int32)), .val (.int c0)] []) (fun _ _ A k => XS.goto A hx rfl (pc0 := 41) (pc' := 3) rfl (hb hby own_d_jdk_52_method_21_41) (by decide) (by decide) k) ?_
  refine gs (mkF m 5 #[.val (.ref a), .val (.int (1 : Int32)), .val (.ref d), .val (.int (1 : Int32)), .val (.int (2 : Int32)), .val (.int (1 : Int32)), .val (.int c0)] [(.int (1 : Int32))]) (fun _ _ A k => XS.iload A hx rfl (hb hby own_d_jdk_52_method_21_3) rfl  k) ?_
  refine gs (mkF m 7 #[.val (.ref a), .val (.int (1 : Int32)), .val (.ref d), .val (.int (1 : Int32)), .val (.int (2 : Int32)), .val (.int (1 : Int32)), .val (.int c0)] [(.int (2 : Int32)), (.int (1 : Int32))]) (fun _ _ A k => XS.iload A hx rfl (hb hby own_d_jdk_52_method_21_5) rfl  k) ?_
  refine gs (mkF m 10 #[.val (.ref a), .val (.int (1 : Int32)), .val (.ref d), .val (.int (1 : Int32)), .val (.int (2 : Int32)), .val (.int (1 : Int32)), .val (.int c0)] []) (fun _ _ A k => XS.icmpNo A hx rfl (hb hby own_d_jdk_52_method_21_7) rfl (tlt (by decide)).2.1 k) ?_
  refine gs (mkF m 11 #[.val (.ref a), .val (.int (1 : Int32)), .val (.ref d), .val (.int (1 : Int32)), .val (.int (2 : Int32)), .val (.int (1 : Int32)), .val (.int c0)] [(.ref a)]) (fun _ _ A k => XS.aloadN A hx rfl (hb hby own_d_jdk_52_method_21_10) rfl rfl k) ?_
  refine gs (mkF m 12 #[.val (.ref a), .val (.int (1 : Int32)), .val (.ref d), .val (.int (1 : Int32)), .val (.int (2 : Int32)), .val (.int (1 : Int32)), .val (.int c0)] [(.int (1 : Int32)), (.ref a)]) (fun _ _ A k => XS.iloadN A hx rfl (hb hby own_d_jdk_52_method_21_11) rfl  k) ?_
  have f2 := (P0.other W1 hne)
  refine gldC hx f2 ⟨by decide, by decide⟩ (i := 1) rfl (v := (.int c1)) rfl 13 (hb hby own_d_jdk_52_method_21_12) rfl ?_
  refine gs (mkF m 15 #[.val (.ref a), .val (.int (1 : Int32)), .val (.ref d), .val (.int (1 : Int32)), .val (.int (2 : Int32)), .val (.int (1 : Int32)), .val (.int c1)] []) (fun _ _ A k => XS.istore A hx rfl (hb hby own_d_jdk_52_method_21_13) rfl (l' := #[.val (.ref a), .val (.int (1 : Int32)), .val (.ref d), .val (.int (1 : Int32)), .val (.int (2 : Int32)), .val (.int (1 : Int32)), .val (.int c1)]) rfl k) ?_
  refine gs (mkF m 17 #[.val (.ref a), .val (.int (1 : Int32)), .val (.ref d), .val (.int (1 : Int32)), .val (.int (2 : Int32)), .val (.int (1 : Int32)), .val (.int c1)] [(.int c1)]) (fun _ _ A k => XS.iload A hx rfl (hb hby own_d_jdk_52_method_21_15) rfl  k) ?_
  refine gs (mkF m 20 #[.val (.ref a), .val (.int (1 : Int32)), .val (.ref d), .val (.int (1 : Int32)), .val (.int (2 : Int32)), .val (.int (1 : Int32)), .val (.int c1)] [(.int (255 : Int32)), (.int c1)]) (fun _ _ A k => XS.sipush A hx rfl (hb hby own_d_jdk_52_method_21_17) k) ?_
  refine gs (mkF m 26 #[.val (.ref a), .val (.int (1 : Int32)), .val (.ref d), .val (.int (1 : Int32)), .val (.int (2 : Int32)), .val (.int (1 : Int32)), .val (.int c1)] []) (fun _ _ A k => XS.icmpYes A hx rfl (pc0 := 20) (pc' := 26) rfl (hb hby own_d_jdk_52_method_21_20) rfl (flt P6).2.2.2 (by decide) (by decide) k) ?_
  refine gs (mkF m 27 #[.val (.ref a), .val (.int (1 : Int32)), .val (.ref d), .val (.int (1 : Int32)), .val (.int (2 : Int32)), .val (.int (1 : Int32)), .val (.int c1)] [(.ref d)]) (fun _ _ A k => XS.aloadN A hx rfl (hb hby own_d_jdk_52_method_21_26) rfl rfl k) ?_
  refine gs (mkF m 28 #[.val (.ref a), .val (.int (1 : Int32)), .val (.ref d), .val (.int (1 : Int32)), .val (.int (2 : Int32)), .val (.int (1 : Int32)), .val (.int c1)] [(.int (1 : Int32)), (.ref d)]) (fun _ _ A k => XS.iloadN A hx rfl (hb hby own_d_jdk_52_method_21_27) rfl  k) ?_
  refine gs (mkF m 30 #[.val (.ref a), .val (.int (1 : Int32)), .val (.ref d), .val (.int (1 : Int32)), .val (.int (2 : Int32)), .val (.int (1 : Int32)), .val (.int c1)] [(.int c1), (.int (1 : Int32)), (.ref d)]) (fun _ _ A k => XS.iload A hx rfl (hb hby own_d_jdk_52_method_21_28) rfl  k) ?_
  refine gs (mkF m 31 #[.val (.ref a), .val (.int (1 : Int32)), .val (.ref d), .val (.int (1 : Int32)), .val (.int (2 : Int32)), .val (.int (1 : Int32)), .val (.int c1)] [(.int (c1.toInt8.toInt32)), (.int (1 : Int32)), (.ref d)]) (fun _ _ A k => XS.i2b A hx rfl (hb hby own_d_jdk_52_method_21_30) rfl k) ?_
  have f4 := (C1.safe (show h0.size > d by omega) L3)
  refine gstB hx V1 ⟨by decide, by decide⟩ (i := 1) rfl (Nat.le_of_ble_eq_true rfl) (y := (c1.toInt8.toInt32)) (narB _) P2 (fun _ => f4) 32 (hb hby own_d_jdk_52_method_21_31) rfl ?_
  intro h3 W3 C3 V3
  have z3 := C3.2.1
  replace V3 : Arv Z h3 d kd .byte (2 : Int32) [(.int (c0.toInt8.toInt32)), (.int (c1.toInt8.toInt32))] (.int (0 : Int32)) := V3
  refine gs (mkF m 35 #[.val (.ref a), .val (.int (2 : Int32)), .val (.ref d), .val (.int (1 : Int32)), .val (.int (2 : Int32)), .val (.int (1 : Int32)), .val (.int c1)] []) (fun _ _ A k => XS.iinc A hx rfl (hb hby own_d_jdk_52_method_21_32) rfl (l' := #[.val (.ref a), .val (.int (2 : Int32)), .val (.ref d), .val (.int (1 : Int32)), .val (.int (2 : Int32)), .val (.int (1 : Int32)), .val (.int c1)]) rfl k) ?_
  refine gs (mkF m 38 #[.val (.ref a), .val (.int (2 : Int32)), .val (.ref d), .val (.int (2 : Int32)), .val (.int (2 : Int32)), .val (.int (1 : Int32)), .val (.int c1)] []) (fun _ _ A k => XS.iinc A hx rfl (hb hby own_d_jdk_52_method_21_35) rfl (l' := #[.val (.ref a), .val (.int (2 : Int32)), .val (.ref d), .val (.int (2 : Int32)), .val (.int (2 : Int32)), .val (.int (1 : Int32)), .val (.int c1)]) rfl k) ?_
  refine gs (mkF m 41 #[.val (.ref a), .val (.int (2 : Int32)), .val (.ref d), .val (.int (2 : Int32)), .val (.int (2 : Int32)), .val (.int (2 : Int32)), .val (.int c1)] []) (fun _ _ A k => XS.iinc A hx rfl (hb hby own_d_jdk_52_method_21_38) rfl (l' := #[.val (.ref a), .val (.int (2 : Int32)), .val (.ref d), .val (.int (2 : Int32)), .val (.int (2 : Int32)), .val (.int (2 : Int32)), .val (.int c1)]) rfl k) ?_
  refine gs (mkF m 3 #[.val (.ref a), .val (.int (2 : Int32)), .val (.ref d), .val (.int (2 : Int32)), .val (.int (2 : Int32)), .val (.int (2 : Int32)), .val (.int c1)] []) (fun _ _ A k => XS.goto A hx rfl (pc0 := 41) (pc' := 3) rfl (hb hby own_d_jdk_52_method_21_41) (by decide) (by decide) k) ?_
  refine gs (mkF m 5 #[.val (.ref a), .val (.int (2 : Int32)), .val (.ref d), .val (.int (2 : Int32)), .val (.int (2 : Int32)), .val (.int (2 : Int32)), .val (.int c1)] [(.int (2 : Int32))]) (fun _ _ A k => XS.iload A hx rfl (hb hby own_d_jdk_52_method_21_3) rfl  k) ?_
  refine gs (mkF m 7 #[.val (.ref a), .val (.int (2 : Int32)), .val (.ref d), .val (.int (2 : Int32)), .val (.int (2 : Int32)), .val (.int (2 : Int32)), .val (.int c1)] [(.int (2 : Int32)), (.int (2 : Int32))]) (fun _ _ A k => XS.iload A hx rfl (hb hby own_d_jdk_52_method_21_5) rfl  k) ?_
  refine gs (mkF m 44 #[.val (.ref a), .val (.int (2 : Int32)), .val (.ref d), .val (.int (2 : Int32)), .val (.int (2 : Int32)), .val (.int (2 : Int32)), .val (.int c1)] []) (fun _ _ A k => XS.icmpYes A hx rfl (pc0 := 7) (pc' := 44) rfl (hb hby own_d_jdk_52_method_21_7) rfl (flt (by decide)).2.1 (by decide) (by decide) k) ?_
  refine gs (mkF m 46 #[.val (.ref a), .val (.int (2 : Int32)), .val (.ref d), .val (.int (2 : Int32)), .val (.int (2 : Int32)), .val (.int (2 : Int32)), .val (.int c1)] [(.int (2 : Int32))]) (fun _ _ A k => XS.iload A hx rfl (hb hby own_d_jdk_52_method_21_44) rfl  k) ?_
  exact gretI hx hret (hb hby own_d_jdk_52_method_21_46) (by decide) (by decide) (fun vq Cq => ⟨rfl, (((Keep.refl h0 [d]).wr W1 (Or.inl (List.mem_of_getElem? (i := 0) rfl))).wr W3 (Or.inl (List.mem_of_getElem? (i := 0) rfl))), V3⟩)
set_option maxRecDepth 65536 in
set_option maxHeartbeats 40000000 in
theorem own_nbl2 (l : Launch) (Z : State) (a0 : Array Value) (cx : Ctx Z a0) (ws : List Jvm.Cond)  (vm0 : Vm) (h0 : Heap) (X00 : Ext Z.heap h0)  :
    Met l (⟨"java/lang/StringUTF16", "newBytesLength", "(I)I"⟩ : MethodName) jdk_52_method_3_code 1 (some .int) ws ({ frames := 0, cells := 0, slots := 0, locals := 0 } : Room) Z ([] : List (String × Nat)) vm0 h0 #[(.int (2 : Int32))] (fun v vm h => v = some (.int (4 : Int32)) ∧ h0 = h) := by
  obtain ⟨hw, hEL, ⟨zc, Scs, hzc⟩, ⟨fm, Sfm, hfm⟩, Sad, Shi, Slo⟩ := id cx
  have hSA := own_SA hw
  refine Met.of_walk (a0 := a0) #[.val (.int (2 : Int32))] (plainFor_of_name own_pn14) X00 hEL (fun m => by first | (simp [entryFrame, mkF, argsToLocals, Value.category]; done) | rfl) ?_
  intro p e s m below meth c vm hx hby hml hret hnm hC0
  refine gs (mkF m 1 #[.val (.int (2 : Int32))] [(.int (2 : Int32))]) (fun _ _ A k => XS.iloadN A hx rfl (hb hby own_d_jdk_52_method_3_0) rfl  k) ?_
  refine gs (mkF m 12 #[.val (.int (2 : Int32))] []) (fun _ _ A k => XS.ifYes A hx rfl (pc0 := 1) (pc' := 12) rfl (hb hby own_d_jdk_52_method_3_1) rfl ((if0 _ _).trans (flt (by decide)).2.1) (by decide) (by decide) k) ?_
  refine gs (mkF m 13 #[.val (.int (2 : Int32))] [(.int (2 : Int32))]) (fun _ _ A k => XS.iloadN A hx rfl (hb hby own_d_jdk_52_method_3_12) rfl  k) ?_
  refine gldcI hx (ow hw 52 rfl) 15 (hb hby own_d_jdk_52_method_3_13) rfl ?_
  refine gs (mkF m 55 #[.val (.int (2 : Int32))] []) (fun _ _ A k => XS.icmpYes A hx rfl (pc0 := 15) (pc' := 55) rfl (hb hby own_d_jdk_52_method_3_15) rfl (tlt (by decide)).1 (by decide) (by decide) k) ?_
  refine gs (mkF m 56 #[.val (.int (2 : Int32))] [(.int (2 : Int32))]) (fun _ _ A k => XS.iloadN A hx rfl (hb hby own_d_jdk_52_method_3_55) rfl  k) ?_
  refine gs (mkF m 57 #[.val (.int (2 : Int32))] [(.int (1 : Int32)), (.int (2 : Int32))]) (fun _ _ A k => XS.iconst A hx rfl (hb hby own_d_jdk_52_method_3_56) k) ?_
  refine gs (mkF m 58 #[.val (.int (2 : Int32))] [(.int (4 : Int32))]) (fun _ _ A k => XS.ishl A hx rfl (hb hby own_d_jdk_52_method_3_57) rfl k) ?_
  exact gretI hx hret (hb hby own_d_jdk_52_method_3_58) (by decide) (by decide) (fun vq Cq => ⟨rfl, rfl⟩)
set_option maxRecDepth 65536 in
set_option maxHeartbeats 40000000 in
theorem own_nbf2 (l : Launch) (Z : State) (a0 : Array Value) (cx : Ctx Z a0) (ws : List Jvm.Cond)  (vm0 : Vm) (h0 : Heap) (X00 : Ext Z.heap h0)  :
    Met l (⟨"java/lang/StringUTF16", "newBytesFor", "(I)[B"⟩ : MethodName) jdk_52_method_2_code 1 (some (.array .byte)) ws ({ frames := 1, cells := 1, slots := 4, locals := 12 } : Room) Z ([] : List (String × Nat)) vm0 h0 #[(.int (2 : Int32))] (fun v vm h => ∃ (r : Addr), ∃ (kb : ClassId), v = some (.ref r) ∧ Keep h0 h [] ∧ h0.size ≤ r ∧ Z.heap.size ≤ r ∧ Safe Z ([] : List (String × Nat)) vm h r ∧ Arv Z h r kb .byte (4 : Int32) [(.int (0 : Int32)), (.int (0 : Int32)), (.int (0 : Int32)), (.int (0 : Int32))] (.int (0 : Int32))) := by
  obtain ⟨hw, hEL, ⟨zc, Scs, hzc⟩, ⟨fm, Sfm, hfm⟩, Sad, Shi, Slo⟩ := id cx
  have hSA := own_SA hw
  refine Met.of_walk (a0 := a0) #[.val (.int (2 : Int32))] (plainFor_of_name own_pn14) X00 hEL (fun m => by first | (simp [entryFrame, mkF, argsToLocals, Value.category]; done) | rfl) ?_
  intro p e s m below meth c vm hx hby hml hret hnm hC0
  refine gs (mkF m 1 #[.val (.int (2 : Int32))] [(.int (2 : Int32))]) (fun _ _ A k => XS.iloadN A hx rfl (hb hby own_d_jdk_52_method_2_0) rfl  k) ?_
  refine ginfo fun _ _ O1 => ?_
  refine gcallS (y := (⟨"java/lang/StringUTF16", "newBytesLength", "(I)I"⟩ : MethodName)) hx (ow hw 49 rfl) (ow hw 50 rfl) (ow hw 18 rfl) (ow hw 51 rfl) (by decide) (fun hZ H hEL => Pay.of_met (W := 0) (own_nbl2 l Z a0 cx []  vm h0 O1 ) (ow hw 51 rfl) (ow hw 18 rfl) (by decide) (by decide) hZ H hEL) 4 (argsL := [(.int (2 : Int32))]) (rest := []) (lenOf own_pd37 rfl) rfl rfl (Nat.le_of_eq rfl) (by rw [hml]; rfl) (hb hby own_d_jdk_52_method_2_1) rfl (by decide) (by decide) ?_
  rintro _ vm1 h1 C1 ⟨rfl, rfl⟩
  have z1 := C1.2.1
  refine gat (mkF m 4 #[.val (.int (2 : Int32))] [(.int (4 : Int32))]) rfl ?_
  refine gnewP hx (ow hw 20 rfl) (n := (4 : Int32)) (by decide) (cap := 4) (by decide) (by decide) 6 (hb hby own_d_jdk_52_method_2_4) rfl (by decide) (by decide) ?_
  intro b2 h2 k2 g2 E2 C2 V2 n2 L2
  have z2 := C2.2.1
  have V2 : Arv Z h2 b2 k2 .byte (4 : Int32) [(.int (0 : Int32)), (.int (0 : Int32)), (.int (0 : Int32)), (.int (0 : Int32))] (.int (0 : Int32)) := V2.pad (pad_rep [] (.int (0 : Int32)) 4)
  have lt_b2 : h2.size > b2 := V2.lt
  exact gretA hx hret rfl rfl (hb hby own_d_jdk_52_method_2_6) (by decide) (by decide) (fun vq Cq => ⟨b2, k2, rfl, ((Keep.refl h0 []).ext E2), (by omega), n2, (Cq.safe (show h2.size > b2 by omega) L2), V2⟩)
set_option maxRecDepth 65536 in
set_option maxHeartbeats 40000000 in
theorem own_pc2_0 (l : Launch) (Z : State) (a0 : Array Value) (cx : Ctx Z a0) (ws : List Jvm.Cond) (a : Addr) (ch : Int32) (ka : ClassId) (u0 : Value) (u1 : Value) (u2 : Value) (u3 : Value) (vm0 : Vm) (h0 : Heap) (X00 : Ext Z.heap h0) (P0 : Arv Z h0 a ka .byte (4 : Int32) [u0, u1, u2, u3] (.int (0 : Int32))) (P1 : Z.heap.size ≤ a) (P2 : Safe Z ([] : List (String × Nat)) vm0 h0 a) :
    Met l (⟨"java/lang/StringUTF16", "putChar", "([BII)V"⟩ : MethodName) jdk_52_method_4_code 3 none ws ({ frames := 0, cells := 0, slots := 0, locals := 0 } : Room) Z ([] : List (String × Nat)) vm0 h0 #[(.ref a), (.int (0 : Int32)), (.int ch)] (fun v vm h => v = none ∧ Keep h0 h [a] ∧ Arv Z h a ka .byte (4 : Int32) [(.int ((ch >>> ((0 : Int32) &&& 31)).toInt8.toInt32)), (.int ((ch >>> ((8 : Int32) &&& 31)).toInt8.toInt32)), u2, u3] (.int (0 : Int32)) ∧ Safe Z ([] : List (String × Nat)) vm h a) := by
  obtain ⟨hw, hEL, ⟨zc, Scs, hzc⟩, ⟨fm, Sfm, hfm⟩, Sad, Shi, Slo⟩ := id cx
  have hSA := own_SA hw
  refine Met.of_walk (a0 := a0) #[.val (.ref a), .val (.int (0 : Int32)), .val (.int ch)] (plainFor_of_name own_pn14) X00 hEL (fun m => by first | (simp [entryFrame, mkF, argsToLocals, Value.category]; done) | rfl) ?_
  intro p e s m below meth c vm hx hby hml hret hnm hC0
  have lt_a : h0.size > a := P0.lt
  have L2 := hC0.safe lt_a P2
  refine ggetS (host := "") hx (Or.inl (ow hw 56 rfl)) Via.refl Sad 3 (hb hby own_d_jdk_52_method_4_0) rfl ?_
  refine gs (mkF m 28 #[.val (.ref a), .val (.int (0 : Int32)), .val (.int ch)] []) (fun _ _ A k => XS.ifYes A hx rfl (pc0 := 3) (pc' := 28) rfl (hb hby own_d_jdk_52_method_4_3) rfl ((if0 _ _).trans (feq (by decide)).2) (by decide) (by decide) k) ?_
  refine gs (mkF m 29 #[.val (.ref a), .val (.int (0 : Int32)), .val (.int ch)] [(.int (0 : Int32))]) (fun _ _ A k => XS.iloadN A hx rfl (hb hby own_d_jdk_52_method_4_28) rfl  k) ?_
  refine gs (mkF m 30 #[.val (.ref a), .val (.int (0 : Int32)), .val (.int ch)] [(.int (1 : Int32)), (.int (0 : Int32))]) (fun _ _ A k => XS.iconst A hx rfl (hb hby own_d_jdk_52_method_4_29) k) ?_
  refine gs (mkF m 31 #[.val (.ref a), .val (.int (0 : Int32)), .val (.int ch)] [(.int (0 : Int32))]) (fun _ _ A k => XS.ishl A hx rfl (hb hby own_d_jdk_52_method_4_30) rfl k) ?_
  refine gs (mkF m 32 #[.val (.ref a), .val (.int (0 : Int32)), .val (.int ch)] []) (fun _ _ A k => XS.istoreN A hx rfl (hb hby own_d_jdk_52_method_4_31) rfl (l' := #[.val (.ref a), .val (.int (0 : Int32)), .val (.int ch)]) rfl k) ?_
  refine gs (mkF m 33 #[.val (.ref a), .val (.int (0 : Int32)), .val (.int ch)] [(.ref a)]) (fun _ _ A k => XS.aloadN A hx rfl (hb hby own_d_jdk_52_method_4_32) rfl rfl k) ?_
  refine gs (mkF m 34 #[.val (.ref a), .val (.int (0 : Int32)), .val (.int ch)] [(.int (0 : Int32)), (.ref a)]) (fun _ _ A k => XS.iloadN A hx rfl (hb hby own_d_jdk_52_method_4_33) rfl  k) ?_
  refine gs (mkF m 37 #[.val (.ref a), .val (.int (1 : Int32)), .val (.int ch)] [(.int (0 : Int32)), (.ref a)]) (fun _ _ A k => XS.iinc A hx rfl (hb hby own_d_jdk_52_method_4_34) rfl (l' := #[.val (.ref a), .val (.int (1 : Int32)), .val (.int ch)]) rfl k) ?_
  refine gs (mkF m 38 #[.val (.ref a), .val (.int (1 : Int32)), .val (.int ch)] [(.int ch), (.int (0 : Int32)), (.ref a)]) (fun _ _ A k => XS.iloadN A hx rfl (hb hby own_d_jdk_52_method_4_37) rfl  k) ?_
  refine ggetS (host := "") hx (Or.inl (ow hw 57 rfl)) Via.refl Shi 41 (hb hby own_d_jdk_52_method_4_38) rfl ?_
  refine gs (mkF m 42 #[.val (.ref a), .val (.int (1 : Int32)), .val (.int ch)] [(.int (ch >>> ((0 : Int32) &&& 31))), (.int (0 : Int32)), (.ref a)]) (fun _ _ A k => XS.ishr A hx rfl (hb hby own_d_jdk_52_method_4_41) rfl k) ?_
  refine gs (mkF m 43 #[.val (.ref a), .val (.int (1 : Int32)), .val (.int ch)] [(.int ((ch >>> ((0 : Int32) &&& 31)).toInt8.toInt32)), (.int (0 : Int32)), (.ref a)]) (fun _ _ A k => XS.i2b A hx rfl (hb hby own_d_jdk_52_method_4_42) rfl k) ?_
  refine gstB hx P0 ⟨by decide, by decide⟩ (i := 0) rfl (Nat.le_of_ble_eq_true rfl) (y := ((ch >>> ((0 : Int32) &&& 31)).toInt8.toInt32)) (narB _) P1 (fun _ => L2) 44 (hb hby own_d_jdk_52_method_4_43) rfl ?_
  intro h1 W1 C1 V1
  have z1 := C1.2.1
  replace V1 : Arv Z h1 a ka .byte (4 : Int32) [(.int ((ch >>> ((0 : Int32) &&& 31)).toInt8.toInt32)), u1, u2, u3] (.int (0 : Int32)) := V1
  refine gs (mkF m 45 #[.val (.ref a), .val (.int (1 : Int32)), .val (.int ch)] [(.ref a)]) (fun _ _ A k => XS.aloadN A hx rfl (hb hby own_d_jdk_52_method_4_44) rfl rfl k) ?_
  refine gs (mkF m 46 #[.val (.ref a), .val (.int (1 : Int32)), .val (.int ch)] [(.int (1 : Int32)), (.ref a)]) (fun _ _ A k => XS.iloadN A hx rfl (hb hby own_d_jdk_52_method_4_45) rfl  k) ?_
  refine gs (mkF m 47 #[.val (.ref a), .val (.int (1 : Int32)), .val (.int ch)] [(.int ch), (.int (1 : Int32)), (.ref a)]) (fun _ _ A k => XS.iloadN A hx rfl (hb hby own_d_jdk_52_method_4_46) rfl  k) ?_
  refine ggetS (host := "") hx (Or.inl (ow hw 58 rfl)) Via.refl Slo 50 (hb hby own_d_jdk_52_method_4_47) rfl ?_
  refine gs (mkF m 51 #[.val (.ref a), .val (.int (1 : Int32)), .val (.int ch)] [(.int (ch >>> ((8 : Int32) &&& 31))), (.int (1 : Int32)), (.ref a)]) (fun _ _ A k => XS.ishr A hx rfl (hb hby own_d_jdk_52_method_4_50) rfl k) ?_
  refine gs (mkF m 52 #[.val (.ref a), .val (.int (1 : Int32)), .val (.int ch)] [(.int ((ch >>> ((8 : Int32) &&& 31)).toInt8.toInt32)), (.int (1 : Int32)), (.ref a)]) (fun _ _ A k => XS.i2b A hx rfl (hb hby own_d_jdk_52_method_4_51) rfl k) ?_
  have f3 := (C1.safe (show h0.size > a by omega) L2)
  refine gstB hx V1 ⟨by decide, by decide⟩ (i := 1) rfl (Nat.le_of_ble_eq_true rfl) (y := ((ch >>> ((8 : Int32) &&& 31)).toInt8.toInt32)) (narB _) P1 (fun _ => f3) 53 (hb hby own_d_jdk_52_method_4_52) rfl ?_
  intro h2 W2 C2 V2
  have z2 := C2.2.1
  replace V2 : Arv Z h2 a ka .byte (4 : Int32) [(.int ((ch >>> ((0 : Int32) &&& 31)).toInt8.toInt32)), (.int ((ch >>> ((8 : Int32) &&& 31)).toInt8.toInt32)), u2, u3] (.int (0 : Int32)) := V2
  have f5 := (C2.safe (show h1.size > a by omega) f3)
  exact gretV hx hret (hb hby own_d_jdk_52_method_4_53) (by decide) (by decide) (fun vq Cq => ⟨rfl, (((Keep.refl h0 [a]).wr W1 (Or.inl (List.mem_of_getElem? (i := 0) rfl))).wr W2 (Or.inl (List.mem_of_getElem? (i := 0) rfl))), V2, (Cq.safe (show h2.size > a by omega) f5)⟩)
set_option maxRecDepth 65536 in
set_option maxHeartbeats 40000000 in
theorem own_gc2_0 (l : Launch) (Z : State) (a0 : Array Value) (cx : Ctx Z a0) (ws : List Jvm.Cond) (a : Addr) (ka : ClassId) (b0 : Int32) (b1 : Int32) (u2 : Value) (u3 : Value) (vm0 : Vm) (h0 : Heap) (X00 : Ext Z.heap h0) (P0 : Arv Z h0 a ka .byte (4 : Int32) [(.int b0), (.int b1), u2, u3] (.int (0 : Int32))) :
    Met l (⟨"java/lang/StringUTF16", "getChar", "([BI)C"⟩ : MethodName) jdk_52_method_5_code 2 (some .char) ws ({ frames := 0, cells := 0, slots := 0, locals := 0 } : Room) Z ([] : List (String × Nat)) vm0 h0 #[(.ref a), (.int (0 : Int32))] (fun v vm h => v = some (.int (StrChars.pairCh b0 b1)) ∧ h0 = h) := by
  obtain ⟨hw, hEL, ⟨zc, Scs, hzc⟩, ⟨fm, Sfm, hfm⟩, Sad, Shi, Slo⟩ := id cx
  have hSA := own_SA hw
  refine Met.of_walk (a0 := a0) #[.val (.ref a), .val (.int (0 : Int32))] (plainFor_of_name own_pn14) X00 hEL (fun m => by first | (simp [entryFrame, mkF, argsToLocals, Value.category]; done) | rfl) ?_
  intro p e s m below meth c vm hx hby hml hret hnm hC0
  have lt_a : h0.size > a := P0.lt
  refine ggetS (host := "") hx (Or.inl (ow hw 56 rfl)) Via.refl Sad 3 (hb hby own_d_jdk_52_method_5_0) rfl ?_
  refine gs (mkF m 28 #[.val (.ref a), .val (.int (0 : Int32))] []) (fun _ _ A k => XS.ifYes A hx rfl (pc0 := 3) (pc' := 28) rfl (hb hby own_d_jdk_52_method_5_3) rfl ((if0 _ _).trans (feq (by decide)).2) (by decide) (by decide) k) ?_
  refine gs (mkF m 29 #[.val (.ref a), .val (.int (0 : Int32))] [(.int (0 : Int32))]) (fun _ _ A k => XS.iloadN A hx rfl (hb hby own_d_jdk_52_method_5_28) rfl  k) ?_
  refine gs (mkF m 30 #[.val (.ref a), .val (.int (0 : Int32))] [(.int (1 : Int32)), (.int (0 : Int32))]) (fun _ _ A k => XS.iconst A hx rfl (hb hby own_d_jdk_52_method_5_29) k) ?_
  refine gs (mkF m 31 #[.val (.ref a), .val (.int (0 : Int32))] [(.int (0 : Int32))]) (fun _ _ A k => XS.ishl A hx rfl (hb hby own_d_jdk_52_method_5_30) rfl k) ?_
  refine gs (mkF m 32 #[.val (.ref a), .val (.int (0 : Int32))] []) (fun _ _ A k => XS.istoreN A hx rfl (hb hby own_d_jdk_52_method_5_31) rfl (l' := #[.val (.ref a), .val (.int (0 : Int32))]) rfl k) ?_
  refine gs (mkF m 33 #[.val (.ref a), .val (.int (0 : Int32))] [(.ref a)]) (fun _ _ A k => XS.aloadN A hx rfl (hb hby own_d_jdk_52_method_5_32) rfl rfl k) ?_
  refine gs (mkF m 34 #[.val (.ref a), .val (.int (0 : Int32))] [(.int (0 : Int32)), (.ref a)]) (fun _ _ A k => XS.iloadN A hx rfl (hb hby own_d_jdk_52_method_5_33) rfl  k) ?_
  refine gs (mkF m 37 #[.val (.ref a), .val (.int (1 : Int32))] [(.int (0 : Int32)), (.ref a)]) (fun _ _ A k => XS.iinc A hx rfl (hb hby own_d_jdk_52_method_5_34) rfl (l' := #[.val (.ref a), .val (.int (1 : Int32))]) rfl k) ?_
  refine gldB hx P0 ⟨by decide, by decide⟩ (i := 0) rfl (v := (.int b0)) rfl 38 (hb hby own_d_jdk_52_method_5_37) rfl ?_
  refine gs (mkF m 41 #[.val (.ref a), .val (.int (1 : Int32))] [(.int (255 : Int32)), (.int b0)]) (fun _ _ A k => XS.sipush A hx rfl (hb hby own_d_jdk_52_method_5_38) k) ?_
  refine gs (mkF m 42 #[.val (.ref a), .val (.int (1 : Int32))] [(.int (b0 &&& (255 : Int32)))]) (fun _ _ A k => XS.iand A hx rfl (hb hby own_d_jdk_52_method_5_41) rfl k) ?_
  refine ggetS (host := "") hx (Or.inl (ow hw 57 rfl)) Via.refl Shi 45 (hb hby own_d_jdk_52_method_5_42) rfl ?_
  refine gs (mkF m 46 #[.val (.ref a), .val (.int (1 : Int32))] [(.int ((b0 &&& (255 : Int32)) <<< ((0 : Int32) &&& 31)))]) (fun _ _ A k => XS.ishl A hx rfl (hb hby own_d_jdk_52_method_5_45) rfl k) ?_
  refine gs (mkF m 47 #[.val (.ref a), .val (.int (1 : Int32))] [(.ref a), (.int ((b0 &&& (255 : Int32)) <<< ((0 : Int32) &&& 31)))]) (fun _ _ A k => XS.aloadN A hx rfl (hb hby own_d_jdk_52_method_5_46) rfl rfl k) ?_
  refine gs (mkF m 48 #[.val (.ref a), .val (.int (1 : Int32))] [(.int (1 : Int32)), (.ref a), (.int ((b0 &&& (255 : Int32)) <<< ((0 : Int32) &&& 31)))]) (fun _ _ A k => XS.iloadN A hx rfl (hb hby own_d_jdk_52_method_5_47) rfl  k) ?_
  refine gldB hx P0 ⟨by decide, by decide⟩ (i := 1) rfl (v := (.int b1)) rfl 49 (hb hby own_d_jdk_52_method_5_48) rfl ?_
  refine gs (mkF m 52 #[.val (.ref a), .val (.int (1 : Int32))] [(.int (255 : Int32)), (.int b1), (.int ((b0 &&& (255 : Int32)) <<< ((0 : Int32) &&& 31)))]) (fun _ _ A k => XS.sipush A hx rfl (hb hby own_d_jdk_52_method_5_49) k) ?_
  refine gs (mkF m 53 #[.val (.ref a), .val (.int (1 : Int32))] [(.int (b1 &&& (255 : Int32))), (.int ((b0 &&& (255 : Int32)) <<< ((0 : Int32) &&& 31)))]) (fun _ _ A k => XS.iand A hx rfl (hb hby own_d_jdk_52_method_5_52) rfl k) ?_
  refine ggetS (host := "") hx (Or.inl (ow hw 58 rfl)) Via.refl Slo 56 (hb hby own_d_jdk_52_method_5_53) rfl ?_
  refine gs (mkF m 57 #[.val (.ref a), .val (.int (1 : Int32))] [(.int ((b1 &&& (255 : Int32)) <<< ((8 : Int32) &&& 31))), (.int ((b0 &&& (255 : Int32)) <<< ((0 : Int32) &&& 31)))]) (fun _ _ A k => XS.ishl A hx rfl (hb hby own_d_jdk_52_method_5_56) rfl k) ?_
  refine gs (mkF m 58 #[.val (.ref a), .val (.int (1 : Int32))] [(.int (((b0 &&& (255 : Int32)) <<< ((0 : Int32) &&& 31)) ||| ((b1 &&& (255 : Int32)) <<< ((8 : Int32) &&& 31))))]) (fun _ _ A k => XS.ior A hx rfl (hb hby own_d_jdk_52_method_5_57) rfl k) ?_
  refine gi2c hx rfl 59 (hb hby own_d_jdk_52_method_5_58) rfl ?_
  exact gretN (t := .char) hx hret (by simp) (hb hby own_d_jdk_52_method_5_59) (by decide) (by decide) (fun vq Cq => ⟨(congrArg (fun z => some (Value.int z)) (narC2 _)), rfl⟩)
set_option maxRecDepth 65536 in
set_option maxHeartbeats 40000000 in
theorem own_pc2_1 (l : Launch) (Z : State) (a0 : Array Value) (cx : Ctx Z a0) (ws : List Jvm.Cond) (a : Addr) (ch : Int32) (ka : ClassId) (u0 : Value) (u1 : Value) (u2 : Value) (u3 : Value) (vm0 : Vm) (h0 : Heap) (X00 : Ext Z.heap h0) (P0 : Arv Z h0 a ka .byte (4 : Int32) [u0, u1, u2, u3] (.int (0 : Int32))) (P1 : Z.heap.size ≤ a) (P2 : Safe Z ([] : List (String × Nat)) vm0 h0 a) :
    Met l (⟨"java/lang/StringUTF16", "putChar", "([BII)V"⟩ : MethodName) jdk_52_method_4_code 3 none ws ({ frames := 0, cells := 0, slots := 0, locals := 0 } : Room) Z ([] : List (String × Nat)) vm0 h0 #[(.ref a), (.int (1 : Int32)), (.int ch)] (fun v vm h => v = none ∧ Keep h0 h [a] ∧ Arv Z h a ka .byte (4 : Int32) [u0, u1, (.int ((ch >>> ((0 : Int32) &&& 31)).toInt8.toInt32)), (.int ((ch >>> ((8 : Int32) &&& 31)).toInt8.toInt32))] (.int (0 : Int32)) ∧ Safe Z ([] : List (String × Nat)) vm h a) := by
  obtain ⟨hw, hEL, ⟨zc, Scs, hzc⟩, ⟨fm, Sfm, hfm⟩, Sad, Shi, Slo⟩ := id cx
  have hSA := own_SA hw
  refine Met.of_walk (a0 := a0) #[.val (.ref a), .val (.int (1 : Int32)), .val (.int ch)] (plainFor_of_name own_pn14) X00 hEL (fun m => by first | (simp [entryFrame, mkF, argsToLocals, Value.category]; done) | rfl) ?_
  intro p e s m below meth c vm hx hby hml hret hnm hC0
  have lt_a : h0.size > a := P0.lt
  have L2 := hC0.safe lt_a P2
  refine ggetS (host := "") hx (Or.inl (ow hw 56 rfl)) Via.refl Sad 3 (hb hby own_d_jdk_52_method_4_0) rfl ?_
  refine gs (mkF m 28 #[.val (.ref a), .val (.int (1 : Int32)), .val (.int ch)] []) (fun _ _ A k => XS.ifYes A hx rfl (pc0 := 3) (pc' := 28) rfl (hb hby own_d_jdk_52_method_4_3) rfl ((if0 _ _).trans (feq (by decide)).2) (by decide) (by decide) k) ?_
  refine gs (mkF m 29 #[.val (.ref a), .val (.int (1 : Int32)), .val (.int ch)] [(.int (1 : Int32))]) (fun _ _ A k => XS.iloadN A hx rfl (hb hby own_d_jdk_52_method_4_28) rfl  k) ?_
  refine gs (mkF m 30 #[.val (.ref a), .val (.int (1 : Int32)), .val (.int ch)] [(.int (1 : Int32)), (.int (1 : Int32))]) (fun _ _ A k => XS.iconst A hx rfl (hb hby own_d_jdk_52_method_4_29) k) ?_
  refine gs (mkF m 31 #[.val (.ref a), .val (.int (1 : Int32)), .val (.int ch)] [(.int (2 : Int32))]) (fun _ _ A k => XS.ishl A hx rfl (hb hby own_d_jdk_52_method_4_30) rfl k) ?_
  refine gs (mkF m 32 #[.val (.ref a), .val (.int (2 : Int32)), .val (.int ch)] []) (fun _ _ A k => XS.istoreN A hx rfl (hb hby own_d_jdk_52_method_4_31) rfl (l' := #[.val (.ref a), .val (.int (2 : Int32)), .val (.int ch)]) rfl k) ?_
  refine gs (mkF m 33 #[.val (.ref a), .val (.int (2 : Int32)), .val (.int ch)] [(.ref a)]) (fun _ _ A k => XS.aloadN A hx rfl (hb hby own_d_jdk_52_method_4_32) rfl rfl k) ?_
  refine gs (mkF m 34 #[.val (.ref a), .val (.int (2 : Int32)), .val (.int ch)] [(.int (2 : Int32)), (.ref a)]) (fun _ _ A k => XS.iloadN A hx rfl (hb hby own_d_jdk_52_method_4_33) rfl  k) ?_
  refine gs (mkF m 37 #[.val (.ref a), .val (.int (3 : Int32)), .val (.int ch)] [(.int (2 : Int32)), (.ref a)]) (fun _ _ A k => XS.iinc A hx rfl (hb hby own_d_jdk_52_method_4_34) rfl (l' := #[.val (.ref a), .val (.int (3 : Int32)), .val (.int ch)]) rfl k) ?_
  refine gs (mkF m 38 #[.val (.ref a), .val (.int (3 : Int32)), .val (.int ch)] [(.int ch), (.int (2 : Int32)), (.ref a)]) (fun _ _ A k => XS.iloadN A hx rfl (hb hby own_d_jdk_52_method_4_37) rfl  k) ?_
  refine ggetS (host := "") hx (Or.inl (ow hw 57 rfl)) Via.refl Shi 41 (hb hby own_d_jdk_52_method_4_38) rfl ?_
  refine gs (mkF m 42 #[.val (.ref a), .val (.int (3 : Int32)), .val (.int ch)] [(.int (ch >>> ((0 : Int32) &&& 31))), (.int (2 : Int32)), (.ref a)]) (fun _ _ A k => XS.ishr A hx rfl (hb hby own_d_jdk_52_method_4_41) rfl k) ?_
  refine gs (mkF m 43 #[.val (.ref a), .val (.int (3 : Int32)), .val (.int ch)] [(.int ((ch >>> ((0 : Int32) &&& 31)).toInt8.toInt32)), (.int (2 : Int32)), (.ref a)]) (fun _ _ A k => XS.i2b A hx rfl (hb hby own_d_jdk_52_method_4_42) rfl k) ?_
  refine gstB hx P0 ⟨by decide, by decide⟩ (i := 2) rfl (Nat.le_of_ble_eq_true rfl) (y := ((ch >>> ((0 : Int32) &&& 31)).toInt8.toInt32)) (narB _) P1 (fun _ => L2) 44 (hb hby own_d_jdk_52_method_4_43) rfl ?_
  intro h1 W1 C1 V1
  have z1 := C1.2.1
  replace V1 : Arv Z h1 a ka .byte (4 : Int32) [u0, u1, (.int ((ch >>> ((0 : Int32) &&& 31)).toInt8.toInt32)), u3] (.int (0 : Int32)) := V1
  refine gs (mkF m 45 #[.val (.ref a), .val (.int (3 : Int32)), .val (.int ch)] [(.ref a)]) (fun _ _ A k => XS.aloadN A hx rfl (hb hby own_d_jdk_52_method_4_44) rfl rfl k) ?_
  refine gs (mkF m 46 #[.val (.ref a), .val (.int (3 : Int32)), .val (.int ch)] [(.int (3 : Int32)), (.ref a)]) (fun _ _ A k => XS.iloadN A hx rfl (hb hby own_d_jdk_52_method_4_45) rfl  k) ?_
  refine gs (mkF m 47 #[.val (.ref a), .val (.int (3 : Int32)), .val (.int ch)] [(.int ch), (.int (3 : Int32)), (.ref a)]) (fun _ _ A k => XS.iloadN A hx rfl (hb hby own_d_jdk_52_method_4_46) rfl  k) ?_
  refine ggetS (host := "") hx (Or.inl (ow hw 58 rfl)) Via.refl Slo 50 (hb hby own_d_jdk_52_method_4_47) rfl ?_
  refine gs (mkF m 51 #[.val (.ref a), .val (.int (3 : Int32)), .val (.int ch)] [(.int (ch >>> ((8 : Int32) &&& 31))), (.int (3 : Int32)), (.ref a)]) (fun _ _ A k => XS.ishr A hx rfl (hb hby own_d_jdk_52_method_4_50) rfl k) ?_
  refine gs (mkF m 52 #[.val (.ref a), .val (.int (3 : Int32)), .val (.int ch)] [(.int ((ch >>> ((8 : Int32) &&& 31)).toInt8.toInt32)), (.int (3 : Int32)), (.ref a)]) (fun _ _ A k => XS.i2b A hx rfl (hb hby own_d_jdk_52_method_4_51) rfl k) ?_
  have f3 := (C1.safe (show h0.size > a by omega) L2)
  refine gstB hx V1 ⟨by decide, by decide⟩ (i := 3) rfl (Nat.le_of_ble_eq_true rfl) (y := ((ch >>> ((8 : Int32) &&& 31)).toInt8.toInt32)) (narB _) P1 (fun _ => f3) 53 (hb hby own_d_jdk_52_method_4_52) rfl ?_
  intro h2 W2 C2 V2
  have z2 := C2.2.1
  replace V2 : Arv Z h2 a ka .byte (4 : Int32) [u0, u1, (.int ((ch >>> ((0 : Int32) &&& 31)).toInt8.toInt32)), (.int ((ch >>> ((8 : Int32) &&& 31)).toInt8.toInt32))] (.int (0 : Int32)) := V2
  have f5 := (C2.safe (show h1.size > a by omega) f3)
  exact gretV hx hret (hb hby own_d_jdk_52_method_4_53) (by decide) (by decide) (fun vq Cq => ⟨rfl, (((Keep.refl h0 [a]).wr W1 (Or.inl (List.mem_of_getElem? (i := 0) rfl))).wr W2 (Or.inl (List.mem_of_getElem? (i := 0) rfl))), V2, (Cq.safe (show h2.size > a by omega) f5)⟩)
set_option maxRecDepth 65536 in
set_option maxHeartbeats 40000000 in
theorem own_gc2_1 (l : Launch) (Z : State) (a0 : Array Value) (cx : Ctx Z a0) (ws : List Jvm.Cond) (a : Addr) (ka : ClassId) (b0 : Int32) (b1 : Int32) (u0 : Value) (u1 : Value) (vm0 : Vm) (h0 : Heap) (X00 : Ext Z.heap h0) (P0 : Arv Z h0 a ka .byte (4 : Int32) [u0, u1, (.int b0), (.int b1)] (.int (0 : Int32))) :
    Met l (⟨"java/lang/StringUTF16", "getChar", "([BI)C"⟩ : MethodName) jdk_52_method_5_code 2 (some .char) ws ({ frames := 0, cells := 0, slots := 0, locals := 0 } : Room) Z ([] : List (String × Nat)) vm0 h0 #[(.ref a), (.int (1 : Int32))] (fun v vm h => v = some (.int (StrChars.pairCh b0 b1)) ∧ h0 = h) := by
  obtain ⟨hw, hEL, ⟨zc, Scs, hzc⟩, ⟨fm, Sfm, hfm⟩, Sad, Shi, Slo⟩ := id cx
  have hSA := own_SA hw
  refine Met.of_walk (a0 := a0) #[.val (.ref a), .val (.int (1 : Int32))] (plainFor_of_name own_pn14) X00 hEL (fun m => by first | (simp [entryFrame, mkF, argsToLocals, Value.category]; done) | rfl) ?_
  intro p e s m below meth c vm hx hby hml hret hnm hC0
  have lt_a : h0.size > a := P0.lt
  refine ggetS (host := "") hx (Or.inl (ow hw 56 rfl)) Via.refl Sad 3 (hb hby own_d_jdk_52_method_5_0) rfl ?_
  refine gs (mkF m 28 #[.val (.ref a), .val (.int (1 : Int32))] []) (fun _ _ A k => XS.ifYes A hx rfl (pc0 := 3) (pc' := 28) rfl (hb hby own_d_jdk_52_method_5_3) rfl ((if0 _ _).trans (feq (by decide)).2) (by decide) (by decide) k) ?_
  refine gs (mkF m 29 #[.val (.ref a), .val (.int (1 : Int32))] [(.int (1 : Int32))]) (fun _ _ A k => XS.iloadN A hx rfl (hb hby own_d_jdk_52_method_5_28) rfl  k) ?_
  refine gs (mkF m 30 #[.val (.ref a), .val (.int (1 : Int32))] [(.int (1 : Int32)), (.int (1 : Int32))]) (fun _ _ A k => XS.iconst A hx rfl (hb hby own_d_jdk_52_method_5_29) k) ?_
  refine gs (mkF m 31 #[.val (.ref a), .val (.int (1 : Int32))] [(.int (2 : Int32))]) (fun _ _ A k => XS.ishl A hx rfl (hb hby own_d_jdk_52_method_5_30) rfl k) ?_
  refine gs (mkF m 32 #[.val (.ref a), .val (.int (2 : Int32))] []) (fun _ _ A k => XS.istoreN A hx rfl (hb hby own_d_jdk_52_method_5_31) rfl (l' := #[.val (.ref a), .val (.int (2 : Int32))]) rfl k) ?_
  refine gs (mkF m 33 #[.val (.ref a), .val (.int (2 : Int32))] [(.ref a)]) (fun _ _ A k => XS.aloadN A hx rfl (hb hby own_d_jdk_52_method_5_32) rfl rfl k) ?_
  refine gs (mkF m 34 #[.val (.ref a), .val (.int (2 : Int32))] [(.int (2 : Int32)), (.ref a)]) (fun _ _ A k => XS.iloadN A hx rfl (hb hby own_d_jdk_52_method_5_33) rfl  k) ?_
  refine gs (mkF m 37 #[.val (.ref a), .val (.int (3 : Int32))] [(.int (2 : Int32)), (.ref a)]) (fun _ _ A k => XS.iinc A hx rfl (hb hby own_d_jdk_52_method_5_34) rfl (l' := #[.val (.ref a), .val (.int (3 : Int32))]) rfl k) ?_
  refine gldB hx P0 ⟨by decide, by decide⟩ (i := 2) rfl (v := (.int b0)) rfl 38 (hb hby own_d_jdk_52_method_5_37) rfl ?_
  refine gs (mkF m 41 #[.val (.ref a), .val (.int (3 : Int32))] [(.int (255 : Int32)), (.int b0)]) (fun _ _ A k => XS.sipush A hx rfl (hb hby own_d_jdk_52_method_5_38) k) ?_
  refine gs (mkF m 42 #[.val (.ref a), .val (.int (3 : Int32))] [(.int (b0 &&& (255 : Int32)))]) (fun _ _ A k => XS.iand A hx rfl (hb hby own_d_jdk_52_method_5_41) rfl k) ?_
  refine ggetS (host := "") hx (Or.inl (ow hw 57 rfl)) Via.refl Shi 45 (hb hby own_d_jdk_52_method_5_42) rfl ?_
  refine gs (mkF m 46 #[.val (.ref a), .val (.int (3 : Int32))] [(.int ((b0 &&& (255 : Int32)) <<< ((0 : Int32) &&& 31)))]) (fun _ _ A k => XS.ishl A hx rfl (hb hby own_d_jdk_52_method_5_45) rfl k) ?_
  refine gs (mkF m 47 #[.val (.ref a), .val (.int (3 : Int32))] [(.ref a), (.int ((b0 &&& (255 : Int32)) <<< ((0 : Int32) &&& 31)))]) (fun _ _ A k => XS.aloadN A hx rfl (hb hby own_d_jdk_52_method_5_46) rfl rfl k) ?_
  refine gs (mkF m 48 #[.val (.ref a), .val (.int (3 : Int32))] [(.int (3 : Int32)), (.ref a), (.int ((b0 &&& (255 : Int32)) <<< ((0 : Int32) &&& 31)))]) (fun _ _ A k => XS.iloadN A hx rfl (hb hby own_d_jdk_52_method_5_47) rfl  k) ?_
  refine gldB hx P0 ⟨by decide, by decide⟩ (i := 3) rfl (v := (.int b1)) rfl 49 (hb hby own_d_jdk_52_method_5_48) rfl ?_
  refine gs (mkF m 52 #[.val (.ref a), .val (.int (3 : Int32))] [(.int (255 : Int32)), (.int b1), (.int ((b0 &&& (255 : Int32)) <<< ((0 : Int32) &&& 31)))]) (fun _ _ A k => XS.sipush A hx rfl (hb hby own_d_jdk_52_method_5_49) k) ?_
  refine gs (mkF m 53 #[.val (.ref a), .val (.int (3 : Int32))] [(.int (b1 &&& (255 : Int32))), (.int ((b0 &&& (255 : Int32)) <<< ((0 : Int32) &&& 31)))]) (fun _ _ A k => XS.iand A hx rfl (hb hby own_d_jdk_52_method_5_52) rfl k) ?_
  refine ggetS (host := "") hx (Or.inl (ow hw 58 rfl)) Via.refl Slo 56 (hb hby own_d_jdk_52_method_5_53) rfl ?_
  refine gs (mkF m 57 #[.val (.ref a), .val (.int (3 : Int32))] [(.int ((b1 &&& (255 : Int32)) <<< ((8 : Int32) &&& 31))), (.int ((b0 &&& (255 : Int32)) <<< ((0 : Int32) &&& 31)))]) (fun _ _ A k => XS.ishl A hx rfl (hb hby own_d_jdk_52_method_5_56) rfl k) ?_
  refine gs (mkF m 58 #[.val (.ref a), .val (.int (3 : Int32))] [(.int (((b0 &&& (255 : Int32)) <<< ((0 : Int32) &&& 31)) ||| ((b1 &&& (255 : Int32)) <<< ((8 : Int32) &&& 31))))]) (fun _ _ A k => XS.ior A hx rfl (hb hby own_d_jdk_52_method_5_57) rfl k) ?_
  refine gi2c hx rfl 59 (hb hby own_d_jdk_52_method_5_58) rfl ?_
  exact gretN (t := .char) hx hret (by simp) (hb hby own_d_jdk_52_method_5_59) (by decide) (by decide) (fun vq Cq => ⟨(congrArg (fun z => some (Value.int z)) (narC2 _)), rfl⟩)
set_option maxRecDepth 65536 in
set_option maxHeartbeats 40000000 in
theorem own_tb2 (l : Launch) (Z : State) (a0 : Array Value) (cx : Ctx Z a0) (ws : List Jvm.Cond) (a : Addr) (kc : ClassId) (c0 : Int32) (c1 : Int32) (vm0 : Vm) (h0 : Heap) (X00 : Ext Z.heap h0) (P0 : Arv Z h0 a kc .char (2 : Int32) [(.int c0), (.int c1)] (.int (0 : Int32))) :
    Met l (⟨"java/lang/StringUTF16", "toBytes", "([CII)[B"⟩ : MethodName) jdk_52_method_14_code 5 (some (.array .byte)) ws ({ frames := 2, cells := 1, slots := 4, locals := 24 } : Room) Z ([] : List (String × Nat)) vm0 h0 #[(.ref a), (.int (0 : Int32)), (.int (2 : Int32))] (fun v vm h => ∃ (r : Addr), ∃ (kb : ClassId), v = some (.ref r) ∧ Keep h0 h [] ∧ h0.size ≤ r ∧ Arv Z h r kb .byte (4 : Int32) [(.int ((c0 >>> ((0 : Int32) &&& 31)).toInt8.toInt32)), (.int ((c0 >>> ((8 : Int32) &&& 31)).toInt8.toInt32)), (.int ((c1 >>> ((0 : Int32) &&& 31)).toInt8.toInt32)), (.int ((c1 >>> ((8 : Int32) &&& 31)).toInt8.toInt32))] (.int (0 : Int32))) := by
  obtain ⟨hw, hEL, ⟨zc, Scs, hzc⟩, ⟨fm, Sfm, hfm⟩, Sad, Shi, Slo⟩ := id cx
  have hSA := own_SA hw
  refine Met.of_walk (a0 := a0) #[.val (.ref a), .val (.int (0 : Int32)), .val (.int (2 : Int32)), .unset, .unset] (plainFor_of_name own_pn14) X00 hEL (fun m => by first | (simp [entryFrame, mkF, argsToLocals, Value.category]; done) | rfl) ?_
  intro p e s m below meth c vm hx hby hml hret hnm hC0
  have lt_a : h0.size > a := P0.lt
  refine gs (mkF m 1 #[.val (.ref a), .val (.int (0 : Int32)), .val (.int (2 : Int32)), .unset, .unset] [(.int (2 : Int32))]) (fun _ _ A k => XS.iloadN A hx rfl (hb hby own_d_jdk_52_method_14_0) rfl  k) ?_
  refine ginfo fun _ _ O1 => ?_
  refine gcallS (y := (⟨"java/lang/StringUTF16", "newBytesFor", "(I)[B"⟩ : MethodName)) hx (ow hw 46 rfl) (ow hw 47 rfl) (ow hw 18 rfl) (ow hw 48 rfl) (by decide) (fun hZ H hEL => Pay.of_met (W := 0) (own_nbf2 l Z a0 cx []  vm h0 O1 ) (ow hw 48 rfl) (ow hw 18 rfl) (by decide) (by decide) hZ H hEL) 4 (argsL := [(.int (2 : Int32))]) (rest := []) (lenOf own_pd88 rfl) rfl rfl (Nat.le_of_eq rfl) (by rw [hml]; rfl) (hb hby own_d_jdk_52_method_14_1) rfl (by decide) (by decide) ?_
  rintro _ vm1 h1 C1 ⟨r1, kb1, rfl, K1, q1_0, q1_1, q1_2, q1_3⟩
  have z1 := C1.2.1
  have lt_r1 : h1.size > r1 := q1_3.lt
  refine gat (mkF m 4 #[.val (.ref a), .val (.int (0 : Int32)), .val (.int (2 : Int32)), .unset, .unset] [(.ref r1)]) rfl ?_
  refine gs (mkF m 5 #[.val (.ref a), .val (.int (0 : Int32)), .val (.int (2 : Int32)), .val (.ref r1), .unset] []) (fun _ _ A k => XS.astoreN A hx rfl (hb hby own_d_jdk_52_method_14_4) rfl rfl (l' := #[.val (.ref a), .val (.int (0 : Int32)), .val (.int (2 : Int32)), .val (.ref r1), .unset]) rfl k) ?_
  refine gs (mkF m 6 #[.val (.ref a), .val (.int (0 : Int32)), .val (.int (2 : Int32)), .val (.ref r1), .unset] [(.int (0 : Int32))]) (fun _ _ A k => XS.iconst A hx rfl (hb hby own_d_jdk_52_method_14_5) k) ?_
  refine gs (mkF m 8 #[.val (.ref a), .val (.int (0 : Int32)), .val (.int (2 : Int32)), .val (.ref r1), .val (.int (0 : Int32))] []) (fun _ _ A k => XS.istore A hx rfl (hb hby own_d_jdk_52_method_14_6) rfl (l' := #[.val (.ref a), .val (.int (0 : Int32)), .val (.int (2 : Int32)), .val (.ref r1), .val (.int (0 : Int32))]) rfl k) ?_
  refine gs (mkF m 10 #[.val (.ref a), .val (.int (0 : Int32)), .val (.int (2 : Int32)), .val (.ref r1), .val (.int (0 : Int32))] [(.int (0 : Int32))]) (fun _ _ A k => XS.iload A hx rfl (hb hby own_d_jdk_52_method_14_8) rfl  k) ?_
  refine gs (mkF m 11 #[.val (.ref a), .val (.int (0 : Int32)), .val (.int (2 : Int32)), .val (.ref r1), .val (.int (0 : Int32))] [(.int (2 : Int32)), (.int (0 : Int32))]) (fun _ _ A k => XS.iloadN A hx rfl (hb hby own_d_jdk_52_method_14_10) rfl  k) ?_
  refine gs (mkF m 14 #[.val (.ref a), .val (.int (0 : Int32)), .val (.int (2 : Int32)), .val (.ref r1), .val (.int (0 : Int32))] []) (fun _ _ A k => XS.icmpNo A hx rfl (hb hby own_d_jdk_52_method_14_11) rfl (tlt (by decide)).2.1 k) ?_
  refine gs (mkF m 15 #[.val (.ref a), .val (.int (0 : Int32)), .val (.int (2 : Int32)), .val (.ref r1), .val (.int (0 : Int32))] [(.ref r1)]) (fun _ _ A k => XS.aloadN A hx rfl (hb hby own_d_jdk_52_method_14_14) rfl rfl k) ?_
  refine gs (mkF m 17 #[.val (.ref a), .val (.int (0 : Int32)), .val (.int (2 : Int32)), .val (.ref r1), .val (.int (0 : Int32))] [(.int (0 : Int32)), (.ref r1)]) (fun _ _ A k => XS.iload A hx rfl (hb hby own_d_jdk_52_method_14_15) rfl  k) ?_
  refine gs (mkF m 18 #[.val (.ref a), .val (.int (0 : Int32)), .val (.int (2 : Int32)), .val (.ref r1), .val (.int (0 : Int32))] [(.ref a), (.int (0 : Int32)), (.ref r1)]) (fun _ _ A k => XS.aloadN A hx rfl (hb hby own_d_jdk_52_method_14_17) rfl rfl k) ?_
  refine gs (mkF m 19 #[.val (.ref a), .val (.int (0 : Int32)), .val (.int (2 : Int32)), .val (.ref r1), .val (.int (0 : Int32))] [(.int (0 : Int32)), (.ref a), (.int (0 : Int32)), (.ref r1)]) (fun _ _ A k => XS.iloadN A hx rfl (hb hby own_d_jdk_52_method_14_18) rfl  k) ?_
  have f2 := (P0.keep K1 nin0)
  refine gldC hx f2 ⟨by decide, by decide⟩ (i := 0) rfl (v := (.int c0)) rfl 20 (hb hby own_d_jdk_52_method_14_19) rfl ?_
  refine ginfo fun _ _ O3 => ?_
  refine gcallS (y := (⟨"java/lang/StringUTF16", "putChar", "([BII)V"⟩ : MethodName)) hx (ow hw 53 rfl) (ow hw 54 rfl) (ow hw 18 rfl) (ow hw 55 rfl) (by decide) (fun hZ H hEL => Pay.of_met (W := 0) (own_pc2_0 l Z a0 cx [] (r1) (c0) (kb1) ((.int (0 : Int32))) ((.int (0 : Int32))) ((.int (0 : Int32))) ((.int (0 : Int32))) vm1 h1 O3 q1_3 q1_1 q1_2) (ow hw 55 rfl) (ow hw 18 rfl) (by decide) (by decide) hZ H hEL) 23 (argsL := [(.ref r1), (.int (0 : Int32)), (.int c0)]) (rest := []) (lenOf own_pd101 rfl) rfl rfl (Nat.le_of_eq rfl) (by rw [hml]; rfl) (hb hby own_d_jdk_52_method_14_20) rfl (by decide) (by decide) ?_
  rintro _ vm3 h3 C3 ⟨rfl, K3, q3_0, q3_1⟩
  have z3 := C3.2.1
  refine gat (mkF m 23 #[.val (.ref a), .val (.int (0 : Int32)), .val (.int (2 : Int32)), .val (.ref r1), .val (.int (0 : Int32))] []) rfl ?_
  refine gs (mkF m 26 #[.val (.ref a), .val (.int (1 : Int32)), .val (.int (2 : Int32)), .val (.ref r1), .val (.int (0 : Int32))] []) (fun _ _ A k => XS.iinc A hx rfl (hb hby own_d_jdk_52_method_14_23) rfl (l' := #[.val (.ref a), .val (.int (1 : Int32)), .val (.int (2 : Int32)), .val (.ref r1), .val (.int (0 : Int32))]) rfl k) ?_
  refine gs (mkF m 29 #[.val (.ref a), .val (.int (1 : Int32)), .val (.int (2 : Int32)), .val (.ref r1), .val (.int (1 : Int32))] []) (fun _ _ A k => XS.iinc A hx rfl (hb hby own_d_jdk_52_method_14_26) rfl (l' := #[.val (.ref a), .val (.int (1 : Int32)), .val (.int (2 : Int32)), .val (.ref r1), .val (.int (1 : Int32))]) rfl k) ?_
  refine gs (mkF m 8 #[.val (.ref a), .val (.int (1 : Int32)), .val (.int (2 : Int32)), .val (.ref r1), .val (.int (1 : Int32))] []) (fun _ _ A k => XS.goto A hx rfl (pc0 := 29) (pc' := 8) rfl (hb hby own_d_jdk_52_method_14_29) (by decide) (by decide) k) ?_
  refine gs (mkF m 10 #[.val (.ref a), .val (.int (1 : Int32)), .val (.int (2 : Int32)), .val (.ref r1), .val (.int (1 : Int32))] [(.int (1 : Int32))]) (fun _ _ A k => XS.iload A hx rfl (hb hby own_d_jdk_52_method_14_8) rfl  k) ?_
  refine gs (mkF m 11 #[.val (.ref a), .val (.int (1 : Int32)), .val (.int (2 : Int32)), .val (.ref r1), .val (.int (1 : Int32))] [(.int (2 : Int32)), (.int (1 : Int32))]) (fun _ _ A k => XS.iloadN A hx rfl (hb hby own_d_jdk_52_method_14_10) rfl  k) ?_
  refine gs (mkF m 14 #[.val (.ref a), .val (.int (1 : Int32)), .val (.int (2 : Int32)), .val (.ref r1), .val (.int (1 : Int32))] []) (fun _ _ A k => XS.icmpNo A hx rfl (hb hby own_d_jdk_52_method_14_11) rfl (tlt (by decide)).2.1 k) ?_
  refine gs (mkF m 15 #[.val (.ref a), .val (.int (1 : Int32)), .val (.int (2 : Int32)), .val (.ref r1), .val (.int (1 : Int32))] [(.ref r1)]) (fun _ _ A k => XS.aloadN A hx rfl (hb hby own_d_jdk_52_method_14_14) rfl rfl k) ?_
  refine gs (mkF m 17 #[.val (.ref a), .val (.int (1 : Int32)), .val (.int (2 : Int32)), .val (.ref r1), .val (.int (1 : Int32))] [(.int (1 : Int32)), (.ref r1)]) (fun _ _ A k => XS.iload A hx rfl (hb hby own_d_jdk_52_method_14_15) rfl  k) ?_
  refine gs (mkF m 18 #[.val (.ref a), .val (.int (1 : Int32)), .val (.int (2 : Int32)), .val (.ref r1), .val (.int (1 : Int32))] [(.ref a), (.int (1 : Int32)), (.ref r1)]) (fun _ _ A k => XS.aloadN A hx rfl (hb hby own_d_jdk_52_method_14_17) rfl rfl k) ?_
  refine gs (mkF m 19 #[.val (.ref a), .val (.int (1 : Int32)), .val (.int (2 : Int32)), .val (.ref r1), .val (.int (1 : Int32))] [(.int (1 : Int32)), (.ref a), (.int (1 : Int32)), (.ref r1)]) (fun _ _ A k => XS.iloadN A hx rfl (hb hby own_d_jdk_52_method_14_18) rfl  k) ?_
  have f4 := (f2.keep K3 (ninS (Nat.ne_of_lt (by omega)) nin0))
  refine gldC hx f4 ⟨by decide, by decide⟩ (i := 1) rfl (v := (.int c1)) rfl 20 (hb hby own_d_jdk_52_method_14_19) rfl ?_
  refine ginfo fun _ _ O5 => ?_
  refine gcallS (y := (⟨"java/lang/StringUTF16", "putChar", "([BII)V"⟩ : MethodName)) hx (ow hw 53 rfl) (ow hw 54 rfl) (ow hw 18 rfl) (ow hw 55 rfl) (by decide) (fun hZ H hEL => Pay.of_met (W := 0) (own_pc2_1 l Z a0 cx [] (r1) (c1) (kb1) ((.int ((c0 >>> ((0 : Int32) &&& 31)).toInt8.toInt32))) ((.int ((c0 >>> ((8 : Int32) &&& 31)).toInt8.toInt32))) ((.int (0 : Int32))) ((.int (0 : Int32))) vm3 h3 O5 q3_0 q1_1 q3_1) (ow hw 55 rfl) (ow hw 18 rfl) (by decide) (by decide) hZ H hEL) 23 (argsL := [(.ref r1), (.int (1 : Int32)), (.int c1)]) (rest := []) (lenOf own_pd101 rfl) rfl rfl (Nat.le_of_eq rfl) (by rw [hml]; rfl) (hb hby own_d_jdk_52_method_14_20) rfl (by decide) (by decide) ?_
  rintro _ vm5 h5 C5 ⟨rfl, K5, q5_0, q5_1⟩
  have z5 := C5.2.1
  refine gat (mkF m 23 #[.val (.ref a), .val (.int (1 : Int32)), .val (.int (2 : Int32)), .val (.ref r1), .val (.int (1 : Int32))] []) rfl ?_
  refine gs (mkF m 26 #[.val (.ref a), .val (.int (2 : Int32)), .val (.int (2 : Int32)), .val (.ref r1), .val (.int (1 : Int32))] []) (fun _ _ A k => XS.iinc A hx rfl (hb hby own_d_jdk_52_method_14_23) rfl (l' := #[.val (.ref a), .val (.int (2 : Int32)), .val (.int (2 : Int32)), .val (.ref r1), .val (.int (1 : Int32))]) rfl k) ?_
  refine gs (mkF m 29 #[.val (.ref a), .val (.int (2 : Int32)), .val (.int (2 : Int32)), .val (.ref r1), .val (.int (2 : Int32))] []) (fun _ _ A k => XS.iinc A hx rfl (hb hby own_d_jdk_52_method_14_26) rfl (l' := #[.val (.ref a), .val (.int (2 : Int32)), .val (.int (2 : Int32)), .val (.ref r1), .val (.int (2 : Int32))]) rfl k) ?_
  refine gs (mkF m 8 #[.val (.ref a), .val (.int (2 : Int32)), .val (.int (2 : Int32)), .val (.ref r1), .val (.int (2 : Int32))] []) (fun _ _ A k => XS.goto A hx rfl (pc0 := 29) (pc' := 8) rfl (hb hby own_d_jdk_52_method_14_29) (by decide) (by decide) k) ?_
  refine gs (mkF m 10 #[.val (.ref a), .val (.int (2 : Int32)), .val (.int (2 : Int32)), .val (.ref r1), .val (.int (2 : Int32))] [(.int (2 : Int32))]) (fun _ _ A k => XS.iload A hx rfl (hb hby own_d_jdk_52_method_14_8) rfl  k) ?_
  refine gs (mkF m 11 #[.val (.ref a), .val (.int (2 : Int32)), .val (.int (2 : Int32)), .val (.ref r1), .val (.int (2 : Int32))] [(.int (2 : Int32)), (.int (2 : Int32))]) (fun _ _ A k => XS.iloadN A hx rfl (hb hby own_d_jdk_52_method_14_10) rfl  k) ?_
  refine gs (mkF m 32 #[.val (.ref a), .val (.int (2 : Int32)), .val (.int (2 : Int32)), .val (.ref r1), .val (.int (2 : Int32))] []) (fun _ _ A k => XS.icmpYes A hx rfl (pc0 := 11) (pc' := 32) rfl (hb hby own_d_jdk_52_method_14_11) rfl (flt (by decide)).2.1 (by decide) (by decide) k) ?_
  refine gs (mkF m 33 #[.val (.ref a), .val (.int (2 : Int32)), .val (.int (2 : Int32)), .val (.ref r1), .val (.int (2 : Int32))] [(.ref r1)]) (fun _ _ A k => XS.aloadN A hx rfl (hb hby own_d_jdk_52_method_14_32) rfl rfl k) ?_
  exact gretA hx hret rfl rfl (hb hby own_d_jdk_52_method_14_33) (by decide) (by decide) (fun vq Cq => ⟨r1, kb1, rfl, ((((Keep.refl h0 []).trans K1 all0).trans K3 (allS (Or.inr (by omega)) all0)).trans K5 (allS (Or.inr (by omega)) all0)), (by omega), q5_0⟩)
set_option maxRecDepth 65536 in
set_option maxHeartbeats 40000000 in
theorem own_c3_2_0 (l : Launch) (Z : State) (a0 : Array Value) (cx : Ctx Z a0) (ws : List Jvm.Cond) (a : Addr) (kc : ClassId) (c0 : Int32) (c1 : Int32) (vm0 : Vm) (h0 : Heap) (X00 : Ext Z.heap h0) (P0 : Arv Z h0 a kc .char (2 : Int32) [(.int c0), (.int c1)] (.int (0 : Int32))) (P1 : (255 : Int32) < c0) (hB : ¬ c0 < 0 ∧ ¬ (65535 : Int32) < c0) :
    Met l (⟨"java/lang/StringUTF16", "compress", "([CII)[B"⟩ : MethodName) jdk_52_method_16_code 6 (some (.array .byte)) ws ({ frames := 3, cells := 2, slots := 6, locals := 40 } : Room) Z ([] : List (String × Nat)) vm0 h0 #[(.ref a), (.int (0 : Int32)), (.int (2 : Int32))] (fun v vm h => ∃ (r : Addr), ∃ (kb : ClassId), v = some (.ref r) ∧ Keep h0 h [] ∧ h0.size ≤ r ∧ Arv Z h r kb .byte (4 : Int32) [(.int ((c0 >>> ((0 : Int32) &&& 31)).toInt8.toInt32)), (.int ((c0 >>> ((8 : Int32) &&& 31)).toInt8.toInt32)), (.int ((c1 >>> ((0 : Int32) &&& 31)).toInt8.toInt32)), (.int ((c1 >>> ((8 : Int32) &&& 31)).toInt8.toInt32))] (.int (0 : Int32))) := by
  obtain ⟨hw, hEL, ⟨zc, Scs, hzc⟩, ⟨fm, Sfm, hfm⟩, Sad, Shi, Slo⟩ := id cx
  have hSA := own_SA hw
  refine Met.of_walk (a0 := a0) #[.val (.ref a), .val (.int (0 : Int32)), .val (.int (2 : Int32)), .unset, .unset, .unset] (plainFor_of_name own_pn14) X00 hEL (fun m => by first | (simp [entryFrame, mkF, argsToLocals, Value.category]; done) | rfl) ?_
  intro p e s m below meth c vm hx hby hml hret hnm hC0
  have lt_a : h0.size > a := P0.lt
  refine gs (mkF m 1 #[.val (.ref a), .val (.int (0 : Int32)), .val (.int (2 : Int32)), .unset, .unset, .unset] [(.int (2 : Int32))]) (fun _ _ A k => XS.iloadN A hx rfl (hb hby own_d_jdk_52_method_16_0) rfl  k) ?_
  refine gnewP hx (ow hw 20 rfl) (n := (2 : Int32)) (by decide) (cap := 2) (by decide) (by decide) 3 (hb hby own_d_jdk_52_method_16_1) rfl (by decide) (by decide) ?_
  intro b1 h1 k1 g1 E1 C1 V1 n1 L1
  have z1 := C1.2.1
  have V1 : Arv Z h1 b1 k1 .byte (2 : Int32) [(.int (0 : Int32)), (.int (0 : Int32))] (.int (0 : Int32)) := V1.pad (pad_rep [] (.int (0 : Int32)) 2)
  have lt_b1 : h1.size > b1 := V1.lt
  refine gs (mkF m 4 #[.val (.ref a), .val (.int (0 : Int32)), .val (.int (2 : Int32)), .val (.ref b1), .unset, .unset] []) (fun _ _ A k => XS.astoreN A hx rfl (hb hby own_d_jdk_52_method_16_3) rfl rfl (l' := #[.val (.ref a), .val (.int (0 : Int32)), .val (.int (2 : Int32)), .val (.ref b1), .unset, .unset]) rfl k) ?_
  refine gs (mkF m 5 #[.val (.ref a), .val (.int (0 : Int32)), .val (.int (2 : Int32)), .val (.ref b1), .unset, .unset] [(.ref a)]) (fun _ _ A k => XS.aloadN A hx rfl (hb hby own_d_jdk_52_method_16_4) rfl rfl k) ?_
  refine gs (mkF m 6 #[.val (.ref a), .val (.int (0 : Int32)), .val (.int (2 : Int32)), .val (.ref b1), .unset, .unset] [(.int (0 : Int32)), (.ref a)]) (fun _ _ A k => XS.iloadN A hx rfl (hb hby own_d_jdk_52_method_16_5) rfl  k) ?_
  refine gs (mkF m 7 #[.val (.ref a), .val (.int (0 : Int32)), .val (.int (2 : Int32)), .val (.ref b1), .unset, .unset] [(.ref b1), (.int (0 : Int32)), (.ref a)]) (fun _ _ A k => XS.aloadN A hx rfl (hb hby own_d_jdk_52_method_16_6) rfl rfl k) ?_
  refine gs (mkF m 8 #[.val (.ref a), .val (.int (0 : Int32)), .val (.int (2 : Int32)), .val (.ref b1), .unset, .unset] [(.int (0 : Int32)), (.ref b1), (.int (0 : Int32)), (.ref a)]) (fun _ _ A k => XS.iconst A hx rfl (hb hby own_d_jdk_52_method_16_7) k) ?_
  refine gs (mkF m 9 #[.val (.ref a), .val (.int (0 : Int32)), .val (.int (2 : Int32)), .val (.ref b1), .unset, .unset] [(.int (2 : Int32)), (.int (0 : Int32)), (.ref b1), (.int (0 : Int32)), (.ref a)]) (fun _ _ A k => XS.iloadN A hx rfl (hb hby own_d_jdk_52_method_16_8) rfl  k) ?_
  have f3 := (P0.ext E1)
  refine ginfo fun _ _ O2 => ?_
  refine gcallS (y := (⟨"java/lang/StringUTF16", "compress", "([CI[BII)I"⟩ : MethodName)) hx (ow hw 21 rfl) (ow hw 22 rfl) (ow hw 18 rfl) (ow hw 23 rfl) (by decide) (fun hZ H hEL => Pay.of_met (W := 0) (own_c5_2_0 l Z a0 cx [] (a) (b1) (kc) (k1) (c0) (c1) vm h1 O2 f3 V1 n1 L1 (Nat.ne_of_lt (by omega)) (by first | assumption | decide | omega)) (ow hw 23 rfl) (ow hw 18 rfl) (by decide) (by decide) hZ H hEL) 12 (argsL := [(.ref a), (.int (0 : Int32)), (.ref b1), (.int (0 : Int32)), (.int (2 : Int32))]) (rest := []) (lenOf own_pd116 rfl) rfl rfl (Nat.le_of_eq rfl) (by rw [hml]; rfl) (hb hby own_d_jdk_52_method_16_9) rfl (by decide) (by decide) ?_
  rintro _ vm2 h2 C2 ⟨rfl, K2, q2_0⟩
  have z2 := C2.2.1
  refine gat (mkF m 12 #[.val (.ref a), .val (.int (0 : Int32)), .val (.int (2 : Int32)), .val (.ref b1), .unset, .unset] [(.int (0 : Int32))]) rfl ?_
  refine gs (mkF m 14 #[.val (.ref a), .val (.int (0 : Int32)), .val (.int (2 : Int32)), .val (.ref b1), .val (.int (0 : Int32)), .unset] []) (fun _ _ A k => XS.istore A hx rfl (hb hby own_d_jdk_52_method_16_12) rfl (l' := #[.val (.ref a), .val (.int (0 : Int32)), .val (.int (2 : Int32)), .val (.ref b1), .val (.int (0 : Int32)), .unset]) rfl k) ?_
  refine gs (mkF m 16 #[.val (.ref a), .val (.int (0 : Int32)), .val (.int (2 : Int32)), .val (.ref b1), .val (.int (0 : Int32)), .unset] [(.int (0 : Int32))]) (fun _ _ A k => XS.iload A hx rfl (hb hby own_d_jdk_52_method_16_14) rfl  k) ?_
  refine gs (mkF m 17 #[.val (.ref a), .val (.int (0 : Int32)), .val (.int (2 : Int32)), .val (.ref b1), .val (.int (0 : Int32)), .unset] [(.int (2 : Int32)), (.int (0 : Int32))]) (fun _ _ A k => XS.iloadN A hx rfl (hb hby own_d_jdk_52_method_16_16) rfl  k) ?_
  refine gs (mkF m 20 #[.val (.ref a), .val (.int (0 : Int32)), .val (.int (2 : Int32)), .val (.ref b1), .val (.int (0 : Int32)), .unset] []) (fun _ _ A k => XS.icmpNo A hx rfl (hb hby own_d_jdk_52_method_16_17) rfl (feq (by decide)).1 k) ?_
  refine gs (mkF m 21 #[.val (.ref a), .val (.int (0 : Int32)), .val (.int (2 : Int32)), .val (.ref b1), .val (.int (0 : Int32)), .unset] [(.ref a)]) (fun _ _ A k => XS.aloadN A hx rfl (hb hby own_d_jdk_52_method_16_20) rfl rfl k) ?_
  refine gs (mkF m 22 #[.val (.ref a), .val (.int (0 : Int32)), .val (.int (2 : Int32)), .val (.ref b1), .val (.int (0 : Int32)), .unset] [(.int (0 : Int32)), (.ref a)]) (fun _ _ A k => XS.iloadN A hx rfl (hb hby own_d_jdk_52_method_16_21) rfl  k) ?_
  refine gs (mkF m 23 #[.val (.ref a), .val (.int (0 : Int32)), .val (.int (2 : Int32)), .val (.ref b1), .val (.int (0 : Int32)), .unset] [(.int (2 : Int32)), (.int (0 : Int32)), (.ref a)]) (fun _ _ A k => XS.iloadN A hx rfl (hb hby own_d_jdk_52_method_16_22) rfl  k) ?_
  have f5 := (f3.keep K2 (ninS (Nat.ne_of_lt (by omega)) nin0))
  refine ginfo fun _ _ O4 => ?_
  refine gcallS (y := (⟨"java/lang/StringUTF16", "toBytes", "([CII)[B"⟩ : MethodName)) hx (ow hw 43 rfl) (ow hw 44 rfl) (ow hw 18 rfl) (ow hw 45 rfl) (by decide) (fun hZ H hEL => Pay.of_met (W := 0) (own_tb2 l Z a0 cx [] (a) (kc) (c0) (c1) vm2 h2 O4 f5) (ow hw 45 rfl) (ow hw 18 rfl) (by decide) (by decide) hZ H hEL) 26 (argsL := [(.ref a), (.int (0 : Int32)), (.int (2 : Int32))]) (rest := []) (lenOf own_pd125 rfl) rfl rfl (Nat.le_of_eq rfl) (by rw [hml]; rfl) (hb hby own_d_jdk_52_method_16_23) rfl (by decide) (by decide) ?_
  rintro _ vm4 h4 C4 ⟨r4, kb4, rfl, K4, q4_0, q4_1⟩
  have z4 := C4.2.1
  have lt_r4 : h4.size > r4 := q4_1.lt
  refine gat (mkF m 26 #[.val (.ref a), .val (.int (0 : Int32)), .val (.int (2 : Int32)), .val (.ref b1), .val (.int (0 : Int32)), .unset] [(.ref r4)]) rfl ?_
  refine gs (mkF m 28 #[.val (.ref a), .val (.int (0 : Int32)), .val (.int (2 : Int32)), .val (.ref b1), .val (.int (0 : Int32)), .val (.ref r4)] []) (fun _ _ A k => XS.astore A hx rfl (hb hby own_d_jdk_52_method_16_26) rfl rfl (l' := #[.val (.ref a), .val (.int (0 : Int32)), .val (.int (2 : Int32)), .val (.ref b1), .val (.int (0 : Int32)), .val (.ref r4)]) rfl k) ?_
  refine gs (mkF m 30 #[.val (.ref a), .val (.int (0 : Int32)), .val (.int (2 : Int32)), .val (.ref b1), .val (.int (0 : Int32)), .val (.ref r4)] [(.ref r4)]) (fun _ _ A k => XS.aload A hx rfl (hb hby own_d_jdk_52_method_16_28) rfl rfl k) ?_
  refine gs (mkF m 32 #[.val (.ref a), .val (.int (0 : Int32)), .val (.int (2 : Int32)), .val (.ref b1), .val (.int (0 : Int32)), .val (.ref r4)] [(.int (0 : Int32)), (.ref r4)]) (fun _ _ A k => XS.iload A hx rfl (hb hby own_d_jdk_52_method_16_30) rfl  k) ?_
  refine ginfo fun _ _ O6 => ?_
  refine gcallS (y := (⟨"java/lang/StringUTF16", "getChar", "([BI)C"⟩ : MethodName)) hx (ow hw 59 rfl) (ow hw 60 rfl) (ow hw 18 rfl) (ow hw 61 rfl) (by decide) (fun hZ H hEL => Pay.of_met (W := 0) (own_gc2_0 l Z a0 cx [] (r4) (kb4) (((c0 >>> ((0 : Int32) &&& 31)).toInt8.toInt32)) (((c0 >>> ((8 : Int32) &&& 31)).toInt8.toInt32)) ((.int ((c1 >>> ((0 : Int32) &&& 31)).toInt8.toInt32))) ((.int ((c1 >>> ((8 : Int32) &&& 31)).toInt8.toInt32))) vm4 h4 O6 q4_1) (ow hw 61 rfl) (ow hw 18 rfl) (by decide) (by decide) hZ H hEL) 35 (argsL := [(.ref r4), (.int (0 : Int32))]) (rest := []) (lenOf own_pd130 rfl) rfl rfl (Nat.le_of_eq rfl) (by rw [hml]; rfl) (hb hby own_d_jdk_52_method_16_32) rfl (by decide) (by decide) ?_
  rintro _ vm6 h6 C6 ⟨rfl, rfl⟩
  have z6 := C6.2.1
  refine gat (mkF m 35 #[.val (.ref a), .val (.int (0 : Int32)), .val (.int (2 : Int32)), .val (.ref b1), .val (.int (0 : Int32)), .val (.ref r4)] [(.int (StrChars.pairCh ((c0 >>> ((0 : Int32) &&& 31)).toInt8.toInt32) ((c0 >>> ((8 : Int32) &&& 31)).toInt8.toInt32)))]) rfl ?_
  refine gs (mkF m 38 #[.val (.ref a), .val (.int (0 : Int32)), .val (.int (2 : Int32)), .val (.ref b1), .val (.int (0 : Int32)), .val (.ref r4)] [(.int (255 : Int32)), (.int (StrChars.pairCh ((c0 >>> ((0 : Int32) &&& 31)).toInt8.toInt32) ((c0 >>> ((8 : Int32) &&& 31)).toInt8.toInt32)))]) (fun _ _ A k => XS.sipush A hx rfl (hb hby own_d_jdk_52_method_16_35) k) ?_
  refine gs (mkF m 54 #[.val (.ref a), .val (.int (0 : Int32)), .val (.int (2 : Int32)), .val (.ref b1), .val (.int (0 : Int32)), .val (.ref r4)] []) (fun _ _ A k => XS.icmpYes A hx rfl (pc0 := 38) (pc' := 54) rfl (hb hby own_d_jdk_52_method_16_38) rfl (tlt (own_pair hB P1)).2.2.1 (by decide) (by decide) k) ?_
  refine gs (mkF m 56 #[.val (.ref a), .val (.int (0 : Int32)), .val (.int (2 : Int32)), .val (.ref b1), .val (.int (0 : Int32)), .val (.ref r4)] [(.ref r4)]) (fun _ _ A k => XS.aload A hx rfl (hb hby own_d_jdk_52_method_16_54) rfl rfl k) ?_
  exact gretA hx hret rfl rfl (hb hby own_d_jdk_52_method_16_56) (by decide) (by decide) (fun vq Cq => ⟨r4, kb4, rfl, ((((Keep.refl h0 []).ext E1).trans K2 (allS (Or.inr (by omega)) all0)).trans K4 all0), (by omega), q4_1⟩)
set_option maxRecDepth 65536 in
set_option maxHeartbeats 40000000 in
theorem own_cod_2_0 (l : Launch) (Z : State) (a0 : Array Value) (cx : Ctx Z a0) (ws : List Jvm.Cond) (a : Addr) (ka : ClassId) (vs : List Value) (vm0 : Vm) (h0 : Heap) (X00 : Ext Z.heap h0) (P0 : Arv Z h0 a ka .byte (4 : Int32) vs (.int (0 : Int32))) :
    Met l (⟨"java/lang/StringUTF16", "coderFromArrayLen", "([BI)B"⟩ : MethodName) jdk_52_method_15_code 2 (some .byte) ws ({ frames := 0, cells := 0, slots := 0, locals := 0 } : Room) Z ([] : List (String × Nat)) vm0 h0 #[(.ref a), (.int (2 : Int32))] (fun v vm h => v = some (.int (1 : Int32)) ∧ h0 = h) := by
  obtain ⟨hw, hEL, ⟨zc, Scs, hzc⟩, ⟨fm, Sfm, hfm⟩, Sad, Shi, Slo⟩ := id cx
  have hSA := own_SA hw
  refine Met.of_walk (a0 := a0) #[.val (.ref a), .val (.int (2 : Int32))] (plainFor_of_name own_pn14) X00 hEL (fun m => by first | (simp [entryFrame, mkF, argsToLocals, Value.category]; done) | rfl) ?_
  intro p e s m below meth c vm hx hby hml hret hnm hC0
  have lt_a : h0.size > a := P0.lt
  refine gs (mkF m 1 #[.val (.ref a), .val (.int (2 : Int32))] [(.int (2 : Int32))]) (fun _ _ A k => XS.iloadN A hx rfl (hb hby own_d_jdk_52_method_15_0) rfl  k) ?_
  refine gs (mkF m 2 #[.val (.ref a), .val (.int (2 : Int32))] [(.ref a), (.int (2 : Int32))]) (fun _ _ A k => XS.aloadN A hx rfl (hb hby own_d_jdk_52_method_15_1) rfl rfl k) ?_
  refine glen hx P0 3 (hb hby own_d_jdk_52_method_15_2) rfl ?_
  refine gs (mkF m 4 #[.val (.ref a), .val (.int (2 : Int32))] [(.int (-2 : Int32))]) (fun _ _ A k => XS.isub A hx rfl (hb hby own_d_jdk_52_method_15_3) rfl k) ?_
  refine gs (mkF m 6 #[.val (.ref a), .val (.int (2 : Int32))] [(.int (31 : Int32)), (.int (-2 : Int32))]) (fun _ _ A k => XS.bipush A hx rfl (hb hby own_d_jdk_52_method_15_4) k) ?_
  refine gs (mkF m 7 #[.val (.ref a), .val (.int (2 : Int32))] [(.int (1 : Int32))]) (fun _ _ A k => XS.iushr A hx rfl (hb hby own_d_jdk_52_method_15_6) rfl k) ?_
  refine gs (mkF m 8 #[.val (.ref a), .val (.int (2 : Int32))] [(.int (1 : Int32))]) (fun _ _ A k => XS.i2b A hx rfl (hb hby own_d_jdk_52_method_15_7) rfl k) ?_
  exact gretN (t := .byte) hx hret (by simp) (hb hby own_d_jdk_52_method_15_8) (by decide) (by decide) (fun vq Cq => ⟨rfl, rfl⟩)
set_option maxRecDepth 65536 in
set_option maxHeartbeats 40000000 in
theorem own_i4_2_0 (l : Launch) (Z : State) (a0 : Array Value) (cx : Ctx Z a0) (ws : List Jvm.Cond) (x : Addr) (a : Addr) (v0 : Value) (c0v : Value) (kc : ClassId) (c0 : Int32) (c1 : Int32) (vm0 : Vm) (h0 : Heap) (X00 : Ext Z.heap h0) (P0 : Exa Z h0 x "java/lang/String") (P1 : Fld Z h0 x "java/lang/String" "value" "[B" v0) (P2 : Fld Z h0 x "java/lang/String" "coder" "B" c0v) (P3 : Z.heap.size ≤ x) (P4 : Safe Z ([] : List (String × Nat)) vm0 h0 x) (P5 : Arv Z h0 a kc .char (2 : Int32) [(.int c0), (.int c1)] (.int (0 : Int32))) (P6 : (255 : Int32) < c0) (hB : ¬ c0 < 0 ∧ ¬ (65535 : Int32) < c0) :
    Met l (⟨"java/lang/String", "<init>", "([CIILjava/lang/Void;)V"⟩ : MethodName) jdk_42_method_149_code 6 none ws ({ frames := 4, cells := 2, slots := 6, locals := 57 } : Room) Z ([] : List (String × Nat)) vm0 h0 #[(.ref x), (.ref a), (.int (0 : Int32)), (.int (2 : Int32)), .null] (fun v vm h => ∃ (t : Addr), v = none ∧ Keep h0 h [x] ∧ Str0 Z h x t) := by
  obtain ⟨hw, hEL, ⟨zc, Scs, hzc⟩, ⟨fm, Sfm, hfm⟩, Sad, Shi, Slo⟩ := id cx
  have hSA := own_SA hw
  refine Met.of_walk (a0 := a0) #[.val (.ref x), .val (.ref a), .val (.int (0 : Int32)), .val (.int (2 : Int32)), .val .null, .unset] (plainFor_of_name own_pn164) X00 hEL (fun m => by first | (simp [entryFrame, mkF, argsToLocals, Value.category]; done) | rfl) ?_
  intro p e s m below meth c vm hx hby hml hret hnm hC0
  have lt_x : h0.size > x := P0.lt
  have L4 := hC0.safe lt_x P4
  have lt_a : h0.size > a := P5.lt
  refine gs (mkF m 1 #[.val (.ref x), .val (.ref a), .val (.int (0 : Int32)), .val (.int (2 : Int32)), .val .null, .unset] [(.ref x)]) (fun _ _ A k => XS.aloadN A hx rfl (hb hby own_d_jdk_42_method_149_0) rfl rfl k) ?_
  refine ginitO hx (ow hw 12 rfl) (ow hw 13 rfl) (ow hw 14 rfl) 4 (W := 0) (Nat.le_of_eq rfl) (by rw [hml]; rfl) (hb hby own_d_jdk_42_method_149_1) rfl (by decide) (by decide) ?_
  refine gs (mkF m 5 #[.val (.ref x), .val (.ref a), .val (.int (0 : Int32)), .val (.int (2 : Int32)), .val .null, .unset] [(.int (2 : Int32))]) (fun _ _ A k => XS.iloadN A hx rfl (hb hby own_d_jdk_42_method_149_4) rfl  k) ?_
  refine gs (mkF m 27 #[.val (.ref x), .val (.ref a), .val (.int (0 : Int32)), .val (.int (2 : Int32)), .val .null, .unset] []) (fun _ _ A k => XS.ifYes A hx rfl (pc0 := 5) (pc' := 27) rfl (hb hby own_d_jdk_42_method_149_5) rfl ((if0 _ _).trans (feq (by decide)).2) (by decide) (by decide) k) ?_
  refine ggetS (host := "") hx (Or.inl (ow hw 15 rfl)) Via.refl Scs 30 (hb hby own_d_jdk_42_method_149_27) rfl ?_
  refine gs (mkF m 33 #[.val (.ref x), .val (.ref a), .val (.int (0 : Int32)), .val (.int (2 : Int32)), .val .null, .unset] []) (fun _ _ A k => XS.ifNo A hx rfl (hb hby own_d_jdk_42_method_149_30) rfl ((if0 _ _).trans (feq hzc).1) k) ?_
  refine gs (mkF m 34 #[.val (.ref x), .val (.ref a), .val (.int (0 : Int32)), .val (.int (2 : Int32)), .val .null, .unset] [(.ref a)]) (fun _ _ A k => XS.aloadN A hx rfl (hb hby own_d_jdk_42_method_149_33) rfl rfl k) ?_
  refine gs (mkF m 35 #[.val (.ref x), .val (.ref a), .val (.int (0 : Int32)), .val (.int (2 : Int32)), .val .null, .unset] [(.int (0 : Int32)), (.ref a)]) (fun _ _ A k => XS.iloadN A hx rfl (hb hby own_d_jdk_42_method_149_34) rfl  k) ?_
  refine gs (mkF m 36 #[.val (.ref x), .val (.ref a), .val (.int (0 : Int32)), .val (.int (2 : Int32)), .val .null, .unset] [(.int (2 : Int32)), (.int (0 : Int32)), (.ref a)]) (fun _ _ A k => XS.iloadN A hx rfl (hb hby own_d_jdk_42_method_149_35) rfl  k) ?_
  refine ginfo fun _ _ O2 => ?_
  refine gcallS (y := (⟨"java/lang/StringUTF16", "compress", "([CII)[B"⟩ : MethodName)) hx (ow hw 16 rfl) (ow hw 17 rfl) (ow hw 18 rfl) (ow hw 19 rfl) (by decide) (fun hZ H hEL => Pay.of_met (W := 0) (own_c3_2_0 l Z a0 cx [] (a) (kc) (c0) (c1) vm h0 O2 P5 (by first | assumption | decide | omega) (by first | assumption | decide | omega)) (ow hw 19 rfl) (ow hw 18 rfl) (by decide) (by decide) hZ H hEL) 39 (argsL := [(.ref a), (.int (0 : Int32)), (.int (2 : Int32))]) (rest := []) (lenOf own_pd125 rfl) rfl rfl (Nat.le_of_eq rfl) (by rw [hml]; rfl) (hb hby own_d_jdk_42_method_149_36) rfl (by decide) (by decide) ?_
  rintro _ vm2 h2 C2 ⟨r2, kb2, rfl, K2, q2_0, q2_1⟩
  have z2 := C2.2.1
  have lt_r2 : h2.size > r2 := q2_1.lt
  refine gat (mkF m 39 #[.val (.ref x), .val (.ref a), .val (.int (0 : Int32)), .val (.int (2 : Int32)), .val .null, .unset] [(.ref r2)]) rfl ?_
  refine gs (mkF m 41 #[.val (.ref x), .val (.ref a), .val (.int (0 : Int32)), .val (.int (2 : Int32)), .val .null, .val (.ref r2)] []) (fun _ _ A k => XS.astore A hx rfl (hb hby own_d_jdk_42_method_149_39) rfl rfl (l' := #[.val (.ref x), .val (.ref a), .val (.int (0 : Int32)), .val (.int (2 : Int32)), .val .null, .val (.ref r2)]) rfl k) ?_
  refine gs (mkF m 42 #[.val (.ref x), .val (.ref a), .val (.int (0 : Int32)), .val (.int (2 : Int32)), .val .null, .val (.ref r2)] [(.ref x)]) (fun _ _ A k => XS.aloadN A hx rfl (hb hby own_d_jdk_42_method_149_41) rfl rfl k) ?_
  refine gs (mkF m 44 #[.val (.ref x), .val (.ref a), .val (.int (0 : Int32)), .val (.int (2 : Int32)), .val .null, .val (.ref r2)] [(.ref r2), (.ref x)]) (fun _ _ A k => XS.aload A hx rfl (hb hby own_d_jdk_42_method_149_42) rfl rfl k) ?_
  refine gs (mkF m 45 #[.val (.ref x), .val (.ref a), .val (.int (0 : Int32)), .val (.int (2 : Int32)), .val .null, .val (.ref r2)] [(.int (2 : Int32)), (.ref r2), (.ref x)]) (fun _ _ A k => XS.iloadN A hx rfl (hb hby own_d_jdk_42_method_149_44) rfl  k) ?_
  refine ginfo fun _ _ O3 => ?_
  refine gcallS (y := (⟨"java/lang/StringUTF16", "coderFromArrayLen", "([BI)B"⟩ : MethodName)) hx (ow hw 24 rfl) (ow hw 25 rfl) (ow hw 18 rfl) (ow hw 26 rfl) (by decide) (fun hZ H hEL => Pay.of_met (W := 1) (own_cod_2_0 l Z a0 cx [] (r2) (kb2) ([(.int ((c0 >>> ((0 : Int32) &&& 31)).toInt8.toInt32)), (.int ((c0 >>> ((8 : Int32) &&& 31)).toInt8.toInt32)), (.int ((c1 >>> ((0 : Int32) &&& 31)).toInt8.toInt32)), (.int ((c1 >>> ((8 : Int32) &&& 31)).toInt8.toInt32))]) vm2 h2 O3 q2_1) (ow hw 26 rfl) (ow hw 18 rfl) (by decide) (by decide) hZ H hEL) 48 (argsL := [(.ref r2), (.int (2 : Int32))]) (rest := [(.ref x)]) (lenOf own_pd158 rfl) rfl rfl (Nat.le_of_eq rfl) (by rw [hml]; rfl) (hb hby own_d_jdk_42_method_149_45) rfl (by decide) (by decide) ?_
  rintro _ vm3 h3 C3 ⟨rfl, rfl⟩
  have z3 := C3.2.1
  refine gat (mkF m 48 #[.val (.ref x), .val (.ref a), .val (.int (0 : Int32)), .val (.int (2 : Int32)), .val .null, .val (.ref r2)] [(.int (1 : Int32)), (.ref x)]) rfl ?_
  have f4 := (P2.keep K2 nin0)
  have f5 := (P0.keep K2)
  have f6 := (C3.safe (show h2.size > x by omega) (C2.safe (show h0.size > x by omega) L4))
  refine gputF (host := "") hx (Or.inl (ow hw 27 rfl)) Via.refl f4 f5 (Or.inr ⟨(ow hw 28 rfl), rfl, hnm⟩) (ow hw 3 rfl) (ty := .byte) (by decide) rfl rfl P3 (fun _ => f6) 51 (hb hby own_d_jdk_42_method_149_48) rfl ?_
  intro h7 W7 C7
  have z7 := C7.2.1
  have F7 := f4.same W7
  refine gs (mkF m 52 #[.val (.ref x), .val (.ref a), .val (.int (0 : Int32)), .val (.int (2 : Int32)), .val .null, .val (.ref r2)] [(.ref x)]) (fun _ _ A k => XS.aloadN A hx rfl (hb hby own_d_jdk_42_method_149_51) rfl rfl k) ?_
  refine gs (mkF m 54 #[.val (.ref x), .val (.ref a), .val (.int (0 : Int32)), .val (.int (2 : Int32)), .val .null, .val (.ref r2)] [(.ref r2), (.ref x)]) (fun _ _ A k => XS.aload A hx rfl (hb hby own_d_jdk_42_method_149_52) rfl rfl k) ?_
  have f8 := ((P1.keep K2 nin0).other W7 (Or.inr (slot_ne (Or.inr (ow hw 30 rfl)) (Or.inr (ow hw 28 rfl)) (by decide) (t := (.array .byte)) (t' := .byte) (by decide) (by decide))))
  have f9 := (f5.wr W7)
  have f10 := (C7.safe (show h2.size > x by omega) f6)
  refine gputF (host := "") hx (Or.inl (ow hw 29 rfl)) Via.refl f8 f9 (Or.inr ⟨(ow hw 30 rfl), rfl, hnm⟩) (ow hw 3 rfl) (ty := (.array .byte)) (by decide) rfl rfl P3 (fun _ => f10) 57 (hb hby own_d_jdk_42_method_149_54) rfl ?_
  intro h11 W11 C11
  have z11 := C11.2.1
  have F11 := f8.same W11
  have f12 := (f9.wr W11)
  have f13 := ((q2_1.other W7 (Nat.ne_of_gt (by omega))).other W11 (Nat.ne_of_gt (by omega)))
  exact gretV hx hret (hb hby own_d_jdk_42_method_149_57) (by decide) (by decide) (fun vq Cq => ⟨r2, rfl, ((((Keep.refl h0 [x]).trans K2 all0).wr W7 (Or.inl (List.mem_of_getElem? (i := 0) rfl))).wr W11 (Or.inl (List.mem_of_getElem? (i := 0) rfl))), ⟨f12, F11, _, _, _, f13, by decide⟩⟩)
set_option maxRecDepth 65536 in
set_option maxHeartbeats 40000000 in
theorem own_c3_2_1 (l : Launch) (Z : State) (a0 : Array Value) (cx : Ctx Z a0) (ws : List Jvm.Cond) (a : Addr) (kc : ClassId) (c0 : Int32) (c1 : Int32) (vm0 : Vm) (h0 : Heap) (X00 : Ext Z.heap h0) (P0 : Arv Z h0 a kc .char (2 : Int32) [(.int c0), (.int c1)] (.int (0 : Int32))) (P1 : ¬ (255 : Int32) < c0) (P2 : (255 : Int32) < c1) (hB : ¬ c1 < 0 ∧ ¬ (65535 : Int32) < c1) :
    Met l (⟨"java/lang/StringUTF16", "compress", "([CII)[B"⟩ : MethodName) jdk_52_method_16_code 6 (some (.array .byte)) ws ({ frames := 3, cells := 2, slots := 6, locals := 40 } : Room) Z ([] : List (String × Nat)) vm0 h0 #[(.ref a), (.int (0 : Int32)), (.int (2 : Int32))] (fun v vm h => ∃ (r : Addr), ∃ (kb : ClassId), v = some (.ref r) ∧ Keep h0 h [] ∧ h0.size ≤ r ∧ Arv Z h r kb .byte (4 : Int32) [(.int ((c0 >>> ((0 : Int32) &&& 31)).toInt8.toInt32)), (.int ((c0 >>> ((8 : Int32) &&& 31)).toInt8.toInt32)), (.int ((c1 >>> ((0 : Int32) &&& 31)).toInt8.toInt32)), (.int ((c1 >>> ((8 : Int32) &&& 31)).toInt8.toInt32))] (.int (0 : Int32))) := by
  obtain ⟨hw, hEL, ⟨zc, Scs, hzc⟩, ⟨fm, Sfm, hfm⟩, Sad, Shi, Slo⟩ := id cx
  have hSA := own_SA hw
  refine Met.of_walk (a0 := a0) #[.val (.ref a), .val (.int (0 : Int32)), .val (.int (2 : Int32)), .unset, .unset, .unset] (plainFor_of_name own_pn14) X00 hEL (fun m => by first | (simp [entryFrame, mkF, argsToLocals, Value.category]; done) | rfl) ?_
  intro p e s m below meth c vm hx hby hml hret hnm hC0
  have lt_a : h0.size > a := P0.lt
  refine gs (mkF m 1 #[.val (.ref a), .val (.int (0 : Int32)), .val (.int (2 : Int32)), .unset, .unset, .unset] [(.int (2 : Int32))]) (fun _ _ A k => XS.iloadN A hx rfl (hb hby own_d_jdk_52_method_16_0) rfl  k) ?_
  refine gnewP hx (ow hw 20 rfl) (n := (2 : Int32)) (by decide) (cap := 2) (by decide) (by decide) 3 (hb hby own_d_jdk_52_method_16_1) rfl (by decide) (by decide) ?_
  intro b1 h1 k1 g1 E1 C1 V1 n1 L1
  have z1 := C1.2.1
  have V1 : Arv Z h1 b1 k1 .byte (2 : Int32) [(.int (0 : Int32)), (.int (0 : Int32))] (.int (0 : Int32)) := V1.pad (pad_rep [] (.int (0 : Int32)) 2)
  have lt_b1 : h1.size > b1 := V1.lt
  refine gs (mkF m 4 #[.val (.ref a), .val (.int (0 : Int32)), .val (.int (2 : Int32)), .val (.ref b1), .unset, .unset] []) (fun _ _ A k => XS.astoreN A hx rfl (hb hby own_d_jdk_52_method_16_3) rfl rfl (l' := #[.val (.ref a), .val (.int (0 : Int32)), .val (.int (2 : Int32)), .val (.ref b1), .unset, .unset]) rfl k) ?_
  refine gs (mkF m 5 #[.val (.ref a), .val (.int (0 : Int32)), .val (.int (2 : Int32)), .val (.ref b1), .unset, .unset] [(.ref a)]) (fun _ _ A k => XS.aloadN A hx rfl (hb hby own_d_jdk_52_method_16_4) rfl rfl k) ?_
  refine gs (mkF m 6 #[.val (.ref a), .val (.int (0 : Int32)), .val (.int (2 : Int32)), .val (.ref b1), .unset, .unset] [(.int (0 : Int32)), (.ref a)]) (fun _ _ A k => XS.iloadN A hx rfl (hb hby own_d_jdk_52_method_16_5) rfl  k) ?_
  refine gs (mkF m 7 #[.val (.ref a), .val (.int (0 : Int32)), .val (.int (2 : Int32)), .val (.ref b1), .unset, .unset] [(.ref b1), (.int (0 : Int32)), (.ref a)]) (fun _ _ A k => XS.aloadN A hx rfl (hb hby own_d_jdk_52_method_16_6) rfl rfl k) ?_
  refine gs (mkF m 8 #[.val (.ref a), .val (.int (0 : Int32)), .val (.int (2 : Int32)), .val (.ref b1), .unset, .unset] [(.int (0 : Int32)), (.ref b1), (.int (0 : Int32)), (.ref a)]) (fun _ _ A k => XS.iconst A hx rfl (hb hby own_d_jdk_52_method_16_7) k) ?_
  refine gs (mkF m 9 #[.val (.ref a), .val (.int (0 : Int32)), .val (.int (2 : Int32)), .val (.ref b1), .unset, .unset] [(.int (2 : Int32)), (.int (0 : Int32)), (.ref b1), (.int (0 : Int32)), (.ref a)]) (fun _ _ A k => XS.iloadN A hx rfl (hb hby own_d_jdk_52_method_16_8) rfl  k) ?_
  have f3 := (P0.ext E1)
  refine ginfo fun _ _ O2 => ?_
  refine gcallS (y := (⟨"java/lang/StringUTF16", "compress", "([CI[BII)I"⟩ : MethodName)) hx (ow hw 21 rfl) (ow hw 22 rfl) (ow hw 18 rfl) (ow hw 23 rfl) (by decide) (fun hZ H hEL => Pay.of_met (W := 0) (own_c5_2_1 l Z a0 cx [] (a) (b1) (kc) (k1) (c0) (c1) vm h1 O2 f3 V1 n1 L1 (Nat.ne_of_lt (by omega)) (by first | assumption | decide | omega) (by first | assumption | decide | omega)) (ow hw 23 rfl) (ow hw 18 rfl) (by decide) (by decide) hZ H hEL) 12 (argsL := [(.ref a), (.int (0 : Int32)), (.ref b1), (.int (0 : Int32)), (.int (2 : Int32))]) (rest := []) (lenOf own_pd116 rfl) rfl rfl (Nat.le_of_eq rfl) (by rw [hml]; rfl) (hb hby own_d_jdk_52_method_16_9) rfl (by decide) (by decide) ?_
  rintro _ vm2 h2 C2 ⟨rfl, K2, q2_0⟩
  have z2 := C2.2.1
  refine gat (mkF m 12 #[.val (.ref a), .val (.int (0 : Int32)), .val (.int (2 : Int32)), .val (.ref b1), .unset, .unset] [(.int (1 : Int32))]) rfl ?_
  refine gs (mkF m 14 #[.val (.ref a), .val (.int (0 : Int32)), .val (.int (2 : Int32)), .val (.ref b1), .val (.int (1 : Int32)), .unset] []) (fun _ _ A k => XS.istore A hx rfl (hb hby own_d_jdk_52_method_16_12) rfl (l' := #[.val (.ref a), .val (.int (0 : Int32)), .val (.int (2 : Int32)), .val (.ref b1), .val (.int (1 : Int32)), .unset]) rfl k) ?_
  refine gs (mkF m 16 #[.val (.ref a), .val (.int (0 : Int32)), .val (.int (2 : Int32)), .val (.ref b1), .val (.int (1 : Int32)), .unset] [(.int (1 : Int32))]) (fun _ _ A k => XS.iload A hx rfl (hb hby own_d_jdk_52_method_16_14) rfl  k) ?_
  refine gs (mkF m 17 #[.val (.ref a), .val (.int (0 : Int32)), .val (.int (2 : Int32)), .val (.ref b1), .val (.int (1 : Int32)), .unset] [(.int (2 : Int32)), (.int (1 : Int32))]) (fun _ _ A k => XS.iloadN A hx rfl (hb hby own_d_jdk_52_method_16_16) rfl  k) ?_
  refine gs (mkF m 20 #[.val (.ref a), .val (.int (0 : Int32)), .val (.int (2 : Int32)), .val (.ref b1), .val (.int (1 : Int32)), .unset] []) (fun _ _ A k => XS.icmpNo A hx rfl (hb hby own_d_jdk_52_method_16_17) rfl (feq (by decide)).1 k) ?_
  refine gs (mkF m 21 #[.val (.ref a), .val (.int (0 : Int32)), .val (.int (2 : Int32)), .val (.ref b1), .val (.int (1 : Int32)), .unset] [(.ref a)]) (fun _ _ A k => XS.aloadN A hx rfl (hb hby own_d_jdk_52_method_16_20) rfl rfl k) ?_
  refine gs (mkF m 22 #[.val (.ref a), .val (.int (0 : Int32)), .val (.int (2 : Int32)), .val (.ref b1), .val (.int (1 : Int32)), .unset] [(.int (0 : Int32)), (.ref a)]) (fun _ _ A k => XS.iloadN A hx rfl (hb hby own_d_jdk_52_method_16_21) rfl  k) ?_
  refine gs (mkF m 23 #[.val (.ref a), .val (.int (0 : Int32)), .val (.int (2 : Int32)), .val (.ref b1), .val (.int (1 : Int32)), .unset] [(.int (2 : Int32)), (.int (0 : Int32)), (.ref a)]) (fun _ _ A k => XS.iloadN A hx rfl (hb hby own_d_jdk_52_method_16_22) rfl  k) ?_
  have f5 := (f3.keep K2 (ninS (Nat.ne_of_lt (by omega)) nin0))
  refine ginfo fun _ _ O4 => ?_
  refine gcallS (y := (⟨"java/lang/StringUTF16", "toBytes", "([CII)[B"⟩ : MethodName)) hx (ow hw 43 rfl) (ow hw 44 rfl) (ow hw 18 rfl) (ow hw 45 rfl) (by decide) (fun hZ H hEL => Pay.of_met (W := 0) (own_tb2 l Z a0 cx [] (a) (kc) (c0) (c1) vm2 h2 O4 f5) (ow hw 45 rfl) (ow hw 18 rfl) (by decide) (by decide) hZ H hEL) 26 (argsL := [(.ref a), (.int (0 : Int32)), (.int (2 : Int32))]) (rest := []) (lenOf own_pd125 rfl) rfl rfl (Nat.le_of_eq rfl) (by rw [hml]; rfl) (hb hby own_d_jdk_52_method_16_23) rfl (by decide) (by decide) ?_
  rintro _ vm4 h4 C4 ⟨r4, kb4, rfl, K4, q4_0, q4_1⟩
  have z4 := C4.2.1
  have lt_r4 : h4.size > r4 := q4_1.lt
  refine gat (mkF m 26 #[.val (.ref a), .val (.int (0 : Int32)), .val (.int (2 : Int32)), .val (.ref b1), .val (.int (1 : Int32)), .unset] [(.ref r4)]) rfl ?_
  refine gs (mkF m 28 #[.val (.ref a), .val (.int (0 : Int32)), .val (.int (2 : Int32)), .val (.ref b1), .val (.int (1 : Int32)), .val (.ref r4)] []) (fun _ _ A k => XS.astore A hx rfl (hb hby own_d_jdk_52_method_16_26) rfl rfl (l' := #[.val (.ref a), .val (.int (0 : Int32)), .val (.int (2 : Int32)), .val (.ref b1), .val (.int (1 : Int32)), .val (.ref r4)]) rfl k) ?_
  refine gs (mkF m 30 #[.val (.ref a), .val (.int (0 : Int32)), .val (.int (2 : Int32)), .val (.ref b1), .val (.int (1 : Int32)), .val (.ref r4)] [(.ref r4)]) (fun _ _ A k => XS.aload A hx rfl (hb hby own_d_jdk_52_method_16_28) rfl rfl k) ?_
  refine gs (mkF m 32 #[.val (.ref a), .val (.int (0 : Int32)), .val (.int (2 : Int32)), .val (.ref b1), .val (.int (1 : Int32)), .val (.ref r4)] [(.int (1 : Int32)), (.ref r4)]) (fun _ _ A k => XS.iload A hx rfl (hb hby own_d_jdk_52_method_16_30) rfl  k) ?_
  refine ginfo fun _ _ O6 => ?_
  refine gcallS (y := (⟨"java/lang/StringUTF16", "getChar", "([BI)C"⟩ : MethodName)) hx (ow hw 59 rfl) (ow hw 60 rfl) (ow hw 18 rfl) (ow hw 61 rfl) (by decide) (fun hZ H hEL => Pay.of_met (W := 0) (own_gc2_1 l Z a0 cx [] (r4) (kb4) (((c1 >>> ((0 : Int32) &&& 31)).toInt8.toInt32)) (((c1 >>> ((8 : Int32) &&& 31)).toInt8.toInt32)) ((.int ((c0 >>> ((0 : Int32) &&& 31)).toInt8.toInt32))) ((.int ((c0 >>> ((8 : Int32) &&& 31)).toInt8.toInt32))) vm4 h4 O6 q4_1) (ow hw 61 rfl) (ow hw 18 rfl) (by decide) (by decide) hZ H hEL) 35 (argsL := [(.ref r4), (.int (1 : Int32))]) (rest := []) (lenOf own_pd130 rfl) rfl rfl (Nat.le_of_eq rfl) (by rw [hml]; rfl) (hb hby own_d_jdk_52_method_16_32) rfl (by decide) (by decide) ?_
  rintro _ vm6 h6 C6 ⟨rfl, rfl⟩
  have z6 := C6.2.1
  refine gat (mkF m 35 #[.val (.ref a), .val (.int (0 : Int32)), .val (.int (2 : Int32)), .val (.ref b1), .val (.int (1 : Int32)), .val (.ref r4)] [(.int (StrChars.pairCh ((c1 >>> ((0 : Int32) &&& 31)).toInt8.toInt32) ((c1 >>> ((8 : Int32) &&& 31)).toInt8.toInt32)))]) rfl ?_
  refine gs (mkF m 38 #[.val (.ref a), .val (.int (0 : Int32)), .val (.int (2 : Int32)), .val (.ref b1), .val (.int (1 : Int32)), .val (.ref r4)] [(.int (255 : Int32)), (.int (StrChars.pairCh ((c1 >>> ((0 : Int32) &&& 31)).toInt8.toInt32) ((c1 >>> ((8 : Int32) &&& 31)).toInt8.toInt32)))]) (fun _ _ A k => XS.sipush A hx rfl (hb hby own_d_jdk_52_method_16_35) k) ?_
  refine gs (mkF m 54 #[.val (.ref a), .val (.int (0 : Int32)), .val (.int (2 : Int32)), .val (.ref b1), .val (.int (1 : Int32)), .val (.ref r4)] []) (fun _ _ A k => XS.icmpYes A hx rfl (pc0 := 38) (pc' := 54) rfl (hb hby own_d_jdk_52_method_16_38) rfl (tlt (own_pair hB P2)).2.2.1 (by decide) (by decide) k) ?_
  refine gs (mkF m 56 #[.val (.ref a), .val (.int (0 : Int32)), .val (.int (2 : Int32)), .val (.ref b1), .val (.int (1 : Int32)), .val (.ref r4)] [(.ref r4)]) (fun _ _ A k => XS.aload A hx rfl (hb hby own_d_jdk_52_method_16_54) rfl rfl k) ?_
  exact gretA hx hret rfl rfl (hb hby own_d_jdk_52_method_16_56) (by decide) (by decide) (fun vq Cq => ⟨r4, kb4, rfl, ((((Keep.refl h0 []).ext E1).trans K2 (allS (Or.inr (by omega)) all0)).trans K4 all0), (by omega), q4_1⟩)
set_option maxRecDepth 65536 in
set_option maxHeartbeats 40000000 in
theorem own_cod_2_1 (l : Launch) (Z : State) (a0 : Array Value) (cx : Ctx Z a0) (ws : List Jvm.Cond) (a : Addr) (ka : ClassId) (vs : List Value) (vm0 : Vm) (h0 : Heap) (X00 : Ext Z.heap h0) (P0 : Arv Z h0 a ka .byte (4 : Int32) vs (.int (0 : Int32))) :
    Met l (⟨"java/lang/StringUTF16", "coderFromArrayLen", "([BI)B"⟩ : MethodName) jdk_52_method_15_code 2 (some .byte) ws ({ frames := 0, cells := 0, slots := 0, locals := 0 } : Room) Z ([] : List (String × Nat)) vm0 h0 #[(.ref a), (.int (2 : Int32))] (fun v vm h => v = some (.int (1 : Int32)) ∧ h0 = h) := by
  obtain ⟨hw, hEL, ⟨zc, Scs, hzc⟩, ⟨fm, Sfm, hfm⟩, Sad, Shi, Slo⟩ := id cx
  have hSA := own_SA hw
  refine Met.of_walk (a0 := a0) #[.val (.ref a), .val (.int (2 : Int32))] (plainFor_of_name own_pn14) X00 hEL (fun m => by first | (simp [entryFrame, mkF, argsToLocals, Value.category]; done) | rfl) ?_
  intro p e s m below meth c vm hx hby hml hret hnm hC0
  have lt_a : h0.size > a := P0.lt
  refine gs (mkF m 1 #[.val (.ref a), .val (.int (2 : Int32))] [(.int (2 : Int32))]) (fun _ _ A k => XS.iloadN A hx rfl (hb hby own_d_jdk_52_method_15_0) rfl  k) ?_
  refine gs (mkF m 2 #[.val (.ref a), .val (.int (2 : Int32))] [(.ref a), (.int (2 : Int32))]) (fun _ _ A k => XS.aloadN A hx rfl (hb hby own_d_jdk_52_method_15_1) rfl rfl k) ?_
  refine glen hx P0 3 (hb hby own_d_jdk_52_method_15_2) rfl ?_
  refine gs (mkF m 4 #[.val (.ref a), .val (.int (2 : Int32))] [(.int (-2 : Int32))]) (fun _ _ A k => XS.isub A hx rfl (hb hby own_d_jdk_52_method_15_3) rfl k) ?_
  refine gs (mkF m 6 #[.val (.ref a), .val (.int (2 : Int32))] [(.int (31 : Int32)), (.int (-2 : Int32))]) (fun _ _ A k => XS.bipush A hx rfl (hb hby own_d_jdk_52_method_15_4) k) ?_
  refine gs (mkF m 7 #[.val (.ref a), .val (.int (2 : Int32))] [(.int (1 : Int32))]) (fun _ _ A k => XS.iushr A hx rfl (hb hby own_d_jdk_52_method_15_6) rfl k) ?_
  refine gs (mkF m 8 #[.val (.ref a), .val (.int (2 : Int32))] [(.int (1 : Int32))]) (fun _ _ A k => XS.i2b A hx rfl (hb hby own_d_jdk_52_method_15_7) rfl k) ?_
  exact gretN (t := .byte) hx hret (by simp) (hb hby own_d_jdk_52_method_15_8) (by decide) (by decide) (fun vq Cq => ⟨rfl, rfl⟩)
set_option maxRecDepth 65536 in
set_option maxHeartbeats 40000000 in
theorem own_i4_2_1 (l : Launch) (Z : State) (a0 : Array Value) (cx : Ctx Z a0) (ws : List Jvm.Cond) (x : Addr) (a : Addr) (v0 : Value) (c0v : Value) (kc : ClassId) (c0 : Int32) (c1 : Int32) (vm0 : Vm) (h0 : Heap) (X00 : Ext Z.heap h0) (P0 : Exa Z h0 x "java/lang/String") (P1 : Fld Z h0 x "java/lang/String" "value" "[B" v0) (P2 : Fld Z h0 x "java/lang/String" "coder" "B" c0v) (P3 : Z.heap.size ≤ x) (P4 : Safe Z ([] : List (String × Nat)) vm0 h0 x) (P5 : Arv Z h0 a kc .char (2 : Int32) [(.int c0), (.int c1)] (.int (0 : Int32))) (P6 : ¬ (255 : Int32) < c0) (P7 : (255 : Int32) < c1) (hB : ¬ c1 < 0 ∧ ¬ (65535 : Int32) < c1) :
    Met l (⟨"java/lang/String", "<init>", "([CIILjava/lang/Void;)V"⟩ : MethodName) jdk_42_method_149_code 6 none ws ({ frames := 4, cells := 2, slots := 6, locals := 57 } : Room) Z ([] : List (String × Nat)) vm0 h0 #[(.ref x), (.ref a), (.int (0 : Int32)), (.int (2 : Int32)), .null] (fun v vm h => ∃ (t : Addr), v = none ∧ Keep h0 h [x] ∧ Str0 Z h x t) := by
  obtain ⟨hw, hEL, ⟨zc, Scs, hzc⟩, ⟨fm, Sfm, hfm⟩, Sad, Shi, Slo⟩ := id cx
  have hSA := own_SA hw
  refine Met.of_walk (a0 := a0) #[.val (.ref x), .val (.ref a), .val (.int (0 : Int32)), .val (.int (2 : Int32)), .val .null, .unset] (plainFor_of_name own_pn164) X00 hEL (fun m => by first | (simp [entryFrame, mkF, argsToLocals, Value.category]; done) | rfl) ?_
  intro p e s m below meth c vm hx hby hml hret hnm hC0
  have lt_x : h0.size > x := P0.lt
  have L4 := hC0.safe lt_x P4
  have lt_a : h0.size > a := P5.lt
  refine gs (mkF m 1 #[.val (.ref x), .val (.ref a), .val (.int (0 : Int32)), .val (.int (2 : Int32)), .val .null, .unset] [(.ref x)]) (fun _ _ A k => XS.aloadN A hx rfl (hb hby own_d_jdk_42_method_149_0) rfl rfl k) ?_
  refine ginitO hx (ow hw 12 rfl) (ow hw 13 rfl) (ow hw 14 rfl) 4 (W := 0) (Nat.le_of_eq rfl) (by rw [hml]; rfl) (hb hby own_d_jdk_42_method_149_1) rfl (by decide) (by decide) ?_
  refine gs (mkF m 5 #[.val (.ref x), .val (.ref a), .val (.int (0 : Int32)), .val (.int (2 : Int32)), .val .null, .unset] [(.int (2 : Int32))]) (fun _ _ A k => XS.iloadN A hx rfl (hb hby own_d_jdk_42_method_149_4) rfl  k) ?_
  refine gs (mkF m 27 #[.val (.ref x), .val (.ref a), .val (.int (0 : Int32)), .val (.int (2 : Int32)), .val .null, .unset] []) (fun _ _ A k => XS.ifYes A hx rfl (pc0 := 5) (pc' := 27) rfl (hb hby own_d_jdk_42_method_149_5) rfl ((if0 _ _).trans (feq (by decide)).2) (by decide) (by decide) k) ?_
  refine ggetS (host := "") hx (Or.inl (ow hw 15 rfl)) Via.refl Scs 30 (hb hby own_d_jdk_42_method_149_27) rfl ?_
  refine gs (mkF m 33 #[.val (.ref x), .val (.ref a), .val (.int (0 : Int32)), .val (.int (2 : Int32)), .val .null, .unset] []) (fun _ _ A k => XS.ifNo A hx rfl (hb hby own_d_jdk_42_method_149_30) rfl ((if0 _ _).trans (feq hzc).1) k) ?_
  refine gs (mkF m 34 #[.val (.ref x), .val (.ref a), .val (.int (0 : Int32)), .val (.int (2 : Int32)), .val .null, .unset] [(.ref a)]) (fun _ _ A k => XS.aloadN A hx rfl (hb hby own_d_jdk_42_method_149_33) rfl rfl k) ?_
  refine gs (mkF m 35 #[.val (.ref x), .val (.ref a), .val (.int (0 : Int32)), .val (.int (2 : Int32)), .val .null, .unset] [(.int (0 : Int32)), (.ref a)]) (fun _ _ A k => XS.iloadN A hx rfl (hb hby own_d_jdk_42_method_149_34) rfl  k) ?_
  refine gs (mkF m 36 #[.val (.ref x), .val (.ref a), .val (.int (0 : Int32)), .val (.int (2 : Int32)), .val .null, .unset] [(.int (2 : Int32)), (.int (0 : Int32)), (.ref a)]) (fun _ _ A k => XS.iloadN A hx rfl (hb hby own_d_jdk_42_method_149_35) rfl  k) ?_
  refine ginfo fun _ _ O2 => ?_
  refine gcallS (y := (⟨"java/lang/StringUTF16", "compress", "([CII)[B"⟩ : MethodName)) hx (ow hw 16 rfl) (ow hw 17 rfl) (ow hw 18 rfl) (ow hw 19 rfl) (by decide) (fun hZ H hEL => Pay.of_met (W := 0) (own_c3_2_1 l Z a0 cx [] (a) (kc) (c0) (c1) vm h0 O2 P5 (by first | assumption | decide | omega) (by first | assumption | decide | omega) (by first | assumption | decide | omega)) (ow hw 19 rfl) (ow hw 18 rfl) (by decide) (by decide) hZ H hEL) 39 (argsL := [(.ref a), (.int (0 : Int32)), (.int (2 : Int32))]) (rest := []) (lenOf own_pd125 rfl) rfl rfl (Nat.le_of_eq rfl) (by rw [hml]; rfl) (hb hby own_d_jdk_42_method_149_36) rfl (by decide) (by decide) ?_
  rintro _ vm2 h2 C2 ⟨r2, kb2, rfl, K2, q2_0, q2_1⟩
  have z2 := C2.2.1
  have lt_r2 : h2.size > r2 := q2_1.lt
  refine gat (mkF m 39 #[.val (.ref x), .val (.ref a), .val (.int (0 : Int32)), .val (.int (2 : Int32)), .val .null, .unset] [(.ref r2)]) rfl ?_
  refine gs (mkF m 41 #[.val (.ref x), .val (.ref a), .val (.int (0 : Int32)), .val (.int (2 : Int32)), .val .null, .val (.ref r2)] []) (fun _ _ A k => XS.astore A hx rfl (hb hby own_d_jdk_42_method_149_39) rfl rfl (l' := #[.val (.ref x), .val (.ref a), .val (.int (0 : Int32)), .val (.int (2 : Int32)), .val .null, .val (.ref r2)]) rfl k) ?_
  refine gs (mkF m 42 #[.val (.ref x), .val (.ref a), .val (.int (0 : Int32)), .val (.int (2 : Int32)), .val .null, .val (.ref r2)] [(.ref x)]) (fun _ _ A k => XS.aloadN A hx rfl (hb hby own_d_jdk_42_method_149_41) rfl rfl k) ?_
  refine gs (mkF m 44 #[.val (.ref x), .val (.ref a), .val (.int (0 : Int32)), .val (.int (2 : Int32)), .val .null, .val (.ref r2)] [(.ref r2), (.ref x)]) (fun _ _ A k => XS.aload A hx rfl (hb hby own_d_jdk_42_method_149_42) rfl rfl k) ?_
  refine gs (mkF m 45 #[.val (.ref x), .val (.ref a), .val (.int (0 : Int32)), .val (.int (2 : Int32)), .val .null, .val (.ref r2)] [(.int (2 : Int32)), (.ref r2), (.ref x)]) (fun _ _ A k => XS.iloadN A hx rfl (hb hby own_d_jdk_42_method_149_44) rfl  k) ?_
  refine ginfo fun _ _ O3 => ?_
  refine gcallS (y := (⟨"java/lang/StringUTF16", "coderFromArrayLen", "([BI)B"⟩ : MethodName)) hx (ow hw 24 rfl) (ow hw 25 rfl) (ow hw 18 rfl) (ow hw 26 rfl) (by decide) (fun hZ H hEL => Pay.of_met (W := 1) (own_cod_2_1 l Z a0 cx [] (r2) (kb2) ([(.int ((c0 >>> ((0 : Int32) &&& 31)).toInt8.toInt32)), (.int ((c0 >>> ((8 : Int32) &&& 31)).toInt8.toInt32)), (.int ((c1 >>> ((0 : Int32) &&& 31)).toInt8.toInt32)), (.int ((c1 >>> ((8 : Int32) &&& 31)).toInt8.toInt32))]) vm2 h2 O3 q2_1) (ow hw 26 rfl) (ow hw 18 rfl) (by decide) (by decide) hZ H hEL) 48 (argsL := [(.ref r2), (.int (2 : Int32))]) (rest := [(.ref x)]) (lenOf own_pd158 rfl) rfl rfl (Nat.le_of_eq rfl) (by rw [hml]; rfl) (hb hby own_d_jdk_42_method_149_45) rfl (by decide) (by decide) ?_
  rintro _ vm3 h3 C3 ⟨rfl, rfl⟩
  have z3 := C3.2.1
  refine gat (mkF m 48 #[.val (.ref x), .val (.ref a), .val (.int (0 : Int32)), .val (.int (2 : Int32)), .val .null, .val (.ref r2)] [(.int (1 : Int32)), (.ref x)]) rfl ?_
  have f4 := (P2.keep K2 nin0)
  have f5 := (P0.keep K2)
  have f6 := (C3.safe (show h2.size > x by omega) (C2.safe (show h0.size > x by omega) L4))
  refine gputF (host := "") hx (Or.inl (ow hw 27 rfl)) Via.refl f4 f5 (Or.inr ⟨(ow hw 28 rfl), rfl, hnm⟩) (ow hw 3 rfl) (ty := .byte) (by decide) rfl rfl P3 (fun _ => f6) 51 (hb hby own_d_jdk_42_method_149_48) rfl ?_
  intro h7 W7 C7
  have z7 := C7.2.1
  have F7 := f4.same W7
  refine gs (mkF m 52 #[.val (.ref x), .val (.ref a), .val (.int (0 : Int32)), .val (.int (2 : Int32)), .val .null, .val (.ref r2)] [(.ref x)]) (fun _ _ A k => XS.aloadN A hx rfl (hb hby own_d_jdk_42_method_149_51) rfl rfl k) ?_
  refine gs (mkF m 54 #[.val (.ref x), .val (.ref a), .val (.int (0 : Int32)), .val (.int (2 : Int32)), .val .null, .val (.ref r2)] [(.ref r2), (.ref x)]) (fun _ _ A k => XS.aload A hx rfl (hb hby own_d_jdk_42_method_149_52) rfl rfl k) ?_
  have f8 := ((P1.keep K2 nin0).other W7 (Or.inr (slot_ne (Or.inr (ow hw 30 rfl)) (Or.inr (ow hw 28 rfl)) (by decide) (t := (.array .byte)) (t' := .byte) (by decide) (by decide))))
  have f9 := (f5.wr W7)
  have f10 := (C7.safe (show h2.size > x by omega) f6)
  refine gputF (host := "") hx (Or.inl (ow hw 29 rfl)) Via.refl f8 f9 (Or.inr ⟨(ow hw 30 rfl), rfl, hnm⟩) (ow hw 3 rfl) (ty := (.array .byte)) (by decide) rfl rfl P3 (fun _ => f10) 57 (hb hby own_d_jdk_42_method_149_54) rfl ?_
  intro h11 W11 C11
  have z11 := C11.2.1
  have F11 := f8.same W11
  have f12 := (f9.wr W11)
  have f13 := ((q2_1.other W7 (Nat.ne_of_gt (by omega))).other W11 (Nat.ne_of_gt (by omega)))
  exact gretV hx hret (hb hby own_d_jdk_42_method_149_57) (by decide) (by decide) (fun vq Cq => ⟨r2, rfl, ((((Keep.refl h0 [x]).trans K2 all0).wr W7 (Or.inl (List.mem_of_getElem? (i := 0) rfl))).wr W11 (Or.inl (List.mem_of_getElem? (i := 0) rfl))), ⟨f12, F11, _, _, _, f13, by decide⟩⟩)
set_option maxRecDepth 65536 in
set_option maxHeartbeats 40000000 in
theorem own_c3_2_2 (l : Launch) (Z : State) (a0 : Array Value) (cx : Ctx Z a0) (ws : List Jvm.Cond) (a : Addr) (kc : ClassId) (c0 : Int32) (c1 : Int32) (vm0 : Vm) (h0 : Heap) (X00 : Ext Z.heap h0) (P0 : Arv Z h0 a kc .char (2 : Int32) [(.int c0), (.int c1)] (.int (0 : Int32))) (P1 : ¬ (255 : Int32) < c0) (P2 : ¬ (255 : Int32) < c1) :
    Met l (⟨"java/lang/StringUTF16", "compress", "([CII)[B"⟩ : MethodName) jdk_52_method_16_code 6 (some (.array .byte)) ws ({ frames := 1, cells := 1, slots := 2, locals := 18 } : Room) Z ([] : List (String × Nat)) vm0 h0 #[(.ref a), (.int (0 : Int32)), (.int (2 : Int32))] (fun v vm h => ∃ (r : Addr), ∃ (kb : ClassId), v = some (.ref r) ∧ Keep h0 h [] ∧ h0.size ≤ r ∧ Arv Z h r kb .byte (2 : Int32) [(.int (c0.toInt8.toInt32)), (.int (c1.toInt8.toInt32))] (.int (0 : Int32))) := by
  obtain ⟨hw, hEL, ⟨zc, Scs, hzc⟩, ⟨fm, Sfm, hfm⟩, Sad, Shi, Slo⟩ := id cx
  have hSA := own_SA hw
  refine Met.of_walk (a0 := a0) #[.val (.ref a), .val (.int (0 : Int32)), .val (.int (2 : Int32)), .unset, .unset, .unset] (plainFor_of_name own_pn14) X00 hEL (fun m => by first | (simp [entryFrame, mkF, argsToLocals, Value.category]; done) | rfl) ?_
  intro p e s m below meth c vm hx hby hml hret hnm hC0
  have lt_a : h0.size > a := P0.lt
  refine gs (mkF m 1 #[.val (.ref a), .val (.int (0 : Int32)), .val (.int (2 : Int32)), .unset, .unset, .unset] [(.int (2 : Int32))]) (fun _ _ A k => XS.iloadN A hx rfl (hb hby own_d_jdk_52_method_16_0) rfl  k) ?_
  refine gnewP hx (ow hw 20 rfl) (n := (2 : Int32)) (by decide) (cap := 2) (by decide) (by decide) 3 (hb hby own_d_jdk_52_method_16_1) rfl (by decide) (by decide) ?_
  intro b1 h1 k1 g1 E1 C1 V1 n1 L1
  have z1 := C1.2.1
  have V1 : Arv Z h1 b1 k1 .byte (2 : Int32) [(.int (0 : Int32)), (.int (0 : Int32))] (.int (0 : Int32)) := V1.pad (pad_rep [] (.int (0 : Int32)) 2)
  have lt_b1 : h1.size > b1 := V1.lt
  refine gs (mkF m 4 #[.val (.ref a), .val (.int (0 : Int32)), .val (.int (2 : Int32)), .val (.ref b1), .unset, .unset] []) (fun _ _ A k => XS.astoreN A hx rfl (hb hby own_d_jdk_52_method_16_3) rfl rfl (l' := #[.val (.ref a), .val (.int (0 : Int32)), .val (.int (2 : Int32)), .val (.ref b1), .unset, .unset]) rfl k) ?_
  refine gs (mkF m 5 #[.val (.ref a), .val (.int (0 : Int32)), .val (.int (2 : Int32)), .val (.ref b1), .unset, .unset] [(.ref a)]) (fun _ _ A k => XS.aloadN A hx rfl (hb hby own_d_jdk_52_method_16_4) rfl rfl k) ?_
  refine gs (mkF m 6 #[.val (.ref a), .val (.int (0 : Int32)), .val (.int (2 : Int32)), .val (.ref b1), .unset, .unset] [(.int (0 : Int32)), (.ref a)]) (fun _ _ A k => XS.iloadN A hx rfl (hb hby own_d_jdk_52_method_16_5) rfl  k) ?_
  refine gs (mkF m 7 #[.val (.ref a), .val (.int (0 : Int32)), .val (.int (2 : Int32)), .val (.ref b1), .unset, .unset] [(.ref b1), (.int (0 : Int32)), (.ref a)]) (fun _ _ A k => XS.aloadN A hx rfl (hb hby own_d_jdk_52_method_16_6) rfl rfl k) ?_
  refine gs (mkF m 8 #[.val (.ref a), .val (.int (0 : Int32)), .val (.int (2 : Int32)), .val (.ref b1), .unset, .unset] [(.int (0 : Int32)), (.ref b1), (.int (0 : Int32)), (.ref a)]) (fun _ _ A k => XS.iconst A hx rfl (hb hby own_d_jdk_52_method_16_7) k) ?_
  refine gs (mkF m 9 #[.val (.ref a), .val (.int (0 : Int32)), .val (.int (2 : Int32)), .val (.ref b1), .unset, .unset] [(.int (2 : Int32)), (.int (0 : Int32)), (.ref b1), (.int (0 : Int32)), (.ref a)]) (fun _ _ A k => XS.iloadN A hx rfl (hb hby own_d_jdk_52_method_16_8) rfl  k) ?_
  have f3 := (P0.ext E1)
  refine ginfo fun _ _ O2 => ?_
  refine gcallS (y := (⟨"java/lang/StringUTF16", "compress", "([CI[BII)I"⟩ : MethodName)) hx (ow hw 21 rfl) (ow hw 22 rfl) (ow hw 18 rfl) (ow hw 23 rfl) (by decide) (fun hZ H hEL => Pay.of_met (W := 0) (own_c5_2_2 l Z a0 cx [] (a) (b1) (kc) (k1) (c0) (c1) vm h1 O2 f3 V1 n1 L1 (Nat.ne_of_lt (by omega)) (by first | assumption | decide | omega) (by first | assumption | decide | omega)) (ow hw 23 rfl) (ow hw 18 rfl) (by decide) (by decide) hZ H hEL) 12 (argsL := [(.ref a), (.int (0 : Int32)), (.ref b1), (.int (0 : Int32)), (.int (2 : Int32))]) (rest := []) (lenOf own_pd116 rfl) rfl rfl (Nat.le_of_eq rfl) (by rw [hml]; rfl) (hb hby own_d_jdk_52_method_16_9) rfl (by decide) (by decide) ?_
  rintro _ vm2 h2 C2 ⟨rfl, K2, q2_0⟩
  have z2 := C2.2.1
  refine gat (mkF m 12 #[.val (.ref a), .val (.int (0 : Int32)), .val (.int (2 : Int32)), .val (.ref b1), .unset, .unset] [(.int (2 : Int32))]) rfl ?_
  refine gs (mkF m 14 #[.val (.ref a), .val (.int (0 : Int32)), .val (.int (2 : Int32)), .val (.ref b1), .val (.int (2 : Int32)), .unset] []) (fun _ _ A k => XS.istore A hx rfl (hb hby own_d_jdk_52_method_16_12) rfl (l' := #[.val (.ref a), .val (.int (0 : Int32)), .val (.int (2 : Int32)), .val (.ref b1), .val (.int (2 : Int32)), .unset]) rfl k) ?_
  refine gs (mkF m 16 #[.val (.ref a), .val (.int (0 : Int32)), .val (.int (2 : Int32)), .val (.ref b1), .val (.int (2 : Int32)), .unset] [(.int (2 : Int32))]) (fun _ _ A k => XS.iload A hx rfl (hb hby own_d_jdk_52_method_16_14) rfl  k) ?_
  refine gs (mkF m 17 #[.val (.ref a), .val (.int (0 : Int32)), .val (.int (2 : Int32)), .val (.ref b1), .val (.int (2 : Int32)), .unset] [(.int (2 : Int32)), (.int (2 : Int32))]) (fun _ _ A k => XS.iloadN A hx rfl (hb hby own_d_jdk_52_method_16_16) rfl  k) ?_
  refine gs (mkF m 57 #[.val (.ref a), .val (.int (0 : Int32)), .val (.int (2 : Int32)), .val (.ref b1), .val (.int (2 : Int32)), .unset] []) (fun _ _ A k => XS.icmpYes A hx rfl (pc0 := 17) (pc' := 57) rfl (hb hby own_d_jdk_52_method_16_17) rfl (teq (by decide)).1 (by decide) (by decide) k) ?_
  refine gs (mkF m 58 #[.val (.ref a), .val (.int (0 : Int32)), .val (.int (2 : Int32)), .val (.ref b1), .val (.int (2 : Int32)), .unset] [(.ref b1)]) (fun _ _ A k => XS.aloadN A hx rfl (hb hby own_d_jdk_52_method_16_57) rfl rfl k) ?_
  exact gretA hx hret rfl rfl (hb hby own_d_jdk_52_method_16_58) (by decide) (by decide) (fun vq Cq => ⟨b1, k1, rfl, (((Keep.refl h0 []).ext E1).trans K2 (allS (Or.inr (by omega)) all0)), (by omega), q2_0⟩)
set_option maxRecDepth 65536 in
set_option maxHeartbeats 40000000 in
theorem own_cod_2_2 (l : Launch) (Z : State) (a0 : Array Value) (cx : Ctx Z a0) (ws : List Jvm.Cond) (a : Addr) (ka : ClassId) (vs : List Value) (vm0 : Vm) (h0 : Heap) (X00 : Ext Z.heap h0) (P0 : Arv Z h0 a ka .byte (2 : Int32) vs (.int (0 : Int32))) :
    Met l (⟨"java/lang/StringUTF16", "coderFromArrayLen", "([BI)B"⟩ : MethodName) jdk_52_method_15_code 2 (some .byte) ws ({ frames := 0, cells := 0, slots := 0, locals := 0 } : Room) Z ([] : List (String × Nat)) vm0 h0 #[(.ref a), (.int (2 : Int32))] (fun v vm h => v = some (.int (0 : Int32)) ∧ h0 = h) := by
  obtain ⟨hw, hEL, ⟨zc, Scs, hzc⟩, ⟨fm, Sfm, hfm⟩, Sad, Shi, Slo⟩ := id cx
  have hSA := own_SA hw
  refine Met.of_walk (a0 := a0) #[.val (.ref a), .val (.int (2 : Int32))] (plainFor_of_name own_pn14) X00 hEL (fun m => by first | (simp [entryFrame, mkF, argsToLocals, Value.category]; done) | rfl) ?_
  intro p e s m below meth c vm hx hby hml hret hnm hC0
  have lt_a : h0.size > a := P0.lt
  refine gs (mkF m 1 #[.val (.ref a), .val (.int (2 : Int32))] [(.int (2 : Int32))]) (fun _ _ A k => XS.iloadN A hx rfl (hb hby own_d_jdk_52_method_15_0) rfl  k) ?_
  refine gs (mkF m 2 #[.val (.ref a), .val (.int (2 : Int32))] [(.ref a), (.int (2 : Int32))]) (fun _ _ A k => XS.aloadN A hx rfl (hb hby own_d_jdk_52_method_15_1) rfl rfl k) ?_
  refine glen hx P0 3 (hb hby own_d_jdk_52_method_15_2) rfl ?_
  refine gs (mkF m 4 #[.val (.ref a), .val (.int (2 : Int32))] [(.int (0 : Int32))]) (fun _ _ A k => XS.isub A hx rfl (hb hby own_d_jdk_52_method_15_3) rfl k) ?_
  refine gs (mkF m 6 #[.val (.ref a), .val (.int (2 : Int32))] [(.int (31 : Int32)), (.int (0 : Int32))]) (fun _ _ A k => XS.bipush A hx rfl (hb hby own_d_jdk_52_method_15_4) k) ?_
  refine gs (mkF m 7 #[.val (.ref a), .val (.int (2 : Int32))] [(.int (0 : Int32))]) (fun _ _ A k => XS.iushr A hx rfl (hb hby own_d_jdk_52_method_15_6) rfl k) ?_
  refine gs (mkF m 8 #[.val (.ref a), .val (.int (2 : Int32))] [(.int (0 : Int32))]) (fun _ _ A k => XS.i2b A hx rfl (hb hby own_d_jdk_52_method_15_7) rfl k) ?_
  exact gretN (t := .byte) hx hret (by simp) (hb hby own_d_jdk_52_method_15_8) (by decide) (by decide) (fun vq Cq => ⟨rfl, rfl⟩)
set_option maxRecDepth 65536 in
set_option maxHeartbeats 40000000 in
theorem own_i4_2_2 (l : Launch) (Z : State) (a0 : Array Value) (cx : Ctx Z a0) (ws : List Jvm.Cond) (x : Addr) (a : Addr) (v0 : Value) (c0v : Value) (kc : ClassId) (c0 : Int32) (c1 : Int32) (vm0 : Vm) (h0 : Heap) (X00 : Ext Z.heap h0) (P0 : Exa Z h0 x "java/lang/String") (P1 : Fld Z h0 x "java/lang/String" "value" "[B" v0) (P2 : Fld Z h0 x "java/lang/String" "coder" "B" c0v) (P3 : Z.heap.size ≤ x) (P4 : Safe Z ([] : List (String × Nat)) vm0 h0 x) (P5 : Arv Z h0 a kc .char (2 : Int32) [(.int c0), (.int c1)] (.int (0 : Int32))) (P6 : ¬ (255 : Int32) < c0) (P7 : ¬ (255 : Int32) < c1) :
    Met l (⟨"java/lang/String", "<init>", "([CIILjava/lang/Void;)V"⟩ : MethodName) jdk_42_method_149_code 6 none ws ({ frames := 2, cells := 1, slots := 2, locals := 35 } : Room) Z ([] : List (String × Nat)) vm0 h0 #[(.ref x), (.ref a), (.int (0 : Int32)), (.int (2 : Int32)), .null] (fun v vm h => ∃ (t : Addr), v = none ∧ Keep h0 h [x] ∧ Str0 Z h x t) := by
  obtain ⟨hw, hEL, ⟨zc, Scs, hzc⟩, ⟨fm, Sfm, hfm⟩, Sad, Shi, Slo⟩ := id cx
  have hSA := own_SA hw
  refine Met.of_walk (a0 := a0) #[.val (.ref x), .val (.ref a), .val (.int (0 : Int32)), .val (.int (2 : Int32)), .val .null, .unset] (plainFor_of_name own_pn164) X00 hEL (fun m => by first | (simp [entryFrame, mkF, argsToLocals, Value.category]; done) | rfl) ?_
  intro p e s m below meth c vm hx hby hml hret hnm hC0
  have lt_x : h0.size > x := P0.lt
  have L4 := hC0.safe lt_x P4
  have lt_a : h0.size > a := P5.lt
  refine gs (mkF m 1 #[.val (.ref x), .val (.ref a), .val (.int (0 : Int32)), .val (.int (2 : Int32)), .val .null, .unset] [(.ref x)]) (fun _ _ A k => XS.aloadN A hx rfl (hb hby own_d_jdk_42_method_149_0) rfl rfl k) ?_
  refine ginitO hx (ow hw 12 rfl) (ow hw 13 rfl) (ow hw 14 rfl) 4 (W := 0) (Nat.le_of_eq rfl) (by rw [hml]; rfl) (hb hby own_d_jdk_42_method_149_1) rfl (by decide) (by decide) ?_
  refine gs (mkF m 5 #[.val (.ref x), .val (.ref a), .val (.int (0 : Int32)), .val (.int (2 : Int32)), .val .null, .unset] [(.int (2 : Int32))]) (fun _ _ A k => XS.iloadN A hx rfl (hb hby own_d_jdk_42_method_149_4) rfl  k) ?_
  refine gs (mkF m 27 #[.val (.ref x), .val (.ref a), .val (.int (0 : Int32)), .val (.int (2 : Int32)), .val .null, .unset] []) (fun _ _ A k => XS.ifYes A hx rfl (pc0 := 5) (pc' := 27) rfl (hb hby own_d_jdk_42_method_149_5) rfl ((if0 _ _).trans (feq (by decide)).2) (by decide) (by decide) k) ?_
  refine ggetS (host := "") hx (Or.inl (ow hw 15 rfl)) Via.refl Scs 30 (hb hby own_d_jdk_42_method_149_27) rfl ?_
  refine gs (mkF m 33 #[.val (.ref x), .val (.ref a), .val (.int (0 : Int32)), .val (.int (2 : Int32)), .val .null, .unset] []) (fun _ _ A k => XS.ifNo A hx rfl (hb hby own_d_jdk_42_method_149_30) rfl ((if0 _ _).trans (feq hzc).1) k) ?_
  refine gs (mkF m 34 #[.val (.ref x), .val (.ref a), .val (.int (0 : Int32)), .val (.int (2 : Int32)), .val .null, .unset] [(.ref a)]) (fun _ _ A k => XS.aloadN A hx rfl (hb hby own_d_jdk_42_method_149_33) rfl rfl k) ?_
  refine gs (mkF m 35 #[.val (.ref x), .val (.ref a), .val (.int (0 : Int32)), .val (.int (2 : Int32)), .val .null, .unset] [(.int (0 : Int32)), (.ref a)]) (fun _ _ A k => XS.iloadN A hx rfl (hb hby own_d_jdk_42_method_149_34) rfl  k) ?_
  refine gs (mkF m 36 #[.val (.ref x), .val (.ref a), .val (.int (0 : Int32)), .val (.int (2 : Int32)), .val .null, .unset] [(.int (2 : Int32)), (.int (0 : Int32)), (.ref a)]) (fun _ _ A k => XS.iloadN A hx rfl (hb hby own_d_jdk_42_method_149_35) rfl  k) ?_
  refine ginfo fun _ _ O2 => ?_
  refine gcallS (y := (⟨"java/lang/StringUTF16", "compress", "([CII)[B"⟩ : MethodName)) hx (ow hw 16 rfl) (ow hw 17 rfl) (ow hw 18 rfl) (ow hw 19 rfl) (by decide) (fun hZ H hEL => Pay.of_met (W := 0) (own_c3_2_2 l Z a0 cx [] (a) (kc) (c0) (c1) vm h0 O2 P5 (by first | assumption | decide | omega) (by first | assumption | decide | omega)) (ow hw 19 rfl) (ow hw 18 rfl) (by decide) (by decide) hZ H hEL) 39 (argsL := [(.ref a), (.int (0 : Int32)), (.int (2 : Int32))]) (rest := []) (lenOf own_pd125 rfl) rfl rfl (Nat.le_of_eq rfl) (by rw [hml]; rfl) (hb hby own_d_jdk_42_method_149_36) rfl (by decide) (by decide) ?_
  rintro _ vm2 h2 C2 ⟨r2, kb2, rfl, K2, q2_0, q2_1⟩
  have z2 := C2.2.1
  have lt_r2 : h2.size > r2 := q2_1.lt
  refine gat (mkF m 39 #[.val (.ref x), .val (.ref a), .val (.int (0 : Int32)), .val (.int (2 : Int32)), .val .null, .unset] [(.ref r2)]) rfl ?_
  refine gs (mkF m 41 #[.val (.ref x), .val (.ref a), .val (.int (0 : Int32)), .val (.int (2 : Int32)), .val .null, .val (.ref r2)] []) (fun _ _ A k => XS.astore A hx rfl (hb hby own_d_jdk_42_method_149_39) rfl rfl (l' := #[.val (.ref x), .val (.ref a), .val (.int (0 : Int32)), .val (.int (2 : Int32)), .val .null, .val (.ref r2)]) rfl k) ?_
  refine gs (mkF m 42 #[.val (.ref x), .val (.ref a), .val (.int (0 : Int32)), .val (.int (2 : Int32)), .val .null, .val (.ref r2)] [(.ref x)]) (fun _ _ A k => XS.aloadN A hx rfl (hb hby own_d_jdk_42_method_149_41) rfl rfl k) ?_
  refine gs (mkF m 44 #[.val (.ref x), .val (.ref a), .val (.int (0 : Int32)), .val (.int (2 : Int32)), .val .null, .val (.ref r2)] [(.ref r2), (.ref x)]) (fun _ _ A k => XS.aload A hx rfl (hb hby own_d_jdk_42_method_149_42) rfl rfl k) ?_
  refine gs (mkF m 45 #[.val (.ref x), .val (.ref a), .val (.int (0 : Int32)), .val (.int (2 : Int32)), .val .null, .val (.ref r2)] [(.int (2 : Int32)), (.ref r2), (.ref x)]) (fun _ _ A k => XS.iloadN A hx rfl (hb hby own_d_jdk_42_method_149_44) rfl  k) ?_
  refine ginfo fun _ _ O3 => ?_
  refine gcallS (y := (⟨"java/lang/StringUTF16", "coderFromArrayLen", "([BI)B"⟩ : MethodName)) hx (ow hw 24 rfl) (ow hw 25 rfl) (ow hw 18 rfl) (ow hw 26 rfl) (by decide) (fun hZ H hEL => Pay.of_met (W := 1) (own_cod_2_2 l Z a0 cx [] (r2) (kb2) ([(.int (c0.toInt8.toInt32)), (.int (c1.toInt8.toInt32))]) vm2 h2 O3 q2_1) (ow hw 26 rfl) (ow hw 18 rfl) (by decide) (by decide) hZ H hEL) 48 (argsL := [(.ref r2), (.int (2 : Int32))]) (rest := [(.ref x)]) (lenOf own_pd158 rfl) rfl rfl (Nat.le_of_eq rfl) (by rw [hml]; rfl) (hb hby own_d_jdk_42_method_149_45) rfl (by decide) (by decide) ?_
  rintro _ vm3 h3 C3 ⟨rfl, rfl⟩
  have z3 := C3.2.1
  refine gat (mkF m 48 #[.val (.ref x), .val (.ref a), .val (.int (0 : Int32)), .val (.int (2 : Int32)), .val .null, .val (.ref r2)] [(.int (0 : Int32)), (.ref x)]) rfl ?_
  have f4 := (P2.keep K2 nin0)
  have f5 := (P0.keep K2)
  have f6 := (C3.safe (show h2.size > x by omega) (C2.safe (show h0.size > x by omega) L4))
  refine gputF (host := "") hx (Or.inl (ow hw 27 rfl)) Via.refl f4 f5 (Or.inr ⟨(ow hw 28 rfl), rfl, hnm⟩) (ow hw 3 rfl) (ty := .byte) (by decide) rfl rfl P3 (fun _ => f6) 51 (hb hby own_d_jdk_42_method_149_48) rfl ?_
  intro h7 W7 C7
  have z7 := C7.2.1
  have F7 := f4.same W7
  refine gs (mkF m 52 #[.val (.ref x), .val (.ref a), .val (.int (0 : Int32)), .val (.int (2 : Int32)), .val .null, .val (.ref r2)] [(.ref x)]) (fun _ _ A k => XS.aloadN A hx rfl (hb hby own_d_jdk_42_method_149_51) rfl rfl k) ?_
  refine gs (mkF m 54 #[.val (.ref x), .val (.ref a), .val (.int (0 : Int32)), .val (.int (2 : Int32)), .val .null, .val (.ref r2)] [(.ref r2), (.ref x)]) (fun _ _ A k => XS.aload A hx rfl (hb hby own_d_jdk_42_method_149_52) rfl rfl k) ?_
  have f8 := ((P1.keep K2 nin0).other W7 (Or.inr (slot_ne (Or.inr (ow hw 30 rfl)) (Or.inr (ow hw 28 rfl)) (by decide) (t := (.array .byte)) (t' := .byte) (by decide) (by decide))))
  have f9 := (f5.wr W7)
  have f10 := (C7.safe (show h2.size > x by omega) f6)
  refine gputF (host := "") hx (Or.inl (ow hw 29 rfl)) Via.refl f8 f9 (Or.inr ⟨(ow hw 30 rfl), rfl, hnm⟩) (ow hw 3 rfl) (ty := (.array .byte)) (by decide) rfl rfl P3 (fun _ => f10) 57 (hb hby own_d_jdk_42_method_149_54) rfl ?_
  intro h11 W11 C11
  have z11 := C11.2.1
  have F11 := f8.same W11
  have f12 := (f9.wr W11)
  have f13 := ((q2_1.other W7 (Nat.ne_of_gt (by omega))).other W11 (Nat.ne_of_gt (by omega)))
  exact gretV hx hret (hb hby own_d_jdk_42_method_149_57) (by decide) (by decide) (fun vq Cq => ⟨r2, rfl, ((((Keep.refl h0 [x]).trans K2 all0).wr W7 (Or.inl (List.mem_of_getElem? (i := 0) rfl))).wr W11 (Or.inl (List.mem_of_getElem? (i := 0) rfl))), ⟨f12, F11, _, _, _, f13, by decide⟩⟩)
set_option maxRecDepth 65536 in
set_option maxHeartbeats 40000000 in
theorem own_i1_2 (l : Launch) (Z : State) (a0 : Array Value) (cx : Ctx Z a0) (ws : List Jvm.Cond) (x : Addr) (a : Addr) (v0 : Value) (c0v : Value) (kc : ClassId) (c0 : Int32) (c1 : Int32) (vm0 : Vm) (h0 : Heap) (X00 : Ext Z.heap h0) (P0 : Exa Z h0 x "java/lang/String") (P1 : Fld Z h0 x "java/lang/String" "value" "[B" v0) (P2 : Fld Z h0 x "java/lang/String" "coder" "B" c0v) (P3 : Z.heap.size ≤ x) (P4 : Safe Z ([] : List (String × Nat)) vm0 h0 x) (P5 : Arv Z h0 a kc .char (2 : Int32) [(.int c0), (.int c1)] (.int (0 : Int32))) (P6 : ¬ c0 < 0 ∧ ¬ (65535 : Int32) < c0) (P7 : ¬ c1 < 0 ∧ ¬ (65535 : Int32) < c1) :
    Met l (⟨"java/lang/String", "<init>", "([C)V"⟩ : MethodName) jdk_42_method_3_code 2 none ws ({ frames := 5, cells := 2, slots := 6, locals := 74 } : Room) Z ([] : List (String × Nat)) vm0 h0 #[(.ref x), (.ref a)] (fun v vm h => ∃ (t : Addr), v = none ∧ Keep h0 h [x] ∧ Str0 Z h x t) := by
  obtain ⟨hw, hEL, ⟨zc, Scs, hzc⟩, ⟨fm, Sfm, hfm⟩, Sad, Shi, Slo⟩ := id cx
  have hSA := own_SA hw
  refine Met.of_walk (a0 := a0) #[.val (.ref x), .val (.ref a)] (plainFor_of_name own_pn164) X00 hEL (fun m => by first | (simp [entryFrame, mkF, argsToLocals, Value.category]; done) | rfl) ?_
  intro p e s m below meth c vm hx hby hml hret hnm hC0
  have lt_x : h0.size > x := P0.lt
  have L4 := hC0.safe lt_x P4
  have lt_a : h0.size > a := P5.lt
  refine gs (mkF m 1 #[.val (.ref x), .val (.ref a)] [(.ref x)]) (fun _ _ A k => XS.aloadN A hx rfl (hb hby own_d_jdk_42_method_3_0) rfl rfl k) ?_
  refine gs (mkF m 2 #[.val (.ref x), .val (.ref a)] [(.ref a), (.ref x)]) (fun _ _ A k => XS.aloadN A hx rfl (hb hby own_d_jdk_42_method_3_1) rfl rfl k) ?_
  refine gs (mkF m 3 #[.val (.ref x), .val (.ref a)] [(.int (0 : Int32)), (.ref a), (.ref x)]) (fun _ _ A k => XS.iconst A hx rfl (hb hby own_d_jdk_42_method_3_2) k) ?_
  refine gs (mkF m 4 #[.val (.ref x), .val (.ref a)] [(.ref a), (.int (0 : Int32)), (.ref a), (.ref x)]) (fun _ _ A k => XS.aloadN A hx rfl (hb hby own_d_jdk_42_method_3_3) rfl rfl k) ?_
  refine glen hx P5 5 (hb hby own_d_jdk_42_method_3_4) rfl ?_
  refine gs (mkF m 6 #[.val (.ref x), .val (.ref a)] [.null, (.int (2 : Int32)), (.int (0 : Int32)), (.ref a), (.ref x)]) (fun _ _ A k => XS.aconstNull A hx rfl (hb hby own_d_jdk_42_method_3_5) k) ?_
  by_cases g0 : (255 : Int32) < c0
  · refine ginfo fun _ _ O1 => ?_
    refine gcallI (y := (⟨"java/lang/String", "<init>", "([CIILjava/lang/Void;)V"⟩ : MethodName)) hx rfl (ow hw 8 rfl) (ow hw 9 rfl) (ow hw 11 rfl) (by decide) (fun hZ H hEL => Pay.of_met (W := 0) (own_i4_2_0 l Z a0 cx [] (x) (a) (v0) (c0v) (kc) (c0) (c1) vm h0 O1 P0 P1 P2 P3 L4 P5 (by first | assumption | decide | omega) (by first | assumption | decide | omega)) (ow hw 11 rfl) (ow hw 4 rfl) (by decide) (by decide) hZ H hEL) (a := x) 9 (argsL := [(.ref a), (.int (0 : Int32)), (.int (2 : Int32)), .null]) (rest := []) (lenOf own_pd174 rfl) rfl rfl (Nat.le_of_eq rfl) (by rw [hml]; rfl) (hb hby own_d_jdk_42_method_3_6) rfl (by decide) (by decide) ?_
    rintro _ vm1 h1 C1 ⟨t1, rfl, K1, q1_0⟩
    have z1 := C1.2.1
    refine gat (mkF m 9 #[.val (.ref x), .val (.ref a)] []) rfl ?_
    exact gretV hx hret (hb hby own_d_jdk_42_method_3_9) (by decide) (by decide) (fun vq Cq => ⟨t1, rfl, ((Keep.refl h0 [x]).trans K1 (allS (Or.inl (List.mem_of_getElem? (i := 0) rfl)) all0)), q1_0⟩)
  · by_cases g1 : (255 : Int32) < c1
    · refine ginfo fun _ _ O3 => ?_
      refine gcallI (y := (⟨"java/lang/String", "<init>", "([CIILjava/lang/Void;)V"⟩ : MethodName)) hx rfl (ow hw 8 rfl) (ow hw 9 rfl) (ow hw 11 rfl) (by decide) (fun hZ H hEL => Pay.of_met (W := 0) (own_i4_2_1 l Z a0 cx [] (x) (a) (v0) (c0v) (kc) (c0) (c1) vm h0 O3 P0 P1 P2 P3 L4 P5 (by first | assumption | decide | omega) (by first | assumption | decide | omega) (by first | assumption | decide | omega)) (ow hw 11 rfl) (ow hw 4 rfl) (by decide) (by decide) hZ H hEL) (a := x) 9 (argsL := [(.ref a), (.int (0 : Int32)), (.int (2 : Int32)), .null]) (rest := []) (lenOf own_pd174 rfl) rfl rfl (Nat.le_of_eq rfl) (by rw [hml]; rfl) (hb hby own_d_jdk_42_method_3_6) rfl (by decide) (by decide) ?_
      rintro _ vm3 h3 C3 ⟨t3, rfl, K3, q3_0⟩
      have z3 := C3.2.1
      refine gat (mkF m 9 #[.val (.ref x), .val (.ref a)] []) rfl ?_
      exact gretV hx hret (hb hby own_d_jdk_42_method_3_9) (by decide) (by decide) (fun vq Cq => ⟨t3, rfl, ((Keep.refl h0 [x]).trans K3 (allS (Or.inl (List.mem_of_getElem? (i := 0) rfl)) all0)), q3_0⟩)
    · refine ginfo fun _ _ O5 => ?_
      refine gcallI (y := (⟨"java/lang/String", "<init>", "([CIILjava/lang/Void;)V"⟩ : MethodName)) hx rfl (ow hw 8 rfl) (ow hw 9 rfl) (ow hw 11 rfl) (by decide) (fun hZ H hEL => Pay.of_met (W := 0) (own_i4_2_2 l Z a0 cx [] (x) (a) (v0) (c0v) (kc) (c0) (c1) vm h0 O5 P0 P1 P2 P3 L4 P5 (by first | assumption | decide | omega) (by first | assumption | decide | omega)) (ow hw 11 rfl) (ow hw 4 rfl) (by decide) (by decide) hZ H hEL) (a := x) 9 (argsL := [(.ref a), (.int (0 : Int32)), (.int (2 : Int32)), .null]) (rest := []) (lenOf own_pd174 rfl) rfl rfl (Nat.le_of_eq rfl) (by rw [hml]; rfl) (hb hby own_d_jdk_42_method_3_6) rfl (by decide) (by decide) ?_
      rintro _ vm5 h5 C5 ⟨t5, rfl, K5, q5_0⟩
      have z5 := C5.2.1
      refine gat (mkF m 9 #[.val (.ref x), .val (.ref a)] []) rfl ?_
      exact gretV hx hret (hb hby own_d_jdk_42_method_3_9) (by decide) (by decide) (fun vq Cq => ⟨t5, rfl, ((Keep.refl h0 [x]).trans K5 (allS (Or.inl (List.mem_of_getElem? (i := 0) rfl)) all0)), q5_0⟩)
set_option maxRecDepth 65536 in
set_option maxHeartbeats 40000000 in
theorem own_c5_3_0 (l : Launch) (Z : State) (a0 : Array Value) (cx : Ctx Z a0) (ws : List Jvm.Cond) (a : Addr) (d : Addr) (kc : ClassId) (kd : ClassId) (c0 : Int32) (c1 : Int32) (c2 : Int32) (vm0 : Vm) (h0 : Heap) (X00 : Ext Z.heap h0) (P0 : Arv Z h0 a kc .char (3 : Int32) [(.int c0), (.int c1), (.int c2)] (.int (0 : Int32))) (P1 : Arv Z h0 d kd .byte (3 : Int32) [(.int (0 : Int32)), (.int (0 : Int32)), (.int (0 : Int32))] (.int (0 : Int32))) (P2 : Z.heap.size ≤ d) (P3 : Safe Z ([] : List (String × Nat)) vm0 h0 d) (hne : a ≠ d) (P5 : (255 : Int32) < c0) :
    Met l (⟨"java/lang/StringUTF16", "compress", "([CI[BII)I"⟩ : MethodName) jdk_52_method_21_code 7 (some .int) ws ({ frames := 0, cells := 0, slots := 0, locals := 0 } : Room) Z ([] : List (String × Nat)) vm0 h0 #[(.ref a), (.int (0 : Int32)), (.ref d), (.int (0 : Int32)), (.int (3 : Int32))] (fun v vm h => v = some (.int (0 : Int32)) ∧ Keep h0 h [d] ∧ Arv Z h d kd .byte (3 : Int32) [(.int (0 : Int32)), (.int (0 : Int32)), (.int (0 : Int32))] (.int (0 : Int32))) := by
  obtain ⟨hw, hEL, ⟨zc, Scs, hzc⟩, ⟨fm, Sfm, hfm⟩, Sad, Shi, Slo⟩ := id cx
  have hSA := own_SA hw
  refine Met.of_walk (a0 := a0) #[.val (.ref a), .val (.int (0 : Int32)), .val (.ref d), .val (.int (0 : Int32)), .val (.int (3 : Int32)), .unset, .unset] (plainFor_of_name own_pn14) X00 hEL (fun m => by first | (simp [entryFrame, mkF, argsToLocals, Value.category]; done) | rfl) ?_
  intro p e s m below meth c vm hx hby hml hret hnm hC0
  have lt_a : h0.size > a := P0.lt
  have lt_d : h0.size > d := P1.lt
  have L3 := hC0.safe lt_d P3
  refine gs (mkF m 1 #[.val (.ref a), .val (.int (0 : Int32)), .val (.ref d), .val (.int (0 : Int32)), .val (.int (3 : Int32)), .unset, .unset] [(.int (0 : Int32))]) (fun _ _ A k => XS.iconst A hx rfl (hb hby own_d_jdk_52_method_21_0) k) ?_
  refine gs (mkF m 3 #[.val (.ref a), .val (.int (0 : Int32)), .val (.ref d), .val (.int (0 : Int32)), .val (.int (3 : Int32)), .val (.int (0 : Int32)), .unset] []) (fun _ _ A k => XS.istore A hx rfl (hb hby own_d_jdk_52_method_21_1) rfl (l' := #[.val (.ref a), .val (.int (0 : Int32)), .val (.ref d), .val (.int (0 : Int32)), .val (.int (3 : Int32)), .val (.int (0 : Int32)), .unset]) rfl k) ?_
  refine gs (mkF m 5 #[.val (.ref a), .val (.int (0 : Int32)), .val (.ref d), .val (.int (0 : Int32)), .val (.int (3 : Int32)), .val (.int (0 : Int32)), .unset] [(.int (0 : Int32))]) (fun _ _ A k => XS.iload A hx rfl (hb hby own_d_jdk_52_method_21_3) rfl  k) ?_
  refine gs (mkF m 7 #[.val (.ref a), .val (.int (0 : Int32)), .val (.ref d), .val (.int (0 : Int32)), .val (.int (3 : Int32)), .val (.int (0 : Int32)), .unset] [(.int (3 : Int32)), (.int (0 : Int32))]) (fun _ _ A k => XS.iload A hx rfl (hb hby own_d_jdk_52_method_21_5) rfl  k) ?_
  refine gs (mkF m 10 #[.val (.ref a), .val (.int (0 : Int32)), .val (.ref d), .val (.int (0 : Int32)), .val (.int (3 : Int32)), .val (.int (0 : Int32)), .unset] []) (fun _ _ A k => XS.icmpNo A hx rfl (hb hby own_d_jdk_52_method_21_7) rfl (tlt (by decide)).2.1 k) ?_
  refine gs (mkF m 11 #[.val (.ref a), .val (.int (0 : Int32)), .val (.ref d), .val (.int (0 : Int32)), .val (.int (3 : Int32)), .val (.int (0 : Int32)), .unset] [(.ref a)]) (fun _ _ A k => XS.aloadN A hx rfl (hb hby own_d_jdk_52_method_21_10) rfl rfl k) ?_
  refine gs (mkF m 12 #[.val (.ref a), .val (.int (0 : Int32)), .val (.ref d), .val (.int (0 : Int32)), .val (.int (3 : Int32)), .val (.int (0 : Int32)), .unset] [(.int (0 : Int32)), (.ref a)]) (fun _ _ A k => XS.iloadN A hx rfl (hb hby own_d_jdk_52_method_21_11) rfl  k) ?_
  refine gldC hx P0 ⟨by decide, by decide⟩ (i := 0) rfl (v := (.int c0)) rfl 13 (hb hby own_d_jdk_52_method_21_12) rfl ?_
  refine gs (mkF m 15 #[.val (.ref a), .val (.int (0 : Int32)), .val (.ref d), .val (.int (0 : Int32)), .val (.int (3 : Int32)), .val (.int (0 : Int32)), .val (.int c0)] []) (fun _ _ A k => XS.istore A hx rfl (hb hby own_d_jdk_52_method_21_13) rfl (l' := #[.val (.ref a), .val (.int (0 : Int32)), .val (.ref d), .val (.int (0 : Int32)), .val (.int (3 : Int32)), .val (.int (0 : Int32)), .val (.int c0)]) rfl k) ?_
  refine gs (mkF m 17 #[.val (.ref a), .val (.int (0 : Int32)), .val (.ref d), .val (.int (0 : Int32)), .val (.int (3 : Int32)), .val (.int (0 : Int32)), .val (.int c0)] [(.int c0)]) (fun _ _ A k => XS.iload A hx rfl (hb hby own_d_jdk_52_method_21_15) rfl  k) ?_
  refine gs (mkF m 20 #[.val (.ref a), .val (.int (0 : Int32)), .val (.ref d), .val (.int (0 : Int32)), .val (.int (3 : Int32)), .val (.int (0 : Int32)), .val (.int c0)] [(.int (255 : Int32)), (.int c0)]) (fun _ _ A k => XS.sipush A hx rfl (hb hby own_d_jdk_52_method_21_17) k) ?_
  refine gs (mkF m 23 #[.val (.ref a), .val (.int (0 : Int32)), .val (.ref d), .val (.int (0 : Int32)), .val (.int (3 : Int32)), .val (.int (0 : Int32)), .val (.int c0)] []) (fun _ _ A k => XS.icmpNo A hx rfl (hb hby own_d_jdk_52_method_21_20) rfl (tlt P5).2.2.2 k) ?_
  refine gs (mkF m 25 #[.val (.ref a), .val (.int (0 : Int32)), .val (.ref d), .val (.int (0 : Int32)), .val (.int (3 : Int32)), .val (.int (0 : Int32)), .val (.int c0)] [(.int (0 : Int32))]) (fun _ _ A k => XS.iload A hx rfl (hb hby own_d_jdk_52_method_21_23) rfl  k) ?_
  exact gretI hx hret (hb hby own_d_jdk_52_method_21_25) (by decide) (by decide) (fun vq Cq => ⟨rfl, (Keep.refl h0 [d]), P1⟩)
set_option maxRecDepth 65536 in
set_option maxHeartbeats 40000000 in
theorem own_c5_3_1 (l : Launch) (Z : State) (a0 : Array Value) (cx : Ctx Z a0) (ws : List Jvm.Cond) (a : Addr) (d : Addr) (kc : ClassId) (kd : ClassId) (c0 : Int32) (c1 : Int32) (c2 : Int32) (vm0 : Vm) (h0 : Heap) (X00 : Ext Z.heap h0) (P0 : Arv Z h0 a kc .char (3 : Int32) [(.int c0), (.int c1), (.int c2)] (.int (0 : Int32))) (P1 : Arv Z h0 d kd .byte (3 : Int32) [(.int (0 : Int32)), (.int (0 : Int32)), (.int (0 : Int32))] (.int (0 : Int32))) (P2 : Z.heap.size ≤ d) (P3 : Safe Z ([] : List (String × Nat)) vm0 h0 d) (hne : a ≠ d) (P5 : ¬ (255 : Int32) < c0) (P6 : (255 : Int32) < c1) :
    Met l (⟨"java/lang/StringUTF16", "compress", "([CI[BII)I"⟩ : MethodName) jdk_52_method_21_code 7 (some .int) ws ({ frames := 0, cells := 0, slots := 0, locals := 0 } : Room) Z ([] : List (String × Nat)) vm0 h0 #[(.ref a), (.int (0 : Int32)), (.ref d), (.int (0 : Int32)), (.int (3 : Int32))] (fun v vm h => v = some (.int (1 : Int32)) ∧ Keep h0 h [d] ∧ Arv Z h d kd .byte (3 : Int32) [(.int (c0.toInt8.toInt32)), (.int (0 : Int32)), (.int (0 : Int32))] (.int (0 : Int32))) := by
  obtain ⟨hw, hEL, ⟨zc, Scs, hzc⟩, ⟨fm, Sfm, hfm⟩, Sad, Shi, Slo⟩ := id cx
  have hSA := own_SA hw
  refine Met.of_walk (a0 := a0) #[.val (.ref a), .val (.int (0 : Int32)), .val (.ref d), .val (.int (0 : Int32)), .val (.int (3 : Int32)), .unset, .unset] (plainFor_of_name own_pn14) X00 hEL (fun m => by first | (simp [entryFrame, mkF, argsToLocals, Value.category]; done) | rfl) ?_
  intro p e s m below meth c vm hx hby hml hret hnm hC0
  have lt_a : h0.size > a := P0.lt
  have lt_d : h0.size > d := P1.lt
  have L3 := hC0.safe lt_d P3
  refine gs (mkF m 1 #[.val (.ref a), .val (.int (0 : Int32)), .val (.ref d), .val (.int (0 : Int32)), .val (.int (3 : Int32)), .unset, .unset] [(.int (0 : Int32))]) (fun _ _ A k => XS.iconst A hx rfl (hb hby own_d_jdk_52_method_21_0) k) ?_
  refine gs (mkF m 3 #[.val (.ref a), .val (.int (0 : Int32)), .val (.ref d), .val (.int (0 : Int32)), .val (.int (3 : Int32)), .val (.int (0 : Int32)), .unset] []) (fun _ _ A k => XS.istore A hx rfl (hb hby own_d_jdk_52_method_21_1) rfl (l' := #[.val (.ref a), .val (.int (0 : Int32)), .val (.ref d), .val (.int (0 : Int32)), .val (.int (3 : Int32)), .val (.int (0 : Int32)), .unset]) rfl k) ?_
  refine gs (mkF m 5 #[.val (.ref a), .val (.int (0 : Int32)), .val (.ref d), .val (.int (0 : Int32)), .val (.int (3 : Int32)), .val (.int (0 : Int32)), .unset] [(.int (0 : Int32))]) (fun _ _ A k => XS.iload A hx rfl (hb hby own_d_jdk_52_method_21_3) rfl  k) ?_
  refine gs (mkF m 7 #[.val (.ref a), .val (.int (0 : Int32)), .val (.ref d), .val (.int (0 : Int32)), .val (.int (3 : Int32)), .val (.int (0 : Int32)), .unset] [(.int (3 : Int32)), (.int (0 : Int32))]) (fun _ _ A k => XS.iload A hx rfl (hb hby own_d_jdk_52_method_21_5) rfl  k) ?_
  refine gs (mkF m 10 #[.val (.ref a), .val (.int (0 : Int32)), .val (.ref d), .val (.int (0 : Int32)), .val (.int (3 : Int32)), .val (.int (0 : Int32)), .unset] []) (fun _ _ A k => XS.icmpNo A hx rfl (hb hby own_d_jdk_52_method_21_7) rfl (tlt (by decide)).2.1 k) ?_
  refine gs (mkF m 11 #[.val (.ref a), .val (.int (0 : Int32)), .val (.ref d), .val (.int (0 : Int32)), .val (.int (3 : Int32)), .val (.int (0 : Int32)), .unset] [(.ref a)]) (fun _ _ A k => XS.aloadN A hx rfl (hb hby own_d_jdk_52_method_21_10) rfl rfl k) ?_
  refine gs (mkF m 12 #[.val (.ref a), .val (.int (0 : Int32)), .val (.ref d), .val (.int (0 : Int32)), .val (.int (3 : Int32)), .val (.int (0 : Int32)), .unset] [(.int (0 : Int32)), (.ref a)]) (fun _ _ A k => XS.iloadN A hx rfl (hb hby own_d_jdk_52_method_21_11) rfl  k) ?_
  refine gldC hx P0 ⟨by decide, by decide⟩ (i := 0) rfl (v := (.int c0)) rfl 13 (hb hby own_d_jdk_52_method_21_12) rfl ?_
  refine gs (mkF m 15 #[.val (.ref a), .val (.int (0 : Int32)), .val (.ref d), .val (.int (0 : Int32)), .val (.int (3 : Int32)), .val (.int (0 : Int32)), .val (.int c0)] []) (fun _ _ A k => XS.istore A hx rfl (hb hby own_d_jdk_52_method_21_13) rfl (l' := #[.val (.ref a), .val (.int (0 : Int32)), .val (.ref d), .val (.int (0 : Int32)), .val (.int (3 : Int32)), .val (.int (0 : Int32)), .val (.int c0)]) rfl k) ?_
  refine gs (mkF m 17 #[.val (.ref a), .val (.int (0 : Int32)), .val (.ref d), .val (.int (0 : Int32)), .val (.int (3 : Int32)), .val (.int (0 : Int32)), .val (.int c0)] [(.int c0)]) (fun _ _ A k => XS.iload A hx rfl (hb hby own_d_jdk_52_method_21_15) rfl  k) ?_
  refine gs (mkF m 20 #[.val (.ref a), .val (.int (0 : Int32)), .val (.ref d), .val (.int (0 : Int32)), .val (.int (3 : Int32)), .val (.int (0 : Int32)), .val (.int c0)] [(.int (255 : Int32)), (.int c0)]) (fun _ _ A k => XS.sipush A hx rfl (hb hby own_d_jdk_52_method_21_17) k) ?_
  refine gs (mkF m 26 #[.val (.ref a), .val (.int (0 : Int32)), .val (.ref d), .val (.int (0 : Int32)), .val (.int (3 : Int32)), .val (.int (0 : Int32)), .val (.int c0)] []) (fun _ _ A k => XS.icmpYes A hx rfl (pc0 := 20) (pc' := 26) rfl (hb hby own_d_jdk_52_method_21_20) rfl (flt P5).2.2.2 (by decide) (by decide) k) ?_
  refine gs (mkF m 27 #[.val (.ref a), .val (.int (0 : Int32)), .val (.ref d), .val (.int (0 : Int32)), .val (.int (3 : Int32)), .val (.int (0 : Int32)), .val (.int c0)] [(.ref d)]) (fun _ _ A k => XS.aloadN A hx rfl (hb hby own_d_jdk_52_method_21_26) rfl rfl k) ?_
  refine gs (mkF m 28 #[.val (.ref a), .val (.int (0 : Int32)), .val (.ref d), .val (.int (0 : Int32)), .val (.int (3 : Int32)), .val (.int (0 : Int32)), .val (.int c0)] [(.int (0 : Int32)), (.ref d)]) (fun _ _ A k => XS.iloadN A hx rfl (hb hby own_d_jdk_52_method_21_27) rfl  k) ?_
  refine gs (mkF m 30 #[.val (.ref a), .val (.int (0 : Int32)), .val (.ref d), .val (.int (0 : Int32)), .val (.int (3 : Int32)), .val (.int (0 : Int32)), .val (.int c0)] [(.int c0), (.int (0 : Int32)), (.ref d)]) (fun _ _ A k => XS.iload A hx rfl (hb hby own_d_jdk_52_method_21_28) rfl  k) ?_
  refine gs (mkF m 31 #[.val (.ref a), .val (.int (0 : Int32)), .val (.ref d), .val (.int (0 : Int32)), .val (.int (3 : Int32)), .val (.int (0 : Int32)), .val (.int c0)] [(.int (c0.toInt8.toInt32)), (.int (0 : Int32)), (.ref d)]) (fun _ _ A k => XS.i2b A hx rfl (hb hby own_d_jdk_52_method_21_30) rfl k) ?_
  refine gstB hx P1 ⟨by decide, by decide⟩ (i := 0) rfl (Nat.le_of_ble_eq_true rfl) (y := (c0.toInt8.toInt32)) (narB _) P2 (fun _ => L3) 32 (hb hby own_d_jdk_52_method_21_31) rfl ?_
  intro h1 W1 C1 V1
  have z1 := C1.2.1
  replace V1 : Arv Z h1 d kd .byte (3 : Int32) [(.int (c0.toInt8.toInt32)), (.int (0 : Int32)), (.int (0 : Int32))] (.int (0 : Int32)) := V1
  refine gs (mkF m 35 #[.val (.ref a), .val (.int (1 : Int32)), .val (.ref d), .val (.int (0 : Int32)), .val (.int (3 : Int32)), .val (.int (0 : Int32)), .val (.int c0)] []) (fun _ _ A k => XS.iinc A hx rfl (hb hby own_d_jdk_52_method_21_32) rfl (l' := #[.val (.ref a), .val (.int (1 : Int32)), .val (.ref d), .val (.int (0 : Int32)), .val (.int (3 : Int32)), .val (.int (0 : Int32)), .val (.int c0)]) rfl k) ?_
  refine gs (mkF m 38 #[.val (.ref a), .val (.int (1 : Int32)), .val (.ref d), .val (.int (1 : Int32)), .val (.int (3 : Int32)), .val (.int (0 : Int32)), .val (.int c0)] []) (fun _ _ A k => XS.iinc A hx rfl (hb hby own_d_jdk_52_method_21_35) rfl (l' := #[.val (.ref a), .val (.int (1 : Int32)), .val (.ref d), .val (.int (1 : Int32)), .val (.int (3 : Int32)), .val (.int (0 : Int32)), .val (.int c0)]) rfl k) ?_
  refine gs (mkF m 41 #[.val (.ref a), .val (.int (1 : Int32)), .val (.ref d), .val (.int (1 : Int32)), .val (.int (3 : Int32)), .val (.int (1 : Int32)), .val (.int c0)] []) (fun _ _ A k => XS.iinc A hx rfl (hb hby own_d_jdk_52_method_21_38) rfl (l' := #[.val (.ref a), .val (.int (1 : Int32)), .val (.ref d), .val (.int (1 : Int32)), .val (.int (3 : Int32)), .val (.int (1 : Int32)), .val (.int c0)]) rfl k) ?_
  refine gs (mkF m 3 #[.val (.ref a), .val (.int (1 : Int32)), .val (.ref d), .val (.int (1 : Int32)), .val (.int (3 : Int32)), .val (.int (1 : Int32)), .val (.int c0)] []) (fun _ _ A k => XS.goto A hx rfl (pc0 := 41) (pc' := 3) rfl (hb hby own_d_jdk_52_method_21_41) (by decide) (by decide) k) ?_
  refine gs (mkF m 5 #[.val (.ref a), .val (.int (1 : Int32)), .val (.ref d), .val (.int (1 : Int32)), .val (.int (3 : Int32)), .val (.int (1 : Int32)), .val (.int c0)] [(.int (1 : Int32))]) (fun _ _ A k => XS.iload A hx rfl (hb hby own_d_jdk_52_method_21_3) rfl  k) ?_
  refine gs (mkF m 7 #[.val (.ref a), .val (.int (1 : Int32)), .val (.ref d), .val (.int (1 : Int32)), .val (.int (3 : Int32)), .val (.int (1 : Int32)), .val (.int c0)] [(.int (3 : Int32)), (.int (1 : Int32))]) (fun _ _ A k => XS.iload A hx rfl (hb hby own_d_jdk_52_method_21_5) rfl  k) ?_
  refine gs (mkF m 10 #[.val (.ref a), .val (.int (1 : Int32)), .val (.ref d), .val (.int (1 : Int32)), .val (.int (3 : Int32)), .val (.int (1 : Int32)), .val (.int c0)] []) (fun _ _ A k => XS.icmpNo A hx rfl (hb hby own_d_jdk_52_method_21_7) rfl (tlt (by decide)).2.1 k) ?_
  refine gs (mkF m 11 #[.val (.ref a), .val (.int (1 : Int32)), .val (.ref d), .val (.int (1 : Int32)), .val (.int (3 : Int32)), .val (.int (1 : Int32)), .val (.int c0)] [(.ref a)]) (fun _ _ A k => XS.aloadN A hx rfl (hb hby own_d_jdk_52_method_21_10) rfl rfl k) ?_
  refine gs (mkF m 12 #[.val (.ref a), .val (.int (1 : Int32)), .val (.ref d), .val (.int (1 : Int32)), .val (.int (3 : Int32)), .val (.int (1 : Int32)), .val (.int c0)] [(.int (1 : Int32)), (.ref a)]) (fun _ _ A k => XS.iloadN A hx rfl (hb hby own_d_jdk_52_method_21_11) rfl  k) ?_
  have f2 := (P0.other W1 hne)
  refine gldC hx f2 ⟨by decide, by decide⟩ (i := 1) rfl (v := (.int c1)) rfl 13 (hb hby own_d_jdk_52_method_21_12) rfl ?_
  refine gs (mkF m 15 #[.val (.ref a), .val (.int (1 : Int32)), .val (.ref d), .val (.int (1 : Int32)), .val (.int (3 : Int32)), .val (.int (1 : Int32)), .val (.int c1)] []) (fun _ _ A k => XS.istore A hx rfl (hb hby own_d_jdk_52_method_21_13) rfl (l' := #[.val (.ref a), .val (.int (1 : Int32)), .val (.ref d), .val (.int (1 : Int32)), .val (.int (3 : Int32)), .val (.int (1 : Int32)), .val (.int c1)]) rfl k) ?_
  refine gs (mkF m 17 #[.val (.ref a), .val (.int (1 : Int32)), .val (.ref d), .val (.int (1 : Int32)), .val (.int (3 : Int32)), .val (.int (1 : Int32)), .val (.int c1)] [(.int c1)]) (fun _ _ A k => XS.iload A hx rfl (hb hby own_d_jdk_52_method_21_15) rfl  k) ?_
  refine gs (mkF m 20 #[.val (.ref a), .val (.int (1 : Int32)), .val (.ref d), .val (.int (1 : Int32)), .val (.int (3 : Int32)), .val (.int (1 : Int32)), .val (.int c1)] [(.int (255 : Int32)), (.int c1)]) (fun _ _ A k => XS.sipush A hx rfl (hb hby own_d_jdk_52_method_21_17) k) ?_
  refine gs (mkF m 23 #[.val (.ref a), .val (.int (1 : Int32)), .val (.ref d), .val (.int (1 : Int32)), .val (.int (3 : Int32)), .val (.int (1 : Int32)), .val (.int c1)] []) (fun _ _ A k => XS.icmpNo A hx rfl (hb hby own_d_jdk_52_method_21_20) rfl (tlt P6).2.2.2 k) ?_
  refine gs (mkF m 25 #[.val (.ref a), .val (.int (1 : Int32)), .val (.ref d), .val (.int (1 : Int32)), .val (.int (3 : Int32)), .val (.int (1 : Int32)), .val (.int c1)] [(.int (1 : Int32))]) (fun _ _ A k => XS.iload A hx rfl (hb hby own_d_jdk_52_method_21_23) rfl  k) ?_
  exact gretI hx hret (hb hby own_d_jdk_52_method_21_25) (by decide) (by decide) (fun vq Cq => ⟨rfl, ((Keep.refl h0 [d]).wr W1 (Or.inl (List.mem_of_getElem? (i := 0) rfl))), V1⟩)
set_option maxRecDepth 65536 in
set_option maxHeartbeats 40000000 in
theorem own_c5_3_2 (l : Launch) (Z : State) (a0 : Array Value) (cx : Ctx Z a0) (ws : List Jvm.Cond) (a : Addr) (d : Addr) (kc : ClassId) (kd : ClassId) (c0 : Int32) (c1 : Int32) (c2 : Int32) (vm0 : Vm) (h0 : Heap) (X00 : Ext Z.heap h0) (P0 : Arv Z h0 a kc .char (3 : Int32) [(.int c0), (.int c1), (.int c2)] (.int (0 : Int32))) (P1 : Arv Z h0 d kd .byte (3 : Int32) [(.int (0 : Int32)), (.int (0 : Int32)), (.int (0 : Int32))] (.int (0 : Int32))) (P2 : Z.heap.size ≤ d) (P3 : Safe Z ([] : List (String × Nat)) vm0 h0 d) (hne : a ≠ d) (P5 : ¬ (255 : Int32) < c0) (P6 : ¬ (255 : Int32) < c1) (P7 : (255 : Int32) < c2) :
    Met l (⟨"java/lang/StringUTF16", "compress", "([CI[BII)I"⟩ : MethodName) jdk_52_method_21_code 7 (some .int) ws ({ frames := 0, cells := 0, slots := 0, locals := 0 } : Room) Z ([] : List (String × Nat)) vm0 h0 #[(.ref a), (.int (0 : Int32)), (.ref d), (.int (0 : Int32)), (.int (3 : Int32))] (fun v vm h => v = some (.int (2 : Int32)) ∧ Keep h0 h [d] ∧ Arv Z h d kd .byte (3 : Int32) [(.int (c0.toInt8.toInt32)), (.int (c1.toInt8.toInt32)), (.int (0 : Int32))] (.int (0 : Int32))) := by
  obtain ⟨hw, hEL, ⟨zc, Scs, hzc⟩, ⟨fm, Sfm, hfm⟩, Sad, Shi, Slo⟩ := id cx
  have hSA := own_SA hw
  refine Met.of_walk (a0 := a0) #[.val (.ref a), .val (.int (0 : Int32)), .val (.ref d), .val (.int (0 : Int32)), .val (.int (3 : Int32)), .unset, .unset] (plainFor_of_name own_pn14) X00 hEL (fun m => by first | (simp [entryFrame, mkF, argsToLocals, Value.category]; done) | rfl) ?_
  intro p e s m below meth c vm hx hby hml hret hnm hC0
  have lt_a : h0.size > a := P0.lt
  have lt_d : h0.size > d := P1.lt
  have L3 := hC0.safe lt_d P3
  refine gs (mkF m 1 #[.val (.ref a), .val (.int (0 : Int32)), .val (.ref d), .val (.int (0 : Int32)), .val (.int (3 : Int32)), .unset, .unset] [(.int (0 : Int32))]) (fun _ _ A k => XS.iconst A hx rfl (hb hby own_d_jdk_52_method_21_0) k) ?_
  refine gs (mkF m 3 #[.val (.ref a), .val (.int (0 : Int32)), .val (.ref d), .val (.int (0 : Int32)), .val (.int (3 : Int32)), .val (.int (0 : Int32)), .unset] []) (fun _ _ A k => XS.istore A hx rfl (hb hby own_d_jdk_52_method_21_1) rfl (l' := #[.val (.ref a), .val (.int (0 : Int32)), .val (.ref d), .val (.int (0 : Int32)), .val (.int (3 : Int32)), .val (.int (0 : Int32)), .unset]) rfl k) ?_
  refine gs (mkF m 5 #[.val (.ref a), .val (.int (0 : Int32)), .val (.ref d), .val (.int (0 : Int32)), .val (.int (3 : Int32)), .val (.int (0 : Int32)), .unset] [(.int (0 : Int32))]) (fun _ _ A k => XS.iload A hx rfl (hb hby own_d_jdk_52_method_21_3) rfl  k) ?_
  refine gs (mkF m 7 #[.val (.ref a), .val (.int (0 : Int32)), .val (.ref d), .val (.int (0 : Int32)), .val (.int (3 : Int32)), .val (.int (0 : Int32)), .unset] [(.int (3 : Int32)), (.int (0 : Int32))]) (fun _ _ A k => XS.iload A hx rfl (hb hby own_d_jdk_52_method_21_5) rfl  k) ?_
  refine gs (mkF m 10 #[.val (.ref a), .val (.int (0 : Int32)), .val (.ref d), .val (.int (0 : Int32)), .val (.int (3 : Int32)), .val (.int (0 : Int32)), .unset] []) (fun _ _ A k => XS.icmpNo A hx rfl (hb hby own_d_jdk_52_method_21_7) rfl (tlt (by decide)).2.1 k) ?_
  refine gs (mkF m 11 #[.val (.ref a), .val (.int (0 : Int32)), .val (.ref d), .val (.int (0 : Int32)), .val (.int (3 : Int32)), .val (.int (0 : Int32)), .unset] [(.ref a)]) (fun _ _ A k => XS.aloadN A hx rfl (hb hby own_d_jdk_52_method_21_10) rfl rfl k) ?_
  refine gs (mkF m 12 #[.val (.ref a), .val (.int (0 : Int32)), .val (.ref d), .val (.int (0 : Int32)), .val (.int (3 : Int32)), .val (.int (0 : Int32)), .unset] [(.int (0 : Int32)), (.ref a)]) (fun _ _ A k => XS.iloadN A hx rfl (hb hby own_d_jdk_52_method_21_11) rfl  k) ?_
  refine gldC hx P0 ⟨by decide, by decide⟩ (i := 0) rfl (v := (.int c0)) rfl 13 (hb hby own_d_jdk_52_method_21_12) rfl ?_
  refine gs (mkF m 15 #[.val (.ref a), .val (.int (0 : Int32)), .val (.ref d), .val (.int (0 : Int32)), .val (.int (3 : Int32)), .val (.int (0 : Int32)), .val (.int c0)] []) (fun _ _ A k => XS.istore A hx rfl (hb hby own_d_jdk_52_method_21_13) rfl (l' := #[.val (.ref a), .val (.int (0 : Int32)), .val (.ref d), .val (.int (0 : Int32)), .val (.int (3 : Int32)), .val (.int (0 : Int32)), .val (.int c0)]) rfl k) ?_
  refine gs (mkF m 17 #[.val (.ref a), .val (.int (0 : Int32)), .val (.ref d), .val (.int (0 : Int32)), .val (.int (3 : Int32)), .val (.int (0 : Int32)), .val (.int c0)] [(.int c0)]) (fun _ _ A k => XS.iload A hx rfl (hb hby own_d_jdk_52_method_21_15) rfl  k) ?_
  refine gs (mkF m 20 #[.val (.ref a), .val (.int (0 : Int32)), .val (.ref d), .val (.int (0 : Int32)), .val (.int (3 : Int32)), .val (.int (0 : Int32)), .val (.int c0)] [(.int (255 : Int32)), (.int c0)]) (fun _ _ A k => XS.sipush A hx rfl (hb hby own_d_jdk_52_method_21_17) k) ?_
  refine gs (mkF m 26 #[.val (.ref a), .val (.int (0 : Int32)), .val (.ref d), .val (.int (0 : Int32)), .val (.int (3 : Int32)), .val (.int (0 : Int32)), .val (.int c0)] []) (fun _ _ A k => XS.icmpYes A hx rfl (pc0 := 20) (pc' := 26) rfl (hb hby own_d_jdk_52_method_21_20) rfl (flt P5).2.2.2 (by decide) (by decide) k) ?_
  refine gs (mkF m 27 #[.val (.ref a), .val (.int (0 : Int32)), .val (.ref d), .val (.int (0 : Int32)), .val (.int (3 : Int32)), .val (.int (0 : Int32)), .val (.int c0)] [(.ref d)]) (fun _ _ A k => XS.aloadN A hx rfl (hb hby own_d_jdk_52_method_21_26) rfl rfl k) ?_
  refine gs (mkF m 28 #[.val (.ref a), .val (.int (0 : Int32)), .val (.ref d), .val (.int (0 : Int32)), .val (.int (3 : Int32)), .val (.int (0 : Int32)), .val (.int c0)] [(.int (0 : Int32)), (.ref d)]) (fun _ _ A k => XS.iloadN A hx rfl (hb hby own_d_jdk_52_method_21_27) rfl  k) ?_
  refine gs (mkF m 30 #[.val (.ref a), .val (.int (0 : Int32)), .val (.ref d), .val (.int (0 : Int32)), .val (.int (3 : Int32)), .val (.int (0 : Int32)), .val (.int c0)] [(.int c0), (.int (0 : Int32)), (.ref d)]) (fun _ _ A k => XS.iload A hx rfl (hb hby own_d_jdk_52_method_21_28) rfl  k) ?_
  refine gs (mkF m 31 #[.val (.ref a), .val (.int (0 : Int32)), .val (.ref d), .val (.int (0 : Int32)), .val (.int (3 : Int32)), .val (.int (0 : Int32)), .val (.int c0)] [(.int (c0.toInt8.toInt32)), (.int (0 : Int32)), (.ref d)]) (fun _ _ A k => XS.i2b A hx rfl (hb hby own_d_jdk_52_method_21_30) rfl k) ?_
  refine gstB hx P1 ⟨by decide, by decide⟩ (i := 0) rfl (Nat.le_of_ble_eq_true rfl) (y := (c0.toInt8.toInt32)) (narB _) P2 (fun _ => L3) 32 (hb hby own_d_jdk_52_method_21_31) rfl ?_
  intro h1 W1 C1 V1
  have z1 := C1.2.1
  replace V1 : Arv Z h1 d kd .byte (3 : Int32) [(.int (c0.toInt8.toInt32)), (.int (0 : Int32)), (.int (0 : Int32))] (.int (0 : Int32)) := V1
  refine gs (mkF m 35 #[.val (.ref a), .val (.int (1 : Int32)), .val (.ref d), .val (.int (0 : Int32)), .val (.int (3 : Int32)), .val (.int (0 : Int32)), .val (.int c0)] []) (fun _ _ A k => XS.iinc A hx rfl (hb hby own_d_jdk_52_method_21_32) rfl (l' := #[.val (.ref a), .val (.int (1 : Int32)), .val (.ref d), .val (.int (0 : Int32)), .val (.int (3 : Int32)), .val (.int (0 : Int32)), .val (.int c0)]) rfl k) ?_
  refine gs (mkF m 38 #[.val (.ref a), .val (.int (1 : Int32)), .val (.ref d), .val (.int (1 : Int32)), .val (.int (3 : Int32)), .val (.int (0 : Int32)), .val (.int c0)] []) (fun _ _ A k => XS.iinc A hx rfl (hb hby own_d_jdk_52_method_21_35) rfl (l' := #[.val (.ref a), .val (.int (1 : Int32)), .val (.ref d), .val (.int (1 : Int32)), .val (.int (3 : Int32)), .val (.int (0 : Int32)), .val (.int c0)]) rfl k) ?_
  refine gs (mkF m 41 #[.val (.ref a), .val (.int (1 : Int32)), .val (.ref d), .val (.int (1 : Int32)), .val (.int (3 : Int32)), .val (.int (1 : Int32)), .val (.int c0)] []) (fun _ _ A k => XS.iinc A hx rfl (hb hby own_d_jdk_52_method_21_38) rfl (l' := #[.val (.ref a), .val (.int (1 : Int32)), .val (.ref d), .val (.int (1 : Int32)), .val (.int (3 : Int32)), .val (.int (1 : Int32)), .val (.int c0)]) rfl k) ?_
  refine gs (mkF m 3 #[.val (.ref a), .val (.int (1 : Int32)), .val (.ref d), .val (.int (1 : Int32)), .val (.int (3 : Int32)), .val (.int (1 : Int32)), .val (.int c0)] []) (fun _ _ A k => XS.goto A hx rfl (pc0 := 41) (pc' := 3) rfl (hb hby own_d_jdk_52_method_21_41) (by decide) (by decide) k) ?_
  refine gs (mkF m 5 #[.val (.ref a), .val (.int (1 : Int32)), .val (.ref d), .val (.int (1 : Int32)), .val (.int (3 : Int32)), .val (.int (1 : Int32)), .val (.int c0)] [(.int (1 : Int32))]) (fun _ _ A k => XS.iload A hx rfl (hb hby own_d_jdk_52_method_21_3) rfl  k) ?_
  refine gs (mkF m 7 #[.val (.ref a), .val (.int (1 : Int32)), .val (.ref d), .val (.int (1 : Int32)), .val (.int (3 : Int32)), .val (.int (1 : Int32)), .val (.int c0)] [(.int (3 : Int32)), (.int (1 : Int32))]) (fun _ _ A k => XS.iload A hx rfl (hb hby own_d_jdk_52_method_21_5) rfl  k) ?_
  refine gs (mkF m 10 #[.val (.ref a), .val (.int (1 : Int32)), .val (.ref d), .val (.int (1 : Int32)), .val (.int (3 : Int32)), .val (.int (1 : Int32)), .val (.int c0)] []) (fun _ _ A k => XS.icmpNo A hx rfl (hb hby own_d_jdk_52_method_21_7) rfl (tlt (by decide)).2.1 k) ?_
  refine gs (mkF m 11 #[.val (.ref a), .val (.int (1 : Int32)), .val (.ref d), .val (.int (1 : Int32)), .val (.int (3 : Int32)), .val (.int (1 : Int32)), .val (.int c0)] [(.ref a)]) (fun _ _ A k => XS.aloadN A hx rfl (hb hby own_d_jdk_52_method_21_10) rfl rfl k) ?_
  refine gs (mkF m 12 #[.val (.ref a), .val (.int (1 : Int32)), .val (.ref d), .val (.int (1 : Int32)), .val (.int (3 : Int32)), .val (.int (1 : Int32)), .val (.int c0)] [(.int (1 : Int32)), (.ref a)]) (fun _ _ A k => XS.iloadN A hx rfl (hb hby own_d_jdk_52_method_21_11) rfl  k) ?_
  have f2 := (P0.other W1 hne)
  refine gldC hx f2 ⟨by decide, by decide⟩ (i := 1) rfl (v := (.int c1)) rfl 13 (hb hby own_d_jdk_52_method_21_12) rfl ?_
  refine gs (mkF m 15 #[.val (.ref a), .val (.int (1 : Int32)), .val (.ref d), .val (.int (1 : Int32)), .val (.int (3 : Int32)), .val (.int (1 : Int32)), .val (.int c1)] []) (fun _ _ A k => XS.istore A hx rfl (hb hby own_d_jdk_52_method_21_13) rfl (l' := #[.val (.ref a), .val (.int (1 : Int32)), .val (.ref d), .val (.int (1 : Int32)), .val (.int (3 : Int32)), .val (.int (1 : Int32)), .val (.int c1)]) rfl k) ?_
  refine gs (mkF m 17 #[.val (.ref a), .val (.int (1 : Int32)), .val (.ref d), .val (.int (1 : Int32)), .val (.int (3 : Int32)), .val (.int (1 : Int32)), .val (.int c1)] [(.int c1)]) (fun _ _ A k => XS.iload A hx rfl (hb hby own_d_jdk_52_method_21_15) rfl  k) ?_
  refine gs (mkF m 20 #[.val (.ref a), .val (.int (1 : Int32)), .val (.ref d), .val (.int (1 : Int32)), .val (.int (3 : Int32)), .val (.int (1 : Int32)), .val (.int c1)] [(.int (255 : Int32)), (.int c1)]) (fun _ _ A k => XS.sipush A hx rfl (hb hby own_d_jdk_52_method_21_17) k) ?_
  refine gs (mkF m 26 #[.val (.ref a), .val (.int (1 : Int32)), .val (.ref d), .val (.int (1 : Int32)), .val (.int (3 : Int32)), .val (.int (1 : Int32)), .val (.int c1)] []) (fun _ _ A k => XS.icmpYes A hx rfl (pc0 := 20) (pc' := 26) rfl (hb hby own_d_jdk_52_method_21_20) rfl (flt P6).2.2.2 (by decide) (by decide) k) ?_
  refine gs (mkF m 27 #[.val (.ref a), .val (.int (1 : Int32)), .val (.ref d), .val (.int (1 : Int32)), .val (.int (3 : Int32)), .val (.int (1 : Int32)), .val (.int c1)] [(.ref d)]) (fun _ _ A k => XS.aloadN A hx rfl (hb hby own_d_jdk_52_method_21_26) rfl rfl k) ?_
  refine gs (mkF m 28 #[.val (.ref a), .val (.int (1 : Int32)), .val (.ref d), .val (.int (1 : Int32)), .val (.int (3 : Int32)), .val (.int (1 : Int32)), .val (.int c1)] [(.int (1 : Int32)), (.ref d)]) (fun _ _ A k => XS.iloadN A hx rfl (hb hby own_d_jdk_52_method_21_27) rfl  k) ?_
  refine gs (mkF m 30 #[.val (.ref a), .val (.int (1 : Int32)), .val (.ref d), .val (.int (1 : Int32)), .val (.int (3 : Int32)), .val (.int (1 : Int32)), .val (.int c1)] [(.int c1), (.int (1 : Int32)), (.ref d)]) (fun _ _ A k => XS.iload A hx rfl (hb hby own_d_jdk_52_method_21_28) rfl  k) ?_
  refine gs (mkF m 31 #[.val (.ref a), .val (.int (1 : Int32)), .val (.ref d), .val (.int (1 : Int32)), .val (.int (3 : Int32)), .val (.int (1 : Int32)), .val (.int c1)] [(.int (c1.toInt8.toInt32)), (.int (1 : Int32)), (.ref d)]) (fun _ _ A k => XS.i2b A hx rfl (hb hby own_d_jdk_52_method_21_30) rfl k) ?_
  have f4 := (C1.safe (show h0.size > d by omega) L3)
  refine gstB hx V1 ⟨by decide, by decide⟩ (i := 1) rfl (Nat.le_of_ble_eq_true rfl) (y := (c1.toInt8.toInt32)) (narB _) P2 (fun _ => f4) 32 (hb hby own_d_jdk_52_method_21_31) rfl ?_
  intro h3 W3 C3 V3
  have z3 := C3.2.1
  replace V3 : Arv Z h3 d kd .byte (3 : Int32) [(.int (c0.toInt8.toInt32)), (.int (c1.toInt8.toInt32)), (.int (0 : Int32))] (.int (0 : Int32)) := V3
  refine gs (mkF m 35 #[.val (.ref a), .val (.int (2 : Int32)), .val (.ref d), .val (.int (1 : Int32)), .val (.int (3 : Int32)), .val (.int (1 : Int32)), .val (.int c1)] []) (fun _ _ A k => XS.iinc A hx rfl (hb hby own_d_jdk_52_method_21_32) rfl (l' := #[.val (.ref a), .val (.int (2 : Int32)), .val (.ref d), .val (.int (1 : Int32)), .val (.int (3 : Int32)), .val (.int (1 : Int32)), .val (.int c1)]) rfl k) ?_
  refine gs (mkF m 38 #[.val (.ref a), .val (.int (2 : Int32)), .val (.ref d), .val (.int (2 : Int32)), .val (.int (3 : Int32)), .val (.int (1 : Int32)), .val (.int c1)] []) (fun _ _ A k => XS.iinc A hx rfl (hb hby own_d_jdk_52_method_21_35) rfl (l' := #[.val (.ref a), .val (.int (2 : Int32)), .val (.ref d), .val (.int (2 : Int32)), .val (.int (3 : Int32)), .val (.int (1 : Int32)), .val (.int c1)]) rfl k) ?_
  refine gs (mkF m 41 #[.val (.ref a), .val (.int (2 : Int32)), .val (.ref d), .val (.int (2 : Int32)), .val (.int (3 : Int32)), .val (.int (2 : Int32)), .val (.int c1)] []) (fun _ _ A k => XS.iinc A hx rfl (hb hby own_d_jdk_52_method_21_38) rfl (l' := #[.val (.ref a), .val (.int (2 : Int32)), .val (.ref d), .val (.int (2 : Int32)), .val (.int (3 : Int32)), .val (.int (2 : Int32)), .val (.int c1)]) rfl k) ?_
  refine gs (mkF m 3 #[.val (.ref a), .val (.int (2 : Int32)), .val (.ref d), .val (.int (2 : Int32)), .val (.int (3 : Int32)), .val (.int (2 : Int32)), .val (.int c1)] []) (fun _ _ A k => XS.goto A hx rfl (pc0 := 41) (pc' := 3) rfl (hb hby own_d_jdk_52_method_21_41) (by decide) (by decide) k) ?_
  refine gs (mkF m 5 #[.val (.ref a), .val (.int (2 : Int32)), .val (.ref d), .val (.int (2 : Int32)), .val (.int (3 : Int32)), .val (.int (2 : Int32)), .val (.int c1)] [(.int (2 : Int32))]) (fun _ _ A k => XS.iload A hx rfl (hb hby own_d_jdk_52_method_21_3) rfl  k) ?_
  refine gs (mkF m 7 #[.val (.ref a), .val (.int (2 : Int32)), .val (.ref d), .val (.int (2 : Int32)), .val (.int (3 : Int32)), .val (.int (2 : Int32)), .val (.int c1)] [(.int (3 : Int32)), (.int (2 : Int32))]) (fun _ _ A k => XS.iload A hx rfl (hb hby own_d_jdk_52_method_21_5) rfl  k) ?_
  refine gs (mkF m 10 #[.val (.ref a), .val (.int (2 : Int32)), .val (.ref d), .val (.int (2 : Int32)), .val (.int (3 : Int32)), .val (.int (2 : Int32)), .val (.int c1)] []) (fun _ _ A k => XS.icmpNo A hx rfl (hb hby own_d_jdk_52_method_21_7) rfl (tlt (by decide)).2.1 k) ?_
  refine gs (mkF m 11 #[.val (.ref a), .val (.int (2 : Int32)), .val (.ref d), .val (.int (2 : Int32)), .val (.int (3 : Int32)), .val (.int (2 : Int32)), .val (.int c1)] [(.ref a)]) (fun _ _ A k => XS.aloadN A hx rfl (hb hby own_d_jdk_52_method_21_10) rfl rfl k) ?_
  refine gs (mkF m 12 #[.val (.ref a), .val (.int (2 : Int32)), .val (.ref d), .val (.int (2 : Int32)), .val (.int (3 : Int32)), .val (.int (2 : Int32)), .val (.int c1)] [(.int (2 : Int32)), (.ref a)]) (fun _ _ A k => XS.iloadN A hx rfl (hb hby own_d_jdk_52_method_21_11) rfl  k) ?_
  have f5 := (f2.other W3 hne)
  refine gldC hx f5 ⟨by decide, by decide⟩ (i := 2) rfl (v := (.int c2)) rfl 13 (hb hby own_d_jdk_52_method_21_12) rfl ?_
  refine gs (mkF m 15 #[.val (.ref a), .val (.int (2 : Int32)), .val (.ref d), .val (.int (2 : Int32)), .val (.int (3 : Int32)), .val (.int (2 : Int32)), .val (.int c2)] []) (fun _ _ A k => XS.istore A hx rfl (hb hby own_d_jdk_52_method_21_13) rfl (l' := #[.val (.ref a), .val (.int (2 : Int32)), .val (.ref d), .val (.int (2 : Int32)), .val (.int (3 : Int32)), .val (.int (2 : Int32)), .val (.int c2)]) rfl k) ?_
  refine gs (mkF m 17 #[.val (.ref a), .val (.int (2 : Int32)), .val (.ref d), .val (.int (2 : Int32)), .val (.int (3 : Int32)), .val (.int (2 : Int32)), .val (.int c2)] [(.int c2)]) (fun _ _ A k => XS.iload A hx rfl (hb hby own_d_jdk_52_method_21_15) rfl  k) ?_
  refine gs (mkF m 20 #[.val (.ref a), .val (.int (2 : Int32)), .val (.ref d), .val (.int (2 : Int32)), .val (.int (3 : Int32)), .val (.int (2 : Int32)), .val (.int c2)] [(.int (255 : Int32)), (.int c2)]) (fun _ _ A k => XS.sipush A hx rfl (hb hby own_d_jdk_52_method_21_17) k) ?_
  refine gs (mkF m 23 #[.val (.ref a), .val (.int (2 : Int32)), .val (.ref d), .val (.int (2 : Int32)), .val (.int (3 : Int32)), .val (.int (2 : Int32)), .val (.int c2)] []) (fun _ _ A k => XS.icmpNo A hx rfl (hb hby own_d_jdk_52_method_21_20) rfl (tlt P7).2.2.2 k) ?_
  refine gs (mkF m 25 #[.val (.ref a), .val (.int (2 : Int32)), .val (.ref d), .val (.int (2 : Int32)), .val (.int (3 : Int32)), .val (.int (2 : Int32)), .val (.int c2)] [(.int (2 : Int32))]) (fun _ _ A k => XS.iload A hx rfl (hb hby own_d_jdk_52_method_21_23) rfl  k) ?_
  exact gretI hx hret (hb hby own_d_jdk_52_method_21_25) (by decide) (by decide) (fun vq Cq => ⟨rfl, (((Keep.refl h0 [d]).wr W1 (Or.inl (List.mem_of_getElem? (i := 0) rfl))).wr W3 (Or.inl (List.mem_of_getElem? (i := 0) rfl))), V3⟩)
set_option maxRecDepth 65536 in
set_option maxHeartbeats 40000000 in
theorem own_c5_3_3 (l : Launch) (Z : State) (a0 : Array Value) (cx : Ctx Z a0) (ws : List Jvm.Cond) (a : Addr) (d : Addr) (kc : ClassId) (kd : ClassId) (c0 : Int32) (c1 : Int32) (c2 : Int32) (vm0 : Vm) (h0 : Heap) (X00 : Ext Z.heap h0) (P0 : Arv Z h0 a kc .char (3 : Int32) [(.int c0), (.int c1), (.int c2)] (.int (0 : Int32))) (P1 : Arv Z h0 d kd .byte (3 : Int32) [(.int (0 : Int32)), (.int (0 : Int32)), (.int (0 : Int32))] (.int (0 : Int32))) (P2 : Z.heap.size ≤ d) (P3 : Safe Z ([] : List (String × Nat)) vm0 h0 d) (hne : a ≠ d) (P5 : ¬ (255 : Int32) < c0) (P6 : ¬ (255 : Int32) < c1) (P7 : ¬ (255 : Int32) < c2) :
    Met l (⟨"java/lang/StringUTF16", "compress", "([CI[BII)I"⟩ : MethodName) jdk_52_method_21_code 7 (some .int) ws ({ frames := 0, cells := 0, slots := 0, locals := 0 } : Room) Z ([] : List (String × Nat)) vm0 h0 #[(.ref a), (.int (0 : Int32)), (.ref d), (.int (0 : Int32)), (.int (3 : Int32))] (fun v vm h => v = some (.int (3 : Int32)) ∧ Keep h0 h [d] ∧ Arv Z h d kd .byte (3 : Int32) [(.int (c0.toInt8.toInt32)), (.int (c1.toInt8.toInt32)), (.int (c2.toInt8.toInt32))] (.int (0 : Int32))) := by
  obtain ⟨hw, hEL, ⟨zc, Scs, hzc⟩, ⟨fm, Sfm, hfm⟩, Sad, Shi, Slo⟩ := id cx
  have hSA := own_SA hw
  refine Met.of_walk (a0 := a0) #[.val (.ref a), .val (.int (0 : Int32)), .val (.ref d), .val (.int (0 : Int32)), .val (.int (3 : Int32)), .unset, .unset] (plainFor_of_name own_pn14) X00 hEL (fun m => by first | (simp [entryFrame, mkF, argsToLocals, Value.category]; done) | rfl) ?_
  intro p e s m below meth c vm hx hby hml hret hnm hC0
  have lt_a : h0.size > a := P0.lt
  have lt_d : h0.size > d := P1.lt
  have L3 := hC0.safe lt_d P3
  refine gs (mkF m 1 #[.val (.ref a), .val (.int (0 : Int32)), .val (.ref d), .val (.int (0 : Int32)), .val (.int (3 : Int32)), .unset, .unset] [(.int (0 : Int32))]) (fun _ _ A k => XS.iconst A hx rfl (hb hby own_d_jdk_52_method_21_0) k) ?_
  refine gs (mkF m 3 #[.val (.ref a), .val (.int (0 : Int32)), .val (.ref d), .val (.int (0 : Int32)), .val (.int (3 : Int32)), .val (.int (0 : Int32)), .unset] []) (fun _ _ A k => XS.istore A hx rfl (hb hby own_d_jdk_52_method_21_1) rfl (l' := #[.val (.ref a), .val (.int (0 : Int32)), .val (.ref d), .val (.int (0 : Int32)), .val (.int (3 : Int32)), .val (.int (0 : Int32)), .unset]) rfl k) ?_
  refine gs (mkF m 5 #[.val (.ref a), .val (.int (0 : Int32)), .val (.ref d), .val (.int (0 : Int32)), .val (.int (3 : Int32)), .val (.int (0 : Int32)), .unset] [(.int (0 : Int32))]) (fun _ _ A k => XS.iload A hx rfl (hb hby own_d_jdk_52_method_21_3) rfl  k) ?_
  refine gs (mkF m 7 #[.val (.ref a), .val (.int (0 : Int32)), .val (.ref d), .val (.int (0 : Int32)), .val (.int (3 : Int32)), .val (.int (0 : Int32)), .unset] [(.int (3 : Int32)), (.int (0 : Int32))]) (fun _ _ A k => XS.iload A hx rfl (hb hby own_d_jdk_52_method_21_5) rfl  k) ?_
  refine gs (mkF m 10 #[.val (.ref a), .val (.int (0 : Int32)), .val (.ref d), .val (.int (0 : Int32)), .val (.int (3 : Int32)), .val (.int (0 : Int32)), .unset] []) (fun _ _ A k => XS.icmpNo A hx rfl (hb hby own_d_jdk_52_method_21_7) rfl (tlt (by decide)).2.1 k) ?_
  refine gs (mkF m 11 #[.val (.ref a), .val (.int (0 : Int32)), .val (.ref d), .val (.int (0 : Int32)), .val (.int (3 : Int32)), .val (.int (0 : Int32)), .unset] [(.ref a)]) (fun _ _ A k => XS.aloadN A hx rfl (hb hby own_d_jdk_52_method_21_10) rfl rfl k) ?_
  refine gs (mkF m 12 #[.val (.ref a), .val (.int (0 : Int32)), .val (.ref d), .val (.int (0 : Int32)), .val (.int (3 : Int32)), .val (.int (0 : Int32)), .unset] [(.int (0 : Int32)), (.ref a)]) (fun _ _ A k => XS.iloadN A hx rfl (hb hby own_d_jdk_52_method_21_11) rfl  k) ?_
  refine gldC hx P0 ⟨by decide, by decide⟩ (i := 0) rfl (v := (.int c0)) rfl 13 (hb hby own_d_jdk_52_method_21_12) rfl ?_
  refine gs (mkF m 15 #[.val (.ref a), .val (.int (0 : Int32)), .val (.ref d), .val (.int (0 : Int32)), .val (.int (3 : Int32)), .val (.int (0 : Int32)), .val (.int c0)] []) (fun _ _ A k => XS.istore A hx rfl (hb hby own_d_jdk_52_method_21_13) rfl (l' := #[.val (.ref a), .val (.int (0 : Int32)), .val (.ref d), .val (.int (0 : Int32)), .val (.int (3 : Int32)), .val (.int (0 : Int32)), .val (.int c0)]) rfl k) ?_
  refine gs (mkF m 17 #[.val (.ref a), .val (.int (0 : Int32)), .val (.ref d), .val (.int (0 : Int32)), .val (.int (3 : Int32)), .val (.int (0 : Int32)), .val (.int c0)] [(.int c0)]) (fun _ _ A k => XS.iload A hx rfl (hb hby own_d_jdk_52_method_21_15) rfl  k) ?_
  refine gs (mkF m 20 #[.val (.ref a), .val (.int (0 : Int32)), .val (.ref d), .val (.int (0 : Int32)), .val (.int (3 : Int32)), .val (.int (0 : Int32)), .val (.int c0)] [(.int (255 : Int32)), (.int c0)]) (fun _ _ A k => XS.sipush A hx rfl (hb hby own_d_jdk_52_method_21_17) k) ?_
  refine gs (mkF m 26 #[.val (.ref a), .val (.int (0 : Int32)), .val (.ref d), .val (.int (0 : Int32)), .val (.int (3 : Int32)), .val (.int (0 : Int32)), .val (.int c0)] []) (fun _ _ A k => XS.icmpYes A hx rfl (pc0 := 20) (pc' := 26) rfl (hb hby own_d_jdk_52_method_21_20) rfl (flt P5).2.2.2 (by decide) (by decide) k) ?_
  refine gs (mkF m 27 #[.val (.ref a), .val (.int (0 : Int32)), .val (.ref d), .val (.int (0 : Int32)), .val (.int (3 : Int32)), .val (.int (0 : Int32)), .val (.int c0)] [(.ref d)]) (fun _ _ A k => XS.aloadN A hx rfl (hb hby own_d_jdk_52_method_21_26) rfl rfl k) ?_
  refine gs (mkF m 28 #[.val (.ref a), .val (.int (0 : Int32)), .val (.ref d), .val (.int (0 : Int32)), .val (.int (3 : Int32)), .val (.int (0 : Int32)), .val (.int c0)] [(.int (0 : Int32)), (.ref d)]) (fun _ _ A k => XS.iloadN A hx rfl (hb hby own_d_jdk_52_method_21_27) rfl  k) ?_
  refine gs (mkF m 30 #[.val (.ref a), .val (.int (0 : Int32)), .val (.ref d), .val (.int (0 : Int32)), .val (.int (3 : Int32)), .val (.int (0 : Int32)), .val (.int c0)] [(.int c0), (.int (0 : Int32)), (.ref d)]) (fun _ _ A k => XS.iload A hx rfl (hb hby own_d_jdk_52_method_21_28) rfl  k) ?_
  refine gs (mkF m 31 #[.val (.ref a), .val (.int (0 : Int32)), .val (.ref d), .val (.int (0 : Int32)), .val (.int (3 : Int32)), .val (.int (0 : Int32)), .val (.int c0)] [(.int (c0.toInt8.toInt32)), (.int (0 : Int32)), (.ref d)]) (fun _ _ A k => XS.i2b A hx rfl (hb hby own_d_jdk_52_method_21_30) rfl k) ?_
  refine gstB hx P1 ⟨by decide, by decide⟩ (i := 0) rfl (Nat.le_of_ble_eq_true rfl) (y := (c0.toInt8.toInt32)) (narB _) P2 (fun _ => L3) 32 (hb hby own_d_jdk_52_method_21_31) rfl ?_
  intro h1 W1 C1 V1
  have z1 := C1.2.1
  replace V1 : Arv Z h1 d kd .byte (3 : Int32) [(.int (c0.toInt8.toInt32)), (.int (0 : Int32)), (.int (0 : Int32))] (.int (0 : Int32)) := V1
  refine gs (mkF m 35 #[.val (.ref a), .val (.int (1 : Int32)), .val (.ref d), .val (.int (0 : Int32)), .val (.int (3 : Int32)), .val (.int (0 : Int32)), .val (.int c0)] []) (fun _ _ A k => XS.iinc A hx rfl (hb hby own_d_jdk_52_method_21_32) rfl (l' := #[.val (.ref a), .val (.int (1 : Int32)), .val (.ref d), .val (.int (0 : Int32)), .val (.int (3 : Int32)), .val (.int (0 : Int32)), .val (.int c0)]) rfl k) ?_
  refine gs (mkF m 38 #[.val (.ref a), .val (.int (1 : Int32)), .val (.ref d), .val (.int (1 : Int32)), .val (.int (3 : Int32)), .val (.int (0 : Int32)), .val (.int c0)] []) (fun _ _ A k => XS.iinc A hx rfl (hb hby own_d_jdk_52_method_21_35) rfl (l' := #[.val (.ref a), .val (.int (1 : Int32)), .val (.ref d), .val (.int (1 : Int32)), .val (.int (3 : Int32)), .val (.int (0 : Int32)), .val (.int c0)]) rfl k) ?_
  refine gs (mkF m 41 #[.val (.ref a), .val (.int (1 : Int32)), .val (.ref d), .val (.int (1 : Int32)), .val (.int (3 : Int32)), .val (.int (1 : Int32)), .val (.int c0)] []) (fun _ _ A k => XS.iinc A hx rfl (hb hby own_d_jdk_52_method_21_38) rfl (l' := #[.val (.ref a), .val (.int (1 : Int32)), .val (.ref d), .val (.int (1 : Int32)), .val (.int (3 : Int32)), .val (.int (1 : Int32)), .val (.int c0)]) rfl k) ?_
  refine gs (mkF m 3 #[.val (.ref a), .val (.int (1 : Int32)), .val (.ref d), .val (.int (1 : Int32)), .val (.int (3 : Int32)), .val (.int (1 : Int32)), .val (.int c0)] []) (fun _ _ A k => XS.goto A hx rfl (pc0 := 41) (pc' := 3) rfl (hb hby own_d_jdk_52_method_21_41) (by decide) (by decide) k) ?_
  refine gs (mkF m 5 #[.val (.ref a), .val (.int (1 : Int32)), .val (.ref d), .val (.int (1 : Int32)), .val (.int (3 : Int32)), .val (.int (1 : Int32)), .val (.int c0)] [(.int (1 : Int32))]) (fun _ _ A k => XS.iload A hx rfl (hb hby own_d_jdk_52_method_21_3) rfl  k) ?_
  refine gs (mkF m 7 #[.val (.ref a), .val (.int (1 : Int32)), .val (.ref d), .val (.int (1 : Int32)), .val (.int (3 : Int32)), .val (.int (1 : Int32)), .val (.int c0)] [(.int (3 : Int32)), (.int (1 : Int32))]) (fun _ _ A k => XS.iload A hx rfl (hb hby own_d_jdk_52_method_21_5) rfl  k) ?_
  refine gs (mkF m 10 #[.val (.ref a), .val (.int (1 : Int32)), .val (.ref d), .val (.int (1 : Int32)), .val (.int (3 : Int32)), .val (.int (1 : Int32)), .val (.int c0)] []) (fun _ _ A k => XS.icmpNo A hx rfl (hb hby own_d_jdk_52_method_21_7) rfl (tlt (by decide)).2.1 k) ?_
  refine gs (mkF m 11 #[.val (.ref a), .val (.int (1 : Int32)), .val (.ref d), .val (.int (1 : Int32)), .val (.int (3 : Int32)), .val (.int (1 : Int32)), .val (.int c0)] [(.ref a)]) (fun _ _ A k => XS.aloadN A hx rfl (hb hby own_d_jdk_52_method_21_10) rfl rfl k) ?_
  refine gs (mkF m 12 #[.val (.ref a), .val (.int (1 : Int32)), .val (.ref d), .val (.int (1 : Int32)), .val (.int (3 : Int32)), .val (.int (1 : Int32)), .val (.int c0)] [(.int (1 : Int32)), (.ref a)]) (fun _ _ A k => XS.iloadN A hx rfl (hb hby own_d_jdk_52_method_21_11) rfl  k) ?_
  have f2 := (P0.other W1 hne)
  refine gldC hx f2 ⟨by decide, by decide⟩ (i := 1) rfl (v := (.int c1)) rfl 13 (hb hby own_d_jdk_52_method_21_12) rfl ?_
  refine gs (mkF m 15 #[.val (.ref a), .val (.int (1 : Int32)), .val (.ref d), .val (.int (1 : Int32)), .val (.int (3 : Int32)), .val (.int (1 : Int32)), .val (.int c1)] []) (fun _ _ A k => XS.istore A hx rfl (hb hby own_d_jdk_52_method_21_13) rfl (l' := #[.val (.ref a), .val (.int (1 : Int32)), .val (.ref d), .val (.int (1 : Int32)), .val (.int (3 : Int32)), .val (.int (1 : Int32)), .val (.int c1)]) rfl k) ?_
  refine gs (mkF m 17 #[.val (.ref a), .val (.int (1 : Int32)), .val (.ref d), .val (.int (1 : Int32)), .val (.int (3 : Int32)), .val (.int (1 : Int32)), .val (.int c1)] [(.int c1)]) (fun _ _ A k => XS.iload A hx rfl (hb hby own_d_jdk_52_method_21_15) rfl  k) ?_
  refine gs (mkF m 20 #[.val (.ref a), .val (.int (1 : Int32)), .val (.ref d), .val (.int (1 : Int32)), .val (.int (3 : Int32)), .val (.int (1 : Int32)), .val (.int c1)] [(.int (255 : Int32)), (.int c1)]) (fun _ _ A k => XS.sipush A hx rfl (hb hby own_d_jdk_52_method_21_17) k) ?_
  refine gs (mkF m 26 #[.val (.ref a), .val (.int (1 : Int32)), .val (.ref d), .val (.int (1 : Int32)), .val (.int (3 : Int32)), .val (.int (1 : Int32)), .val (.int c1)] []) (fun _ _ A k => XS.icmpYes A hx rfl (pc0 := 20) (pc' := 26) rfl (hb hby own_d_jdk_52_method_21_20) rfl (flt P6).2.2.2 (by decide) (by decide) k) ?_
  refine gs (mkF m 27 #[.val (.ref a), .val (.int (1 : Int32)), .val (.ref d), .val (.int (1 : Int32)), .val (.int (3 : Int32)), .val (.int (1 : Int32)), .val (.int c1)] [(.ref d)]) (fun _ _ A k => XS.aloadN A hx rfl (hb hby own_d_jdk_52_method_21_26) rfl rfl k) ?_
  refine gs (mkF m 28 #[.val (.ref a), .val (.int (1 : Int32)), .val (.ref d), .val (.int (1 : Int32)), .val (.int (3 : Int32)), .val (.int (1 : Int32)), .val (.int c1)] [(.int (1 : Int32)), (.ref d)]) (fun _ _ A k => XS.iloadN A hx rfl (hb hby own_d_jdk_52_method_21_27) rfl  k) ?_
  refine gs (mkF m 30 #[.val (.ref a), .val (.int (1 : Int32)), .val (.ref d), .val (.int (1 : Int32)), .val (.int (3 : Int32)), .val (.int (1 : Int32)), .val (.int c1)] [(.int c1), (.int (1 : Int32)), (.ref d)]) (fun _ _ A k => XS.iload A hx rfl (hb hby own_d_jdk_52_method_21_28) rfl  k) ?_
  refine gs (mkF m 31 #[.val (.ref a), .val (.int (1 : Int32)), .val (.ref d), .val (.int (1 : Int32)), .val (.int (3 : Int32)), .val (.int (1 : Int32)), .val (.int c1)] [(.int (c1.toInt8.toInt32)), (.int (1 : Int32)), (.ref d)]) (fun _ _ A k => XS.i2b A hx rfl (hb hby own_d_jdk_52_method_21_30) rfl k) ?_
  have f4 := (C1.safe (show h0.size > d by omega) L3)
  refine gstB hx V1 ⟨by decide, by decide⟩ (i := 1) rfl (Nat.le_of_ble_eq_true rfl) (y := (c1.toInt8.toInt32)) (narB _) P2 (fun _ => f4) 32 (hb hby own_d_jdk_52_method_21_31) rfl ?_
  intro h3 W3 C3 V3
  have z3 := C3.2.1
  replace V3 : Arv Z h3 d kd .byte (3 : Int32) [(.int (c0.toInt8.toInt32)), (.int (c1.toInt8.toInt32)), (.int (0 : Int32))] (.int (0 : Int32)) := V3
  refine gs (mkF m 35 #[.val (.ref a), .val (.int (2 : Int32)), .val (.ref d), .val (.int (1 : Int32)), .val (.int (3 : Int32)), .val (.int (1 : Int32)), .val (.int c1)] []) (fun _ _ A k => XS.iinc A hx rfl (hb hby own_d_jdk_52_method_21_32) rfl (l' := #[.val (.ref a), .val (.int (2 : Int32)), .val (.ref d), .val (.int (1 : Int32)), .val (.int (3 : Int32)), .val (.int (1 : Int32)), .val (.int c1)]) rfl k) ?_
  refine gs (mkF m 38 #[.val (.ref a), .val (.int (2 : Int32)), .val (.ref d), .val (.int (2 : Int32)), .val (.int (3 : Int32)), .val (.int (1 : Int32)), .val (.int c1)] []) (fun _ _ A k => XS.iinc A hx rfl (hb hby own_d_jdk_52_method_21_35) rfl (l' := #[.val (.ref a), .val (.int (2 : Int32)), .val (.ref d), .val (.int (2 : Int32)), .val (.int (3 : Int32)), .val (.int (1 : Int32)), .val (.int c1)]) rfl k) ?_
  refine gs (mkF m 41 #[.val (.ref a), .val (.int (2 : Int32)), .val (.ref d), .val (.int (2 : Int32)), .val (.int (3 : Int32)), .val (.int (2 : Int32)), .val (.int c1)] []) (fun _ _ A k => XS.iinc A hx rfl (hb hby own_d_jdk_52_method_21_38) rfl (l' := #[.val (.ref a), .val (.int (2 : Int32)), .val (.ref d), .val (.int (2 : Int32)), .val (.int (3 : Int32)), .val (.int (2 : Int32)), .val (.int c1)]) rfl k) ?_
  refine gs (mkF m 3 #[.val (.ref a), .val (.int (2 : Int32)), .val (.ref d), .val (.int (2 : Int32)), .val (.int (3 : Int32)), .val (.int (2 : Int32)), .val (.int c1)] []) (fun _ _ A k => XS.goto A hx rfl (pc0 := 41) (pc' := 3) rfl (hb hby own_d_jdk_52_method_21_41) (by decide) (by decide) k) ?_
  refine gs (mkF m 5 #[.val (.ref a), .val (.int (2 : Int32)), .val (.ref d), .val (.int (2 : Int32)), .val (.int (3 : Int32)), .val (.int (2 : Int32)), .val (.int c1)] [(.int (2 : Int32))]) (fun _ _ A k => XS.iload A hx rfl (hb hby own_d_jdk_52_method_21_3) rfl  k) ?_
  refine gs (mkF m 7 #[.val (.ref a), .val (.int (2 : Int32)), .val (.ref d), .val (.int (2 : Int32)), .val (.int (3 : Int32)), .val (.int (2 : Int32)), .val (.int c1)] [(.int (3 : Int32)), (.int (2 : Int32))]) (fun _ _ A k => XS.iload A hx rfl (hb hby own_d_jdk_52_method_21_5) rfl  k) ?_
  refine gs (mkF m 10 #[.val (.ref a), .val (.int (2 : Int32)), .val (.ref d), .val (.int (2 : Int32)), .val (.int (3 : Int32)), .val (.int (2 : Int32)), .val (.int c1)] []) (fun _ _ A k => XS.icmpNo A hx rfl (hb hby own_d_jdk_52_method_21_7) rfl (tlt (by decide)).2.1 k) ?_
  refine gs (mkF m 11 #[.val (.ref a), .val (.int (2 : Int32)), .val (.ref d), .val (.int (2 : Int32)), .val (.int (3 : Int32)), .val (.int (2 : Int32)), .val (.int c1)] [(.ref a)]) (fun _ _ A k => XS.aloadN A hx rfl (hb hby own_d_jdk_52_method_21_10) rfl rfl k) ?_
  refine gs (mkF m 12 #[.val (.ref a), .val (.int (2 : Int32)), .val (.ref d), .val (.int (2 : Int32)), .val (.int (3 : Int32)), .val (.int (2 : Int32)), .val (.int c1)] [(.int (2 : Int32)), (.ref a)]) (fun _ _ A k => XS.iloadN A hx rfl (hb hby own_d_jdk_52_method_21_11) rfl  k) ?_
  have f5 := (f2.other W3 hne)
  refine gldC hx f5 ⟨by decide, by decide⟩ (i := 2) rfl (v := (.int c2)) rfl 13 (hb hby own_d_jdk_52_method_21_12) rfl ?_
  refine gs (mkF m 15 #[.val (.ref a), .val (.int (2 : Int32)), .val (.ref d), .val (.int (2 : Int32)), .val (.int (3 : Int32)), .val (.int (2 : Int32)), .val (.int c2)] []) (fun _ _ A k => XS.istore A hx rfl (hb hby own_d_jdk_52_method_21_13) rfl (l' := #[.val (.ref a), .val (.int (2 : Int32)), .val (.ref d), .val (.int (2 : Int32)), .val (.int (3 : Int32)), .val (.int (2 : Int32)), .val (.int c2)]) rfl k) ?_
  refine gs (mkF m 17 #[.val (.ref a), .val (.int (2 : Int32)), .val (.ref d), .val (.int (2 : Int32)), .val (.int (3 : Int32)), .val (.int (2 : Int32)), .val (.int c2)] [(.int c2)]) (fun _ _ A k => XS.iload A hx rfl (hb hby own_d_jdk_52_method_21_15) rfl  k) ?_
  refine gs (mkF m 20 #[.val (.ref a), .val (.int (2 : Int32)), .val (.ref d), .val (.int (2 : Int32)), .val (.int (3 : Int32)), .val (.int (2 : Int32)), .val (.int c2)] [(.int (255 : Int32)), (.int c2)]) (fun _ _ A k => XS.sipush A hx rfl (hb hby own_d_jdk_52_method_21_17) k) ?_
  refine gs (mkF m 26 #[.val (.ref a), .val (.int (2 : Int32)), .val (.ref d), .val (.int (2 : Int32)), .val (.int (3 : Int32)), .val (.int (2 : Int32)), .val (.int c2)] []) (fun _ _ A k => XS.icmpYes A hx rfl (pc0 := 20) (pc' := 26) rfl (hb hby own_d_jdk_52_method_21_20) rfl (flt P7).2.2.2 (by decide) (by decide) k) ?_
  refine gs (mkF m 27 #[.val (.ref a), .val (.int (2 : Int32)), .val (.ref d), .val (.int (2 : Int32)), .val (.int (3 : Int32)), .val (.int (2 : Int32)), .val (.int c2)] [(.ref d)]) (fun _ _ A k => XS.aloadN A hx rfl (hb hby own_d_jdk_52_method_21_26) rfl rfl k) ?_
  refine gs (mkF m 28 #[.val (.ref a), .val (.int (2 : Int32)), .val (.ref d), .val (.int (2 : Int32)), .val (.int (3 : Int32)), .val (.int (2 : Int32)), .val (.int c2)] [(.int (2 : Int32)), (.ref d)]) (fun _ _ A k => XS.iloadN A hx rfl (hb hby own_d_jdk_52_method_21_27) rfl  k) ?_
  refine gs (mkF m 30 #[.val (.ref a), .val (.int (2 : Int32)), .val (.ref d), .val (.int (2 : Int32)), .val (.int (3 : Int32)), .val (.int (2 : Int32)), .val (.int c2)] [(.int c2), (.int (2 : Int32)), (.ref d)]) (fun _ _ A k => XS.iload A hx rfl (hb hby own_d_jdk_52_method_21_28) rfl  k) ?_
  refine gs (mkF m 31 #[.val (.ref a), .val (.int (2 : Int32)), .val (.ref d), .val (.int (2 : Int32)), .val (.int (3 : Int32)), .val (.int (2 : Int32)), .val (.int c2)] [(.int (c2.toInt8.toInt32)), (.int (2 : Int32)), (.ref d)]) (fun _ _ A k => XS.i2b A hx rfl (hb hby own_d_jdk_52_method_21_30) rfl k) ?_
  have f7 := (C3.safe (show h1.size > d by omega) f4)
  refine gstB hx V3 ⟨by decide, by decide⟩ (i := 2) rfl (Nat.le_of_ble_eq_true rfl) (y := (c2.toInt8.toInt32)) (narB _) P2 (fun _ => f7) 32 (hb hby own_d_jdk_52_method_21_31) rfl ?_
  intro h6 W6 C6 V6
  have z6 := C6.2.1
  replace V6 : Arv Z h6 d kd .byte (3 : Int32) [(.int (c0.toInt8.toInt32)), (.int (c1.toInt8.toInt32)), (.int (c2.toInt8.toInt32))] (.int (0 : Int32)) := V6
  refine gs (mkF m 35 #[.val (.ref a), .val (.int (3 : Int32)), .val (.ref d), .val (.int (2 : Int32)), .val (.int (3 : Int32)), .val (.int (2 : Int32)), .val (.int c2)] []) (fun _ _ A k => XS.iinc A hx rfl (hb hby own_d_jdk_52_method_21_32) rfl (l' := #[.val (.ref a), .val (.int (3 : Int32)), .val (.ref d), .val (.int (2 : Int32)), .val (.int (3 : Int32)), .val (.int (2 : Int32)), .val (.int c2)]) rfl k) ?_
  refine gs (mkF m 38 #[.val (.ref a), .val (.int (3 : Int32)), .val (.ref d), .val (.int (3 : Int32)), .val (.int (3 : Int32)), .val (.int (2 : Int32)), .val (.int c2)] []) (fun _ _ A k => XS.iinc A hx rfl (hb hby own_d_jdk_52_method_21_35) rfl (l' := #[.val (.ref a), .val (.int (3 : Int32)), .val (.ref d), .val (.int (3 : Int32)), .val (.int (3 : Int32)), .val (.int (2 : Int32)), .val (.int c2)]) rfl k) ?_
  refine gs (mkF m 41 #[.val (.ref a), .val (.int (3 : Int32)), .val (.ref d), .val (.int (3 : Int32)), .val (.int (3 : Int32)), .val (.int (3 : Int32)), .val (.int c2)] []) (fun _ _ A k => XS.iinc A hx rfl (hb hby own_d_jdk_52_method_21_38) rfl (l' := #[.val (.ref a), .val (.int (3 : Int32)), .val (.ref d), .val (.int (3 : Int32)), .val (.int (3 : Int32)), .val (.int (3 : Int32)), .val (.int c2)]) rfl k) ?_
  refine gs (mkF m 3 #[.val (.ref a), .val (.int (3 : Int32)), .val (.ref d), .val (.int (3 : Int32)), .val (.int (3 : Int32)), .val (.int (3 : Int32)), .val (.int c2)] []) (fun _ _ A k => XS.goto A hx rfl (pc0 := 41) (pc' := 3) rfl (hb hby own_d_jdk_52_method_21_41) (by decide) (by decide) k) ?_
  refine gs (mkF m 5 #[.val (.ref a), .val (.int (3 : Int32)), .val (.ref d), .val (.int (3 : Int32)), .val (.int (3 : Int32)), .val (.int (3 : Int32)), .val (.int c2)] [(.int (3 : Int32))]) (fun _ _ A k => XS.iload A hx rfl (hb hby own_d_jdk_52_method_21_3) rfl  k) ?_
  refine gs (mkF m 7 #[.val (.ref a), .val (.int (3 : Int32)), .val (.ref d), .val (.int (3 : Int32)), .val (.int (3 : Int32)), .val (.int (3 : Int32)), .val (.int c2)] [(.int (3 : Int32)), (.int (3 : Int32))]) (fun _ _ A k => XS.iload A hx rfl (hb hby own_d_jdk_52_method_21_5) rfl  k) ?_
  refine gs (mkF m 44 #[.val (.ref a), .val (.int (3 : Int32)), .val (.ref d), .val (.int (3 : Int32)), .val (.int (3 : Int32)), .val (.int (3 : Int32)), .val (.int c2)] []) (fun _ _ A k => XS.icmpYes A hx rfl (pc0 := 7) (pc' := 44) rfl (hb hby own_d_jdk_52_method_21_7) rfl (flt (by decide)).2.1 (by decide) (by decide) k) ?_
  refine gs (mkF m 46 #[.val (.ref a), .val (.int (3 : Int32)), .val (.ref d), .val (.int (3 : Int32)), .val (.int (3 : Int32)), .val (.int (3 : Int32)), .val (.int c2)] [(.int (3 : Int32))]) (fun _ _ A k => XS.iload A hx rfl (hb hby own_d_jdk_52_method_21_44) rfl  k) ?_
  exact gretI hx hret (hb hby own_d_jdk_52_method_21_46) (by decide) (by decide) (fun vq Cq => ⟨rfl, ((((Keep.refl h0 [d]).wr W1 (Or.inl (List.mem_of_getElem? (i := 0) rfl))).wr W3 (Or.inl (List.mem_of_getElem? (i := 0) rfl))).wr W6 (Or.inl (List.mem_of_getElem? (i := 0) rfl))), V6⟩)
set_option maxRecDepth 65536 in
set_option maxHeartbeats 40000000 in
theorem own_nbl3 (l : Launch) (Z : State) (a0 : Array Value) (cx : Ctx Z a0) (ws : List Jvm.Cond)  (vm0 : Vm) (h0 : Heap) (X00 : Ext Z.heap h0)  :
    Met l (⟨"java/lang/StringUTF16", "newBytesLength", "(I)I"⟩ : MethodName) jdk_52_method_3_code 1 (some .int) ws ({ frames := 0, cells := 0, slots := 0, locals := 0 } : Room) Z ([] : List (String × Nat)) vm0 h0 #[(.int (3 : Int32))] (fun v vm h => v = some (.int (6 : Int32)) ∧ h0 = h) := by
  obtain ⟨hw, hEL, ⟨zc, Scs, hzc⟩, ⟨fm, Sfm, hfm⟩, Sad, Shi, Slo⟩ := id cx
  have hSA := own_SA hw
  refine Met.of_walk (a0 := a0) #[.val (.int (3 : Int32))] (plainFor_of_name own_pn14) X00 hEL (fun m => by first | (simp [entryFrame, mkF, argsToLocals, Value.category]; done) | rfl) ?_
  intro p e s m below meth c vm hx hby hml hret hnm hC0
  refine gs (mkF m 1 #[.val (.int (3 : Int32))] [(.int (3 : Int32))]) (fun _ _ A k => XS.iloadN A hx rfl (hb hby own_d_jdk_52_method_3_0) rfl  k) ?_
  refine gs (mkF m 12 #[.val (.int (3 : Int32))] []) (fun _ _ A k => XS.ifYes A hx rfl (pc0 := 1) (pc' := 12) rfl (hb hby own_d_jdk_52_method_3_1) rfl ((if0 _ _).trans (flt (by decide)).2.1) (by decide) (by decide) k) ?_
  refine gs (mkF m 13 #[.val (.int (3 : Int32))] [(.int (3 : Int32))]) (fun _ _ A k => XS.iloadN A hx rfl (hb hby own_d_jdk_52_method_3_12) rfl  k) ?_
  refine gldcI hx (ow hw 52 rfl) 15 (hb hby own_d_jdk_52_method_3_13) rfl ?_
  refine gs (mkF m 55 #[.val (.int (3 : Int32))] []) (fun _ _ A k => XS.icmpYes A hx rfl (pc0 := 15) (pc' := 55) rfl (hb hby own_d_jdk_52_method_3_15) rfl (tlt (by decide)).1 (by decide) (by decide) k) ?_
  refine gs (mkF m 56 #[.val (.int (3 : Int32))] [(.int (3 : Int32))]) (fun _ _ A k => XS.iloadN A hx rfl (hb hby own_d_jdk_52_method_3_55) rfl  k) ?_
  refine gs (mkF m 57 #[.val (.int (3 : Int32))] [(.int (1 : Int32)), (.int (3 : Int32))]) (fun _ _ A k => XS.iconst A hx rfl (hb hby own_d_jdk_52_method_3_56) k) ?_
  refine gs (mkF m 58 #[.val (.int (3 : Int32))] [(.int (6 : Int32))]) (fun _ _ A k => XS.ishl A hx rfl (hb hby own_d_jdk_52_method_3_57) rfl k) ?_
  exact gretI hx hret (hb hby own_d_jdk_52_method_3_58) (by decide) (by decide) (fun vq Cq => ⟨rfl, rfl⟩)
set_option maxRecDepth 65536 in
set_option maxHeartbeats 40000000 in
theorem own_nbf3 (l : Launch) (Z : State) (a0 : Array Value) (cx : Ctx Z a0) (ws : List Jvm.Cond)  (vm0 : Vm) (h0 : Heap) (X00 : Ext Z.heap h0)  :
    Met l (⟨"java/lang/StringUTF16", "newBytesFor", "(I)[B"⟩ : MethodName) jdk_52_method_2_code 1 (some (.array .byte)) ws ({ frames := 1, cells := 1, slots := 6, locals := 12 } : Room) Z ([] : List (String × Nat)) vm0 h0 #[(.int (3 : Int32))] (fun v vm h => ∃ (r : Addr), ∃ (kb : ClassId), v = some (.ref r) ∧ Keep h0 h [] ∧ h0.size ≤ r ∧ Z.heap.size ≤ r ∧ Safe Z ([] : List (String × Nat)) vm h r ∧ Arv Z h r kb .byte (6 : Int32) [(.int (0 : Int32)), (.int (0 : Int32)), (.int (0 : Int32)), (.int (0 : Int32)), (.int (0 : Int32)), (.int (0 : Int32))] (.int (0 : Int32))) := by
  obtain ⟨hw, hEL, ⟨zc, Scs, hzc⟩, ⟨fm, Sfm, hfm⟩, Sad, Shi, Slo⟩ := id cx
  have hSA := own_SA hw
  refine Met.of_walk (a0 := a0) #[.val (.int (3 : Int32))] (plainFor_of_name own_pn14) X00 hEL (fun m => by first | (simp [entryFrame, mkF, argsToLocals, Value.category]; done) | rfl) ?_
  intro p e s m below meth c vm hx hby hml hret hnm hC0
  refine gs (mkF m 1 #[.val (.int (3 : Int32))] [(.int (3 : Int32))]) (fun _ _ A k => XS.iloadN A hx rfl (hb hby own_d_jdk_52_method_2_0) rfl  k) ?_
  refine ginfo fun _ _ O1 => ?_
  refine gcallS (y := (⟨"java/lang/StringUTF16", "newBytesLength", "(I)I"⟩ : MethodName)) hx (ow hw 49 rfl) (ow hw 50 rfl) (ow hw 18 rfl) (ow hw 51 rfl) (by decide) (fun hZ H hEL => Pay.of_met (W := 0) (own_nbl3 l Z a0 cx []  vm h0 O1 ) (ow hw 51 rfl) (ow hw 18 rfl) (by decide) (by decide) hZ H hEL) 4 (argsL := [(.int (3 : Int32))]) (rest := []) (lenOf own_pd37 rfl) rfl rfl (Nat.le_of_eq rfl) (by rw [hml]; rfl) (hb hby own_d_jdk_52_method_2_1) rfl (by decide) (by decide) ?_
  rintro _ vm1 h1 C1 ⟨rfl, rfl⟩
  have z1 := C1.2.1
  refine gat (mkF m 4 #[.val (.int (3 : Int32))] [(.int (6 : Int32))]) rfl ?_
  refine gnewP hx (ow hw 20 rfl) (n := (6 : Int32)) (by decide) (cap := 6) (by decide) (by decide) 6 (hb hby own_d_jdk_52_method_2_4) rfl (by decide) (by decide) ?_
  intro b2 h2 k2 g2 E2 C2 V2 n2 L2
  have z2 := C2.2.1
  have V2 : Arv Z h2 b2 k2 .byte (6 : Int32) [(.int (0 : Int32)), (.int (0 : Int32)), (.int (0 : Int32)), (.int (0 : Int32)), (.int (0 : Int32)), (.int (0 : Int32))] (.int (0 : Int32)) := V2.pad (pad_rep [] (.int (0 : Int32)) 6)
  have lt_b2 : h2.size > b2 := V2.lt
  exact gretA hx hret rfl rfl (hb hby own_d_jdk_52_method_2_6) (by decide) (by decide) (fun vq Cq => ⟨b2, k2, rfl, ((Keep.refl h0 []).ext E2), (by omega), n2, (Cq.safe (show h2.size > b2 by omega) L2), V2⟩)
set_option maxRecDepth 65536 in
set_option maxHeartbeats 40000000 in
theorem own_pc3_0 (l : Launch) (Z : State) (a0 : Array Value) (cx : Ctx Z a0) (ws : List Jvm.Cond) (a : Addr) (ch : Int32) (ka : ClassId) (u0 : Value) (u1 : Value) (u2 : Value) (u3 : Value) (u4 : Value) (u5 : Value) (vm0 : Vm) (h0 : Heap) (X00 : Ext Z.heap h0) (P0 : Arv Z h0 a ka .byte (6 : Int32) [u0, u1, u2, u3, u4, u5] (.int (0 : Int32))) (P1 : Z.heap.size ≤ a) (P2 : Safe Z ([] : List (String × Nat)) vm0 h0 a) :
    Met l (⟨"java/lang/StringUTF16", "putChar", "([BII)V"⟩ : MethodName) jdk_52_method_4_code 3 none ws ({ frames := 0, cells := 0, slots := 0, locals := 0 } : Room) Z ([] : List (String × Nat)) vm0 h0 #[(.ref a), (.int (0 : Int32)), (.int ch)] (fun v vm h => v = none ∧ Keep h0 h [a] ∧ Arv Z h a ka .byte (6 : Int32) [(.int ((ch >>> ((0 : Int32) &&& 31)).toInt8.toInt32)), (.int ((ch >>> ((8 : Int32) &&& 31)).toInt8.toInt32)), u2, u3, u4, u5] (.int (0 : Int32)) ∧ Safe Z ([] : List (String × Nat)) vm h a) := by
  obtain ⟨hw, hEL, ⟨zc, Scs, hzc⟩, ⟨fm, Sfm, hfm⟩, Sad, Shi, Slo⟩ := id cx
  have hSA := own_SA hw
  refine Met.of_walk (a0 := a0) #[.val (.ref a), .val (.int (0 : Int32)), .val (.int ch)] (plainFor_of_name own_pn14) X00 hEL (fun m => by first | (simp [entryFrame, mkF, argsToLocals, Value.category]; done) | rfl) ?_
  intro p e s m below meth c vm hx hby hml hret hnm hC0
  have lt_a : h0.size > a := P0.lt
  have L2 := hC0.safe lt_a P2
  refine ggetS (host := "") hx (Or.inl (ow hw 56 rfl)) Via.refl Sad 3 (hb hby own_d_jdk_52_method_4_0) rfl ?_
  refine gs (mkF m 28 #[.val (.ref a), .val (.int (0 : Int32)), .val (.int ch)] []) (fun _ _ A k => XS.ifYes A hx rfl (pc0 := 3) (pc' := 28) rfl (hb hby own_d_jdk_52_method_4_3) rfl ((if0 _ _).trans (feq (by decide)).2) (by decide) (by decide) k) ?_
  refine gs (mkF m 29 #[.val (.ref a), .val (.int (0 : Int32)), .val (.int ch)] [(.int (0 : Int32))]) (fun _ _ A k => XS.iloadN A hx rfl (hb hby own_d_jdk_52_method_4_28) rfl  k) ?_
  refine gs (mkF m 30 #[.val (.ref a), .val (.int (0 : Int32)), .val (.int ch)] [(.int (1 : Int32)), (.int (0 : Int32))]) (fun _ _ A k => XS.iconst A hx rfl (hb hby own_d_jdk_52_method_4_29) k) ?_
  refine gs (mkF m 31 #[.val (.ref a), .val (.int (0 : Int32)), .val (.int ch)] [(.int (0 : Int32))]) (fun _ _ A k => XS.ishl A hx rfl (hb hby own_d_jdk_52_method_4_30) rfl k) ?_
  refine gs (mkF m 32 #[.val (.ref a), .val (.int (0 : Int32)), .val (.int ch)] []) (fun _ _ A k => XS.istoreN A hx rfl (hb hby own_d_jdk_52_method_4_31) rfl (l' := #[.val (.ref a), .val (.int (0 : Int32)), .val (.int ch)]) rfl k) ?_
  refine gs (mkF m 33 #[.val (.ref a), .val (.int (0 : Int32)), .val (.int ch)] [(.ref a)]) (fun _ _ A k => XS.aloadN A hx rfl (hb hby own_d_jdk_52_method_4_32) rfl rfl k) ?_
  refine gs (mkF m 34 #[.val (.ref a), .val (.int (0 : Int32)), .val (.int ch)] [(.int (0 : Int32)), (.ref a)]) (fun _ _ A k => XS.iloadN A hx rfl (hb hby own_d_jdk_52_method_4_33) rfl  k) ?_
  refine gs (mkF m 37 #[.val (.ref a), .val (.int (1 : Int32)), .val (.int ch)] [(.int (0 : Int32)), (.ref a)]) (fun _ _ A k => XS.iinc A hx rfl (hb hby own_d_jdk_52_method_4_34) rfl (l' := #[.val (.ref a), .val (.int (1 : Int32)), .val (.int ch)]) rfl k) ?_
  refine gs (mkF m 38 #[.val (.ref a), .val (.int (1 : Int32)), .val (.int ch)] [(.int ch), (.int (0 : Int32)), (.ref a)]) (fun _ _ A k => XS.iloadN A hx rfl (hb hby own_d_jdk_52_method_4_37) rfl  k) ?_
  refine ggetS (host := "") hx (Or.inl (ow hw 57 rfl)) Via.refl Shi 41 (hb hby own_d_jdk_52_method_4_38) rfl ?_
  refine gs (mkF m 42 #[.val (.ref a), .val (.int (1 : Int32)), .val (.int ch)] [(.int (ch >>> ((0 : Int32) &&& 31))), (.int (0 : Int32)), (.ref a)]) (fun _ _ A k => XS.ishr A hx rfl (hb hby own_d_jdk_52_method_4_41) rfl k) ?_
  refine gs (mkF m 43 #[.val (.ref a), .val (.int (1 : Int32)), .val (.int ch)] [(.int ((ch >>> ((0 : Int32) &&& 31)).toInt8.toInt32)), (.int (0 : Int32)), (.ref a)]) (fun _ _ A k => XS.i2b A hx rfl (hb hby own_d_jdk_52_method_4_42) rfl k) ?_
  refine gstB hx P0 ⟨by decide, by decide⟩ (i := 0) rfl (Nat.le_of_ble_eq_true rfl) (y := ((ch >>> ((0 : Int32) &&& 31)).toInt8.toInt32)) (narB _) P1 (fun _ => L2) 44 (hb hby own_d_jdk_52_method_4_43) rfl ?_
  intro h1 W1 C1 V1
  have z1 := C1.2.1
  replace V1 : Arv Z h1 a ka .byte (6 : Int32) [(.int ((ch >>> ((0 : Int32) &&& 31)).toInt8.toInt32)), u1, u2, u3, u4, u5] (.int (0 : Int32)) := V1
  refine gs (mkF m 45 #[.val (.ref a), .val (.int (1 : Int32)), .val (.int ch)] [(.ref a)]) (fun _ _ A k => XS.aloadN A hx rfl (hb hby own_d_jdk_52_method_4_44) rfl rfl k) ?_
  refine gs (mkF m 46 #[.val (.ref a), .val (.int (1 : Int32)), .val (.int ch)] [(.int (1 : Int32)), (.ref a)]) (fun _ _ A k => XS.iloadN A hx rfl (hb hby own_d_jdk_52_method_4_45) rfl  k) ?_
  refine gs (mkF m 47 #[.val (.ref a), .val (.int (1 : Int32)), .val (.int ch)] [(.int ch), (.int (1 : Int32)), (.ref a)]) (fun _ _ A k => XS.iloadN A hx rfl (hb hby own_d_jdk_52_method_4_46) rfl  k) ?_
  refine ggetS (host := "") hx (Or.inl (ow hw 58 rfl)) Via.refl Slo 50 (hb hby own_d_jdk_52_method_4_47) rfl ?_
  refine gs (mkF m 51 #[.val (.ref a), .val (.int (1 : Int32)), .val (.int ch)] [(.int (ch >>> ((8 : Int32) &&& 31))), (.int (1 : Int32)), (.ref a)]) (fun _ _ A k => XS.ishr A hx rfl (hb hby own_d_jdk_52_method_4_50) rfl k) ?_
  refine gs (mkF m 52 #[.val (.ref a), .val (.int (1 : Int32)), .val (.int ch)] [(.int ((ch >>> ((8 : Int32) &&& 31)).toInt8.toInt32)), (.int (1 : Int32)), (.ref a)]) (fun _ _ A k => XS.i2b A hx rfl (hb hby own_d_jdk_52_method_4_51) rfl k) ?_
  have f3 := (C1.safe (show h0.size > a by omega) L2)
  refine gstB hx V1 ⟨by decide, by decide⟩ (i := 1) rfl (Nat.le_of_ble_eq_true rfl) (y := ((ch >>> ((8 : Int32) &&& 31)).toInt8.toInt32)) (narB _) P1 (fun _ => f3) 53 (hb hby own_d_jdk_52_method_4_52) rfl ?_
  intro h2 W2 C2 V2
  have z2 := C2.2.1
  replace V2 : Arv Z h2 a ka .byte (6 : Int32) [(.int ((ch >>> ((0 : Int32) &&& 31)).toInt8.toInt32)), (.int ((ch >>> ((8 : Int32) &&& 31)).toInt8.toInt32)), u2, u3, u4, u5] (.int (0 : Int32)) := V2
  have f5 := (C2.safe (show h1.size > a by omega) f3)
  exact gretV hx hret (hb hby own_d_jdk_52_method_4_53) (by decide) (by decide) (fun vq Cq => ⟨rfl, (((Keep.refl h0 [a]).wr W1 (Or.inl (List.mem_of_getElem? (i := 0) rfl))).wr W2 (Or.inl (List.mem_of_getElem? (i := 0) rfl))), V2, (Cq.safe (show h2.size > a by omega) f5)⟩)
set_option maxRecDepth 65536 in
set_option maxHeartbeats 40000000 in
theorem own_gc3_0 (l : Launch) (Z : State) (a0 : Array Value) (cx : Ctx Z a0) (ws : List Jvm.Cond) (a : Addr) (ka : ClassId) (b0 : Int32) (b1 : Int32) (u2 : Value) (u3 : Value) (u4 : Value) (u5 : Value) (vm0 : Vm) (h0 : Heap) (X00 : Ext Z.heap h0) (P0 : Arv Z h0 a ka .byte (6 : Int32) [(.int b0), (.int b1), u2, u3, u4, u5] (.int (0 : Int32))) :
    Met l (⟨"java/lang/StringUTF16", "getChar", "([BI)C"⟩ : MethodName) jdk_52_method_5_code 2 (some .char) ws ({ frames := 0, cells := 0, slots := 0, locals := 0 } : Room) Z ([] : List (String × Nat)) vm0 h0 #[(.ref a), (.int (0 : Int32))] (fun v vm h => v = some (.int (StrChars.pairCh b0 b1)) ∧ h0 = h) := by
  obtain ⟨hw, hEL, ⟨zc, Scs, hzc⟩, ⟨fm, Sfm, hfm⟩, Sad, Shi, Slo⟩ := id cx
  have hSA := own_SA hw
  refine Met.of_walk (a0 := a0) #[.val (.ref a), .val (.int (0 : Int32))] (plainFor_of_name own_pn14) X00 hEL (fun m => by first | (simp [entryFrame, mkF, argsToLocals, Value.category]; done) | rfl) ?_
  intro p e s m below meth c vm hx hby hml hret hnm hC0
  have lt_a : h0.size > a := P0.lt
  refine ggetS (host := "") hx (Or.inl (ow hw 56 rfl)) Via.refl Sad 3 (hb hby own_d_jdk_52_method_5_0) rfl ?_
  refine gs (mkF m 28 #[.val (.ref a), .val (.int (0 : Int32))] []) (fun _ _ A k => XS.ifYes A hx rfl (pc0 := 3) (pc' := 28) rfl (hb hby own_d_jdk_52_method_5_3) rfl ((if0 _ _).trans (feq (by decide)).2) (by decide) (by decide) k) ?_
  refine gs (mkF m 29 #[.val (.ref a), .val (.int (0 : Int32))] [(.int (0 : Int32))]) (fun _ _ A k => XS.iloadN A hx rfl (hb hby own_d_jdk_52_method_5_28) rfl  k) ?_
  refine gs (mkF m 30 #[.val (.ref a), .val (.int (0 : Int32))] [(.int (1 : Int32)), (.int (0 : Int32))]) (fun _ _ A k => XS.iconst A hx rfl (hb hby own_d_jdk_52_method_5_29) k) ?_
  refine gs (mkF m 31 #[.val (.ref a), .val (.int (0 : Int32))] [(.int (0 : Int32))]) (fun _ _ A k => XS.ishl A hx rfl (hb hby own_d_jdk_52_method_5_30) rfl k) ?_
  refine gs (mkF m 32 #[.val (.ref a), .val (.int (0 : Int32))] []) (fun _ _ A k => XS.istoreN A hx rfl (hb hby own_d_jdk_52_method_5_31) rfl (l' := #[.val (.ref a), .val (.int (0 : Int32))]) rfl k) ?_
  refine gs (mkF m 33 #[.val (.ref a), .val (.int (0 : Int32))] [(.ref a)]) (fun _ _ A k => XS.aloadN A hx rfl (hb hby own_d_jdk_52_method_5_32) rfl rfl k) ?_
  refine gs (mkF m 34 #[.val (.ref a), .val (.int (0 : Int32))] [(.int (0 : Int32)), (.ref a)]) (fun _ _ A k => XS.iloadN A hx rfl (hb hby own_d_jdk_52_method_5_33) rfl  k) ?_
  refine gs (mkF m 37 #[.val (.ref a), .val (.int (1 : Int32))] [(.int (0 : Int32)), (.ref a)]) (fun _ _ A k => XS.iinc A hx rfl (hb hby own_d_jdk_52_method_5_34) rfl (l' := #[.val (.ref a), .val (.int (1 : Int32))]) rfl k) ?_
  refine gldB hx P0 ⟨by decide, by decide⟩ (i := 0) rfl (v := (.int b0)) rfl 38 (hb hby own_d_jdk_52_method_5_37) rfl ?_
  refine gs (mkF m 41 #[.val (.ref a), .val (.int (1 : Int32))] [(.int (255 : Int32)), (.int b0)]) (fun _ _ A k => XS.sipush A hx rfl (hb hby own_d_jdk_52_method_5_38) k) ?_
  refine gs (mkF m 42 #[.val (.ref a), .val (.int (1 : Int32))] [(.int (b0 &&& (255 : Int32)))]) (fun _ _ A k => XS.iand A hx rfl (hb hby own_d_jdk_52_method_5_41) rfl k) ?_
  refine ggetS (host := "") hx (Or.inl (ow hw 57 rfl)) Via.refl Shi 45 (hb hby own_d_jdk_52_method_5_42) rfl ?_
  refine gs (mkF m 46 #[.val (.ref a), .val (.int (1 : Int32))] [(.int ((b0 &&& (255 : Int32)) <<< ((0 : Int32) &&& 31)))]) (fun _ _ A k => XS.ishl A hx rfl (hb hby own_d_jdk_52_method_5_45) rfl k) ?_
  refine gs (mkF m 47 #[.val (.ref a), .val (.int (1 : Int32))] [(.ref a), (.int ((b0 &&& (255 : Int32)) <<< ((0 : Int32) &&& 31)))]) (fun _ _ A k => XS.aloadN A hx rfl (hb hby own_d_jdk_52_method_5_46) rfl rfl k) ?_
  refine gs (mkF m 48 #[.val (.ref a), .val (.int (1 : Int32))] [(.int (1 : Int32)), (.ref a), (.int ((b0 &&& (255 : Int32)) <<< ((0 : Int32) &&& 31)))]) (fun _ _ A k => XS.iloadN A hx rfl (hb hby own_d_jdk_52_method_5_47) rfl  k) ?_
  refine gldB hx P0 ⟨by decide, by decide⟩ (i := 1) rfl (v := (.int b1)) rfl 49 (hb hby own_d_jdk_52_method_5_48) rfl ?_
  refine gs (mkF m 52 #[.val (.ref a), .val (.int (1 : Int32))] [(.int (255 : Int32)), (.int b1), (.int ((b0 &&& (255 : Int32)) <<< ((0 : Int32) &&& 31)))]) (fun _ _ A k => XS.sipush A hx rfl (hb hby own_d_jdk_52_method_5_49) k) ?_
  refine gs (mkF m 53 #[.val (.ref a), .val (.int (1 : Int32))] [(.int (b1 &&& (255 : Int32))), (.int ((b0 &&& (255 : Int32)) <<< ((0 : Int32) &&& 31)))]) (fun _ _ A k => XS.iand A hx rfl (hb hby own_d_jdk_52_method_5_52) rfl k) ?_
  refine ggetS (host := "") hx (Or.inl (ow hw 58 rfl)) Via.refl Slo 56 (hb hby own_d_jdk_52_method_5_53) rfl ?_
  refine gs (mkF m 57 #[.val (.ref a), .val (.int (1 : Int32))] [(.int ((b1 &&& (255 : Int32)) <<< ((8 : Int32) &&& 31))), (.int ((b0 &&& (255 : Int32)) <<< ((0 : Int32) &&& 31)))]) (fun _ _ A k => XS.ishl A hx rfl (hb hby own_d_jdk_52_method_5_56) rfl k) ?_
  refine gs (mkF m 58 #[.val (.ref a), .val (.int (1 : Int32))] [(.int (((b0 &&& (255 : Int32)) <<< ((0 : Int32) &&& 31)) ||| ((b1 &&& (255 : Int32)) <<< ((8 : Int32) &&& 31))))]) (fun _ _ A k => XS.ior A hx rfl (hb hby own_d_jdk_52_method_5_57) rfl k) ?_
  refine gi2c hx rfl 59 (hb hby own_d_jdk_52_method_5_58) rfl ?_
  exact gretN (t := .char) hx hret (by simp) (hb hby own_d_jdk_52_method_5_59) (by decide) (by decide) (fun vq Cq => ⟨(congrArg (fun z => some (Value.int z)) (narC2 _)), rfl⟩)
set_option maxRecDepth 65536 in
set_option maxHeartbeats 40000000 in
theorem own_pc3_1 (l : Launch) (Z : State) (a0 : Array Value) (cx : Ctx Z a0) (ws : List Jvm.Cond) (a : Addr) (ch : Int32) (ka : ClassId) (u0 : Value) (u1 : Value) (u2 : Value) (u3 : Value) (u4 : Value) (u5 : Value) (vm0 : Vm) (h0 : Heap) (X00 : Ext Z.heap h0) (P0 : Arv Z h0 a ka .byte (6 : Int32) [u0, u1, u2, u3, u4, u5] (.int (0 : Int32))) (P1 : Z.heap.size ≤ a) (P2 : Safe Z ([] : List (String × Nat)) vm0 h0 a) :
    Met l (⟨"java/lang/StringUTF16", "putChar", "([BII)V"⟩ : MethodName) jdk_52_method_4_code 3 none ws ({ frames := 0, cells := 0, slots := 0, locals := 0 } : Room) Z ([] : List (String × Nat)) vm0 h0 #[(.ref a), (.int (1 : Int32)), (.int ch)] (fun v vm h => v = none ∧ Keep h0 h [a] ∧ Arv Z h a ka .byte (6 : Int32) [u0, u1, (.int ((ch >>> ((0 : Int32) &&& 31)).toInt8.toInt32)), (.int ((ch >>> ((8 : Int32) &&& 31)).toInt8.toInt32)), u4, u5] (.int (0 : Int32)) ∧ Safe Z ([] : List (String × Nat)) vm h a) := by
  obtain ⟨hw, hEL, ⟨zc, Scs, hzc⟩, ⟨fm, Sfm, hfm⟩, Sad, Shi, Slo⟩ := id cx
  have hSA := own_SA hw
  refine Met.of_walk (a0 := a0) #[.val (.ref a), .val (.int (1 : Int32)), .val (.int ch)] (plainFor_of_name own_pn14) X00 hEL (fun m => by first | (simp [entryFrame, mkF, argsToLocals, Value.category]; done) | rfl) ?_
  intro p e s m below meth c vm hx hby hml hret hnm hC0
  have lt_a : h0.size > a := P0.lt
  have L2 := hC0.safe lt_a P2
  refine ggetS (host := "") hx (Or.inl (ow hw 56 rfl)) Via.refl Sad 3 (hb hby own_d_jdk_52_method_4_0) rfl ?_
  refine gs (mkF m 28 #[.val (.ref a), .val (.int (1 : Int32)), .val (.int ch)] []) (fun _ _ A k => XS.ifYes A hx rfl (pc0 := 3) (pc' := 28) rfl (hb hby own_d_jdk_52_method_4_3) rfl ((if0 _ _).trans (feq (by decide)).2) (by decide) (by decide) k) ?_
  refine gs (mkF m 29 #[.val (.ref a), .val (.int (1 : Int32)), .val (.int ch)] [(.int (1 : Int32))]) (fun _ _ A k => XS.iloadN A hx rfl (hb hby own_d_jdk_52_method_4_28) rfl  k) ?_
  refine gs (mkF m 30 #[.val (.ref a), .val (.int (1 : Int32)), .val (.int ch)] [(.int (1 : Int32)), (.int (1 : Int32))]) (fun _ _ A k => XS.iconst A hx rfl (hb hby own_d_jdk_52_method_4_29) k) ?_
  refine gs (mkF m 31 #[.val (.ref a), .val (.int (1 : Int32)), .val (.int ch)] [(.int (2 : Int32))]) (fun _ _ A k => XS.ishl A hx rfl (hb hby own_d_jdk_52_method_4_30) rfl k) ?_
  refine gs (mkF m 32 #[.val (.ref a), .val (.int (2 : Int32)), .val (.int ch)] []) (fun _ _ A k => XS.istoreN A hx rfl (hb hby own_d_jdk_52_method_4_31) rfl (l' := #[.val (.ref a), .val (.int (2 : Int32)), .val (.int ch)]) rfl k) ?_
  refine gs (mkF m 33 #[.val (.ref a), .val (.int (2 : Int32)), .val (.int ch)] [(.ref a)]) (fun _ _ A k => XS.aloadN A hx rfl (hb hby own_d_jdk_52_method_4_32) rfl rfl k) ?_
  refine gs (mkF m 34 #[.val (.ref a), .val (.int (2 : Int32)), .val (.int ch)] [(.int (2 : Int32)), (.ref a)]) (fun _ _ A k => XS.iloadN A hx rfl (hb hby own_d_jdk_52_method_4_33) rfl  k) ?_
  refine gs (mkF m 37 #[.val (.ref a), .val (.int (3 : Int32)), .val (.int ch)] [(.int (2 : Int32)), (.ref a)]) (fun _ _ A k => XS.iinc A hx rfl (hb hby own_d_jdk_52_method_4_34) rfl (l' := #[.val (.ref a), .val (.int (3 : Int32)), .val (.int ch)]) rfl k) ?_
  refine gs (mkF m 38 #[.val (.ref a), .val (.int (3 : Int32)), .val (.int ch)] [(.int ch), (.int (2 : Int32)), (.ref a)]) (fun _ _ A k => XS.iloadN A hx rfl (hb hby own_d_jdk_52_method_4_37) rfl  k) ?_
  refine ggetS (host := "") hx (Or.inl (ow hw 57 rfl)) Via.refl Shi 41 (hb hby own_d_jdk_52_method_4_38) rfl ?_
  refine gs (mkF m 42 #[.val (.ref a), .val (.int (3 : Int32)), .val (.int ch)] [(.int (ch >>> ((0 : Int32) &&& 31))), (.int (2 : Int32)), (.ref a)]) (fun _ _ A k => XS.ishr A hx rfl (hb hby own_d_jdk_52_method_4_41) rfl k) ?_
  refine gs (mkF m 43 #[.val (.ref a), .val (.int (3 : Int32)), .val (.int ch)] [(.int ((ch >>> ((0 : Int32) &&& 31)).toInt8.toInt32)), (.int (2 : Int32)), (.ref a)]) (fun _ _ A k => XS.i2b A hx rfl (hb hby own_d_jdk_52_method_4_42) rfl k) ?_
  refine gstB hx P0 ⟨by decide, by decide⟩ (i := 2) rfl (Nat.le_of_ble_eq_true rfl) (y := ((ch >>> ((0 : Int32) &&& 31)).toInt8.toInt32)) (narB _) P1 (fun _ => L2) 44 (hb hby own_d_jdk_52_method_4_43) rfl ?_
  intro h1 W1 C1 V1
  have z1 := C1.2.1
  replace V1 : Arv Z h1 a ka .byte (6 : Int32) [u0, u1, (.int ((ch >>> ((0 : Int32) &&& 31)).toInt8.toInt32)), u3, u4, u5] (.int (0 : Int32)) := V1
  refine gs (mkF m 45 #[.val (.ref a), .val (.int (3 : Int32)), .val (.int ch)] [(.ref a)]) (fun _ _ A k => XS.aloadN A hx rfl (hb hby own_d_jdk_52_method_4_44) rfl rfl k) ?_
  refine gs (mkF m 46 #[.val (.ref a), .val (.int (3 : Int32)), .val (.int ch)] [(.int (3 : Int32)), (.ref a)]) (fun _ _ A k => XS.iloadN A hx rfl (hb hby own_d_jdk_52_method_4_45) rfl  k) ?_
  refine gs (mkF m 47 #[.val (.ref a), .val (.int (3 : Int32)), .val (.int ch)] [(.int ch), (.int (3 : Int32)), (.ref a)]) (fun _ _ A k => XS.iloadN A hx rfl (hb hby own_d_jdk_52_method_4_46) rfl  k) ?_
  refine ggetS (host := "") hx (Or.inl (ow hw 58 rfl)) Via.refl Slo 50 (hb hby own_d_jdk_52_method_4_47) rfl ?_
  refine gs (mkF m 51 #[.val (.ref a), .val (.int (3 : Int32)), .val (.int ch)] [(.int (ch >>> ((8 : Int32) &&& 31))), (.int (3 : Int32)), (.ref a)]) (fun _ _ A k => XS.ishr A hx rfl (hb hby own_d_jdk_52_method_4_50) rfl k) ?_
  refine gs (mkF m 52 #[.val (.ref a), .val (.int (3 : Int32)), .val (.int ch)] [(.int ((ch >>> ((8 : Int32) &&& 31)).toInt8.toInt32)), (.int (3 : Int32)), (.ref a)]) (fun _ _ A k => XS.i2b A hx rfl (hb hby own_d_jdk_52_method_4_51) rfl k) ?_
  have f3 := (C1.safe (show h0.size > a by omega) L2)
  refine gstB hx V1 ⟨by decide, by decide⟩ (i := 3) rfl (Nat.le_of_ble_eq_true rfl) (y := ((ch >>> ((8 : Int32) &&& 31)).toInt8.toInt32)) (narB _) P1 (fun _ => f3) 53 (hb hby own_d_jdk_52_method_4_52) rfl ?_
  intro h2 W2 C2 V2
  have z2 := C2.2.1
  replace V2 : Arv Z h2 a ka .byte (6 : Int32) [u0, u1, (.int ((ch >>> ((0 : Int32) &&& 31)).toInt8.toInt32)), (.int ((ch >>> ((8 : Int32) &&& 31)).toInt8.toInt32)), u4, u5] (.int (0 : Int32)) := V2
  have f5 := (C2.safe (show h1.size > a by omega) f3)
  exact gretV hx hret (hb hby own_d_jdk_52_method_4_53) (by decide) (by decide) (fun vq Cq => ⟨rfl, (((Keep.refl h0 [a]).wr W1 (Or.inl (List.mem_of_getElem? (i := 0) rfl))).wr W2 (Or.inl (List.mem_of_getElem? (i := 0) rfl))), V2, (Cq.safe (show h2.size > a by omega) f5)⟩)
set_option maxRecDepth 65536 in
set_option maxHeartbeats 40000000 in
theorem own_gc3_1 (l : Launch) (Z : State) (a0 : Array Value) (cx : Ctx Z a0) (ws : List Jvm.Cond) (a : Addr) (ka : ClassId) (b0 : Int32) (b1 : Int32) (u0 : Value) (u1 : Value) (u4 : Value) (u5 : Value) (vm0 : Vm) (h0 : Heap) (X00 : Ext Z.heap h0) (P0 : Arv Z h0 a ka .byte (6 : Int32) [u0, u1, (.int b0), (.int b1), u4, u5] (.int (0 : Int32))) :
    Met l (⟨"java/lang/StringUTF16", "getChar", "([BI)C"⟩ : MethodName) jdk_52_method_5_code 2 (some .char) ws ({ frames := 0, cells := 0, slots := 0, locals := 0 } : Room) Z ([] : List (String × Nat)) vm0 h0 #[(.ref a), (.int (1 : Int32))] (fun v vm h => v = some (.int (StrChars.pairCh b0 b1)) ∧ h0 = h) := by
  obtain ⟨hw, hEL, ⟨zc, Scs, hzc⟩, ⟨fm, Sfm, hfm⟩, Sad, Shi, Slo⟩ := id cx
  have hSA := own_SA hw
  refine Met.of_walk (a0 := a0) #[.val (.ref a), .val (.int (1 : Int32))] (plainFor_of_name own_pn14) X00 hEL (fun m => by first | (simp [entryFrame, mkF, argsToLocals, Value.category]; done) | rfl) ?_
  intro p e s m below meth c vm hx hby hml hret hnm hC0
  have lt_a : h0.size > a := P0.lt
  refine ggetS (host := "") hx (Or.inl (ow hw 56 rfl)) Via.refl Sad 3 (hb hby own_d_jdk_52_method_5_0) rfl ?_
  refine gs (mkF m 28 #[.val (.ref a), .val (.int (1 : Int32))] []) (fun _ _ A k => XS.ifYes A hx rfl (pc0 := 3) (pc' := 28) rfl (hb hby own_d_jdk_52_method_5_3) rfl ((if0 _ _).trans (feq (by decide)).2) (by decide) (by decide) k) ?_
  refine gs (mkF m 29 #[.val (.ref a), .val (.int (1 : Int32))] [(.int (1 : Int32))]) (fun _ _ A k => XS.iloadN A hx rfl (hb hby own_d_jdk_52_method_5_28) rfl  k) ?_
  refine gs (mkF m 30 #[.val (.ref a), .val (.int (1 : Int32))] [(.int (1 : Int32)), (.int (1 : Int32))]) (fun _ _ A k => XS.iconst A hx rfl (hb hby own_d_jdk_52_method_5_29) k) ?_
  refine gs (mkF m 31 #[.val (.ref a), .val (.int (1 : Int32))] [(.int (2 : Int32))]) (fun _ _ A k => XS.ishl A hx rfl (hb hby own_d_jdk_52_method_5_30) rfl k) ?_
  refine gs (mkF m 32 #[.val (.ref a), .val (.int (2 : Int32))] []) (fun _ _ A k => XS.istoreN A hx rfl (hb hby own_d_jdk_52_method_5_31) rfl (l' := #[.val (.ref a), .val (.int (2 : Int32))]) rfl k) ?_
  refine gs (mkF m 33 #[.val (.ref a), .val (.int (2 : Int32))] [(.ref a)]) (fun _ _ A k => XS.aloadN A hx rfl (hb hby own_d_jdk_52_method_5_32) rfl rfl k) ?_
  refine gs (mkF m 34 #[.val (.ref a), .val (.int (2 : Int32))] [(.int (2 : Int32)), (.ref a)]) (fun _ _ A k => XS.iloadN A hx rfl (hb hby own_d_jdk_52_method_5_33) rfl  k) ?_
  refine gs (mkF m 37 #[.val (.ref a), .val (.int (3 : Int32))] [(.int (2 : Int32)), (.ref a)]) (fun _ _ A k => XS.iinc A hx rfl (hb hby own_d_jdk_52_method_5_34) rfl (l' := #[.val (.ref a), .val (.int (3 : Int32))]) rfl k) ?_
  refine gldB hx P0 ⟨by decide, by decide⟩ (i := 2) rfl (v := (.int b0)) rfl 38 (hb hby own_d_jdk_52_method_5_37) rfl ?_
  refine gs (mkF m 41 #[.val (.ref a), .val (.int (3 : Int32))] [(.int (255 : Int32)), (.int b0)]) (fun _ _ A k => XS.sipush A hx rfl (hb hby own_d_jdk_52_method_5_38) k) ?_
  refine gs (mkF m 42 #[.val (.ref a), .val (.int (3 : Int32))] [(.int (b0 &&& (255 : Int32)))]) (fun _ _ A k => XS.iand A hx rfl (hb hby own_d_jdk_52_method_5_41) rfl k) ?_
  refine ggetS (host := "") hx (Or.inl (ow hw 57 rfl)) Via.refl Shi 45 (hb hby own_d_jdk_52_method_5_42) rfl ?_
  refine gs (mkF m 46 #[.val (.ref a), .val (.int (3 : Int32))] [(.int ((b0 &&& (255 : Int32)) <<< ((0 : Int32) &&& 31)))]) (fun _ _ A k => XS.ishl A hx rfl (hb hby own_d_jdk_52_method_5_45) rfl k) ?_
  refine gs (mkF m 47 #[.val (.ref a), .val (.int (3 : Int32))] [(.ref a), (.int ((b0 &&& (255 : Int32)) <<< ((0 : Int32) &&& 31)))]) (fun _ _ A k => XS.aloadN A hx rfl (hb hby own_d_jdk_52_method_5_46) rfl rfl k) ?_
  refine gs (mkF m 48 #[.val (.ref a), .val (.int (3 : Int32))] [(.int (3 : Int32)), (.ref a), (.int ((b0 &&& (255 : Int32)) <<< ((0 : Int32) &&& 31)))]) (fun _ _ A k => XS.iloadN A hx rfl (hb hby own_d_jdk_52_method_5_47) rfl  k) ?_
  refine gldB hx P0 ⟨by decide, by decide⟩ (i := 3) rfl (v := (.int b1)) rfl 49 (hb hby own_d_jdk_52_method_5_48) rfl ?_
  refine gs (mkF m 52 #[.val (.ref a), .val (.int (3 : Int32))] [(.int (255 : Int32)), (.int b1), (.int ((b0 &&& (255 : Int32)) <<< ((0 : Int32) &&& 31)))]) (fun _ _ A k => XS.sipush A hx rfl (hb hby own_d_jdk_52_method_5_49) k) ?_
  refine gs (mkF m 53 #[.val (.ref a), .val (.int (3 : Int32))] [(.int (b1 &&& (255 : Int32))), (.int ((b0 &&& (255 : Int32)) <<< ((0 : Int32) &&& 31)))]) (fun _ _ A k => XS.iand A hx rfl (hb hby own_d_jdk_52_method_5_52) rfl k) ?_
  refine ggetS (host := "") hx (Or.inl (ow hw 58 rfl)) Via.refl Slo 56 (hb hby own_d_jdk_52_method_5_53) rfl ?_
  refine gs (mkF m 57 #[.val (.ref a), .val (.int (3 : Int32))] [(.int ((b1 &&& (255 : Int32)) <<< ((8 : Int32) &&& 31))), (.int ((b0 &&& (255 : Int32)) <<< ((0 : Int32) &&& 31)))]) (fun _ _ A k => XS.ishl A hx rfl (hb hby own_d_jdk_52_method_5_56) rfl k) ?_
  refine gs (mkF m 58 #[.val (.ref a), .val (.int (3 : Int32))] [(.int (((b0 &&& (255 : Int32)) <<< ((0 : Int32) &&& 31)) ||| ((b1 &&& (255 : Int32)) <<< ((8 : Int32) &&& 31))))]) (fun _ _ A k => XS.ior A hx rfl (hb hby own_d_jdk_52_method_5_57) rfl k) ?_
  refine gi2c hx rfl 59 (hb hby own_d_jdk_52_method_5_58) rfl ?_
  exact gretN (t := .char) hx hret (by simp) (hb hby own_d_jdk_52_method_5_59) (by decide) (by decide) (fun vq Cq => ⟨(congrArg (fun z => some (Value.int z)) (narC2 _)), rfl⟩)
set_option maxRecDepth 65536 in
set_option maxHeartbeats 40000000 in
theorem own_pc3_2 (l : Launch) (Z : State) (a0 : Array Value) (cx : Ctx Z a0) (ws : List Jvm.Cond) (a : Addr) (ch : Int32) (ka : ClassId) (u0 : Value) (u1 : Value) (u2 : Value) (u3 : Value) (u4 : Value) (u5 : Value) (vm0 : Vm) (h0 : Heap) (X00 : Ext Z.heap h0) (P0 : Arv Z h0 a ka .byte (6 : Int32) [u0, u1, u2, u3, u4, u5] (.int (0 : Int32))) (P1 : Z.heap.size ≤ a) (P2 : Safe Z ([] : List (String × Nat)) vm0 h0 a) :
    Met l (⟨"java/lang/StringUTF16", "putChar", "([BII)V"⟩ : MethodName) jdk_52_method_4_code 3 none ws ({ frames := 0, cells := 0, slots := 0, locals := 0 } : Room) Z ([] : List (String × Nat)) vm0 h0 #[(.ref a), (.int (2 : Int32)), (.int ch)] (fun v vm h => v = none ∧ Keep h0 h [a] ∧ Arv Z h a ka .byte (6 : Int32) [u0, u1, u2, u3, (.int ((ch >>> ((0 : Int32) &&& 31)).toInt8.toInt32)), (.int ((ch >>> ((8 : Int32) &&& 31)).toInt8.toInt32))] (.int (0 : Int32)) ∧ Safe Z ([] : List (String × Nat)) vm h a) := by
  obtain ⟨hw, hEL, ⟨zc, Scs, hzc⟩, ⟨fm, Sfm, hfm⟩, Sad, Shi, Slo⟩ := id cx
  have hSA := own_SA hw
  refine Met.of_walk (a0 := a0) #[.val (.ref a), .val (.int (2 : Int32)), .val (.int ch)] (plainFor_of_name own_pn14) X00 hEL (fun m => by first | (simp [entryFrame, mkF, argsToLocals, Value.category]; done) | rfl) ?_
  intro p e s m below meth c vm hx hby hml hret hnm hC0
  have lt_a : h0.size > a := P0.lt
  have L2 := hC0.safe lt_a P2
  refine ggetS (host := "") hx (Or.inl (ow hw 56 rfl)) Via.refl Sad 3 (hb hby own_d_jdk_52_method_4_0) rfl ?_
  refine gs (mkF m 28 #[.val (.ref a), .val (.int (2 : Int32)), .val (.int ch)] []) (fun _ _ A k => XS.ifYes A hx rfl (pc0 := 3) (pc' := 28) rfl (hb hby own_d_jdk_52_method_4_3) rfl ((if0 _ _).trans (feq (by decide)).2) (by decide) (by decide) k) ?_
  refine gs (mkF m 29 #[.val (.ref a), .val (.int (2 : Int32)), .val (.int ch)] [(.int (2 : Int32))]) (fun _ _ A k => XS.iloadN A hx rfl (hb hby own_d_jdk_52_method_4_28) rfl  k) ?_
  refine gs (mkF m 30 #[.val (.ref a), .val (.int (2 : Int32)), .val (.int ch)] [(.int (1 : Int32)), (.int (2 : Int32))]) (fun _ _ A k => XS.iconst A hx rfl (hb hby own_d_jdk_52_method_4_29) k) ?_
  refine gs (mkF m 31 #[.val (.ref a), .val (.int (2 : Int32)), .val (.int ch)] [(.int (4 : Int32))]) (fun _ _ A k => XS.ishl A hx rfl (hb hby own_d_jdk_52_method_4_30) rfl k) ?_
  refine gs (mkF m 32 #[.val (.ref a), .val (.int (4 : Int32)), .val (.int ch)] []) (fun _ _ A k => XS.istoreN A hx rfl (hb hby own_d_jdk_52_method_4_31) rfl (l' := #[.val (.ref a), .val (.int (4 : Int32)), .val (.int ch)]) rfl k) ?_
  refine gs (mkF m 33 #[.val (.ref a), .val (.int (4 : Int32)), .val (.int ch)] [(.ref a)]) (fun _ _ A k => XS.aloadN A hx rfl (hb hby own_d_jdk_52_method_4_32) rfl rfl k) ?_
  refine gs (mkF m 34 #[.val (.ref a), .val (.int (4 : Int32)), .val (.int ch)] [(.int (4 : Int32)), (.ref a)]) (fun _ _ A k => XS.iloadN A hx rfl (hb hby own_d_jdk_52_method_4_33) rfl  k) ?_
  refine gs (mkF m 37 #[.val (.ref a), .val (.int (5 : Int32)), .val (.int ch)] [(.int (4 : Int32)), (.ref a)]) (fun _ _ A k => XS.iinc A hx rfl (hb hby own_d_jdk_52_method_4_34) rfl (l' := #[.val (.ref a), .val (.int (5 : Int32)), .val (.int ch)]) rfl k) ?_
  refine gs (mkF m 38 #[.val (.ref a), .val (.int (5 : Int32)), .val (.int ch)] [(.int ch), (.int (4 : Int32)), (.ref a)]) (fun _ _ A k => XS.iloadN A hx rfl (hb hby own_d_jdk_52_method_4_37) rfl  k) ?_
  refine ggetS (host := "") hx (Or.inl (ow hw 57 rfl)) Via.refl Shi 41 (hb hby own_d_jdk_52_method_4_38) rfl ?_
  refine gs (mkF m 42 #[.val (.ref a), .val (.int (5 : Int32)), .val (.int ch)] [(.int (ch >>> ((0 : Int32) &&& 31))), (.int (4 : Int32)), (.ref a)]) (fun _ _ A k => XS.ishr A hx rfl (hb hby own_d_jdk_52_method_4_41) rfl k) ?_
  refine gs (mkF m 43 #[.val (.ref a), .val (.int (5 : Int32)), .val (.int ch)] [(.int ((ch >>> ((0 : Int32) &&& 31)).toInt8.toInt32)), (.int (4 : Int32)), (.ref a)]) (fun _ _ A k => XS.i2b A hx rfl (hb hby own_d_jdk_52_method_4_42) rfl k) ?_
  refine gstB hx P0 ⟨by decide, by decide⟩ (i := 4) rfl (Nat.le_of_ble_eq_true rfl) (y := ((ch >>> ((0 : Int32) &&& 31)).toInt8.toInt32)) (narB _) P1 (fun _ => L2) 44 (hb hby own_d_jdk_52_method_4_43) rfl ?_
  intro h1 W1 C1 V1
  have z1 := C1.2.1
  replace V1 : Arv Z h1 a ka .byte (6 : Int32) [u0, u1, u2, u3, (.int ((ch >>> ((0 : Int32) &&& 31)).toInt8.toInt32)), u5] (.int (0 : Int32)) := V1
  refine gs (mkF m 45 #[.val (.ref a), .val (.int (5 : Int32)), .val (.int ch)] [(.ref a)]) (fun _ _ A k => XS.aloadN A hx rfl (hb hby own_d_jdk_52_method_4_44) rfl rfl k) ?_
  refine gs (mkF m 46 #[.val (.ref a), .val (.int (5 : Int32)), .val (.int ch)] [(.int (5 : Int32)), (.ref a)]) (fun _ _ A k => XS.iloadN A hx rfl (hb hby own_d_jdk_52_method_4_45) rfl  k) ?_
  refine gs (mkF m 47 #[.val (.ref a), .val (.int (5 : Int32)), .val (.int ch)] [(.int ch), (.int (5 : Int32)), (.ref a)]) (fun _ _ A k => XS.iloadN A hx rfl (hb hby own_d_jdk_52_method_4_46) rfl  k) ?_
  refine ggetS (host := "") hx (Or.inl (ow hw 58 rfl)) Via.refl Slo 50 (hb hby own_d_jdk_52_method_4_47) rfl ?_
  refine gs (mkF m 51 #[.val (.ref a), .val (.int (5 : Int32)), .val (.int ch)] [(.int (ch >>> ((8 : Int32) &&& 31))), (.int (5 : Int32)), (.ref a)]) (fun _ _ A k => XS.ishr A hx rfl (hb hby own_d_jdk_52_method_4_50) rfl k) ?_
  refine gs (mkF m 52 #[.val (.ref a), .val (.int (5 : Int32)), .val (.int ch)] [(.int ((ch >>> ((8 : Int32) &&& 31)).toInt8.toInt32)), (.int (5 : Int32)), (.ref a)]) (fun _ _ A k => XS.i2b A hx rfl (hb hby own_d_jdk_52_method_4_51) rfl k) ?_
  have f3 := (C1.safe (show h0.size > a by omega) L2)
  refine gstB hx V1 ⟨by decide, by decide⟩ (i := 5) rfl (Nat.le_of_ble_eq_true rfl) (y := ((ch >>> ((8 : Int32) &&& 31)).toInt8.toInt32)) (narB _) P1 (fun _ => f3) 53 (hb hby own_d_jdk_52_method_4_52) rfl ?_
  intro h2 W2 C2 V2
  have z2 := C2.2.1
  replace V2 : Arv Z h2 a ka .byte (6 : Int32) [u0, u1, u2, u3, (.int ((ch >>> ((0 : Int32) &&& 31)).toInt8.toInt32)), (.int ((ch >>> ((8 : Int32) &&& 31)).toInt8.toInt32))] (.int (0 : Int32)) := V2
  have f5 := (C2.safe (show h1.size > a by omega) f3)
  exact gretV hx hret (hb hby own_d_jdk_52_method_4_53) (by decide) (by decide) (fun vq Cq => ⟨rfl, (((Keep.refl h0 [a]).wr W1 (Or.inl (List.mem_of_getElem? (i := 0) rfl))).wr W2 (Or.inl (List.mem_of_getElem? (i := 0) rfl))), V2, (Cq.safe (show h2.size > a by omega) f5)⟩)
set_option maxRecDepth 65536 in
set_option maxHeartbeats 40000000 in
theorem own_gc3_2 (l : Launch) (Z : State) (a0 : Array Value) (cx : Ctx Z a0) (ws : List Jvm.Cond) (a : Addr) (ka : ClassId) (b0 : Int32) (b1 : Int32) (u0 : Value) (u1 : Value) (u2 : Value) (u3 : Value) (vm0 : Vm) (h0 : Heap) (X00 : Ext Z.heap h0) (P0 : Arv Z h0 a ka .byte (6 : Int32) [u0, u1, u2, u3, (.int b0), (.int b1)] (.int (0 : Int32))) :
    Met l (⟨"java/lang/StringUTF16", "getChar", "([BI)C"⟩ : MethodName) jdk_52_method_5_code 2 (some .char) ws ({ frames := 0, cells := 0, slots := 0, locals := 0 } : Room) Z ([] : List (String × Nat)) vm0 h0 #[(.ref a), (.int (2 : Int32))] (fun v vm h => v = some (.int (StrChars.pairCh b0 b1)) ∧ h0 = h) := by
  obtain ⟨hw, hEL, ⟨zc, Scs, hzc⟩, ⟨fm, Sfm, hfm⟩, Sad, Shi, Slo⟩ := id cx
  have hSA := own_SA hw
  refine Met.of_walk (a0 := a0) #[.val (.ref a), .val (.int (2 : Int32))] (plainFor_of_name own_pn14) X00 hEL (fun m => by first | (simp [entryFrame, mkF, argsToLocals, Value.category]; done) | rfl) ?_
  intro p e s m below meth c vm hx hby hml hret hnm hC0
  have lt_a : h0.size > a := P0.lt
  refine ggetS (host := "") hx (Or.inl (ow hw 56 rfl)) Via.refl Sad 3 (hb hby own_d_jdk_52_method_5_0) rfl ?_
  refine gs (mkF m 28 #[.val (.ref a), .val (.int (2 : Int32))] []) (fun _ _ A k => XS.ifYes A hx rfl (pc0 := 3) (pc' := 28) rfl (hb hby own_d_jdk_52_method_5_3) rfl ((if0 _ _).trans (feq (by decide)).2) (by decide) (by decide) k) ?_
  refine gs (mkF m 29 #[.val (.ref a), .val (.int (2 : Int32))] [(.int (2 : Int32))]) (fun _ _ A k => XS.iloadN A hx rfl (hb hby own_d_jdk_52_method_5_28) rfl  k) ?_
  refine gs (mkF m 30 #[.val (.ref a), .val (.int (2 : Int32))] [(.int (1 : Int32)), (.int (2 : Int32))]) (fun _ _ A k => XS.iconst A hx rfl (hb hby own_d_jdk_52_method_5_29) k) ?_
  refine gs (mkF m 31 #[.val (.ref a), .val (.int (2 : Int32))] [(.int (4 : Int32))]) (fun _ _ A k => XS.ishl A hx rfl (hb hby own_d_jdk_52_method_5_30) rfl k) ?_
  refine gs (mkF m 32 #[.val (.ref a), .val (.int (4 : Int32))] []) (fun _ _ A k => XS.istoreN A hx rfl (hb hby own_d_jdk_52_method_5_31) rfl (l' := #[.val (.ref a), .val (.int (4 : Int32))]) rfl k) ?_
  refine gs (mkF m 33 #[.val (.ref a), .val (.int (4 : Int32))] [(.ref a)]) (fun _ _ A k => XS.aloadN A hx rfl (hb hby own_d_jdk_52_method_5_32) rfl rfl k) ?_
  refine gs (mkF m 34 #[.val (.ref a), .val (.int (4 : Int32))] [(.int (4 : Int32)), (.ref a)]) (fun _ _ A k => XS.iloadN A hx rfl (hb hby own_d_jdk_52_method_5_33) rfl  k) ?_
  refine gs (mkF m 37 #[.val (.ref a), .val (.int (5 : Int32))] [(.int (4 : Int32)), (.ref a)]) (fun _ _ A k => XS.iinc A hx rfl (hb hby own_d_jdk_52_method_5_34) rfl (l' := #[.val (.ref a), .val (.int (5 : Int32))]) rfl k) ?_
  refine gldB hx P0 ⟨by decide, by decide⟩ (i := 4) rfl (v := (.int b0)) rfl 38 (hb hby own_d_jdk_52_method_5_37) rfl ?_
  refine gs (mkF m 41 #[.val (.ref a), .val (.int (5 : Int32))] [(.int (255 : Int32)), (.int b0)]) (fun _ _ A k => XS.sipush A hx rfl (hb hby own_d_jdk_52_method_5_38) k) ?_
  refine gs (mkF m 42 #[.val (.ref a), .val (.int (5 : Int32))] [(.int (b0 &&& (255 : Int32)))]) (fun _ _ A k => XS.iand A hx rfl (hb hby own_d_jdk_52_method_5_41) rfl k) ?_
  refine ggetS (host := "") hx (Or.inl (ow hw 57 rfl)) Via.refl Shi 45 (hb hby own_d_jdk_52_method_5_42) rfl ?_
  refine gs (mkF m 46 #[.val (.ref a), .val (.int (5 : Int32))] [(.int ((b0 &&& (255 : Int32)) <<< ((0 : Int32) &&& 31)))]) (fun _ _ A k => XS.ishl A hx rfl (hb hby own_d_jdk_52_method_5_45) rfl k) ?_
  refine gs (mkF m 47 #[.val (.ref a), .val (.int (5 : Int32))] [(.ref a), (.int ((b0 &&& (255 : Int32)) <<< ((0 : Int32) &&& 31)))]) (fun _ _ A k => XS.aloadN A hx rfl (hb hby own_d_jdk_52_method_5_46) rfl rfl k) ?_
  refine gs (mkF m 48 #[.val (.ref a), .val (.int (5 : Int32))] [(.int (5 : Int32)), (.ref a), (.int ((b0 &&& (255 : Int32)) <<< ((0 : Int32) &&& 31)))]) (fun _ _ A k => XS.iloadN A hx rfl (hb hby own_d_jdk_52_method_5_47) rfl  k) ?_
  refine gldB hx P0 ⟨by decide, by decide⟩ (i := 5) rfl (v := (.int b1)) rfl 49 (hb hby own_d_jdk_52_method_5_48) rfl ?_
  refine gs (mkF m 52 #[.val (.ref a), .val (.int (5 : Int32))] [(.int (255 : Int32)), (.int b1), (.int ((b0 &&& (255 : Int32)) <<< ((0 : Int32) &&& 31)))]) (fun _ _ A k => XS.sipush A hx rfl (hb hby own_d_jdk_52_method_5_49) k) ?_
  refine gs (mkF m 53 #[.val (.ref a), .val (.int (5 : Int32))] [(.int (b1 &&& (255 : Int32))), (.int ((b0 &&& (255 : Int32)) <<< ((0 : Int32) &&& 31)))]) (fun _ _ A k => XS.iand A hx rfl (hb hby own_d_jdk_52_method_5_52) rfl k) ?_
  refine ggetS (host := "") hx (Or.inl (ow hw 58 rfl)) Via.refl Slo 56 (hb hby own_d_jdk_52_method_5_53) rfl ?_
  refine gs (mkF m 57 #[.val (.ref a), .val (.int (5 : Int32))] [(.int ((b1 &&& (255 : Int32)) <<< ((8 : Int32) &&& 31))), (.int ((b0 &&& (255 : Int32)) <<< ((0 : Int32) &&& 31)))]) (fun _ _ A k => XS.ishl A hx rfl (hb hby own_d_jdk_52_method_5_56) rfl k) ?_
  refine gs (mkF m 58 #[.val (.ref a), .val (.int (5 : Int32))] [(.int (((b0 &&& (255 : Int32)) <<< ((0 : Int32) &&& 31)) ||| ((b1 &&& (255 : Int32)) <<< ((8 : Int32) &&& 31))))]) (fun _ _ A k => XS.ior A hx rfl (hb hby own_d_jdk_52_method_5_57) rfl k) ?_
  refine gi2c hx rfl 59 (hb hby own_d_jdk_52_method_5_58) rfl ?_
  exact gretN (t := .char) hx hret (by simp) (hb hby own_d_jdk_52_method_5_59) (by decide) (by decide) (fun vq Cq => ⟨(congrArg (fun z => some (Value.int z)) (narC2 _)), rfl⟩)
set_option maxRecDepth 65536 in
set_option maxHeartbeats 40000000 in
theorem own_tb3 (l : Launch) (Z : State) (a0 : Array Value) (cx : Ctx Z a0) (ws : List Jvm.Cond) (a : Addr) (kc : ClassId) (c0 : Int32) (c1 : Int32) (c2 : Int32) (vm0 : Vm) (h0 : Heap) (X00 : Ext Z.heap h0) (P0 : Arv Z h0 a kc .char (3 : Int32) [(.int c0), (.int c1), (.int c2)] (.int (0 : Int32))) :
    Met l (⟨"java/lang/StringUTF16", "toBytes", "([CII)[B"⟩ : MethodName) jdk_52_method_14_code 5 (some (.array .byte)) ws ({ frames := 2, cells := 1, slots := 6, locals := 24 } : Room) Z ([] : List (String × Nat)) vm0 h0 #[(.ref a), (.int (0 : Int32)), (.int (3 : Int32))] (fun v vm h => ∃ (r : Addr), ∃ (kb : ClassId), v = some (.ref r) ∧ Keep h0 h [] ∧ h0.size ≤ r ∧ Arv Z h r kb .byte (6 : Int32) [(.int ((c0 >>> ((0 : Int32) &&& 31)).toInt8.toInt32)), (.int ((c0 >>> ((8 : Int32) &&& 31)).toInt8.toInt32)), (.int ((c1 >>> ((0 : Int32) &&& 31)).toInt8.toInt32)), (.int ((c1 >>> ((8 : Int32) &&& 31)).toInt8.toInt32)), (.int ((c2 >>> ((0 : Int32) &&& 31)).toInt8.toInt32)), (.int ((c2 >>> ((8 : Int32) &&& 31)).toInt8.toInt32))] (.int (0 : Int32))) := by
  obtain ⟨hw, hEL, ⟨zc, Scs, hzc⟩, ⟨fm, Sfm, hfm⟩, Sad, Shi, Slo⟩ := id cx
  have hSA := own_SA hw
  refine Met.of_walk (a0 := a0) #[.val (.ref a), .val (.int (0 : Int32)), .val (.int (3 : Int32)), .unset, .unset] (plainFor_of_name own_pn14) X00 hEL (fun m => by first | (simp [entryFrame, mkF, argsToLocals, Value.category]; done) | rfl) ?_
  intro p e s m below meth c vm hx hby hml hret hnm hC0
  have lt_a : h0.size > a := P0.lt
  refine gs (mkF m 1 #[.val (.ref a), .val (.int (0 : Int32)), .val (.int (3 : Int32)), .unset, .unset] [(.int (3 : Int32))]) (fun _ _ A k => XS.iloadN A hx rfl (hb hby own_d_jdk_52_method_14_0) rfl  k) ?_
  refine ginfo fun _ _ O1 => ?_
  refine gcallS (y := (⟨"java/lang/StringUTF16", "newBytesFor", "(I)[B"⟩ : MethodName)) hx (ow hw 46 rfl) (ow hw 47 rfl) (ow hw 18 rfl) (ow hw 48 rfl) (by decide) (fun hZ H hEL => Pay.of_met (W := 0) (own_nbf3 l Z a0 cx []  vm h0 O1 ) (ow hw 48 rfl) (ow hw 18 rfl) (by decide) (by decide) hZ H hEL) 4 (argsL := [(.int (3 : Int32))]) (rest := []) (lenOf own_pd88 rfl) rfl rfl (Nat.le_of_eq rfl) (by rw [hml]; rfl) (hb hby own_d_jdk_52_method_14_1) rfl (by decide) (by decide) ?_
  rintro _ vm1 h1 C1 ⟨r1, kb1, rfl, K1, q1_0, q1_1, q1_2, q1_3⟩
  have z1 := C1.2.1
  have lt_r1 : h1.size > r1 := q1_3.lt
  refine gat (mkF m 4 #[.val (.ref a), .val (.int (0 : Int32)), .val (.int (3 : Int32)), .unset, .unset] [(.ref r1)]) rfl ?_
  refine gs (mkF m 5 #[.val (.ref a), .val (.int (0 : Int32)), .val (.int (3 : Int32)), .val (.ref r1), .unset] []) (fun _ _ A k => XS.astoreN A hx rfl (hb hby own_d_jdk_52_method_14_4) rfl rfl (l' := #[.val (.ref a), .val (.int (0 : Int32)), .val (.int (3 : Int32)), .val (.ref r1), .unset]) rfl k) ?_
  refine gs (mkF m 6 #[.val (.ref a), .val (.int (0 : Int32)), .val (.int (3 : Int32)), .val (.ref r1), .unset] [(.int (0 : Int32))]) (fun _ _ A k => XS.iconst A hx rfl (hb hby own_d_jdk_52_method_14_5) k) ?_
  refine gs (mkF m 8 #[.val (.ref a), .val (.int (0 : Int32)), .val (.int (3 : Int32)), .val (.ref r1), .val (.int (0 : Int32))] []) (fun _ _ A k => XS.istore A hx rfl (hb hby own_d_jdk_52_method_14_6) rfl (l' := #[.val (.ref a), .val (.int (0 : Int32)), .val (.int (3 : Int32)), .val (.ref r1), .val (.int (0 : Int32))]) rfl k) ?_
  refine gs (mkF m 10 #[.val (.ref a), .val (.int (0 : Int32)), .val (.int (3 : Int32)), .val (.ref r1), .val (.int (0 : Int32))] [(.int (0 : Int32))]) (fun _ _ A k => XS.iload A hx rfl (hb hby own_d_jdk_52_method_14_8) rfl  k) ?_
  refine gs (mkF m 11 #[.val (.ref a), .val (.int (0 : Int32)), .val (.int (3 : Int32)), .val (.ref r1), .val (.int (0 : Int32))] [(.int (3 : Int32)), (.int (0 : Int32))]) (fun _ _ A k => XS.iloadN A hx rfl (hb hby own_d_jdk_52_method_14_10) rfl  k) ?_
  refine gs (mkF m 14 #[.val (.ref a), .val (.int (0 : Int32)), .val (.int (3 : Int32)), .val (.ref r1), .val (.int (0 : Int32))] []) (fun _ _ A k => XS.icmpNo A hx rfl (hb hby own_d_jdk_52_method_14_11) rfl (tlt (by decide)).2.1 k) ?_
  refine gs (mkF m 15 #[.val (.ref a), .val (.int (0 : Int32)), .val (.int (3 : Int32)), .val (.ref r1), .val (.int (0 : Int32))] [(.ref r1)]) (fun _ _ A k => XS.aloadN A hx rfl (hb hby own_d_jdk_52_method_14_14) rfl rfl k) ?_
  refine gs (mkF m 17 #[.val (.ref a), .val (.int (0 : Int32)), .val (.int (3 : Int32)), .val (.ref r1), .val (.int (0 : Int32))] [(.int (0 : Int32)), (.ref r1)]) (fun _ _ A k => XS.iload A hx rfl (hb hby own_d_jdk_52_method_14_15) rfl  k) ?_
  refine gs (mkF m 18 #[.val (.ref a), .val (.int (0 : Int32)), .val (.int (3 : Int32)), .val (.ref r1), .val (.int (0 : Int32))] [(.ref a), (.int (0 : Int32)), (.ref r1)]) (fun _ _ A k => XS.aloadN A hx rfl (hb hby own_d_jdk_52_method_14_17) rfl rfl k) ?_
  refine gs (mkF m 19 #[.val (.ref a), .val (.int (0 : Int32)), .val (.int (3 : Int32)), .val (.ref r1), .val (.int (0 : Int32))] [(.int (0 : Int32)), (.ref a), (.int (0 : Int32)), (.ref r1)]) (fun _ _ A k => XS.iloadN A hx rfl (hb hby own_d_jdk_52_method_14_18) rfl  k) ?_
  have f2 := (P0.keep K1 nin0)
  refine gldC hx f2 ⟨by decide, by decide⟩ (i := 0) rfl (v := (.int c0)) rfl 20 (hb hby own_d_jdk_52_method_14_19) rfl ?_
  refine ginfo fun _ _ O3 => ?_
  refine gcallS (y := (⟨"java/lang/StringUTF16", "putChar", "([BII)V"⟩ : MethodName)) hx (ow hw 53 rfl) (ow hw 54 rfl) (ow hw 18 rfl) (ow hw 55 rfl) (by decide) (fun hZ H hEL => Pay.of_met (W := 0) (own_pc3_0 l Z a0 cx [] (r1) (c0) (kb1) ((.int (0 : Int32))) ((.int (0 : Int32))) ((.int (0 : Int32))) ((.int (0 : Int32))) ((.int (0 : Int32))) ((.int (0 : Int32))) vm1 h1 O3 q1_3 q1_1 q1_2) (ow hw 55 rfl) (ow hw 18 rfl) (by decide) (by decide) hZ H hEL) 23 (argsL := [(.ref r1), (.int (0 : Int32)), (.int c0)]) (rest := []) (lenOf own_pd101 rfl) rfl rfl (Nat.le_of_eq rfl) (by rw [hml]; rfl) (hb hby own_d_jdk_52_method_14_20) rfl (by decide) (by decide) ?_
  rintro _ vm3 h3 C3 ⟨rfl, K3, q3_0, q3_1⟩
  have z3 := C3.2.1
  refine gat (mkF m 23 #[.val (.ref a), .val (.int (0 : Int32)), .val (.int (3 : Int32)), .val (.ref r1), .val (.int (0 : Int32))] []) rfl ?_
  refine gs (mkF m 26 #[.val (.ref a), .val (.int (1 : Int32)), .val (.int (3 : Int32)), .val (.ref r1), .val (.int (0 : Int32))] []) (fun _ _ A k => XS.iinc A hx rfl (hb hby own_d_jdk_52_method_14_23) rfl (l' := #[.val (.ref a), .val (.int (1 : Int32)), .val (.int (3 : Int32)), .val (.ref r1), .val (.int (0 : Int32))]) rfl k) ?_
  refine gs (mkF m 29 #[.val (.ref a), .val (.int (1 : Int32)), .val (.int (3 : Int32)), .val (.ref r1), .val (.int (1 : Int32))] []) (fun _ _ A k => XS.iinc A hx rfl (hb hby own_d_jdk_52_method_14_26) rfl (l' := #[.val (.ref a), .val (.int (1 : Int32)), .val (.int (3 : Int32)), .val (.ref r1), .val (.int (1 : Int32))]) rfl k) ?_
  refine gs (mkF m 8 #[.val (.ref a), .val (.int (1 : Int32)), .val (.int (3 : Int32)), .val (.ref r1), .val (.int (1 : Int32))] []) (fun _ _ A k => XS.goto A hx rfl (pc0 := 29) (pc' := 8) rfl (hb hby own_d_jdk_52_method_14_29) (by decide) (by decide) k) ?_
  refine gs (mkF m 10 #[.val (.ref a), .val (.int (1 : Int32)), .val (.int (3 : Int32)), .val (.ref r1), .val (.int (1 : Int32))] [(.int (1 : Int32))]) (fun _ _ A k => XS.iload A hx rfl (hb hby own_d_jdk_52_method_14_8) rfl  k) ?_
  refine gs (mkF m 11 #[.val (.ref a), .val (.int (1 : Int32)), .val (.int (3 : Int32)), .val (.ref r1), .val (.int (1 : Int32))] [(.int (3 : Int32)), (.int (1 : Int32))]) (fun _ _ A k => XS.iloadN A hx rfl (hb hby own_d_jdk_52_method_14_10) rfl  k) ?_
  refine gs (mkF m 14 #[.val (.ref a), .val (.int (1 : Int32)), .val (.int (3 : Int32)), .val (.ref r1), .val (.int (1 : Int32))] []) (fun _ _ A k => XS.icmpNo A hx rfl (hb hby own_d_jdk_52_method_14_11) rfl (tlt (by decide)).2.1 k) ?_
  refine gs (mkF m 15 #[.val (.ref a), .val (.int (1 : Int32)), .val (.int (3 : Int32)), .val (.ref r1), .val (.int (1 : Int32))] [(.ref r1)]) (fun _ _ A k => XS.aloadN A hx rfl (hb hby own_d_jdk_52_method_14_14) rfl rfl k) ?_
  refine gs (mkF m 17 #[.val (.ref a), .val (.int (1 : Int32)), .val (.int (3 : Int32)), .val (.ref r1), .val (.int (1 : Int32))] [(.int (1 : Int32)), (.ref r1)]) (fun _ _ A k => XS.iload A hx rfl (hb hby own_d_jdk_52_method_14_15) rfl  k) ?_
  refine gs (mkF m 18 #[.val (.ref a), .val (.int (1 : Int32)), .val (.int (3 : Int32)), .val (.ref r1), .val (.int (1 : Int32))] [(.ref a), (.int (1 : Int32)), (.ref r1)]) (fun _ _ A k => XS.aloadN A hx rfl (hb hby own_d_jdk_52_method_14_17) rfl rfl k) ?_
  refine gs (mkF m 19 #[.val (.ref a), .val (.int (1 : Int32)), .val (.int (3 : Int32)), .val (.ref r1), .val (.int (1 : Int32))] [(.int (1 : Int32)), (.ref a), (.int (1 : Int32)), (.ref r1)]) (fun _ _ A k => XS.iloadN A hx rfl (hb hby own_d_jdk_52_method_14_18) rfl  k) ?_
  have f4 := (f2.keep K3 (ninS (Nat.ne_of_lt (by omega)) nin0))
  refine gldC hx f4 ⟨by decide, by decide⟩ (i := 1) rfl (v := (.int c1)) rfl 20 (hb hby own_d_jdk_52_method_14_19) rfl ?_
  refine ginfo fun _ _ O5 => ?_
  refine gcallS (y := (⟨"java/lang/StringUTF16", "putChar", "([BII)V"⟩ : MethodName)) hx (ow hw 53 rfl) (ow hw 54 rfl) (ow hw 18 rfl) (ow hw 55 rfl) (by decide) (fun hZ H hEL => Pay.of_met (W := 0) (own_pc3_1 l Z a0 cx [] (r1) (c1) (kb1) ((.int ((c0 >>> ((0 : Int32) &&& 31)).toInt8.toInt32))) ((.int ((c0 >>> ((8 : Int32) &&& 31)).toInt8.toInt32))) ((.int (0 : Int32))) ((.int (0 : Int32))) ((.int (0 : Int32))) ((.int (0 : Int32))) vm3 h3 O5 q3_0 q1_1 q3_1) (ow hw 55 rfl) (ow hw 18 rfl) (by decide) (by decide) hZ H hEL) 23 (argsL := [(.ref r1), (.int (1 : Int32)), (.int c1)]) (rest := []) (lenOf own_pd101 rfl) rfl rfl (Nat.le_of_eq rfl) (by rw [hml]; rfl) (hb hby own_d_jdk_52_method_14_20) rfl (by decide) (by decide) ?_
  rintro _ vm5 h5 C5 ⟨rfl, K5, q5_0, q5_1⟩
  have z5 := C5.2.1
  refine gat (mkF m 23 #[.val (.ref a), .val (.int (1 : Int32)), .val (.int (3 : Int32)), .val (.ref r1), .val (.int (1 : Int32))] []) rfl ?_
  refine gs (mkF m 26 #[.val (.ref a), .val (.int (2 : Int32)), .val (.int (3 : Int32)), .val (.ref r1), .val (.int (1 : Int32))] []) (fun _ _ A k => XS.iinc A hx rfl (hb hby own_d_jdk_52_method_14_23) rfl (l' := #[.val (.ref a), .val (.int (2 : Int32)), .val (.int (3 : Int32)), .val (.ref r1), .val (.int (1 : Int32))]) rfl k) ?_
  refine gs (mkF m 29 #[.val (.ref a), .val (.int (2 : Int32)), .val (.int (3 : Int32)), .val (.ref r1), .val (.int (2 : Int32))] []) (fun _ _ A k => XS.iinc A hx rfl (hb hby own_d_jdk_52_method_14_26) rfl (l' := #[.val (.ref a), .val (.int (2 : Int32)), .val (.int (3 : Int32)), .val (.ref r1), .val (.int (2 : Int32))]) rfl k) ?_
  refine gs (mkF m 8 #[.val (.ref a), .val (.int (2 : Int32)), .val (.int (3 : Int32)), .val (.ref r1), .val (.int (2 : Int32))] []) (fun _ _ A k => XS.goto A hx rfl (pc0 := 29) (pc' := 8) rfl (hb hby own_d_jdk_52_method_14_29) (by decide) (by decide) k) ?_
  refine gs (mkF m 10 #[.val (.ref a), .val (.int (2 : Int32)), .val (.int (3 : Int32)), .val (.ref r1), .val (.int (2 : Int32))] [(.int (2 : Int32))]) (fun _ _ A k => XS.iload A hx rfl (hb hby own_d_jdk_52_method_14_8) rfl  k) ?_
  refine gs (mkF m 11 #[.val (.ref a), .val (.int (2 : Int32)), .val (.int (3 : Int32)), .val (.ref r1), .val (.int (2 : Int32))] [(.int (3 : Int32)), (.int (2 : Int32))]) (fun _ _ A k => XS.iloadN A hx rfl (hb hby own_d_jdk_52_method_14_10) rfl  k) ?_
  refine gs (mkF m 14 #[.val (.ref a), .val (.int (2 : Int32)), .val (.int (3 : Int32)), .val (.ref r1), .val (.int (2 : Int32))] []) (fun _ _ A k => XS.icmpNo A hx rfl (hb hby own_d_jdk_52_method_14_11) rfl (tlt (by decide)).2.1 k) ?_
  refine gs (mkF m 15 #[.val (.ref a), .val (.int (2 : Int32)), .val (.int (3 : Int32)), .val (.ref r1), .val (.int (2 : Int32))] [(.ref r1)]) (fun _ _ A k => XS.aloadN A hx rfl (hb hby own_d_jdk_52_method_14_14) rfl rfl k) ?_
  refine gs (mkF m 17 #[.val (.ref a), .val (.int (2 : Int32)), .val (.int (3 : Int32)), .val (.ref r1), .val (.int (2 : Int32))] [(.int (2 : Int32)), (.ref r1)]) (fun _ _ A k => XS.iload A hx rfl (hb hby own_d_jdk_52_method_14_15) rfl  k) ?_
  refine gs (mkF m 18 #[.val (.ref a), .val (.int (2 : Int32)), .val (.int (3 : Int32)), .val (.ref r1), .val (.int (2 : Int32))] [(.ref a), (.int (2 : Int32)), (.ref r1)]) (fun _ _ A k => XS.aloadN A hx rfl (hb hby own_d_jdk_52_method_14_17) rfl rfl k) ?_
  refine gs (mkF m 19 #[.val (.ref a), .val (.int (2 : Int32)), .val (.int (3 : Int32)), .val (.ref r1), .val (.int (2 : Int32))] [(.int (2 : Int32)), (.ref a), (.int (2 : Int32)), (.ref r1)]) (fun _ _ A k => XS.iloadN A hx rfl (hb hby own_d_jdk_52_method_14_18) rfl  k) ?_
  have f6 := (f4.keep K5 (ninS (Nat.ne_of_lt (by omega)) nin0))
  refine gldC hx f6 ⟨by decide, by decide⟩ (i := 2) rfl (v := (.int c2)) rfl 20 (hb hby own_d_jdk_52_method_14_19) rfl ?_
  refine ginfo fun _ _ O7 => ?_
  refine gcallS (y := (⟨"java/lang/StringUTF16", "putChar", "([BII)V"⟩ : MethodName)) hx (ow hw 53 rfl) (ow hw 54 rfl) (ow hw 18 rfl) (ow hw 55 rfl) (by decide) (fun hZ H hEL => Pay.of_met (W := 0) (own_pc3_2 l Z a0 cx [] (r1) (c2) (kb1) ((.int ((c0 >>> ((0 : Int32) &&& 31)).toInt8.toInt32))) ((.int ((c0 >>> ((8 : Int32) &&& 31)).toInt8.toInt32))) ((.int ((c1 >>> ((0 : Int32) &&& 31)).toInt8.toInt32))) ((.int ((c1 >>> ((8 : Int32) &&& 31)).toInt8.toInt32))) ((.int (0 : Int32))) ((.int (0 : Int32))) vm5 h5 O7 q5_0 q1_1 q5_1) (ow hw 55 rfl) (ow hw 18 rfl) (by decide) (by decide) hZ H hEL) 23 (argsL := [(.ref r1), (.int (2 : Int32)), (.int c2)]) (rest := []) (lenOf own_pd101 rfl) rfl rfl (Nat.le_of_eq rfl) (by rw [hml]; rfl) (hb hby own_d_jdk_52_method_14_20) rfl (by decide) (by decide) ?_
  rintro _ vm7 h7 C7 ⟨rfl, K7, q7_0, q7_1⟩
  have z7 := C7.2.1
  refine gat (mkF m 23 #[.val (.ref a), .val (.int (2 : Int32)), .val (.int (3 : Int32)), .val (.ref r1), .val (.int (2 : Int32))] []) rfl ?_
  refine gs (mkF m 26 #[.val (.ref a), .val (.int (3 : Int32)), .val (.int (3 : Int32)), .val (.ref r1), .val (.int (2 : Int32))] []) (fun _ _ A k => XS.iinc A hx rfl (hb hby own_d_jdk_52_method_14_23) rfl (l' := #[.val (.ref a), .val (.int (3 : Int32)), .val (.int (3 : Int32)), .val (.ref r1), .val (.int (2 : Int32))]) rfl k) ?_
  refine gs (mkF m 29 #[.val (.ref a), .val (.int (3 : Int32)), .val (.int (3 : Int32)), .val (.ref r1), .val (.int (3 : Int32))] []) (fun _ _ A k => XS.iinc A hx rfl (hb hby own_d_jdk_52_method_14_26) rfl (l' := #[.val (.ref a), .val (.int (3 : Int32)), .val (.int (3 : Int32)), .val (.ref r1), .val (.int (3 : Int32))]) rfl k) ?_
  refine gs (mkF m 8 #[.val (.ref a), .val (.int (3 : Int32)), .val (.int (3 : Int32)), .val (.ref r1), .val (.int (3 : Int32))] []) (fun _ _ A k => XS.goto A hx rfl (pc0 := 29) (pc' := 8) rfl (hb hby own_d_jdk_52_method_14_29) (by decide) (by decide) k) ?_
  refine gs (mkF m 10 #[.val (.ref a), .val (.int (3 : Int32)), .val (.int (3 : Int32)), .val (.ref r1), .val (.int (3 : Int32))] [(.int (3 : Int32))]) (fun _ _ A k => XS.iload A hx rfl (hb hby own_d_jdk_52_method_14_8) rfl  k) ?_
  refine gs (mkF m 11 #[.val (.ref a), .val (.int (3 : Int32)), .val (.int (3 : Int32)), .val (.ref r1), .val (.int (3 : Int32))] [(.int (3 : Int32)), (.int (3 : Int32))]) (fun _ _ A k => XS.iloadN A hx rfl (hb hby own_d_jdk_52_method_14_10) rfl  k) ?_
  refine gs (mkF m 32 #[.val (.ref a), .val (.int (3 : Int32)), .val (.int (3 : Int32)), .val (.ref r1), .val (.int (3 : Int32))] []) (fun _ _ A k => XS.icmpYes A hx rfl (pc0 := 11) (pc' := 32) rfl (hb hby own_d_jdk_52_method_14_11) rfl (flt (by decide)).2.1 (by decide) (by decide) k) ?_
  refine gs (mkF m 33 #[.val (.ref a), .val (.int (3 : Int32)), .val (.int (3 : Int32)), .val (.ref r1), .val (.int (3 : Int32))] [(.ref r1)]) (fun _ _ A k => XS.aloadN A hx rfl (hb hby own_d_jdk_52_method_14_32) rfl rfl k) ?_
  exact gretA hx hret rfl rfl (hb hby own_d_jdk_52_method_14_33) (by decide) (by decide) (fun vq Cq => ⟨r1, kb1, rfl, (((((Keep.refl h0 []).trans K1 all0).trans K3 (allS (Or.inr (by omega)) all0)).trans K5 (allS (Or.inr (by omega)) all0)).trans K7 (allS (Or.inr (by omega)) all0)), (by omega), q7_0⟩)
set_option maxRecDepth 65536 in
set_option maxHeartbeats 40000000 in
theorem own_c3_3_0 (l : Launch) (Z : State) (a0 : Array Value) (cx : Ctx Z a0) (ws : List Jvm.Cond) (a : Addr) (kc : ClassId) (c0 : Int32) (c1 : Int32) (c2 : Int32) (vm0 : Vm) (h0 : Heap) (X00 : Ext Z.heap h0) (P0 : Arv Z h0 a kc .char (3 : Int32) [(.int c0), (.int c1), (.int c2)] (.int (0 : Int32))) (P1 : (255 : Int32) < c0) (hB : ¬ c0 < 0 ∧ ¬ (65535 : Int32) < c0) :
    Met l (⟨"java/lang/StringUTF16", "compress", "([CII)[B"⟩ : MethodName) jdk_52_method_16_code 6 (some (.array .byte)) ws ({ frames := 3, cells := 2, slots := 9, locals := 40 } : Room) Z ([] : List (String × Nat)) vm0 h0 #[(.ref a), (.int (0 : Int32)), (.int (3 : Int32))] (fun v vm h => ∃ (r : Addr), ∃ (kb : ClassId), v = some (.ref r) ∧ Keep h0 h [] ∧ h0.size ≤ r ∧ Arv Z h r kb .byte (6 : Int32) [(.int ((c0 >>> ((0 : Int32) &&& 31)).toInt8.toInt32)), (.int ((c0 >>> ((8 : Int32) &&& 31)).toInt8.toInt32)), (.int ((c1 >>> ((0 : Int32) &&& 31)).toInt8.toInt32)), (.int ((c1 >>> ((8 : Int32) &&& 31)).toInt8.toInt32)), (.int ((c2 >>> ((0 : Int32) &&& 31)).toInt8.toInt32)), (.int ((c2 >>> ((8 : Int32) &&& 31)).toInt8.toInt32))] (.int (0 : Int32))) := by
  obtain ⟨hw, hEL, ⟨zc, Scs, hzc⟩, ⟨fm, Sfm, hfm⟩, Sad, Shi, Slo⟩ := id cx
  have hSA := own_SA hw
  refine Met.of_walk (a0 := a0) #[.val (.ref a), .val (.int (0 : Int32)), .val (.int (3 : Int32)), .unset, .unset, .unset] (plainFor_of_name own_pn14) X00 hEL (fun m => by first | (simp [entryFrame, mkF, argsToLocals, Value.category]; done) | rfl) ?_
  intro p e s m below meth c vm hx hby hml hret hnm hC0
  have lt_a : h0.size > a := P0.lt
  refine gs (mkF m 1 #[.val (.ref a), .val (.int (0 : Int32)), .val (.int (3 : Int32)), .unset, .unset, .unset] [(.int (3 : Int32))]) (fun _ _ A k => XS.iloadN A hx rfl (hb hby own_d_jdk_52_method_16_0) rfl  k) ?_
  refine gnewP hx (ow hw 20 rfl) (n := (3 : Int32)) (by decide) (cap := 3) (by decide) (by decide) 3 (hb hby own_d_jdk_52_method_16_1) rfl (by decide) (by decide) ?_
  intro b1 h1 k1 g1 E1 C1 V1 n1 L1
  have z1 := C1.2.1
  have V1 : Arv Z h1 b1 k1 .byte (3 : Int32) [(.int (0 : Int32)), (.int (0 : Int32)), (.int (0 : Int32))] (.int (0 : Int32)) := V1.pad (pad_rep [] (.int (0 : Int32)) 3)
  have lt_b1 : h1.size > b1 := V1.lt
  refine gs (mkF m 4 #[.val (.ref a), .val (.int (0 : Int32)), .val (.int (3 : Int32)), .val (.ref b1), .unset, .unset] []) (fun _ _ A k => XS.astoreN A hx rfl (hb hby own_d_jdk_52_method_16_3) rfl rfl (l' := #[.val (.ref a), .val (.int (0 : Int32)), .val (.int (3 : Int32)), .val (.ref b1), .unset, .unset]) rfl k) ?_
  refine gs (mkF m 5 #[.val (.ref a), .val (.int (0 : Int32)), .val (.int (3 : Int32)), .val (.ref b1), .unset, .unset] [(.ref a)]) (fun _ _ A k => XS.aloadN A hx rfl (hb hby own_d_jdk_52_method_16_4) rfl rfl k) ?_
  refine gs (mkF m 6 #[.val (.ref a), .val (.int (0 : Int32)), .val (.int (3 : Int32)), .val (.ref b1), .unset, .unset] [(.int (0 : Int32)), (.ref a)]) (fun _ _ A k => XS.iloadN A hx rfl (hb hby own_d_jdk_52_method_16_5) rfl  k) ?_
  refine gs (mkF m 7 #[.val (.ref a), .val (.int (0 : Int32)), .val (.int (3 : Int32)), .val (.ref b1), .unset, .unset] [(.ref b1), (.int (0 : Int32)), (.ref a)]) (fun _ _ A k => XS.aloadN A hx rfl (hb hby own_d_jdk_52_method_16_6) rfl rfl k) ?_
  refine gs (mkF m 8 #[.val (.ref a), .val (.int (0 : Int32)), .val (.int (3 : Int32)), .val (.ref b1), .unset, .unset] [(.int (0 : Int32)), (.ref b1), (.int (0 : Int32)), (.ref a)]) (fun _ _ A k => XS.iconst A hx rfl (hb hby own_d_jdk_52_method_16_7) k) ?_
  refine gs (mkF m 9 #[.val (.ref a), .val (.int (0 : Int32)), .val (.int (3 : Int32)), .val (.ref b1), .unset, .unset] [(.int (3 : Int32)), (.int (0 : Int32)), (.ref b1), (.int (0 : Int32)), (.ref a)]) (fun _ _ A k => XS.iloadN A hx rfl (hb hby own_d_jdk_52_method_16_8) rfl  k) ?_
  have f3 := (P0.ext E1)
  refine ginfo fun _ _ O2 => ?_
  refine gcallS (y := (⟨"java/lang/StringUTF16", "compress", "([CI[BII)I"⟩ : MethodName)) hx (ow hw 21 rfl) (ow hw 22 rfl) (ow hw 18 rfl) (ow hw 23 rfl) (by decide) (fun hZ H hEL => Pay.of_met (W := 0) (own_c5_3_0 l Z a0 cx [] (a) (b1) (kc) (k1) (c0) (c1) (c2) vm h1 O2 f3 V1 n1 L1 (Nat.ne_of_lt (by omega)) (by first | assumption | decide | omega)) (ow hw 23 rfl) (ow hw 18 rfl) (by decide) (by decide) hZ H hEL) 12 (argsL := [(.ref a), (.int (0 : Int32)), (.ref b1), (.int (0 : Int32)), (.int (3 : Int32))]) (rest := []) (lenOf own_pd116 rfl) rfl rfl (Nat.le_of_eq rfl) (by rw [hml]; rfl) (hb hby own_d_jdk_52_method_16_9) rfl (by decide) (by decide) ?_
  rintro _ vm2 h2 C2 ⟨rfl, K2, q2_0⟩
  have z2 := C2.2.1
  refine gat (mkF m 12 #[.val (.ref a), .val (.int (0 : Int32)), .val (.int (3 : Int32)), .val (.ref b1), .unset, .unset] [(.int (0 : Int32))]) rfl ?_
  refine gs (mkF m 14 #[.val (.ref a), .val (.int (0 : Int32)), .val (.int (3 : Int32)), .val (.ref b1), .val (.int (0 : Int32)), .unset] []) (fun _ _ A k => XS.istore A hx rfl (hb hby own_d_jdk_52_method_16_12) rfl (l' := #[.val (.ref a), .val (.int (0 : Int32)), .val (.int (3 : Int32)), .val (.ref b1), .val (.int (0 : Int32)), .unset]) rfl k) ?_
  refine gs (mkF m 16 #[.val (.ref a), .val (.int (0 : Int32)), .val (.int (3 : Int32)), .val (.ref b1), .val (.int (0 : Int32)), .unset] [(.int (0 : Int32))]) (fun _ _ A k => XS.iload A hx rfl (hb hby own_d_jdk_52_method_16_14) rfl  k) ?_
  refine gs (mkF m 17 #[.val (.ref a), .val (.int (0 : Int32)), .val (.int (3 : Int32)), .val (.ref b1), .val (.int (0 : Int32)), .unset] [(.int (3 : Int32)), (.int (0 : Int32))]) (fun _ _ A k => XS.iloadN A hx rfl (hb hby own_d_jdk_52_method_16_16) rfl  k) ?_
  refine gs (mkF m 20 #[.val (.ref a), .val (.int (0 : Int32)), .val (.int (3 : Int32)), .val (.ref b1), .val (.int (0 : Int32)), .unset] []) (fun _ _ A k => XS.icmpNo A hx rfl (hb hby own_d_jdk_52_method_16_17) rfl (feq (by decide)).1 k) ?_
  refine gs (mkF m 21 #[.val (.ref a), .val (.int (0 : Int32)), .val (.int (3 : Int32)), .val (.ref b1), .val (.int (0 : Int32)), .unset] [(.ref a)]) (fun _ _ A k => XS.aloadN A hx rfl (hb hby own_d_jdk_52_method_16_20) rfl rfl k) ?_
  refine gs (mkF m 22 #[.val (.ref a), .val (.int (0 : Int32)), .val (.int (3 : Int32)), .val (.ref b1), .val (.int (0 : Int32)), .unset] [(.int (0 : Int32)), (.ref a)]) (fun _ _ A k => XS.iloadN A hx rfl (hb hby own_d_jdk_52_method_16_21) rfl  k) ?_
  refine gs (mkF m 23 #[.val (.ref a), .val (.int (0 : Int32)), .val (.int (3 : Int32)), .val (.ref b1), .val (.int (0 : Int32)), .unset] [(.int (3 : Int32)), (.int (0 : Int32)), (.ref a)]) (fun _ _ A k => XS.iloadN A hx rfl (hb hby own_d_jdk_52_method_16_22) rfl  k) ?_
  have f5 := (f3.keep K2 (ninS (Nat.ne_of_lt (by omega)) nin0))
  refine ginfo fun _ _ O4 => ?_
  refine gcallS (y := (⟨"java/lang/StringUTF16", "toBytes", "([CII)[B"⟩ : MethodName)) hx (ow hw 43 rfl) (ow hw 44 rfl) (ow hw 18 rfl) (ow hw 45 rfl) (by decide) (fun hZ H hEL => Pay.of_met (W := 0) (own_tb3 l Z a0 cx [] (a) (kc) (c0) (c1) (c2) vm2 h2 O4 f5) (ow hw 45 rfl) (ow hw 18 rfl) (by decide) (by decide) hZ H hEL) 26 (argsL := [(.ref a), (.int (0 : Int32)), (.int (3 : Int32))]) (rest := []) (lenOf own_pd125 rfl) rfl rfl (Nat.le_of_eq rfl) (by rw [hml]; rfl) (hb hby own_d_jdk_52_method_16_23) rfl (by decide) (by decide) ?_
  rintro _ vm4 h4 C4 ⟨r4, kb4, rfl, K4, q4_0, q4_1⟩
  have z4 := C4.2.1
  have lt_r4 : h4.size > r4 := q4_1.lt
  refine gat (mkF m 26 #[.val (.ref a), .val (.int (0 : Int32)), .val (.int (3 : Int32)), .val (.ref b1), .val (.int (0 : Int32)), .unset] [(.ref r4)]) rfl ?_
  refine gs (mkF m 28 #[.val (.ref a), .val (.int (0 : Int32)), .val (.int (3 : Int32)), .val (.ref b1), .val (.int (0 : Int32)), .val (.ref r4)] []) (fun _ _ A k => XS.astore A hx rfl (hb hby own_d_jdk_52_method_16_26) rfl rfl (l' := #[.val (.ref a), .val (.int (0 : Int32)), .val (.int (3 : Int32)), .val (.ref b1), .val (.int (0 : Int32)), .val (.ref r4)]) rfl k) ?_
  refine gs (mkF m 30 #[.val (.ref a), .val (.int (0 : Int32)), .val (.int (3 : Int32)), .val (.ref b1), .val (.int (0 : Int32)), .val (.ref r4)] [(.ref r4)]) (fun _ _ A k => XS.aload A hx rfl (hb hby own_d_jdk_52_method_16_28) rfl rfl k) ?_
  refine gs (mkF m 32 #[.val (.ref a), .val (.int (0 : Int32)), .val (.int (3 : Int32)), .val (.ref b1), .val (.int (0 : Int32)), .val (.ref r4)] [(.int (0 : Int32)), (.ref r4)]) (fun _ _ A k => XS.iload A hx rfl (hb hby own_d_jdk_52_method_16_30) rfl  k) ?_
  refine ginfo fun _ _ O6 => ?_
  refine gcallS (y := (⟨"java/lang/StringUTF16", "getChar", "([BI)C"⟩ : MethodName)) hx (ow hw 59 rfl) (ow hw 60 rfl) (ow hw 18 rfl) (ow hw 61 rfl) (by decide) (fun hZ H hEL => Pay.of_met (W := 0) (own_gc3_0 l Z a0 cx [] (r4) (kb4) (((c0 >>> ((0 : Int32) &&& 31)).toInt8.toInt32)) (((c0 >>> ((8 : Int32) &&& 31)).toInt8.toInt32)) ((.int ((c1 >>> ((0 : Int32) &&& 31)).toInt8.toInt32))) ((.int ((c1 >>> ((8 : Int32) &&& 31)).toInt8.toInt32))) ((.int ((c2 >>> ((0 : Int32) &&& 31)).toInt8.toInt32))) ((.int ((c2 >>> ((8 : Int32) &&& 31)).toInt8.toInt32))) vm4 h4 O6 q4_1) (ow hw 61 rfl) (ow hw 18 rfl) (by decide) (by decide) hZ H hEL) 35 (argsL := [(.ref r4), (.int (0 : Int32))]) (rest := []) (lenOf own_pd130 rfl) rfl rfl (Nat.le_of_eq rfl) (by rw [hml]; rfl) (hb hby own_d_jdk_52_method_16_32) rfl (by decide) (by decide) ?_
  rintro _ vm6 h6 C6 ⟨rfl, rfl⟩
  have z6 := C6.2.1
  refine gat (mkF m 35 #[.val (.ref a), .val (.int (0 : Int32)), .val (.int (3 : Int32)), .val (.ref b1), .val (.int (0 : Int32)), .val (.ref r4)] [(.int (StrChars.pairCh ((c0 >>> ((0 : Int32) &&& 31)).toInt8.toInt32) ((c0 >>> ((8 : Int32) &&& 31)).toInt8.toInt32)))]) rfl ?_
  refine gs (mkF m 38 #[.val (.ref a), .val (.int (0 : Int32)), .val (.int (3 : Int32)), .val (.ref b1), .val (.int (0 : Int32)), .val (.ref r4)] [(.int (255 : Int32)), (.int (StrChars.pairCh ((c0 >>> ((0 : Int32) &&& 31)).toInt8.toInt32) ((c0 >>> ((8 : Int32) &&& 31)).toInt8.toInt32)))]) (fun _ _ A k => XS.sipush A hx rfl (hb hby own_d_jdk_52_method_16_35) k) ?_
  refine gs (mkF m 54 #[.val (.ref a), .val (.int (0 : Int32)), .val (.int (3 : Int32)), .val (.ref b1), .val (.int (0 : Int32)), .val (.ref r4)] []) (fun _ _ A k => XS.icmpYes A hx rfl (pc0 := 38) (pc' := 54) rfl (hb hby own_d_jdk_52_method_16_38) rfl (tlt (own_pair hB P1)).2.2.1 (by decide) (by decide) k) ?_
  refine gs (mkF m 56 #[.val (.ref a), .val (.int (0 : Int32)), .val (.int (3 : Int32)), .val (.ref b1), .val (.int (0 : Int32)), .val (.ref r4)] [(.ref r4)]) (fun _ _ A k => XS.aload A hx rfl (hb hby own_d_jdk_52_method_16_54) rfl rfl k) ?_
  exact gretA hx hret rfl rfl (hb hby own_d_jdk_52_method_16_56) (by decide) (by decide) (fun vq Cq => ⟨r4, kb4, rfl, ((((Keep.refl h0 []).ext E1).trans K2 (allS (Or.inr (by omega)) all0)).trans K4 all0), (by omega), q4_1⟩)
set_option maxRecDepth 65536 in
set_option maxHeartbeats 40000000 in
theorem own_cod_3_0 (l : Launch) (Z : State) (a0 : Array Value) (cx : Ctx Z a0) (ws : List Jvm.Cond) (a : Addr) (ka : ClassId) (vs : List Value) (vm0 : Vm) (h0 : Heap) (X00 : Ext Z.heap h0) (P0 : Arv Z h0 a ka .byte (6 : Int32) vs (.int (0 : Int32))) :
    Met l (⟨"java/lang/StringUTF16", "coderFromArrayLen", "([BI)B"⟩ : MethodName) jdk_52_method_15_code 2 (some .byte) ws ({ frames := 0, cells := 0, slots := 0, locals := 0 } : Room) Z ([] : List (String × Nat)) vm0 h0 #[(.ref a), (.int (3 : Int32))] (fun v vm h => v = some (.int (1 : Int32)) ∧ h0 = h) := by
  obtain ⟨hw, hEL, ⟨zc, Scs, hzc⟩, ⟨fm, Sfm, hfm⟩, Sad, Shi, Slo⟩ := id cx
  have hSA := own_SA hw
  refine Met.of_walk (a0 := a0) #[.val (.ref a), .val (.int (3 : Int32))] (plainFor_of_name own_pn14) X00 hEL (fun m => by first | (simp [entryFrame, mkF, argsToLocals, Value.category]; done) | rfl) ?_
  intro p e s m below meth c vm hx hby hml hret hnm hC0
  have lt_a : h0.size > a := P0.lt
  refine gs (mkF m 1 #[.val (.ref a), .val (.int (3 : Int32))] [(.int (3 : Int32))]) (fun _ _ A k => XS.iloadN A hx rfl (hb hby own_d_jdk_52_method_15_0) rfl  k) ?_
  refine gs (mkF m 2 #[.val (.ref a), .val (.int (3 : Int32))] [(.ref a), (.int (3 : Int32))]) (fun _ _ A k => XS.aloadN A hx rfl (hb hby own_d_jdk_52_method_15_1) rfl rfl k) ?_
  refine glen hx P0 3 (hb hby own_d_jdk_52_method_15_2) rfl ?_
  refine gs (mkF m 4 #[.val (.ref a), .val (.int (3 : Int32))] [(.int (-3 : Int32))]) (fun _ _ A k => XS.isub A hx rfl (hb hby own_d_jdk_52_method_15_3) rfl k) ?_
  refine gs (mkF m 6 #[.val (.ref a), .val (.int (3 : Int32))] [(.int (31 : Int32)), (.int (-3 : Int32))]) (fun _ _ A k => XS.bipush A hx rfl (hb hby own_d_jdk_52_method_15_4) k) ?_
  refine gs (mkF m 7 #[.val (.ref a), .val (.int (3 : Int32))] [(.int (1 : Int32))]) (fun _ _ A k => XS.iushr A hx rfl (hb hby own_d_jdk_52_method_15_6) rfl k) ?_
  refine gs (mkF m 8 #[.val (.ref a), .val (.int (3 : Int32))] [(.int (1 : Int32))]) (fun _ _ A k => XS.i2b A hx rfl (hb hby own_d_jdk_52_method_15_7) rfl k) ?_
  exact gretN (t := .byte) hx hret (by simp) (hb hby own_d_jdk_52_method_15_8) (by decide) (by decide) (fun vq Cq => ⟨rfl, rfl⟩)
set_option maxRecDepth 65536 in
set_option maxHeartbeats 40000000 in
theorem own_i4_3_0 (l : Launch) (Z : State) (a0 : Array Value) (cx : Ctx Z a0) (ws : List Jvm.Cond) (x : Addr) (a : Addr) (v0 : Value) (c0v : Value) (kc : ClassId) (c0 : Int32) (c1 : Int32) (c2 : Int32) (vm0 : Vm) (h0 : Heap) (X00 : Ext Z.heap h0) (P0 : Exa Z h0 x "java/lang/String") (P1 : Fld Z h0 x "java/lang/String" "value" "[B" v0) (P2 : Fld Z h0 x "java/lang/String" "coder" "B" c0v) (P3 : Z.heap.size ≤ x) (P4 : Safe Z ([] : List (String × Nat)) vm0 h0 x) (P5 : Arv Z h0 a kc .char (3 : Int32) [(.int c0), (.int c1), (.int c2)] (.int (0 : Int32))) (P6 : (255 : Int32) < c0) (hB : ¬ c0 < 0 ∧ ¬ (65535 : Int32) < c0) :
    Met l (⟨"java/lang/String", "<init>", "([CIILjava/lang/Void;)V"⟩ : MethodName) jdk_42_method_149_code 6 none ws ({ frames := 4, cells := 2, slots := 9, locals := 57 } : Room) Z ([] : List (String × Nat)) vm0 h0 #[(.ref x), (.ref a), (.int (0 : Int32)), (.int (3 : Int32)), .null] (fun v vm h => ∃ (t : Addr), v = none ∧ Keep h0 h [x] ∧ Str0 Z h x t) := by
  obtain ⟨hw, hEL, ⟨zc, Scs, hzc⟩, ⟨fm, Sfm, hfm⟩, Sad, Shi, Slo⟩ := id cx
  have hSA := own_SA hw
  refine Met.of_walk (a0 := a0) #[.val (.ref x), .val (.ref a), .val (.int (0 : Int32)), .val (.int (3 : Int32)), .val .null, .unset] (plainFor_of_name own_pn164) X00 hEL (fun m => by first | (simp [entryFrame, mkF, argsToLocals, Value.category]; done) | rfl) ?_
  intro p e s m below meth c vm hx hby hml hret hnm hC0
  have lt_x : h0.size > x := P0.lt
  have L4 := hC0.safe lt_x P4
  have lt_a : h0.size > a := P5.lt
  refine gs (mkF m 1 #[.val (.ref x), .val (.ref a), .val (.int (0 : Int32)), .val (.int (3 : Int32)), .val .null, .unset] [(.ref x)]) (fun _ _ A k => XS.aloadN A hx rfl (hb hby own_d_jdk_42_method_149_0) rfl rfl k) ?_
  refine ginitO hx (ow hw 12 rfl) (ow hw 13 rfl) (ow hw 14 rfl) 4 (W := 0) (Nat.le_of_eq rfl) (by rw [hml]; rfl) (hb hby own_d_jdk_42_method_149_1) rfl (by decide) (by decide) ?_
  refine gs (mkF m 5 #[.val (.ref x), .val (.ref a), .val (.int (0 : Int32)), .val (.int (3 : Int32)), .val .null, .unset] [(.int (3 : Int32))]) (fun _ _ A k => XS.iloadN A hx rfl (hb hby own_d_jdk_42_method_149_4) rfl  k) ?_
  refine gs (mkF m 27 #[.val (.ref x), .val (.ref a), .val (.int (0 : Int32)), .val (.int (3 : Int32)), .val .null, .unset] []) (fun _ _ A k => XS.ifYes A hx rfl (pc0 := 5) (pc' := 27) rfl (hb hby own_d_jdk_42_method_149_5) rfl ((if0 _ _).trans (feq (by decide)).2) (by decide) (by decide) k) ?_
  refine ggetS (host := "") hx (Or.inl (ow hw 15 rfl)) Via.refl Scs 30 (hb hby own_d_jdk_42_method_149_27) rfl ?_
  refine gs (mkF m 33 #[.val (.ref x), .val (.ref a), .val (.int (0 : Int32)), .val (.int (3 : Int32)), .val .null, .unset] []) (fun _ _ A k => XS.ifNo A hx rfl (hb hby own_d_jdk_42_method_149_30) rfl ((if0 _ _).trans (feq hzc).1) k) ?_
  refine gs (mkF m 34 #[.val (.ref x), .val (.ref a), .val (.int (0 : Int32)), .val (.int (3 : Int32)), .val .null, .unset] [(.ref a)]) (fun _ _ A k => XS.aloadN A hx rfl (hb hby own_d_jdk_42_method_149_33) rfl rfl k) ?_
  refine gs (mkF m 35 #[.val (.ref x), .val (.ref a), .val (.int (0 : Int32)), .val (.int (3 : Int32)), .val .null, .unset] [(.int (0 : Int32)), (.ref a)]) (fun _ _ A k => XS.iloadN A hx rfl (hb hby own_d_jdk_42_method_149_34) rfl  k) ?_
  refine gs (mkF m 36 #[.val (.ref x), .val (.ref a), .val (.int (0 : Int32)), .val (.int (3 : Int32)), .val .null, .unset] [(.int (3 : Int32)), (.int (0 : Int32)), (.ref a)]) (fun _ _ A k => XS.iloadN A hx rfl (hb hby own_d_jdk_42_method_149_35) rfl  k) ?_
  refine ginfo fun _ _ O2 => ?_
  refine gcallS (y := (⟨"java/lang/StringUTF16", "compress", "([CII)[B"⟩ : MethodName)) hx (ow hw 16 rfl) (ow hw 17 rfl) (ow hw 18 rfl) (ow hw 19 rfl) (by decide) (fun hZ H hEL => Pay.of_met (W := 0) (own_c3_3_0 l Z a0 cx [] (a) (kc) (c0) (c1) (c2) vm h0 O2 P5 (by first | assumption | decide | omega) (by first | assumption | decide | omega)) (ow hw 19 rfl) (ow hw 18 rfl) (by decide) (by decide) hZ H hEL) 39 (argsL := [(.ref a), (.int (0 : Int32)), (.int (3 : Int32))]) (rest := []) (lenOf own_pd125 rfl) rfl rfl (Nat.le_of_eq rfl) (by rw [hml]; rfl) (hb hby own_d_jdk_42_method_149_36) rfl (by decide) (by decide) ?_
  rintro _ vm2 h2 C2 ⟨r2, kb2, rfl, K2, q2_0, q2_1⟩
  have z2 := C2.2.1
  have lt_r2 : h2.size > r2 := q2_1.lt
  refine gat (mkF m 39 #[.val (.ref x), .val (.ref a), .val (.int (0 : Int32)), .val (.int (3 : Int32)), .val .null, .unset] [(.ref r2)]) rfl ?_
  refine gs (mkF m 41 #[.val (.ref x), .val (.ref a), .val (.int (0 : Int32)), .val (.int (3 : Int32)), .val .null, .val (.ref r2)] []) (fun _ _ A k => XS.astore A hx rfl (hb hby own_d_jdk_42_method_149_39) rfl rfl (l' := #[.val (.ref x), .val (.ref a), .val (.int (0 : Int32)), .val (.int (3 : Int32)), .val .null, .val (.ref r2)]) rfl k) ?_
  refine gs (mkF m 42 #[.val (.ref x), .val (.ref a), .val (.int (0 : Int32)), .val (.int (3 : Int32)), .val .null, .val (.ref r2)] [(.ref x)]) (fun _ _ A k => XS.aloadN A hx rfl (hb hby own_d_jdk_42_method_149_41) rfl rfl k) ?_
  refine gs (mkF m 44 #[.val (.ref x), .val (.ref a), .val (.int (0 : Int32)), .val (.int (3 : Int32)), .val .null, .val (.ref r2)] [(.ref r2), (.ref x)]) (fun _ _ A k => XS.aload A hx rfl (hb hby own_d_jdk_42_method_149_42) rfl rfl k) ?_
  refine gs (mkF m 45 #[.val (.ref x), .val (.ref a), .val (.int (0 : Int32)), .val (.int (3 : Int32)), .val .null, .val (.ref r2)] [(.int (3 : Int32)), (.ref r2), (.ref x)]) (fun _ _ A k => XS.iloadN A hx rfl (hb hby own_d_jdk_42_method_149_44) rfl  k) ?_
  refine ginfo fun _ _ O3 => ?_
  refine gcallS (y := (⟨"java/lang/StringUTF16", "coderFromArrayLen", "([BI)B"⟩ : MethodName)) hx (ow hw 24 rfl) (ow hw 25 rfl) (ow hw 18 rfl) (ow hw 26 rfl) (by decide) (fun hZ H hEL => Pay.of_met (W := 1) (own_cod_3_0 l Z a0 cx [] (r2) (kb2) ([(.int ((c0 >>> ((0 : Int32) &&& 31)).toInt8.toInt32)), (.int ((c0 >>> ((8 : Int32) &&& 31)).toInt8.toInt32)), (.int ((c1 >>> ((0 : Int32) &&& 31)).toInt8.toInt32)), (.int ((c1 >>> ((8 : Int32) &&& 31)).toInt8.toInt32)), (.int ((c2 >>> ((0 : Int32) &&& 31)).toInt8.toInt32)), (.int ((c2 >>> ((8 : Int32) &&& 31)).toInt8.toInt32))]) vm2 h2 O3 q2_1) (ow hw 26 rfl) (ow hw 18 rfl) (by decide) (by decide) hZ H hEL) 48 (argsL := [(.ref r2), (.int (3 : Int32))]) (rest := [(.ref x)]) (lenOf own_pd158 rfl) rfl rfl (Nat.le_of_eq rfl) (by rw [hml]; rfl) (hb hby own_d_jdk_42_method_149_45) rfl (by decide) (by decide) ?_
  rintro _ vm3 h3 C3 ⟨rfl, rfl⟩
  have z3 := C3.2.1
  refine gat (mkF m 48 #[.val (.ref x), .val (.ref a), .val (.int (0 : Int32)), .val (.int (3 : Int32)), .val .null, .val (.ref r2)] [(.int (1 : Int32)), (.ref x)]) rfl ?_
  have f4 := (P2.keep K2 nin0)
  have f5 := (P0.keep K2)
  have f6 := (C3.safe (show h2.size > x by omega) (C2.safe (show h0.size > x by omega) L4))
  refine gputF (host := "") hx (Or.inl (ow hw 27 rfl)) Via.refl f4 f5 (Or.inr ⟨(ow hw 28 rfl), rfl, hnm⟩) (ow hw 3 rfl) (ty := .byte) (by decide) rfl rfl P3 (fun _ => f6) 51 (hb hby own_d_jdk_42_method_149_48) rfl ?_
  intro h7 W7 C7
  have z7 := C7.2.1
  have F7 := f4.same W7
  refine gs (mkF m 52 #[.val (.ref x), .val (.ref a), .val (.int (0 : Int32)), .val (.int (3 : Int32)), .val .null, .val (.ref r2)] [(.ref x)]) (fun _ _ A k => XS.aloadN A hx rfl (hb hby own_d_jdk_42_method_149_51) rfl rfl k) ?_
  refine gs (mkF m 54 #[.val (.ref x), .val (.ref a), .val (.int (0 : Int32)), .val (.int (3 : Int32)), .val .null, .val (.ref r2)] [(.ref r2), (.ref x)]) (fun _ _ A k => XS.aload A hx rfl (hb hby own_d_jdk_42_method_149_52) rfl rfl k) ?_
  have f8 := ((P1.keep K2 nin0).other W7 (Or.inr (slot_ne (Or.inr (ow hw 30 rfl)) (Or.inr (ow hw 28 rfl)) (by decide) (t := (.array .byte)) (t' := .byte) (by decide) (by decide))))
  have f9 := (f5.wr W7)
  have f10 := (C7.safe (show h2.size > x by omega) f6)
  refine gputF (host := "") hx (Or.inl (ow hw 29 rfl)) Via.refl f8 f9 (Or.inr ⟨(ow hw 30 rfl), rfl, hnm⟩) (ow hw 3 rfl) (ty := (.array .byte)) (by decide) rfl rfl P3 (fun _ => f10) 57 (hb hby own_d_jdk_42_method_149_54) rfl ?_
  intro h11 W11 C11
  have z11 := C11.2.1
  have F11 := f8.same W11
  have f12 := (f9.wr W11)
  have f13 := ((q2_1.other W7 (Nat.ne_of_gt (by omega))).other W11 (Nat.ne_of_gt (by omega)))
  exact gretV hx hret (hb hby own_d_jdk_42_method_149_57) (by decide) (by decide) (fun vq Cq => ⟨r2, rfl, ((((Keep.refl h0 [x]).trans K2 all0).wr W7 (Or.inl (List.mem_of_getElem? (i := 0) rfl))).wr W11 (Or.inl (List.mem_of_getElem? (i := 0) rfl))), ⟨f12, F11, _, _, _, f13, by decide⟩⟩)
set_option maxRecDepth 65536 in
set_option maxHeartbeats 40000000 in
theorem own_c3_3_1 (l : Launch) (Z : State) (a0 : Array Value) (cx : Ctx Z a0) (ws : List Jvm.Cond) (a : Addr) (kc : ClassId) (c0 : Int32) (c1 : Int32) (c2 : Int32) (vm0 : Vm) (h0 : Heap) (X00 : Ext Z.heap h0) (P0 : Arv Z h0 a kc .char (3 : Int32) [(.int c0), (.int c1), (.int c2)] (.int (0 : Int32))) (P1 : ¬ (255 : Int32) < c0) (P2 : (255 : Int32) < c1) (hB : ¬ c1 < 0 ∧ ¬ (65535 : Int32) < c1) :
    Met l (⟨"java/lang/StringUTF16", "compress", "([CII)[B"⟩ : MethodName) jdk_52_method_16_code 6 (some (.array .byte)) ws ({ frames := 3, cells := 2, slots := 9, locals := 40 } : Room) Z ([] : List (String × Nat)) vm0 h0 #[(.ref a), (.int (0 : Int32)), (.int (3 : Int32))] (fun v vm h => ∃ (r : Addr), ∃ (kb : ClassId), v = some (.ref r) ∧ Keep h0 h [] ∧ h0.size ≤ r ∧ Arv Z h r kb .byte (6 : Int32) [(.int ((c0 >>> ((0 : Int32) &&& 31)).toInt8.toInt32)), (.int ((c0 >>> ((8 : Int32) &&& 31)).toInt8.toInt32)), (.int ((c1 >>> ((0 : Int32) &&& 31)).toInt8.toInt32)), (.int ((c1 >>> ((8 : Int32) &&& 31)).toInt8.toInt32)), (.int ((c2 >>> ((0 : Int32) &&& 31)).toInt8.toInt32)), (.int ((c2 >>> ((8 : Int32) &&& 31)).toInt8.toInt32))] (.int (0 : Int32))) := by
  obtain ⟨hw, hEL, ⟨zc, Scs, hzc⟩, ⟨fm, Sfm, hfm⟩, Sad, Shi, Slo⟩ := id cx
  have hSA := own_SA hw
  refine Met.of_walk (a0 := a0) #[.val (.ref a), .val (.int (0 : Int32)), .val (.int (3 : Int32)), .unset, .unset, .unset] (plainFor_of_name own_pn14) X00 hEL (fun m => by first | (simp [entryFrame, mkF, argsToLocals, Value.category]; done) | rfl) ?_
  intro p e s m below meth c vm hx hby hml hret hnm hC0
  have lt_a : h0.size > a := P0.lt
  refine gs (mkF m 1 #[.val (.ref a), .val (.int (0 : Int32)), .val (.int (3 : Int32)), .unset, .unset, .unset] [(.int (3 : Int32))]) (fun _ _ A k => XS.iloadN A hx rfl (hb hby own_d_jdk_52_method_16_0) rfl  k) ?_
  refine gnewP hx (ow hw 20 rfl) (n := (3 : Int32)) (by decide) (cap := 3) (by decide) (by decide) 3 (hb hby own_d_jdk_52_method_16_1) rfl (by decide) (by decide) ?_
  intro b1 h1 k1 g1 E1 C1 V1 n1 L1
  have z1 := C1.2.1
  have V1 : Arv Z h1 b1 k1 .byte (3 : Int32) [(.int (0 : Int32)), (.int (0 : Int32)), (.int (0 : Int32))] (.int (0 : Int32)) := V1.pad (pad_rep [] (.int (0 : Int32)) 3)
  have lt_b1 : h1.size > b1 := V1.lt
  refine gs (mkF m 4 #[.val (.ref a), .val (.int (0 : Int32)), .val (.int (3 : Int32)), .val (.ref b1), .unset, .unset] []) (fun _ _ A k => XS.astoreN A hx rfl (hb hby own_d_jdk_52_method_16_3) rfl rfl (l' := #[.val (.ref a), .val (.int (0 : Int32)), .val (.int (3 : Int32)), .val (.ref b1), .unset, .unset]) rfl k) ?_
  refine gs (mkF m 5 #[.val (.ref a), .val (.int (0 : Int32)), .val (.int (3 : Int32)), .val (.ref b1), .unset, .unset] [(.ref a)]) (fun _ _ A k => XS.aloadN A hx rfl (hb hby own_d_jdk_52_method_16_4) rfl rfl k) ?_
  refine gs (mkF m 6 #[.val (.ref a), .val (.int (0 : Int32)), .val (.int (3 : Int32)), .val (.ref b1), .unset, .unset] [(.int (0 : Int32)), (.ref a)]) (fun _ _ A k => XS.iloadN A hx rfl (hb hby own_d_jdk_52_method_16_5) rfl  k) ?_
  refine gs (mkF m 7 #[.val (.ref a), .val (.int (0 : Int32)), .val (.int (3 : Int32)), .val (.ref b1), .unset, .unset] [(.ref b1), (.int (0 : Int32)), (.ref a)]) (fun _ _ A k => XS.aloadN A hx rfl (hb hby own_d_jdk_52_method_16_6) rfl rfl k) ?_
  refine gs (mkF m 8 #[.val (.ref a), .val (.int (0 : Int32)), .val (.int (3 : Int32)), .val (.ref b1), .unset, .unset] [(.int (0 : Int32)), (.ref b1), (.int (0 : Int32)), (.ref a)]) (fun _ _ A k => XS.iconst A hx rfl (hb hby own_d_jdk_52_method_16_7) k) ?_
  refine gs (mkF m 9 #[.val (.ref a), .val (.int (0 : Int32)), .val (.int (3 : Int32)), .val (.ref b1), .unset, .unset] [(.int (3 : Int32)), (.int (0 : Int32)), (.ref b1), (.int (0 : Int32)), (.ref a)]) (fun _ _ A k => XS.iloadN A hx rfl (hb hby own_d_jdk_52_method_16_8) rfl  k) ?_
  have f3 := (P0.ext E1)
  refine ginfo fun _ _ O2 => ?_
  refine gcallS (y := (⟨"java/lang/StringUTF16", "compress", "([CI[BII)I"⟩ : MethodName)) hx (ow hw 21 rfl) (ow hw 22 rfl) (ow hw 18 rfl) (ow hw 23 rfl) (by decide) (fun hZ H hEL => Pay.of_met (W := 0) (own_c5_3_1 l Z a0 cx [] (a) (b1) (kc) (k1) (c0) (c1) (c2) vm h1 O2 f3 V1 n1 L1 (Nat.ne_of_lt (by omega)) (by first | assumption | decide | omega) (by first | assumption | decide | omega)) (ow hw 23 rfl) (ow hw 18 rfl) (by decide) (by decide) hZ H hEL) 12 (argsL := [(.ref a), (.int (0 : Int32)), (.ref b1), (.int (0 : Int32)), (.int (3 : Int32))]) (rest := []) (lenOf own_pd116 rfl) rfl rfl (Nat.le_of_eq rfl) (by rw [hml]; rfl) (hb hby own_d_jdk_52_method_16_9) rfl (by decide) (by decide) ?_
  rintro _ vm2 h2 C2 ⟨rfl, K2, q2_0⟩
  have z2 := C2.2.1
  refine gat (mkF m 12 #[.val (.ref a), .val (.int (0 : Int32)), .val (.int (3 : Int32)), .val (.ref b1), .unset, .unset] [(.int (1 : Int32))]) rfl ?_
  refine gs (mkF m 14 #[.val (.ref a), .val (.int (0 : Int32)), .val (.int (3 : Int32)), .val (.ref b1), .val (.int (1 : Int32)), .unset] []) (fun _ _ A k => XS.istore A hx rfl (hb hby own_d_jdk_52_method_16_12) rfl (l' := #[.val (.ref a), .val (.int (0 : Int32)), .val (.int (3 : Int32)), .val (.ref b1), .val (.int (1 : Int32)), .unset]) rfl k) ?_
  refine gs (mkF m 16 #[.val (.ref a), .val (.int (0 : Int32)), .val (.int (3 : Int32)), .val (.ref b1), .val (.int (1 : Int32)), .unset] [(.int (1 : Int32))]) (fun _ _ A k => XS.iload A hx rfl (hb hby own_d_jdk_52_method_16_14) rfl  k) ?_
  refine gs (mkF m 17 #[.val (.ref a), .val (.int (0 : Int32)), .val (.int (3 : Int32)), .val (.ref b1), .val (.int (1 : Int32)), .unset] [(.int (3 : Int32)), (.int (1 : Int32))]) (fun _ _ A k => XS.iloadN A hx rfl (hb hby own_d_jdk_52_method_16_16) rfl  k) ?_
  refine gs (mkF m 20 #[.val (.ref a), .val (.int (0 : Int32)), .val (.int (3 : Int32)), .val (.ref b1), .val (.int (1 : Int32)), .unset] []) (fun _ _ A k => XS.icmpNo A hx rfl (hb hby own_d_jdk_52_method_16_17) rfl (feq (by decide)).1 k) ?_
  refine gs (mkF m 21 #[.val (.ref a), .val (.int (0 : Int32)), .val (.int (3 : Int32)), .val (.ref b1), .val (.int (1 : Int32)), .unset] [(.ref a)]) (fun _ _ A k => XS.aloadN A hx rfl (hb hby own_d_jdk_52_method_16_20) rfl rfl k) ?_
  refine gs (mkF m 22 #[.val (.ref a), .val (.int (0 : Int32)), .val (.int (3 : Int32)), .val (.ref b1), .val (.int (1 : Int32)), .unset] [(.int (0 : Int32)), (.ref a)]) (fun _ _ A k => XS.iloadN A hx rfl (hb hby own_d_jdk_52_method_16_21) rfl  k) ?_
  refine gs (mkF m 23 #[.val (.ref a), .val (.int (0 : Int32)), .val (.int (3 : Int32)), .val (.ref b1), .val (.int (1 : Int32)), .unset] [(.int (3 : Int32)), (.int (0 : Int32)), (.ref a)]) (fun _ _ A k => XS.iloadN A hx rfl (hb hby own_d_jdk_52_method_16_22) rfl  k) ?_
  have f5 := (f3.keep K2 (ninS (Nat.ne_of_lt (by omega)) nin0))
  refine ginfo fun _ _ O4 => ?_
  refine gcallS (y := (⟨"java/lang/StringUTF16", "toBytes", "([CII)[B"⟩ : MethodName)) hx (ow hw 43 rfl) (ow hw 44 rfl) (ow hw 18 rfl) (ow hw 45 rfl) (by decide) (fun hZ H hEL => Pay.of_met (W := 0) (own_tb3 l Z a0 cx [] (a) (kc) (c0) (c1) (c2) vm2 h2 O4 f5) (ow hw 45 rfl) (ow hw 18 rfl) (by decide) (by decide) hZ H hEL) 26 (argsL := [(.ref a), (.int (0 : Int32)), (.int (3 : Int32))]) (rest := []) (lenOf own_pd125 rfl) rfl rfl (Nat.le_of_eq rfl) (by rw [hml]; rfl) (hb hby own_d_jdk_52_method_16_23) rfl (by decide) (by decide) ?_
  rintro _ vm4 h4 C4 ⟨r4, kb4, rfl, K4, q4_0, q4_1⟩
  have z4 := C4.2.1
  have lt_r4 : h4.size > r4 := q4_1.lt
  refine gat (mkF m 26 #[.val (.ref a), .val (.int (0 : Int32)), .val (.int (3 : Int32)), .val (.ref b1), .val (.int (1 : Int32)), .unset] [(.ref r4)]) rfl ?_
  refine gs (mkF m 28 #[.val (.ref a), .val (.int (0 : Int32)), .val (.int (3 : Int32)), .val (.ref b1), .val (.int (1 : Int32)), .val (.ref r4)] []) (fun _ _ A k => XS.astore A hx rfl (hb hby own_d_jdk_52_method_16_26) rfl rfl (l' := #[.val (.ref a), .val (.int (0 : Int32)), .val (.int (3 : Int32)), .val (.ref b1), .val (.int (1 : Int32)), .val (.ref r4)]) rfl k) ?_
  refine gs (mkF m 30 #[.val (.ref a), .val (.int (0 : Int32)), .val (.int (3 : Int32)), .val (.ref b1), .val (.int (1 : Int32)), .val (.ref r4)] [(.ref r4)]) (fun _ _ A k => XS.aload A hx rfl (hb hby own_d_jdk_52_method_16_28) rfl rfl k) ?_
  refine gs (mkF m 32 #[.val (.ref a), .val (.int (0 : Int32)), .val (.int (3 : Int32)), .val (.ref b1), .val (.int (1 : Int32)), .val (.ref r4)] [(.int (1 : Int32)), (.ref r4)]) (fun _ _ A k => XS.iload A hx rfl (hb hby own_d_jdk_52_method_16_30) rfl  k) ?_
  refine ginfo fun _ _ O6 => ?_
  refine gcallS (y := (⟨"java/lang/StringUTF16", "getChar", "([BI)C"⟩ : MethodName)) hx (ow hw 59 rfl) (ow hw 60 rfl) (ow hw 18 rfl) (ow hw 61 rfl) (by decide) (fun hZ H hEL => Pay.of_met (W := 0) (own_gc3_1 l Z a0 cx [] (r4) (kb4) (((c1 >>> ((0 : Int32) &&& 31)).toInt8.toInt32)) (((c1 >>> ((8 : Int32) &&& 31)).toInt8.toInt32)) ((.int ((c0 >>> ((0 : Int32) &&& 31)).toInt8.toInt32))) ((.int ((c0 >>> ((8 : Int32) &&& 31)).toInt8.toInt32))) ((.int ((c2 >>> ((0 : Int32) &&& 31)).toInt8.toInt32))) ((.int ((c2 >>> ((8 : Int32) &&& 31)).toInt8.toInt32))) vm4 h4 O6 q4_1) (ow hw 61 rfl) (ow hw 18 rfl) (by decide) (by decide) hZ H hEL) 35 (argsL := [(.ref r4), (.int (1 : Int32))]) (rest := []) (lenOf own_pd130 rfl) rfl rfl (Nat.le_of_eq rfl) (by rw [hml]; rfl) (hb hby own_d_jdk_52_method_16_32) rfl (by decide) (by decide) ?_
  rintro _ vm6 h6 C6 ⟨rfl, rfl⟩
  have z6 := C6.2.1
  refine gat (mkF m 35 #[.val (.ref a), .val (.int (0 : Int32)), .val (.int (3 : Int32)), .val (.ref b1), .val (.int (1 : Int32)), .val (.ref r4)] [(.int (StrChars.pairCh ((c1 >>> ((0 : Int32) &&& 31)).toInt8.toInt32) ((c1 >>> ((8 : Int32) &&& 31)).toInt8.toInt32)))]) rfl ?_
  refine gs (mkF m 38 #[.val (.ref a), .val (.int (0 : Int32)), .val (.int (3 : Int32)), .val (.ref b1), .val (.int (1 : Int32)), .val (.ref r4)] [(.int (255 : Int32)), (.int (StrChars.pairCh ((c1 >>> ((0 : Int32) &&& 31)).toInt8.toInt32) ((c1 >>> ((8 : Int32) &&& 31)).toInt8.toInt32)))]) (fun _ _ A k => XS.sipush A hx rfl (hb hby own_d_jdk_52_method_16_35) k) ?_
  refine gs (mkF m 54 #[.val (.ref a), .val (.int (0 : Int32)), .val (.int (3 : Int32)), .val (.ref b1), .val (.int (1 : Int32)), .val (.ref r4)] []) (fun _ _ A k => XS.icmpYes A hx rfl (pc0 := 38) (pc' := 54) rfl (hb hby own_d_jdk_52_method_16_38) rfl (tlt (own_pair hB P2)).2.2.1 (by decide) (by decide) k) ?_
  refine gs (mkF m 56 #[.val (.ref a), .val (.int (0 : Int32)), .val (.int (3 : Int32)), .val (.ref b1), .val (.int (1 : Int32)), .val (.ref r4)] [(.ref r4)]) (fun _ _ A k => XS.aload A hx rfl (hb hby own_d_jdk_52_method_16_54) rfl rfl k) ?_
  exact gretA hx hret rfl rfl (hb hby own_d_jdk_52_method_16_56) (by decide) (by decide) (fun vq Cq => ⟨r4, kb4, rfl, ((((Keep.refl h0 []).ext E1).trans K2 (allS (Or.inr (by omega)) all0)).trans K4 all0), (by omega), q4_1⟩)
set_option maxRecDepth 65536 in
set_option maxHeartbeats 40000000 in
theorem own_cod_3_1 (l : Launch) (Z : State) (a0 : Array Value) (cx : Ctx Z a0) (ws : List Jvm.Cond) (a : Addr) (ka : ClassId) (vs : List Value) (vm0 : Vm) (h0 : Heap) (X00 : Ext Z.heap h0) (P0 : Arv Z h0 a ka .byte (6 : Int32) vs (.int (0 : Int32))) :
    Met l (⟨"java/lang/StringUTF16", "coderFromArrayLen", "([BI)B"⟩ : MethodName) jdk_52_method_15_code 2 (some .byte) ws ({ frames := 0, cells := 0, slots := 0, locals := 0 } : Room) Z ([] : List (String × Nat)) vm0 h0 #[(.ref a), (.int (3 : Int32))] (fun v vm h => v = some (.int (1 : Int32)) ∧ h0 = h) := by
  obtain ⟨hw, hEL, ⟨zc, Scs, hzc⟩, ⟨fm, Sfm, hfm⟩, Sad, Shi, Slo⟩ := id cx
  have hSA := own_SA hw
  refine Met.of_walk (a0 := a0) #[.val (.ref a), .val (.int (3 : Int32))] (plainFor_of_name own_pn14) X00 hEL (fun m => by first | (simp [entryFrame, mkF, argsToLocals, Value.category]; done) | rfl) ?_
  intro p e s m below meth c vm hx hby hml hret hnm hC0
  have lt_a : h0.size > a := P0.lt
  refine gs (mkF m 1 #[.val (.ref a), .val (.int (3 : Int32))] [(.int (3 : Int32))]) (fun _ _ A k => XS.iloadN A hx rfl (hb hby own_d_jdk_52_method_15_0) rfl  k) ?_
  refine gs (mkF m 2 #[.val (.ref a), .val (.int (3 : Int32))] [(.ref a), (.int (3 : Int32))]) (fun _ _ A k => XS.aloadN A hx rfl (hb hby own_d_jdk_52_method_15_1) rfl rfl k) ?_
  refine glen hx P0 3 (hb hby own_d_jdk_52_method_15_2) rfl ?_
  refine gs (mkF m 4 #[.val (.ref a), .val (.int (3 : Int32))] [(.int (-3 : Int32))]) (fun _ _ A k => XS.isub A hx rfl (hb hby own_d_jdk_52_method_15_3) rfl k) ?_
  refine gs (mkF m 6 #[.val (.ref a), .val (.int (3 : Int32))] [(.int (31 : Int32)), (.int (-3 : Int32))]) (fun _ _ A k => XS.bipush A hx rfl (hb hby own_d_jdk_52_method_15_4) k) ?_
  refine gs (mkF m 7 #[.val (.ref a), .val (.int (3 : Int32))] [(.int (1 : Int32))]) (fun _ _ A k => XS.iushr A hx rfl (hb hby own_d_jdk_52_method_15_6) rfl k) ?_
  refine gs (mkF m 8 #[.val (.ref a), .val (.int (3 : Int32))] [(.int (1 : Int32))]) (fun _ _ A k => XS.i2b A hx rfl (hb hby own_d_jdk_52_method_15_7) rfl k) ?_
  exact gretN (t := .byte) hx hret (by simp) (hb hby own_d_jdk_52_method_15_8) (by decide) (by decide) (fun vq Cq => ⟨rfl, rfl⟩)
set_option maxRecDepth 65536 in
set_option maxHeartbeats 40000000 in
theorem own_i4_3_1 (l : Launch) (Z : State) (a0 : Array Value) (cx : Ctx Z a0) (ws : List Jvm.Cond) (x : Addr) (a : Addr) (v0 : Value) (c0v : Value) (kc : ClassId) (c0 : Int32) (c1 : Int32) (c2 : Int32) (vm0 : Vm) (h0 : Heap) (X00 : Ext Z.heap h0) (P0 : Exa Z h0 x "java/lang/String") (P1 : Fld Z h0 x "java/lang/String" "value" "[B" v0) (P2 : Fld Z h0 x "java/lang/String" "coder" "B" c0v) (P3 : Z.heap.size ≤ x) (P4 : Safe Z ([] : List (String × Nat)) vm0 h0 x) (P5 : Arv Z h0 a kc .char (3 : Int32) [(.int c0), (.int c1), (.int c2)] (.int (0 : Int32))) (P6 : ¬ (255 : Int32) < c0) (P7 : (255 : Int32) < c1) (hB : ¬ c1 < 0 ∧ ¬ (65535 : Int32) < c1) :
    Met l (⟨"java/lang/String", "<init>", "([CIILjava/lang/Void;)V"⟩ : MethodName) jdk_42_method_149_code 6 none ws ({ frames := 4, cells := 2, slots := 9, locals := 57 } : Room) Z ([] : List (String × Nat)) vm0 h0 #[(.ref x), (.ref a), (.int (0 : Int32)), (.int (3 : Int32)), .null] (fun v vm h => ∃ (t : Addr), v = none ∧ Keep h0 h [x] ∧ Str0 Z h x t) := by
  obtain ⟨hw, hEL, ⟨zc, Scs, hzc⟩, ⟨fm, Sfm, hfm⟩, Sad, Shi, Slo⟩ := id cx
  have hSA := own_SA hw
  refine Met.of_walk (a0 := a0) #[.val (.ref x), .val (.ref a), .val (.int (0 : Int32)), .val (.int (3 : Int32)), .val .null, .unset] (plainFor_of_name own_pn164) X00 hEL (fun m => by first | (simp [entryFrame, mkF, argsToLocals, Value.category]; done) | rfl) ?_
  intro p e s m below meth c vm hx hby hml hret hnm hC0
  have lt_x : h0.size > x := P0.lt
  have L4 := hC0.safe lt_x P4
  have lt_a : h0.size > a := P5.lt
  refine gs (mkF m 1 #[.val (.ref x), .val (.ref a), .val (.int (0 : Int32)), .val (.int (3 : Int32)), .val .null, .unset] [(.ref x)]) (fun _ _ A k => XS.aloadN A hx rfl (hb hby own_d_jdk_42_method_149_0) rfl rfl k) ?_
  refine ginitO hx (ow hw 12 rfl) (ow hw 13 rfl) (ow hw 14 rfl) 4 (W := 0) (Nat.le_of_eq rfl) (by rw [hml]; rfl) (hb hby own_d_jdk_42_method_149_1) rfl (by decide) (by decide) ?_
  refine gs (mkF m 5 #[.val (.ref x), .val (.ref a), .val (.int (0 : Int32)), .val (.int (3 : Int32)), .val .null, .unset] [(.int (3 : Int32))]) (fun _ _ A k => XS.iloadN A hx rfl (hb hby own_d_jdk_42_method_149_4) rfl  k) ?_
  refine gs (mkF m 27 #[.val (.ref x), .val (.ref a), .val (.int (0 : Int32)), .val (.int (3 : Int32)), .val .null, .unset] []) (fun _ _ A k => XS.ifYes A hx rfl (pc0 := 5) (pc' := 27) rfl (hb hby own_d_jdk_42_method_149_5) rfl ((if0 _ _).trans (feq (by decide)).2) (by decide) (by decide) k) ?_
  refine ggetS (host := "") hx (Or.inl (ow hw 15 rfl)) Via.refl Scs 30 (hb hby own_d_jdk_42_method_149_27) rfl ?_
  refine gs (mkF m 33 #[.val (.ref x), .val (.ref a), .val (.int (0 : Int32)), .val (.int (3 : Int32)), .val .null, .unset] []) (fun _ _ A k => XS.ifNo A hx rfl (hb hby own_d_jdk_42_method_149_30) rfl ((if0 _ _).trans (feq hzc).1) k) ?_
  refine gs (mkF m 34 #[.val (.ref x), .val (.ref a), .val (.int (0 : Int32)), .val (.int (3 : Int32)), .val .null, .unset] [(.ref a)]) (fun _ _ A k => XS.aloadN A hx rfl (hb hby own_d_jdk_42_method_149_33) rfl rfl k) ?_
  refine gs (mkF m 35 #[.val (.ref x), .val (.ref a), .val (.int (0 : Int32)), .val (.int (3 : Int32)), .val .null, .unset] [(.int (0 : Int32)), (.ref a)]) (fun _ _ A k => XS.iloadN A hx rfl (hb hby own_d_jdk_42_method_149_34) rfl  k) ?_
  refine gs (mkF m 36 #[.val (.ref x), .val (.ref a), .val (.int (0 : Int32)), .val (.int (3 : Int32)), .val .null, .unset] [(.int (3 : Int32)), (.int (0 : Int32)), (.ref a)]) (fun _ _ A k => XS.iloadN A hx rfl (hb hby own_d_jdk_42_method_149_35) rfl  k) ?_
  refine ginfo fun _ _ O2 => ?_
  refine gcallS (y := (⟨"java/lang/StringUTF16", "compress", "([CII)[B"⟩ : MethodName)) hx (ow hw 16 rfl) (ow hw 17 rfl) (ow hw 18 rfl) (ow hw 19 rfl) (by decide) (fun hZ H hEL => Pay.of_met (W := 0) (own_c3_3_1 l Z a0 cx [] (a) (kc) (c0) (c1) (c2) vm h0 O2 P5 (by first | assumption | decide | omega) (by first | assumption | decide | omega) (by first | assumption | decide | omega)) (ow hw 19 rfl) (ow hw 18 rfl) (by decide) (by decide) hZ H hEL) 39 (argsL := [(.ref a), (.int (0 : Int32)), (.int (3 : Int32))]) (rest := []) (lenOf own_pd125 rfl) rfl rfl (Nat.le_of_eq rfl) (by rw [hml]; rfl) (hb hby own_d_jdk_42_method_149_36) rfl (by decide) (by decide) ?_
  rintro _ vm2 h2 C2 ⟨r2, kb2, rfl, K2, q2_0, q2_1⟩
  have z2 := C2.2.1
  have lt_r2 : h2.size > r2 := q2_1.lt
  refine gat (mkF m 39 #[.val (.ref x), .val (.ref a), .val (.int (0 : Int32)), .val (.int (3 : Int32)), .val .null, .unset] [(.ref r2)]) rfl ?_
  refine gs (mkF m 41 #[.val (.ref x), .val (.ref a), .val (.int (0 : Int32)), .val (.int (3 : Int32)), .val .null, .val (.ref r2)] []) (fun _ _ A k => XS.astore A hx rfl (hb hby own_d_jdk_42_method_149_39) rfl rfl (l' := #[.val (.ref x), .val (.ref a), .val (.int (0 : Int32)), .val (.int (3 : Int32)), .val .null, .val (.ref r2)]) rfl k) ?_
  refine gs (mkF m 42 #[.val (.ref x), .val (.ref a), .val (.int (0 : Int32)), .val (.int (3 : Int32)), .val .null, .val (.ref r2)] [(.ref x)]) (fun _ _ A k => XS.aloadN A hx rfl (hb hby own_d_jdk_42_method_149_41) rfl rfl k) ?_
  refine gs (mkF m 44 #[.val (.ref x), .val (.ref a), .val (.int (0 : Int32)), .val (.int (3 : Int32)), .val .null, .val (.ref r2)] [(.ref r2), (.ref x)]) (fun _ _ A k => XS.aload A hx rfl (hb hby own_d_jdk_42_method_149_42) rfl rfl k) ?_
  refine gs (mkF m 45 #[.val (.ref x), .val (.ref a), .val (.int (0 : Int32)), .val (.int (3 : Int32)), .val .null, .val (.ref r2)] [(.int (3 : Int32)), (.ref r2), (.ref x)]) (fun _ _ A k => XS.iloadN A hx rfl (hb hby own_d_jdk_42_method_149_44) rfl  k) ?_
  refine ginfo fun _ _ O3 => ?_
  refine gcallS (y := (⟨"java/lang/StringUTF16", "coderFromArrayLen", "([BI)B"⟩ : MethodName)) hx (ow hw 24 rfl) (ow hw 25 rfl) (ow hw 18 rfl) (ow hw 26 rfl) (by decide) (fun hZ H hEL => Pay.of_met (W := 1) (own_cod_3_1 l Z a0 cx [] (r2) (kb2) ([(.int ((c0 >>> ((0 : Int32) &&& 31)).toInt8.toInt32)), (.int ((c0 >>> ((8 : Int32) &&& 31)).toInt8.toInt32)), (.int ((c1 >>> ((0 : Int32) &&& 31)).toInt8.toInt32)), (.int ((c1 >>> ((8 : Int32) &&& 31)).toInt8.toInt32)), (.int ((c2 >>> ((0 : Int32) &&& 31)).toInt8.toInt32)), (.int ((c2 >>> ((8 : Int32) &&& 31)).toInt8.toInt32))]) vm2 h2 O3 q2_1) (ow hw 26 rfl) (ow hw 18 rfl) (by decide) (by decide) hZ H hEL) 48 (argsL := [(.ref r2), (.int (3 : Int32))]) (rest := [(.ref x)]) (lenOf own_pd158 rfl) rfl rfl (Nat.le_of_eq rfl) (by rw [hml]; rfl) (hb hby own_d_jdk_42_method_149_45) rfl (by decide) (by decide) ?_
  rintro _ vm3 h3 C3 ⟨rfl, rfl⟩
  have z3 := C3.2.1
  refine gat (mkF m 48 #[.val (.ref x), .val (.ref a), .val (.int (0 : Int32)), .val (.int (3 : Int32)), .val .null, .val (.ref r2)] [(.int (1 : Int32)), (.ref x)]) rfl ?_
  have f4 := (P2.keep K2 nin0)
  have f5 := (P0.keep K2)
  have f6 := (C3.safe (show h2.size > x by omega) (C2.safe (show h0.size > x by omega) L4))
  refine gputF (host := "") hx (Or.inl (ow hw 27 rfl)) Via.refl f4 f5 (Or.inr ⟨(ow hw 28 rfl), rfl, hnm⟩) (ow hw 3 rfl) (ty := .byte) (by decide) rfl rfl P3 (fun _ => f6) 51 (hb hby own_d_jdk_42_method_149_48) rfl ?_
  intro h7 W7 C7
  have z7 := C7.2.1
  have F7 := f4.same W7
  refine gs (mkF m 52 #[.val (.ref x), .val (.ref a), .val (.int (0 : Int32)), .val (.int (3 : Int32)), .val .null, .val (.ref r2)] [(.ref x)]) (fun _ _ A k => XS.aloadN A hx rfl (hb hby own_d_jdk_42_method_149_51) rfl rfl k) ?_
  refine gs (mkF m 54 #[.val (.ref x), .val (.ref a), .val (.int (0 : Int32)), .val (.int (3 : Int32)), .val .null, .val (.ref r2)] [(.ref r2), (.ref x)]) (fun _ _ A k => XS.aload A hx rfl (hb hby own_d_jdk_42_method_149_52) rfl rfl k) ?_
  have f8 := ((P1.keep K2 nin0).other W7 (Or.inr (slot_ne (Or.inr (ow hw 30 rfl)) (Or.inr (ow hw 28 rfl)) (by decide) (t := (.array .byte)) (t' := .byte) (by decide) (by decide))))
  have f9 := (f5.wr W7)
  have f10 := (C7.safe (show h2.size > x by omega) f6)
  refine gputF (host := "") hx (Or.inl (ow hw 29 rfl)) Via.refl f8 f9 (Or.inr ⟨(ow hw 30 rfl), rfl, hnm⟩) (ow hw 3 rfl) (ty := (.array .byte)) (by decide) rfl rfl P3 (fun _ => f10) 57 (hb hby own_d_jdk_42_method_149_54) rfl ?_
  intro h11 W11 C11
  have z11 := C11.2.1
  have F11 := f8.same W11
  have f12 := (f9.wr W11)
  have f13 := ((q2_1.other W7 (Nat.ne_of_gt (by omega))).other W11 (Nat.ne_of_gt (by omega)))
  exact gretV hx hret (hb hby own_d_jdk_42_method_149_57) (by decide) (by decide) (fun vq Cq => ⟨r2, rfl, ((((Keep.refl h0 [x]).trans K2 all0).wr W7 (Or.inl (List.mem_of_getElem? (i := 0) rfl))).wr W11 (Or.inl (List.mem_of_getElem? (i := 0) rfl))), ⟨f12, F11, _, _, _, f13, by decide⟩⟩)
set_option maxRecDepth 65536 in
set_option maxHeartbeats 40000000 in
theorem own_c3_3_2 (l : Launch) (Z : State) (a0 : Array Value) (cx : Ctx Z a0) (ws : List Jvm.Cond) (a : Addr) (kc : ClassId) (c0 : Int32) (c1 : Int32) (c2 : Int32) (vm0 : Vm) (h0 : Heap) (X00 : Ext Z.heap h0) (P0 : Arv Z h0 a kc .char (3 : Int32) [(.int c0), (.int c1), (.int c2)] (.int (0 : Int32))) (P1 : ¬ (255 : Int32) < c0) (P2 : ¬ (255 : Int32) < c1) (P3 : (255 : Int32) < c2) (hB : ¬ c2 < 0 ∧ ¬ (65535 : Int32) < c2) :
    Met l (⟨"java/lang/StringUTF16", "compress", "([CII)[B"⟩ : MethodName) jdk_52_method_16_code 6 (some (.array .byte)) ws ({ frames := 3, cells := 2, slots := 9, locals := 40 } : Room) Z ([] : List (String × Nat)) vm0 h0 #[(.ref a), (.int (0 : Int32)), (.int (3 : Int32))] (fun v vm h => ∃ (r : Addr), ∃ (kb : ClassId), v = some (.ref r) ∧ Keep h0 h [] ∧ h0.size ≤ r ∧ Arv Z h r kb .byte (6 : Int32) [(.int ((c0 >>> ((0 : Int32) &&& 31)).toInt8.toInt32)), (.int ((c0 >>> ((8 : Int32) &&& 31)).toInt8.toInt32)), (.int ((c1 >>> ((0 : Int32) &&& 31)).toInt8.toInt32)), (.int ((c1 >>> ((8 : Int32) &&& 31)).toInt8.toInt32)), (.int ((c2 >>> ((0 : Int32) &&& 31)).toInt8.toInt32)), (.int ((c2 >>> ((8 : Int32) &&& 31)).toInt8.toInt32))] (.int (0 : Int32))) := by
  obtain ⟨hw, hEL, ⟨zc, Scs, hzc⟩, ⟨fm, Sfm, hfm⟩, Sad, Shi, Slo⟩ := id cx
  have hSA := own_SA hw
  refine Met.of_walk (a0 := a0) #[.val (.ref a), .val (.int (0 : Int32)), .val (.int (3 : Int32)), .unset, .unset, .unset] (plainFor_of_name own_pn14) X00 hEL (fun m => by first | (simp [entryFrame, mkF, argsToLocals, Value.category]; done) | rfl) ?_
  intro p e s m below meth c vm hx hby hml hret hnm hC0
  have lt_a : h0.size > a := P0.lt
  refine gs (mkF m 1 #[.val (.ref a), .val (.int (0 : Int32)), .val (.int (3 : Int32)), .unset, .unset, .unset] [(.int (3 : Int32))]) (fun _ _ A k => XS.iloadN A hx rfl (hb hby own_d_jdk_52_method_16_0) rfl  k) ?_
  refine gnewP hx (ow hw 20 rfl) (n := (3 : Int32)) (by decide) (cap := 3) (by decide) (by decide) 3 (hb hby own_d_jdk_52_method_16_1) rfl (by decide) (by decide) ?_
  intro b1 h1 k1 g1 E1 C1 V1 n1 L1
  have z1 := C1.2.1
  have V1 : Arv Z h1 b1 k1 .byte (3 : Int32) [(.int (0 : Int32)), (.int (0 : Int32)), (.int (0 : Int32))] (.int (0 : Int32)) := V1.pad (pad_rep [] (.int (0 : Int32)) 3)
  have lt_b1 : h1.size > b1 := V1.lt
  refine gs (mkF m 4 #[.val (.ref a), .val (.int (0 : Int32)), .val (.int (3 : Int32)), .val (.ref b1), .unset, .unset] []) (fun _ _ A k => XS.astoreN A hx rfl (hb hby own_d_jdk_52_method_16_3) rfl rfl (l' := #[.val (.ref a), .val (.int (0 : Int32)), .val (.int (3 : Int32)), .val (.ref b1), .unset, .unset]) rfl k) ?_
  refine gs (mkF m 5 #[.val (.ref a), .val (.int (0 : Int32)), .val (.int (3 : Int32)), .val (.ref b1), .unset, .unset] [(.ref a)]) (fun _ _ A k => XS.aloadN A hx rfl (hb hby own_d_jdk_52_method_16_4) rfl rfl k) ?_
  refine gs (mkF m 6 #[.val (.ref a), .val (.int (0 : Int32)), .val (.int (3 : Int32)), .val (.ref b1), .unset, .unset] [(.int (0 : Int32)), (.ref a)]) (fun _ _ A k => XS.iloadN A hx rfl (hb hby own_d_jdk_52_method_16_5) rfl  k) ?_
  refine gs (mkF m 7 #[.val (.ref a), .val (.int (0 : Int32)), .val (.int (3 : Int32)), .val (.ref b1), .unset, .unset] [(.ref b1), (.int (0 : Int32)), (.ref a)]) (fun _ _ A k => XS.aloadN A hx rfl (hb hby own_d_jdk_52_method_16_6) rfl rfl k) ?_
  refine gs (mkF m 8 #[.val (.ref a), .val (.int (0 : Int32)), .val (.int (3 : Int32)), .val (.ref b1), .unset, .unset] [(.int (0 : Int32)), (.ref b1), (.int (0 : Int32)), (.ref a)]) (fun _ _ A k => XS.iconst A hx rfl (hb hby own_d_jdk_52_method_16_7) k) ?_
  refine gs (mkF m 9 #[.val (.ref a), .val (.int (0 : Int32)), .val (.int (3 : Int32)), .val (.ref b1), .unset, .unset] [(.int (3 : Int32)), (.int (0 : Int32)), (.ref b1), (.int (0 : Int32)), (.ref a)]) (fun _ _ A k => XS.iloadN A hx rfl (hb hby own_d_jdk_52_method_16_8) rfl  k) ?_
  have f3 := (P0.ext E1)
  refine ginfo fun _ _ O2 => ?_
  refine gcallS (y := (⟨"java/lang/StringUTF16", "compress", "([CI[BII)I"⟩ : MethodName)) hx (ow hw 21 rfl) (ow hw 22 rfl) (ow hw 18 rfl) (ow hw 23 rfl) (by decide) (fun hZ H hEL => Pay.of_met (W := 0) (own_c5_3_2 l Z a0 cx [] (a) (b1) (kc) (k1) (c0) (c1) (c2) vm h1 O2 f3 V1 n1 L1 (Nat.ne_of_lt (by omega)) (by first | assumption | decide | omega) (by first | assumption | decide | omega) (by first | assumption | decide | omega)) (ow hw 23 rfl) (ow hw 18 rfl) (by decide) (by decide) hZ H hEL) 12 (argsL := [(.ref a), (.int (0 : Int32)), (.ref b1), (.int (0 : Int32)), (.int (3 : Int32))]) (rest := []) (lenOf own_pd116 rfl) rfl rfl (Nat.le_of_eq rfl) (by rw [hml]; rfl) (hb hby own_d_jdk_52_method_16_9) rfl (by decide) (by decide) ?_
  rintro _ vm2 h2 C2 ⟨rfl, K2, q2_0⟩
  have z2 := C2.2.1
  refine gat (mkF m 12 #[.val (.ref a), .val (.int (0 : Int32)), .val (.int (3 : Int32)), .val (.ref b1), .unset, .unset] [(.int (2 : Int32))]) rfl ?_
  refine gs (mkF m 14 #[.val (.ref a), .val (.int (0 : Int32)), .val (.int (3 : Int32)), .val (.ref b1), .val (.int (2 : Int32)), .unset] []) (fun _ _ A k => XS.istore A hx rfl (hb hby own_d_jdk_52_method_16_12) rfl (l' := #[.val (.ref a), .val (.int (0 : Int32)), .val (.int (3 : Int32)), .val (.ref b1), .val (.int (2 : Int32)), .unset]) rfl k) ?_
  refine gs (mkF m 16 #[.val (.ref a), .val (.int (0 : Int32)), .val (.int (3 : Int32)), .val (.ref b1), .val (.int (2 : Int32)), .unset] [(.int (2 : Int32))]) (fun _ _ A k => XS.iload A hx rfl (hb hby own_d_jdk_52_method_16_14) rfl  k) ?_
  refine gs (mkF m 17 #[.val (.ref a), .val (.int (0 : Int32)), .val (.int (3 : Int32)), .val (.ref b1), .val (.int (2 : Int32)), .unset] [(.int (3 : Int32)), (.int (2 : Int32))]) (fun _ _ A k => XS.iloadN A hx rfl (hb hby own_d_jdk_52_method_16_16) rfl  k) ?_
  refine gs (mkF m 20 #[.val (.ref a), .val (.int (0 : Int32)), .val (.int (3 : Int32)), .val (.ref b1), .val (.int (2 : Int32)), .unset] []) (fun _ _ A k => XS.icmpNo A hx rfl (hb hby own_d_jdk_52_method_16_17) rfl (feq (by decide)).1 k) ?_
  refine gs (mkF m 21 #[.val (.ref a), .val (.int (0 : Int32)), .val (.int (3 : Int32)), .val (.ref b1), .val (.int (2 : Int32)), .unset] [(.ref a)]) (fun _ _ A k => XS.aloadN A hx rfl (hb hby own_d_jdk_52_method_16_20) rfl rfl k) ?_
  refine gs (mkF m 22 #[.val (.ref a), .val (.int (0 : Int32)), .val (.int (3 : Int32)), .val (.ref b1), .val (.int (2 : Int32)), .unset] [(.int (0 : Int32)), (.ref a)]) (fun _ _ A k => XS.iloadN A hx rfl (hb hby own_d_jdk_52_method_16_21) rfl  k) ?_
  refine gs (mkF m 23 #[.val (.ref a), .val (.int (0 : Int32)), .val (.int (3 : Int32)), .val (.ref b1), .val (.int (2 : Int32)), .unset] [(.int (3 : Int32)), (.int (0 : Int32)), (.ref a)]) (fun _ _ A k => XS.iloadN A hx rfl (hb hby own_d_jdk_52_method_16_22) rfl  k) ?_
  have f5 := (f3.keep K2 (ninS (Nat.ne_of_lt (by omega)) nin0))
  refine ginfo fun _ _ O4 => ?_
  refine gcallS (y := (⟨"java/lang/StringUTF16", "toBytes", "([CII)[B"⟩ : MethodName)) hx (ow hw 43 rfl) (ow hw 44 rfl) (ow hw 18 rfl) (ow hw 45 rfl) (by decide) (fun hZ H hEL => Pay.of_met (W := 0) (own_tb3 l Z a0 cx [] (a) (kc) (c0) (c1) (c2) vm2 h2 O4 f5) (ow hw 45 rfl) (ow hw 18 rfl) (by decide) (by decide) hZ H hEL) 26 (argsL := [(.ref a), (.int (0 : Int32)), (.int (3 : Int32))]) (rest := []) (lenOf own_pd125 rfl) rfl rfl (Nat.le_of_eq rfl) (by rw [hml]; rfl) (hb hby own_d_jdk_52_method_16_23) rfl (by decide) (by decide) ?_
  rintro _ vm4 h4 C4 ⟨r4, kb4, rfl, K4, q4_0, q4_1⟩
  have z4 := C4.2.1
  have lt_r4 : h4.size > r4 := q4_1.lt
  refine gat (mkF m 26 #[.val (.ref a), .val (.int (0 : Int32)), .val (.int (3 : Int32)), .val (.ref b1), .val (.int (2 : Int32)), .unset] [(.ref r4)]) rfl ?_
  refine gs (mkF m 28 #[.val (.ref a), .val (.int (0 : Int32)), .val (.int (3 : Int32)), .val (.ref b1), .val (.int (2 : Int32)), .val (.ref r4)] []) (fun _ _ A k => XS.astore A hx rfl (hb hby own_d_jdk_52_method_16_26) rfl rfl (l' := #[.val (.ref a), .val (.int (0 : Int32)), .val (.int (3 : Int32)), .val (.ref b1), .val (.int (2 : Int32)), .val (.ref r4)]) rfl k) ?_
  refine gs (mkF m 30 #[.val (.ref a), .val (.int (0 : Int32)), .val (.int (3 : Int32)), .val (.ref b1), .val (.int (2 : Int32)), .val (.ref r4)] [(.ref r4)]) (fun _ _ A k => XS.aload A hx rfl (hb hby own_d_jdk_52_method_16_28) rfl rfl k) ?_
  refine gs (mkF m 32 #[.val (.ref a), .val (.int (0 : Int32)), .val (.int (3 : Int32)), .val (.ref b1), .val (.int (2 : Int32)), .val (.ref r4)] [(.int (2 : Int32)), (.ref r4)]) (fun _ _ A k => XS.iload A hx rfl (hb hby own_d_jdk_52_method_16_30) rfl  k) ?_
  refine ginfo fun _ _ O6 => ?_
  refine gcallS (y := (⟨"java/lang/StringUTF16", "getChar", "([BI)C"⟩ : MethodName)) hx (ow hw 59 rfl) (ow hw 60 rfl) (ow hw 18 rfl) (ow hw 61 rfl) (by decide) (fun hZ H hEL => Pay.of_met (W := 0) (own_gc3_2 l Z a0 cx [] (r4) (kb4) (((c2 >>> ((0 : Int32) &&& 31)).toInt8.toInt32)) (((c2 >>> ((8 : Int32) &&& 31)).toInt8.toInt32)) ((.int ((c0 >>> ((0 : Int32) &&& 31)).toInt8.toInt32))) ((.int ((c0 >>> ((8 : Int32) &&& 31)).toInt8.toInt32))) ((.int ((c1 >>> ((0 : Int32) &&& 31)).toInt8.toInt32))) ((.int ((c1 >>> ((8 : Int32) &&& 31)).toInt8.toInt32))) vm4 h4 O6 q4_1) (ow hw 61 rfl) (ow hw 18 rfl) (by decide) (by decide) hZ H hEL) 35 (argsL := [(.ref r4), (.int (2 : Int32))]) (rest := []) (lenOf own_pd130 rfl) rfl rfl (Nat.le_of_eq rfl) (by rw [hml]; rfl) (hb hby own_d_jdk_52_method_16_32) rfl (by decide) (by decide) ?_
  rintro _ vm6 h6 C6 ⟨rfl, rfl⟩
  have z6 := C6.2.1
  refine gat (mkF m 35 #[.val (.ref a), .val (.int (0 : Int32)), .val (.int (3 : Int32)), .val (.ref b1), .val (.int (2 : Int32)), .val (.ref r4)] [(.int (StrChars.pairCh ((c2 >>> ((0 : Int32) &&& 31)).toInt8.toInt32) ((c2 >>> ((8 : Int32) &&& 31)).toInt8.toInt32)))]) rfl ?_
  refine gs (mkF m 38 #[.val (.ref a), .val (.int (0 : Int32)), .val (.int (3 : Int32)), .val (.ref b1), .val (.int (2 : Int32)), .val (.ref r4)] [(.int (255 : Int32)), (.int (StrChars.pairCh ((c2 >>> ((0 : Int32) &&& 31)).toInt8.toInt32) ((c2 >>> ((8 : Int32) &&& 31)).toInt8.toInt32)))]) (fun _ _ A k => XS.sipush A hx rfl (hb hby own_d_jdk_52_method_16_35) k) ?_
  refine gs (mkF m 54 #[.val (.ref a), .val (.int (0 : Int32)), .val (.int (3 : Int32)), .val (.ref b1), .val (.int (2 : Int32)), .val (.ref r4)] []) (fun _ _ A k => XS.icmpYes A hx rfl (pc0 := 38) (pc' := 54) rfl (hb hby own_d_jdk_52_method_16_38) rfl (tlt (own_pair hB P3)).2.2.1 (by decide) (by decide) k) ?_
  refine gs (mkF m 56 #[.val (.ref a), .val (.int (0 : Int32)), .val (.int (3 : Int32)), .val (.ref b1), .val (.int (2 : Int32)), .val (.ref r4)] [(.ref r4)]) (fun _ _ A k => XS.aload A hx rfl (hb hby own_d_jdk_52_method_16_54) rfl rfl k) ?_
  exact gretA hx hret rfl rfl (hb hby own_d_jdk_52_method_16_56) (by decide) (by decide) (fun vq Cq => ⟨r4, kb4, rfl, ((((Keep.refl h0 []).ext E1).trans K2 (allS (Or.inr (by omega)) all0)).trans K4 all0), (by omega), q4_1⟩)
set_option maxRecDepth 65536 in
set_option maxHeartbeats 40000000 in
theorem own_cod_3_2 (l : Launch) (Z : State) (a0 : Array Value) (cx : Ctx Z a0) (ws : List Jvm.Cond) (a : Addr) (ka : ClassId) (vs : List Value) (vm0 : Vm) (h0 : Heap) (X00 : Ext Z.heap h0) (P0 : Arv Z h0 a ka .byte (6 : Int32) vs (.int (0 : Int32))) :
    Met l (⟨"java/lang/StringUTF16", "coderFromArrayLen", "([BI)B"⟩ : MethodName) jdk_52_method_15_code 2 (some .byte) ws ({ frames := 0, cells := 0, slots := 0, locals := 0 } : Room) Z ([] : List (String × Nat)) vm0 h0 #[(.ref a), (.int (3 : Int32))] (fun v vm h => v = some (.int (1 : Int32)) ∧ h0 = h) := by
  obtain ⟨hw, hEL, ⟨zc, Scs, hzc⟩, ⟨fm, Sfm, hfm⟩, Sad, Shi, Slo⟩ := id cx
  have hSA := own_SA hw
  refine Met.of_walk (a0 := a0) #[.val (.ref a), .val (.int (3 : Int32))] (plainFor_of_name own_pn14) X00 hEL (fun m => by first | (simp [entryFrame, mkF, argsToLocals, Value.category]; done) | rfl) ?_
  intro p e s m below meth c vm hx hby hml hret hnm hC0
  have lt_a : h0.size > a := P0.lt
  refine gs (mkF m 1 #[.val (.ref a), .val (.int (3 : Int32))] [(.int (3 : Int32))]) (fun _ _ A k => XS.iloadN A hx rfl (hb hby own_d_jdk_52_method_15_0) rfl  k) ?_
  refine gs (mkF m 2 #[.val (.ref a), .val (.int (3 : Int32))] [(.ref a), (.int (3 : Int32))]) (fun _ _ A k => XS.aloadN A hx rfl (hb hby own_d_jdk_52_method_15_1) rfl rfl k) ?_
  refine glen hx P0 3 (hb hby own_d_jdk_52_method_15_2) rfl ?_
  refine gs (mkF m 4 #[.val (.ref a), .val (.int (3 : Int32))] [(.int (-3 : Int32))]) (fun _ _ A k => XS.isub A hx rfl (hb hby own_d_jdk_52_method_15_3) rfl k) ?_
  refine gs (mkF m 6 #[.val (.ref a), .val (.int (3 : Int32))] [(.int (31 : Int32)), (.int (-3 : Int32))]) (fun _ _ A k => XS.bipush A hx rfl (hb hby own_d_jdk_52_method_15_4) k) ?_
  refine gs (mkF m 7 #[.val (.ref a), .val (.int (3 : Int32))] [(.int (1 : Int32))]) (fun _ _ A k => XS.iushr A hx rfl (hb hby own_d_jdk_52_method_15_6) rfl k) ?_
  refine gs (mkF m 8 #[.val (.ref a), .val (.int (3 : Int32))] [(.int (1 : Int32))]) (fun _ _ A k => XS.i2b A hx rfl (hb hby own_d_jdk_52_method_15_7) rfl k) ?_
  exact gretN (t := .byte) hx hret (by simp) (hb hby own_d_jdk_52_method_15_8) (by decide) (by decide) (fun vq Cq => ⟨rfl, rfl⟩)
set_option maxRecDepth 65536 in
set_option maxHeartbeats 40000000 in
theorem own_i4_3_2 (l : Launch) (Z : State) (a0 : Array Value) (cx : Ctx Z a0) (ws : List Jvm.Cond) (x : Addr) (a : Addr) (v0 : Value) (c0v : Value) (kc : ClassId) (c0 : Int32) (c1 : Int32) (c2 : Int32) (vm0 : Vm) (h0 : Heap) (X00 : Ext Z.heap h0) (P0 : Exa Z h0 x "java/lang/String") (P1 : Fld Z h0 x "java/lang/String" "value" "[B" v0) (P2 : Fld Z h0 x "java/lang/String" "coder" "B" c0v) (P3 : Z.heap.size ≤ x) (P4 : Safe Z ([] : List (String × Nat)) vm0 h0 x) (P5 : Arv Z h0 a kc .char (3 : Int32) [(.int c0), (.int c1), (.int c2)] (.int (0 : Int32))) (P6 : ¬ (255 : Int32) < c0) (P7 : ¬ (255 : Int32) < c1) (P8 : (255 : Int32) < c2) (hB : ¬ c2 < 0 ∧ ¬ (65535 : Int32) < c2) :
    Met l (⟨"java/lang/String", "<init>", "([CIILjava/lang/Void;)V"⟩ : MethodName) jdk_42_method_149_code 6 none ws ({ frames := 4, cells := 2, slots := 9, locals := 57 } : Room) Z ([] : List (String × Nat)) vm0 h0 #[(.ref x), (.ref a), (.int (0 : Int32)), (.int (3 : Int32)), .null] (fun v vm h => ∃ (t : Addr), v = none ∧ Keep h0 h [x] ∧ Str0 Z h x t) := by
  obtain ⟨hw, hEL, ⟨zc, Scs, hzc⟩, ⟨fm, Sfm, hfm⟩, Sad, Shi, Slo⟩ := id cx
  have hSA := own_SA hw
  refine Met.of_walk (a0 := a0) #[.val (.ref x), .val (.ref a), .val (.int (0 : Int32)), .val (.int (3 : Int32)), .val .null, .unset] (plainFor_of_name own_pn164) X00 hEL (fun m => by first | (simp [entryFrame, mkF, argsToLocals, Value.category]; done) | rfl) ?_
  intro p e s m below meth c vm hx hby hml hret hnm hC0
  have lt_x : h0.size > x := P0.lt
  have L4 := hC0.safe lt_x P4
  have lt_a : h0.size > a := P5.lt
  refine gs (mkF m 1 #[.val (.ref x), .val (.ref a), .val (.int (0 : Int32)), .val (.int (3 : Int32)), .val .null, .unset] [(.ref x)]) (fun _ _ A k => XS.aloadN A hx rfl (hb hby own_d_jdk_42_method_149_0) rfl rfl k) ?_
  refine ginitO hx (ow hw 12 rfl) (ow hw 13 rfl) (ow hw 14 rfl) 4 (W := 0) (Nat.le_of_eq rfl) (by rw [hml]; rfl) (hb hby own_d_jdk_42_method_149_1) rfl (by decide) (by decide) ?_
  refine gs (mkF m 5 #[.val (.ref x), .val (.ref a), .val (.int (0 : Int32)), .val (.int (3 : Int32)), .val .null, .unset] [(.int (3 : Int32))]) (fun _ _ A k => XS.iloadN A hx rfl (hb hby own_d_jdk_42_method_149_4) rfl  k) ?_
  refine gs (mkF m 27 #[.val (.ref x), .val (.ref a), .val (.int (0 : Int32)), .val (.int (3 : Int32)), .val .null, .unset] []) (fun _ _ A k => XS.ifYes A hx rfl (pc0 := 5) (pc' := 27) rfl (hb hby own_d_jdk_42_method_149_5) rfl ((if0 _ _).trans (feq (by decide)).2) (by decide) (by decide) k) ?_
  refine ggetS (host := "") hx (Or.inl (ow hw 15 rfl)) Via.refl Scs 30 (hb hby own_d_jdk_42_method_149_27) rfl ?_
  refine gs (mkF m 33 #[.val (.ref x), .val (.ref a), .val (.int (0 : Int32)), .val (.int (3 : Int32)), .val .null, .unset] []) (fun _ _ A k => XS.ifNo A hx rfl (hb hby own_d_jdk_42_method_149_30) rfl ((if0 _ _).trans (feq hzc).1) k) ?_
  refine gs (mkF m 34 #[.val (.ref x), .val (.ref a), .val (.int (0 : Int32)), .val (.int (3 : Int32)), .val .null, .unset] [(.ref a)]) (fun _ _ A k => XS.aloadN A hx rfl (hb hby own_d_jdk_42_method_149_33) rfl rfl k) ?_
  refine gs (mkF m 35 #[.val (.ref x), .val (.ref a), .val (.int (0 : Int32)), .val (.int (3 : Int32)), .val .null, .unset] [(.int (0 : Int32)), (.ref a)]) (fun _ _ A k => XS.iloadN A hx rfl (hb hby own_d_jdk_42_method_149_34) rfl  k) ?_
  refine gs (mkF m 36 #[.val (.ref x), .val (.ref a), .val (.int (0 : Int32)), .val (.int (3 : Int32)), .val .null, .unset] [(.int (3 : Int32)), (.int (0 : Int32)), (.ref a)]) (fun _ _ A k => XS.iloadN A hx rfl (hb hby own_d_jdk_42_method_149_35) rfl  k) ?_
  refine ginfo fun _ _ O2 => ?_
  refine gcallS (y := (⟨"java/lang/StringUTF16", "compress", "([CII)[B"⟩ : MethodName)) hx (ow hw 16 rfl) (ow hw 17 rfl) (ow hw 18 rfl) (ow hw 19 rfl) (by decide) (fun hZ H hEL => Pay.of_met (W := 0) (own_c3_3_2 l Z a0 cx [] (a) (kc) (c0) (c1) (c2) vm h0 O2 P5 (by first | assumption | decide | omega) (by first | assumption | decide | omega) (by first | assumption | decide | omega) (by first | assumption | decide | omega)) (ow hw 19 rfl) (ow hw 18 rfl) (by decide) (by decide) hZ H hEL) 39 (argsL := [(.ref a), (.int (0 : Int32)), (.int (3 : Int32))]) (rest := []) (lenOf own_pd125 rfl) rfl rfl (Nat.le_of_eq rfl) (by rw [hml]; rfl) (hb hby own_d_jdk_42_method_149_36) rfl (by decide) (by decide) ?_
  rintro _ vm2 h2 C2 ⟨r2, kb2, rfl, K2, q2_0, q2_1⟩
  have z2 := C2.2.1
  have lt_r2 : h2.size > r2 := q2_1.lt
  refine gat (mkF m 39 #[.val (.ref x), .val (.ref a), .val (.int (0 : Int32)), .val (.int (3 : Int32)), .val .null, .unset] [(.ref r2)]) rfl ?_
  refine gs (mkF m 41 #[.val (.ref x), .val (.ref a), .val (.int (0 : Int32)), .val (.int (3 : Int32)), .val .null, .val (.ref r2)] []) (fun _ _ A k => XS.astore A hx rfl (hb hby own_d_jdk_42_method_149_39) rfl rfl (l' := #[.val (.ref x), .val (.ref a), .val (.int (0 : Int32)), .val (.int (3 : Int32)), .val .null, .val (.ref r2)]) rfl k) ?_
  refine gs (mkF m 42 #[.val (.ref x), .val (.ref a), .val (.int (0 : Int32)), .val (.int (3 : Int32)), .val .null, .val (.ref r2)] [(.ref x)]) (fun _ _ A k => XS.aloadN A hx rfl (hb hby own_d_jdk_42_method_149_41) rfl rfl k) ?_
  refine gs (mkF m 44 #[.val (.ref x), .val (.ref a), .val (.int (0 : Int32)), .val (.int (3 : Int32)), .val .null, .val (.ref r2)] [(.ref r2), (.ref x)]) (fun _ _ A k => XS.aload A hx rfl (hb hby own_d_jdk_42_method_149_42) rfl rfl k) ?_
  refine gs (mkF m 45 #[.val (.ref x), .val (.ref a), .val (.int (0 : Int32)), .val (.int (3 : Int32)), .val .null, .val (.ref r2)] [(.int (3 : Int32)), (.ref r2), (.ref x)]) (fun _ _ A k => XS.iloadN A hx rfl (hb hby own_d_jdk_42_method_149_44) rfl  k) ?_
  refine ginfo fun _ _ O3 => ?_
  refine gcallS (y := (⟨"java/lang/StringUTF16", "coderFromArrayLen", "([BI)B"⟩ : MethodName)) hx (ow hw 24 rfl) (ow hw 25 rfl) (ow hw 18 rfl) (ow hw 26 rfl) (by decide) (fun hZ H hEL => Pay.of_met (W := 1) (own_cod_3_2 l Z a0 cx [] (r2) (kb2) ([(.int ((c0 >>> ((0 : Int32) &&& 31)).toInt8.toInt32)), (.int ((c0 >>> ((8 : Int32) &&& 31)).toInt8.toInt32)), (.int ((c1 >>> ((0 : Int32) &&& 31)).toInt8.toInt32)), (.int ((c1 >>> ((8 : Int32) &&& 31)).toInt8.toInt32)), (.int ((c2 >>> ((0 : Int32) &&& 31)).toInt8.toInt32)), (.int ((c2 >>> ((8 : Int32) &&& 31)).toInt8.toInt32))]) vm2 h2 O3 q2_1) (ow hw 26 rfl) (ow hw 18 rfl) (by decide) (by decide) hZ H hEL) 48 (argsL := [(.ref r2), (.int (3 : Int32))]) (rest := [(.ref x)]) (lenOf own_pd158 rfl) rfl rfl (Nat.le_of_eq rfl) (by rw [hml]; rfl) (hb hby own_d_jdk_42_method_149_45) rfl (by decide) (by decide) ?_
  rintro _ vm3 h3 C3 ⟨rfl, rfl⟩
  have z3 := C3.2.1
  refine gat (mkF m 48 #[.val (.ref x), .val (.ref a), .val (.int (0 : Int32)), .val (.int (3 : Int32)), .val .null, .val (.ref r2)] [(.int (1 : Int32)), (.ref x)]) rfl ?_
  have f4 := (P2.keep K2 nin0)
  have f5 := (P0.keep K2)
  have f6 := (C3.safe (show h2.size > x by omega) (C2.safe (show h0.size > x by omega) L4))
  refine gputF (host := "") hx (Or.inl (ow hw 27 rfl)) Via.refl f4 f5 (Or.inr ⟨(ow hw 28 rfl), rfl, hnm⟩) (ow hw 3 rfl) (ty := .byte) (by decide) rfl rfl P3 (fun _ => f6) 51 (hb hby own_d_jdk_42_method_149_48) rfl ?_
  intro h7 W7 C7
  have z7 := C7.2.1
  have F7 := f4.same W7
  refine gs (mkF m 52 #[.val (.ref x), .val (.ref a), .val (.int (0 : Int32)), .val (.int (3 : Int32)), .val .null, .val (.ref r2)] [(.ref x)]) (fun _ _ A k => XS.aloadN A hx rfl (hb hby own_d_jdk_42_method_149_51) rfl rfl k) ?_
  refine gs (mkF m 54 #[.val (.ref x), .val (.ref a), .val (.int (0 : Int32)), .val (.int (3 : Int32)), .val .null, .val (.ref r2)] [(.ref r2), (.ref x)]) (fun _ _ A k => XS.aload A hx rfl (hb hby own_d_jdk_42_method_149_52) rfl rfl k) ?_
  have f8 := ((P1.keep K2 nin0).other W7 (Or.inr (slot_ne (Or.inr (ow hw 30 rfl)) (Or.inr (ow hw 28 rfl)) (by decide) (t := (.array .byte)) (t' := .byte) (by decide) (by decide))))
  have f9 := (f5.wr W7)
  have f10 := (C7.safe (show h2.size > x by omega) f6)
  refine gputF (host := "") hx (Or.inl (ow hw 29 rfl)) Via.refl f8 f9 (Or.inr ⟨(ow hw 30 rfl), rfl, hnm⟩) (ow hw 3 rfl) (ty := (.array .byte)) (by decide) rfl rfl P3 (fun _ => f10) 57 (hb hby own_d_jdk_42_method_149_54) rfl ?_
  intro h11 W11 C11
  have z11 := C11.2.1
  have F11 := f8.same W11
  have f12 := (f9.wr W11)
  have f13 := ((q2_1.other W7 (Nat.ne_of_gt (by omega))).other W11 (Nat.ne_of_gt (by omega)))
  exact gretV hx hret (hb hby own_d_jdk_42_method_149_57) (by decide) (by decide) (fun vq Cq => ⟨r2, rfl, ((((Keep.refl h0 [x]).trans K2 all0).wr W7 (Or.inl (List.mem_of_getElem? (i := 0) rfl))).wr W11 (Or.inl (List.mem_of_getElem? (i := 0) rfl))), ⟨f12, F11, _, _, _, f13, by decide⟩⟩)
set_option maxRecDepth 65536 in
set_option maxHeartbeats 40000000 in
theorem own_c3_3_3 (l : Launch) (Z : State) (a0 : Array Value) (cx : Ctx Z a0) (ws : List Jvm.Cond) (a : Addr) (kc : ClassId) (c0 : Int32) (c1 : Int32) (c2 : Int32) (vm0 : Vm) (h0 : Heap) (X00 : Ext Z.heap h0) (P0 : Arv Z h0 a kc .char (3 : Int32) [(.int c0), (.int c1), (.int c2)] (.int (0 : Int32))) (P1 : ¬ (255 : Int32) < c0) (P2 : ¬ (255 : Int32) < c1) (P3 : ¬ (255 : Int32) < c2) :
    Met l (⟨"java/lang/StringUTF16", "compress", "([CII)[B"⟩ : MethodName) jdk_52_method_16_code 6 (some (.array .byte)) ws ({ frames := 1, cells := 1, slots := 3, locals := 18 } : Room) Z ([] : List (String × Nat)) vm0 h0 #[(.ref a), (.int (0 : Int32)), (.int (3 : Int32))] (fun v vm h => ∃ (r : Addr), ∃ (kb : ClassId), v = some (.ref r) ∧ Keep h0 h [] ∧ h0.size ≤ r ∧ Arv Z h r kb .byte (3 : Int32) [(.int (c0.toInt8.toInt32)), (.int (c1.toInt8.toInt32)), (.int (c2.toInt8.toInt32))] (.int (0 : Int32))) := by
  obtain ⟨hw, hEL, ⟨zc, Scs, hzc⟩, ⟨fm, Sfm, hfm⟩, Sad, Shi, Slo⟩ := id cx
  have hSA := own_SA hw
  refine Met.of_walk (a0 := a0) #[.val (.ref a), .val (.int (0 : Int32)), .val (.int (3 : Int32)), .unset, .unset, .unset] (plainFor_of_name own_pn14) X00 hEL (fun m => by first | (simp [entryFrame, mkF, argsToLocals, Value.category]; done) | rfl) ?_
  intro p e s m below meth c vm hx hby hml hret hnm hC0
  have lt_a : h0.size > a := P0.lt
  refine gs (mkF m 1 #[.val (.ref a), .val (.int (0 : Int32)), .val (.int (3 : Int32)), .unset, .unset, .unset] [(.int (3 : Int32))]) (fun _ _ A k => XS.iloadN A hx rfl (hb hby own_d_jdk_52_method_16_0) rfl  k) ?_
  refine gnewP hx (ow hw 20 rfl) (n := (3 : Int32)) (by decide) (cap := 3) (by decide) (by decide) 3 (hb hby own_d_jdk_52_method_16_1) rfl (by decide) (by decide) ?_
  intro b1 h1 k1 g1 E1 C1 V1 n1 L1
  have z1 := C1.2.1
  have V1 : Arv Z h1 b1 k1 .byte (3 : Int32) [(.int (0 : Int32)), (.int (0 : Int32)), (.int (0 : Int32))] (.int (0 : Int32)) := V1.pad (pad_rep [] (.int (0 : Int32)) 3)
  have lt_b1 : h1.size > b1 := V1.lt
  refine gs (mkF m 4 #[.val (.ref a), .val (.int (0 : Int32)), .val (.int (3 : Int32)), .val (.ref b1), .unset, .unset] []) (fun _ _ A k => XS.astoreN A hx rfl (hb hby own_d_jdk_52_method_16_3) rfl rfl (l' := #[.val (.ref a), .val (.int (0 : Int32)), .val (.int (3 : Int32)), .val (.ref b1), .unset, .unset]) rfl k) ?_
  refine gs (mkF m 5 #[.val (.ref a), .val (.int (0 : Int32)), .val (.int (3 : Int32)), .val (.ref b1), .unset, .unset] [(.ref a)]) (fun _ _ A k => XS.aloadN A hx rfl (hb hby own_d_jdk_52_method_16_4) rfl rfl k) ?_
  refine gs (mkF m 6 #[.val (.ref a), .val (.int (0 : Int32)), .val (.int (3 : Int32)), .val (.ref b1), .unset, .unset] [(.int (0 : Int32)), (.ref a)]) (fun _ _ A k => XS.iloadN A hx rfl (hb hby own_d_jdk_52_method_16_5) rfl  k) ?_
  refine gs (mkF m 7 #[.val (.ref a), .val (.int (0 : Int32)), .val (.int (3 : Int32)), .val (.ref b1), .unset, .unset] [(.ref b1), (.int (0 : Int32)), (.ref a)]) (fun _ _ A k => XS.aloadN A hx rfl (hb hby own_d_jdk_52_method_16_6) rfl rfl k) ?_
  refine gs (mkF m 8 #[.val (.ref a), .val (.int (0 : Int32)), .val (.int (3 : Int32)), .val (.ref b1), .unset, .unset] [(.int (0 : Int32)), (.ref b1), (.int (0 : Int32)), (.ref a)]) (fun _ _ A k => XS.iconst A hx rfl (hb hby own_d_jdk_52_method_16_7) k) ?_
  refine gs (mkF m 9 #[.val (.ref a), .val (.int (0 : Int32)), .val (.int (3 : Int32)), .val (.ref b1), .unset, .unset] [(.int (3 : Int32)), (.int (0 : Int32)), (.ref b1), (.int (0 : Int32)), (.ref a)]) (fun _ _ A k => XS.iloadN A hx rfl (hb hby own_d_jdk_52_method_16_8) rfl  k) ?_
  have f3 := (P0.ext E1)
  refine ginfo fun _ _ O2 => ?_
  refine gcallS (y := (⟨"java/lang/StringUTF16", "compress", "([CI[BII)I"⟩ : MethodName)) hx (ow hw 21 rfl) (ow hw 22 rfl) (ow hw 18 rfl) (ow hw 23 rfl) (by decide) (fun hZ H hEL => Pay.of_met (W := 0) (own_c5_3_3 l Z a0 cx [] (a) (b1) (kc) (k1) (c0) (c1) (c2) vm h1 O2 f3 V1 n1 L1 (Nat.ne_of_lt (by omega)) (by first | assumption | decide | omega) (by first | assumption | decide | omega) (by first | assumption | decide | omega)) (ow hw 23 rfl) (ow hw 18 rfl) (by decide) (by decide) hZ H hEL) 12 (argsL := [(.ref a), (.int (0 : Int32)), (.ref b1), (.int (0 : Int32)), (.int (3 : Int32))]) (rest := []) (lenOf own_pd116 rfl) rfl rfl (Nat.le_of_eq rfl) (by rw [hml]; rfl) (hb hby own_d_jdk_52_method_16_9) rfl (by decide) (by decide) ?_
  rintro _ vm2 h2 C2 ⟨rfl, K2, q2_0⟩
  have z2 := C2.2.1
  refine gat (mkF m 12 #[.val (.ref a), .val (.int (0 : Int32)), .val (.int (3 : Int32)), .val (.ref b1), .unset, .unset] [(.int (3 : Int32))]) rfl ?_
  refine gs (mkF m 14 #[.val (.ref a), .val (.int (0 : Int32)), .val (.int (3 : Int32)), .val (.ref b1), .val (.int (3 : Int32)), .unset] []) (fun _ _ A k => XS.istore A hx rfl (hb hby own_d_jdk_52_method_16_12) rfl (l' := #[.val (.ref a), .val (.int (0 : Int32)), .val (.int (3 : Int32)), .val (.ref b1), .val (.int (3 : Int32)), .unset]) rfl k) ?_
  refine gs (mkF m 16 #[.val (.ref a), .val (.int (0 : Int32)), .val (.int (3 : Int32)), .val (.ref b1), .val (.int (3 : Int32)), .unset] [(.int (3 : Int32))]) (fun _ _ A k => XS.iload A hx rfl (hb hby own_d_jdk_52_method_16_14) rfl  k) ?_
  refine gs (mkF m 17 #[.val (.ref a), .val (.int (0 : Int32)), .val (.int (3 : Int32)), .val (.ref b1), .val (.int (3 : Int32)), .unset] [(.int (3 : Int32)), (.int (3 : Int32))]) (fun _ _ A k => XS.iloadN A hx rfl (hb hby own_d_jdk_52_method_16_16) rfl  k) ?_
  refine gs (mkF m 57 #[.val (.ref a), .val (.int (0 : Int32)), .val (.int (3 : Int32)), .val (.ref b1), .val (.int (3 : Int32)), .unset] []) (fun _ _ A k => XS.icmpYes A hx rfl (pc0 := 17) (pc' := 57) rfl (hb hby own_d_jdk_52_method_16_17) rfl (teq (by decide)).1 (by decide) (by decide) k) ?_
  refine gs (mkF m 58 #[.val (.ref a), .val (.int (0 : Int32)), .val (.int (3 : Int32)), .val (.ref b1), .val (.int (3 : Int32)), .unset] [(.ref b1)]) (fun _ _ A k => XS.aloadN A hx rfl (hb hby own_d_jdk_52_method_16_57) rfl rfl k) ?_
  exact gretA hx hret rfl rfl (hb hby own_d_jdk_52_method_16_58) (by decide) (by decide) (fun vq Cq => ⟨b1, k1, rfl, (((Keep.refl h0 []).ext E1).trans K2 (allS (Or.inr (by omega)) all0)), (by omega), q2_0⟩)
set_option maxRecDepth 65536 in
set_option maxHeartbeats 40000000 in
theorem own_cod_3_3 (l : Launch) (Z : State) (a0 : Array Value) (cx : Ctx Z a0) (ws : List Jvm.Cond) (a : Addr) (ka : ClassId) (vs : List Value) (vm0 : Vm) (h0 : Heap) (X00 : Ext Z.heap h0) (P0 : Arv Z h0 a ka .byte (3 : Int32) vs (.int (0 : Int32))) :
    Met l (⟨"java/lang/StringUTF16", "coderFromArrayLen", "([BI)B"⟩ : MethodName) jdk_52_method_15_code 2 (some .byte) ws ({ frames := 0, cells := 0, slots := 0, locals := 0 } : Room) Z ([] : List (String × Nat)) vm0 h0 #[(.ref a), (.int (3 : Int32))] (fun v vm h => v = some (.int (0 : Int32)) ∧ h0 = h) := by
  obtain ⟨hw, hEL, ⟨zc, Scs, hzc⟩, ⟨fm, Sfm, hfm⟩, Sad, Shi, Slo⟩ := id cx
  have hSA := own_SA hw
  refine Met.of_walk (a0 := a0) #[.val (.ref a), .val (.int (3 : Int32))] (plainFor_of_name own_pn14) X00 hEL (fun m => by first | (simp [entryFrame, mkF, argsToLocals, Value.category]; done) | rfl) ?_
  intro p e s m below meth c vm hx hby hml hret hnm hC0
  have lt_a : h0.size > a := P0.lt
  refine gs (mkF m 1 #[.val (.ref a), .val (.int (3 : Int32))] [(.int (3 : Int32))]) (fun _ _ A k => XS.iloadN A hx rfl (hb hby own_d_jdk_52_method_15_0) rfl  k) ?_
  refine gs (mkF m 2 #[.val (.ref a), .val (.int (3 : Int32))] [(.ref a), (.int (3 : Int32))]) (fun _ _ A k => XS.aloadN A hx rfl (hb hby own_d_jdk_52_method_15_1) rfl rfl k) ?_
  refine glen hx P0 3 (hb hby own_d_jdk_52_method_15_2) rfl ?_
  refine gs (mkF m 4 #[.val (.ref a), .val (.int (3 : Int32))] [(.int (0 : Int32))]) (fun _ _ A k => XS.isub A hx rfl (hb hby own_d_jdk_52_method_15_3) rfl k) ?_
  refine gs (mkF m 6 #[.val (.ref a), .val (.int (3 : Int32))] [(.int (31 : Int32)), (.int (0 : Int32))]) (fun _ _ A k => XS.bipush A hx rfl (hb hby own_d_jdk_52_method_15_4) k) ?_
  refine gs (mkF m 7 #[.val (.ref a), .val (.int (3 : Int32))] [(.int (0 : Int32))]) (fun _ _ A k => XS.iushr A hx rfl (hb hby own_d_jdk_52_method_15_6) rfl k) ?_
  refine gs (mkF m 8 #[.val (.ref a), .val (.int (3 : Int32))] [(.int (0 : Int32))]) (fun _ _ A k => XS.i2b A hx rfl (hb hby own_d_jdk_52_method_15_7) rfl k) ?_
  exact gretN (t := .byte) hx hret (by simp) (hb hby own_d_jdk_52_method_15_8) (by decide) (by decide) (fun vq Cq => ⟨rfl, rfl⟩)
set_option maxRecDepth 65536 in
set_option maxHeartbeats 40000000 in
theorem own_i4_3_3 (l : Launch) (Z : State) (a0 : Array Value) (cx : Ctx Z a0) (ws : List Jvm.Cond) (x : Addr) (a : Addr) (v0 : Value) (c0v : Value) (kc : ClassId) (c0 : Int32) (c1 : Int32) (c2 : Int32) (vm0 : Vm) (h0 : Heap) (X00 : Ext Z.heap h0) (P0 : Exa Z h0 x "java/lang/String") (P1 : Fld Z h0 x "java/lang/String" "value" "[B" v0) (P2 : Fld Z h0 x "java/lang/String" "coder" "B" c0v) (P3 : Z.heap.size ≤ x) (P4 : Safe Z ([] : List (String × Nat)) vm0 h0 x) (P5 : Arv Z h0 a kc .char (3 : Int32) [(.int c0), (.int c1), (.int c2)] (.int (0 : Int32))) (P6 : ¬ (255 : Int32) < c0) (P7 : ¬ (255 : Int32) < c1) (P8 : ¬ (255 : Int32) < c2) :
    Met l (⟨"java/lang/String", "<init>", "([CIILjava/lang/Void;)V"⟩ : MethodName) jdk_42_method_149_code 6 none ws ({ frames := 2, cells := 1, slots := 3, locals := 35 } : Room) Z ([] : List (String × Nat)) vm0 h0 #[(.ref x), (.ref a), (.int (0 : Int32)), (.int (3 : Int32)), .null] (fun v vm h => ∃ (t : Addr), v = none ∧ Keep h0 h [x] ∧ Str0 Z h x t) := by
  obtain ⟨hw, hEL, ⟨zc, Scs, hzc⟩, ⟨fm, Sfm, hfm⟩, Sad, Shi, Slo⟩ := id cx
  have hSA := own_SA hw
  refine Met.of_walk (a0 := a0) #[.val (.ref x), .val (.ref a), .val (.int (0 : Int32)), .val (.int (3 : Int32)), .val .null, .unset] (plainFor_of_name own_pn164) X00 hEL (fun m => by first | (simp [entryFrame, mkF, argsToLocals, Value.category]; done) | rfl) ?_
  intro p e s m below meth c vm hx hby hml hret hnm hC0
  have lt_x : h0.size > x := P0.lt
  have L4 := hC0.safe lt_x P4
  have lt_a : h0.size > a := P5.lt
  refine gs (mkF m 1 #[.val (.ref x), .val (.ref a), .val (.int (0 : Int32)), .val (.int (3 : Int32)), .val .null, .unset] [(.ref x)]) (fun _ _ A k => XS.aloadN A hx rfl (hb hby own_d_jdk_42_method_149_0) rfl rfl k) ?_
  refine ginitO hx (ow hw 12 rfl) (ow hw 13 rfl) (ow hw 14 rfl) 4 (W := 0) (Nat.le_of_eq rfl) (by rw [hml]; rfl) (hb hby own_d_jdk_42_method_149_1) rfl (by decide) (by decide) ?_
  refine gs (mkF m 5 #[.val (.ref x), .val (.ref a), .val (.int (0 : Int32)), .val (.int (3 : Int32)), .val .null, .unset] [(.int (3 : Int32))]) (fun _ _ A k => XS.iloadN A hx rfl (hb hby own_d_jdk_42_method_149_4) rfl  k) ?_
  refine gs (mkF m 27 #[.val (.ref x), .val (.ref a), .val (.int (0 : Int32)), .val (.int (3 : Int32)), .val .null, .unset] []) (fun _ _ A k => XS.ifYes A hx rfl (pc0 := 5) (pc' := 27) rfl (hb hby own_d_jdk_42_method_149_5) rfl ((if0 _ _).trans (feq (by decide)).2) (by decide) (by decide) k) ?_
  refine ggetS (host := "") hx (Or.inl (ow hw 15 rfl)) Via.refl Scs 30 (hb hby own_d_jdk_42_method_149_27) rfl ?_
  refine gs (mkF m 33 #[.val (.ref x), .val (.ref a), .val (.int (0 : Int32)), .val (.int (3 : Int32)), .val .null, .unset] []) (fun _ _ A k => XS.ifNo A hx rfl (hb hby own_d_jdk_42_method_149_30) rfl ((if0 _ _).trans (feq hzc).1) k) ?_
  refine gs (mkF m 34 #[.val (.ref x), .val (.ref a), .val (.int (0 : Int32)), .val (.int (3 : Int32)), .val .null, .unset] [(.ref a)]) (fun _ _ A k => XS.aloadN A hx rfl (hb hby own_d_jdk_42_method_149_33) rfl rfl k) ?_
  refine gs (mkF m 35 #[.val (.ref x), .val (.ref a), .val (.int (0 : Int32)), .val (.int (3 : Int32)), .val .null, .unset] [(.int (0 : Int32)), (.ref a)]) (fun _ _ A k => XS.iloadN A hx rfl (hb hby own_d_jdk_42_method_149_34) rfl  k) ?_
  refine gs (mkF m 36 #[.val (.ref x), .val (.ref a), .val (.int (0 : Int32)), .val (.int (3 : Int32)), .val .null, .unset] [(.int (3 : Int32)), (.int (0 : Int32)), (.ref a)]) (fun _ _ A k => XS.iloadN A hx rfl (hb hby own_d_jdk_42_method_149_35) rfl  k) ?_
  refine ginfo fun _ _ O2 => ?_
  refine gcallS (y := (⟨"java/lang/StringUTF16", "compress", "([CII)[B"⟩ : MethodName)) hx (ow hw 16 rfl) (ow hw 17 rfl) (ow hw 18 rfl) (ow hw 19 rfl) (by decide) (fun hZ H hEL => Pay.of_met (W := 0) (own_c3_3_3 l Z a0 cx [] (a) (kc) (c0) (c1) (c2) vm h0 O2 P5 (by first | assumption | decide | omega) (by first | assumption | decide | omega) (by first | assumption | decide | omega)) (ow hw 19 rfl) (ow hw 18 rfl) (by decide) (by decide) hZ H hEL) 39 (argsL := [(.ref a), (.int (0 : Int32)), (.int (3 : Int32))]) (rest := []) (lenOf own_pd125 rfl) rfl rfl (Nat.le_of_eq rfl) (by rw [hml]; rfl) (hb hby own_d_jdk_42_method_149_36) rfl (by decide) (by decide) ?_
  rintro _ vm2 h2 C2 ⟨r2, kb2, rfl, K2, q2_0, q2_1⟩
  have z2 := C2.2.1
  have lt_r2 : h2.size > r2 := q2_1.lt
  refine gat (mkF m 39 #[.val (.ref x), .val (.ref a), .val (.int (0 : Int32)), .val (.int (3 : Int32)), .val .null, .unset] [(.ref r2)]) rfl ?_
  refine gs (mkF m 41 #[.val (.ref x), .val (.ref a), .val (.int (0 : Int32)), .val (.int (3 : Int32)), .val .null, .val (.ref r2)] []) (fun _ _ A k => XS.astore A hx rfl (hb hby own_d_jdk_42_method_149_39) rfl rfl (l' := #[.val (.ref x), .val (.ref a), .val (.int (0 : Int32)), .val (.int (3 : Int32)), .val .null, .val (.ref r2)]) rfl k) ?_
  refine gs (mkF m 42 #[.val (.ref x), .val (.ref a), .val (.int (0 : Int32)), .val (.int (3 : Int32)), .val .null, .val (.ref r2)] [(.ref x)]) (fun _ _ A k => XS.aloadN A hx rfl (hb hby own_d_jdk_42_method_149_41) rfl rfl k) ?_
  refine gs (mkF m 44 #[.val (.ref x), .val (.ref a), .val (.int (0 : Int32)), .val (.int (3 : Int32)), .val .null, .val (.ref r2)] [(.ref r2), (.ref x)]) (fun _ _ A k => XS.aload A hx rfl (hb hby own_d_jdk_42_method_149_42) rfl rfl k) ?_
  refine gs (mkF m 45 #[.val (.ref x), .val (.ref a), .val (.int (0 : Int32)), .val (.int (3 : Int32)), .val .null, .val (.ref r2)] [(.int (3 : Int32)), (.ref r2), (.ref x)]) (fun _ _ A k => XS.iloadN A hx rfl (hb hby own_d_jdk_42_method_149_44) rfl  k) ?_
  refine ginfo fun _ _ O3 => ?_
  refine gcallS (y := (⟨"java/lang/StringUTF16", "coderFromArrayLen", "([BI)B"⟩ : MethodName)) hx (ow hw 24 rfl) (ow hw 25 rfl) (ow hw 18 rfl) (ow hw 26 rfl) (by decide) (fun hZ H hEL => Pay.of_met (W := 1) (own_cod_3_3 l Z a0 cx [] (r2) (kb2) ([(.int (c0.toInt8.toInt32)), (.int (c1.toInt8.toInt32)), (.int (c2.toInt8.toInt32))]) vm2 h2 O3 q2_1) (ow hw 26 rfl) (ow hw 18 rfl) (by decide) (by decide) hZ H hEL) 48 (argsL := [(.ref r2), (.int (3 : Int32))]) (rest := [(.ref x)]) (lenOf own_pd158 rfl) rfl rfl (Nat.le_of_eq rfl) (by rw [hml]; rfl) (hb hby own_d_jdk_42_method_149_45) rfl (by decide) (by decide) ?_
  rintro _ vm3 h3 C3 ⟨rfl, rfl⟩
  have z3 := C3.2.1
  refine gat (mkF m 48 #[.val (.ref x), .val (.ref a), .val (.int (0 : Int32)), .val (.int (3 : Int32)), .val .null, .val (.ref r2)] [(.int (0 : Int32)), (.ref x)]) rfl ?_
  have f4 := (P2.keep K2 nin0)
  have f5 := (P0.keep K2)
  have f6 := (C3.safe (show h2.size > x by omega) (C2.safe (show h0.size > x by omega) L4))
  refine gputF (host := "") hx (Or.inl (ow hw 27 rfl)) Via.refl f4 f5 (Or.inr ⟨(ow hw 28 rfl), rfl, hnm⟩) (ow hw 3 rfl) (ty := .byte) (by decide) rfl rfl P3 (fun _ => f6) 51 (hb hby own_d_jdk_42_method_149_48) rfl ?_
  intro h7 W7 C7
  have z7 := C7.2.1
  have F7 := f4.same W7
  refine gs (mkF m 52 #[.val (.ref x), .val (.ref a), .val (.int (0 : Int32)), .val (.int (3 : Int32)), .val .null, .val (.ref r2)] [(.ref x)]) (fun _ _ A k => XS.aloadN A hx rfl (hb hby own_d_jdk_42_method_149_51) rfl rfl k) ?_
  refine gs (mkF m 54 #[.val (.ref x), .val (.ref a), .val (.int (0 : Int32)), .val (.int (3 : Int32)), .val .null, .val (.ref r2)] [(.ref r2), (.ref x)]) (fun _ _ A k => XS.aload A hx rfl (hb hby own_d_jdk_42_method_149_52) rfl rfl k) ?_
  have f8 := ((P1.keep K2 nin0).other W7 (Or.inr (slot_ne (Or.inr (ow hw 30 rfl)) (Or.inr (ow hw 28 rfl)) (by decide) (t := (.array .byte)) (t' := .byte) (by decide) (by decide))))
  have f9 := (f5.wr W7)
  have f10 := (C7.safe (show h2.size > x by omega) f6)
  refine gputF (host := "") hx (Or.inl (ow hw 29 rfl)) Via.refl f8 f9 (Or.inr ⟨(ow hw 30 rfl), rfl, hnm⟩) (ow hw 3 rfl) (ty := (.array .byte)) (by decide) rfl rfl P3 (fun _ => f10) 57 (hb hby own_d_jdk_42_method_149_54) rfl ?_
  intro h11 W11 C11
  have z11 := C11.2.1
  have F11 := f8.same W11
  have f12 := (f9.wr W11)
  have f13 := ((q2_1.other W7 (Nat.ne_of_gt (by omega))).other W11 (Nat.ne_of_gt (by omega)))
  exact gretV hx hret (hb hby own_d_jdk_42_method_149_57) (by decide) (by decide) (fun vq Cq => ⟨r2, rfl, ((((Keep.refl h0 [x]).trans K2 all0).wr W7 (Or.inl (List.mem_of_getElem? (i := 0) rfl))).wr W11 (Or.inl (List.mem_of_getElem? (i := 0) rfl))), ⟨f12, F11, _, _, _, f13, by decide⟩⟩)
set_option maxRecDepth 65536 in
set_option maxHeartbeats 40000000 in
theorem own_i1_3 (l : Launch) (Z : State) (a0 : Array Value) (cx : Ctx Z a0) (ws : List Jvm.Cond) (x : Addr) (a : Addr) (v0 : Value) (c0v : Value) (kc : ClassId) (c0 : Int32) (c1 : Int32) (c2 : Int32) (vm0 : Vm) (h0 : Heap) (X00 : Ext Z.heap h0) (P0 : Exa Z h0 x "java/lang/String") (P1 : Fld Z h0 x "java/lang/String" "value" "[B" v0) (P2 : Fld Z h0 x "java/lang/String" "coder" "B" c0v) (P3 : Z.heap.size ≤ x) (P4 : Safe Z ([] : List (String × Nat)) vm0 h0 x) (P5 : Arv Z h0 a kc .char (3 : Int32) [(.int c0), (.int c1), (.int c2)] (.int (0 : Int32))) (P6 : ¬ c0 < 0 ∧ ¬ (65535 : Int32) < c0) (P7 : ¬ c1 < 0 ∧ ¬ (65535 : Int32) < c1) (P8 : ¬ c2 < 0 ∧ ¬ (65535 : Int32) < c2) :
    Met l (⟨"java/lang/String", "<init>", "([C)V"⟩ : MethodName) jdk_42_method_3_code 2 none ws ({ frames := 5, cells := 2, slots := 9, locals := 74 } : Room) Z ([] : List (String × Nat)) vm0 h0 #[(.ref x), (.ref a)] (fun v vm h => ∃ (t : Addr), v = none ∧ Keep h0 h [x] ∧ Str0 Z h x t) := by
  obtain ⟨hw, hEL, ⟨zc, Scs, hzc⟩, ⟨fm, Sfm, hfm⟩, Sad, Shi, Slo⟩ := id cx
  have hSA := own_SA hw
  refine Met.of_walk (a0 := a0) #[.val (.ref x), .val (.ref a)] (plainFor_of_name own_pn164) X00 hEL (fun m => by first | (simp [entryFrame, mkF, argsToLocals, Value.category]; done) | rfl) ?_
  intro p e s m below meth c vm hx hby hml hret hnm hC0
  have lt_x : h0.size > x := P0.lt
  have L4 := hC0.safe lt_x P4
  have lt_a : h0.size > a := P5.lt
  refine gs (mkF m 1 #[.val (.ref x), .val (.ref a)] [(.ref x)]) (fun _ _ A k => XS.aloadN A hx rfl (hb hby own_d_jdk_42_method_3_0) rfl rfl k) ?_
  refine gs (mkF m 2 #[.val (.ref x), .val (.ref a)] [(.ref a), (.ref x)]) (fun _ _ A k => XS.aloadN A hx rfl (hb hby own_d_jdk_42_method_3_1) rfl rfl k) ?_
  refine gs (mkF m 3 #[.val (.ref x), .val (.ref a)] [(.int (0 : Int32)), (.ref a), (.ref x)]) (fun _ _ A k => XS.iconst A hx rfl (hb hby own_d_jdk_42_method_3_2) k) ?_
  refine gs (mkF m 4 #[.val (.ref x), .val (.ref a)] [(.ref a), (.int (0 : Int32)), (.ref a), (.ref x)]) (fun _ _ A k => XS.aloadN A hx rfl (hb hby own_d_jdk_42_method_3_3) rfl rfl k) ?_
  refine glen hx P5 5 (hb hby own_d_jdk_42_method_3_4) rfl ?_
  refine gs (mkF m 6 #[.val (.ref x), .val (.ref a)] [.null, (.int (3 : Int32)), (.int (0 : Int32)), (.ref a), (.ref x)]) (fun _ _ A k => XS.aconstNull A hx rfl (hb hby own_d_jdk_42_method_3_5) k) ?_
  by_cases g0 : (255 : Int32) < c0
  · refine ginfo fun _ _ O1 => ?_
    refine gcallI (y := (⟨"java/lang/String", "<init>", "([CIILjava/lang/Void;)V"⟩ : MethodName)) hx rfl (ow hw 8 rfl) (ow hw 9 rfl) (ow hw 11 rfl) (by decide) (fun hZ H hEL => Pay.of_met (W := 0) (own_i4_3_0 l Z a0 cx [] (x) (a) (v0) (c0v) (kc) (c0) (c1) (c2) vm h0 O1 P0 P1 P2 P3 L4 P5 (by first | assumption | decide | omega) (by first | assumption | decide | omega)) (ow hw 11 rfl) (ow hw 4 rfl) (by decide) (by decide) hZ H hEL) (a := x) 9 (argsL := [(.ref a), (.int (0 : Int32)), (.int (3 : Int32)), .null]) (rest := []) (lenOf own_pd174 rfl) rfl rfl (Nat.le_of_eq rfl) (by rw [hml]; rfl) (hb hby own_d_jdk_42_method_3_6) rfl (by decide) (by decide) ?_
    rintro _ vm1 h1 C1 ⟨t1, rfl, K1, q1_0⟩
    have z1 := C1.2.1
    refine gat (mkF m 9 #[.val (.ref x), .val (.ref a)] []) rfl ?_
    exact gretV hx hret (hb hby own_d_jdk_42_method_3_9) (by decide) (by decide) (fun vq Cq => ⟨t1, rfl, ((Keep.refl h0 [x]).trans K1 (allS (Or.inl (List.mem_of_getElem? (i := 0) rfl)) all0)), q1_0⟩)
  · by_cases g1 : (255 : Int32) < c1
    · refine ginfo fun _ _ O3 => ?_
      refine gcallI (y := (⟨"java/lang/String", "<init>", "([CIILjava/lang/Void;)V"⟩ : MethodName)) hx rfl (ow hw 8 rfl) (ow hw 9 rfl) (ow hw 11 rfl) (by decide) (fun hZ H hEL => Pay.of_met (W := 0) (own_i4_3_1 l Z a0 cx [] (x) (a) (v0) (c0v) (kc) (c0) (c1) (c2) vm h0 O3 P0 P1 P2 P3 L4 P5 (by first | assumption | decide | omega) (by first | assumption | decide | omega) (by first | assumption | decide | omega)) (ow hw 11 rfl) (ow hw 4 rfl) (by decide) (by decide) hZ H hEL) (a := x) 9 (argsL := [(.ref a), (.int (0 : Int32)), (.int (3 : Int32)), .null]) (rest := []) (lenOf own_pd174 rfl) rfl rfl (Nat.le_of_eq rfl) (by rw [hml]; rfl) (hb hby own_d_jdk_42_method_3_6) rfl (by decide) (by decide) ?_
      rintro _ vm3 h3 C3 ⟨t3, rfl, K3, q3_0⟩
      have z3 := C3.2.1
      refine gat (mkF m 9 #[.val (.ref x), .val (.ref a)] []) rfl ?_
      exact gretV hx hret (hb hby own_d_jdk_42_method_3_9) (by decide) (by decide) (fun vq Cq => ⟨t3, rfl, ((Keep.refl h0 [x]).trans K3 (allS (Or.inl (List.mem_of_getElem? (i := 0) rfl)) all0)), q3_0⟩)
    · by_cases g2 : (255 : Int32) < c2
      · refine ginfo fun _ _ O5 => ?_
        refine gcallI (y := (⟨"java/lang/String", "<init>", "([CIILjava/lang/Void;)V"⟩ : MethodName)) hx rfl (ow hw 8 rfl) (ow hw 9 rfl) (ow hw 11 rfl) (by decide) (fun hZ H hEL => Pay.of_met (W := 0) (own_i4_3_2 l Z a0 cx [] (x) (a) (v0) (c0v) (kc) (c0) (c1) (c2) vm h0 O5 P0 P1 P2 P3 L4 P5 (by first | assumption | decide | omega) (by first | assumption | decide | omega) (by first | assumption | decide | omega) (by first | assumption | decide | omega)) (ow hw 11 rfl) (ow hw 4 rfl) (by decide) (by decide) hZ H hEL) (a := x) 9 (argsL := [(.ref a), (.int (0 : Int32)), (.int (3 : Int32)), .null]) (rest := []) (lenOf own_pd174 rfl) rfl rfl (Nat.le_of_eq rfl) (by rw [hml]; rfl) (hb hby own_d_jdk_42_method_3_6) rfl (by decide) (by decide) ?_
        rintro _ vm5 h5 C5 ⟨t5, rfl, K5, q5_0⟩
        have z5 := C5.2.1
        refine gat (mkF m 9 #[.val (.ref x), .val (.ref a)] []) rfl ?_
        exact gretV hx hret (hb hby own_d_jdk_42_method_3_9) (by decide) (by decide) (fun vq Cq => ⟨t5, rfl, ((Keep.refl h0 [x]).trans K5 (allS (Or.inl (List.mem_of_getElem? (i := 0) rfl)) all0)), q5_0⟩)
      · refine ginfo fun _ _ O7 => ?_
        refine gcallI (y := (⟨"java/lang/String", "<init>", "([CIILjava/lang/Void;)V"⟩ : MethodName)) hx rfl (ow hw 8 rfl) (ow hw 9 rfl) (ow hw 11 rfl) (by decide) (fun hZ H hEL => Pay.of_met (W := 0) (own_i4_3_3 l Z a0 cx [] (x) (a) (v0) (c0v) (kc) (c0) (c1) (c2) vm h0 O7 P0 P1 P2 P3 L4 P5 (by first | assumption | decide | omega) (by first | assumption | decide | omega) (by first | assumption | decide | omega)) (ow hw 11 rfl) (ow hw 4 rfl) (by decide) (by decide) hZ H hEL) (a := x) 9 (argsL := [(.ref a), (.int (0 : Int32)), (.int (3 : Int32)), .null]) (rest := []) (lenOf own_pd174 rfl) rfl rfl (Nat.le_of_eq rfl) (by rw [hml]; rfl) (hb hby own_d_jdk_42_method_3_6) rfl (by decide) (by decide) ?_
        rintro _ vm7 h7 C7 ⟨t7, rfl, K7, q7_0⟩
        have z7 := C7.2.1
        refine gat (mkF m 9 #[.val (.ref x), .val (.ref a)] []) rfl ?_
        exact gretV hx hret (hb hby own_d_jdk_42_method_3_9) (by decide) (by decide) (fun vq Cq => ⟨t7, rfl, ((Keep.refl h0 [x]).trans K7 (allS (Or.inl (List.mem_of_getElem? (i := 0) rfl)) all0)), q7_0⟩)
theorem own_d_jdk_42_method_55_0 : decode jdk_42_method_55_code 0 = .ok (.aload_n 0, 1) := by decide +kernel
theorem own_d_jdk_42_method_55_1 : decode jdk_42_method_55_code 1 = .ok (.getfield 9, 3) := by decide +kernel
theorem own_d_jdk_42_method_55_4 : decode jdk_42_method_55_code 4 = .ok (.arraylength, 1) := by decide +kernel
theorem own_d_jdk_42_method_55_5 : decode jdk_42_method_55_code 5 = .ok (.ifCond .ne 7, 3) := by decide +kernel
theorem own_d_jdk_42_method_55_12 : decode jdk_42_method_55_code 12 = .ok (.iconst 0, 1) := by decide +kernel
theorem own_d_jdk_42_method_55_13 : decode jdk_42_method_55_code 13 = .ok (.ireturn, 1) := by decide +kernel
set_option maxRecDepth 65536 in
set_option maxHeartbeats 40000000 in
theorem own_isEmpty (l : Launch) (Z : State) (a0 : Array Value) (cx : Ctx Z a0) (ws : List Jvm.Cond) (x : Addr) (t : Addr) (vm0 : Vm) (h0 : Heap) (X00 : Ext Z.heap h0) (P0 : Str0 Z h0 x t) :
    Met l (⟨"java/lang/String", "isEmpty", "()Z"⟩ : MethodName) jdk_42_method_55_code 1 (some .boolean) ws ({ frames := 0, cells := 0, slots := 0, locals := 0 } : Room) Z ([] : List (String × Nat)) vm0 h0 #[(.ref x)] (fun v vm h => v = some (.int (0 : Int32)) ∧ h0 = h) := by
  obtain ⟨hw, hEL, ⟨zc, Scs, hzc⟩, ⟨fm, Sfm, hfm⟩, Sad, Shi, Slo⟩ := id cx
  have hSA := own_SA hw
  refine Met.of_walk (a0 := a0) #[.val (.ref x)] (plainFor_of_name own_pn164) X00 hEL (fun m => by first | (simp [entryFrame, mkF, argsToLocals, Value.category]; done) | rfl) ?_
  intro p e s m below meth c vm hx hby hml hret hnm hC0
  have lt_x : h0.size > x := P0.1.lt
  obtain ⟨Ex, Fx, kb, N, vs, Vx, hN⟩ := P0
  have lt_t : h0.size > t := Vx.lt
  refine gs (mkF m 1 #[.val (.ref x)] [(.ref x)]) (fun _ _ A k => XS.aloadN A hx rfl (hb hby own_d_jdk_42_method_55_0) rfl rfl k) ?_
  refine ggetF (host := "") hx (Or.inl (ow hw 29 rfl)) Via.refl Fx 4 (hb hby own_d_jdk_42_method_55_1) rfl ?_
  refine glen hx Vx 5 (hb hby own_d_jdk_42_method_55_4) rfl ?_
  refine gs (mkF m 12 #[.val (.ref x)] []) (fun _ _ A k => XS.ifYes A hx rfl (pc0 := 5) (pc' := 12) rfl (hb hby own_d_jdk_42_method_55_5) rfl ((if0 _ _).trans (feq hN).2) (by decide) (by decide) k) ?_
  refine gs (mkF m 13 #[.val (.ref x)] [(.int (0 : Int32))]) (fun _ _ A k => XS.iconst A hx rfl (hb hby own_d_jdk_42_method_55_12) k) ?_
  exact gretN (t := .boolean) hx hret (by simp) (hb hby own_d_jdk_42_method_55_13) (by decide) (by decide) (fun vq Cq => ⟨rfl, rfl⟩)
theorem own_d_prog_2_method_2_0 : decode prog_2_method_2_code 0 = .ok (.aload_n 1, 1) := by decide +kernel
theorem own_d_prog_2_method_2_1 : decode prog_2_method_2_code 1 = .ok (.ifnull 10, 3) := by decide +kernel
theorem own_d_prog_2_method_2_4 : decode prog_2_method_2_code 4 = .ok (.aload_n 1, 1) := by decide +kernel
theorem own_d_prog_2_method_2_5 : decode prog_2_method_2_code 5 = .ok (.invokevirtual 7, 3) := by decide +kernel
theorem own_pd186 : parseMethodDescriptor "()Z" = some ⟨[], some .boolean⟩ := by decide +kernel
theorem own_d_prog_2_method_2_8 : decode prog_2_method_2_code 8 = .ok (.ifCond .eq 17, 3) := by decide +kernel
theorem own_d_prog_2_method_2_25 : decode prog_2_method_2_code 25 = .ok (.aload_n 1, 1) := by decide +kernel
theorem own_d_prog_2_method_2_26 : decode prog_2_method_2_code 26 = .ok (.areturn, 1) := by decide +kernel
theorem own_pn190 : plainName "com/example/haversack/haversack/Checks" = true := by first | (simp [plainName, overriddenIn]; done) | decide +kernel
set_option maxRecDepth 65536 in
set_option maxHeartbeats 40000000 in
theorem own_notEmpty (l : Launch) (Z : State) (a0 : Array Value) (cx : Ctx Z a0) (ws : List Jvm.Cond) (b : Addr) (x : Addr) (t : Addr) (vm0 : Vm) (h0 : Heap) (X00 : Ext Z.heap h0) (P0 : Str0 Z h0 x t) :
    Met l (⟨"com/example/haversack/haversack/Checks", "notEmpty", "(Ljava/lang/String;Ljava/lang/String;)Ljava/lang/String;"⟩ : MethodName) prog_2_method_2_code 2 (some (.object "java/lang/String")) ws ({ frames := 1, cells := 0, slots := 0, locals := 12 } : Room) Z ([] : List (String × Nat)) vm0 h0 #[(.ref b), (.ref x)] (fun v vm h => v = some (.ref x) ∧ h0 = h) := by
  obtain ⟨hw, hEL, ⟨zc, Scs, hzc⟩, ⟨fm, Sfm, hfm⟩, Sad, Shi, Slo⟩ := id cx
  have hSA := own_SA hw
  refine Met.of_walk (a0 := a0) #[.val (.ref b), .val (.ref x)] (plainFor_of_name own_pn190) X00 hEL (fun m => by first | (simp [entryFrame, mkF, argsToLocals, Value.category]; done) | rfl) ?_
  intro p e s m below meth c vm hx hby hml hret hnm hC0
  have lt_x : h0.size > x := P0.1.lt
  have Ex := P0.1
  refine gs (mkF m 1 #[.val (.ref b), .val (.ref x)] [(.ref x)]) (fun _ _ A k => XS.aloadN A hx rfl (hb hby own_d_prog_2_method_2_0) rfl rfl k) ?_
  refine gs (mkF m 4 #[.val (.ref b), .val (.ref x)] []) (fun _ _ A k => XS.ifnullNo A hx rfl (hb hby own_d_prog_2_method_2_1) rfl k) ?_
  refine gs (mkF m 5 #[.val (.ref b), .val (.ref x)] [(.ref x)]) (fun _ _ A k => XS.aloadN A hx rfl (hb hby own_d_prog_2_method_2_4) rfl rfl k) ?_
  refine ginfo fun _ _ O1 => ?_
  refine gcallV (y := (⟨"java/lang/String", "isEmpty", "()Z"⟩ : MethodName)) (z := (⟨"java/lang/String", "isEmpty", "()Z"⟩ : MethodName)) hx (ow hw 38 rfl) (ow hw 39 rfl) (nfSel (ow hw 41 rfl)) (ow hw 41 rfl) (ow hw 40 rfl) (by decide) (fun hZ H hEL => Pay.of_met (W := 0) (own_isEmpty l Z a0 cx [] (x) (t) vm h0 O1 P0) (ow hw 42 rfl) (ow hw 4 rfl) (by decide) (by decide) hZ H hEL) 8 (argsL := []) (rest := []) Ex (lenOf own_pd186 rfl) rfl rfl (Nat.le_of_eq rfl) (by rw [hml]; rfl) (hb hby own_d_prog_2_method_2_5) rfl (by decide) (by decide) ?_
  rintro _ vm1 h1 C1 ⟨rfl, rfl⟩
  have z1 := C1.2.1
  refine gat (mkF m 8 #[.val (.ref b), .val (.ref x)] [(.int (0 : Int32))]) rfl ?_
  refine gs (mkF m 25 #[.val (.ref b), .val (.ref x)] []) (fun _ _ A k => XS.ifYes A hx rfl (pc0 := 8) (pc' := 25) rfl (hb hby own_d_prog_2_method_2_8) rfl ((if0 _ _).trans (teq (by decide)).1) (by decide) (by decide) k) ?_
  refine gs (mkF m 26 #[.val (.ref b), .val (.ref x)] [(.ref x)]) (fun _ _ A k => XS.aloadN A hx rfl (hb hby own_d_prog_2_method_2_25) rfl rfl k) ?_
  exact gretA hx hret rfl rfl (hb hby own_d_prog_2_method_2_26) (by decide) (by decide) (fun vq Cq => ⟨rfl, rfl⟩)
theorem own_pd191 : parseMethodDescriptor "([C)V" = some ⟨[(.array .char)], none⟩ := by decide +kernel
theorem own_pd192 : parseMethodDescriptor "(Ljava/lang/String;Ljava/lang/String;)Ljava/lang/String;" = some ⟨[(.object "java/lang/String"), (.object "java/lang/String")], some (.object "java/lang/String")⟩ := by decide +kernel
theorem own_pn193 : plainName "com/example/haversack/haversack/ChecksNotEmptyPinLaw" = true := by first | (simp [plainName, overriddenIn]; done) | decide +kernel
set_option maxRecDepth 65536 in
set_option maxHeartbeats 40000000 in
theorem own_law (l : Launch) (Z : State) (a0 : Array Value) (cx : Ctx Z a0) (ws : List Jvm.Cond) (x0 : Int32) (x1 : Int32) (x2 : Int32) (x3 : Int32) (x4 : Int32) (vm0 : Vm) (h0 : Heap) (X00 : Ext Z.heap h0)  :
    Met l x code maxLocals ret ws room_1 Z ([] : List (String × Nat)) vm0 h0 #[(.int x0), (.int x1), (.int x2), (.int x3), (.int x4)] (fun v vm h => v = some (.int (1 : Int32)) ∧ Keep h0 h []) := by
  obtain ⟨hw, hEL, ⟨zc, Scs, hzc⟩, ⟨fm, Sfm, hfm⟩, Sad, Shi, Slo⟩ := id cx
  have hSA := own_SA hw
  refine Met.of_walk (a0 := a0) #[.val (.int x0), .val (.int x1), .val (.int x2), .val (.int x3), .val (.int x4), .unset, .unset, .unset, .unset, .unset, .unset, .unset, .unset] (plainFor_of_name own_pn193) X00 hEL (fun m => by first | (simp [entryFrame, mkF, argsToLocals, Value.category, maxLocals]; done) | rfl) ?_
  intro p e s m below meth c vm hx hby hml hret hnm hC0
  refine gs (mkF m 1 #[.val (.int x0), .val (.int x1), .val (.int x2), .val (.int x3), .val (.int x4), .unset, .unset, .unset, .unset, .unset, .unset, .unset, .unset] [(.int (1 : Int32))]) (fun _ _ A k => XS.iconst A hx rfl (hb hby at_0) k) ?_
  refine gnewP hx (ow hw 0 rfl) (n := (1 : Int32)) (by decide) (cap := 1) (by decide) (by decide) 3 (hb hby at_1) rfl (by decide) (by decide) ?_
  intro b1 h1 k1 g1 E1 C1 V1 n1 L1
  have z1 := C1.2.1
  have V1 : Arv Z h1 b1 k1 .char (1 : Int32) [(.int (0 : Int32))] (.int (0 : Int32)) := V1.pad (pad_rep [] (.int (0 : Int32)) 1)
  have lt_b1 : h1.size > b1 := V1.lt
  refine gs (mkF m 4 #[.val (.int x0), .val (.int x1), .val (.int x2), .val (.int x3), .val (.int x4), .unset, .unset, .unset, .unset, .unset, .unset, .unset, .unset] [(.ref b1), (.ref b1)]) (fun _ _ A k => XS.dup A hx rfl (hb hby at_3) rfl rfl k) ?_
  refine gs (mkF m 5 #[.val (.int x0), .val (.int x1), .val (.int x2), .val (.int x3), .val (.int x4), .unset, .unset, .unset, .unset, .unset, .unset, .unset, .unset] [(.int (0 : Int32)), (.ref b1), (.ref b1)]) (fun _ _ A k => XS.iconst A hx rfl (hb hby at_4) k) ?_
  refine gs (mkF m 6 #[.val (.int x0), .val (.int x1), .val (.int x2), .val (.int x3), .val (.int x4), .unset, .unset, .unset, .unset, .unset, .unset, .unset, .unset] [(.int x0), (.int (0 : Int32)), (.ref b1), (.ref b1)]) (fun _ _ A k => XS.iloadN A hx rfl (hb hby at_5) rfl  k) ?_
  refine gi2c hx rfl 7 (hb hby at_6) rfl ?_
  refine gstC hx V1 ⟨by decide, by decide⟩ (i := 0) rfl (Nat.le_of_ble_eq_true rfl) (y := (x0.toUInt32.toUInt16.toUInt32.toInt32)) (narC2 _) n1 8 (hb hby at_7) rfl ?_
  intro h2 W2 C2 V2
  have z2 := C2.2.1
  replace V2 : Arv Z h2 b1 k1 .char (1 : Int32) [(.int (x0.toUInt32.toUInt16.toUInt32.toInt32))] (.int (0 : Int32)) := V2
  refine gs (mkF m 10 #[.val (.int x0), .val (.int x1), .val (.int x2), .val (.int x3), .val (.int x4), .val (.ref b1), .unset, .unset, .unset, .unset, .unset, .unset, .unset] []) (fun _ _ A k => XS.astore A hx rfl (hb hby at_8) rfl rfl (l' := #[.val (.int x0), .val (.int x1), .val (.int x2), .val (.int x3), .val (.int x4), .val (.ref b1), .unset, .unset, .unset, .unset, .unset, .unset, .unset]) rfl k) ?_
  refine gs (mkF m 11 #[.val (.int x0), .val (.int x1), .val (.int x2), .val (.int x3), .val (.int x4), .val (.ref b1), .unset, .unset, .unset, .unset, .unset, .unset, .unset] [(.int (2 : Int32))]) (fun _ _ A k => XS.iconst A hx rfl (hb hby at_10) k) ?_
  refine gnewP hx (ow hw 0 rfl) (n := (2 : Int32)) (by decide) (cap := 2) (by decide) (by decide) 13 (hb hby at_11) rfl (by decide) (by decide) ?_
  intro b3 h3 k3 g3 E3 C3 V3 n3 L3
  have z3 := C3.2.1
  have V3 : Arv Z h3 b3 k3 .char (2 : Int32) [(.int (0 : Int32)), (.int (0 : Int32))] (.int (0 : Int32)) := V3.pad (pad_rep [] (.int (0 : Int32)) 2)
  have lt_b3 : h3.size > b3 := V3.lt
  refine gs (mkF m 14 #[.val (.int x0), .val (.int x1), .val (.int x2), .val (.int x3), .val (.int x4), .val (.ref b1), .unset, .unset, .unset, .unset, .unset, .unset, .unset] [(.ref b3), (.ref b3)]) (fun _ _ A k => XS.dup A hx rfl (hb hby at_13) rfl rfl k) ?_
  refine gs (mkF m 15 #[.val (.int x0), .val (.int x1), .val (.int x2), .val (.int x3), .val (.int x4), .val (.ref b1), .unset, .unset, .unset, .unset, .unset, .unset, .unset] [(.int (0 : Int32)), (.ref b3), (.ref b3)]) (fun _ _ A k => XS.iconst A hx rfl (hb hby at_14) k) ?_
  refine gs (mkF m 16 #[.val (.int x0), .val (.int x1), .val (.int x2), .val (.int x3), .val (.int x4), .val (.ref b1), .unset, .unset, .unset, .unset, .unset, .unset, .unset] [(.int x0), (.int (0 : Int32)), (.ref b3), (.ref b3)]) (fun _ _ A k => XS.iloadN A hx rfl (hb hby at_15) rfl  k) ?_
  refine gi2c hx rfl 17 (hb hby at_16) rfl ?_
  refine gstC hx V3 ⟨by decide, by decide⟩ (i := 0) rfl (Nat.le_of_ble_eq_true rfl) (y := (x0.toUInt32.toUInt16.toUInt32.toInt32)) (narC2 _) n3 18 (hb hby at_17) rfl ?_
  intro h4 W4 C4 V4
  have z4 := C4.2.1
  replace V4 : Arv Z h4 b3 k3 .char (2 : Int32) [(.int (x0.toUInt32.toUInt16.toUInt32.toInt32)), (.int (0 : Int32))] (.int (0 : Int32)) := V4
  refine gs (mkF m 19 #[.val (.int x0), .val (.int x1), .val (.int x2), .val (.int x3), .val (.int x4), .val (.ref b1), .unset, .unset, .unset, .unset, .unset, .unset, .unset] [(.ref b3), (.ref b3)]) (fun _ _ A k => XS.dup A hx rfl (hb hby at_18) rfl rfl k) ?_
  refine gs (mkF m 20 #[.val (.int x0), .val (.int x1), .val (.int x2), .val (.int x3), .val (.int x4), .val (.ref b1), .unset, .unset, .unset, .unset, .unset, .unset, .unset] [(.int (1 : Int32)), (.ref b3), (.ref b3)]) (fun _ _ A k => XS.iconst A hx rfl (hb hby at_19) k) ?_
  refine gs (mkF m 21 #[.val (.int x0), .val (.int x1), .val (.int x2), .val (.int x3), .val (.int x4), .val (.ref b1), .unset, .unset, .unset, .unset, .unset, .unset, .unset] [(.int x1), (.int (1 : Int32)), (.ref b3), (.ref b3)]) (fun _ _ A k => XS.iloadN A hx rfl (hb hby at_20) rfl  k) ?_
  refine gi2c hx rfl 22 (hb hby at_21) rfl ?_
  refine gstC hx V4 ⟨by decide, by decide⟩ (i := 1) rfl (Nat.le_of_ble_eq_true rfl) (y := (x1.toUInt32.toUInt16.toUInt32.toInt32)) (narC2 _) n3 23 (hb hby at_22) rfl ?_
  intro h5 W5 C5 V5
  have z5 := C5.2.1
  replace V5 : Arv Z h5 b3 k3 .char (2 : Int32) [(.int (x0.toUInt32.toUInt16.toUInt32.toInt32)), (.int (x1.toUInt32.toUInt16.toUInt32.toInt32))] (.int (0 : Int32)) := V5
  refine gs (mkF m 25 #[.val (.int x0), .val (.int x1), .val (.int x2), .val (.int x3), .val (.int x4), .val (.ref b1), .val (.ref b3), .unset, .unset, .unset, .unset, .unset, .unset] []) (fun _ _ A k => XS.astore A hx rfl (hb hby at_23) rfl rfl (l' := #[.val (.int x0), .val (.int x1), .val (.int x2), .val (.int x3), .val (.int x4), .val (.ref b1), .val (.ref b3), .unset, .unset, .unset, .unset, .unset, .unset]) rfl k) ?_
  refine gs (mkF m 26 #[.val (.int x0), .val (.int x1), .val (.int x2), .val (.int x3), .val (.int x4), .val (.ref b1), .val (.ref b3), .unset, .unset, .unset, .unset, .unset, .unset] [(.int (3 : Int32))]) (fun _ _ A k => XS.iconst A hx rfl (hb hby at_25) k) ?_
  refine gnewP hx (ow hw 0 rfl) (n := (3 : Int32)) (by decide) (cap := 3) (by decide) (by decide) 28 (hb hby at_26) rfl (by decide) (by decide) ?_
  intro b6 h6 k6 g6 E6 C6 V6 n6 L6
  have z6 := C6.2.1
  have V6 : Arv Z h6 b6 k6 .char (3 : Int32) [(.int (0 : Int32)), (.int (0 : Int32)), (.int (0 : Int32))] (.int (0 : Int32)) := V6.pad (pad_rep [] (.int (0 : Int32)) 3)
  have lt_b6 : h6.size > b6 := V6.lt
  refine gs (mkF m 29 #[.val (.int x0), .val (.int x1), .val (.int x2), .val (.int x3), .val (.int x4), .val (.ref b1), .val (.ref b3), .unset, .unset, .unset, .unset, .unset, .unset] [(.ref b6), (.ref b6)]) (fun _ _ A k => XS.dup A hx rfl (hb hby at_28) rfl rfl k) ?_
  refine gs (mkF m 30 #[.val (.int x0), .val (.int x1), .val (.int x2), .val (.int x3), .val (.int x4), .val (.ref b1), .val (.ref b3), .unset, .unset, .unset, .unset, .unset, .unset] [(.int (0 : Int32)), (.ref b6), (.ref b6)]) (fun _ _ A k => XS.iconst A hx rfl (hb hby at_29) k) ?_
  refine gs (mkF m 31 #[.val (.int x0), .val (.int x1), .val (.int x2), .val (.int x3), .val (.int x4), .val (.ref b1), .val (.ref b3), .unset, .unset, .unset, .unset, .unset, .unset] [(.int x0), (.int (0 : Int32)), (.ref b6), (.ref b6)]) (fun _ _ A k => XS.iloadN A hx rfl (hb hby at_30) rfl  k) ?_
  refine gi2c hx rfl 32 (hb hby at_31) rfl ?_
  refine gstC hx V6 ⟨by decide, by decide⟩ (i := 0) rfl (Nat.le_of_ble_eq_true rfl) (y := (x0.toUInt32.toUInt16.toUInt32.toInt32)) (narC2 _) n6 33 (hb hby at_32) rfl ?_
  intro h7 W7 C7 V7
  have z7 := C7.2.1
  replace V7 : Arv Z h7 b6 k6 .char (3 : Int32) [(.int (x0.toUInt32.toUInt16.toUInt32.toInt32)), (.int (0 : Int32)), (.int (0 : Int32))] (.int (0 : Int32)) := V7
  refine gs (mkF m 34 #[.val (.int x0), .val (.int x1), .val (.int x2), .val (.int x3), .val (.int x4), .val (.ref b1), .val (.ref b3), .unset, .unset, .unset, .unset, .unset, .unset] [(.ref b6), (.ref b6)]) (fun _ _ A k => XS.dup A hx rfl (hb hby at_33) rfl rfl k) ?_
  refine gs (mkF m 35 #[.val (.int x0), .val (.int x1), .val (.int x2), .val (.int x3), .val (.int x4), .val (.ref b1), .val (.ref b3), .unset, .unset, .unset, .unset, .unset, .unset] [(.int (1 : Int32)), (.ref b6), (.ref b6)]) (fun _ _ A k => XS.iconst A hx rfl (hb hby at_34) k) ?_
  refine gs (mkF m 36 #[.val (.int x0), .val (.int x1), .val (.int x2), .val (.int x3), .val (.int x4), .val (.ref b1), .val (.ref b3), .unset, .unset, .unset, .unset, .unset, .unset] [(.int x1), (.int (1 : Int32)), (.ref b6), (.ref b6)]) (fun _ _ A k => XS.iloadN A hx rfl (hb hby at_35) rfl  k) ?_
  refine gi2c hx rfl 37 (hb hby at_36) rfl ?_
  refine gstC hx V7 ⟨by decide, by decide⟩ (i := 1) rfl (Nat.le_of_ble_eq_true rfl) (y := (x1.toUInt32.toUInt16.toUInt32.toInt32)) (narC2 _) n6 38 (hb hby at_37) rfl ?_
  intro h8 W8 C8 V8
  have z8 := C8.2.1
  replace V8 : Arv Z h8 b6 k6 .char (3 : Int32) [(.int (x0.toUInt32.toUInt16.toUInt32.toInt32)), (.int (x1.toUInt32.toUInt16.toUInt32.toInt32)), (.int (0 : Int32))] (.int (0 : Int32)) := V8
  refine gs (mkF m 39 #[.val (.int x0), .val (.int x1), .val (.int x2), .val (.int x3), .val (.int x4), .val (.ref b1), .val (.ref b3), .unset, .unset, .unset, .unset, .unset, .unset] [(.ref b6), (.ref b6)]) (fun _ _ A k => XS.dup A hx rfl (hb hby at_38) rfl rfl k) ?_
  refine gs (mkF m 40 #[.val (.int x0), .val (.int x1), .val (.int x2), .val (.int x3), .val (.int x4), .val (.ref b1), .val (.ref b3), .unset, .unset, .unset, .unset, .unset, .unset] [(.int (2 : Int32)), (.ref b6), (.ref b6)]) (fun _ _ A k => XS.iconst A hx rfl (hb hby at_39) k) ?_
  refine gs (mkF m 41 #[.val (.int x0), .val (.int x1), .val (.int x2), .val (.int x3), .val (.int x4), .val (.ref b1), .val (.ref b3), .unset, .unset, .unset, .unset, .unset, .unset] [(.int x2), (.int (2 : Int32)), (.ref b6), (.ref b6)]) (fun _ _ A k => XS.iloadN A hx rfl (hb hby at_40) rfl  k) ?_
  refine gi2c hx rfl 42 (hb hby at_41) rfl ?_
  refine gstC hx V8 ⟨by decide, by decide⟩ (i := 2) rfl (Nat.le_of_ble_eq_true rfl) (y := (x2.toUInt32.toUInt16.toUInt32.toInt32)) (narC2 _) n6 43 (hb hby at_42) rfl ?_
  intro h9 W9 C9 V9
  have z9 := C9.2.1
  replace V9 : Arv Z h9 b6 k6 .char (3 : Int32) [(.int (x0.toUInt32.toUInt16.toUInt32.toInt32)), (.int (x1.toUInt32.toUInt16.toUInt32.toInt32)), (.int (x2.toUInt32.toUInt16.toUInt32.toInt32))] (.int (0 : Int32)) := V9
  refine gs (mkF m 45 #[.val (.int x0), .val (.int x1), .val (.int x2), .val (.int x3), .val (.int x4), .val (.ref b1), .val (.ref b3), .val (.ref b6), .unset, .unset, .unset, .unset, .unset] []) (fun _ _ A k => XS.astore A hx rfl (hb hby at_43) rfl rfl (l' := #[.val (.int x0), .val (.int x1), .val (.int x2), .val (.int x3), .val (.int x4), .val (.ref b1), .val (.ref b3), .val (.ref b6), .unset, .unset, .unset, .unset, .unset]) rfl k) ?_
  refine gs (mkF m 46 #[.val (.int x0), .val (.int x1), .val (.int x2), .val (.int x3), .val (.int x4), .val (.ref b1), .val (.ref b3), .val (.ref b6), .unset, .unset, .unset, .unset, .unset] [(.int (1 : Int32))]) (fun _ _ A k => XS.iconst A hx rfl (hb hby at_45) k) ?_
  refine gnewP hx (ow hw 0 rfl) (n := (1 : Int32)) (by decide) (cap := 1) (by decide) (by decide) 48 (hb hby at_46) rfl (by decide) (by decide) ?_
  intro b10 h10 k10 g10 E10 C10 V10 n10 L10
  have z10 := C10.2.1
  have V10 : Arv Z h10 b10 k10 .char (1 : Int32) [(.int (0 : Int32))] (.int (0 : Int32)) := V10.pad (pad_rep [] (.int (0 : Int32)) 1)
  have lt_b10 : h10.size > b10 := V10.lt
  refine gs (mkF m 49 #[.val (.int x0), .val (.int x1), .val (.int x2), .val (.int x3), .val (.int x4), .val (.ref b1), .val (.ref b3), .val (.ref b6), .unset, .unset, .unset, .unset, .unset] [(.ref b10), (.ref b10)]) (fun _ _ A k => XS.dup A hx rfl (hb hby at_48) rfl rfl k) ?_
  refine gs (mkF m 50 #[.val (.int x0), .val (.int x1), .val (.int x2), .val (.int x3), .val (.int x4), .val (.ref b1), .val (.ref b3), .val (.ref b6), .unset, .unset, .unset, .unset, .unset] [(.int (0 : Int32)), (.ref b10), (.ref b10)]) (fun _ _ A k => XS.iconst A hx rfl (hb hby at_49) k) ?_
  refine gs (mkF m 51 #[.val (.int x0), .val (.int x1), .val (.int x2), .val (.int x3), .val (.int x4), .val (.ref b1), .val (.ref b3), .val (.ref b6), .unset, .unset, .unset, .unset, .unset] [(.int x3), (.int (0 : Int32)), (.ref b10), (.ref b10)]) (fun _ _ A k => XS.iloadN A hx rfl (hb hby at_50) rfl  k) ?_
  refine gi2c hx rfl 52 (hb hby at_51) rfl ?_
  refine gstC hx V10 ⟨by decide, by decide⟩ (i := 0) rfl (Nat.le_of_ble_eq_true rfl) (y := (x3.toUInt32.toUInt16.toUInt32.toInt32)) (narC2 _) n10 53 (hb hby at_52) rfl ?_
  intro h11 W11 C11 V11
  have z11 := C11.2.1
  replace V11 : Arv Z h11 b10 k10 .char (1 : Int32) [(.int (x3.toUInt32.toUInt16.toUInt32.toInt32))] (.int (0 : Int32)) := V11
  refine gs (mkF m 55 #[.val (.int x0), .val (.int x1), .val (.int x2), .val (.int x3), .val (.int x4), .val (.ref b1), .val (.ref b3), .val (.ref b6), .val (.ref b10), .unset, .unset, .unset, .unset] []) (fun _ _ A k => XS.astore A hx rfl (hb hby at_53) rfl rfl (l' := #[.val (.int x0), .val (.int x1), .val (.int x2), .val (.int x3), .val (.int x4), .val (.ref b1), .val (.ref b3), .val (.ref b6), .val (.ref b10), .unset, .unset, .unset, .unset]) rfl k) ?_
  refine gs (mkF m 57 #[.val (.int x0), .val (.int x1), .val (.int x2), .val (.int x3), .val (.int x4), .val (.ref b1), .val (.ref b3), .val (.ref b6), .val (.ref b10), .unset, .unset, .unset, .unset] [(.int x4)]) (fun _ _ A k => XS.iload A hx rfl (hb hby at_55) rfl  k) ?_
  refine gldcI hx (ow hw 1 rfl) 59 (hb hby at_57) rfl ?_
  refine gs (mkF m 60 #[.val (.int x0), .val (.int x1), .val (.int x2), .val (.int x3), .val (.int x4), .val (.ref b1), .val (.ref b3), .val (.ref b6), .val (.ref b10), .unset, .unset, .unset, .unset] [(.int (x4 &&& (2147483647 : Int32)))]) (fun _ _ A k => XS.iand A hx rfl (hb hby at_59) rfl k) ?_
  refine gs (mkF m 61 #[.val (.int x0), .val (.int x1), .val (.int x2), .val (.int x3), .val (.int x4), .val (.ref b1), .val (.ref b3), .val (.ref b6), .val (.ref b10), .unset, .unset, .unset, .unset] [(.int (3 : Int32)), (.int (x4 &&& (2147483647 : Int32)))]) (fun _ _ A k => XS.iconst A hx rfl (hb hby at_60) k) ?_
  refine gx (mkF m 62 #[.val (.int x0), .val (.int x1), .val (.int x2), .val (.int x3), .val (.int x4), .val (.ref b1), .val (.ref b3), .val (.ref b6), .val (.ref b10), .unset, .unset, .unset, .unset] [(.int ((x4 &&& (2147483647 : Int32)) % (3 : Int32)))]) (fun T locs X _ _ _ _ k => iremM X hx rfl (hb hby at_61) rfl (by decide) k) ?_
  refine gs (mkF m 64 #[.val (.int x0), .val (.int x1), .val (.int x2), .val (.int x3), .val (.int x4), .val (.ref b1), .val (.ref b3), .val (.ref b6), .val (.ref b10), .val (.int ((x4 &&& (2147483647 : Int32)) % (3 : Int32))), .unset, .unset, .unset] []) (fun _ _ A k => XS.istore A hx rfl (hb hby at_62) rfl (l' := #[.val (.int x0), .val (.int x1), .val (.int x2), .val (.int x3), .val (.int x4), .val (.ref b1), .val (.ref b3), .val (.ref b6), .val (.ref b10), .val (.int ((x4 &&& (2147483647 : Int32)) % (3 : Int32))), .unset, .unset, .unset]) rfl k) ?_
  refine gjoin (fun vmJ hJ gJ => ∃ (sx13 : Addr), ∃ (t13 : Addr), gJ = (mkF m 114 #[.val (.int x0), .val (.int x1), .val (.int x2), .val (.int x3), .val (.int x4), .val (.ref b1), .val (.ref b3), .val (.ref b6), .val (.ref b10), .val (.int ((x4 &&& (2147483647 : Int32)) % (3 : Int32))), .val (.ref sx13), .unset, .unset] []) ∧ Keep h11 hJ [] ∧ CHr Z ([] : List (String × Nat)) vm h11 vmJ hJ ∧ Str0 Z hJ sx13 t13) 7 20 ?_ ?_
  · rintro vm13 h13 _ ⟨sx13, t13, rfl, K13, C13, q13_0⟩
    have z13 := C13.2.1
    have lt_sx13 : h13.size > sx13 := q13_0.1.lt
    refine gjoin (fun vmJ hJ gJ => ∃ (wx23 : Addr), gJ = (mkF m 142 #[.val (.int x0), .val (.int x1), .val (.int x2), .val (.int x3), .val (.int x4), .val (.ref b1), .val (.ref b3), .val (.ref b6), .val (.ref b10), .val (.int ((x4 &&& (2147483647 : Int32)) % (3 : Int32))), .val (.ref sx13), .val (.ref wx23), .unset] []) ∧ Keep h13 hJ [] ∧ CHr Z ([] : List (String × Nat)) vm13 h13 vmJ hJ) 10 27 ?_ ?_
    · rintro vm23 h23 _ ⟨wx23, rfl, K23, C23⟩
      have z23 := C23.2.1
      refine gs (mkF m 144 #[.val (.int x0), .val (.int x1), .val (.int x2), .val (.int x3), .val (.int x4), .val (.ref b1), .val (.ref b3), .val (.ref b6), .val (.ref b10), .val (.int ((x4 &&& (2147483647 : Int32)) % (3 : Int32))), .val (.ref sx13), .val (.ref wx23), .unset] [(.ref wx23)]) (fun _ _ A k => XS.aload A hx rfl (hb hby at_142) rfl rfl k) ?_
      refine gs (mkF m 146 #[.val (.int x0), .val (.int x1), .val (.int x2), .val (.int x3), .val (.int x4), .val (.ref b1), .val (.ref b3), .val (.ref b6), .val (.ref b10), .val (.int ((x4 &&& (2147483647 : Int32)) % (3 : Int32))), .val (.ref sx13), .val (.ref wx23), .unset] [(.ref sx13), (.ref wx23)]) (fun _ _ A k => XS.aload A hx rfl (hb hby at_144) rfl rfl k) ?_
      have f29 := (q13_0.keep K23 nin0 nin0)
      refine ginfo fun _ _ O28 => ?_
      refine gcallS (y := (⟨"com/example/haversack/haversack/Checks", "notEmpty", "(Ljava/lang/String;Ljava/lang/String;)Ljava/lang/String;"⟩ : MethodName)) hx (ow hw 34 rfl) (ow hw 35 rfl) (ow hw 36 rfl) (ow hw 37 rfl) (by decide) (fun hZ H hEL => Pay.of_met (W := 0) (own_notEmpty l Z a0 cx [] (wx23) (sx13) (t13) vm23 h23 O28 f29) (ow hw 37 rfl) (ow hw 36 rfl) (by decide) (by decide) hZ H hEL) 149 (argsL := [(.ref wx23), (.ref sx13)]) (rest := []) (lenOf own_pd192 rfl) rfl rfl (Nat.le_of_eq rfl) (by rw [hml]; rfl) (hb hby at_146) rfl (by decide) (by decide) ?_
      rintro _ vm28 h28 C28 ⟨rfl, rfl⟩
      have z28 := C28.2.1
      refine gat (mkF m 149 #[.val (.int x0), .val (.int x1), .val (.int x2), .val (.int x3), .val (.int x4), .val (.ref b1), .val (.ref b3), .val (.ref b6), .val (.ref b10), .val (.int ((x4 &&& (2147483647 : Int32)) % (3 : Int32))), .val (.ref sx13), .val (.ref wx23), .unset] [(.ref sx13)]) rfl ?_
      refine gs (mkF m 151 #[.val (.int x0), .val (.int x1), .val (.int x2), .val (.int x3), .val (.int x4), .val (.ref b1), .val (.ref b3), .val (.ref b6), .val (.ref b10), .val (.int ((x4 &&& (2147483647 : Int32)) % (3 : Int32))), .val (.ref sx13), .val (.ref wx23), .val (.ref sx13)] []) (fun _ _ A k => XS.astore A hx rfl (hb hby at_149) rfl rfl (l' := #[.val (.int x0), .val (.int x1), .val (.int x2), .val (.int x3), .val (.int x4), .val (.ref b1), .val (.ref b3), .val (.ref b6), .val (.ref b10), .val (.int ((x4 &&& (2147483647 : Int32)) % (3 : Int32))), .val (.ref sx13), .val (.ref wx23), .val (.ref sx13)]) rfl k) ?_
      refine gs (mkF m 153 #[.val (.int x0), .val (.int x1), .val (.int x2), .val (.int x3), .val (.int x4), .val (.ref b1), .val (.ref b3), .val (.ref b6), .val (.ref b10), .val (.int ((x4 &&& (2147483647 : Int32)) % (3 : Int32))), .val (.ref sx13), .val (.ref wx23), .val (.ref sx13)] [(.ref sx13)]) (fun _ _ A k => XS.aload A hx rfl (hb hby at_151) rfl rfl k) ?_
      refine gs (mkF m 155 #[.val (.int x0), .val (.int x1), .val (.int x2), .val (.int x3), .val (.int x4), .val (.ref b1), .val (.ref b3), .val (.ref b6), .val (.ref b10), .val (.int ((x4 &&& (2147483647 : Int32)) % (3 : Int32))), .val (.ref sx13), .val (.ref wx23), .val (.ref sx13)] [(.ref sx13), (.ref sx13)]) (fun _ _ A k => XS.aload A hx rfl (hb hby at_153) rfl rfl k) ?_
      refine gx (mkF m 158 #[.val (.int x0), .val (.int x1), .val (.int x2), .val (.int x3), .val (.int x4), .val (.ref b1), .val (.ref b3), .val (.ref b6), .val (.ref b10), .val (.int ((x4 &&& (2147483647 : Int32)) % (3 : Int32))), .val (.ref sx13), .val (.ref wx23), .val (.ref sx13)] []) (fun T locs X _ _ _ _ k => Jvm.RoadKit.acmp (g := (mkF m 155 #[.val (.int x0), .val (.int x1), .val (.int x2), .val (.int x3), .val (.int x4), .val (.ref b1), .val (.ref b3), .val (.ref b6), .val (.ref b10), .val (.int ((x4 &&& (2147483647 : Int32)) % (3 : Int32))), .val (.ref sx13), .val (.ref wx23), .val (.ref sx13)] [(.ref sx13), (.ref sx13)])) X hx rfl rfl rfl (pc0 := 155) (pc' := 158) (same := true) rfl (hb hby at_155) rfl (decide_eq_true rfl) (by decide) (by decide) k) ?_
      refine gs (mkF m 159 #[.val (.int x0), .val (.int x1), .val (.int x2), .val (.int x3), .val (.int x4), .val (.ref b1), .val (.ref b3), .val (.ref b6), .val (.ref b10), .val (.int ((x4 &&& (2147483647 : Int32)) % (3 : Int32))), .val (.ref sx13), .val (.ref wx23), .val (.ref sx13)] [(.int (1 : Int32))]) (fun _ _ A k => XS.iconst A hx rfl (hb hby at_158) k) ?_
      refine gs (mkF m 163 #[.val (.int x0), .val (.int x1), .val (.int x2), .val (.int x3), .val (.int x4), .val (.ref b1), .val (.ref b3), .val (.ref b6), .val (.ref b10), .val (.int ((x4 &&& (2147483647 : Int32)) % (3 : Int32))), .val (.ref sx13), .val (.ref wx23), .val (.ref sx13)] [(.int (1 : Int32))]) (fun _ _ A k => XS.goto A hx rfl (pc0 := 159) (pc' := 163) rfl (hb hby at_159) (by decide) (by decide) k) ?_
      exact gretN (t := .boolean) hx hret (by simp) (hb hby at_163) (by decide) (by decide) (fun vq Cq => ⟨rfl, ((((((((((((((Keep.refl h0 []).ext E1).wr W2 (Or.inr (by omega))).ext E3).wr W4 (Or.inr (by omega))).wr W5 (Or.inr (by omega))).ext E6).wr W7 (Or.inr (by omega))).wr W8 (Or.inr (by omega))).wr W9 (Or.inr (by omega))).ext E10).wr W11 (Or.inr (by omega))).trans K13 all0).trans K23 all0)⟩)
    · intro J23
      refine gs (mkF m 116 #[.val (.int x0), .val (.int x1), .val (.int x2), .val (.int x3), .val (.int x4), .val (.ref b1), .val (.ref b3), .val (.ref b6), .val (.ref b10), .val (.int ((x4 &&& (2147483647 : Int32)) % (3 : Int32))), .val (.ref sx13), .unset, .unset] [(.int x4)]) (fun _ _ A k => XS.iload A hx rfl (hb hby at_114) rfl  k) ?_
      refine gs (mkF m 118 #[.val (.int x0), .val (.int x1), .val (.int x2), .val (.int x3), .val (.int x4), .val (.ref b1), .val (.ref b3), .val (.ref b6), .val (.ref b10), .val (.int ((x4 &&& (2147483647 : Int32)) % (3 : Int32))), .val (.ref sx13), .unset, .unset] [(.int (8 : Int32)), (.int x4)]) (fun _ _ A k => XS.bipush A hx rfl (hb hby at_116) k) ?_
      refine gs (mkF m 119 #[.val (.int x0), .val (.int x1), .val (.int x2), .val (.int x3), .val (.int x4), .val (.ref b1), .val (.ref b3), .val (.ref b6), .val (.ref b10), .val (.int ((x4 &&& (2147483647 : Int32)) % (3 : Int32))), .val (.ref sx13), .unset, .unset] [(.int ((x4.toUInt32 >>> ((8 : Int32) &&& 31).toUInt32).toInt32))]) (fun _ _ A k => XS.iushr A hx rfl (hb hby at_118) rfl k) ?_
      refine gs (mkF m 120 #[.val (.int x0), .val (.int x1), .val (.int x2), .val (.int x3), .val (.int x4), .val (.ref b1), .val (.ref b3), .val (.ref b6), .val (.ref b10), .val (.int ((x4 &&& (2147483647 : Int32)) % (3 : Int32))), .val (.ref sx13), .unset, .unset] [(.int (1 : Int32)), (.int ((x4.toUInt32 >>> ((8 : Int32) &&& 31).toUInt32).toInt32))]) (fun _ _ A k => XS.iconst A hx rfl (hb hby at_119) k) ?_
      refine gs (mkF m 121 #[.val (.int x0), .val (.int x1), .val (.int x2), .val (.int x3), .val (.int x4), .val (.ref b1), .val (.ref b3), .val (.ref b6), .val (.ref b10), .val (.int ((x4 &&& (2147483647 : Int32)) % (3 : Int32))), .val (.ref sx13), .unset, .unset] [(.int (((x4.toUInt32 >>> ((8 : Int32) &&& 31).toUInt32).toInt32) &&& (1 : Int32)))]) (fun _ _ A k => XS.iand A hx rfl (hb hby at_120) rfl k) ?_
      by_cases d2 : (((x4.toUInt32 >>> ((8 : Int32) &&& 31).toUInt32).toInt32) &&& (1 : Int32)) = (0 : Int32)
      · refine gs (mkF m 138 #[.val (.int x0), .val (.int x1), .val (.int x2), .val (.int x3), .val (.int x4), .val (.ref b1), .val (.ref b3), .val (.ref b6), .val (.ref b10), .val (.int ((x4 &&& (2147483647 : Int32)) % (3 : Int32))), .val (.ref sx13), .unset, .unset] []) (fun _ _ A k => XS.ifYes A hx rfl (pc0 := 121) (pc' := 138) rfl (hb hby at_121) rfl ((if0 _ _).trans (teq d2).1) (by decide) (by decide) k) ?_
        refine gldcO hx (ow hw 31 rfl) hSA (n := 0) (by decide) (by decide) 140 (hb hby at_138) rfl (by decide) (by decide) ?_
        intro b24 vm24 h24 E24 C24
        have z24 := C24.2.1
        refine gs (mkF m 142 #[.val (.int x0), .val (.int x1), .val (.int x2), .val (.int x3), .val (.int x4), .val (.ref b1), .val (.ref b3), .val (.ref b6), .val (.ref b10), .val (.int ((x4 &&& (2147483647 : Int32)) % (3 : Int32))), .val (.ref sx13), .val (.ref b24), .unset] []) (fun _ _ A k => XS.astore A hx rfl (hb hby at_140) rfl rfl (l' := #[.val (.int x0), .val (.int x1), .val (.int x2), .val (.int x3), .val (.int x4), .val (.ref b1), .val (.ref b3), .val (.ref b6), .val (.ref b10), .val (.int ((x4 &&& (2147483647 : Int32)) % (3 : Int32))), .val (.ref sx13), .val (.ref b24), .unset]) rfl k) ?_
        exact gmono (by decide) (by decide) (J23 _ _ _ ⟨b24, rfl, ((Keep.refl h13 []).ext E24), C24⟩)
      · refine gs (mkF m 124 #[.val (.int x0), .val (.int x1), .val (.int x2), .val (.int x3), .val (.int x4), .val (.ref b1), .val (.ref b3), .val (.ref b6), .val (.ref b10), .val (.int ((x4 &&& (2147483647 : Int32)) % (3 : Int32))), .val (.ref sx13), .unset, .unset] []) (fun _ _ A k => XS.ifNo A hx rfl (hb hby at_121) rfl ((if0 _ _).trans (feq d2).1) k) ?_
        refine gnewO hx (ow hw 2 rfl) (ow hw 3 rfl) (ow hw 4 rfl) 127 (hb hby at_124) rfl (by decide) (by decide) ?_
        intro b25 h25 g25 E25 C25 A25 D25 n25 L25
        have z25 := C25.2.1
        have lt_b25 : h25.size > b25 := A25.lt
        have F25_coder : Fld Z h25 b25 "java/lang/String" "coder" "B" (.int (0 : Int32)) := D25 (Or.inr (ow hw 28 rfl)) (ty := .byte) (by decide)
        have F25_value : Fld Z h25 b25 "java/lang/String" "value" "[B" .null := D25 (Or.inr (ow hw 30 rfl)) (ty := (.array .byte)) (by decide)
        refine gs (mkF m 128 #[.val (.int x0), .val (.int x1), .val (.int x2), .val (.int x3), .val (.int x4), .val (.ref b1), .val (.ref b3), .val (.ref b6), .val (.ref b10), .val (.int ((x4 &&& (2147483647 : Int32)) % (3 : Int32))), .val (.ref sx13), .unset, .unset] [(.ref b25), (.ref b25)]) (fun _ _ A k => XS.dup A hx rfl (hb hby at_127) rfl rfl k) ?_
        refine gs (mkF m 130 #[.val (.int x0), .val (.int x1), .val (.int x2), .val (.int x3), .val (.int x4), .val (.ref b1), .val (.ref b3), .val (.ref b6), .val (.ref b10), .val (.int ((x4 &&& (2147483647 : Int32)) % (3 : Int32))), .val (.ref sx13), .unset, .unset] [(.ref b10), (.ref b25), (.ref b25)]) (fun _ _ A k => XS.aload A hx rfl (hb hby at_128) rfl rfl k) ?_
        have f27 := ((V11.keep K13 nin0).ext E25)
        refine ginfo fun _ _ O26 => ?_
        refine gcallI (y := (⟨"java/lang/String", "<init>", "([C)V"⟩ : MethodName)) hx rfl (ow hw 5 rfl) (ow hw 6 rfl) (ow hw 7 rfl) (by decide) (fun hZ H hEL => Pay.of_met (W := 1) (own_i1_1 l Z a0 cx [] (b25) (b10) (.null) ((.int (0 : Int32))) (k10) ((x3.toUInt32.toUInt16.toUInt32.toInt32)) vm13 h25 O26 A25 F25_value F25_coder n25 L25 f27 (b16 _)) (ow hw 7 rfl) (ow hw 4 rfl) (by decide) (by decide) hZ H hEL) (a := b25) 133 (argsL := [(.ref b10)]) (rest := [(.ref b25)]) (lenOf own_pd191 rfl) rfl rfl (Nat.le_of_eq rfl) (by rw [hml]; rfl) (hb hby at_130) rfl (by decide) (by decide) ?_
        rintro _ vm26 h26 C26 ⟨t26, rfl, K26, q26_0⟩
        have z26 := C26.2.1
        refine gat (mkF m 133 #[.val (.int x0), .val (.int x1), .val (.int x2), .val (.int x3), .val (.int x4), .val (.ref b1), .val (.ref b3), .val (.ref b6), .val (.ref b10), .val (.int ((x4 &&& (2147483647 : Int32)) % (3 : Int32))), .val (.ref sx13), .unset, .unset] [(.ref b25)]) rfl ?_
        refine gs (mkF m 135 #[.val (.int x0), .val (.int x1), .val (.int x2), .val (.int x3), .val (.int x4), .val (.ref b1), .val (.ref b3), .val (.ref b6), .val (.ref b10), .val (.int ((x4 &&& (2147483647 : Int32)) % (3 : Int32))), .val (.ref sx13), .val (.ref b25), .unset] []) (fun _ _ A k => XS.astore A hx rfl (hb hby at_133) rfl rfl (l' := #[.val (.int x0), .val (.int x1), .val (.int x2), .val (.int x3), .val (.int x4), .val (.ref b1), .val (.ref b3), .val (.ref b6), .val (.ref b10), .val (.int ((x4 &&& (2147483647 : Int32)) % (3 : Int32))), .val (.ref sx13), .val (.ref b25), .unset]) rfl k) ?_
        refine gs (mkF m 142 #[.val (.int x0), .val (.int x1), .val (.int x2), .val (.int x3), .val (.int x4), .val (.ref b1), .val (.ref b3), .val (.ref b6), .val (.ref b10), .val (.int ((x4 &&& (2147483647 : Int32)) % (3 : Int32))), .val (.ref sx13), .val (.ref b25), .unset] []) (fun _ _ A k => XS.goto A hx rfl (pc0 := 135) (pc' := 142) rfl (hb hby at_135) (by decide) (by decide) k) ?_
        exact gmono (by decide) (by decide) (J23 _ _ _ ⟨b25, rfl, (((Keep.refl h13 []).ext E25).trans K26 (allS (Or.inr (by omega)) all0)), (C25.trans C26)⟩)
  · intro J13
    refine gs (mkF m 66 #[.val (.int x0), .val (.int x1), .val (.int x2), .val (.int x3), .val (.int x4), .val (.ref b1), .val (.ref b3), .val (.ref b6), .val (.ref b10), .val (.int ((x4 &&& (2147483647 : Int32)) % (3 : Int32))), .unset, .unset, .unset] [(.int ((x4 &&& (2147483647 : Int32)) % (3 : Int32)))]) (fun _ _ A k => XS.iload A hx rfl (hb hby at_64) rfl  k) ?_
    by_cases d0 : ((x4 &&& (2147483647 : Int32)) % (3 : Int32)) = (0 : Int32)
    · refine gs (mkF m 69 #[.val (.int x0), .val (.int x1), .val (.int x2), .val (.int x3), .val (.int x4), .val (.ref b1), .val (.ref b3), .val (.ref b6), .val (.ref b10), .val (.int ((x4 &&& (2147483647 : Int32)) % (3 : Int32))), .unset, .unset, .unset] []) (fun _ _ A k => XS.ifNo A hx rfl (hb hby at_66) rfl ((if0 _ _).trans (teq d0).2) k) ?_
      refine gnewO hx (ow hw 2 rfl) (ow hw 3 rfl) (ow hw 4 rfl) 72 (hb hby at_69) rfl (by decide) (by decide) ?_
      intro b14 h14 g14 E14 C14 A14 D14 n14 L14
      have z14 := C14.2.1
      have lt_b14 : h14.size > b14 := A14.lt
      have F14_coder : Fld Z h14 b14 "java/lang/String" "coder" "B" (.int (0 : Int32)) := D14 (Or.inr (ow hw 28 rfl)) (ty := .byte) (by decide)
      have F14_value : Fld Z h14 b14 "java/lang/String" "value" "[B" .null := D14 (Or.inr (ow hw 30 rfl)) (ty := (.array .byte)) (by decide)
      refine gs (mkF m 73 #[.val (.int x0), .val (.int x1), .val (.int x2), .val (.int x3), .val (.int x4), .val (.ref b1), .val (.ref b3), .val (.ref b6), .val (.ref b10), .val (.int ((x4 &&& (2147483647 : Int32)) % (3 : Int32))), .unset, .unset, .unset] [(.ref b14), (.ref b14)]) (fun _ _ A k => XS.dup A hx rfl (hb hby at_72) rfl rfl k) ?_
      refine gs (mkF m 75 #[.val (.int x0), .val (.int x1), .val (.int x2), .val (.int x3), .val (.int x4), .val (.ref b1), .val (.ref b3), .val (.ref b6), .val (.ref b10), .val (.int ((x4 &&& (2147483647 : Int32)) % (3 : Int32))), .unset, .unset, .unset] [(.ref b1), (.ref b14), (.ref b14)]) (fun _ _ A k => XS.aload A hx rfl (hb hby at_73) rfl rfl k) ?_
      have f16 := ((((((((((V2.ext E3).other W4 (Nat.ne_of_lt (by omega))).other W5 (Nat.ne_of_lt (by omega))).ext E6).other W7 (Nat.ne_of_lt (by omega))).other W8 (Nat.ne_of_lt (by omega))).other W9 (Nat.ne_of_lt (by omega))).ext E10).other W11 (Nat.ne_of_lt (by omega))).ext E14)
      refine ginfo fun _ _ O15 => ?_
      refine gcallI (y := (⟨"java/lang/String", "<init>", "([C)V"⟩ : MethodName)) hx rfl (ow hw 5 rfl) (ow hw 6 rfl) (ow hw 7 rfl) (by decide) (fun hZ H hEL => Pay.of_met (W := 1) (own_i1_1 l Z a0 cx [] (b14) (b1) (.null) ((.int (0 : Int32))) (k1) ((x0.toUInt32.toUInt16.toUInt32.toInt32)) vm h14 O15 A14 F14_value F14_coder n14 L14 f16 (b16 _)) (ow hw 7 rfl) (ow hw 4 rfl) (by decide) (by decide) hZ H hEL) (a := b14) 78 (argsL := [(.ref b1)]) (rest := [(.ref b14)]) (lenOf own_pd191 rfl) rfl rfl (Nat.le_of_eq rfl) (by rw [hml]; rfl) (hb hby at_75) rfl (by decide) (by decide) ?_
      rintro _ vm15 h15 C15 ⟨t15, rfl, K15, q15_0⟩
      have z15 := C15.2.1
      refine gat (mkF m 78 #[.val (.int x0), .val (.int x1), .val (.int x2), .val (.int x3), .val (.int x4), .val (.ref b1), .val (.ref b3), .val (.ref b6), .val (.ref b10), .val (.int ((x4 &&& (2147483647 : Int32)) % (3 : Int32))), .unset, .unset, .unset] [(.ref b14)]) rfl ?_
      refine gs (mkF m 80 #[.val (.int x0), .val (.int x1), .val (.int x2), .val (.int x3), .val (.int x4), .val (.ref b1), .val (.ref b3), .val (.ref b6), .val (.ref b10), .val (.int ((x4 &&& (2147483647 : Int32)) % (3 : Int32))), .val (.ref b14), .unset, .unset] []) (fun _ _ A k => XS.astore A hx rfl (hb hby at_78) rfl rfl (l' := #[.val (.int x0), .val (.int x1), .val (.int x2), .val (.int x3), .val (.int x4), .val (.ref b1), .val (.ref b3), .val (.ref b6), .val (.ref b10), .val (.int ((x4 &&& (2147483647 : Int32)) % (3 : Int32))), .val (.ref b14), .unset, .unset]) rfl k) ?_
      refine gs (mkF m 114 #[.val (.int x0), .val (.int x1), .val (.int x2), .val (.int x3), .val (.int x4), .val (.ref b1), .val (.ref b3), .val (.ref b6), .val (.ref b10), .val (.int ((x4 &&& (2147483647 : Int32)) % (3 : Int32))), .val (.ref b14), .unset, .unset] []) (fun _ _ A k => XS.goto A hx rfl (pc0 := 80) (pc' := 114) rfl (hb hby at_80) (by decide) (by decide) k) ?_
      exact gmono (by decide) (by decide) (J13 _ _ _ ⟨b14, t15, rfl, (((Keep.refl h11 []).ext E14).trans K15 (allS (Or.inr (by omega)) all0)), (C14.trans C15), q15_0⟩)
    · refine gs (mkF m 83 #[.val (.int x0), .val (.int x1), .val (.int x2), .val (.int x3), .val (.int x4), .val (.ref b1), .val (.ref b3), .val (.ref b6), .val (.ref b10), .val (.int ((x4 &&& (2147483647 : Int32)) % (3 : Int32))), .unset, .unset, .unset] []) (fun _ _ A k => XS.ifYes A hx rfl (pc0 := 66) (pc' := 83) rfl (hb hby at_66) rfl ((if0 _ _).trans (feq d0).2) (by decide) (by decide) k) ?_
      refine gs (mkF m 85 #[.val (.int x0), .val (.int x1), .val (.int x2), .val (.int x3), .val (.int x4), .val (.ref b1), .val (.ref b3), .val (.ref b6), .val (.ref b10), .val (.int ((x4 &&& (2147483647 : Int32)) % (3 : Int32))), .unset, .unset, .unset] [(.int ((x4 &&& (2147483647 : Int32)) % (3 : Int32)))]) (fun _ _ A k => XS.iload A hx rfl (hb hby at_83) rfl  k) ?_
      refine gs (mkF m 86 #[.val (.int x0), .val (.int x1), .val (.int x2), .val (.int x3), .val (.int x4), .val (.ref b1), .val (.ref b3), .val (.ref b6), .val (.ref b10), .val (.int ((x4 &&& (2147483647 : Int32)) % (3 : Int32))), .unset, .unset, .unset] [(.int (1 : Int32)), (.int ((x4 &&& (2147483647 : Int32)) % (3 : Int32)))]) (fun _ _ A k => XS.iconst A hx rfl (hb hby at_85) k) ?_
      by_cases d1 : ((x4 &&& (2147483647 : Int32)) % (3 : Int32)) = (1 : Int32)
      · refine gs (mkF m 89 #[.val (.int x0), .val (.int x1), .val (.int x2), .val (.int x3), .val (.int x4), .val (.ref b1), .val (.ref b3), .val (.ref b6), .val (.ref b10), .val (.int ((x4 &&& (2147483647 : Int32)) % (3 : Int32))), .unset, .unset, .unset] []) (fun _ _ A k => XS.icmpNo A hx rfl (hb hby at_86) rfl (teq d1).2 k) ?_
        refine gnewO hx (ow hw 2 rfl) (ow hw 3 rfl) (ow hw 4 rfl) 92 (hb hby at_89) rfl (by decide) (by decide) ?_
        intro b17 h17 g17 E17 C17 A17 D17 n17 L17
        have z17 := C17.2.1
        have lt_b17 : h17.size > b17 := A17.lt
        have F17_coder : Fld Z h17 b17 "java/lang/String" "coder" "B" (.int (0 : Int32)) := D17 (Or.inr (ow hw 28 rfl)) (ty := .byte) (by decide)
        have F17_value : Fld Z h17 b17 "java/lang/String" "value" "[B" .null := D17 (Or.inr (ow hw 30 rfl)) (ty := (.array .byte)) (by decide)
        refine gs (mkF m 93 #[.val (.int x0), .val (.int x1), .val (.int x2), .val (.int x3), .val (.int x4), .val (.ref b1), .val (.ref b3), .val (.ref b6), .val (.ref b10), .val (.int ((x4 &&& (2147483647 : Int32)) % (3 : Int32))), .unset, .unset, .unset] [(.ref b17), (.ref b17)]) (fun _ _ A k => XS.dup A hx rfl (hb hby at_92) rfl rfl k) ?_
        refine gs (mkF m 95 #[.val (.int x0), .val (.int x1), .val (.int x2), .val (.int x3), .val (.int x4), .val (.ref b1), .val (.ref b3), .val (.ref b6), .val (.ref b10), .val (.int ((x4 &&& (2147483647 : Int32)) % (3 : Int32))), .unset, .unset, .unset] [(.ref b3), (.ref b17), (.ref b17)]) (fun _ _ A k => XS.aload A hx rfl (hb hby at_93) rfl rfl k) ?_
        have f19 := (((((((V5.ext E6).other W7 (Nat.ne_of_lt (by omega))).other W8 (Nat.ne_of_lt (by omega))).other W9 (Nat.ne_of_lt (by omega))).ext E10).other W11 (Nat.ne_of_lt (by omega))).ext E17)
        refine ginfo fun _ _ O18 => ?_
        refine gcallI (y := (⟨"java/lang/String", "<init>", "([C)V"⟩ : MethodName)) hx rfl (ow hw 5 rfl) (ow hw 6 rfl) (ow hw 7 rfl) (by decide) (fun hZ H hEL => Pay.of_met (W := 1) (own_i1_2 l Z a0 cx [] (b17) (b3) (.null) ((.int (0 : Int32))) (k3) ((x0.toUInt32.toUInt16.toUInt32.toInt32)) ((x1.toUInt32.toUInt16.toUInt32.toInt32)) vm h17 O18 A17 F17_value F17_coder n17 L17 f19 (b16 _) (b16 _)) (ow hw 7 rfl) (ow hw 4 rfl) (by decide) (by decide) hZ H hEL) (a := b17) 98 (argsL := [(.ref b3)]) (rest := [(.ref b17)]) (lenOf own_pd191 rfl) rfl rfl (Nat.le_of_eq rfl) (by rw [hml]; rfl) (hb hby at_95) rfl (by decide) (by decide) ?_
        rintro _ vm18 h18 C18 ⟨t18, rfl, K18, q18_0⟩
        have z18 := C18.2.1
        refine gat (mkF m 98 #[.val (.int x0), .val (.int x1), .val (.int x2), .val (.int x3), .val (.int x4), .val (.ref b1), .val (.ref b3), .val (.ref b6), .val (.ref b10), .val (.int ((x4 &&& (2147483647 : Int32)) % (3 : Int32))), .unset, .unset, .unset] [(.ref b17)]) rfl ?_
        refine gs (mkF m 100 #[.val (.int x0), .val (.int x1), .val (.int x2), .val (.int x3), .val (.int x4), .val (.ref b1), .val (.ref b3), .val (.ref b6), .val (.ref b10), .val (.int ((x4 &&& (2147483647 : Int32)) % (3 : Int32))), .val (.ref b17), .unset, .unset] []) (fun _ _ A k => XS.astore A hx rfl (hb hby at_98) rfl rfl (l' := #[.val (.int x0), .val (.int x1), .val (.int x2), .val (.int x3), .val (.int x4), .val (.ref b1), .val (.ref b3), .val (.ref b6), .val (.ref b10), .val (.int ((x4 &&& (2147483647 : Int32)) % (3 : Int32))), .val (.ref b17), .unset, .unset]) rfl k) ?_
        refine gs (mkF m 114 #[.val (.int x0), .val (.int x1), .val (.int x2), .val (.int x3), .val (.int x4), .val (.ref b1), .val (.ref b3), .val (.ref b6), .val (.ref b10), .val (.int ((x4 &&& (2147483647 : Int32)) % (3 : Int32))), .val (.ref b17), .unset, .unset] []) (fun _ _ A k => XS.goto A hx rfl (pc0 := 100) (pc' := 114) rfl (hb hby at_100) (by decide) (by decide) k) ?_
        exact gmono (by decide) (by decide) (J13 _ _ _ ⟨b17, t18, rfl, (((Keep.refl h11 []).ext E17).trans K18 (allS (Or.inr (by omega)) all0)), (C17.trans C18), q18_0⟩)
      · refine gs (mkF m 103 #[.val (.int x0), .val (.int x1), .val (.int x2), .val (.int x3), .val (.int x4), .val (.ref b1), .val (.ref b3), .val (.ref b6), .val (.ref b10), .val (.int ((x4 &&& (2147483647 : Int32)) % (3 : Int32))), .unset, .unset, .unset] []) (fun _ _ A k => XS.icmpYes A hx rfl (pc0 := 86) (pc' := 103) rfl (hb hby at_86) rfl (feq d1).2 (by decide) (by decide) k) ?_
        refine gnewO hx (ow hw 2 rfl) (ow hw 3 rfl) (ow hw 4 rfl) 106 (hb hby at_103) rfl (by decide) (by decide) ?_
        intro b20 h20 g20 E20 C20 A20 D20 n20 L20
        have z20 := C20.2.1
        have lt_b20 : h20.size > b20 := A20.lt
        have F20_coder : Fld Z h20 b20 "java/lang/String" "coder" "B" (.int (0 : Int32)) := D20 (Or.inr (ow hw 28 rfl)) (ty := .byte) (by decide)
        have F20_value : Fld Z h20 b20 "java/lang/String" "value" "[B" .null := D20 (Or.inr (ow hw 30 rfl)) (ty := (.array .byte)) (by decide)
        refine gs (mkF m 107 #[.val (.int x0), .val (.int x1), .val (.int x2), .val (.int x3), .val (.int x4), .val (.ref b1), .val (.ref b3), .val (.ref b6), .val (.ref b10), .val (.int ((x4 &&& (2147483647 : Int32)) % (3 : Int32))), .unset, .unset, .unset] [(.ref b20), (.ref b20)]) (fun _ _ A k => XS.dup A hx rfl (hb hby at_106) rfl rfl k) ?_
        refine gs (mkF m 109 #[.val (.int x0), .val (.int x1), .val (.int x2), .val (.int x3), .val (.int x4), .val (.ref b1), .val (.ref b3), .val (.ref b6), .val (.ref b10), .val (.int ((x4 &&& (2147483647 : Int32)) % (3 : Int32))), .unset, .unset, .unset] [(.ref b6), (.ref b20), (.ref b20)]) (fun _ _ A k => XS.aload A hx rfl (hb hby at_107) rfl rfl k) ?_
        have f22 := (((V9.ext E10).other W11 (Nat.ne_of_lt (by omega))).ext E20)
        refine ginfo fun _ _ O21 => ?_
        refine gcallI (y := (⟨"java/lang/String", "<init>", "([C)V"⟩ : MethodName)) hx rfl (ow hw 5 rfl) (ow hw 6 rfl) (ow hw 7 rfl) (by decide) (fun hZ H hEL => Pay.of_met (W := 1) (own_i1_3 l Z a0 cx [] (b20) (b6) (.null) ((.int (0 : Int32))) (k6) ((x0.toUInt32.toUInt16.toUInt32.toInt32)) ((x1.toUInt32.toUInt16.toUInt32.toInt32)) ((x2.toUInt32.toUInt16.toUInt32.toInt32)) vm h20 O21 A20 F20_value F20_coder n20 L20 f22 (b16 _) (b16 _) (b16 _)) (ow hw 7 rfl) (ow hw 4 rfl) (by decide) (by decide) hZ H hEL) (a := b20) 112 (argsL := [(.ref b6)]) (rest := [(.ref b20)]) (lenOf own_pd191 rfl) rfl rfl (Nat.le_of_eq rfl) (by rw [hml]; rfl) (hb hby at_109) rfl (by decide) (by decide) ?_
        rintro _ vm21 h21 C21 ⟨t21, rfl, K21, q21_0⟩
        have z21 := C21.2.1
        refine gat (mkF m 112 #[.val (.int x0), .val (.int x1), .val (.int x2), .val (.int x3), .val (.int x4), .val (.ref b1), .val (.ref b3), .val (.ref b6), .val (.ref b10), .val (.int ((x4 &&& (2147483647 : Int32)) % (3 : Int32))), .unset, .unset, .unset] [(.ref b20)]) rfl ?_
        refine gs (mkF m 114 #[.val (.int x0), .val (.int x1), .val (.int x2), .val (.int x3), .val (.int x4), .val (.ref b1), .val (.ref b3), .val (.ref b6), .val (.ref b10), .val (.int ((x4 &&& (2147483647 : Int32)) % (3 : Int32))), .val (.ref b20), .unset, .unset] []) (fun _ _ A k => XS.astore A hx rfl (hb hby at_112) rfl rfl (l' := #[.val (.int x0), .val (.int x1), .val (.int x2), .val (.int x3), .val (.int x4), .val (.ref b1), .val (.ref b3), .val (.ref b6), .val (.ref b10), .val (.int ((x4 &&& (2147483647 : Int32)) % (3 : Int32))), .val (.ref b20), .unset, .unset]) rfl k) ?_
        exact gmono (by decide) (by decide) (J13 _ _ _ ⟨b20, t21, rfl, (((Keep.refl h11 []).ext E20).trans K21 (allS (Or.inr (by omega)) all0)), (C20.trans C21), q21_0⟩)
set_option maxRecDepth 65536 in
set_option maxHeartbeats 40000000 in
theorem comes_1 {Post : Tables → Env → Array Value → State → Outcome → State → Prop} (hpost : ∀ tb e args s v u, (limb_1_1.after args s (.returned v) u = true ∧ limb_1_2.after args s (.returned v) u = true ∧ True) → ReturnedEndW s (.returned v) u (Jvm.fieldLocs frame_1_writes args s ++ Jvm.arrayLocs frame_1_arrays args s ++ Jvm.staticLocs frame_1_statics s) 32 1152 → Post tb e args s (.returned v) u) :
    ArmFor flags0 classFile x code maxLocals ret World_1 tables_1 room_1 Calls_1 rest_1 Pre_1 Post := by
  intro l hfl _ _ p e ha hc hk s m args below hf hA hF happ hP
  obtain ⟨hcalls, hrest, hpre⟩ := hP
  obtain ⟨-, -, -, hnamed, -, -, -, hat⟩ := (Spec.applies_iff hf).mp happ
  obtain ⟨hg, hn⟩ := and_e (Cond.before_iff.mp (show (Jvm.Cond.and given_1 narrow_1).before args s = true from hpre))
  obtain ⟨gc, g0⟩ := and_e hg
  obtain ⟨ga0, g1⟩ := and_e g0
  obtain ⟨ga1, g2⟩ := and_e g1
  obtain ⟨ga2, g3⟩ := and_e g2
  obtain ⟨ga3, g4⟩ := and_e g3
  have ga4 := g4
  obtain ⟨w0, w1, w2, w3, w4, rfl⟩ : ∃ w0 w1 w2 w3 w4 : Value, args = #[w0, w1, w2, w3, w4] := by
    have hs : args.size = 5 := by simpa [Cond.value, given_1] using gc
    obtain ⟨L⟩ := args
    match L, hs with
    | [w0, w1, w2, w3, w4], _ => exact ⟨w0, w1, w2, w3, w4, rfl⟩
  have hw := fun d (hd : d ∈ tables_1) => atoms_spec (ws := Jvm.Cond.code x code maxLocals ret :: tables_1) hat d (List.mem_cons_of_mem _ hd)
  have hfit : Fit s := fun {y c} hc i hi => by
    obtain ⟨ha, rfl⟩ := Array.getElem?_eq_some_iff.mp hc
    have q := List.all_eq_true.mp ((Array.all_eq_true_iff_forall_mem.mp hF) _ (Array.getElem_mem ha)) i (List.mem_range.mpr hi)
    simpa [Array.getElem?_eq_getElem hi] using q
  obtain ⟨hsets, hown0⟩ := atoms_of _ (rest_1_c_eq ▸ (show rest_1_c.before _ s = true from hrest))
  obtain ⟨i0, ei0⟩ := is_v ga0
  obtain rfl : w0 = (.int i0) := Option.some.inj ei0
  obtain ⟨i1, ei1⟩ := is_v ga1
  obtain rfl : w1 = (.int i1) := Option.some.inj ei1
  obtain ⟨i2, ei2⟩ := is_v ga2
  obtain rfl : w2 = (.int i2) := Option.some.inj ei2
  obtain ⟨i3, ei3⟩ := is_v ga3
  obtain rfl : w3 = (.int i3) := Option.some.inj ei3
  obtain ⟨i4, ei4⟩ := is_v ga4
  obtain rfl : w4 = (.int i4) := Option.some.inj ei4
  obtain ⟨zc, eG⟩ := is_v (Cond.before_iff.mp (hsets _ (List.mem_of_getElem? (i := 1) rfl)))
  have Scs := Sta.start eG (Or.inl (hsets _ (List.mem_of_getElem? (i := 0) rfl)))
  have hcw := hsets _ (List.mem_of_getElem? (i := 2) rfl)
  have hzc : ¬ zc = 0 := by
    have q := not_v (Cond.before_iff.mp hcw)
    intro z
    have q2 := eq_i (x := .int zc) (y := .int 0) eG (Term.int_eval (0)) (by rw [z])
    rw [q2] at q; cases q
  obtain ⟨fm, eF, hfm⟩ := isR_v (Cond.before_iff.mp (hsets _ (List.mem_of_getElem? (i := 8) rfl)))
  have Sfm := Sta.start eF (Or.inl (hsets _ (List.mem_of_getElem? (i := 7) rfl)))
  have hEL : EW s _ ([] : List (String × Nat)) := EW.nil (a0 := #[(.int i0), (.int i1), (.int i2), (.int i3), (.int i4)])
  have hCH : CHv s ([] : List (String × Nat)) s.vm s.heap := fun _ hp => by cases hp
  have Sad := staI (hsets _ (List.mem_of_getElem? (i := 12) rfl)) (hsets _ (List.mem_of_getElem? (i := 11) rfl))
  have Shi := staI (hsets _ (List.mem_of_getElem? (i := 15) rfl)) (hsets _ (List.mem_of_getElem? (i := 14) rfl))
  have Slo := staI (hsets _ (List.mem_of_getElem? (i := 18) rfl)) (hsets _ (List.mem_of_getElem? (i := 17) rfl))
  have cx : Ctx s _ := ⟨hw, hEL, ⟨zc, Scs, hzc⟩, ⟨fm, Sfm, hfm⟩, Sad, Shi, Slo⟩
  obtain ⟨n, o, h1, h2, h3, _, L, rfl, ⟨N, ⟨rfl, -⟩⟩, -, hq⟩ := own_law l s _ cx tables_1 i0 i1 i2 i3 i4 s.vm s.heap ⟨Nat.le_refl _, fun _ _ q => q⟩ p e ha hc hk s m _ below hf ((Spec.applies_iff_loose hf).mp happ).1 ⟨rfl, State.Warmed39.refl s, rfl, CHr.refl hCH⟩ trivial
  refine ⟨n, _, h1, h2, h3, hpost _ _ _ _ _ _ ⟨Cond.after_iff.mpr rfl, Cond.after_iff.mpr (eq_i res_at (Term.int_eval (1)) rfl), trivial⟩ ⟨hq.1, hq.2.1, hq.2.2.1, (hq.2.2.2.sift fun y hy => Or.inr (N y hy)).mono (by decide) (by decide)⟩⟩
theorem main_1_1 : Claimed_1_1 := comes_1 fun _ _ _ _ _ _ h hF => ⟨h.1, hF⟩
theorem main_1_2 : Claimed_1_2 := comes_1 fun _ _ _ _ _ _ h hF => ⟨h.2.1, hF⟩
end Jvm.Pilot.@@N@@
namespace Jvm.Pilot.@@N@@
open Jvm Jvm.ClassFile Sem Op Lib Jvm.Free Jvm.Stand Jvm.Pilot.@@N@@.Jvm.D
/-! MADE BY PROGRAM (witnessworld.py) out of the Statement's table words and the real class files: 20 classes; the members and pool entries that the words name. The judged class is class 1, her method 1. -/
namespace start1
open Jvm.ClassFile
def u (s : String) : CpInfo := .utf8 (stringToUtf16 s)
/-- a pool by its gaps: so many unusable entries, then the entry; so many at the end -/
def gap : Nat → List CpInfo → List CpInfo
  | 0, r => r
  | n + 1, r => .unusable :: gap n r
def poolList (es : List (Nat × CpInfo)) (last : Nat) : List CpInfo := es.foldr (fun e r => gap e.1 (e.2 :: r)) (gap last [])
def pool (es : List (Nat × CpInfo)) (last : Nat) : Array CpInfo := ⟨poolList es last⟩
def fileOf (pool : Array CpInfo) (this : Nat) (attrs : Array Attribute := #[]) (ms : Array MethodInfo := #[]) (fl : Nat := 33) (sup : Nat := 0) (ifs : Array Nat := #[]) (fds : Array FieldInfo := #[]) : ClassFile where
  minorVersion := 0
  majorVersion := 65
  constantPool := pool
  accessFlags := fl
  thisClass := this
  superClass := sup
  interfaces := ifs
  fields := fds
  methods := ms
  attributes := attrs
def plain (name : String) (sup : Option ClassId) : Class where
  name := name
  kind := .ordinary
  loader := none
  accessFlags := 33
  super := sup
  interfaces := #[]
  cf := none
  fields := #[]
  methods := #[]
  instanceTypes := #[]
  staticTypes := #[]
  resolved := #[]
  callSites := []
  init := .initialized
  statics := none
  mirror := none

def pool0 : Array CpInfo := pool [(5, u "<init>"), (0, u "()V"), (1, .class_ 10), (1, u "java/lang/Object")] 113

def k0c0 : Code := { maxStack := 0, maxLocals := 1, code := object_method_1_code, exceptionTable := #[], attributes := #[] }
def k0m0 : Method := { name := "<init>", desc := "()V", sig := { parameters := [], returnType := none }, accessFlags := 1, code := some k0c0 }
/-- java/lang/Object -/
def k0 : Class := { plain "java/lang/Object" none with
  accessFlags := 33
  interfaces := #[]
  cf := some (fileOf pool0 8 #[] #[{ accessFlags := 1, nameIndex := 5, descriptorIndex := 6, attributes := #[] }] 33 0 #[] #[])
  fields := #[]
  methods := #[k0m0]
  instanceTypes := #[]
  staticTypes := #[]
  resolved := Array.replicate 124 none
  statics := none }

def pool1 : Array CpInfo := pool [(2, .class_ 4), (1, u "java/lang/Object"), (0, u "<init>"), (0, u "()V"), (0, .integer 2147483647), (0, .class_ 9), (0, u "java/lang/String"), (0, .methodref 8 11), (0, .nameAndType 5 12), (0, u "([C)V"), (0, .string 14), (0, u ""), (0, .methodref 16 17), (0, .class_ 18), (0, .nameAndType 19 20), (0, u "com/example/haversack/haversack/Checks"), (0, u "notEmpty"), (0, u "(Ljava/lang/String;Ljava/lang/String;)Ljava/lang/String;"), (0, .class_ 22), (0, u "com/example/haversack/haversack/ChecksNotEmptyPinLaw"), (2, u "law"), (0, u "(IIIII)Z")] 5

def k1m0 : Method := { name := "<init>", desc := "()V", sig := { parameters := [], returnType := none }, accessFlags := 2, code := none }
def k1c1 : Code := { maxStack := 4, maxLocals := 13, code := code, exceptionTable := #[], attributes := #[] }
def k1m1 : Method := { name := "law", desc := "(IIIII)Z", sig := { parameters := [.int, .int, .int, .int, .int], returnType := some .boolean }, accessFlags := 9, code := some k1c1 }
/-- com/example/haversack/haversack/ChecksNotEmptyPinLaw -/
def k1 : Class := { plain "com/example/haversack/haversack/ChecksNotEmptyPinLaw" (some 0) with
  accessFlags := 49
  interfaces := #[]
  cf := some (fileOf pool1 21 #[] #[{ accessFlags := 2, nameIndex := 5, descriptorIndex := 6, attributes := #[] }, { accessFlags := 9, nameIndex := 25, descriptorIndex := 26, attributes := #[] }] 49 2 #[] #[])
  fields := #[]
  methods := #[k1m0, k1m1]
  instanceTypes := #[]
  staticTypes := #[]
  resolved := Array.replicate 32 none
  statics := none }

def pool2 : Array CpInfo := pool [(1, .class_ 2), (0, u "java/io/Serializable"), (0, .class_ 4), (0, u "java/lang/Object")] 2

/-- java/io/Serializable -/
def k2 : Class := { plain "java/io/Serializable" (some 0) with
  accessFlags := 1537
  interfaces := #[]
  cf := some (fileOf pool2 1 #[] #[] 1537 3 #[] #[])
  fields := #[]
  methods := #[]
  instanceTypes := #[]
  staticTypes := #[]
  resolved := Array.replicate 7 none
  statics := none }

def pool3 : Array CpInfo := pool [(1, .class_ 2), (0, u "java/lang/Comparable"), (0, .class_ 4), (0, u "java/lang/Object")] 7

/-- java/lang/Comparable -/
def k3 : Class := { plain "java/lang/Comparable" (some 0) with
  accessFlags := 1537
  interfaces := #[]
  cf := some (fileOf pool3 1 #[] #[] 1537 3 #[] #[])
  fields := #[]
  methods := #[]
  instanceTypes := #[]
  staticTypes := #[]
  resolved := Array.replicate 12 none
  statics := none }

def pool4 : Array CpInfo := pool [(2, .class_ 4), (1, u "java/lang/CharSequence"), (42, .class_ 48), (0, u "java/lang/CharSequence$1CodePointIterator"), (10, .class_ 60), (0, u "java/lang/CharSequence$1CharIterator"), (5, .class_ 67), (0, u "java/lang/Object")] 63

/-- java/lang/CharSequence -/
def k4 : Class := { plain "java/lang/CharSequence" (some 0) with
  accessFlags := 1537
  interfaces := #[]
  cf := some (fileOf pool4 2 #[.nestMembers #[47, 59]] #[] 1537 66 #[] #[])
  fields := #[]
  methods := #[]
  instanceTypes := #[]
  staticTypes := #[]
  resolved := Array.replicate 131 none
  statics := none }

def pool5 : Array CpInfo := pool [(1, .class_ 2), (0, u "java/lang/constant/Constable"), (0, .class_ 4), (0, u "java/lang/Object")] 6

/-- java/lang/constant/Constable -/
def k5 : Class := { plain "java/lang/constant/Constable" (some 0) with
  accessFlags := 1537
  interfaces := #[]
  cf := some (fileOf pool5 1 #[] #[] 1537 3 #[] #[])
  fields := #[]
  methods := #[]
  instanceTypes := #[]
  staticTypes := #[]
  resolved := Array.replicate 11 none
  statics := none }

def pool6 : Array CpInfo := pool [(1, .class_ 2), (0, u "java/lang/constant/ConstantDesc"), (0, .class_ 4), (0, u "java/lang/Object")] 32

/-- java/lang/constant/ConstantDesc -/
def k6 : Class := { plain "java/lang/constant/ConstantDesc" (some 0) with
  accessFlags := 1537
  interfaces := #[]
  cf := some (fileOf pool6 1 #[] #[] 1537 3 #[] #[])
  fields := #[]
  methods := #[]
  instanceTypes := #[]
  staticTypes := #[]
  resolved := Array.replicate 37 none
  statics := none }

def pool7 : Array CpInfo := pool [(1, .methodref 2 3), (0, .class_ 4), (0, .nameAndType 5 6), (0, u "java/lang/Object"), (0, u "<init>"), (0, u "()V"), (2, .fieldref 10 11), (0, .class_ 12), (0, .nameAndType 13 14), (0, u "java/lang/String"), (0, u "value"), (0, u "[B"), (0, .fieldref 10 16), (0, .nameAndType 17 18), (0, u "coder"), (0, u "B"), (2, u "hash"), (0, u "I"), (2, u "hashIsZero"), (0, u "Z"), (0, .methodref 10 28), (0, .nameAndType 5 29), (0, u "([CIILjava/lang/Void;)V"), (8, .fieldref 10 39), (0, .nameAndType 40 26), (0, u "COMPACT_STRINGS"), (1, .class_ 44), (1, u "java/lang/StringUTF16"), (0, u "compress"), (1, .methodref 42 48), (0, .nameAndType 49 50), (0, u "coderFromArrayLen"), (0, u "([BI)B"), (91, u "()Z"), (34, .methodref 42 178), (0, .nameAndType 45 179), (0, u "([CII)[B"), (395, .class_ 576), (0, u "java/lang/CharSequence"), (22, u "CASE_INSENSITIVE_ORDER"), (0, u "Ljava/util/Comparator;"), (91, u "isEmpty"), (317, u "([C)V"), (90, u "serialPersistentFields"), (0, u "[Ljava/io/ObjectStreamField;"), (0, .class_ 1104), (0, u "java/lang/String$CaseInsensitiveComparator"), (1, .class_ 1107), (0, u "java/io/Serializable"), (0, .class_ 1109), (0, u "java/lang/Comparable"), (0, .class_ 1111), (0, u "java/lang/constant/Constable"), (0, .class_ 1113), (0, u "java/lang/constant/ConstantDesc"), (2, u "serialVersionUID"), (0, u "J"), (3, u "REPL"), (0, u "C"), (2, u "LATIN1"), (1, u "UTF16")] 323

def k7m0 : Method := { name := "<init>", desc := "()V", sig := { parameters := [], returnType := none }, accessFlags := 1, code := none }
def k7c1 : Code := { maxStack := 5, maxLocals := 2, code := jdk_42_method_3_code, exceptionTable := #[], attributes := #[] }
def k7m1 : Method := { name := "<init>", desc := "([C)V", sig := { parameters := [(.array .char)], returnType := none }, accessFlags := 1, code := some k7c1 }
def k7c2 : Code := { maxStack := 1, maxLocals := 1, code := jdk_42_method_55_code, exceptionTable := #[], attributes := #[] }
def k7m2 : Method := { name := "isEmpty", desc := "()Z", sig := { parameters := [], returnType := some .boolean }, accessFlags := 1, code := some k7c2 }
def k7c3 : Code := { maxStack := 4, maxLocals := 6, code := jdk_42_method_149_code, exceptionTable := #[], attributes := #[] }
def k7m3 : Method := { name := "<init>", desc := "([CIILjava/lang/Void;)V", sig := { parameters := [(.array .char), .int, .int, (.object "java/lang/Void")], returnType := none }, accessFlags := 2, code := some k7c3 }
/-- java/lang/String -/
def k7 : Class := { plain "java/lang/String" (some 0) with
  accessFlags := 49
  interfaces := #[2, 3, 4, 5, 6]
  cf := some (fileOf pool7 10 #[.nestMembers #[1103]] #[{ accessFlags := 1, nameIndex := 5, descriptorIndex := 6, attributes := #[] }, { accessFlags := 1, nameIndex := 5, descriptorIndex := 1010, attributes := #[] }, { accessFlags := 1, nameIndex := 692, descriptorIndex := 142, attributes := #[] }, { accessFlags := 2, nameIndex := 5, descriptorIndex := 29, attributes := #[] }] 49 2 #[1106, 1108, 575, 1110, 1112] #[{ accessFlags := 18, nameIndex := 13, descriptorIndex := 14, attributes := #[] }, { accessFlags := 18, nameIndex := 17, descriptorIndex := 18, attributes := #[] }, { accessFlags := 2, nameIndex := 21, descriptorIndex := 22, attributes := #[] }, { accessFlags := 2, nameIndex := 25, descriptorIndex := 26, attributes := #[] }, { accessFlags := 26, nameIndex := 1116, descriptorIndex := 1117, attributes := #[] }, { accessFlags := 24, nameIndex := 40, descriptorIndex := 26, attributes := #[] }, { accessFlags := 26, nameIndex := 1101, descriptorIndex := 1102, attributes := #[] }, { accessFlags := 26, nameIndex := 1121, descriptorIndex := 1122, attributes := #[] }, { accessFlags := 25, nameIndex := 599, descriptorIndex := 600, attributes := #[] }, { accessFlags := 24, nameIndex := 1125, descriptorIndex := 18, attributes := #[] }, { accessFlags := 24, nameIndex := 1127, descriptorIndex := 18, attributes := #[] }])
  fields := #[{ name := "value", type := (.array .byte), accessFlags := 18, slot := 0, constantValue := 0 }, { name := "coder", type := .byte, accessFlags := 18, slot := 1, constantValue := 0 }, { name := "hash", type := .int, accessFlags := 2, slot := 2, constantValue := 0 }, { name := "hashIsZero", type := .boolean, accessFlags := 2, slot := 3, constantValue := 0 }, { name := "serialVersionUID", type := .long, accessFlags := 26, slot := 0, constantValue := 0 }, { name := "COMPACT_STRINGS", type := .boolean, accessFlags := 24, slot := 1, constantValue := 0 }, { name := "serialPersistentFields", type := (.array (.object "java/io/ObjectStreamField")), accessFlags := 26, slot := 2, constantValue := 0 }, { name := "REPL", type := .char, accessFlags := 26, slot := 3, constantValue := 0 }, { name := "CASE_INSENSITIVE_ORDER", type := (.object "java/util/Comparator"), accessFlags := 25, slot := 4, constantValue := 0 }, { name := "LATIN1", type := .byte, accessFlags := 24, slot := 5, constantValue := 0 }, { name := "UTF16", type := .byte, accessFlags := 24, slot := 6, constantValue := 0 }]
  methods := #[k7m0, k7m1, k7m2, k7m3]
  instanceTypes := #[(.array .byte), .byte, .int, .boolean]
  staticTypes := #[.long, .boolean, (.array (.object "java/io/ObjectStreamField")), .char, (.object "java/util/Comparator"), .byte, .byte]
  resolved := Array.replicate 1451 none
  statics := some 0 }

def pool8 : Array CpInfo := pool [(6, .class_ 8), (1, u "java/lang/Object"), (0, u "<init>"), (0, u "()V"), (0, .methodref 12 13), (0, .class_ 14), (0, .nameAndType 15 16), (0, u "java/lang/StringUTF16"), (0, u "newBytesLength"), (0, u "(I)I"), (3, .integer 1073741823), (23, .fieldref 12 45), (0, .nameAndType 46 47), (0, u "$assertionsDisabled"), (0, u "Z"), (11, .fieldref 12 60), (0, .nameAndType 61 62), (0, u "HI_BYTE_SHIFT"), (0, u "I"), (0, .fieldref 12 64), (0, .nameAndType 65 62), (0, u "LO_BYTE_SHIFT"), (5, .methodref 12 72), (0, .nameAndType 73 74), (0, u "getChar"), (0, u "([BI)C"), (32, .methodref 12 108), (0, .nameAndType 109 110), (0, u "newBytesFor"), (0, u "(I)[B"), (0, .methodref 12 112), (0, .nameAndType 113 114), (0, u "putChar"), (0, u "([BII)V"), (0, .methodref 12 116), (0, .nameAndType 117 118), (0, u "compress"), (0, u "([CI[BII)I"), (0, .methodref 12 120), (0, .nameAndType 121 122), (0, u "toBytes"), (0, u "([CII)[B"), (138, u "coderFromArrayLen"), (0, u "([BI)B"), (106, .class_ 371), (1, u "java/lang/StringUTF16$LinesSpliterator"), (58, u "MAX_LENGTH"), (196, .class_ 628), (0, u "java/lang/StringUTF16$CodePointsSpliterator"), (0, .class_ 630), (0, u "java/lang/StringUTF16$CharsSpliterator")] 4

def k8m0 : Method := { name := "<init>", desc := "()V", sig := { parameters := [], returnType := none }, accessFlags := 0, code := none }
def k8c1 : Code := { maxStack := 1, maxLocals := 1, code := jdk_52_method_2_code, exceptionTable := #[], attributes := #[] }
def k8m1 : Method := { name := "newBytesFor", desc := "(I)[B", sig := { parameters := [.int], returnType := some (.array .byte) }, accessFlags := 9, code := some k8c1 }
def k8c2 : Code := { maxStack := 4, maxLocals := 1, code := jdk_52_method_3_code, exceptionTable := #[], attributes := #[] }
def k8m2 : Method := { name := "newBytesLength", desc := "(I)I", sig := { parameters := [.int], returnType := some .int }, accessFlags := 9, code := some k8c2 }
def k8c3 : Code := { maxStack := 4, maxLocals := 3, code := jdk_52_method_4_code, exceptionTable := #[], attributes := #[] }
def k8m3 : Method := { name := "putChar", desc := "([BII)V", sig := { parameters := [(.array .byte), .int, .int], returnType := none }, accessFlags := 8, code := some k8c3 }
def k8c4 : Code := { maxStack := 3, maxLocals := 2, code := jdk_52_method_5_code, exceptionTable := #[], attributes := #[] }
def k8m4 : Method := { name := "getChar", desc := "([BI)C", sig := { parameters := [(.array .byte), .int], returnType := some .char }, accessFlags := 8, code := some k8c4 }
def k8c5 : Code := { maxStack := 4, maxLocals := 5, code := jdk_52_method_14_code, exceptionTable := #[], attributes := #[] }
def k8m5 : Method := { name := "toBytes", desc := "([CII)[B", sig := { parameters := [(.array .char), .int, .int], returnType := some (.array .byte) }, accessFlags := 9, code := some k8c5 }
def k8c6 : Code := { maxStack := 2, maxLocals := 2, code := jdk_52_method_15_code, exceptionTable := #[], attributes := #[] }
def k8m6 : Method := { name := "coderFromArrayLen", desc := "([BI)B", sig := { parameters := [(.array .byte), .int], returnType := some .byte }, accessFlags := 8, code := some k8c6 }
def k8c7 : Code := { maxStack := 5, maxLocals := 6, code := jdk_52_method_16_code, exceptionTable := #[], attributes := #[] }
def k8m7 : Method := { name := "compress", desc := "([CII)[B", sig := { parameters := [(.array .char), .int, .int], returnType := some (.array .byte) }, accessFlags := 9, code := some k8c7 }
def k8c8 : Code := { maxStack := 3, maxLocals := 7, code := jdk_52_method_21_code, exceptionTable := #[], attributes := #[] }
def k8m8 : Method := { name := "compress", desc := "([CI[BII)I", sig := { parameters := [(.array .char), .int, (.array .byte), .int, .int], returnType := some .int }, accessFlags := 9, code := some k8c8 }
/-- java/lang/StringUTF16 -/
def k8 : Class := { plain "java/lang/StringUTF16" (some 0) with
  accessFlags := 48
  interfaces := #[]
  cf := some (fileOf pool8 12 #[.nestMembers #[627, 629, 369]] #[{ accessFlags := 0, nameIndex := 9, descriptorIndex := 10, attributes := #[] }, { accessFlags := 9, nameIndex := 109, descriptorIndex := 110, attributes := #[] }, { accessFlags := 9, nameIndex := 15, descriptorIndex := 16, attributes := #[] }, { accessFlags := 8, nameIndex := 113, descriptorIndex := 114, attributes := #[] }, { accessFlags := 8, nameIndex := 73, descriptorIndex := 74, attributes := #[] }, { accessFlags := 9, nameIndex := 121, descriptorIndex := 122, attributes := #[] }, { accessFlags := 8, nameIndex := 261, descriptorIndex := 262, attributes := #[] }, { accessFlags := 9, nameIndex := 117, descriptorIndex := 122, attributes := #[] }, { accessFlags := 9, nameIndex := 117, descriptorIndex := 118, attributes := #[] }] 48 6 #[] #[{ accessFlags := 26, nameIndex := 61, descriptorIndex := 62, attributes := #[] }, { accessFlags := 26, nameIndex := 65, descriptorIndex := 62, attributes := #[] }, { accessFlags := 24, nameIndex := 430, descriptorIndex := 62, attributes := #[] }, { accessFlags := 4120, nameIndex := 46, descriptorIndex := 47, attributes := #[] }])
  fields := #[{ name := "HI_BYTE_SHIFT", type := .int, accessFlags := 26, slot := 0, constantValue := 0 }, { name := "LO_BYTE_SHIFT", type := .int, accessFlags := 26, slot := 1, constantValue := 0 }, { name := "MAX_LENGTH", type := .int, accessFlags := 24, slot := 2, constantValue := 0 }, { name := "$assertionsDisabled", type := .boolean, accessFlags := 4120, slot := 3, constantValue := 0 }]
  methods := #[k8m0, k8m1, k8m2, k8m3, k8m4, k8m5, k8m6, k8m7, k8m8]
  instanceTypes := #[]
  staticTypes := #[.int, .int, .int, .boolean]
  resolved := Array.replicate 635 none
  statics := some 1 }

def pool9 : Array CpInfo := pool [(2, .class_ 4), (1, u "java/lang/Object"), (0, u "<init>"), (0, u "()V"), (0, .methodref 8 9), (0, .class_ 10), (0, .nameAndType 11 12), (0, u "java/lang/String"), (0, u "isEmpty"), (0, u "()Z"), (22, .class_ 36), (0, u "com/example/haversack/haversack/Checks"), (2, u "notEmpty"), (0, u "(Ljava/lang/String;Ljava/lang/String;)Ljava/lang/String;")] 28

def k9m0 : Method := { name := "<init>", desc := "()V", sig := { parameters := [], returnType := none }, accessFlags := 2, code := none }
def k9c1 : Code := { maxStack := 3, maxLocals := 2, code := prog_2_method_2_code, exceptionTable := #[], attributes := #[] }
def k9m1 : Method := { name := "notEmpty", desc := "(Ljava/lang/String;Ljava/lang/String;)Ljava/lang/String;", sig := { parameters := [(.object "java/lang/String"), (.object "java/lang/String")], returnType := some (.object "java/lang/String") }, accessFlags := 8, code := some k9c1 }
/-- com/example/haversack/haversack/Checks -/
def k9 : Class := { plain "com/example/haversack/haversack/Checks" (some 0) with
  accessFlags := 48
  interfaces := #[]
  cf := some (fileOf pool9 35 #[] #[{ accessFlags := 2, nameIndex := 5, descriptorIndex := 6, attributes := #[] }, { accessFlags := 8, nameIndex := 39, descriptorIndex := 40, attributes := #[] }] 48 2 #[] #[])
  fields := #[]
  methods := #[k9m0, k9m1]
  instanceTypes := #[]
  staticTypes := #[]
  resolved := Array.replicate 69 none
  statics := none }

def pool10 : Array CpInfo := pool [(4, .class_ 6), (1, u "java/lang/Object"), (0, u "<init>"), (0, u "()V"), (5, .class_ 16), (1, u "java/lang/StringLatin1"), (104, u "$assertionsDisabled"), (0, u "Z"), (98, .class_ 223), (1, u "java/lang/StringLatin1$LinesSpliterator"), (166, .class_ 391), (0, u "java/lang/StringLatin1$CharsSpliterator")] 3

def k10m0 : Method := { name := "<init>", desc := "()V", sig := { parameters := [], returnType := none }, accessFlags := 0, code := none }
/-- java/lang/StringLatin1 -/
def k10 : Class := { plain "java/lang/StringLatin1" (some 0) with
  accessFlags := 48
  interfaces := #[]
  cf := some (fileOf pool10 14 #[.nestMembers #[390, 221]] #[{ accessFlags := 0, nameIndex := 7, descriptorIndex := 8, attributes := #[] }] 48 4 #[] #[{ accessFlags := 4120, nameIndex := 121, descriptorIndex := 122, attributes := #[] }])
  fields := #[{ name := "$assertionsDisabled", type := .boolean, accessFlags := 4120, slot := 0, constantValue := 0 }]
  methods := #[k10m0]
  instanceTypes := #[]
  staticTypes := #[.boolean]
  resolved := Array.replicate 395 none
  statics := none }

def pool11 : Array CpInfo := pool [(2, .class_ 4), (1, u "java/lang/Object"), (0, u "<init>"), (0, u "()V"), (17, .class_ 26), (1, u "jdk/internal/util/Preconditions"), (28, .class_ 56), (0, u "jdk/internal/util/Preconditions$4"), (57, .class_ 115), (0, u "jdk/internal/util/Preconditions$1"), (7, u "SIOOBE_FORMATTER"), (0, u "Ljava/util/function/BiFunction;"), (0, .class_ 126), (0, u "jdk/internal/util/Preconditions$2"), (3, u "AIOOBE_FORMATTER"), (0, .class_ 132), (0, u "jdk/internal/util/Preconditions$3"), (3, u "IOOBE_FORMATTER")] 57

def k11m0 : Method := { name := "<init>", desc := "()V", sig := { parameters := [], returnType := none }, accessFlags := 1, code := none }
/-- jdk/internal/util/Preconditions -/
def k11 : Class := { plain "jdk/internal/util/Preconditions" (some 0) with
  accessFlags := 33
  interfaces := #[]
  cf := some (fileOf pool11 24 #[.nestMembers #[55, 131, 125, 114]] #[{ accessFlags := 1, nameIndex := 5, descriptorIndex := 6, attributes := #[] }] 33 2 #[] #[{ accessFlags := 25, nameIndex := 123, descriptorIndex := 124, attributes := #[] }, { accessFlags := 25, nameIndex := 130, descriptorIndex := 124, attributes := #[] }, { accessFlags := 25, nameIndex := 136, descriptorIndex := 124, attributes := #[] }])
  fields := #[{ name := "SIOOBE_FORMATTER", type := (.object "java/util/function/BiFunction"), accessFlags := 25, slot := 0, constantValue := 0 }, { name := "AIOOBE_FORMATTER", type := (.object "java/util/function/BiFunction"), accessFlags := 25, slot := 1, constantValue := 0 }, { name := "IOOBE_FORMATTER", type := (.object "java/util/function/BiFunction"), accessFlags := 25, slot := 2, constantValue := 0 }]
  methods := #[k11m0]
  instanceTypes := #[]
  staticTypes := #[(.object "java/util/function/BiFunction"), (.object "java/util/function/BiFunction"), (.object "java/util/function/BiFunction")]
  resolved := Array.replicate 194 none
  statics := some 2 }

def pool12 : Array CpInfo := pool [(9, u "<init>"), (6, .class_ 18), (1, u "java/lang/Object"), (0, u "()V"), (1, .class_ 23), (1, u "jdk/internal/util/ArraysSupport"), (0, u "LOG2_ARRAY_LONG_INDEX_SCALE"), (0, u "I"), (2, u "U"), (0, u "Ljdk/internal/misc/Unsafe;"), (8, u "BIG_ENDIAN"), (0, u "Z"), (8, u "LOG2_BYTE_BIT_SIZE"), (4, u "LOG2_ARRAY_INT_INDEX_SCALE"), (54, u "JLA"), (0, u "Ljdk/internal/access/JavaLangAccess;"), (11, u "LOG2_ARRAY_BOOLEAN_INDEX_SCALE"), (9, u "LOG2_ARRAY_BYTE_INDEX_SCALE"), (5, u "LOG2_ARRAY_CHAR_INDEX_SCALE"), (5, u "LOG2_ARRAY_SHORT_INDEX_SCALE"), (18, u "LOG2_ARRAY_FLOAT_INDEX_SCALE"), (24, u "LOG2_ARRAY_DOUBLE_INDEX_SCALE"), (89, u "T_BOOLEAN"), (2, u "T_CHAR"), (1, u "T_FLOAT"), (1, u "T_DOUBLE"), (1, u "T_BYTE"), (1, u "T_SHORT"), (1, u "T_INT"), (1, u "T_LONG"), (1, u "SOFT_MAX_ARRAY_LENGTH")] 83

def k12m0 : Method := { name := "<init>", desc := "()V", sig := { parameters := [], returnType := none }, accessFlags := 2, code := none }
/-- jdk/internal/util/ArraysSupport -/
def k12 : Class := { plain "jdk/internal/util/ArraysSupport" (some 0) with
  accessFlags := 33
  interfaces := #[]
  cf := some (fileOf pool12 21 #[] #[{ accessFlags := 2, nameIndex := 9, descriptorIndex := 19, attributes := #[] }] 33 16 #[] #[{ accessFlags := 24, nameIndex := 28, descriptorIndex := 29, attributes := #[] }, { accessFlags := 26, nameIndex := 38, descriptorIndex := 39, attributes := #[] }, { accessFlags := 25, nameIndex := 121, descriptorIndex := 25, attributes := #[] }, { accessFlags := 25, nameIndex := 131, descriptorIndex := 25, attributes := #[] }, { accessFlags := 25, nameIndex := 137, descriptorIndex := 25, attributes := #[] }, { accessFlags := 25, nameIndex := 143, descriptorIndex := 25, attributes := #[] }, { accessFlags := 25, nameIndex := 53, descriptorIndex := 25, attributes := #[] }, { accessFlags := 25, nameIndex := 24, descriptorIndex := 25, attributes := #[] }, { accessFlags := 25, nameIndex := 162, descriptorIndex := 25, attributes := #[] }, { accessFlags := 25, nameIndex := 187, descriptorIndex := 25, attributes := #[] }, { accessFlags := 26, nameIndex := 48, descriptorIndex := 25, attributes := #[] }, { accessFlags := 25, nameIndex := 277, descriptorIndex := 25, attributes := #[] }, { accessFlags := 25, nameIndex := 280, descriptorIndex := 25, attributes := #[] }, { accessFlags := 25, nameIndex := 282, descriptorIndex := 25, attributes := #[] }, { accessFlags := 25, nameIndex := 284, descriptorIndex := 25, attributes := #[] }, { accessFlags := 25, nameIndex := 286, descriptorIndex := 25, attributes := #[] }, { accessFlags := 25, nameIndex := 288, descriptorIndex := 25, attributes := #[] }, { accessFlags := 25, nameIndex := 290, descriptorIndex := 25, attributes := #[] }, { accessFlags := 25, nameIndex := 292, descriptorIndex := 25, attributes := #[] }, { accessFlags := 26, nameIndex := 108, descriptorIndex := 109, attributes := #[] }, { accessFlags := 25, nameIndex := 294, descriptorIndex := 25, attributes := #[] }])
  fields := #[{ name := "U", type := (.object "jdk/internal/misc/Unsafe"), accessFlags := 24, slot := 0, constantValue := 0 }, { name := "BIG_ENDIAN", type := .boolean, accessFlags := 26, slot := 1, constantValue := 0 }, { name := "LOG2_ARRAY_BOOLEAN_INDEX_SCALE", type := .int, accessFlags := 25, slot := 2, constantValue := 0 }, { name := "LOG2_ARRAY_BYTE_INDEX_SCALE", type := .int, accessFlags := 25, slot := 3, constantValue := 0 }, { name := "LOG2_ARRAY_CHAR_INDEX_SCALE", type := .int, accessFlags := 25, slot := 4, constantValue := 0 }, { name := "LOG2_ARRAY_SHORT_INDEX_SCALE", type := .int, accessFlags := 25, slot := 5, constantValue := 0 }, { name := "LOG2_ARRAY_INT_INDEX_SCALE", type := .int, accessFlags := 25, slot := 6, constantValue := 0 }, { name := "LOG2_ARRAY_LONG_INDEX_SCALE", type := .int, accessFlags := 25, slot := 7, constantValue := 0 }, { name := "LOG2_ARRAY_FLOAT_INDEX_SCALE", type := .int, accessFlags := 25, slot := 8, constantValue := 0 }, { name := "LOG2_ARRAY_DOUBLE_INDEX_SCALE", type := .int, accessFlags := 25, slot := 9, constantValue := 0 }, { name := "LOG2_BYTE_BIT_SIZE", type := .int, accessFlags := 26, slot := 10, constantValue := 0 }, { name := "T_BOOLEAN", type := .int, accessFlags := 25, slot := 11, constantValue := 0 }, { name := "T_CHAR", type := .int, accessFlags := 25, slot := 12, constantValue := 0 }, { name := "T_FLOAT", type := .int, accessFlags := 25, slot := 13, constantValue := 0 }, { name := "T_DOUBLE", type := .int, accessFlags := 25, slot := 14, constantValue := 0 }, { name := "T_BYTE", type := .int, accessFlags := 25, slot := 15, constantValue := 0 }, { name := "T_SHORT", type := .int, accessFlags := 25, slot := 16, constantValue := 0 }, { name := "T_INT", type := .int, accessFlags := 25, slot := 17, constantValue := 0 }, { name := "T_LONG", type := .int, accessFlags := 25, slot := 18, constantValue := 0 }, { name := "JLA", type := (.object "jdk/internal/access/JavaLangAccess"), accessFlags := 26, slot := 19, constantValue := 0 }, { name := "SOFT_MAX_ARRAY_LENGTH", type := .int, accessFlags := 25, slot := 20, constantValue := 0 }]
  methods := #[k12m0]
  instanceTypes := #[]
  staticTypes := #[(.object "jdk/internal/misc/Unsafe"), .boolean, .int, .int, .int, .int, .int, .int, .int, .int, .int, .int, .int, .int, .int, .int, .int, .int, .int, (.object "jdk/internal/access/JavaLangAccess"), .int]
  resolved := Array.replicate 378 none
  statics := none }

def pool13 : Array CpInfo := pool [(1, u "java/lang/Cloneable"), (0, .class_ 1), (0, u "java/lang/Object"), (0, .class_ 3)] 3

/-- java/lang/Cloneable -/
def k13 : Class := { plain "java/lang/Cloneable" (some 0) with
  accessFlags := 1537
  interfaces := #[]
  cf := some (fileOf pool13 2 #[] #[] 1537 4 #[] #[])
  fields := #[]
  methods := #[]
  instanceTypes := #[]
  staticTypes := #[]
  resolved := Array.replicate 8 none
  statics := none }

/-- the primitive byte -/
def k14 : Class := { plain "byte" none with kind := .primitive 'B', accessFlags := 0x411 }
/-- [B -/
def k15 : Class := { plain "[B" (some 0) with kind := .array 14 .byte, interfaces := #[13, 2], accessFlags := 1041 }

/-- the primitive char -/
def k16 : Class := { plain "char" none with kind := .primitive 'C', accessFlags := 0x411 }
/-- [C -/
def k17 : Class := { plain "[C" (some 0) with kind := .array 16 .char, interfaces := #[13, 2], accessFlags := 1041 }

/-- the primitive int -/
def k18 : Class := { plain "int" none with kind := .primitive 'I', accessFlags := 0x411 }
/-- [I -/
def k19 : Class := { plain "[I" (some 0) with kind := .array 18 .int, interfaces := #[13, 2], accessFlags := 1041 }

def heap : Heap := #[{ cls := 7, slots := #[.long 0, .int 1, .null, .int 0, .null, .int 0, .int 0], vm := .statics 7 },
  { cls := 8, slots := #[.int 0, .int 8, .int 0, .int 1], vm := .statics 8 },
  { cls := 11, slots := #[.null, .null, .null], vm := .statics 11 }]
def classes : Array Class := #[k0, k1, k2, k3, k4, k5, k6, k7, k8, k9, k10, k11, k12, k13, k14, k15, k16, k17, k18, k19]
def interned : List (Array UInt16 × Addr) := []
def slotsUsed : Nat := 14
def theMethod : MethodId := ⟨1, 1⟩
def args0 : Array Value := #[.int 65, .int 66, .int 67, .int 68, .int 1]
def aboutOver (below : List Frame) : State where
  vm := { classes := classes, interned := interned.toArray }
  heap := heap
  slotsUsed := slotsUsed
  threads := #[{ frames := .invoking theMethod args0 :: below }]
def below0 : List Frame := [.native { method := ⟨0, 0⟩, args := #[] }]
def about1 : State := aboutOver below0
def p0 : Program := .bare "" "" ""
def e0 : Env := launch0.env 0 0 0
theorem w_frames : about1.frames = Frame.invoking theMethod args0 :: below0 := rfl
set_option maxRecDepth 65536 in
theorem w_args : argsFit about1.vm theMethod args0 = true := by decide +kernel
set_option maxRecDepth 65536 in
theorem w_heap : heapFits about1 = true := by decide +kernel
set_option maxRecDepth 65536 in
theorem w_runnable : about1.curStatus? = some .runnable := by decide +kernel
set_option maxRecDepth 65536 in
theorem w_alone : about1.alone = true := by decide +kernel
set_option maxRecDepth 65536 in
theorem w_named : about1.methodNamed? x = some theMethod := by decide +kernel
set_option maxRecDepth 65536 in
theorem w_hears : about1.hears theMethod below0 = true := by decide +kernel
set_option maxRecDepth 65536 in
theorem w_ripe : about1.ripe theMethod args0 below0 = true := by decide +kernel
theorem w_running : about1.status = .running := rfl
set_option maxRecDepth 65536 in
theorem w_room : about1.hasRoom e0.platform room_1 = true :=
  launch0.hasRoom_least _ room_1 (by decide +kernel) (by decide +kernel) (by decide +kernel) (by decide +kernel) (by decide +kernel) (by decide +kernel)
theorem allAtoms_all (ts : List Jvm.Cond) (a : Array Jvm.Value) (st : Jvm.State) : (allAtoms ts).before a st = ts.all (fun c => c.before a st) := by
  induction ts with
  | nil => rfl
  | cons c t ih =>
    show (Jvm.Cond.and c (allAtoms t)).before a st = _
    rw [Jvm.Cond.before_and, ih, List.all_cons]
def words1 : List Jvm.Cond := Jvm.Cond.code x code maxLocals ret :: tables_1
/-- a 'code' word, met by the world's own term for the bytes: nothing is compared byte by byte -/
theorem code_word {y : MethodName} {bytes : ByteArray} {mx : Nat} {rt : Option FieldType} {a : Array Value} {s : State} {m : MethodId} {meth : Method} {c : Code} (h1 : s.methodNamed? y = some m) (h2 : s.vm.method? m = some meth) (h3 : meth.code = some c) (h4 : c.code = bytes)
    (h5 : (c.maxLocals == mx && c.exceptionTable.isEmpty && decide (c.maxStack ≤ mostOperands) && decide (meth.sig.returnType = rt) && !meth.locks && decide (parseMethodDescriptor y.desc = some meth.sig)) = true) : (Jvm.Cond.code y bytes mx rt).before a s = true := by
  simp only [Bool.and_eq_true, beq_iff_eq, Bool.not_eq_true', decide_eq_true_eq] at h5
  obtain ⟨⟨⟨⟨⟨g1, g2⟩, g3⟩, g4⟩, g5⟩, g6⟩ := h5
  simp [Cond.before, Cond.holds, Cond.value, h1, h2, h3, h4, g1, g2, g3, g4, g5, g6]
def isCode : Jvm.Cond → Bool
  | .code _ _ _ _ => true
  | _ => false
theorem all_split {L : List Jvm.Cond} {P : Jvm.Cond → Bool} (h1 : L.all (fun c => isCode c || P c) = true) (h2 : ∀ c ∈ L.filter isCode, P c = true) : L.all P = true := by
  refine List.all_eq_true.mpr fun c hc => ?_
  have h := List.all_eq_true.mp h1 c hc
  rcases Bool.eq_false_or_eq_true (isCode c) with hi | hi
  · exact h2 c (List.mem_filter.mpr ⟨hc, hi⟩)
  · simpa [hi] using h
set_option maxRecDepth 65536 in
theorem w_c0 : (Jvm.Cond.code x code maxLocals ret).before args0 about1 = true := code_word (m := ⟨1, 1⟩) (meth := k1m1) (c := k1c1) (by decide +kernel) rfl rfl rfl (by decide +kernel)
set_option maxRecDepth 65536 in
theorem w_c1 : (Jvm.Cond.code ({ cls := "java/lang/String", name := "<init>", desc := "([C)V" } : Jvm.MethodName) jdk_42_method_3_code (2 : Nat) (Option.none : Option Jvm.ClassFile.FieldType)).before args0 about1 = true := code_word (m := ⟨7, 1⟩) (meth := k7m1) (c := k7c1) (by decide +kernel) rfl rfl rfl (by decide +kernel)
set_option maxRecDepth 65536 in
theorem w_c2 : (Jvm.Cond.code ({ cls := "java/lang/String", name := "<init>", desc := "([CIILjava/lang/Void;)V" } : Jvm.MethodName) jdk_42_method_149_code (6 : Nat) (Option.none : Option Jvm.ClassFile.FieldType)).before args0 about1 = true := code_word (m := ⟨7, 3⟩) (meth := k7m3) (c := k7c3) (by decide +kernel) rfl rfl rfl (by decide +kernel)
set_option maxRecDepth 65536 in
theorem w_c3 : (Jvm.Cond.code ({ cls := "java/lang/Object", name := "<init>", desc := "()V" } : Jvm.MethodName) object_method_1_code (1 : Nat) (Option.none : Option Jvm.ClassFile.FieldType)).before args0 about1 = true := code_word (m := ⟨0, 0⟩) (meth := k0m0) (c := k0c0) (by decide +kernel) rfl rfl rfl (by decide +kernel)
set_option maxRecDepth 65536 in
theorem w_c4 : (Jvm.Cond.code ({ cls := "java/lang/StringUTF16", name := "compress", desc := "([CII)[B" } : Jvm.MethodName) jdk_52_method_16_code (6 : Nat) (Option.some (Jvm.ClassFile.FieldType.array Jvm.ClassFile.FieldType.byte))).before args0 about1 = true := code_word (m := ⟨8, 7⟩) (meth := k8m7) (c := k8c7) (by decide +kernel) rfl rfl rfl (by decide +kernel)
set_option maxRecDepth 65536 in
theorem w_c5 : (Jvm.Cond.code ({ cls := "java/lang/StringUTF16", name := "compress", desc := "([CI[BII)I" } : Jvm.MethodName) jdk_52_method_21_code (7 : Nat) (Option.some Jvm.ClassFile.FieldType.int)).before args0 about1 = true := code_word (m := ⟨8, 8⟩) (meth := k8m8) (c := k8c8) (by decide +kernel) rfl rfl rfl (by decide +kernel)
set_option maxRecDepth 65536 in
theorem w_c6 : (Jvm.Cond.code ({ cls := "java/lang/StringUTF16", name := "coderFromArrayLen", desc := "([BI)B" } : Jvm.MethodName) jdk_52_method_15_code (2 : Nat) (Option.some Jvm.ClassFile.FieldType.byte)).before args0 about1 = true := code_word (m := ⟨8, 6⟩) (meth := k8m6) (c := k8c6) (by decide +kernel) rfl rfl rfl (by decide +kernel)
set_option maxRecDepth 65536 in
theorem w_c7 : (Jvm.Cond.code ({ cls := "com/example/haversack/haversack/Checks", name := "notEmpty", desc := "(Ljava/lang/String;Ljava/lang/String;)Ljava/lang/String;" } : Jvm.MethodName) prog_2_method_2_code (2 : Nat) (Option.some (Jvm.ClassFile.FieldType.object "java/lang/String"))).before args0 about1 = true := code_word (m := ⟨9, 1⟩) (meth := k9m1) (c := k9c1) (by decide +kernel) rfl rfl rfl (by decide +kernel)
set_option maxRecDepth 65536 in
theorem w_c8 : (Jvm.Cond.code ({ cls := "java/lang/String", name := "isEmpty", desc := "()Z" } : Jvm.MethodName) jdk_42_method_55_code (1 : Nat) (Option.some Jvm.ClassFile.FieldType.boolean)).before args0 about1 = true := code_word (m := ⟨7, 2⟩) (meth := k7m2) (c := k7c2) (by decide +kernel) rfl rfl rfl (by decide +kernel)
set_option maxRecDepth 65536 in
theorem w_c9 : (Jvm.Cond.code ({ cls := "java/lang/StringUTF16", name := "toBytes", desc := "([CII)[B" } : Jvm.MethodName) jdk_52_method_14_code (5 : Nat) (Option.some (Jvm.ClassFile.FieldType.array Jvm.ClassFile.FieldType.byte))).before args0 about1 = true := code_word (m := ⟨8, 5⟩) (meth := k8m5) (c := k8c5) (by decide +kernel) rfl rfl rfl (by decide +kernel)
set_option maxRecDepth 65536 in
theorem w_c10 : (Jvm.Cond.code ({ cls := "java/lang/StringUTF16", name := "newBytesFor", desc := "(I)[B" } : Jvm.MethodName) jdk_52_method_2_code (1 : Nat) (Option.some (Jvm.ClassFile.FieldType.array Jvm.ClassFile.FieldType.byte))).before args0 about1 = true := code_word (m := ⟨8, 1⟩) (meth := k8m1) (c := k8c1) (by decide +kernel) rfl rfl rfl (by decide +kernel)
set_option maxRecDepth 65536 in
theorem w_c11 : (Jvm.Cond.code ({ cls := "java/lang/StringUTF16", name := "newBytesLength", desc := "(I)I" } : Jvm.MethodName) jdk_52_method_3_code (1 : Nat) (Option.some Jvm.ClassFile.FieldType.int)).before args0 about1 = true := code_word (m := ⟨8, 2⟩) (meth := k8m2) (c := k8c2) (by decide +kernel) rfl rfl rfl (by decide +kernel)
set_option maxRecDepth 65536 in
theorem w_c12 : (Jvm.Cond.code ({ cls := "java/lang/StringUTF16", name := "putChar", desc := "([BII)V" } : Jvm.MethodName) jdk_52_method_4_code (3 : Nat) (Option.none : Option Jvm.ClassFile.FieldType)).before args0 about1 = true := code_word (m := ⟨8, 3⟩) (meth := k8m3) (c := k8c3) (by decide +kernel) rfl rfl rfl (by decide +kernel)
set_option maxRecDepth 65536 in
theorem w_c13 : (Jvm.Cond.code ({ cls := "java/lang/StringUTF16", name := "getChar", desc := "([BI)C" } : Jvm.MethodName) jdk_52_method_5_code (2 : Nat) (Option.some Jvm.ClassFile.FieldType.char)).before args0 about1 = true := code_word (m := ⟨8, 4⟩) (meth := k8m4) (c := k8c4) (by decide +kernel) rfl rfl rfl (by decide +kernel)
def codes1 : List Jvm.Cond := [Jvm.Cond.code x code maxLocals ret, Jvm.Cond.code ({ cls := "java/lang/String", name := "<init>", desc := "([C)V" } : Jvm.MethodName) jdk_42_method_3_code (2 : Nat) (Option.none : Option Jvm.ClassFile.FieldType), Jvm.Cond.code ({ cls := "java/lang/String", name := "<init>", desc := "([CIILjava/lang/Void;)V" } : Jvm.MethodName) jdk_42_method_149_code (6 : Nat) (Option.none : Option Jvm.ClassFile.FieldType), Jvm.Cond.code ({ cls := "java/lang/Object", name := "<init>", desc := "()V" } : Jvm.MethodName) object_method_1_code (1 : Nat) (Option.none : Option Jvm.ClassFile.FieldType), Jvm.Cond.code ({ cls := "java/lang/StringUTF16", name := "compress", desc := "([CII)[B" } : Jvm.MethodName) jdk_52_method_16_code (6 : Nat) (Option.some (Jvm.ClassFile.FieldType.array Jvm.ClassFile.FieldType.byte)), Jvm.Cond.code ({ cls := "java/lang/StringUTF16", name := "compress", desc := "([CI[BII)I" } : Jvm.MethodName) jdk_52_method_21_code (7 : Nat) (Option.some Jvm.ClassFile.FieldType.int), Jvm.Cond.code ({ cls := "java/lang/StringUTF16", name := "coderFromArrayLen", desc := "([BI)B" } : Jvm.MethodName) jdk_52_method_15_code (2 : Nat) (Option.some Jvm.ClassFile.FieldType.byte), Jvm.Cond.code ({ cls := "com/example/haversack/haversack/Checks", name := "notEmpty", desc := "(Ljava/lang/String;Ljava/lang/String;)Ljava/lang/String;" } : Jvm.MethodName) prog_2_method_2_code (2 : Nat) (Option.some (Jvm.ClassFile.FieldType.object "java/lang/String")), Jvm.Cond.code ({ cls := "java/lang/String", name := "isEmpty", desc := "()Z" } : Jvm.MethodName) jdk_42_method_55_code (1 : Nat) (Option.some Jvm.ClassFile.FieldType.boolean), Jvm.Cond.code ({ cls := "java/lang/StringUTF16", name := "toBytes", desc := "([CII)[B" } : Jvm.MethodName) jdk_52_method_14_code (5 : Nat) (Option.some (Jvm.ClassFile.FieldType.array Jvm.ClassFile.FieldType.byte)), Jvm.Cond.code ({ cls := "java/lang/StringUTF16", name := "newBytesFor", desc := "(I)[B" } : Jvm.MethodName) jdk_52_method_2_code (1 : Nat) (Option.some (Jvm.ClassFile.FieldType.array Jvm.ClassFile.FieldType.byte)), Jvm.Cond.code ({ cls := "java/lang/StringUTF16", name := "newBytesLength", desc := "(I)I" } : Jvm.MethodName) jdk_52_method_3_code (1 : Nat) (Option.some Jvm.ClassFile.FieldType.int), Jvm.Cond.code ({ cls := "java/lang/StringUTF16", name := "putChar", desc := "([BII)V" } : Jvm.MethodName) jdk_52_method_4_code (3 : Nat) (Option.none : Option Jvm.ClassFile.FieldType), Jvm.Cond.code ({ cls := "java/lang/StringUTF16", name := "getChar", desc := "([BI)C" } : Jvm.MethodName) jdk_52_method_5_code (2 : Nat) (Option.some Jvm.ClassFile.FieldType.char)]
set_option maxRecDepth 65536 in
theorem codes_eq : words1.filter isCode = codes1 := rfl
theorem w_codes : ∀ c ∈ words1.filter isCode, c.before args0 about1 = true := by
  rw [codes_eq]
  intro c hc
  simp only [codes1, List.mem_cons, List.not_mem_nil, or_false] at hc
  rcases hc with rfl | rfl | rfl | rfl | rfl | rfl | rfl | rfl | rfl | rfl | rfl | rfl | rfl | rfl
  · exact w_c0
  · exact w_c1
  · exact w_c2
  · exact w_c3
  · exact w_c4
  · exact w_c5
  · exact w_c6
  · exact w_c7
  · exact w_c8
  · exact w_c9
  · exact w_c10
  · exact w_c11
  · exact w_c12
  · exact w_c13
set_option maxRecDepth 65536 in
theorem w_t1 : (words1.take 24).all (fun c => isCode c || c.before args0 about1) = true := by decide +kernel
set_option maxRecDepth 65536 in
theorem w_t2 : ((words1.drop 24).take 24).all (fun c => isCode c || c.before args0 about1) = true := by decide +kernel
set_option maxRecDepth 65536 in
theorem w_t3 : ((words1.drop 24).drop 24).all (fun c => isCode c || c.before args0 about1) = true := by decide +kernel
theorem w_tables : (allAtoms (Jvm.Cond.code x code maxLocals ret :: tables_1)).before args0 about1 = true := by
  rw [allAtoms_all]
  show words1.all (fun c => c.before args0 about1) = true
  refine all_split ?_ w_codes
  rw [← List.take_append_drop 24 words1, List.all_append, w_t1, ← List.take_append_drop 24 (words1.drop 24), List.all_append, w_t2, w_t3]
  rfl
set_option maxRecDepth 65536 in
theorem w_rest : rest_1_c.before args0 about1 = true := by decide +kernel
set_option maxRecDepth 65536 in
theorem w_case : (Jvm.Cond.and given_1 narrow_1).before args0 about1 = true := by decide +kernel
theorem w_applies : (headSpec (Jvm.Cond.code x code maxLocals ret :: tables_1) room_1).applies x e0.platform about1 = true :=
  (Spec.applies_iff w_frames).mpr ⟨w_running, w_runnable, w_alone, w_named, w_hears, w_ripe, w_room, w_tables⟩
theorem atStart : AtStart classFile x code maxLocals ret World_1 tables_1 room_1 Calls_1 rest_1 Pre_1 launch0 p0 e0 about1 theMethod args0 below0 :=
  ⟨lists_1, trivial, launch0.admits_env _ _ _, launch0.least_env, fairChoices_fair.cas, fairChoices_fair.clock, w_frames, w_args, w_heap, w_applies, trivial, w_rest, w_case⟩
end start1
theorem witness_1 : WitnessClaimed_1 := ⟨start1.p0, start1.e0, start1.about1, start1.theMethod, start1.args0, start1.below0, start1.atStart⟩
end Jvm.Pilot.@@N@@
