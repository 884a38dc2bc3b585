import JvmDerived
import JvmDerived.Pilot.@@N@@Statement
import JvmDerived.Pilot.@@N@@Code
set_option linter.unusedVariables false
set_option linter.unusedSimpArgs false
namespace Jvm.OwnKit
open Sem ClassFile Op Lib Bundle Jvm.Stand Jvm.Free Jvm.LawKit Jvm.RoadKit
section Kit
variable {p : Program} {l : Launch} {e : Env} {R : Room} {s : State} {m : MethodId} {args : Array Value} {below : List Frame} {meth : Method} {c : Code} {Z : State} {a0 : Array Value} {EL : List (String × Nat)} {own : String} {Q : Option Value → Vm → Heap → Prop} {vm : Vm} {h : Heap} {cells slots : Nat} {g : JFrame}
/-- the k-th word -/
theorem ow {L : List Jvm.Cond} (hw : ∀ d ∈ L, d.before a0 Z = true) (k : Nat) {d : Jvm.Cond} (q : L[k]? = some d) : d.before a0 Z = true := hw _ (List.mem_of_getElem? q)
abbrev vr (a : Addr) : Slot := .val (.ref a)
abbrev vi (x : Int32) : Slot := .val (.int x)
abbrev un : Slot := .unset
/-- a standing place of a walk that may have interned: tables vm, heap h, usage -/
def St (p : Program) (l : Launch) (e : Env) (R : Room) (s : State) (m : MethodId) (args : Array Value) (below : List Frame) (meth : Method) (c : Code) (Z : State) (a0 : Array Value) (EL : List (String × Nat)) (own : String) (vm : Vm) (T : State) (h : Heap) (cells slots : Nat) : Prop :=
  ∃ (locs : List Loc) (k0 : Nat), Stand p l e R (s.setVm vm) m args below meth c T locs cells slots ∧ T.heap = h ∧ Z.Warmed39 vm ∧ vm.findClass own = some m.cls ∧ s.Since vm k0 ∧ k0 ≤ h.size ∧ Fr Z.heap.size locs ∧ CHr Z EL s.vm s.heap vm h ∧ Ext Z.heap s.heap ∧ EW Z a0 EL ∧ p.tables.exec = Jvm.exec ∧ meth.locks = false
/-- from every such place with this frame the method ends as Q says -/
def Go (p : Program) (l : Launch) (e : Env) (R : Room) (s : State) (m : MethodId) (args : Array Value) (below : List Frame) (meth : Method) (c : Code) (Z : State) (a0 : Array Value) (EL : List (String × Nat)) (own : String) (Q : Option Value → Vm → Heap → Prop) (vm : Vm) (h : Heap) (cells slots : Nat) (g : JFrame) : Prop :=
  ∀ T, St p l e R s m args below meth c Z a0 EL own vm T h cells slots → ∃ s₂ o, Steps p.tables e below (T.setTop g) s₂ ∧ s₂.status = .running ∧ Ended s₂ below o ∧
    ∃ v L, o = .returned v ∧ (Fr Z.heap.size L ∧ Q v s₂.vm s₂.heap) ∧ CHr Z EL s.vm s.heap s₂.vm s₂.heap ∧ ReturnedEndW s o s₂ L R.cells R.slots
/-- a plain step -/
theorem gs (g' : JFrame) (st : ∀ T target, At T m c below → Steps p.tables e below (T.setTop g') target → Steps p.tables e below (T.setTop g) target)
    (k : Go p l e R s m args below meth c Z a0 EL own Q vm h cells slots g') : Go p l e R s m args below meth c Z a0 EL own Q vm h cells slots g := fun T X => by
  obtain ⟨s2, o, q1, q2⟩ := k T X
  obtain ⟨locs, k0, X', -⟩ := X
  exact ⟨s2, o, st _ _ X'.here q1, q2⟩
theorem gat (g' : JFrame) (q : g = g') (k : Go p l e R s m args below meth c Z a0 EL own Q vm h cells slots g') : Go p l e R s m args below meth c Z a0 EL own Q vm h cells slots g := q ▸ k
/-- a step that asks the standing place -/
theorem gx (g' : JFrame) (st : ∀ T locs, Stand p l e R (s.setVm vm) m args below meth c T locs cells slots → Z.Warmed39 vm → vm.findClass own = some m.cls → T.heap = h → ∀ target, Steps p.tables e below (T.setTop g') target → Steps p.tables e below (T.setTop g) target)
    (k : Go p l e R s m args below meth c Z a0 EL own Q vm h cells slots g') : Go p l e R s m args below meth c Z a0 EL own Q vm h cells slots g := fun T X => by
  obtain ⟨s2, o, q1, q2⟩ := k T X
  obtain ⟨locs, k0, X', eT, hZ, hown, -⟩ := X
  exact ⟨s2, o, st _ _ X' hZ hown eT _ q1, q2⟩
/-- a step to another state, the heap as it was -/
theorem gy (g' : JFrame) (st : ∀ T locs, Stand p l e R (s.setVm vm) m args below meth c T locs cells slots → Z.Warmed39 vm → vm.findClass own = some m.cls → T.heap = h → ∃ T', Stand p l e R (s.setVm vm) m args below meth c T' locs cells slots ∧ T'.heap = h ∧ ∀ target, Steps p.tables e below (T'.setTop g') target → Steps p.tables e below (T.setTop g) target)
    (k : Go p l e R s m args below meth c Z a0 EL own Q vm h cells slots g') : Go p l e R s m args below meth c Z a0 EL own Q vm h cells slots g := fun T X => by
  obtain ⟨locs, k0, X', eT, hZ, hown, r⟩ := X
  obtain ⟨T', X1, e1, s1⟩ := st T locs X' hZ hown eT
  obtain ⟨s2, o, q1, q2⟩ := k T' ⟨locs, k0, X1, e1, hZ, hown, r⟩
  exact ⟨s2, o, s1 _ q1, q2⟩
/-- what the standing place knows -/
theorem ginfo (k : Z.Warmed39 vm → CHv Z EL vm h → Ext Z.heap h → Go p l e R s m args below meth c Z a0 EL own Q vm h cells slots g) : Go p l e R s m args below meth c Z a0 EL own Q vm h cells slots g := fun T X => by
  have X0 := X
  obtain ⟨locs, k0, X', eT, hZ, hown, hS, hk, N, H, E0, r⟩ := X
  refine k hZ H.1 ⟨?_, ?_⟩ T X0
  · exact Nat.le_trans E0.1 H.2.1
  · intro b cl hcl
    have hb := (Array.getElem?_eq_some_iff.mp hcl).1
    obtain ⟨c', h1, h2, -, h4⟩ := X'.same.2.2.2.2.2 b cl (show s.heap[b]? = some cl from E0.2 b cl hcl)
    have hsl : c'.slots = cl.slots := Array.ext_getElem? fun i => h4 i fun hm => absurd (N _ hm) (Nat.not_le.mpr hb)
    have hcc : c' = cl := by rw [h2, hsl]
    have h1' : T.heap[b]? = some c' := h1
    rw [← eT, ← hcc]; exact h1'
theorem gmono {cells' slots' : Nat} (hc : cells ≤ cells') (hs : slots ≤ slots') (k : Go p l e R s m args below meth c Z a0 EL own Q vm h cells' slots' g) : Go p l e R s m args below meth c Z a0 EL own Q vm h cells slots g := fun T X => by
  obtain ⟨locs, k0, X', r⟩ := X
  exact k T ⟨locs, k0, { X' with same := X'.same.mono hc hs }, r⟩
/-- the heap grows at its end -/
theorem gnew {cells' slots' : Nat} {P : Heap → Prop} (g' : Heap → JFrame)
    (st : ∀ T locs, Stand p l e R (s.setVm vm) m args below meth c T locs cells slots → Z.Warmed39 vm → vm.findClass own = some m.cls → T.heap = h → ∃ T' h', Stand p l e R (s.setVm vm) m args below meth c T' locs cells' slots' ∧ T'.heap = h' ∧ Ext h h' ∧ P h' ∧ ∀ target, Steps p.tables e below (T'.setTop (g' h')) target → Steps p.tables e below (T.setTop g) target)
    (k : ∀ h', Ext h h' → CHr Z EL vm h vm h' → P h' → Z.heap.size ≤ h.size → Safe Z EL vm h' h.size → Go p l e R s m args below meth c Z a0 EL own Q vm h' cells' slots' (g' h')) : Go p l e R s m args below meth c Z a0 EL own Q vm h cells slots g := fun T X => by
  obtain ⟨locs, k0, X', eT, hZ, hown, hS, hk, N, H, E0, r⟩ := X
  obtain ⟨T', h', X1, e1, E, hP, s1⟩ := st T locs X' hZ hown eT
  obtain ⟨s2, o, q1, q2⟩ := k h' E (CHr.ext E H.1) hP (Nat.le_trans E0.1 H.2.1) (Safe.ext E H.1 (Safe.new (Nat.le_refl _))) T' ⟨locs, k0, X1, e1, hZ, hown, hS, Nat.le_trans hk E.1, N, H.trans (CHr.ext E H.1), E0, r⟩
  exact ⟨s2, o, s1 _ q1, q2⟩
/-- one place is written -/
theorem gwr (g' : JFrame) {a : Addr} {sl : Nat} {v : Value} (ha : Z.heap.size ≤ a) (hs : Z.vm.Alike vm → Safe Z EL vm h a)
    (st : ∀ T locs, Stand p l e R (s.setVm vm) m args below meth c T locs cells slots → Z.Warmed39 vm → vm.findClass own = some m.cls → T.heap = h → ∃ T' h', Stand p l e R (s.setVm vm) m args below meth c T' (locs ++ [⟨a, sl⟩]) cells slots ∧ T'.heap = h' ∧ Wr h h' a sl v ∧ ∀ target, Steps p.tables e below (T'.setTop g') target → Steps p.tables e below (T.setTop g) target)
    (k : ∀ h', Wr h h' a sl v → CHr Z EL vm h vm h' → Go p l e R s m args below meth c Z a0 EL own Q vm h' cells slots g') : Go p l e R s m args below meth c Z a0 EL own Q vm h cells slots g := fun T X => by
  obtain ⟨locs, k0, X', eT, hZ, hown, hS, hk, N, H, E0, r⟩ := X
  obtain ⟨T', h', X1, e1, W, s1⟩ := st T locs X' hZ hown eT
  obtain ⟨s2, o, q1, q2⟩ := k h' W (CHr.wr W (hs hZ.alike) H.1) T' ⟨_, k0, X1, e1, hZ, hown, hS, by rw [W.size]; exact hk, Fr.snoc X1 N ha, H.trans (CHr.wr W (hs hZ.alike) H.1), E0, r⟩
  exact ⟨s2, o, s1 _ q1, q2⟩
/-- the end -/
theorem gret {v : Option Value} (hv : meth.sig.returnType = none → v = none) (hc : cells ≤ R.cells) (hs : slots ≤ R.slots)
    (st : ∀ T locs fs, Stand p l e R (s.setVm vm) m args below meth c T locs cells slots → (∀ (f : JFrame) (acts : List Action), f.method = m → f.locked = none → f.entered = [] → (doReturn e (T.setTop f) acts v).1 = T.setFrames fs) → Steps p.tables e below (T.setTop g) (T.setFrames fs))
    (hq : ∀ vm', CHr Z EL vm h vm' h → Q v vm' h) : Go p l e R s m args below meth c Z a0 EL own Q vm h cells slots g := fun T X => by
  obtain ⟨locs, k0, X', eT, hZ, hown, hS, hk, N, H, E0, hw, hx, hlk⟩ := X
  obtain ⟨fs, hr, hrun, hend, hW⟩ := X'.leaveW hS (by rw [eT]; exact hk) hv hlk
  have C1 : CHr Z EL vm h T.vm h := CHv.at X' hZ hw H.1
  refine ⟨_, _, st T locs fs X' hr, hrun, hend, v, locs, rfl, ⟨N, ?_⟩, ?_, ?_⟩
  · show Q v T.vm T.heap
    rw [eT]; exact hq _ C1
  · show CHr Z EL s.vm s.heap T.vm T.heap
    rw [eT]; exact H.trans C1
  · exact ⟨hW.1, hW.2.1, hW.2.2.1, hW.2.2.2.mono hc hs⟩
theorem gretI {pc : Nat} {Ls : Array Slot} {z : Int32} {rest : List Value} (hx : p.tables.exec = Jvm.exec) (hret : meth.sig.returnType = some .int) (hd : decode c.code pc = .ok (.ireturn, 1)) (hc : cells ≤ R.cells) (hs : slots ≤ R.slots)
    (hq : ∀ vm', CHr Z EL vm h vm' h → Q (some (.int z)) vm' h) : Go p l e R s m args below meth c Z a0 EL own Q vm h cells slots (mkF m pc Ls (.int z :: rest)) :=
  gret (v := some (.int z)) (fun q => by rw [hret] at q; cases q) hc hs (fun T locs fs X hr => retOut X hx hret rfl (Or.inl ⟨rfl, Or.inl rfl, z, rfl⟩) hd hr) hq
theorem gretN {t : FieldType} {pc : Nat} {Ls : Array Slot} {z : Int32} {rest : List Value} (hx : p.tables.exec = Jvm.exec) (hret : meth.sig.returnType = some t) (ht : t = .boolean ∨ t = .byte ∨ t = .char ∨ t = .short) (hd : decode c.code pc = .ok (.ireturn, 1)) (hc : cells ≤ R.cells) (hs : slots ≤ R.slots)
    (hq : ∀ vm', CHr Z EL vm h vm' h → Q (some (.int (nar t z))) vm' h) : Go p l e R s m args below meth c Z a0 EL own Q vm h cells slots (mkF m pc Ls (.int z :: rest)) :=
  gret (v := some (.int (nar t z))) (fun q => by rw [hret] at q; cases q) hc hs (fun T locs fs X hr => retN X hx hret ht hd hr) hq
theorem gretA {t : FieldType} {pc : Nat} {Ls : Array Slot} {v : Value} {rest : List Value} (hx : p.tables.exec = Jvm.exec) (hret : meth.sig.returnType = some t) (ht : t.isReference = true) (hv : v.isRef = true) (hd : decode c.code pc = .ok (.areturn, 1)) (hc : cells ≤ R.cells) (hs : slots ≤ R.slots)
    (hq : ∀ vm', CHr Z EL vm h vm' h → Q (some v) vm' h) : Go p l e R s m args below meth c Z a0 EL own Q vm h cells slots (mkF m pc Ls (v :: rest)) :=
  gret (v := some v) (fun q => by rw [hret] at q; cases q) hc hs (fun T locs fs X hr => retOut X hx hret (by cases t <;> first | (cases ht; done) | (cases v <;> first | rfl | (cases hv; done))) (Or.inr (Or.inr (Or.inr (Or.inr ⟨rfl, ht, hv⟩)))) hd hr) hq
theorem gretV {pc : Nat} {Ls : Array Slot} (hx : p.tables.exec = Jvm.exec) (hret : meth.sig.returnType = none) (hd : decode c.code pc = .ok (.return_, 1)) (hc : cells ≤ R.cells) (hs : slots ≤ R.slots)
    (hq : ∀ vm', CHr Z EL vm h vm' h → Q none vm' h) : Go p l e R s m args below meth c Z a0 EL own Q vm h cells slots (mkF m pc Ls []) :=
  gret (v := none) (fun _ => rfl) hc hs (fun T locs fs X hr => X.returnOut hx hret hd hr) hq
/-! contracts -/
def Met (l : Launch) (y : MethodName) (bytes : ByteArray) (maxL : Nat) (ret : Option FieldType) (ws : List Jvm.Cond) (rm : Room) (Z : State) (EL : List (String × Nat)) (vm0 : Vm) (h0 : Heap) (as' : Array Value) (Q : Option Value → Vm → Heap → Prop) : Prop :=
  MetFree l y (head1 (Jvm.Cond.code y bytes maxL ret :: ws) rm) (fun a U => a = as' ∧ Z.Warmed39 U.vm ∧ U.heap = h0 ∧ CHr Z EL vm0 h0 U.vm h0 ∧ (Z.setVm vm0).Warmed39 U.vm) (fun _ _ _ _ _ => True)
    (fun _ U o U' => ∃ v L, o = .returned v ∧ (Fr Z.heap.size L ∧ Q v U'.vm U'.heap) ∧ CHr Z EL U.vm U.heap U'.vm U'.heap ∧ ReturnedEndW U o U' L rm.cells rm.slots)
theorem Met.of_walk {y : MethodName} {bytes : ByteArray} {maxL : Nat} {ret : Option FieldType} {ws : List Jvm.Cond} {rm : Room} {vm0 : Vm} {h0 : Heap} {as' : Array Value} (L0 : Array Slot) (hpn : plainFor y = true) (X00 : Ext Z.heap h0) (hEL : EW Z a0 EL)
    (hef : ∀ m, entryFrame m as' maxL = mkF m 0 L0 [])
    (walk : ∀ (p : Program) (e : Env) (s : State) (m : MethodId) (below : List Frame) (meth : Method) (c : Code) (vm : Vm), p.tables.exec = Jvm.exec → c.code = bytes → c.maxLocals = maxL → meth.sig.returnType = ret → meth.name = y.name → CHr Z EL vm0 h0 vm h0 → (Z.setVm vm0).Warmed39 vm →
      Go p l e rm s m as' below meth c Z a0 EL y.cls Q vm h0 0 0 (mkF m 0 L0 [])) : Met l y bytes maxL ret ws rm Z EL vm0 h0 as' Q := by
  refine MetFree.of_bodySF hpn hisR ?_
  intro p e s m args below meth c s₁ Bd hml0 hP hK
  obtain ⟨rfl, hZ, hh, hC, hW0⟩ := hP
  have X0 : Stand p l e rm s m args below meth c s₁ [] 0 0 := Stand.of_body Bd
  have e0 : s₁.heap = h0 := by rw [← hh, Bd.state]; rfl
  obtain ⟨s2, o, q1, q2⟩ := walk p e s m below meth c s.vm Bd.exec Bd.bytes hml0 Bd.returns (name_of_methodNamed Bd.named Bd.method).1 hC hW0 s₁
    ⟨[], 0, X0, e0, hZ, findClass_of_methodNamed Bd.named, (State.WarmedH.refl s).since 0, Nat.zero_le _, Fr.nil _, by rw [hh]; exact CHr.refl hC.1, by rw [hh]; exact X00, hEL, Bd.exec, Bd.notSynchronized⟩
  exact ⟨s2, o, by rw [hef]; exact q1, q2⟩
def Pay (l : Launch) (R : Room) (p : Program) (e : Env) (below : List Frame) (s : State) (args : Array Value) (Z : State) (EL : List (String × Nat)) (vm : Vm) (h : Heap) (y : MethodName) (len W : Nat) (as' : Array Value) (rc rs : Nat) (Q : Option Value → Vm → Heap → Prop) : Prop :=
  BackS l R p e below (s.setVm vm) args y len W (fun A a => a = as' ∧ A.U.heap = h ∧ A.cells + rc ≤ R.cells ∧ A.slots + rs ≤ R.slots)
    (fun A _ v B => ∃ L, (Fr Z.heap.size L ∧ Q v B.U.vm B.U.heap) ∧ B.locs = A.locs ++ L ∧ B.cells = A.cells + rc ∧ B.slots = A.slots + rs ∧ CHr Z EL vm h B.U.vm B.U.heap)
theorem Pay.of_met {y : MethodName} {bytes : ByteArray} {maxL : Nat} {ret : Option FieldType} {rm : Room} {len W : Nat} {as' : Array Value} (hM : Met l y bytes maxL ret [] rm Z EL vm h as' Q)
    (wc : (Jvm.Cond.code y bytes maxL ret).before a0 Z = true) (wz : (Jvm.Cond.initialized y.cls).before a0 Z = true) (hf : rm.frames + 1 ≤ R.frames) (hl : W + (maxL + 11) + rm.locals ≤ R.locals) (hZ : Z.Warmed39 vm) (H : CHv Z EL vm h) (hEL : EW Z a0 EL) :
    Pay l R p e below s args Z EL vm h y len W as' rm.cells rm.slots Q :=
  BackS.of_freeW (bytes := bytes) (maxL := maxL) (ret := ret) (E := fun _ first o t L k n => k = rm.cells ∧ n = rm.slots ∧ (∃ v, o = .returned v ∧ (Fr Z.heap.size L ∧ Q v t.vm t.heap)) ∧ CHr Z EL first.vm first.heap t.vm t.heap) hM hf hl
    (fun m meth c A a Y hp => have hU : Z.Warmed39 A.U.vm := wtrans (s := s.setVm vm) hZ Y.warmed
      ⟨by show (Jvm.Cond.and _ .tt).before a A.U = true; rw [Cond.before_and, mv hU wc]; rfl, mv hU wc, mv hU wz, hp.2.2.1, hp.2.2.2⟩)
    (fun m meth c A a g mk Y hp => ⟨hp.1, wtrans (s := s.setVm vm) hZ Y.warmed, hp.2.1, (show CHr Z EL vm h A.U.vm h from CHv.at Y hZ hEL H), State.Warmed39.of_rootvm (s := s.setVm vm) rfl (show (s.setVm vm).Warmed39 A.U.vm from Y.warmed.wide)⟩) (fun _ _ _ _ _ _ _ _ _ => trivial)
    (fun _ _ _ _ ⟨v, L, h1, h2, h3, h4⟩ => ⟨L, _, _, h4, rfl, rfl, ⟨v, h1, h2⟩, h3⟩)
    (fun m meth c A a g mk v t L k n Y hp _ _ ⟨e1, e2, ⟨v', e3, e4⟩, e5⟩ => by
      cases e3; subst e1 e2
      refine ⟨L, e4, rfl, rfl, rfl, (CHv.at Y hZ hEL H).trans ?_⟩
      rw [← hp.2.1]; exact e5)
theorem Pay.of_back {y : MethodName} {len W : Nat} {as' : Array Value} {rc rs : Nat} {Q0 : Option Value → Heap → List Loc → Prop}
    (hK : Back l R p e below (s.setVm vm) args y len W (fun A a => a = as' ∧ A.U.heap = h ∧ A.cells + rc ≤ R.cells ∧ A.slots + rs ≤ R.slots) (fun A _ v B => ∃ L, Q0 v B.U.heap L ∧ B.locs = A.locs ++ L ∧ B.cells = A.cells + rc ∧ B.slots = A.slots + rs))
    (hZ : Z.Warmed39 vm) (H : CHv Z EL vm h) (hEL : EW Z a0 EL)
    (hq : ∀ v h' L, Q0 v h' L → Fr Z.heap.size L ∧ (∃ ws, Keep h h' ws ∧ ∀ x ∈ ws, Safe Z EL vm h x) ∧ ∀ vm', CHr Z EL vm h vm' h' → Q v vm' h') : Pay l R p e below s args Z EL vm h y len W as' rc rs Q := by
  intro m meth c A g ig mk a X hg hsize hdg hW hn hp
  obtain ⟨v, B, X', ⟨L, q0, q1, q2, q3⟩, hsteps⟩ := hK m meth c A g ig mk a X hg hsize hdg hW hn hp
  obtain ⟨hF, ⟨ws, K, hs⟩, hQ⟩ := hq _ _ _ q0
  have C1 : CHr Z EL vm h vm B.U.heap := CHr.keep K hs H
  have C2 : CHr Z EL vm h B.U.vm B.U.heap := C1.trans (CHv.at X' hZ hEL C1.1)
  exact ⟨v, B, X'.retabled X'.warmed.wide, X'.warmed.since _, by rw [hp.2.1]; exact K.1, ⟨L, ⟨hF, hQ _ C2⟩, q1, q2, q3, C2⟩, hsteps⟩
theorem Pay.mono {y : MethodName} {len W rc rs : Nat} {as' : Array Value} {Q' : Option Value → Vm → Heap → Prop} (hP : Pay l R p e below s args Z EL vm h y len W as' rc rs Q) (hq : ∀ v vm' h', Q v vm' h' → Q' v vm' h') : Pay l R p e below s args Z EL vm h y len W as' rc rs Q' := by
  intro m meth c A g ig mk a X hg hsize hdg hW hn hp
  obtain ⟨v, B, X', h1, h2, ⟨L, ⟨q1, q2⟩, r⟩, st⟩ := hP m meth c A g ig mk a X hg hsize hdg hW hn hp
  exact ⟨v, B, X', h1, h2, ⟨L, ⟨q1, hq _ _ _ q2⟩, r⟩, st⟩
/-- behind any call -/
theorem gback {y : MethodName} {rc rs : Nat} {as' : Array Value} {Q' : Option Value → Vm → Heap → Prop} {rest : List Value} {pc' : Nat} {L : Array Slot}
    (st : ∀ T locs, Stand p l e R (s.setVm vm) m args below meth c T locs cells slots → Z.Warmed39 vm → vm.findClass own = some m.cls → T.heap = h → CHv Z EL vm h → EW Z a0 EL →
      ∃ (v : Option Value) (vm₁ : Vm) (B : Pt), (s.setVm vm).WarmedH vm₁ ∧ Stand p l e R ((s.setVm vm).setVm B.U.vm) m args below meth c B.U B.locs B.cells B.slots ∧ (s.setVm vm).Since B.U.vm B.U.heap.size ∧ T.heap.size ≤ B.U.heap.size ∧
        (∃ L, (Fr Z.heap.size L ∧ Q' v B.U.vm B.U.heap) ∧ B.locs = locs ++ L ∧ B.cells = cells + rc ∧ B.slots = slots + rs ∧ CHr Z EL vm h B.U.vm B.U.heap) ∧ Steps p.tables e below (T.setTop g) (B.U.setTop (mkF m pc' L (v.toList ++ rest))))
    (k : ∀ v vm' h', CHr Z EL vm h vm' h' → Q' v vm' h' → Go p l e R s m args below meth c Z a0 EL own Q vm' h' (cells + rc) (slots + rs) (mkF m pc' L (v.toList ++ rest))) : Go p l e R s m args below meth c Z a0 EL own Q vm h cells slots g := fun T X => by
  obtain ⟨locs, k0, X', eT, hZ, hown, hS, hk, N, H, E0, hEL, hx, hlk⟩ := X
  obtain ⟨v, vm1, ⟨U, Lx, cx, sx⟩, hW1, X1, hS1, hgr, ⟨L1, ⟨hF, hQ⟩, hl, hc, hs, hC⟩, s1⟩ := st T locs X' hZ hown eT H.1 hEL
  dsimp only [Pt.U, Pt.locs, Pt.cells, Pt.slots] at X1 hS1 hgr hF hQ hl hc hs hC s1
  subst hl hc hs
  obtain ⟨s2, o, q1, q2⟩ := k v U.vm U.heap hC hQ U ⟨_, U.heap.size, X1, rfl, State.Warmed39.trans (t := s.setVm vm) hZ hS1.1, (hS1.1.alike.findClass _ _).trans hown, hS.trans hS1 (Nat.le_trans hk (by rw [← eT]; exact hgr)), Nat.le_refl _, Fr.app N hF, H.trans hC, E0, hEL, hx, hlk⟩
  exact ⟨s2, o, s1.trans q1, q2⟩
end Kit
end Jvm.OwnKit
namespace Jvm.OwnKit
open Sem ClassFile Op Lib Bundle Jvm.Stand Jvm.Free Jvm.LawKit Jvm.RoadKit
section Kit2
variable {p : Program} {l : Launch} {e : Env} {R : Room} {s : State} {m : MethodId} {args : Array Value} {below : List Frame} {meth : Method} {c : Code} {Z : State} {a0 : Array Value} {EL : List (String × Nat)} {own : String} {Q : Option Value → Vm → Heap → Prop} {vm : Vm} {h : Heap} {cells slots : Nat} {g : JFrame}
/-! calls -/
theorem gcallS {index : Nat} {y : MethodName} {bytes : ByteArray} {maxL : Nat} {ret : Option FieldType} (hx : p.tables.exec = Jvm.exec) (wl : (Cond.methodLink own index y).before a0 Z = true) (wst : (Cond.static y).before a0 Z = true) (wz : (Cond.initialized y.cls).before a0 Z = true) (wc : (Cond.code y bytes maxL ret).before a0 Z = true)
    (hy : y.cls ≠ "java/lang/invoke/MethodHandle" ∧ y.cls ≠ "java/lang/invoke/VarHandle") {W rc rs : Nat} {as' : Array Value} {Q' : Option Value → Vm → Heap → Prop} (hP : Z.Warmed39 vm → CHv Z EL vm h → EW Z a0 EL → Pay l R p e below s args Z EL vm h y 3 W as' rc rs Q')
    {pc : Nat} (pc' : Nat) {L : Array Slot} {S argsL rest : List Value} (hlen : ∀ sig, parseMethodDescriptor y.desc = some sig → argsL.length = sig.parameters.length) (has : argsL.toArray = as') (hstk : S = argsL.reverse ++ rest) (hW : (rest.map fun v => v.category).sum ≤ W) (hml : L.size = c.maxLocals)
    (hd : decode c.code pc = .ok (.invokestatic index, 3)) (hp : pc + 3 = pc') (hc : cells + rc ≤ R.cells) (hs : slots + rs ≤ R.slots)
    (k : ∀ v vm' h', CHr Z EL vm h vm' h' → Q' v vm' h' → Go p l e R s m args below meth c Z a0 EL own Q vm' h' (cells + rc) (slots + rs) (mkF m pc' L (v.toList ++ rest))) : Go p l e R s m args below meth c Z a0 EL own Q vm h cells slots (mkF m pc L S) :=
  gback (y := y) (as' := as') (fun T locs X hZ hown eT H hEL => by
    subst has hp hstk
    exact callSS (s := s.setVm vm) X hx hown (mvT hZ wl) (mvT hZ wst) (mvT hZ wz) (mvT hZ wc) hy (hP hZ H hEL) (g := mkF m pc L _) rfl hml hlen rfl (by show 2 * 0 + _ ≤ _; omega) hd (fun _ _ => ⟨rfl, eT, hc, hs⟩)) k
theorem gcallI {index : Nat} {y : MethodName} {bytes : ByteArray} {maxL : Nat} (hx : p.tables.exec = Jvm.exec) (hyi : y.name = "<init>") (wl : (Cond.methodLink own index y).before a0 Z = true) (wi : (Cond.instanceMethod y).before a0 Z = true) (wc : (Cond.code y bytes maxL none).before a0 Z = true)
    (hy : y.cls ≠ "java/lang/invoke/MethodHandle" ∧ y.cls ≠ "java/lang/invoke/VarHandle") {W rc rs : Nat} {as' : Array Value} {Q' : Option Value → Vm → Heap → Prop} (hP : Z.Warmed39 vm → CHv Z EL vm h → EW Z a0 EL → Pay l R p e below s args Z EL vm h y 3 W as' rc rs Q')
    {pc : Nat} (pc' : Nat) {L : Array Slot} {S argsL rest : List Value} {a : Addr} (hlen : ∀ sig, parseMethodDescriptor y.desc = some sig → argsL.length = sig.parameters.length) (has : (.ref a :: argsL).toArray = as') (hstk : S = argsL.reverse ++ .ref a :: rest) (hW : (rest.map fun v => v.category).sum ≤ W) (hml : L.size = c.maxLocals)
    (hd : decode c.code pc = .ok (.invokespecial index, 3)) (hp : pc + 3 = pc') (hc : cells + rc ≤ R.cells) (hs : slots + rs ≤ R.slots)
    (k : ∀ v vm' h', CHr Z EL vm h vm' h' → Q' v vm' h' → Go p l e R s m args below meth c Z a0 EL own Q vm' h' (cells + rc) (slots + rs) (mkF m pc' L (v.toList ++ rest))) : Go p l e R s m args below meth c Z a0 EL own Q vm h cells slots (mkF m pc L S) :=
  gback (y := y) (as' := as') (fun T locs X hZ hown eT H hEL => by
    subst has hp hstk
    exact X.specialBackS (s := s.setVm vm) hx hyi hown (mvT hZ wl) (mvT hZ wi) (mvT hZ wc) hy (hP hZ H hEL) (g := mkF m pc L _) rfl hml (Steps.refl _) hlen rfl (by show 2 * 0 + _ ≤ _; omega) hd (fun _ _ => ⟨rfl, eT, hc, hs⟩)) k
theorem gcallV {index : Nat} {C : String} {y z : MethodName} (hx : p.tables.exec = Jvm.exec) (wl : (Cond.methodLink own index y).before a0 Z = true) (wd : (Cond.declares y).before a0 Z = true) (nf : ∀ (U : State), Z.Warmed39 U.vm → NotFace U y) (wsel : (Cond.selects C y z).before a0 Z = true) (wi : (Cond.instanceMethod z).before a0 Z = true)
    (hy : y.cls ≠ "java/lang/invoke/MethodHandle" ∧ y.cls ≠ "java/lang/invoke/VarHandle") {W rc rs : Nat} {as' : Array Value} {Q' : Option Value → Vm → Heap → Prop} (hP : Z.Warmed39 vm → CHv Z EL vm h → EW Z a0 EL → Pay l R p e below s args Z EL vm h z 3 W as' rc rs Q')
    {pc : Nat} (pc' : Nat) {L : Array Slot} {S argsL rest : List Value} {a : Addr} (E : Exa Z h a C) (hlen : ∀ sig, parseMethodDescriptor y.desc = some sig → argsL.length = sig.parameters.length) (has : (.ref a :: argsL).toArray = as') (hstk : S = argsL.reverse ++ .ref a :: rest) (hW : (rest.map fun v => v.category).sum ≤ W) (hml : L.size = c.maxLocals)
    (hd : decode c.code pc = .ok (.invokevirtual index, 3)) (hp : pc + 3 = pc') (hc : cells + rc ≤ R.cells) (hs : slots + rs ≤ R.slots)
    (k : ∀ v vm' h', CHr Z EL vm h vm' h' → Q' v vm' h' → Go p l e R s m args below meth c Z a0 EL own Q vm' h' (cells + rc) (slots + rs) (mkF m pc' L (v.toList ++ rest))) : Go p l e R s m args below meth c Z a0 EL own Q vm h cells slots (mkF m pc L S) :=
  gback (y := z) (as' := as') (fun T locs X hZ hown eT H hEL => by
    subst has hp hstk
    obtain ⟨cB, kB, h1, h2, h3⟩ := isOf (s := s.setVm vm) hZ eT E
    exact X.virtualBackS (s := s.setVm vm) hx hown (mvT hZ wl) (mvT hZ wd) (nf _ hZ) (mvT hZ wsel) (mvT hZ wi) hy (hP hZ H hEL) h1 h3 (g := mkF m pc L _) rfl hml (Steps.refl _) hlen rfl (by show 2 * 0 + _ ≤ _; omega) hd (fun _ _ => ⟨rfl, eT, hc, hs⟩)) k
theorem nfSel {C : String} {y : MethodName} (w : (Cond.selects C y y).before a0 Z = true) : ∀ (U : State), Z.Warmed39 U.vm → NotFace U y := fun U hU => notFace_of_selects (args := #[]) (mvT hU w)
theorem gcallU {index : Nat} {K : String} {y : MethodName} {bytes : ByteArray} {maxL : Nat} {ret : Option FieldType} (hx : p.tables.exec = Jvm.exec) (wl : (Cond.methodLink own index y).before a0 Z = true) (wsm : (Cond.sameMethod y.cls y.cls y.name y.desc).before a0 Z = true) (wi : (Cond.instanceMethod y).before a0 Z = true) (wsu : (Cond.superclass own y.cls).before a0 Z = true) (hn : y.name ≠ "<init>") (wc : (Cond.code y bytes maxL ret).before a0 Z = true)
    {W rc rs : Nat} {as' : Array Value} {Q' : Option Value → Vm → Heap → Prop} (hP : Z.Warmed39 vm → CHv Z EL vm h → EW Z a0 EL → Pay l R p e below s args Z EL vm h y 3 W as' rc rs Q')
    {pc : Nat} (pc' : Nat) {L : Array Slot} {S argsL rest : List Value} {a : Addr} (I : Ins Z h a K true) (hlen : ∀ sig, parseMethodDescriptor y.desc = some sig → argsL.length = sig.parameters.length) (has : (.ref a :: argsL).toArray = as') (hstk : S = argsL.reverse ++ .ref a :: rest) (hW : (rest.map fun v => v.category).sum ≤ W) (hml : L.size = c.maxLocals)
    (hd : decode c.code pc = .ok (.invokespecial index, 3)) (hp : pc + 3 = pc') (hc : cells + rc ≤ R.cells) (hs : slots + rs ≤ R.slots)
    (k : ∀ v vm' h', CHr Z EL vm h vm' h' → Q' v vm' h' → Go p l e R s m args below meth c Z a0 EL own Q vm' h' (cells + rc) (slots + rs) (mkF m pc' L (v.toList ++ rest))) : Go p l e R s m args below meth c Z a0 EL own Q vm h cells slots (mkF m pc L S) :=
  gback (y := y) (as' := as') (fun T locs X hZ hown eT H hEL => by
    subst has hp hstk
    exact superBackS (s := s.setVm vm) X hx hZ hown wl wsm wi wsu hn (hP hZ H hEL) eT I (g := mkF m pc L _) rfl hml wc hlen rfl (by show 2 * 0 + _ ≤ _; omega) hd (fun _ _ => ⟨rfl, eT, hc, hs⟩)) k
/-- Object.<init> -/
theorem ginitO {idx : Nat} (hx : p.tables.exec = Jvm.exec) (w1 : (Cond.methodLink own idx Lib.objectInit).before a0 Z = true) (w2 : (Cond.instanceMethod Lib.objectInit).before a0 Z = true) (w3 : (Cond.code Lib.objectInit ⟨#[0xb1]⟩ 1 none).before a0 Z = true)
    {pc : Nat} (pc' : Nat) {L : Array Slot} {rest : List Value} {a : Addr} {W : Nat} (hW : (rest.map fun v => v.category).sum ≤ W) (hml : L.size = c.maxLocals) (hd : decode c.code pc = .ok (.invokespecial idx, 3)) (hp : pc + 3 = pc') (hf : 1 ≤ R.frames) (hl : W + 12 ≤ R.locals)
    (k : Go p l e R s m args below meth c Z a0 EL own Q vm h cells slots (mkF m pc' L rest)) : Go p l e R s m args below meth c Z a0 EL own Q vm h cells slots (mkF m pc L (.ref a :: rest)) :=
  gy _ (fun T locs X hZ hown eT => by
    subst hp
    exact initO (s := s.setVm vm) X hx hZ hown w1 w2 w3 eT (g := mkF m pc L (.ref a :: rest)) rfl hml rfl hd hf (W := W) (by show 2 * 0 + _ ≤ _; omega) hl) k
/-! fields -/
theorem ggetF {R0 O n d host : String} {index : Nat} (hx : p.tables.exec = Jvm.exec) (w : (Cond.fieldLink own index R0 n d).before a0 Z = true ∨ (Cond.fieldLinkNest own index R0 n d host).before a0 Z = true) (via : Via Z R0 O n d) {a : Addr} {v : Value} (F : Fld Z h a O n d v)
    {pc : Nat} (pc' : Nat) {L : Array Slot} {rest : List Value} (hd : decode c.code pc = .ok (.getfield index, 3)) (hp : pc + 3 = pc')
    (k : Go p l e R s m args below meth c Z a0 EL own Q vm h cells slots (mkF m pc' L (v :: rest))) : Go p l e R s m args below meth c Z a0 EL own Q vm h cells slots (mkF m pc L (.ref a :: rest)) :=
  gy _ (fun T locs X hZ hown eT => by
    subst hp
    exact getF (s := s.setVm vm) X hx hZ hown (host := host) w via eT F (g := mkF m pc L (.ref a :: rest)) rfl rfl hd) k
theorem ggetS {R0 O n d host : String} {index : Nat} (hx : p.tables.exec = Jvm.exec) (w : (Cond.fieldLink own index R0 n d).before a0 Z = true ∨ (Cond.fieldLinkNest own index R0 n d host).before a0 Z = true) (via : Via Z R0 O n d) {v : Value} (F : Sta Z Z.heap O n d v)
    {pc : Nat} (pc' : Nat) {L : Array Slot} {S : List Value} (hd : decode c.code pc = .ok (.getstatic index, 3)) (hp : pc + 3 = pc')
    (k : Go p l e R s m args below meth c Z a0 EL own Q vm h cells slots (mkF m pc' L (v :: S))) : Go p l e R s m args below meth c Z a0 EL own Q vm h cells slots (mkF m pc L S) :=
  ginfo fun _ _ E => gy _ (fun T locs X hZ hown eT => by
    subst hp
    exact getS2 (s := s.setVm vm) X hx hZ hown (host := host) w via eT (F.ext E) (g := mkF m pc L S) rfl hd) k
theorem gputF {R0 O n d host C : String} {index kk : Nat} {ty : FieldType} (hx : p.tables.exec = Jvm.exec) (w : (Cond.fieldLink own index R0 n d).before a0 Z = true ∨ (Cond.fieldLinkNest own index R0 n d host).before a0 Z = true) (via : Via Z R0 O n d) {a : Addr} {v old : Value} (F : Fld Z h a O n d old) (E : Exa Z h a C)
    (Lw : (Cond.lays C O n d).before a0 Z = true ∨ ((Cond.laysFinal C O n d).before a0 Z = true ∧ own = O ∧ meth.name = "<init>")) (wi : (Cond.instantiable C kk).before a0 Z = true) (hty : parseFieldDescriptor d = some ty) (hn : narrow ty v = v) (hf : fits ty v = true) (ha : Z.heap.size ≤ a) (hs : Z.vm.Alike vm → Safe Z EL vm h a)
    {pc : Nat} (pc' : Nat) {L : Array Slot} {rest : List Value} (hd : decode c.code pc = .ok (.putfield index, 3)) (hp : pc + 3 = pc')
    (k : ∀ h', Wr h h' a (Jvm.RoadKit.slotOf Z O n d) v → CHr Z EL vm h vm h' → Go p l e R s m args below meth c Z a0 EL own Q vm h' cells slots (mkF m pc' L rest)) : Go p l e R s m args below meth c Z a0 EL own Q vm h cells slots (mkF m pc L (v :: .ref a :: rest)) :=
  gwr _ ha hs (fun T locs X hZ hown eT => by
    subst hp
    exact putF (s := s.setVm vm) X hx hZ hown (host := host) w via eT F E Lw wi hty hn hf (g := mkF m pc L (v :: .ref a :: rest)) rfl rfl hd) k
/-! objects and arrays are made -/
theorem gnewO {C : String} {index n : Nat} (hx : p.tables.exec = Jvm.exec) (w : (Cond.classLink own index C).before a0 Z = true) (wi : (Cond.instantiable C n).before a0 Z = true) (wz : (Cond.initialized C).before a0 Z = true)
    {pc : Nat} (pc' : Nat) {L : Array Slot} {S : List Value} (hd : decode c.code pc = .ok (.new index, 3)) (hp : pc + 3 = pc') (hc : cells + 1 ≤ R.cells) (hl : slots + n ≤ R.slots)
    (k : ∀ (b : Addr) (h' : Heap), h.size = b → Ext h h' → CHr Z EL vm h vm h' → Exa Z h' b C → (∀ {O nm d : String} {ty : FieldType}, Laid Z a0 C O nm d → parseFieldDescriptor d = some ty → Fld Z h' b O nm d (defaultValue ty)) → Z.heap.size ≤ b → Safe Z EL vm h' b → Go p l e R s m args below meth c Z a0 EL own Q vm h' (cells + 1) (slots + n) (mkF m pc' L (.ref b :: S))) :
    Go p l e R s m args below meth c Z a0 EL own Q vm h cells slots (mkF m pc L S) :=
  gnew (P := fun h' => Exa Z h' h.size C ∧ ∀ (O nm d : String) (ty : FieldType), Laid Z a0 C O nm d → parseFieldDescriptor d = some ty → Fld Z h' h.size O nm d (defaultValue ty)) (fun _ => mkF m pc' L (.ref h.size :: S))
    (fun T locs X hZ hown eT => by
      subst hp
      obtain ⟨T', h', X', e', E, A, D, -, st⟩ := newO (s := s.setVm vm) X hx hZ hown w wi wz eT (g := mkF m pc L S) rfl hd hc hl
      exact ⟨T', h', X', e', E, ⟨A, fun _ _ _ _ q r => D q r⟩, st⟩)
    (fun h' E hC hP hz hs => k _ h' rfl E hC hP.1 (fun q r => hP.2 _ _ _ _ q r) hz hs)
/-! arrays are written and read -/
theorem gstC {a : Addr} {kc : ClassId} {n : Int32} {vs : List Value} {d : Value} {j x y : Int32} {i : Nat} (hx : p.tables.exec = Jvm.exec) (F : Arv Z h a kc .char n vs d) (hin : ¬ j < 0 ∧ j < n) (hj : j.toNatClampNeg = i) (hi : i < vs.length) (hy : nar .char x = y) (ha : Z.heap.size ≤ a)
    {pc : Nat} (pc' : Nat) {L : Array Slot} {rest : List Value} (hd : decode c.code pc = .ok (.castore, 1)) (hp : pc + 1 = pc')
    (k : ∀ h', Wr h h' a i (.int y) → CHr Z EL vm h vm h' → Arv Z h' a kc .char n (vs.set i (.int y)) d → Go p l e R s m args below meth c Z a0 EL own Q vm h' cells slots (mkF m pc' L rest)) : Go p l e R s m args below meth c Z a0 EL own Q vm h cells slots (mkF m pc L (.int x :: .int j :: .ref a :: rest)) := by
  subst hy hj hp
  obtain ⟨cl, Ar, q1, q2, q3, q4, q5⟩ := F
  exact gwr _ ha (fun al => Safe.arr al Ar (by decide)) (fun T locs X hZ hown eT => stC (s := s.setVm vm) X hx hZ eT Ar (j := j) (inb_of q2 hin) (g := mkF m pc L (.int x :: .int j :: .ref a :: rest)) rfl rfl hd) fun h' W hC => k h' W hC (Arv.set Ar q1 q2 q3 q4 q5 (fits_nar_char _) W _ rfl hi)
theorem gstB {a : Addr} {kc : ClassId} {n : Int32} {vs : List Value} {d : Value} {j x y : Int32} {i : Nat} (hx : p.tables.exec = Jvm.exec) (F : Arv Z h a kc .byte n vs d) (hin : ¬ j < 0 ∧ j < n) (hj : j.toNatClampNeg = i) (hi : i < vs.length) (hy : nar .byte x = y) (ha : Z.heap.size ≤ a) (hs : Z.vm.Alike vm → Safe Z EL vm h a)
    {pc : Nat} (pc' : Nat) {L : Array Slot} {rest : List Value} (hd : decode c.code pc = .ok (.bastore, 1)) (hp : pc + 1 = pc')
    (k : ∀ h', Wr h h' a i (.int y) → CHr Z EL vm h vm h' → Arv Z h' a kc .byte n (vs.set i (.int y)) d → Go p l e R s m args below meth c Z a0 EL own Q vm h' cells slots (mkF m pc' L rest)) : Go p l e R s m args below meth c Z a0 EL own Q vm h cells slots (mkF m pc L (.int x :: .int j :: .ref a :: rest)) := by
  subst hy hj hp
  obtain ⟨cl, Ar, q1, q2, q3, q4, q5⟩ := F
  exact gwr _ ha hs (fun T locs X hZ hown eT => stB (s := s.setVm vm) X hx hZ eT Ar (j := j) (inb_of q2 hin) (g := mkF m pc L (.int x :: .int j :: .ref a :: rest)) rfl rfl hd) fun h' W hC => k h' W hC (Arv.set Ar q1 q2 q3 q4 q5 (fits_nar_byte _) W _ rfl hi)
theorem gldC {a : Addr} {kc : ClassId} {n : Int32} {vs : List Value} {d v : Value} {j : Int32} {i : Nat} (hx : p.tables.exec = Jvm.exec) (F : Arv Z h a kc .char n vs d) (hin : ¬ j < 0 ∧ j < n) (hj : j.toNatClampNeg = i) (hv : vs.getD i d = v)
    {pc : Nat} (pc' : Nat) {L : Array Slot} {rest : List Value} (hd : decode c.code pc = .ok (.caload, 1)) (hp : pc + 1 = pc')
    (k : Go p l e R s m args below meth c Z a0 EL own Q vm h cells slots (mkF m pc' L (v :: rest))) : Go p l e R s m args below meth c Z a0 EL own Q vm h cells slots (mkF m pc L (.int j :: .ref a :: rest)) := by
  subst hj hp
  obtain ⟨cl, Ar, q1, q2, q3, q4, q5⟩ := F
  exact gx _ (fun T locs X hZ hown eT => X.caload (s := s.setVm vm) hx (by rw [eT]; exact Ar.1) (State.isArrayOf_alike hZ.alike Ar.2.1) Ar.2.2 (inb_of q2 hin) (q4.at (inb_of q2 hin) hv) (g := mkF m pc L (.int j :: .ref a :: rest)) rfl rfl hd) k
theorem gldB {a : Addr} {kc : ClassId} {n : Int32} {vs : List Value} {d v : Value} {j : Int32} {i : Nat} (hx : p.tables.exec = Jvm.exec) (F : Arv Z h a kc .byte n vs d) (hin : ¬ j < 0 ∧ j < n) (hj : j.toNatClampNeg = i) (hv : vs.getD i d = v)
    {pc : Nat} (pc' : Nat) {L : Array Slot} {rest : List Value} (hd : decode c.code pc = .ok (.baload, 1)) (hp : pc + 1 = pc')
    (k : Go p l e R s m args below meth c Z a0 EL own Q vm h cells slots (mkF m pc' L (v :: rest))) : Go p l e R s m args below meth c Z a0 EL own Q vm h cells slots (mkF m pc L (.int j :: .ref a :: rest)) := by
  subst hj hp
  obtain ⟨cl, Ar, q1, q2, q3, q4, q5⟩ := F
  exact gx _ (fun T locs X hZ hown eT => X.baloadBytes (s := s.setVm vm) hx (by rw [eT]; exact Ar.1) (State.isArrayOf_alike hZ.alike Ar.2.1) Ar.2.2 (inb_of q2 hin) (q4.at (inb_of q2 hin) hv) (g := mkF m pc L (.int j :: .ref a :: rest)) rfl rfl hd) k
theorem glen {a : Addr} {kc : ClassId} {ty : FieldType} {n : Int32} {vs : List Value} {d : Value} (hx : p.tables.exec = Jvm.exec) (F : Arv Z h a kc ty n vs d)
    {pc : Nat} (pc' : Nat) {L : Array Slot} {rest : List Value} (hd : decode c.code pc = .ok (.arraylength, 1)) (hp : pc + 1 = pc')
    (k : Go p l e R s m args below meth c Z a0 EL own Q vm h cells slots (mkF m pc' L (.int n :: rest))) : Go p l e R s m args below meth c Z a0 EL own Q vm h cells slots (mkF m pc L (.ref a :: rest)) := by
  subst hp
  obtain ⟨cl, Ar, q1, q2, q3, q4, q5⟩ := F
  exact gx _ (fun T locs X hZ hown eT t kk => X.arraylength (s := s.setVm vm) hx (by rw [eT]; exact Ar.1) (State.isArrayOf_alike hZ.alike Ar.2.1) (g := mkF m pc L (.ref a :: rest)) rfl rfl hd t (by rw [len_of q2 q3]; exact kk)) k
/-! casts, constants -/
theorem gcast {K : String} {index : Nat} (hx : p.tables.exec = Jvm.exec) (w : (Cond.classLink own index K).before a0 Z = true) {a : Addr} (F : Ins Z h a K true) {pc : Nat} (pc' : Nat) {L : Array Slot} {rest : List Value} (hd : decode c.code pc = .ok (.checkcast index, 3)) (hp : pc + 3 = pc')
    (k : Go p l e R s m args below meth c Z a0 EL own Q vm h cells slots (mkF m pc' L (.ref a :: rest))) : Go p l e R s m args below meth c Z a0 EL own Q vm h cells slots (mkF m pc L (.ref a :: rest)) :=
  gy _ (fun T locs X hZ hown eT => by
    subst hp
    exact castY (s := s.setVm vm) X hx hZ hown w eT F (g := mkF m pc L (.ref a :: rest)) rfl rfl hd) k
theorem gldcI {index : Nat} {v : Int32} (hx : p.tables.exec = Jvm.exec) (w : (Cond.constant own index v).before a0 Z = true) {pc : Nat} (pc' : Nat) {L : Array Slot} {S : List Value} (hd : decode c.code pc = .ok (.ldc index, 2)) (hp : pc + 2 = pc')
    (k : Go p l e R s m args below meth c Z a0 EL own Q vm h cells slots (mkF m pc' L (.int v :: S))) : Go p l e R s m args below meth c Z a0 EL own Q vm h cells slots (mkF m pc L S) :=
  gx _ (fun T locs X hZ hown eT => by
    subst hp
    exact X.ldcInt (s := s.setVm vm) hx hown (mvT hZ w) (g := mkF m pc L S) rfl hd) k
theorem gldcJ {index : Nat} {v : Int64} (hx : p.tables.exec = Jvm.exec) (w : (Cond.constantLong own index v).before a0 Z = true) {pc : Nat} (pc' : Nat) {L : Array Slot} {S : List Value} (hd : decode c.code pc = .ok (.ldc2_w index, 3)) (hp : pc + 3 = pc')
    (k : Go p l e R s m args below meth c Z a0 EL own Q vm h cells slots (mkF m pc' L (.long v :: S))) : Go p l e R s m args below meth c Z a0 EL own Q vm h cells slots (mkF m pc L S) :=
  gx _ (fun T locs X hZ hown eT => by
    subst hp
    exact X.ldc2Long (s := s.setVm vm) hx hown (mvT hZ w) (g := mkF m pc L S) rfl hd) k
/-- ldc of a String constant whose text isn't read -/
theorem gldcO {index : Nat} {text : String} (hx : p.tables.exec = Jvm.exec) (w : (Cond.stringLink own index text).before a0 Z = true) (wS : ∀ a ∈ Bundle.stringAtoms, a.before a0 Z = true) {n : Nat} (hn : 4 * text.toList.length ≤ n) (hbig : n ≤ 536870912)
    {pc : Nat} (pc' : Nat) {L : Array Slot} {S : List Value} (hd : decode c.code pc = .ok (.ldc index, 2)) (hp : pc + 2 = pc') (hc : cells + 2 ≤ R.cells) (hl : slots + (n + 4) ≤ R.slots)
    (k : ∀ (a : Addr) (vm' : Vm) (h' : Heap), Ext h h' → CHr Z EL vm h vm' h' → Go p l e R s m args below meth c Z a0 EL own Q vm' h' (cells + 2) (slots + (n + 4)) (mkF m pc' L (.ref a :: S))) : Go p l e R s m args below meth c Z a0 EL own Q vm h cells slots (mkF m pc L S) := fun T X => by
  subst hp
  obtain ⟨locs, k0, X', eT, hZ, hown, hS, hk, N, H, E0, hEL, hx', hlk⟩ := X
  obtain ⟨a, T', h', k1, X1, e1, E, hS1, hk1, hZ1, ho1, hC, -, st⟩ := ldcOH X' hx hZ hown w wS eT hS hk hEL H.1 (g := mkF m pc L S) rfl hd hn hbig hc hl
  obtain ⟨s2, o, q1, q2⟩ := k a T'.vm h' E hC T' ⟨locs, k1, X1, e1, hZ1, ho1, hS1, hk1, N, H.trans hC, E0, hEL, hx', hlk⟩
  exact ⟨s2, o, st _ q1, q2⟩
/-- ldc of a String constant of EL, read -/
theorem gldcR {index : Nat} {text : String} (hx : p.tables.exec = Jvm.exec) (w : (Cond.stringLink own index text).before a0 Z = true) (wS : ∀ a ∈ Bundle.stringAtoms, a.before a0 Z = true) (hmem : (own, index) ∈ EL) {n : Nat} (hn : 4 * text.toList.length ≤ n) (hbig : n ≤ 536870912)
    {vs : List Value} {z : Int32} (ht : (∀ c ∈ text.toList, c.toNat < 256) ∧ text.toList.map (fun c => Value.int (Jvm.Lit.byteI c.toNat.toUInt16)) = vs) (hz : ¬ z < 0) (hlz : z.toNatClampNeg = vs.length)
    {pc : Nat} (pc' : Nat) {L : Array Slot} {S : List Value} (hd : decode c.code pc = .ok (.ldc index, 2)) (hp : pc + 2 = pc') (hc : cells + 2 ≤ R.cells) (hl : slots + (n + 4) ≤ R.slots)
    (k : ∀ (a b : Addr) (kb : ClassId) (vm' : Vm) (h' : Heap), Ext h h' → CHr Z EL vm h vm' h' → Exa Z h' a "java/lang/String" → Fld Z h' a "java/lang/String" "coder" "B" (.int 0) → Fld Z h' a "java/lang/String" "value" "[B" (.ref b) → Arv Z h' b kb .byte z vs (.int 0) → (∀ x, Safe Z EL vm' h' x → x ≠ a ∧ x ≠ b) →
      Go p l e R s m args below meth c Z a0 EL own Q vm' h' (cells + 2) (slots + (n + 4)) (mkF m pc' L (.ref a :: S))) : Go p l e R s m args below meth c Z a0 EL own Q vm h cells slots (mkF m pc L S) := fun T X => by
  subst hp
  obtain ⟨locs, k0, X', eT, hZ, hown, hS, hk, N, H, E0, hEL, hx', hlk⟩ := X
  obtain ⟨a, T', h', k1, b, kb, X1, e1, E, hS1, hk1, hZ1, ho1, F1, F2, F3, F4, -, -, hC, -, F5, st⟩ := ldcCH X' hx hZ hown w wS eT hS hk hEL hmem H.1 ht hz hlz (g := mkF m pc L S) rfl hd hn hbig hc hl
  obtain ⟨s2, o, q1, q2⟩ := k a b kb T'.vm h' E hC F1 F2 F3 F4 F5 T' ⟨locs, k1, X1, e1, hZ1, ho1, hS1, hk1, N, H.trans hC, E0, hEL, hx', hlk⟩
  exact ⟨s2, o, st _ q1, q2⟩
end Kit2
end Jvm.OwnKit
namespace Jvm.OwnKit
open Sem ClassFile Op Lib Bundle Jvm.Stand Jvm.Free Jvm.LawKit Jvm.RoadKit
section Kit3
variable {p : Program} {l : Launch} {e : Env} {R : Room} {s : State} {m : MethodId} {args : Array Value} {below : List Frame} {meth : Method} {c : Code} {Z : State} {a0 : Array Value} {EL : List (String × Nat)} {own : String} {Q : Option Value → Vm → Heap → Prop} {vm : Vm} {h h' : Heap} {cells slots : Nat} {g : JFrame}
theorem gi2c {x y : Int32} (hx : p.tables.exec = Jvm.exec) (hy : x.toUInt32.toUInt16.toUInt32.toInt32 = y) {pc : Nat} (pc' : Nat) {L : Array Slot} {rest : List Value} (hd : decode c.code pc = .ok (.i2c, 1)) (hp : pc + 1 = pc')
    (k : Go p l e R s m args below meth c Z a0 EL own Q vm h cells slots (mkF m pc' L (.int y :: rest))) : Go p l e R s m args below meth c Z a0 EL own Q vm h cells slots (mkF m pc L (.int x :: rest)) := by
  subst hy hp
  exact gs _ (fun _ _ A k => XS.i2c A hx rfl hd rfl k) k
theorem narC (x : Int32) : nar .char (x &&& 255) = x &&& 255 := i2c_mask x
/-- a char of 0 to 255 -/
def B8 (c : Int32) : Prop := ¬ c < 0 ∧ ¬ (255 : Int32) < c
theorem b255 (x : Int32) : B8 (x &&& 255) := by
  have h := c_mask x 255 8 (by decide) (by decide)
  have e1 : (0 : Int32).toInt = 0 := rfl
  have e2 : (255 : Int32).toInt = 255 := rfl
  refine ⟨?_, ?_⟩
  · rw [Int32.lt_iff_toInt_lt, h, e1]; omega
  · rw [Int32.lt_iff_toInt_lt, h, e2]; omega
theorem bnil : ∀ c ∈ ([] : List Int32), B8 c := fun _ q => nomatch q
theorem bcons {a : Int32} {L : List Int32} (q : B8 a) (r : ∀ c ∈ L, B8 c) : ∀ c ∈ a :: L, B8 c := fun c z => (List.mem_cons.mp z).elim (fun u => u ▸ q) (r c)
/-- an ordinary Latin-1 String and its bytes -/
def Str (Z : State) (h : Heap) (a t : Addr) (cs : List Int32) : Prop := Exa Z h a "java/lang/String" ∧ Fld Z h a "java/lang/String" "coder" "B" (.int 0) ∧ Fld Z h a "java/lang/String" "value" "[B" (.ref t) ∧
  (∃ kb, Arv Z h t kb .byte (Int32.ofNat cs.length) ((cs.map fun c => c.toInt8.toInt32).map Value.int) (.int 0)) ∧ (∀ c ∈ cs, B8 c) ∧ cs.length ≤ 4000
variable {a t o : Addr} {cs : List Int32} {ws : List Addr} {sl : Nat} {v : Value}
theorem Str.ext (F : Str Z h a t cs) (E : Ext h h') : Str Z h' a t cs := by
  obtain ⟨f1, f2, f3, ⟨kb, f4⟩, f5⟩ := F
  exact ⟨f1.ext E, f2.ext E, f3.ext E, ⟨kb, f4.ext E⟩, f5⟩
theorem Str.keep (F : Str Z h a t cs) (K : Keep h h' ws) (q : a ∉ ws) (r : t ∉ ws) : Str Z h' a t cs := by
  obtain ⟨f1, f2, f3, ⟨kb, f4⟩, f5⟩ := F
  exact ⟨f1.keep K, f2.keep K q, f3.keep K q, ⟨kb, f4.keep K r⟩, f5⟩
theorem Str.other (F : Str Z h a t cs) (W : Wr h h' o sl v) (q : a ≠ o) (r : t ≠ o) : Str Z h' a t cs := by
  obtain ⟨f1, f2, f3, ⟨kb, f4⟩, f5⟩ := F
  exact ⟨f1.wr W, f2.other W (Or.inl q), f3.other W (Or.inl q), ⟨kb, f4.other W r⟩, f5⟩
theorem Str.tlt (F : Str Z h a t cs) : t < h.size := by
  obtain ⟨f1, f2, f3, ⟨kb, f4⟩, f5⟩ := F
  exact f4.lt
theorem Str.lit {kb : ClassId} {z : Int32} {vs : List Value} (E : Exa Z h a "java/lang/String") (C : Fld Z h a "java/lang/String" "coder" "B" (.int 0)) (V : Fld Z h a "java/lang/String" "value" "[B" (.ref t)) (A : Arv Z h t kb .byte z vs (.int 0)) (hb : ∀ c ∈ cs, ¬ c < 0 ∧ ¬ (255 : Int32) < c)
    (hz : z = Int32.ofNat cs.length) (hv : vs = (cs.map fun c => c.toInt8.toInt32).map Value.int) (hl : cs.length ≤ 4000) : Str Z h a t cs := ⟨E, C, V, ⟨kb, by rw [← hz, ← hv]; exact A⟩, hb, hl⟩
end Kit3
end Jvm.OwnKit
namespace Jvm.OwnKit
open Sem ClassFile Op Lib Bundle Jvm.Stand Jvm.Free Jvm.LawKit Jvm.RoadKit
section Kit4
variable {p : Program} {l : Launch} {e : Env} {R : Room} {s : State} {m : MethodId} {args : Array Value} {below : List Frame} {meth : Method} {c : Code} {Z : State} {a0 : Array Value} {EL : List (String × Nat)} {own : String} {Q : Option Value → Vm → Heap → Prop} {vm : Vm} {h h' : Heap} {cells slots : Nat} {g : JFrame}
/-- roads that meet -/
theorem gjoin (P : Vm → Heap → JFrame → Prop) (cells' slots' : Nat) (k1 : ∀ vm' h' g', P vm' h' g' → Go p l e R s m args below meth c Z a0 EL own Q vm' h' cells' slots' g')
    (k2 : (∀ vm' h' g', P vm' h' g' → Go p l e R s m args below meth c Z a0 EL own Q vm' h' cells' slots' g') → Go p l e R s m args below meth c Z a0 EL own Q vm h cells slots g) : Go p l e R s m args below meth c Z a0 EL own Q vm h cells slots g := k2 k1
variable {b : Addr} {cs : List Int32} {ws : List Addr} {sl : Nat} {v : Value} {o : Addr}
/-! out of the case's words -/
theorem eqI {t : Term} {x y : Int32} {idx : List Nat} (h1 : t.eval args s none idx s = some (.int x)) (h2 : (Cond.eq t (Term.int y)).value args s none s idx = some true) : x = y := by simpa [Cond.value, Term.eval, h1] using h2
theorem lenlt {t : Term} {v : Value} {aa : Addr} {cl : Cell} (h : (Term.length t).eval args s none [] s = some v) (ht : t.eval args s none [] s = some (.ref aa)) (hA : s.arrayAt? aa = some cl) : cl.slots.size < 2 ^ 31 := by
  apply Decidable.byContradiction
  intro hb
  simp [Term.eval, ht, hA, hb] at h
theorem lenI {t : Term} {n : Int32} {aa : Addr} {cl : Cell} (w : (Cond.eq (Term.length t) (Term.int n)).value args s none s [] = some true) (ht : t.eval args s none [] s = some (.ref aa)) (hA : s.arrayAt? aa = some cl) : cl.slots.size < 2 ^ 31 ∧ cl.slots.size.toInt32 = n := by
  obtain ⟨x, y, f1, f2, -, -⟩ := cmp_v (Or.inl w)
  have hb := lenlt f1 ht hA
  exact ⟨hb, eqI (len_f ht hA hb) w⟩
theorem elI {t : Term} {aa : Addr} {cl : Cell} {j y : Int32} (ht : t.eval args s none [] s = some (.ref aa)) (hc : s.heap[aa]? = some cl) (w : (Cond.eq (Term.elem t (Term.int j)) (Term.int y)).value args s none s [] = some true) : cl.slots[j.toNatClampNeg]? = some (.int y) := by
  obtain ⟨x, y', e1, e2, k1, k2⟩ := cmp_v (Or.inl w)
  cases (Option.some.inj e2 : Value.int y = y')
  obtain ⟨z, rfl⟩ := k2
  have := eqI e1 w
  subst this
  exact (elem_in e1 ht rfl hc).2
theorem fldI {t : Term} {aa : Addr} {C n d : String} {y : Int32} (ht : t.eval args s none [] s = some (.ref aa)) (w : (Cond.eq (Term.field t C n d) (Term.int y)).value args s none s [] = some true) : Fld s s.heap aa C n d (.int y) := by
  obtain ⟨x, y', e1, e2, k1, k2⟩ := cmp_v (Or.inl w)
  cases (Option.some.inj e2 : Value.int y = y')
  obtain ⟨z, rfl⟩ := k2
  have := eqI e1 w
  subst this
  exact Fld.start ((fld_at ht).symm.trans e1)
theorem Str.start {t : Term} {cs : List Int32} {n : Int32} {aa : Addr} (hf : Fit s) (ev : t.eval args s none [] s = some (.ref aa)) (wE : (Cond.exactly t "java/lang/String").value args s none s [] = some true) (wC : (Cond.eq (Term.field t "java/lang/String" "coder" "B") (Term.int 0)).value args s none s [] = some true)
    (wA : (Cond.arrayOf (Term.field t "java/lang/String" "value" "[B") .byte).value args s none s [] = some true) (wL : (Cond.eq (Term.length (Term.field t "java/lang/String" "value" "[B")) (Term.int n)).value args s none s [] = some true) (hn : n = Int32.ofNat cs.length) (hl : cs.length ≤ 4000) (hb : ∀ c ∈ cs, B8 c)
    (H : ∀ (tt : Addr) (cl : Cell), (Term.field t "java/lang/String" "value" "[B").eval args s none [] s = some (.ref tt) → s.heap[tt]? = some cl → HasL cl 0 ((cs.map fun c => c.toInt8.toInt32).map Value.int)) : ∃ tt, Str s s.heap aa tt cs := by
  obtain ⟨tt, et⟩ := arr_v wA
  obtain ⟨cl, Ar⟩ := Arr.start et wA
  have hA : s.arrayAt? tt = some cl := Ar.fin (Vm.Alike.refl _)
  obtain ⟨h1, h2⟩ := lenI wL et hA
  have hz : ¬ n < 0 := by rw [hn, Int32.lt_iff_toInt_lt, Int32.toInt_ofNat_of_lt (by omega)]; simp
  have hz2 : n.toNatClampNeg = cs.length := by rw [hn, Int32.toNatClampNeg, Int32.toInt_ofNat_of_lt (by omega)]; rfl
  refine ⟨tt, Exa.start ev wE, fldI ev wC, Fld.start ((fld_at ev).symm.trans et), ⟨cl.cls, ?_⟩, hb, hl⟩
  rw [← hn]
  exact Arv.start hf Ar h1 h2 hz (by rw [hz2]; simp) (H tt cl et Ar.1)
end Kit4
end Jvm.OwnKit
namespace Jvm.OwnKit
open Sem ClassFile Op Lib Bundle Jvm.Stand Jvm.Free Jvm.LawKit Jvm.RoadKit
section Kit5
variable {p : Program} {l : Launch} {e : Env} {R : Room} {s : State} {m : MethodId} {args : Array Value} {below : List Frame} {meth : Method} {c : Code} {Z : State} {a0 : Array Value} {EL : List (String × Nat)} {own : String} {Q : Option Value → Vm → Heap → Prop} {vm : Vm} {h h' : Heap} {cells slots : Nat} {g : JFrame}
/-- a private method reached by invokevirtual, the word 'selects' at the receiver's class -/
theorem gcallQ {index : Nat} {C : String} {y : MethodName} {bytes : ByteArray} {maxL : Nat} {ret : Option FieldType} (hx : p.tables.exec = Jvm.exec) (wl : (Cond.methodLink own index y).before a0 Z = true) (wi : (Cond.instanceMethod y).before a0 Z = true) (wsel : (Cond.selects C y y).before a0 Z = true) (wp : (Cond.privateMethod y).before a0 Z = true) (wc : (Cond.code y bytes maxL ret).before a0 Z = true)
    (hy : y.cls ≠ "java/lang/invoke/MethodHandle" ∧ y.cls ≠ "java/lang/invoke/VarHandle") {W rc rs : Nat} {as' : Array Value} {Q' : Option Value → Vm → Heap → Prop} (hP : Z.Warmed39 vm → CHv Z EL vm h → EW Z a0 EL → Pay l R p e below s args Z EL vm h y 3 W as' rc rs Q')
    {pc : Nat} (pc' : Nat) {L : Array Slot} {S argsL rest : List Value} {a : Addr} {K : String} (E : Exa Z h a K) (hlen : ∀ sig, parseMethodDescriptor y.desc = some sig → argsL.length = sig.parameters.length) (has : (.ref a :: argsL).toArray = as') (hstk : S = argsL.reverse ++ .ref a :: rest) (hW : (rest.map fun v => v.category).sum ≤ W) (hml : L.size = c.maxLocals)
    (hd : decode c.code pc = .ok (.invokevirtual index, 3)) (hp : pc + 3 = pc') (hc : cells + rc ≤ R.cells) (hs : slots + rs ≤ R.slots)
    (k : ∀ v vm' h', CHr Z EL vm h vm' h' → Q' v vm' h' → Go p l e R s m args below meth c Z a0 EL own Q vm' h' (cells + rc) (slots + rs) (mkF m pc' L (v.toList ++ rest))) : Go p l e R s m args below meth c Z a0 EL own Q vm h cells slots (mkF m pc L S) :=
  gback (y := y) (as' := as') (fun T locs X hZ hown eT H hEL => by
    subst has hp hstk
    obtain ⟨cq, q1, q2⟩ := E.cell
    have hi : (Cond.instanceMethod y).before args (s.setVm vm) = true := mvT (s := s.setVm vm) hZ wi
    have hco : (Cond.code y bytes maxL ret).before args (s.setVm vm) = true := mvT (s := s.setVm vm) hZ wc
    obtain ⟨mk, mM, hn, hmM, hst, hab⟩ := Cond.instanceMethod_spec hi
    obtain ⟨mM', cM, e1, -, -, -, -, -, -, hsig⟩ := Cond.code_spec hn hco
    cases hmM.symm.trans e1
    obtain ⟨-, -, m2, -, -, q3, -, kP, hk1, hk2⟩ := Cond.selects_spec (show (Cond.selects C y y).before args (s.setVm vm) = true from mvT (s := s.setVm vm) hZ wsel)
    cases hn.symm.trans q3
    have hpr := Cond.privateMethod_at (mvP (s := s.setVm vm) hZ wp (args := #[]))
    obtain ⟨vm1, X1, st1⟩ := X.invokevirtual (s := s.setVm vm) hx hown (mvT hZ wl) hn hmM hst hk1 hk2 hy (a := a) (cell := cq) (by rw [eT]; exact q1) q2 (selectMethod_private hmM (hpr mk mM hn hmM)) hmM hab hk1 hk2 (g := mkF m pc L (argsL.reverse ++ .ref a :: rest)) rfl (argsL := argsL) (rest := rest) (hlen _ hsig) rfl hd
    obtain ⟨v, B, X2, hS, hgr, hpost, hst2⟩ := hP hZ H hEL m meth c ⟨T.setVm vm1, locs, cells, slots⟩ (mkF m pc L rest) (.invokevirtual index) mk (.ref a :: argsL).toArray X1 rfl hml hd (by show 2 * 0 + (rest.map fun v => v.category).sum ≤ _; omega) (X1.named hn) ⟨rfl, eT, hc, hs⟩
    exact ⟨v, vm1, B, X1.warmed, X2, hS, hgr, hpost, (st1 _ fun acts => by rw [doInvoke_state]; exact Steps.refl _).trans hst2⟩) k
theorem nfSame {C : String} {y y' : MethodName} (w : (Cond.selects C y' y').before a0 Z = true) (wi : (Cond.instanceMethod y').before a0 Z = true) (he : y'.cls = y.cls) : ∀ (U : State), Z.Warmed39 U.vm → NotFace U y := fun U hU r0 h0 => by
  have n1 : NotFace U y' := notFace_of_selects (args := #[]) (mvT hU w)
  obtain ⟨mk, mM, hn, -⟩ := Cond.instanceMethod_spec (show (Cond.instanceMethod y').before #[] U = true from mvT hU wi)
  obtain ⟨kr, h1, h2⟩ := n1 mk hn
  have e1 := findClass_of_methodNamed hn
  have e2 := findClass_of_methodNamed h0
  rw [he] at e1
  have e3 := Option.some.inj (e1.symm.trans e2)
  exact ⟨kr, by rw [← e3]; exact h1, h2⟩
theorem smOf {y : MethodName} (wi : (Cond.instanceMethod y).before a0 Z = true) (nf : ∀ (U : State), Z.Warmed39 U.vm → NotFace U y) (hy : y.cls ≠ "java/lang/invoke/MethodHandle" ∧ y.cls ≠ "java/lang/invoke/VarHandle") : (Cond.sameMethod y.cls y.cls y.name y.desc).before a0 Z = true := by
  obtain ⟨mk, mM, hn, -⟩ := Cond.instanceMethod_spec wi
  obtain ⟨kr, h1, h2⟩ := nf Z (State.Warmed39.refl Z) mk hn
  have e1 := findClass_of_methodNamed hn
  have e2 := State.methodFound?_of_named hn hy
  have hn' : Z.methodNamed? ⟨y.cls, y.name, y.desc⟩ = some mk := hn
  simp only [Cond.before, Cond.holds, Cond.value, e1, e2, hn']
  simp [h1, h2]
theorem ggetFR {R0 O n d : String} {index : Nat} (hx : p.tables.exec = Jvm.exec) (w : (Cond.fieldRef own index R0 n d).before a0 Z = true) (via : Via Z R0 O n d) {a : Addr} {v : Value} (F : Fld Z h a O n d v)
    {pc : Nat} (pc' : Nat) {L : Array Slot} {rest : List Value} (hd : decode c.code pc = .ok (.getfield index, 3)) (hp : pc + 3 = pc')
    (k : Go p l e R s m args below meth c Z a0 EL own Q vm h cells slots (mkF m pc' L (v :: rest))) : Go p l e R s m args below meth c Z a0 EL own Q vm h cells slots (mkF m pc L (.ref a :: rest)) :=
  gy _ (fun T locs X hZ hown eT => by
    subst hp
    obtain ⟨cell, cf, k, i, f, h1, h2, h3, h4, -, -, h7⟩ := F
    obtain ⟨k', hi, -⟩ := State.fieldFound?_setVm (s := Z) hZ.alike (via _ h2)
    have w1 : (Cond.fieldRef own index R0 n d).before args (s.setVm vm) = true := (Cond.fieldRef_warmed39 hZ w :)
    have hW : (s.setVm vm).WarmedH T.vm := X.warmed
    have w2 := Cond.fieldRef_warmed hW w1
    obtain ⟨kk, hk1, hk2⟩ := Vm.findClass_spec hown
    have hc2 : T.vm.findClass own = some m.cls := by rw [hW.alike.findClass]; exact hown
    obtain ⟨c2, k2, i2, f2, g1, g2⟩ := Cond.fieldRef_spec (s := (s.setVm vm).setVm T.vm) hc2 w2
    obtain ⟨k3, hi3, -⟩ := State.fieldFound?_setVm (s := s.setVm vm) hW.alike (show (s.setVm vm).fieldFound? R0 n d = _ from hi)
    cases g1.symm.trans hi3
    refine ⟨T, X, eT, fun target hrest => ?_⟩
    jvm_step X.here [hx, (show decode c.code (mkF m pc L (.ref a :: rest)).pc = _ from hd), Op.getfield.wp_ready (e := e) (s := T) (f := mkF m pc L (.ref a :: rest)) X.here.top g2 h3 rfl (by rw [eT]; exact h1) h4 h7]
    exact hrest) k
theorem gclone {index : Nat} {ad : String} (hx : p.tables.exec = Jvm.exec) (w1 : (Cond.methodLink own index ⟨ad, "clone", "()Ljava/lang/Object;"⟩).before a0 Z = true) (w2 : (Cond.sameMethod ad "java/lang/Object" "clone" "()Ljava/lang/Object;").before a0 Z = true) (w3 : (Cond.native ⟨"java/lang/Object", "clone", "()Ljava/lang/Object;"⟩).before a0 Z = true)
    (w4 : (Cond.instanceMethod ⟨"java/lang/Object", "clone", "()Ljava/lang/Object;"⟩).before a0 Z = true) (w5 : (Cond.selects ad ⟨ad, "clone", "()Ljava/lang/Object;"⟩ ⟨"java/lang/Object", "clone", "()Ljava/lang/Object;"⟩).before a0 Z = true) (w6 : (Cond.castable ad "java/lang/Cloneable").before a0 Z = true)
    {a : Addr} {kc : ClassId} {ty : FieldType} {z : Int32} {vs : List Value} {dv : Value} (V : Arv Z h a kc ty z vs dv) (E : Exa Z h a ad) {cap : Nat} (hcap : z.toNatClampNeg ≤ cap)
    {pc : Nat} (pc' : Nat) {L : Array Slot} {rest : List Value} {W : Nat} (hW : (rest.map fun v => v.category).sum ≤ W) (hml : L.size = c.maxLocals) (hd : decode c.code pc = .ok (.invokevirtual index, 3)) (hp : pc + 3 = pc') (hf : 1 ≤ R.frames) (hlo : W + 14 ≤ R.locals) (hc : cells + 1 ≤ R.cells) (hl : slots + cap ≤ R.slots)
    (k : ∀ (b : Addr) (h' : Heap), h.size = b → Ext h h' → CHr Z EL vm h vm h' → Arv Z h' b kc ty z vs dv → Exa Z h' b ad → Z.heap.size ≤ b → Safe Z EL vm h' b → Go p l e R s m args below meth c Z a0 EL own Q vm h' (cells + 1) (slots + cap) (mkF m pc' L (.ref b :: rest))) :
    Go p l e R s m args below meth c Z a0 EL own Q vm h cells slots (mkF m pc L (.ref a :: rest)) :=
  gnew (P := fun h' => Arv Z h' h.size kc ty z vs dv ∧ Exa Z h' h.size ad) (fun _ => mkF m pc' L (.ref h.size :: rest))
    (fun T locs X hZ hown eT => by
      subst hp
      obtain ⟨cl, A, q1, q2, q3, q4, q5⟩ := V
      have FC : FitC Z cl := fitC_of A fun i hi v hv => by rw [q4 i hi] at hv; cases hv; exact q5 i hi
      obtain ⟨T', h', X', e', ex, A', E', st⟩ := cloneA (s := s.setVm vm) X hx hZ hown w1 w2 w3 w4 w5 w6 eT A E FC (g := mkF m pc L (.ref a :: rest)) rfl hml rfl hd hf (W := W) (by show 2 * 0 + _ ≤ _; omega) hlo (by rw [q2]; exact hcap) hc hl
      exact ⟨T', h', X', e', ex, ⟨⟨cloneOf cl, A', q1, q2, q3, q4, q5⟩, E'⟩, st⟩)
    (fun h' E hC hP hz hs => k _ h' rfl E hC hP.1 hP.2 hz hs)
/-! arrays of bytes are copied -/
theorem tn {n : Nat} (h : n < 2147483648) : (Int32.ofNat n).toNatClampNeg = n := by rw [Int32.toNatClampNeg, Int32.toInt_ofNat_of_lt (by omega)]; rfl
theorem nn0 {n : Nat} (h : n < 2147483648) : ¬ Int32.ofNat n < 0 := by rw [Int32.lt_iff_toInt_lt, Int32.toInt_ofNat_of_lt (by omega)]; simp
theorem range_get (vs : List Value) (dv : Value) (i n : Nat) (hn : i + n ≤ vs.length) : (vs.drop i).take n = (List.range n).map fun t => vs.getD (i + t) dv := by
  apply List.ext_getElem
  · simp; omega
  · intro t h1 h2
    simp at h1 h2
    simp [List.getD_eq_getElem?_getD, List.getElem?_eq_getElem (show i + t < vs.length by omega)]
theorem gcopyN {index : Nat} (hx : p.tables.exec = Jvm.exec) (w1 : (Cond.methodLink own index Jvm.Stand.acN).before a0 Z = true) (w2 : (Cond.native Jvm.Stand.acN).before a0 Z = true) (w3 : (Cond.static Jvm.Stand.acN).before a0 Z = true) (w4 : (Cond.initialized "java/lang/System").before a0 Z = true)
    {a b : Addr} {ka kb : ClassId} {z z' sp dp nn : Int32} {vs vd : List Value} {dv dd : Value} (i j n N M : Nat) (A : Arv Z h a ka .byte z vs dv) (B : Arv Z h b kb .byte z' vd dd) (hsp : sp = Int32.ofNat i) (hdp : dp = Int32.ofNat j) (hnn : nn = Int32.ofNat n) (hz : z = Int32.ofNat N) (hz' : z' = Int32.ofNat M)
    (hN : N < 2147483648) (hM : M < 2147483648) (h4 : i + n ≤ N) (h5 : j + n ≤ M) (hvs : vs.length = N) (hvd : vd.length = M) (ge : Z.heap.size ≤ b) (hs : Z.vm.Alike vm → Safe Z EL vm h b)
    {pc : Nat} (pc' : Nat) {L : Array Slot} {rest : List Value} {W : Nat} (hW : (rest.map fun v => v.category).sum ≤ W) (hml : L.size = c.maxLocals) (hd : decode c.code pc = .ok (.invokestatic index, 3)) (hp : pc + 3 = pc') (hf : 1 ≤ R.frames) (hlo : W + 18 ≤ R.locals)
    (k : ∀ h', Keep h h' [b] → CHr Z EL vm h vm h' → Arv Z h' b kb .byte z' (vd.take j ++ (vs.drop i).take n ++ vd.drop (j + n)) dd → Go p l e R s m args below meth c Z a0 EL own Q vm h' cells slots (mkF m pc' L rest)) :
    Go p l e R s m args below meth c Z a0 EL own Q vm h cells slots (mkF m pc L (.int nn :: .int dp :: .ref b :: .int sp :: .ref a :: rest)) := fun T X => by
  subst hp hsp hdp hnn hz hz'
  obtain ⟨locs, k0, X', eT, hZ, hown, hS, hk, N0, H, E0, hEL, hx', hlk⟩ := X
  have ti : (Int32.ofNat i).toNatClampNeg = i := tn (by omega)
  have tj : (Int32.ofNat j).toNatClampNeg = j := tn (by omega)
  have tnn : (Int32.ofNat n).toNatClampNeg = n := tn (by omega)
  obtain ⟨T', h', L', X1, e1, F1, K1, V1, st⟩ := cpA (s := s.setVm vm) X' hx hZ hown w1 w2 w3 w4 eT A B (Or.inl ⟨rfl, rfl⟩) (nn0 (by omega)) (nn0 (by omega)) (nn0 (by omega)) (by rw [ti, tnn, tn hN]; exact h4) (by rw [tj, tnn, tn hM]; exact h5) (us := (vs.drop i).take n) (by rw [ti, tnn]; exact range_get vs dv i n (by omega)) (by rw [tj, tnn]; omega) N0 ge
    (g := mkF m pc L (.int (Int32.ofNat n) :: .int (Int32.ofNat j) :: .ref b :: .int (Int32.ofNat i) :: .ref a :: rest)) rfl hml rfl hd hf (W := W) (by show 2 * 0 + _ ≤ _; omega) (by show W + (7 + 11) ≤ _; omega)
  rw [tj, tnn] at V1
  have C1 : CHr Z EL vm h vm h' := CHr.keep K1 (allS (hs hZ.alike) all0) H.1
  obtain ⟨s2, o, q1, q2⟩ := k h' K1 C1 V1 T' ⟨L', k0, X1, e1, hZ, hown, hS, Nat.le_trans hk K1.1, F1, H.trans C1, E0, hEL, hx', hlk⟩
  exact ⟨s2, o, st _ q1, q2⟩
/-! a StringBuilder of Latin-1 signs -/
abbrev lo8s (cs : List Int32) : List Value := (cs.map fun c => c.toInt8.toInt32).map Value.int
def SBd (Z : State) (h : Heap) (b v : Addr) (cap : Nat) (cs : List Int32) : Prop := Exa Z h b "java/lang/StringBuilder" ∧ Fld Z h b "java/lang/AbstractStringBuilder" "value" "[B" (.ref v) ∧ Fld Z h b "java/lang/AbstractStringBuilder" "coder" "B" (.int 0) ∧ Fld Z h b "java/lang/AbstractStringBuilder" "count" "I" (.int (Int32.ofNat cs.length)) ∧
  (∃ kb zs, Arv Z h v kb .byte (Int32.ofNat cap) (lo8s cs ++ zs) (.int 0) ∧ cs.length + zs.length = cap) ∧ (∀ c ∈ cs, B8 c) ∧ cap ≤ 4000
variable {b v t o : Addr} {cap : Nat} {cs ds : List Int32} {ws : List Addr} {sl : Nat} {w : Value}
theorem SBd.ext (F : SBd Z h b v cap cs) (E : Ext h h') : SBd Z h' b v cap cs := by
  obtain ⟨f1, f2, f3, f4, ⟨kb, zs, f5, f6⟩, f7⟩ := F
  exact ⟨f1.ext E, f2.ext E, f3.ext E, f4.ext E, ⟨kb, zs, f5.ext E, f6⟩, f7⟩
theorem SBd.keep (F : SBd Z h b v cap cs) (K : Keep h h' ws) (q : b ∉ ws) (r : v ∉ ws) : SBd Z h' b v cap cs := by
  obtain ⟨f1, f2, f3, f4, ⟨kb, zs, f5, f6⟩, f7⟩ := F
  exact ⟨f1.keep K, f2.keep K q, f3.keep K q, f4.keep K q, ⟨kb, zs, f5.keep K r, f6⟩, f7⟩
theorem SBd.wr (F : SBd Z h b v cap cs) (W : Wr h h' o sl w) (q : b ≠ o) (r : v ≠ o) : SBd Z h' b v cap cs := by
  obtain ⟨f1, f2, f3, f4, ⟨kb, zs, f5, f6⟩, f7⟩ := F
  exact ⟨f1.wr W, f2.other W (Or.inl q), f3.other W (Or.inl q), f4.other W (Or.inl q), ⟨kb, zs, f5.other W r, f6⟩, f7⟩
theorem SBd.vlt (F : SBd Z h b v cap cs) : v < h.size := by obtain ⟨f1, f2, f3, f4, ⟨kb, zs, f5, f6⟩, f7⟩ := F; exact f5.lt
theorem addOf {a b : Nat} (h : a + b ≤ 4000) : Int32.ofNat a + Int32.ofNat b = Int32.ofNat (a + b) := by
  apply Int32.toInt_inj.mp
  have q := c_iadd (Int32.ofNat a) (Int32.ofNat b)
  have r := rng32 (Int32.ofNat a + Int32.ofNat b)
  rw [Int32.toInt_ofNat_of_lt (by omega), Int32.toInt_ofNat_of_lt (by omega)] at q
  rw [Int32.toInt_ofNat_of_lt (by omega)]
  omega
theorem subOf0 {a : Nat} (h : a ≤ 4000) : Int32.ofNat a - (0 : Int32) = Int32.ofNat a := by
  apply Int32.toInt_inj.mp
  have q := c_isub (Int32.ofNat a) 0
  have r := rng32 (Int32.ofNat a - 0)
  have e0 : (0 : Int32).toInt = 0 := rfl
  rw [Int32.toInt_ofNat_of_lt (by omega), e0] at q
  rw [Int32.toInt_ofNat_of_lt (by omega)]
  omega
theorem ltOf {a b : Nat} (ha : a ≤ 4000) (hb : b ≤ 4000) : Int32.ofNat a < Int32.ofNat b ↔ a < b := by
  rw [Int32.lt_iff_toInt_lt, Int32.toInt_ofNat_of_lt (by omega), Int32.toInt_ofNat_of_lt (by omega)]; omega
theorem eqOf {a b : Nat} (ha : a ≤ 4000) (hb : b ≤ 4000) : Int32.ofNat a = Int32.ofNat b ↔ a = b := by
  rw [← Int32.toInt_inj, Int32.toInt_ofNat_of_lt (by omega), Int32.toInt_ofNat_of_lt (by omega)]; omega
theorem subLe {a b : Nat} (ha : a ≤ 4000) (hb : b ≤ 4000) (h : a ≤ b) : ¬ (0 : Int32) < Int32.ofNat a - Int32.ofNat b := by
  have q := c_isub (Int32.ofNat a) (Int32.ofNat b)
  have r := rng32 (Int32.ofNat a - Int32.ofNat b)
  have e0 : (0 : Int32).toInt = 0 := rfl
  rw [Int32.toInt_ofNat_of_lt (by omega), Int32.toInt_ofNat_of_lt (by omega)] at q
  rw [Int32.lt_iff_toInt_lt, e0]
  omega
theorem shr0 {a : Nat} (h : a ≤ 4000) : (Int32.ofNat a >>> ((0 : Int32) &&& 31)) = Int32.ofNat a := by
  apply Int32.toInt_inj.mp
  rw [c_ishr _ 0 0 (by decide)]; simp
theorem shl0 {a : Nat} (h : a ≤ 4000) : (Int32.ofNat a <<< ((0 : Int32) &&& 31)) = Int32.ofNat a := by
  apply Int32.toInt_inj.mp
  have q := c_ishl (Int32.ofNat a) 0 0 (by decide)
  have r := rng32 (Int32.ofNat a <<< ((0 : Int32) &&& 31))
  rw [Int32.toInt_ofNat_of_lt (by omega)] at q ⊢
  omega
theorem lo8s_len (cs : List Int32) : (lo8s cs).length = cs.length := by simp [lo8s]
theorem lo8s_app (cs ds : List Int32) : lo8s (cs ++ ds) = lo8s cs ++ lo8s ds := by simp [lo8s]
/-- what a copy behind the first signs leaves -/
theorem put_list {zs : List Value} : ((lo8s cs ++ zs).take cs.length ++ ((lo8s ds).drop 0).take ds.length ++ (lo8s cs ++ zs).drop (cs.length + ds.length)) = lo8s (cs ++ ds) ++ zs.drop ds.length := by
  rw [List.take_append_of_le_length (by rw [lo8s_len]; exact Nat.le_refl _), List.take_of_length_le (by rw [lo8s_len]; exact Nat.le_refl _), List.drop_zero, List.take_of_length_le (by rw [lo8s_len]; exact Nat.le_refl _), lo8s_app]
  have e : (lo8s cs).drop cs.length = [] := List.drop_of_length_le (by rw [lo8s_len]; exact Nat.le_refl _)
  rw [← List.drop_drop, List.drop_append_of_le_length (by rw [lo8s_len]; exact Nat.le_refl _), e, List.nil_append]
theorem pre_list {zs : List Value} {d : Value} : ((List.replicate cs.length d).take 0 ++ ((lo8s cs ++ zs).drop 0).take cs.length ++ (List.replicate cs.length d).drop (0 + cs.length)) = lo8s cs := by
  rw [List.take_zero, List.nil_append, List.drop_zero, List.take_append_of_le_length (by rw [lo8s_len]; exact Nat.le_refl _), List.take_of_length_le (by rw [lo8s_len]; exact Nat.le_refl _), List.drop_of_length_le (by simp), List.append_nil]
end Kit5
end Jvm.OwnKit
namespace Jvm.OwnKit
open Sem ClassFile Op Lib Bundle Jvm.Stand Jvm.Free Jvm.LawKit Jvm.RoadKit
section Kit6
variable {p : Program} {l : Launch} {e : Env} {R : Room} {s : State} {m : MethodId} {args : Array Value} {below : List Frame} {meth : Method} {c : Code} {Z : State} {a0 : Array Value} {EL : List (String × Nat)} {own : String} {Q : Option Value → Vm → Heap → Prop} {vm : Vm} {h h' : Heap} {cells slots : Nat} {g : JFrame}
/-- a private method reached by invokevirtual, the word 'selects' at the receiver's class -/
theorem gnewPE {aty : ArrayType} {ad : String} (hx : p.tables.exec = Jvm.exec) (w : (Cond.arrayClass (newarray.typeOf aty)).before a0 Z = true) {n : Int32} (hn : ¬ n < 0) {cap : Nat} (hcap : n.toNatClampNeg ≤ cap) (hb : cap * 8 ≤ 536870912) (had : "[" ++ (newarray.typeOf aty).toString = ad)
    {pc : Nat} (pc' : Nat) {L : Array Slot} {S : List Value} (hd : decode c.code pc = .ok (.newarray aty, 2)) (hp : pc + 2 = pc') (hc : cells + 1 ≤ R.cells) (hl : slots + cap ≤ R.slots)
    (k : ∀ (b : Addr) (h' : Heap) (cA : ClassId), h.size = b → Ext h h' → CHr Z EL vm h vm h' → Arv Z h' b cA (newarray.typeOf aty) n [] (defaultValue (newarray.typeOf aty)) → Exa Z h' b ad → Z.heap.size ≤ b → Safe Z EL vm h' b → Go p l e R s m args below meth c Z a0 EL own Q vm h' (cells + 1) (slots + cap) (mkF m pc' L (.ref b :: S))) :
    Go p l e R s m args below meth c Z a0 EL own Q vm h cells slots (mkF m pc L (.int n :: S)) :=
  gnew (P := fun h' => ∃ cA, Arv Z h' h.size cA (newarray.typeOf aty) n [] (defaultValue (newarray.typeOf aty)) ∧ Exa Z h' h.size ad) (fun _ => mkF m pc' L (.ref h.size :: S))
    (fun T locs X hZ hown eT => by
      subst hp
      obtain ⟨T', h', cA, X', e', E, A, XE, st⟩ := newPE (s := s.setVm vm) X hx hZ w eT (g := mkF m pc L (.int n :: S)) rfl hd rfl hn hcap hb hc hl had
      exact ⟨T', h', X', e', E, ⟨cA, Arv.new A hn, XE⟩, st⟩)
    (fun h' E hC hP hz hs => by obtain ⟨cA, V, XE⟩ := hP; exact k _ h' cA rfl E hC V XE hz hs)
end Kit6
end Jvm.OwnKit
namespace Jvm.OwnKit
open Sem ClassFile Op Lib Bundle Jvm.Stand Jvm.Free Jvm.LawKit Jvm.RoadKit
section Kit7
variable {p : Program} {l : Launch} {e : Env} {R : Room} {s : State} {m : MethodId} {args : Array Value} {below : List Frame} {meth : Method} {c : Code} {Z : State} {a0 : Array Value} {EL : List (String × Nat)} {own : String} {Q : Option Value → Vm → Heap → Prop} {vm : Vm} {h h' : Heap} {cells slots : Nat} {g : JFrame}
end Kit7
end Jvm.OwnKit
namespace Jvm.OwnKit
open Sem ClassFile Op Lib Bundle Jvm.Stand Jvm.Free Jvm.LawKit Jvm.RoadKit
section Kit8
variable {p : Program} {l : Launch} {e : Env} {R : Room} {s : State} {m : MethodId} {args : Array Value} {below : List Frame} {meth : Method} {c : Code} {Z : State} {a0 : Array Value} {EL : List (String × Nat)} {own : String} {Q : Option Value → Vm → Heap → Prop} {vm : Vm} {h h' : Heap} {cells slots : Nat} {g : JFrame}
variable {bytes : ByteArray} {pc n : Nat} {nf : Fin 4} {L : Array Slot} {S : List Value} {v : Value} {z y : Int32} {i : Int}
theorem uA (pc' : Nat) (hx : p.tables.exec = Jvm.exec) (hby : c.code = bytes) (hd : decode bytes pc = .ok (.aload n, 2)) (hp : pc + 2 = pc') (hl : L[n]? = some (.val v)) (hv : v.isRef = true) (k : Go p l e R s m args below meth c Z a0 EL own Q vm h cells slots (mkF m pc' L (v :: S))) : Go p l e R s m args below meth c Z a0 EL own Q vm h cells slots (mkF m pc L S) := by
  subst hp
  exact gs _ (fun _ _ A kq => XS.aload A hx rfl (hb hby hd) hl hv kq) k
theorem uAN (pc' : Nat) (hx : p.tables.exec = Jvm.exec) (hby : c.code = bytes) (hd : decode bytes pc = .ok (.aload_n nf, 1)) (hp : pc + 1 = pc') (hl : L[nf.val]? = some (.val v)) (hv : v.isRef = true) (k : Go p l e R s m args below meth c Z a0 EL own Q vm h cells slots (mkF m pc' L (v :: S))) : Go p l e R s m args below meth c Z a0 EL own Q vm h cells slots (mkF m pc L S) := by
  subst hp
  exact gs _ (fun _ _ A kq => XS.aloadN A hx rfl (hb hby hd) hl hv kq) k
theorem uI (pc' : Nat) (hx : p.tables.exec = Jvm.exec) (hby : c.code = bytes) (hd : decode bytes pc = .ok (.iload n, 2)) (hp : pc + 2 = pc') (hl : L[n]? = some (.val (.int z))) (k : Go p l e R s m args below meth c Z a0 EL own Q vm h cells slots (mkF m pc' L (.int z :: S))) : Go p l e R s m args below meth c Z a0 EL own Q vm h cells slots (mkF m pc L S) := by
  subst hp
  exact gs _ (fun _ _ A kq => XS.iload A hx rfl (hb hby hd) hl kq) k
theorem uIN (pc' : Nat) (hx : p.tables.exec = Jvm.exec) (hby : c.code = bytes) (hd : decode bytes pc = .ok (.iload_n nf, 1)) (hp : pc + 1 = pc') (hl : L[nf.val]? = some (.val (.int z))) (k : Go p l e R s m args below meth c Z a0 EL own Q vm h cells slots (mkF m pc' L (.int z :: S))) : Go p l e R s m args below meth c Z a0 EL own Q vm h cells slots (mkF m pc L S) := by
  subst hp
  exact gs _ (fun _ _ A kq => XS.iloadN A hx rfl (hb hby hd) hl kq) k
theorem uD (pc' : Nat) (hx : p.tables.exec = Jvm.exec) (hby : c.code = bytes) (hd : decode bytes pc = .ok (.dup, 1)) (hp : pc + 1 = pc') (hc : v.category = 1) (k : Go p l e R s m args below meth c Z a0 EL own Q vm h cells slots (mkF m pc' L (v :: v :: S))) : Go p l e R s m args below meth c Z a0 EL own Q vm h cells slots (mkF m pc L (v :: S)) := by
  subst hp
  exact gs _ (fun _ _ A kq => XS.dup A hx rfl (hb hby hd) rfl hc kq) k
theorem uP (pc' : Nat) (hx : p.tables.exec = Jvm.exec) (hby : c.code = bytes) (hd : decode bytes pc = .ok (.pop, 1)) (hp : pc + 1 = pc') (hc : v.category = 1) (k : Go p l e R s m args below meth c Z a0 EL own Q vm h cells slots (mkF m pc' L S)) : Go p l e R s m args below meth c Z a0 EL own Q vm h cells slots (mkF m pc L (v :: S)) := by
  subst hp
  exact gs _ (fun _ _ A kq => XS.pop A hx rfl (hb hby hd) rfl hc kq) k
theorem uU (pc' : Nat) (hx : p.tables.exec = Jvm.exec) (hby : c.code = bytes) (hd : decode bytes pc = .ok (.aconst_null, 1)) (hp : pc + 1 = pc') (k : Go p l e R s m args below meth c Z a0 EL own Q vm h cells slots (mkF m pc' L (.null :: S))) : Go p l e R s m args below meth c Z a0 EL own Q vm h cells slots (mkF m pc L S) := by
  subst hp
  exact gs _ (fun _ _ A kq => XS.aconstNull A hx rfl (hb hby hd) kq) k
theorem uG (pc' : Nat) (hx : p.tables.exec = Jvm.exec) (hby : c.code = bytes) (hd : decode bytes pc = .ok (.goto i, 3)) (ho : 0 ≤ (pc : Int) + i) (hp : ((pc : Int) + i).toNat = pc') (k : Go p l e R s m args below meth c Z a0 EL own Q vm h cells slots (mkF m pc' L S)) : Go p l e R s m args below meth c Z a0 EL own Q vm h cells slots (mkF m pc L S) := gs _ (fun _ _ A kq => XS.goto A hx rfl (pc0 := pc) (pc' := pc') rfl (hb hby hd) ho hp kq) k
end Kit8
end Jvm.OwnKit
namespace Jvm.OwnKit
open Sem ClassFile Op Lib Bundle Jvm.Stand Jvm.Free Jvm.LawKit Jvm.RoadKit
section Kit9
variable {p : Program} {l : Launch} {e : Env} {R : Room} {s : State} {m : MethodId} {args : Array Value} {below : List Frame} {meth : Method} {c : Code} {Z : State} {a0 : Array Value} {EL : List (String × Nat)} {own : String} {Q : Option Value → Vm → Heap → Prop} {vm : Vm} {h h' : Heap} {cells slots : Nat} {g : JFrame}
variable {bytes : ByteArray} {pc n : Nat} {nf : Fin 4} {L : Array Slot} {S : List Value} {v : Value} {z y : Int32} {i : Int}
variable {cd : ClassFile.Cond} {b : Addr}
theorem uKc (pc' : Nat) (z : Int32) (hx : p.tables.exec = Jvm.exec) (hby : c.code = bytes) (hd : decode bytes pc = .ok (.iconst i, 1)) (hp : pc + 1 = pc') (hz : Int32.ofInt i = z) (k : Go p l e R s m args below meth c Z a0 EL own Q vm h cells slots (mkF m pc' L (.int z :: S))) : Go p l e R s m args below meth c Z a0 EL own Q vm h cells slots (mkF m pc L S) := by
  subst hp hz
  exact gs _ (fun _ _ A kq => XS.iconst A hx rfl (hb hby hd) kq) k
theorem uKb (pc' : Nat) (z : Int32) (hx : p.tables.exec = Jvm.exec) (hby : c.code = bytes) (hd : decode bytes pc = .ok (.bipush i, 2)) (hp : pc + 2 = pc') (hz : (Int8.ofInt i).toInt32 = z) (k : Go p l e R s m args below meth c Z a0 EL own Q vm h cells slots (mkF m pc' L (.int z :: S))) : Go p l e R s m args below meth c Z a0 EL own Q vm h cells slots (mkF m pc L S) := by
  subst hp hz
  exact gs _ (fun _ _ A kq => XS.bipush A hx rfl (hb hby hd) kq) k
theorem uKs (pc' : Nat) (z : Int32) (hx : p.tables.exec = Jvm.exec) (hby : c.code = bytes) (hd : decode bytes pc = .ok (.sipush i, 3)) (hp : pc + 3 = pc') (hz : (Int16.ofInt i).toInt32 = z) (k : Go p l e R s m args below meth c Z a0 EL own Q vm h cells slots (mkF m pc' L (.int z :: S))) : Go p l e R s m args below meth c Z a0 EL own Q vm h cells slots (mkF m pc L S) := by
  subst hp hz
  exact gs _ (fun _ _ A kq => XS.sipush A hx rfl (hb hby hd) kq) k
theorem uiadd (pc' : Nat) (w : Int32) (hx : p.tables.exec = Jvm.exec) (hby : c.code = bytes) (hd : decode bytes pc = .ok (.iadd, 1)) (hp : pc + 1 = pc') (hw : z + y = w) (k : Go p l e R s m args below meth c Z a0 EL own Q vm h cells slots (mkF m pc' L (.int w :: S))) : Go p l e R s m args below meth c Z a0 EL own Q vm h cells slots (mkF m pc L (.int y :: .int z :: S)) := by
  subst hp hw
  exact gs _ (fun _ _ A kq => XS.iadd A hx rfl (hb hby hd) rfl kq) k
theorem uisub (pc' : Nat) (w : Int32) (hx : p.tables.exec = Jvm.exec) (hby : c.code = bytes) (hd : decode bytes pc = .ok (.isub, 1)) (hp : pc + 1 = pc') (hw : z - y = w) (k : Go p l e R s m args below meth c Z a0 EL own Q vm h cells slots (mkF m pc' L (.int w :: S))) : Go p l e R s m args below meth c Z a0 EL own Q vm h cells slots (mkF m pc L (.int y :: .int z :: S)) := by
  subst hp hw
  exact gs _ (fun _ _ A kq => XS.isub A hx rfl (hb hby hd) rfl kq) k
theorem uimul (pc' : Nat) (w : Int32) (hx : p.tables.exec = Jvm.exec) (hby : c.code = bytes) (hd : decode bytes pc = .ok (.imul, 1)) (hp : pc + 1 = pc') (hw : z * y = w) (k : Go p l e R s m args below meth c Z a0 EL own Q vm h cells slots (mkF m pc' L (.int w :: S))) : Go p l e R s m args below meth c Z a0 EL own Q vm h cells slots (mkF m pc L (.int y :: .int z :: S)) := by
  subst hp hw
  exact gs _ (fun _ _ A kq => XS.imul A hx rfl (hb hby hd) rfl kq) k
theorem uiand (pc' : Nat) (w : Int32) (hx : p.tables.exec = Jvm.exec) (hby : c.code = bytes) (hd : decode bytes pc = .ok (.iand, 1)) (hp : pc + 1 = pc') (hw : z &&& y = w) (k : Go p l e R s m args below meth c Z a0 EL own Q vm h cells slots (mkF m pc' L (.int w :: S))) : Go p l e R s m args below meth c Z a0 EL own Q vm h cells slots (mkF m pc L (.int y :: .int z :: S)) := by
  subst hp hw
  exact gs _ (fun _ _ A kq => XS.iand A hx rfl (hb hby hd) rfl kq) k
theorem uSI (pc' : Nat) (L' : Array Slot) (hx : p.tables.exec = Jvm.exec) (hby : c.code = bytes) (hd : decode bytes pc = .ok (.istore n, 2)) (hp : pc + 2 = pc') (hl : storeLocals L n (.int z) = some L') (k : Go p l e R s m args below meth c Z a0 EL own Q vm h cells slots (mkF m pc' L' S)) : Go p l e R s m args below meth c Z a0 EL own Q vm h cells slots (mkF m pc L (.int z :: S)) := by
  subst hp
  exact gs _ (fun _ _ A kq => XS.istore A hx rfl (hb hby hd) rfl hl kq) k
theorem uSIN (pc' : Nat) (L' : Array Slot) (hx : p.tables.exec = Jvm.exec) (hby : c.code = bytes) (hd : decode bytes pc = .ok (.istore_n nf, 1)) (hp : pc + 1 = pc') (hl : storeLocals L nf.val (.int z) = some L') (k : Go p l e R s m args below meth c Z a0 EL own Q vm h cells slots (mkF m pc' L' S)) : Go p l e R s m args below meth c Z a0 EL own Q vm h cells slots (mkF m pc L (.int z :: S)) := by
  subst hp
  exact gs _ (fun _ _ A kq => XS.istoreN A hx rfl (hb hby hd) rfl hl kq) k
theorem uSA (pc' : Nat) (L' : Array Slot) (hx : p.tables.exec = Jvm.exec) (hby : c.code = bytes) (hd : decode bytes pc = .ok (.astore n, 2)) (hp : pc + 2 = pc') (hv : v.isRef = true) (hl : storeLocals L n v = some L') (k : Go p l e R s m args below meth c Z a0 EL own Q vm h cells slots (mkF m pc' L' S)) : Go p l e R s m args below meth c Z a0 EL own Q vm h cells slots (mkF m pc L (v :: S)) := by
  subst hp
  exact gs _ (fun _ _ A kq => XS.astore A hx rfl (hb hby hd) rfl hv hl kq) k
theorem uSAN (pc' : Nat) (L' : Array Slot) (hx : p.tables.exec = Jvm.exec) (hby : c.code = bytes) (hd : decode bytes pc = .ok (.astore_n nf, 1)) (hp : pc + 1 = pc') (hv : v.isRef = true) (hl : storeLocals L nf.val v = some L') (k : Go p l e R s m args below meth c Z a0 EL own Q vm h cells slots (mkF m pc' L' S)) : Go p l e R s m args below meth c Z a0 EL own Q vm h cells slots (mkF m pc L (v :: S)) := by
  subst hp
  exact gs _ (fun _ _ A kq => XS.astoreN A hx rfl (hb hby hd) rfl hv hl kq) k
theorem uInc (pc' : Nat) (L' : Array Slot) (hx : p.tables.exec = Jvm.exec) (hby : c.code = bytes) (hd : decode bytes pc = .ok (.iinc n i, 3)) (hp : pc + 3 = pc') (hl : L[n]? = some (.val (.int z))) (hl' : storeLocals L n (.int (z + Int32.ofInt i)) = some L') (k : Go p l e R s m args below meth c Z a0 EL own Q vm h cells slots (mkF m pc' L' S)) : Go p l e R s m args below meth c Z a0 EL own Q vm h cells slots (mkF m pc L S) := by
  subst hp
  exact gs _ (fun _ _ A kq => XS.iinc A hx rfl (hb hby hd) hl hl' kq) k
theorem uN (pc' : Nat) (hx : p.tables.exec = Jvm.exec) (hby : c.code = bytes) (hd : decode bytes pc = .ok (.ifCond cd i, 3)) (hp : pc + 3 = pc') (hc : ifCond.holds cd z = false) (k : Go p l e R s m args below meth c Z a0 EL own Q vm h cells slots (mkF m pc' L S)) : Go p l e R s m args below meth c Z a0 EL own Q vm h cells slots (mkF m pc L (.int z :: S)) := by
  subst hp
  exact gs _ (fun _ _ A kq => XS.ifNo A hx rfl (hb hby hd) rfl hc kq) k
theorem uNc (pc' : Nat) (hx : p.tables.exec = Jvm.exec) (hby : c.code = bytes) (hd : decode bytes pc = .ok (.if_icmp cd i, 3)) (hp : pc + 3 = pc') (hc : if_icmp.holds cd z y = false) (k : Go p l e R s m args below meth c Z a0 EL own Q vm h cells slots (mkF m pc' L S)) : Go p l e R s m args below meth c Z a0 EL own Q vm h cells slots (mkF m pc L (.int y :: .int z :: S)) := by
  subst hp
  exact gs _ (fun _ _ A kq => XS.icmpNo A hx rfl (hb hby hd) rfl hc kq) k
theorem uY (pc' : Nat) (hx : p.tables.exec = Jvm.exec) (hby : c.code = bytes) (hd : decode bytes pc = .ok (.ifCond cd i, 3)) (hc : ifCond.holds cd z = true) (ho : 0 ≤ (pc : Int) + i) (hp : ((pc : Int) + i).toNat = pc') (k : Go p l e R s m args below meth c Z a0 EL own Q vm h cells slots (mkF m pc' L S)) : Go p l e R s m args below meth c Z a0 EL own Q vm h cells slots (mkF m pc L (.int z :: S)) := gs _ (fun _ _ A kq => XS.ifYes A hx rfl (pc0 := pc) (pc' := pc') rfl (hb hby hd) rfl hc ho hp kq) k
theorem uYc (pc' : Nat) (hx : p.tables.exec = Jvm.exec) (hby : c.code = bytes) (hd : decode bytes pc = .ok (.if_icmp cd i, 3)) (hc : if_icmp.holds cd z y = true) (ho : 0 ≤ (pc : Int) + i) (hp : ((pc : Int) + i).toNat = pc') (k : Go p l e R s m args below meth c Z a0 EL own Q vm h cells slots (mkF m pc' L S)) : Go p l e R s m args below meth c Z a0 EL own Q vm h cells slots (mkF m pc L (.int y :: .int z :: S)) := gs _ (fun _ _ A kq => XS.icmpYes A hx rfl (pc0 := pc) (pc' := pc') rfl (hb hby hd) rfl hc ho hp kq) k
theorem uY1 (pc' : Nat) (hx : p.tables.exec = Jvm.exec) (hby : c.code = bytes) (hd : decode bytes pc = .ok (.ifnonnull i, 3)) (ho : 0 ≤ (pc : Int) + i) (hp : ((pc : Int) + i).toNat = pc') (k : Go p l e R s m args below meth c Z a0 EL own Q vm h cells slots (mkF m pc' L S)) : Go p l e R s m args below meth c Z a0 EL own Q vm h cells slots (mkF m pc L (.ref b :: S)) := gs _ (fun _ _ A kq => XS.ifnonnullYes A hx rfl (pc0 := pc) (pc' := pc') rfl (hb hby hd) rfl ho hp kq) k
theorem gat1 (k : Go p l e R s m args below meth c Z a0 EL own Q vm h cells slots (mkF m pc L (v :: S))) : Go p l e R s m args below meth c Z a0 EL own Q vm h cells slots (mkF m pc L ((some v).toList ++ S)) := k
theorem gat0 (k : Go p l e R s m args below meth c Z a0 EL own Q vm h cells slots (mkF m pc L S)) : Go p l e R s m args below meth c Z a0 EL own Q vm h cells slots (mkF m pc L ((none : Option Value).toList ++ S)) := k
end Kit9
end Jvm.OwnKit
/- laws to paste: Road.backV, Road.lenW, Road.chN, Road.codOf (cut by pick.py; bodies as the Statement names them) -/
namespace Jvm.Pilot.@@N@@
namespace StrChars
open Jvm Sem ClassFile Op Lib Jvm.Stand Jvm.Free.XT Jvm.Free.ALB Jvm.Free.JM Jvm.Free
open Jvm.Lib.Cold (StaticIs)
/-- a char array whose places are chars -/
def Ch (a : Addr) (A : Cell) (U : State) : Prop := Arr .char a A U ∧ Typed .char A
theorem Ch.mv {a : Addr} {A : Cell} {U U' : State} (h : Ch a A U) (hal : U.vm.Alike U'.vm) (hh : U'.heap = U.heap) : Ch a A U' := ⟨h.1.mv hal hh, h.2⟩
theorem Ch.keep {a : Addr} {A : Cell} {U U' : State} (h : Ch a A U) (hal : U.vm.Alike U'.vm) (hk : U'.heap[a]? = some A) : Ch a A U' := ⟨h.1.keep hal hk, h.2⟩
/-- what place i of a char[]'s cell holds -/
def cv (A : Cell) (i : Nat) : Int32 := match A.slots[i]? with | some (.int x) => x | _ => 0
theorem Ch.get {a : Addr} {A : Cell} {U : State} (h : Ch a A U) {i : Nat} (hi : i < A.slots.size) : A.slots[i]? = some (.int (cv A i)) := by
  have e := Array.getElem?_eq_getElem hi
  have f := h.2 i _ e
  unfold cv; rw [e]
  generalize A.slots[i] = v at f
  cases v <;> simp [fits] at f ⊢
/-- the byte that i2b leaves of a char -/
def lo8 (x : Int32) : Int32 := x.toInt8.toInt32
theorem fits_lo8 (y : Int32) : fits .byte (.int (lo8 y)) = true := by
  have h1 := y.toInt8.le_toInt
  have h2 := y.toInt8.toInt_lt
  simp only [lo8, fits, Bool.and_eq_true, decide_eq_true_eq, Int32.le_iff_toInt_le, Int8.toInt_toInt32, show (-128 : Int32).toInt = -128 from by decide, show (127 : Int32).toInt = 127 from by decide]
  omega
/-- A' is A but that each place j of lo .. hi - 1 holds f j -/
def Laid (A A' : Cell) (lo hi : Nat) (f : Nat → Value) : Prop := A'.cls = A.cls ∧ A'.vm = A.vm ∧ A'.slots.size = A.slots.size ∧ ∀ i, A'.slots[i]? = if lo ≤ i ∧ i < hi then some (f i) else A.slots[i]?
theorem Laid.zero (A : Cell) (lo : Nat) (f : Nat → Value) : Laid A A lo (lo + 0) f := ⟨rfl, rfl, rfl, fun i => by rw [if_neg (by omega)]⟩
theorem Laid.step {A Ak : Cell} {lo k : Nat} {f : Nat → Value} {v : Value} (h : Laid A Ak lo k f) (hlo : lo ≤ k) (hk : k < Ak.slots.size) (hv : v = f k) : Laid A (Ak.setSlot k v) lo (k + 1) f := by
  refine ⟨h.1, h.2.1, by simpa [Cell.setSlot] using h.2.2.1, fun i => ?_⟩
  by_cases e : k = i
  · subst e; rw [Cell.slots_setSlot_self v hk, if_pos (by omega), hv]
  · rw [Cell.slots_setSlot_ne v e, h.2.2.2 i]
    by_cases q : lo ≤ i ∧ i < k
    · rw [if_pos q, if_pos (by omega)]
    · rw [if_neg q, if_neg (by omega)]
def U16 : String := "java/lang/StringUTF16"
namespace Cmp5
def yN : MethodName := ⟨"java/lang/StringUTF16", "compress", "([CI[BII)I"⟩
abbrev yB : ByteArray := jdk_52_method_21_code
theorem d0 : decode yB 0 = .ok (.iconst 0, 1) := by decide +kernel
theorem d1 : decode yB 1 = .ok (.istore 5, 2) := by decide +kernel
theorem d3 : decode yB 3 = .ok (.iload 5, 2) := by decide +kernel
theorem d5 : decode yB 5 = .ok (.iload 4, 2) := by decide +kernel
theorem d7 : decode yB 7 = .ok (.if_icmp (.ge) 37, 3) := by decide +kernel
theorem d10 : decode yB 10 = .ok (.aload_n 0, 1) := by decide +kernel
theorem d11 : decode yB 11 = .ok (.iload_n 1, 1) := by decide +kernel
theorem d12 : decode yB 12 = .ok (.caload, 1) := by decide +kernel
theorem d13 : decode yB 13 = .ok (.istore 6, 2) := by decide +kernel
theorem d15 : decode yB 15 = .ok (.iload 6, 2) := by decide +kernel
theorem d17 : decode yB 17 = .ok (.sipush 255, 3) := by decide +kernel
theorem d20 : decode yB 20 = .ok (.if_icmp (.le) 6, 3) := by decide +kernel
theorem d26 : decode yB 26 = .ok (.aload_n 2, 1) := by decide +kernel
theorem d27 : decode yB 27 = .ok (.iload_n 3, 1) := by decide +kernel
theorem d28 : decode yB 28 = .ok (.iload 6, 2) := by decide +kernel
theorem d30 : decode yB 30 = .ok (.i2b, 1) := by decide +kernel
theorem d31 : decode yB 31 = .ok (.bastore, 1) := by decide +kernel
theorem d32 : decode yB 32 = .ok (.iinc 1 1, 3) := by decide +kernel
theorem d35 : decode yB 35 = .ok (.iinc 3 1, 3) := by decide +kernel
theorem d38 : decode yB 38 = .ok (.iinc 5 1, 3) := by decide +kernel
theorem d41 : decode yB 41 = .ok (.goto (-38), 3) := by decide +kernel
theorem d44 : decode yB 44 = .ok (.iload 4, 2) := by decide +kernel
theorem d46 : decode yB 46 = .ok (.ireturn, 1) := by decide +kernel
def site : List Cond := []
def tab : Cond := tabOf yN yB 7 (some .int) site
def P (b : Addr) (A : Cell) (d : Addr) (B : Cell) (o q len : Nat) (args : Array Value) (s : State) : Prop := args = #[.ref b, .int (Int32.ofNat o), .ref d, .int (Int32.ofNat q), .int (Int32.ofNat len)] ∧ Ch b A s ∧ Arr .byte d B s ∧ b ≠ d ∧ o + len ≤ A.slots.size ∧ q + len ≤ B.slots.size ∧ ∀ i, i < len → ¬ 255 < cv A (o + i)
def E (b : Addr) (A : Cell) (d : Addr) (B : Cell) (o q len : Nat) (r : Option Value) (s u : State) : Prop := r = some (.int (Int32.ofNat len)) ∧ ∃ B', Put d B' s u ∧ Laid B B' q (q + len) (fun j => Value.int (lo8 (cv A (o + (j - q)))))
/-- no char of the range above 255: len; the places written hold each char's low byte -/
theorem law (l : Launch) (b : Addr) (A : Cell) (d : Addr) (B : Cell) (o q len : Nat) : Law l yN 5 5 0 0 yB 7 (some .int) site (P b A d B o q len) (E b A d B o q len) (copyLocs d q len) 0 0 := by
  refine Law.of_walk (plainFor_of_name (by decide +kernel)) (by decide +kernel) (by decide +kernel) (by decide) (fun _ _ h => by rw [h.1]; rfl) (fun _ U U' hal hh h => ⟨h.1, h.2.1.mv hal hh, h.2.2.1.mv hal hh, h.2.2.2⟩) (fun r U U' V V' h1 hal h2 h => ⟨h.1, h.2.elim fun B' q => ⟨B', q.1.mv h1 h2, q.2⟩⟩) ?_
  intro p e s m args below meth c s₁ X0 hexec hbytes hml hret hlk hnm hown hh0 W hP
  obtain ⟨rfl, hA, hB, hne, l1, l2, hp⟩ := hP
  have c1 : Steps p.tables e below (s₁.setTop (entryFrame m #[.ref b, .int (Int32.ofNat o), .ref d, .int (Int32.ofNat q), .int (Int32.ofNat len)] 7)) (s₁.setTop (mkF m 0 #[.val (.ref b), .val (.int (Int32.ofNat o)), .val (.ref d), .val (.int (Int32.ofNat q)), .val (.int (Int32.ofNat len)), .unset, .unset] [])) := entry rfl
  have hA0 := hA.1.mv X0.warmed.alike hh0
  have hB0 := hB.mv X0.warmed.alike hh0
  have a31 := hA.1.2.2.2
  have c2 : Steps p.tables e below (s₁.setTop (entryFrame m #[.ref b, .int (Int32.ofNat o), .ref d, .int (Int32.ofNat q), .int (Int32.ofNat len)] 7)) (s₁.setTop (mkF m 3 #[.val (.ref b), .val (.int (Int32.ofNat o)), .val (.ref d), .val (.int (Int32.ofNat q)), .val (.int (Int32.ofNat len)), .val (.int 0), .unset] [])) := c1.trans (by
    refine iconstV X0.here hexec rfl 0 (hb hbytes d0) (by decide) ?_
    refine XS.istore X0.here hexec rfl (hb hbytes d1) rfl rfl ?_
    exact Steps.refl _)
  have loop : ∀ (r i : Nat), i + r = len → ∀ (z : Slot), (z = .unset ∨ ∃ w, z = .val w ∧ w.category = 1) → ∀ (Tl : State) (Bk : Cell), Stand p l e { frames := 0, locals := 0, cells := 0, slots := 0 } s m #[.ref b, .int (Int32.ofNat o), .ref d, .int (Int32.ofNat q), .int (Int32.ofNat len)] below meth c Tl ([] ++ copyLocs d q i) 0 0 → Put d Bk s₁ Tl → Laid B Bk q (q + i) (fun j => Value.int (lo8 (cv A (o + (j - q))))) →
      Steps p.tables e below (s₁.setTop (entryFrame m #[.ref b, .int (Int32.ofNat o), .ref d, .int (Int32.ofNat q), .int (Int32.ofNat len)] 7)) (Tl.setTop (mkF m 3 #[.val (.ref b), .val (.int (Int32.ofNat (o + i))), .val (.ref d), .val (.int (Int32.ofNat (q + i))), .val (.int (Int32.ofNat len)), .val (.int (Int32.ofNat i)), z] [])) → ∃ (T' : State) (B' : Cell) (z' : Slot), Stand p l e { frames := 0, locals := 0, cells := 0, slots := 0 } s m #[.ref b, .int (Int32.ofNat o), .ref d, .int (Int32.ofNat q), .int (Int32.ofNat len)] below meth c T' ([] ++ copyLocs d q len) 0 0 ∧ Put d B' s₁ T' ∧ Laid B B' q (q + len) (fun j => Value.int (lo8 (cv A (o + (j - q))))) ∧
      Steps p.tables e below (s₁.setTop (entryFrame m #[.ref b, .int (Int32.ofNat o), .ref d, .int (Int32.ofNat q), .int (Int32.ofNat len)] 7)) (T'.setTop (mkF m 3 #[.val (.ref b), .val (.int (Int32.ofNat (o + len))), .val (.ref d), .val (.int (Int32.ofNat (q + len))), .val (.int (Int32.ofNat len)), .val (.int (Int32.ofNat len)), z'] [])) := by
    intro r
    induction r with
    | zero =>
      intro i hi z hz Tl Bk Xl pl fl cl
      have hil : i = len := by omega
      rw [hil] at Xl fl cl
      exact ⟨Tl, Bk, z, Xl, pl, fl, cl⟩
    | succ r ih =>
      intro i hi z hz Tl Bk Xl pl fl cl
      have all := X0.warmed.alike.symm.trans Xl.warmed.alike
      have hAl := hA0.keep all (pl.other hne hA0.1)
      have hBk := hB0.like all pl.1 fl.1 fl.2.1 fl.2.2.1
      have hlt : q + i < Bk.slots.size := by rw [fl.2.2.1]; omega
      have c3 : Steps p.tables e below (s₁.setTop (entryFrame m #[.ref b, .int (Int32.ofNat o), .ref d, .int (Int32.ofNat q), .int (Int32.ofNat len)] 7)) (Tl.setTop (mkF m 12 #[.val (.ref b), .val (.int (Int32.ofNat (o + i))), .val (.ref d), .val (.int (Int32.ofNat (q + i))), .val (.int (Int32.ofNat len)), .val (.int (Int32.ofNat i)), z] [.int (Int32.ofNat (o + i)), .ref b])) := cl.trans (by
        refine XS.iload Xl.here hexec rfl (hb hbytes d3) rfl ?_
        refine XS.iload Xl.here hexec rfl (hb hbytes d5) rfl ?_
        refine XS.icmpNo Xl.here hexec rfl (hb hbytes d7) rfl (ii_ge_f (lt32 (by omega) (by omega))) ?_
        refine XS.aloadN Xl.here hexec rfl (hb hbytes d10) rfl rfl ?_
        refine XS.iloadN Xl.here hexec rfl (hb hbytes d11) rfl ?_
        exact Steps.refl _)
      have c4 : Steps p.tables e below (s₁.setTop (entryFrame m #[.ref b, .int (Int32.ofNat o), .ref d, .int (Int32.ofNat q), .int (Int32.ofNat len)] 7)) (Tl.setTop (mkF m 13 #[.val (.ref b), .val (.int (Int32.ofNat (o + i))), .val (.ref d), .val (.int (Int32.ofNat (q + i))), .val (.int (Int32.ofNat len)), .val (.int (Int32.ofNat i)), z] [.int (cv A (o + i))])) := c3.trans (by
        refine Xl.aget hexec hAl rfl (hA.get (i := o + i) (by omega)) rfl rfl (hb hbytes d12) ?_
        exact Steps.refl _)
      have c5 : Steps p.tables e below (s₁.setTop (entryFrame m #[.ref b, .int (Int32.ofNat o), .ref d, .int (Int32.ofNat q), .int (Int32.ofNat len)] 7)) (Tl.setTop (mkF m 15 #[.val (.ref b), .val (.int (Int32.ofNat (o + i))), .val (.ref d), .val (.int (Int32.ofNat (q + i))), .val (.int (Int32.ofNat len)), .val (.int (Int32.ofNat i)), .val (.int (cv A (o + i)))] [])) := c4.trans (by
        refine XS.istoreS Xl.here hexec rfl (hb hbytes d13) rfl rfl hz ?_
        exact Steps.refl _)
      have c6 : Steps p.tables e below (s₁.setTop (entryFrame m #[.ref b, .int (Int32.ofNat o), .ref d, .int (Int32.ofNat q), .int (Int32.ofNat len)] 7)) (Tl.setTop (mkF m 31 #[.val (.ref b), .val (.int (Int32.ofNat (o + i))), .val (.ref d), .val (.int (Int32.ofNat (q + i))), .val (.int (Int32.ofNat len)), .val (.int (Int32.ofNat i)), .val (.int (cv A (o + i)))] [.int (lo8 (cv A (o + i))), .int (Int32.ofNat (q + i)), .ref d])) := c5.trans (by
        refine XS.iload Xl.here hexec rfl (hb hbytes d15) rfl ?_
        refine sipushV Xl.here hexec rfl 255 (hb hbytes d17) (by decide) ?_
        refine XS.icmpYes Xl.here hexec rfl (pc0 := 20) rfl (hb hbytes d20) rfl (ii_le_t (hp i (by omega))) (by decide) rfl ?_
        refine XS.aloadN Xl.here hexec rfl (hb hbytes d26) rfl rfl ?_
        refine XS.iloadN Xl.here hexec rfl (hb hbytes d27) rfl ?_
        refine XS.iload Xl.here hexec rfl (hb hbytes d28) rfl ?_
        refine i2b Xl.here hexec rfl (hb hbytes d30) rfl ?_
        exact Steps.refl _)
      obtain ⟨T7, X7, p7, st7⟩ := Xl.aput hexec hBk rfl hlt rfl (fits_lo8 (cv A (o + i))) (g := (mkF m 31 #[.val (.ref b), .val (.int (Int32.ofNat (o + i))), .val (.ref d), .val (.int (Int32.ofNat (q + i))), .val (.int (Int32.ofNat len)), .val (.int (Int32.ofNat i)), .val (.int (cv A (o + i)))] [.int (lo8 (cv A (o + i))), .int (Int32.ofNat (q + i)), .ref d])) rfl (rest := []) rfl (hb hbytes d31)
      have c8 : Steps p.tables e below (s₁.setTop (entryFrame m #[.ref b, .int (Int32.ofNat o), .ref d, .int (Int32.ofNat q), .int (Int32.ofNat len)] 7)) (T7.setTop (mkF m 32 #[.val (.ref b), .val (.int (Int32.ofNat (o + i))), .val (.ref d), .val (.int (Int32.ofNat (q + i))), .val (.int (Int32.ofNat len)), .val (.int (Int32.ofNat i)), .val (.int (cv A (o + i)))] [])) := c6.trans (st7 _ (Steps.refl _))
      have c9 : Steps p.tables e below (s₁.setTop (entryFrame m #[.ref b, .int (Int32.ofNat o), .ref d, .int (Int32.ofNat q), .int (Int32.ofNat len)] 7)) (T7.setTop (mkF m 3 #[.val (.ref b), .val (.int (Int32.ofNat (o + i) + 1)), .val (.ref d), .val (.int (Int32.ofNat (q + i) + 1)), .val (.int (Int32.ofNat len)), .val (.int (Int32.ofNat i + 1)), .val (.int (cv A (o + i)))] [])) := c8.trans (by
        refine iincV X7.here hexec rfl 1 (hb hbytes d32) (by decide) rfl rfl ?_
        refine iincV X7.here hexec rfl 1 (hb hbytes d35) (by decide) rfl rfl ?_
        refine iincV X7.here hexec rfl 1 (hb hbytes d38) (by decide) rfl rfl ?_
        refine XS.goto X7.here hexec rfl (pc0 := 41) rfl (hb hbytes d41) (by decide) rfl ?_
        exact Steps.refl _)
      have c10 : Steps p.tables e below (s₁.setTop (entryFrame m #[.ref b, .int (Int32.ofNat o), .ref d, .int (Int32.ofNat q), .int (Int32.ofNat len)] 7)) (T7.setTop (mkF m 3 #[.val (.ref b), .val (.int (Int32.ofNat (o + (i + 1)))), .val (.ref d), .val (.int (Int32.ofNat (q + (i + 1)))), .val (.int (Int32.ofNat len)), .val (.int (Int32.ofNat (i + 1))), .val (.int (cv A (o + i)))] [])) := by
        have := c9
        rw [succ32, succ32, succ32] at this
        exact this
      exact ih (i + 1) (by omega) _ (Or.inr ⟨_, rfl, rfl⟩) T7 _ (by rw [copyLocs_step, ← List.append_assoc]; exact X7) (pl.trans p7) (fl.step (by omega) hlt (by simp)) c10
  obtain ⟨T9, B9, z9, X9, p9, f9, g9⟩ := loop len 0 (by omega) .unset (Or.inl rfl) s₁ B (by simpa [copyLocs] using X0) ⟨hB0.1, fun _ _ => rfl, rfl⟩ (Laid.zero _ _ _) c2
  have c11 : Steps p.tables e below (s₁.setTop (entryFrame m #[.ref b, .int (Int32.ofNat o), .ref d, .int (Int32.ofNat q), .int (Int32.ofNat len)] 7)) (T9.setTop (mkF m 46 #[.val (.ref b), .val (.int (Int32.ofNat (o + len))), .val (.ref d), .val (.int (Int32.ofNat (q + len))), .val (.int (Int32.ofNat len)), .val (.int (Int32.ofNat len)), z9] [.int (Int32.ofNat len)])) := g9.trans (by
    refine XS.iload X9.here hexec rfl (hb hbytes d3) rfl ?_
    refine XS.iload X9.here hexec rfl (hb hbytes d5) rfl ?_
    refine XS.icmpYes X9.here hexec rfl (pc0 := 7) rfl (hb hbytes d7) rfl (ii_ge_t (nlt32 (by omega) (Nat.le_refl _))) (by decide) rfl ?_
    refine XS.iload X9.here hexec rfl (hb hbytes d44) rfl ?_
    exact Steps.refl _)
  exact ⟨T9, some (.int (Int32.ofNat len)), _, _, _, X9, by simp, rfl, rfl, (fun h => by cases h), ⟨rfl, B9, p9.from hh0, f9⟩, fun fs hl => c11.trans (X9.ireturnOut hexec hret rfl (Or.inl rfl) (hb hbytes d46) hl)⟩
end Cmp5
namespace Cmp3
def yN : MethodName := ⟨"java/lang/StringUTF16", "compress", "([CII)[B"⟩
abbrev yB : ByteArray := jdk_52_method_16_code
theorem d0 : decode yB 0 = .ok (.iload_n 2, 1) := by decide +kernel
theorem d1 : decode yB 1 = .ok (.newarray .byte, 2) := by decide +kernel
theorem d3 : decode yB 3 = .ok (.astore_n 3, 1) := by decide +kernel
theorem d4 : decode yB 4 = .ok (.aload_n 0, 1) := by decide +kernel
theorem d5 : decode yB 5 = .ok (.iload_n 1, 1) := by decide +kernel
theorem d6 : decode yB 6 = .ok (.aload_n 3, 1) := by decide +kernel
theorem d7 : decode yB 7 = .ok (.iconst 0, 1) := by decide +kernel
theorem d8 : decode yB 8 = .ok (.iload_n 2, 1) := by decide +kernel
theorem d9 : decode yB 9 = .ok (.invokestatic 115, 3) := by decide +kernel
theorem d12 : decode yB 12 = .ok (.istore 4, 2) := by decide +kernel
theorem d14 : decode yB 14 = .ok (.iload 4, 2) := by decide +kernel
theorem d16 : decode yB 16 = .ok (.iload_n 2, 1) := by decide +kernel
theorem d17 : decode yB 17 = .ok (.if_icmp (.eq) 40, 3) := by decide +kernel
theorem d57 : decode yB 57 = .ok (.aload_n 3, 1) := by decide +kernel
theorem d58 : decode yB 58 = .ok (.areturn, 1) := by decide +kernel
def site : List Cond := [.arrayClass .byte, Cmp5.tab] ++ staticW U16 115 Cmp5.yN
def tab : Cond := tabOf yN yB 6 (some (.array .byte)) site
def P (b : Addr) (A : Cell) (o len : Nat) (args : Array Value) (s : State) : Prop := args = #[.ref b, .int (Int32.ofNat o), .int (Int32.ofNat len)] ∧ Ch b A s ∧ o + len ≤ A.slots.size ∧ len ≤ 536870912 ∧ ∀ i, i < len → ¬ 255 < cv A (o + i)
def E (b : Addr) (A : Cell) (o len : Nat) (r : Option Value) (s u : State) : Prop := NewArr .byte "[B" len (fun j => .int (lo8 (cv A (o + j)))) r s u ∧ u.heap.size = s.heap.size + 1
/-- no char of the range above 255: a new byte[] of their low bytes -/
theorem law (l : Launch) (b : Addr) (A : Cell) (o len : Nat) : Law l yN 3 3 1 18 yB 6 (some (.array .byte)) site (P b A o len) (E b A o len) [] 1 len := by
  refine Law.of_walk (plainFor_of_name (by decide +kernel)) (by decide +kernel) (by decide +kernel) (by decide) (fun _ _ h => by rw [h.1]; rfl) (fun _ U U' hal hh h => ⟨h.1, h.2.1.mv hal hh, h.2.2⟩) (fun r U U' V V' h1 hal h2 h => ⟨NewArr.mv r U U' V V' h1 hal h2 h.1, by rw [h1, h2]; exact h.2⟩) ?_
  intro p e s m args below meth c s₁ X0 hexec hbytes hml hret hlk hnm hown hh0 W hP
  obtain ⟨rfl, hA, l1, l2, hp⟩ := hP
  have a31 := hA.1.2.2.2
  have c1 : Steps p.tables e below (s₁.setTop (entryFrame m #[.ref b, .int (Int32.ofNat o), .int (Int32.ofNat len)] 6)) (s₁.setTop (mkF m 0 #[.val (.ref b), .val (.int (Int32.ofNat o)), .val (.int (Int32.ofNat len)), .unset, .unset, .unset] [])) := entry rfl
  have c2 : Steps p.tables e below (s₁.setTop (entryFrame m #[.ref b, .int (Int32.ofNat o), .int (Int32.ofNat len)] 6)) (s₁.setTop (mkF m 1 #[.val (.ref b), .val (.int (Int32.ofNat o)), .val (.int (Int32.ofNat len)), .unset, .unset, .unset] [.int (Int32.ofNat len)])) := c1.trans (by
    refine XS.iloadN X0.here hexec rfl (hb hbytes d0) rfl ?_
    exact Steps.refl _)
  obtain ⟨T3, B3, X3, ba3, bs3, bv3, bh3, bf3, st3⟩ := X0.anew hexec (atype := .byte) (wk W (.arrayClass .byte)) rfl (by show len * 1 ≤ _; omega) (by omega) (g := (mkF m 1 #[.val (.ref b), .val (.int (Int32.ofNat o)), .val (.int (Int32.ofNat len)), .unset, .unset, .unset] [.int (Int32.ofNat len)])) rfl (hb hbytes d1) (rest := []) rfl (Nat.le_refl _) (by show 0 + len ≤ len; omega)
  rw [hh0] at ba3 st3
  have kp3 : XT.Kept s T3 := (XT.Kept.of_eq hh0).push bh3
  have hA3 := hA.keep X3.warmed.alike (kp3 _ _ hA.1.1)
  have hne : b ≠ s.heap.size := hA.1.ne
  have c4 : Steps p.tables e below (s₁.setTop (entryFrame m #[.ref b, .int (Int32.ofNat o), .int (Int32.ofNat len)] 6)) (T3.setTop (mkF m 3 #[.val (.ref b), .val (.int (Int32.ofNat o)), .val (.int (Int32.ofNat len)), .unset, .unset, .unset] [.ref s.heap.size])) := c2.trans (st3 _ (Steps.refl _))
  have c5 : Steps p.tables e below (s₁.setTop (entryFrame m #[.ref b, .int (Int32.ofNat o), .int (Int32.ofNat len)] 6)) (T3.setTop (mkF m 9 #[.val (.ref b), .val (.int (Int32.ofNat o)), .val (.int (Int32.ofNat len)), .val (.ref s.heap.size), .unset, .unset] [.int (Int32.ofNat len), .int 0, .ref s.heap.size, .int (Int32.ofNat o), .ref b])) := c4.trans (by
    refine XS.astoreN X3.here hexec rfl (hb hbytes d3) rfl rfl rfl ?_
    refine XS.aloadN X3.here hexec rfl (hb hbytes d4) rfl rfl ?_
    refine XS.iloadN X3.here hexec rfl (hb hbytes d5) rfl ?_
    refine XS.aloadN X3.here hexec rfl (hb hbytes d6) rfl rfl ?_
    refine iconstV X3.here hexec rfl 0 (hb hbytes d7) (by decide) ?_
    refine XS.iloadN X3.here hexec rfl (hb hbytes d8) rfl ?_
    exact Steps.refl _)
  obtain ⟨v6, T6, X6, E6, g6⟩ := X3.callS hexec (Cmp5.law l b A s.heap.size B3 o 0 len) hown (wks W (staticW U16 115 Cmp5.yN)) (wk W Cmp5.tab) (W := 0) (Nat.le_of_ble_eq_true rfl) (Nat.le_of_ble_eq_true rfl) (Nat.le_refl _) (by show 0 + len + 0 ≤ len; omega) (g := (mkF m 9 #[.val (.ref b), .val (.int (Int32.ofNat o)), .val (.int (Int32.ofNat len)), .val (.ref s.heap.size), .unset, .unset] [.int (Int32.ofNat len), .int (Int32.ofNat 0), .ref s.heap.size, .int (Int32.ofNat o), .ref b])) rfl (by rw [hml]; rfl) c5 (argsL := [.ref b, .int (Int32.ofNat o), .ref s.heap.size, .int (Int32.ofNat 0), .int (Int32.ofNat len)]) (rest := []) rfl rfl (by show 2 * 0 + 0 ≤ _; decide) (hb hbytes d9) (⟨rfl, hA3, ba3, hne, l1, by rw [bs3]; simp, hp⟩)
  obtain ⟨rfl, B6, p6, f6⟩ := E6
  have c7 : Steps p.tables e below (s₁.setTop (entryFrame m #[.ref b, .int (Int32.ofNat o), .int (Int32.ofNat len)] 6)) (T6.setTop (mkF m 12 #[.val (.ref b), .val (.int (Int32.ofNat o)), .val (.int (Int32.ofNat len)), .val (.ref s.heap.size), .unset, .unset] [.int (Int32.ofNat len)])) := g6
  have c8 : Steps p.tables e below (s₁.setTop (entryFrame m #[.ref b, .int (Int32.ofNat o), .int (Int32.ofNat len)] 6)) (T6.setTop (mkF m 58 #[.val (.ref b), .val (.int (Int32.ofNat o)), .val (.int (Int32.ofNat len)), .val (.ref s.heap.size), .val (.int (Int32.ofNat len)), .unset] [.ref s.heap.size])) := c7.trans (by
    refine XS.istore X6.here hexec rfl (hb hbytes d12) rfl rfl ?_
    refine XS.iload X6.here hexec rfl (hb hbytes d14) rfl ?_
    refine XS.iloadN X6.here hexec rfl (hb hbytes d16) rfl ?_
    refine XS.icmpYes X6.here hexec rfl (pc0 := 17) rfl (hb hbytes d17) rfl (ii_eq_t rfl) (by decide) rfl ?_
    refine XS.aloadN X6.here hexec rfl (hb hbytes d57) rfl rfl ?_
    exact Steps.refl _)
  have X8 := X6.wide (L' := []) (cells' := 1) (slots' := len) (fun x hx hlt => by
    simp only [List.nil_append, copyLocs, List.mem_map, List.mem_range] at hx
    obtain ⟨i, -, rfl⟩ := hx
    exact absurd hlt (Nat.lt_irrefl _)) (Nat.le_refl _) (by omega)
  exact ⟨T6, some (.ref s.heap.size), _, _, _, X8, rfl, rfl, rfl, (fun h => by cases h), ⟨⟨rfl, B6, ba3.like (X3.warmed.alike.symm.trans X6.warmed.alike) p6.1 f6.1 f6.2.1 f6.2.2.1, f6.2.1.trans bv3, by rw [X6.warmed.alike.findClass, f6.1]; exact bf3, by rw [f6.2.2.1, bs3]; simp, fun j hj => by rw [f6.2.2.2 j, if_pos (by omega)]; rfl, kp3.put p6 (Nat.le_refl _)⟩, by rw [p6.2.2, bh3, hh0]; simp⟩, fun fs hl => c8.trans (X8.areturnOut hexec rfl hret rfl (hb hbytes d58) hl)⟩
end Cmp3
namespace CodL
def yN : MethodName := ⟨"java/lang/StringUTF16", "coderFromArrayLen", "([BI)B"⟩
abbrev yB : ByteArray := jdk_52_method_15_code
theorem d0 : decode yB 0 = .ok (.iload_n 1, 1) := by decide +kernel
theorem d1 : decode yB 1 = .ok (.aload_n 0, 1) := by decide +kernel
theorem d2 : decode yB 2 = .ok (.arraylength, 1) := by decide +kernel
theorem d3 : decode yB 3 = .ok (.isub, 1) := by decide +kernel
theorem d4 : decode yB 4 = .ok (.bipush 31, 2) := by decide +kernel
theorem d6 : decode yB 6 = .ok (.iushr, 1) := by decide +kernel
theorem d7 : decode yB 7 = .ok (.i2b, 1) := by decide +kernel
theorem d8 : decode yB 8 = .ok (.ireturn, 1) := by decide +kernel
def site : List Cond := []
def tab : Cond := tabOf yN yB 2 (some .byte) site
def P (d : Addr) (B : Cell) (args : Array Value) (s : State) : Prop := args = #[.ref d, .int (Int32.ofNat B.slots.size)] ∧ Arr .byte d B s
def E (r : Option Value) (s u : State) : Prop := XT.PureE (some (.int 0)) r s u
/-- an array as long as the number of chars: LATIN1 -/
theorem law (l : Launch) (d : Addr) (B : Cell) : Law l yN 2 2 0 0 yB 2 (some .byte) site (P d B) E [] 0 0 := by
  refine Law.of_walk (plainFor_of_name (by decide +kernel)) (by decide +kernel) (by decide +kernel) (by decide) (fun _ _ h => by rw [h.1]; rfl) (fun _ U U' hal hh h => ⟨h.1, h.2.mv hal hh⟩) (fun r U U' V V' h1 hal h2 h => XT.PureE.mv r U U' V V' h1 hal h2 h) ?_
  intro p e s m args below meth c s₁ X0 hexec hbytes hml hret hlk hnm hown hh0 W hP
  obtain ⟨rfl, hB⟩ := hP
  have hB0 := hB.mv X0.warmed.alike hh0
  have c1 : Steps p.tables e below (s₁.setTop (entryFrame m #[.ref d, .int (Int32.ofNat B.slots.size)] 2)) (s₁.setTop (mkF m 0 #[.val (.ref d), .val (.int (Int32.ofNat B.slots.size))] [])) := entry rfl
  have c2 : Steps p.tables e below (s₁.setTop (entryFrame m #[.ref d, .int (Int32.ofNat B.slots.size)] 2)) (s₁.setTop (mkF m 2 #[.val (.ref d), .val (.int (Int32.ofNat B.slots.size))] [.ref d, .int (Int32.ofNat B.slots.size)])) := c1.trans (by
    refine XS.iloadN X0.here hexec rfl (hb hbytes d0) rfl ?_
    refine XS.aloadN X0.here hexec rfl (hb hbytes d1) rfl rfl ?_
    exact Steps.refl _)
  have c3 : Steps p.tables e below (s₁.setTop (entryFrame m #[.ref d, .int (Int32.ofNat B.slots.size)] 2)) (s₁.setTop (mkF m 8 #[.val (.ref d), .val (.int (Int32.ofNat B.slots.size))] [.int (lo8 (ushr (Int32.ofNat B.slots.size - Int32.ofNat B.slots.size) 31))])) := c2.trans (by
    refine X0.alen hexec hB0 rfl rfl (hb hbytes d2) ?_
    refine XS.isub X0.here hexec rfl (hb hbytes d3) rfl ?_
    refine bipushV X0.here hexec rfl 31 (hb hbytes d4) (by decide) ?_
    refine iushr X0.here hexec rfl (hb hbytes d6) rfl ?_
    refine i2b X0.here hexec rfl (hb hbytes d7) rfl ?_
    exact Steps.refl _)
  have e0 : lo8 (ushr (Int32.ofNat B.slots.size - Int32.ofNat B.slots.size) 31) = 0 := by rw [Int32.sub_self]; decide
  rw [e0] at c3
  exact ⟨s₁, some (.int 0), _, _, _, X0, rfl, rfl, rfl, (fun h => by cases h), ⟨rfl, hh0⟩, fun fs hl => c3.trans (X0.ireturnOut hexec hret rfl (Or.inr (Or.inr (Or.inl rfl))) (hb hbytes d8) hl)⟩
end CodL
/-- the String at a is Latin-1 over a new byte[] (the heap's one new cell): the low bytes of the len chars of A from o on; every cell but a is kept -/
def Got (a : Addr) (D : Cell) (fV fC : Field) (A : Cell) (o len : Nat) (r : Option Value) (s u : State) : Prop := r = none ∧ ∃ D' V : Cell, Blank "java/lang/String" a D' u ∧ Same D D' [fV.slot, fC.slot] ∧ D'.slots[fV.slot]? = some (.ref s.heap.size) ∧ D'.slots[fC.slot]? = some (.int 0) ∧ Arr .byte s.heap.size V u ∧ V.vm = .none ∧ u.vm.findClass "[B" = some V.cls ∧ V.slots.size = len ∧ (∀ j, j < len → V.slots[j]? = some (.int (lo8 (cv A (o + j))))) ∧ (∀ (y : Addr) (c : Cell), y ≠ a → s.heap[y]? = some c → u.heap[y]? = some c) ∧ u.heap.size = s.heap.size + 1
theorem Got.mv {a : Addr} {D A : Cell} {fV fC : Field} {o len : Nat} : ∀ r (U U' V V' : State), U'.heap = U.heap → V.vm.Alike V'.vm → V'.heap = V.heap → Got a D fV fC A o len r U V → Got a D fV fC A o len r U' V' :=
  fun r U U' V V' h1 hal h2 ⟨e0, D', X, a1, a2, a3, a4, a5, a6, a7, a8, a9, a10, a11⟩ => ⟨e0, D', X, a1.mv hal h2, a2, by rw [h1]; exact a3, a4, by rw [h1]; exact a5.mv hal h2, a6, by rw [hal.findClass]; exact a7, a8, a9, by rw [h1, h2]; exact a10, by rw [h1, h2]; exact a11⟩
namespace New4
def yN : MethodName := ⟨"java/lang/String", "<init>", "([CIILjava/lang/Void;)V"⟩
abbrev yB : ByteArray := jdk_42_method_149_code
theorem d0 : decode yB 0 = .ok (.aload_n 0, 1) := by decide +kernel
theorem d1 : decode yB 1 = .ok (.invokespecial 1, 3) := by decide +kernel
theorem d4 : decode yB 4 = .ok (.iload_n 3, 1) := by decide +kernel
theorem d5 : decode yB 5 = .ok (.ifCond (.ne) 22, 3) := by decide +kernel
theorem d27 : decode yB 27 = .ok (.getstatic 38, 3) := by decide +kernel
theorem d30 : decode yB 30 = .ok (.ifCond (.eq) 28, 3) := by decide +kernel
theorem d33 : decode yB 33 = .ok (.aload_n 1, 1) := by decide +kernel
theorem d34 : decode yB 34 = .ok (.iload_n 2, 1) := by decide +kernel
theorem d35 : decode yB 35 = .ok (.iload_n 3, 1) := by decide +kernel
theorem d36 : decode yB 36 = .ok (.invokestatic 177, 3) := by decide +kernel
theorem d39 : decode yB 39 = .ok (.astore 5, 2) := by decide +kernel
theorem d41 : decode yB 41 = .ok (.aload_n 0, 1) := by decide +kernel
theorem d42 : decode yB 42 = .ok (.aload 5, 2) := by decide +kernel
theorem d44 : decode yB 44 = .ok (.iload_n 3, 1) := by decide +kernel
theorem d45 : decode yB 45 = .ok (.invokestatic 47, 3) := by decide +kernel
theorem d48 : decode yB 48 = .ok (.putfield 15, 3) := by decide +kernel
theorem d51 : decode yB 51 = .ok (.aload_n 0, 1) := by decide +kernel
theorem d52 : decode yB 52 = .ok (.aload 5, 2) := by decide +kernel
theorem d54 : decode yB 54 = .ok (.putfield 9, 3) := by decide +kernel
theorem d57 : decode yB 57 = .ok (.return_, 1) := by decide +kernel
def site : List Cond := [.fieldLink "java/lang/String" 38 "java/lang/String" "COMPACT_STRINGS" "Z", Cmp3.tab, CodL.tab, .laysFinal "java/lang/String" "java/lang/String" "value" "[B", .fieldLink "java/lang/String" 9 "java/lang/String" "value" "[B", .laysFinal "java/lang/String" "java/lang/String" "coder" "B", .fieldLink "java/lang/String" 15 "java/lang/String" "coder" "B"] ++ objW "java/lang/String" 1 ++ staticW "java/lang/String" 177 Cmp3.yN ++ staticW "java/lang/String" 47 CodL.yN
def tab : Cond := tabOf yN yB 6 none site
def P (a : Addr) (D : Cell) (fV fC : Field) (b : Addr) (A : Cell) (z : Int32) (o len : Nat) (args : Array Value) (s : State) : Prop := args = #[.ref a, .ref b, .int (Int32.ofNat o), .int (Int32.ofNat len), .null] ∧ Blank "java/lang/String" a D s ∧ Found "java/lang/String" "value" "[B" fV s ∧ Found "java/lang/String" "coder" "B" fC s ∧ Ch b A s ∧ StaticIs s "java/lang/String" "COMPACT_STRINGS" "Z" (.int z) ∧ ¬ z = 0 ∧ 0 < len ∧ o + len ≤ A.slots.size ∧ len ≤ 536870912 ∧ ∀ i, i < len → ¬ 255 < cv A (o + i)
def E (a : Addr) (D : Cell) (fV fC : Field) (A : Cell) (o len : Nat) (r : Option Value) (s u : State) : Prop := Got a D fV fC A o len r s u
/-- len > 0, no char of the range above 255: a Latin-1 String of their low bytes -/
theorem law (l : Launch) (a : Addr) (D : Cell) (fV fC : Field) (b : Addr) (A : Cell) (z : Int32) (o len : Nat) : Law l yN 5 4 2 35 yB 6 none site (P a D fV fC b A z o len) (E a D fV fC A o len) [⟨a, fC.slot⟩, ⟨a, fV.slot⟩] 1 len := by
  refine Law.of_walk (plainFor_of_name (by decide +kernel)) (by decide +kernel) (by decide +kernel) (by decide) (fun _ _ h => by rw [h.1]; rfl) (fun _ U U' hal hh h => ⟨h.1, h.2.1.mv hal hh, h.2.2.1.al hal, h.2.2.2.1.al hal, h.2.2.2.2.1.mv hal hh, h.2.2.2.2.2.1.there hal hh, h.2.2.2.2.2.2⟩) (fun r U U' V V' h1 hal h2 h => Got.mv r U U' V V' h1 hal h2 h) ?_
  intro p e s m args below meth c s₁ X0 hexec hbytes hml hret hlk hnm hown hh0 W hP
  obtain ⟨rfl, hB, f1, f2, hA, s1, hz, l0, l1, l2, hp⟩ := hP
  have a31 := hA.1.2.2.2
  have c1 : Steps p.tables e below (s₁.setTop (entryFrame m #[.ref a, .ref b, .int (Int32.ofNat o), .int (Int32.ofNat len), .null] 6)) (s₁.setTop (mkF m 0 #[.val (.ref a), .val (.ref b), .val (.int (Int32.ofNat o)), .val (.int (Int32.ofNat len)), .val .null, .unset] [])) := entry rfl
  have c2 : Steps p.tables e below (s₁.setTop (entryFrame m #[.ref a, .ref b, .int (Int32.ofNat o), .int (Int32.ofNat len), .null] 6)) (s₁.setTop (mkF m 1 #[.val (.ref a), .val (.ref b), .val (.int (Int32.ofNat o)), .val (.int (Int32.ofNat len)), .val .null, .unset] [.ref a])) := c1.trans (by
    refine XS.aloadN X0.here hexec rfl (hb hbytes d0) rfl rfl ?_
    exact Steps.refl _)
  obtain ⟨T3, X3, q3, st3⟩ := X0.oinit hexec hown (wks W (objW "java/lang/String" 1)) (g := (mkF m 1 #[.val (.ref a), .val (.ref b), .val (.int (Int32.ofNat o)), .val (.int (Int32.ofNat len)), .val .null, .unset] [.ref a])) rfl (by rw [hml]; rfl) (rest := []) rfl (hb hbytes d1) (W := 0) (by show 2 * 0 + 0 ≤ _; decide) (Nat.le_of_ble_eq_true rfl) (Nat.le_of_ble_eq_true rfl)
  have hh3 := q3.trans hh0
  have c4 : Steps p.tables e below (s₁.setTop (entryFrame m #[.ref a, .ref b, .int (Int32.ofNat o), .int (Int32.ofNat len), .null] 6)) (T3.setTop (mkF m 27 #[.val (.ref a), .val (.ref b), .val (.int (Int32.ofNat o)), .val (.int (Int32.ofNat len)), .val .null, .unset] [])) := (c2.trans (st3 _ (Steps.refl _))).trans (by
    refine XS.iloadN X3.here hexec rfl (hb hbytes d4) rfl ?_
    refine XS.ifYes X3.here hexec rfl (pc0 := 5) rfl (hb hbytes d5) rfl (i0_ne_t (nz32 (by omega) l0)) (by decide) rfl ?_
    exact Steps.refl _)
  obtain ⟨T5, X5, q5, st5⟩ := X3.sget hexec hown (wk W (.fieldLink "java/lang/String" 38 "java/lang/String" "COMPACT_STRINGS" "Z")) s1 (fun _ _ h => by rw [hh3]; exact h) (g := (mkF m 27 #[.val (.ref a), .val (.ref b), .val (.int (Int32.ofNat o)), .val (.int (Int32.ofNat len)), .val .null, .unset] [])) rfl (hb hbytes d27)
  have hh5 := q5.trans hh3
  have c6 : Steps p.tables e below (s₁.setTop (entryFrame m #[.ref a, .ref b, .int (Int32.ofNat o), .int (Int32.ofNat len), .null] 6)) (T5.setTop (mkF m 30 #[.val (.ref a), .val (.ref b), .val (.int (Int32.ofNat o)), .val (.int (Int32.ofNat len)), .val .null, .unset] [.int z])) := c4.trans (st5 _ (Steps.refl _))
  have c7 : Steps p.tables e below (s₁.setTop (entryFrame m #[.ref a, .ref b, .int (Int32.ofNat o), .int (Int32.ofNat len), .null] 6)) (T5.setTop (mkF m 36 #[.val (.ref a), .val (.ref b), .val (.int (Int32.ofNat o)), .val (.int (Int32.ofNat len)), .val .null, .unset] [.int (Int32.ofNat len), .int (Int32.ofNat o), .ref b])) := c6.trans (by
    refine XS.ifNo X5.here hexec rfl (hb hbytes d30) rfl (i0_eq_f hz) ?_
    refine XS.aloadN X5.here hexec rfl (hb hbytes d33) rfl rfl ?_
    refine XS.iloadN X5.here hexec rfl (hb hbytes d34) rfl ?_
    refine XS.iloadN X5.here hexec rfl (hb hbytes d35) rfl ?_
    exact Steps.refl _)
  obtain ⟨v8, T8, X8, E8, g8⟩ := X5.callS hexec (Cmp3.law l b A o len) hown (wks W (staticW "java/lang/String" 177 Cmp3.yN)) (wk W Cmp3.tab) (W := 0) (Nat.le_of_ble_eq_true rfl) (Nat.le_of_ble_eq_true rfl) (Nat.le_refl _) (by show 0 + len ≤ len; omega) (g := (mkF m 36 #[.val (.ref a), .val (.ref b), .val (.int (Int32.ofNat o)), .val (.int (Int32.ofNat len)), .val .null, .unset] [.int (Int32.ofNat len), .int (Int32.ofNat o), .ref b])) rfl (by rw [hml]; rfl) c7 (argsL := [.ref b, .int (Int32.ofNat o), .int (Int32.ofNat len)]) (rest := []) rfl rfl (by show 2 * 0 + 0 ≤ _; decide) (hb hbytes d36) (⟨rfl, hA.mv X5.warmed.alike hh5, l1, l2, hp⟩)
  obtain ⟨e8, z8⟩ := E8
  obtain ⟨rfl, N, n1, n2, n3, n4, n5, n6⟩ := NewArr.mv _ T5 s _ _ hh5.symm (Vm.Alike.refl _) rfl e8
  rw [hh5] at z8
  have hB1 := hB.keep X8.warmed.alike (n6 _ _ hB.1)
  have hne : s.heap.size ≠ a := (Nat.ne_of_lt (Array.getElem?_eq_some_iff.mp hB.1).1).symm
  have c9 : Steps p.tables e below (s₁.setTop (entryFrame m #[.ref a, .ref b, .int (Int32.ofNat o), .int (Int32.ofNat len), .null] 6)) (T8.setTop (mkF m 39 #[.val (.ref a), .val (.ref b), .val (.int (Int32.ofNat o)), .val (.int (Int32.ofNat len)), .val .null, .unset] [.ref s.heap.size])) := g8
  have c10 : Steps p.tables e below (s₁.setTop (entryFrame m #[.ref a, .ref b, .int (Int32.ofNat o), .int (Int32.ofNat len), .null] 6)) (T8.setTop (mkF m 45 #[.val (.ref a), .val (.ref b), .val (.int (Int32.ofNat o)), .val (.int (Int32.ofNat len)), .val .null, .val (.ref s.heap.size)] [.int (Int32.ofNat N.slots.size), .ref s.heap.size, .ref a])) := by
    have hc : Steps p.tables e below (s₁.setTop (entryFrame m #[.ref a, .ref b, .int (Int32.ofNat o), .int (Int32.ofNat len), .null] 6)) (T8.setTop (mkF m 45 #[.val (.ref a), .val (.ref b), .val (.int (Int32.ofNat o)), .val (.int (Int32.ofNat len)), .val .null, .val (.ref s.heap.size)] [.int (Int32.ofNat len), .ref s.heap.size, .ref a])) := c9.trans (by
      refine XS.astore X8.here hexec rfl (hb hbytes d39) rfl rfl rfl ?_
      refine XS.aloadN X8.here hexec rfl (hb hbytes d41) rfl rfl ?_
      refine XS.aload X8.here hexec rfl (hb hbytes d42) rfl rfl ?_
      refine XS.iloadN X8.here hexec rfl (hb hbytes d44) rfl ?_
      exact Steps.refl _)
    rw [n4]; exact hc
  obtain ⟨v11, T11, X11, E11, g11⟩ := X8.callS hexec (CodL.law l s.heap.size N) hown (wks W (staticW "java/lang/String" 47 CodL.yN)) (wk W CodL.tab) (W := 1) (Nat.le_of_ble_eq_true rfl) (Nat.le_of_ble_eq_true rfl) (Nat.le_refl _) (by show 0 + len + 0 ≤ len; omega) (g := (mkF m 45 #[.val (.ref a), .val (.ref b), .val (.int (Int32.ofNat o)), .val (.int (Int32.ofNat len)), .val .null, .val (.ref s.heap.size)] [.int (Int32.ofNat N.slots.size), .ref s.heap.size, .ref a])) rfl (by rw [hml]; rfl) c10 (argsL := [.ref s.heap.size, .int (Int32.ofNat N.slots.size)]) (rest := [.ref a]) rfl rfl (by show 2 * 0 + (1 + 0) ≤ _; decide) (hb hbytes d45) (⟨rfl, n1⟩)
  obtain ⟨rfl, q11⟩ := E11
  have hB11 := hB1.mv (X8.warmed.alike.symm.trans X11.warmed.alike) q11
  have c12 : Steps p.tables e below (s₁.setTop (entryFrame m #[.ref a, .ref b, .int (Int32.ofNat o), .int (Int32.ofNat len), .null] 6)) (T11.setTop (mkF m 48 #[.val (.ref a), .val (.ref b), .val (.int (Int32.ofNat o)), .val (.int (Int32.ofNat len)), .val .null, .val (.ref s.heap.size)] [.int 0, .ref a])) := g11
  obtain ⟨T13, X13, p13, bl13, sl13, st13⟩ := X11.finit hexec hown (wk W (.fieldLink "java/lang/String" 15 "java/lang/String" "coder" "B")) (Or.inr ⟨_, (wk W (.laysFinal "java/lang/String" "java/lang/String" "coder" "B"))⟩) (Or.inl ⟨rfl, hnm⟩) f2 (Or.inl rfl) hB11 (t := .byte) (by decide +kernel) rfl (g := (mkF m 48 #[.val (.ref a), .val (.ref b), .val (.int (Int32.ofNat o)), .val (.int (Int32.ofNat len)), .val .null, .val (.ref s.heap.size)] [.int 0, .ref a])) rfl (rest := []) rfl (hb hbytes d48)
  have c14 : Steps p.tables e below (s₁.setTop (entryFrame m #[.ref a, .ref b, .int (Int32.ofNat o), .int (Int32.ofNat len), .null] 6)) (T13.setTop (mkF m 54 #[.val (.ref a), .val (.ref b), .val (.int (Int32.ofNat o)), .val (.int (Int32.ofNat len)), .val .null, .val (.ref s.heap.size)] [.ref s.heap.size, .ref a])) := (c12.trans (st13 _ (Steps.refl _))).trans (by
    refine XS.aloadN X13.here hexec rfl (hb hbytes d51) rfl rfl ?_
    refine XS.aload X13.here hexec rfl (hb hbytes d52) rfl rfl ?_
    exact Steps.refl _)
  obtain ⟨T15, X15, p15, bl15, sl15, st15⟩ := X13.finit hexec hown (wk W (.fieldLink "java/lang/String" 9 "java/lang/String" "value" "[B")) (Or.inr ⟨_, (wk W (.laysFinal "java/lang/String" "java/lang/String" "value" "[B"))⟩) (Or.inl ⟨rfl, hnm⟩) f1 (Or.inl rfl) bl13 (t := (.array .byte)) (by decide +kernel) rfl (g := (mkF m 54 #[.val (.ref a), .val (.ref b), .val (.int (Int32.ofNat o)), .val (.int (Int32.ofNat len)), .val .null, .val (.ref s.heap.size)] [.ref s.heap.size, .ref a])) rfl (rest := []) rfl (hb hbytes d54)
  have c16 : Steps p.tables e below (s₁.setTop (entryFrame m #[.ref a, .ref b, .int (Int32.ofNat o), .int (Int32.ofNat len), .null] 6)) (T15.setTop (mkF m 57 #[.val (.ref a), .val (.ref b), .val (.int (Int32.ofNat o)), .val (.int (Int32.ofNat len)), .val .null, .val (.ref s.heap.size)] [])) := c14.trans (st15 _ (Steps.refl _))
  have ap := apart (Or.inr ⟨_, (wk W (.laysFinal "java/lang/String" "java/lang/String" "value" "[B"))⟩) (Or.inr ⟨_, (wk W (.laysFinal "java/lang/String" "java/lang/String" "coder" "B"))⟩) f1 f2 (t₁ := .array .byte) (t₂ := .byte) (by decide +kernel) (by decide +kernel) (by decide)
  have al := X8.warmed.alike.symm.trans X15.warmed.alike
  have n7 : T11.heap[s.heap.size]? = some N := by rw [q11]; exact n1.1
  exact ⟨T15, none, _, _, _, X15, by simp, rfl, by omega, (fun _ => rfl), ⟨rfl, _, N, bl15, ((Same.refl D _).set _ (by simp)).set _ (by simp), sl15, (Cell.slots_setSlot_ne _ ap).trans sl13, n1.keep al (p15.other hne (p13.other hne n7)), n2, by rw [al.findClass]; exact n3, n4, n5, fun y c h1 h2 => p15.other h1 (p13.other h1 (by rw [q11]; exact n6 y c h2)), by rw [p15.2.2, p13.2.2, q11]; exact z8⟩, fun fs hl => c16.trans (X15.returnOut hexec hret (hb hbytes d57) hl)⟩
end New4
namespace New1
def yN : MethodName := ⟨"java/lang/String", "<init>", "([C)V"⟩
abbrev yB : ByteArray := jdk_42_method_3_code
theorem d0 : decode yB 0 = .ok (.aload_n 0, 1) := by decide +kernel
theorem d1 : decode yB 1 = .ok (.aload_n 1, 1) := by decide +kernel
theorem d2 : decode yB 2 = .ok (.iconst 0, 1) := by decide +kernel
theorem d3 : decode yB 3 = .ok (.aload_n 1, 1) := by decide +kernel
theorem d4 : decode yB 4 = .ok (.arraylength, 1) := by decide +kernel
theorem d5 : decode yB 5 = .ok (.aconst_null, 1) := by decide +kernel
theorem d6 : decode yB 6 = .ok (.invokespecial 27, 3) := by decide +kernel
theorem d9 : decode yB 9 = .ok (.return_, 1) := by decide +kernel
def site : List Cond := [New4.tab] ++ initW "java/lang/String" 27 New4.yN
def tab : Cond := tabOf yN yB 2 none site
def P (a : Addr) (D : Cell) (fV fC : Field) (b : Addr) (A : Cell) (z : Int32) (args : Array Value) (s : State) : Prop := args = #[.ref a, .ref b] ∧ Blank "java/lang/String" a D s ∧ Found "java/lang/String" "value" "[B" fV s ∧ Found "java/lang/String" "coder" "B" fC s ∧ Ch b A s ∧ StaticIs s "java/lang/String" "COMPACT_STRINGS" "Z" (.int z) ∧ ¬ z = 0 ∧ 0 < A.slots.size ∧ A.slots.size ≤ 536870912 ∧ ∀ i, i < A.slots.size → ¬ 255 < cv A i
def E (a : Addr) (D : Cell) (fV fC : Field) (A : Cell) (r : Option Value) (s u : State) : Prop := Got a D fV fC A 0 A.slots.size r s u
/-- new String(chars), not empty, no char above 255: a Latin-1 String of their low bytes -/
theorem law (l : Launch) (a : Addr) (D : Cell) (fV fC : Field) (b : Addr) (A : Cell) (z : Int32) : Law l yN 2 1 3 52 yB 2 none site (P a D fV fC b A z) (E a D fV fC A) [⟨a, fC.slot⟩, ⟨a, fV.slot⟩] 1 A.slots.size := by
  refine Law.of_walk (plainFor_of_name (by decide +kernel)) (by decide +kernel) (by decide +kernel) (by decide) (fun _ _ h => by rw [h.1]; rfl) (fun _ U U' hal hh h => ⟨h.1, h.2.1.mv hal hh, h.2.2.1.al hal, h.2.2.2.1.al hal, h.2.2.2.2.1.mv hal hh, h.2.2.2.2.2.1.there hal hh, h.2.2.2.2.2.2⟩) (fun r U U' V V' h1 hal h2 h => Got.mv r U U' V V' h1 hal h2 h) ?_
  intro p e s m args below meth c s₁ X0 hexec hbytes hml hret hlk hnm hown hh0 W hP
  obtain ⟨rfl, hB, f1, f2, hA, s1, hz, l0, l2, hp⟩ := hP
  have c1 : Steps p.tables e below (s₁.setTop (entryFrame m #[.ref a, .ref b] 2)) (s₁.setTop (mkF m 0 #[.val (.ref a), .val (.ref b)] [])) := entry rfl
  have c2 : Steps p.tables e below (s₁.setTop (entryFrame m #[.ref a, .ref b] 2)) (s₁.setTop (mkF m 6 #[.val (.ref a), .val (.ref b)] [.null, .int (Int32.ofNat A.slots.size), .int 0, .ref b, .ref a])) := c1.trans (by
    refine XS.aloadN X0.here hexec rfl (hb hbytes d0) rfl rfl ?_
    refine XS.aloadN X0.here hexec rfl (hb hbytes d1) rfl rfl ?_
    refine iconstV X0.here hexec rfl 0 (hb hbytes d2) (by decide) ?_
    refine XS.aloadN X0.here hexec rfl (hb hbytes d3) rfl rfl ?_
    refine X0.alen hexec (hA.1.mv X0.warmed.alike hh0) rfl rfl (hb hbytes d4) ?_
    refine XS.aconstNull X0.here hexec rfl (hb hbytes d5) ?_
    exact Steps.refl _)
  obtain ⟨v3, T3, X3, E3, g3⟩ := X0.callN hexec (New4.law l a D fV fC b A z 0 A.slots.size) rfl hown (wks W (initW "java/lang/String" 27 New4.yN)) (W New4.tab (by simp only [site, List.mem_cons, List.mem_append, true_or, or_true])) (W := 0) (Nat.le_of_ble_eq_true rfl) (Nat.le_of_ble_eq_true rfl) (Nat.le_refl _) (by show 0 + A.slots.size ≤ A.slots.size; omega) (g := (mkF m 6 #[.val (.ref a), .val (.ref b)] [.null, .int (Int32.ofNat A.slots.size), .int (Int32.ofNat 0), .ref b, .ref a])) rfl (by rw [hml]; rfl) c2 (argsL := [.ref b, .int (Int32.ofNat 0), .int (Int32.ofNat A.slots.size), .null]) (rest := []) rfl rfl (by show 2 * 0 + 0 ≤ _; decide) (hb hbytes d6) (⟨rfl, hB.mv X0.warmed.alike hh0, f1.al X0.warmed.alike, f2.al X0.warmed.alike, hA.mv X0.warmed.alike hh0, s1.there X0.warmed.alike hh0, hz, l0, by omega, l2, fun i hi => by rw [Nat.zero_add]; exact hp i hi⟩)
  have e0 := Got.mv _ s₁ s _ _ hh0.symm (Vm.Alike.refl _) rfl E3
  obtain rfl := e0.1
  have c4 : Steps p.tables e below (s₁.setTop (entryFrame m #[.ref a, .ref b] 2)) (T3.setTop (mkF m 9 #[.val (.ref a), .val (.ref b)] [])) := g3
  exact ⟨T3, none, _, _, _, X3, by simp, rfl, by omega, (fun _ => rfl), e0, fun fs hl => c4.trans (X3.returnOut hexec hret (hb hbytes d9) hl)⟩
theorem pays {l : Launch} {R : Room} {p : Program} {e : Env} {below : List Frame} {s : State} {sargs : Array Value} {len W : Nat} (a : Addr) (D : Cell) (fV fC : Field) (b : Addr) (A : Cell) (z : Int32) (htab : tab.before sargs s = true) (hfr : 4 ≤ R.frames) (hlo : W + 65 ≤ R.locals) :
    Back l R p e below s sargs yN len W (fun A₁ a₁ => A₁.cells + 1 ≤ R.cells ∧ A₁.slots + A.slots.size ≤ R.slots ∧ P a D fV fC b A z a₁ A₁.U) (fun A₁ _ v₁ B₁ => E a D fV fC A v₁ A₁.U B₁.U ∧ B₁.locs = A₁.locs ++ [⟨a, fC.slot⟩, ⟨a, fV.slot⟩] ∧ B₁.cells = A₁.cells + 1 ∧ B₁.slots = A₁.slots + A.slots.size) :=
  (law l a D fV fC b A z).pays htab hfr (by omega)
end New1
/-- the byte, read back as charAt reads it, is the char -/
theorem lo8_mask {x : Int32} (h0 : ¬ x < 0) (h1 : ¬ 255 < x) : lo8 x &&& 255 = x := by
  have t : ∀ k : Fin 256, lo8 (Int32.ofNat k.val) &&& 255 = Int32.ofNat k.val := by decide +kernel
  rw [Int32.lt_iff_toInt_lt] at h0 h1
  have e0 : (0 : Int32).toInt = 0 := rfl
  have e1 : (255 : Int32).toInt = 255 := rfl
  obtain ⟨k, hk⟩ : ∃ k : Nat, x.toInt = k := ⟨x.toInt.toNat, by omega⟩
  have hx : x = Int32.ofNat k := Int32.toInt_inj.mp (by rw [hk, Int32.toInt_ofNat_small (by omega)])
  rw [hx]
  exact t ⟨k, by omega⟩
end StrChars
namespace StrChars.Road
open Jvm Sem ClassFile Op Lib Jvm.Stand Jvm.Free Jvm.Free.XT
open Jvm.Lib.Cold (StaticIs)
abbrev ST : String := "java/lang/String"
/-- every table word that New1's law asks, flat -/
abbrev words : List Jvm.Cond := [.code New1.yN New1.yB 2 none, .initialized ST, .methodLink ST 27 New4.yN, .instanceMethod New4.yN,
  .code New4.yN New4.yB 6 none, .fieldLink ST 38 ST "COMPACT_STRINGS" "Z", .laysFinal ST ST "value" "[B", .fieldLink ST 9 ST "value" "[B", .laysFinal ST ST "coder" "B", .fieldLink ST 15 ST "coder" "B",
  .methodLink ST 1 Lib.objectInit, .instanceMethod Lib.objectInit, .code Lib.objectInit ⟨#[0xb1]⟩ 1 none, .methodLink ST 177 Cmp3.yN, .static Cmp3.yN, .methodLink ST 47 CodL.yN, .static CodL.yN,
  .code Cmp3.yN Cmp3.yB 6 (some (.array .byte)), .initialized U16, .arrayClass .byte, .methodLink U16 115 Cmp5.yN, .static Cmp5.yN, .code Cmp5.yN Cmp5.yB 7 (some .int), .code CodL.yN CodL.yB 2 (some .byte)]
theorem tab_of {a : Array Value} {s : State} (h : ∀ w ∈ words, w.before a s = true) : New1.tab.before a s = true := by
  have h5 : Cmp5.tab.before a s = true := unparts (wk h (.code Cmp5.yN Cmp5.yB 7 (some .int))) (wks h (.initialized Cmp5.yN.cls :: Cmp5.site))
  have hc : CodL.tab.before a s = true := unparts (wk h (.code CodL.yN CodL.yB 2 (some .byte))) (wks h (.initialized CodL.yN.cls :: CodL.site))
  have q5 : ∀ w ∈ Cmp5.tab :: words, w.before a s = true := fun w hw => (List.mem_cons.mp hw).elim (fun e => e ▸ h5) (h w)
  have h3 : Cmp3.tab.before a s = true := unparts (wk q5 (.code Cmp3.yN Cmp3.yB 6 (some (.array .byte)))) (wks q5 (.initialized Cmp3.yN.cls :: Cmp3.site))
  have q3 : ∀ w ∈ Cmp3.tab :: CodL.tab :: words, w.before a s = true := fun w hw => (List.mem_cons.mp hw).elim (fun e => e ▸ h3) fun hw => (List.mem_cons.mp hw).elim (fun e => e ▸ hc) (h w)
  have h4 : New4.tab.before a s = true := unparts (wk q3 (.code New4.yN New4.yB 6 none)) (wks q3 (.initialized New4.yN.cls :: New4.site))
  have q4 : ∀ w ∈ New4.tab :: words, w.before a s = true := fun w hw => (List.mem_cons.mp hw).elim (fun e => e ▸ h4) (h w)
  exact unparts (wk q4 (.code New1.yN New1.yB 2 none)) (wks q4 (.initialized New1.yN.cls :: New1.site))
/-- the words ride from the start Z to the walk's own state -/
theorem moved {Z s : State} {a0 args : Array Value} (hZ : Z.Warmed39 s.vm) (hw : ∀ d ∈ words, d.before a0 Z = true) : ∀ d ∈ words, d.before args s = true := fun d hd => by
  have q := hw d hd
  have t : ∀ d ∈ words, d = .arrayClass .byte ∨ (d.onTables && d.keepsFace) = true := by decide +kernel
  rcases t d hd with rfl | t
  · exact RoadKit.mvA hZ q
  · exact RoadKit.mv hZ q t
/-- WHAT COMES BACK, over the tables of the start Z: h the heap at the call, h' behind it -/
def Q (Z : State) (x : Addr) (A : Cell) (h : Heap) (v : Option Value) (h' : Heap) (L : List Loc) : Prop := v = none ∧ (∀ y ∈ L, y.base = x) ∧ RoadKit.Keep h h' [x] ∧ h'.size = h.size + 1 ∧ RoadKit.Exa Z h' x ST ∧ RoadKit.Fld Z h' x ST "value" "[B" (.ref h.size) ∧ RoadKit.Fld Z h' x ST "coder" "B" (.int 0) ∧
  (∃ V : Cell, RoadKit.Arr Z h' h.size V .byte ∧ V.vm = .none ∧ Z.vm.findClass "[B" = some V.cls ∧ V.slots.size = A.slots.size ∧ ∀ j, j < A.slots.size → V.slots[j]? = some (.int (lo8 (cv A j)))) ∧
  ∀ (O n d : String) (w : Value), RoadKit.Fld Z h x O n d w → RoadKit.slotOf Z O n d ≠ RoadKit.slotOf Z ST "value" "[B" → RoadKit.slotOf Z O n d ≠ RoadKit.slotOf Z ST "coder" "B" → RoadKit.Fld Z h' x O n d w
/-- **new String(chars) AT A CALL, IN THE ROAD'S FORM**: for specialBack behind newO: x the fresh String, b the char[] with the cell A -/
theorem back {p : Program} {l : Launch} {e : Env} {R : Room} {s : State} {args : Array Value} {below : List Frame} {len W : Nat} {Z : State} {a0 : Array Value} {h : Heap} (hZ : Z.Warmed39 s.vm) (hw : ∀ d ∈ words, d.before a0 Z = true) {kI : Nat} (wi : (Jvm.Cond.instantiable ST kI).before a0 Z = true)
    {x b : Addr} {A : Cell} {z : Int32} {v0 c0 : Value} (E : RoadKit.Exa Z h x ST) (V : RoadKit.Fld Z h x ST "value" "[B" v0) (C : RoadKit.Fld Z h x ST "coder" "B" c0) (K : RoadKit.Arr Z h b A .char) (hty : Typed .char A) (S : RoadKit.Sta Z h ST "COMPACT_STRINGS" "Z" (.int z)) (hz : ¬ z = 0)
    (l0 : 0 < A.slots.size) (l2 : A.slots.size ≤ 536870912) (hp : ∀ i, i < A.slots.size → ¬ 255 < cv A i) (hfr : 4 ≤ R.frames) (hlo : W + 65 ≤ R.locals) :
    Back l R p e below s args New1.yN len W (fun P a => a = #[.ref x, .ref b] ∧ P.U.heap = h ∧ P.cells + 1 ≤ R.cells ∧ P.slots + A.slots.size ≤ R.slots)
      (fun P _ v B => ∃ L, Q Z x A h v B.U.heap L ∧ B.locs = P.locs ++ L ∧ B.cells = P.cells + 1 ∧ B.slots = P.slots + A.slots.size) := by
  intro m meth c P g ig mk a X hg hsize hdg hW hn hp'
  obtain ⟨rfl, rfl, r1, r2⟩ := hp'
  have al : Z.vm.Alike P.U.vm := hZ.alike.trans X.warmed.alike
  obtain ⟨D, cfV, kV, iV, fV, hD, gV, stV, knV, obV, asV, slV⟩ := id V
  obtain ⟨D', cfC, kC, iC, fC, hD', gC, stC, -, -, asC, slC⟩ := id C
  cases hD.symm.trans hD'
  obtain ⟨D2, kD, e1, e2, e3, e4, e5⟩ := id E
  cases hD.symm.trans e1
  obtain ⟨c2, k2, i1, i2, i3, -⟩ := Cond.instantiable_spec wi
  cases e2.symm.trans i1
  cases e3.symm.trans i2
  obtain ⟨kU, u1, u2⟩ := al.2.2 _ _ e3
  have hB : Blank ST x D P.U := ⟨hD, ⟨knV, fun q hq => by rw [hq] at obV; cases obV⟩, by rw [al.findClass]; exact e2, kU, u1, by rw [u2]; exact i3, by rw [u2]; exact e5 i3⟩
  have F1 : Found ST "value" "[B" fV P.U := ⟨SBG.found_only al ⟨cfV, kV, iV, gV⟩, stV⟩
  have F2 : Found ST "coder" "B" fC P.U := ⟨SBG.found_only al ⟨cfC, kC, iC, gC⟩, stC⟩
  have hA : Ch b A P.U := ⟨⟨K.1, State.isArrayOf_alike al K.2.1, K.2.2, by omega⟩, hty⟩
  have hS : StaticIs P.U ST "COMPACT_STRINGS" "Z" (.int z) := by
    obtain ⟨cfS, iS, kS, fS, st, cS, t1, t2, t3, t4, t5, t6, t7⟩ := S
    exact StaticIs.there (s := { Z with heap := P.U.heap }) ⟨cfS, iS, kS, fS, st, cS, t1, t2, t3, t4, t5, (fun q => by rw [q] at t6; cases t6), t7⟩ al rfl
  obtain ⟨v, B, X', ⟨⟨hv, E', V', q1, q2, q3, q4, q5, q6, q7, q8, q9, q10, q11⟩, hl, hc, hs⟩, st⟩ := New1.pays x D fV fC b A z (tab_of (moved hZ hw)) hfr hlo m meth c P g ig mk _ X hg hsize hdg hW hn ⟨r1, r2, rfl, hB, F1, F2, hA, hS, hz, l0, l2, hp⟩
  have al' : Z.vm.Alike B.U.vm := hZ.alike.trans X'.warmed.alike
  have hsz : E'.slots.size = D.slots.size := by
    obtain ⟨-, -, -, kB, w1, w2, w3⟩ := q1
    obtain ⟨kB', y1, y2⟩ := al'.2.2 _ _ e3
    rw [q2.2.1] at w1
    cases w1.symm.trans y1
    rw [w3, e5 i3, y2]
  refine ⟨v, B, X', ⟨_, ⟨hv, ?_, ⟨by omega, fun y cy hy hn' => q10 y cy (by simpa using hn') hy, fun y cy hy => ?_⟩, q11, ⟨E', _, q1.1, by rw [q2.2.1]; exact e2, by rw [q2.2.1]; exact e3, by rw [q2.1]; exact obV, fun _ => by rw [hsz]; exact e5 i3⟩,
    ⟨E', cfV, kV, iV, fV, q1.1, gV, stV, by rw [q2.1]; exact knV, by rw [q2.1]; exact obV, by rw [q2.2.1]; exact asV, q3⟩, ⟨E', cfC, kC, iC, fC, q1.1, gC, stC, by rw [q2.1]; exact knV, by rw [q2.1]; exact obV, by rw [q2.2.1]; exact asC, q4⟩,
    ⟨V', ⟨q5.1, State.isArrayOf_alike al'.symm q5.2.1, q5.2.2.1⟩, q6, by rw [← al'.findClass]; exact q7, q8, fun j hj => by have := q9 j hj; rwa [Nat.zero_add] at this⟩, fun O n d w F n1 n2 => ?_⟩, hl, hc, hs⟩, st⟩
  · intro y hy
    simp only [List.mem_cons, List.not_mem_nil, or_false] at hy
    rcases hy with rfl | rfl <;> rfl
  · by_cases q : y = x
    · subst q
      cases hD.symm.trans hy
      exact ⟨E', q1.1, q2.2.1, q2.1, hsz⟩
    · exact ⟨cy, q10 y cy q hy, rfl, rfl, rfl⟩
  · obtain ⟨D3, cf, k, i, f, g1, g2, g3, g4, g5, g6, g7⟩ := F
    cases hD.symm.trans g1
    simp only [RoadKit.slotOf, g2, gV, gC, Option.map_some, Option.getD_some] at n1 n2
    exact ⟨E', cf, k, i, f, q1.1, g2, g3, by rw [q2.1]; exact g4, by rw [q2.1]; exact g5, by rw [q2.2.1]; exact g6, by rw [q2.2.2 f.slot (by simp [n1, n2])]; exact g7⟩
end StrChars.Road
namespace StrChars.Road
open Jvm Sem ClassFile Op Lib Jvm.Stand Jvm.Free Jvm.Free.XT
/-- WHAT COMES BACK, the byte[] as a list of values -/
def QA (Z : State) (x : Addr) (zn : Int32) (cs : List Int32) (h : Heap) (v : Option Value) (h' : Heap) (L : List Loc) : Prop := v = none ∧ (∀ y ∈ L, y.base = x) ∧ RoadKit.Keep h h' [x] ∧ h'.size = h.size + 1 ∧ RoadKit.Exa Z h' x ST ∧ RoadKit.Fld Z h' x ST "value" "[B" (.ref h.size) ∧ RoadKit.Fld Z h' x ST "coder" "B" (.int 0) ∧
  (∃ kb, Z.vm.findClass "[B" = some kb ∧ RoadKit.Arv Z h' h.size kb .byte zn (cs.map fun c => .int (lo8 c)) (.int 0)) ∧
  ∀ (O n d : String) (w : Value), RoadKit.Fld Z h x O n d w → RoadKit.slotOf Z O n d ≠ RoadKit.slotOf Z ST "value" "[B" → RoadKit.slotOf Z O n d ≠ RoadKit.slotOf Z ST "coder" "B" → RoadKit.Fld Z h' x O n d w
/-- **new String(chars) AT A CALL, THE ARRAYS AS LISTS**: the char[] at b holds cs, not empty, no char above 255 -/
theorem backArv {p : Program} {l : Launch} {e : Env} {R : Room} {s : State} {args : Array Value} {below : List Frame} {len W : Nat} {Z : State} {a0 : Array Value} {h : Heap} (hZ : Z.Warmed39 s.vm) (hw : ∀ d ∈ words, d.before a0 Z = true) {kI : Nat} (wi : (Jvm.Cond.instantiable ST kI).before a0 Z = true)
    {x b : Addr} {k : ClassId} {zn z : Int32} {cs : List Int32} {dv v0 c0 : Value} (E : RoadKit.Exa Z h x ST) (V : RoadKit.Fld Z h x ST "value" "[B" v0) (C : RoadKit.Fld Z h x ST "coder" "B" c0) (K : RoadKit.Arv Z h b k .char zn (cs.map Value.int) dv) (S : RoadKit.Sta Z h ST "COMPACT_STRINGS" "Z" (.int z)) (hz : ¬ z = 0)
    (hlen : zn.toNatClampNeg = cs.length) (h0 : 0 < cs.length) (hbig : cs.length ≤ 536870912) (hall : ∀ c ∈ cs, ¬ 255 < c) (hfr : 4 ≤ R.frames) (hlo : W + 65 ≤ R.locals) :
    Back l R p e below s args New1.yN len W (fun P a => a = #[.ref x, .ref b] ∧ P.U.heap = h ∧ P.cells + 1 ≤ R.cells ∧ P.slots + cs.length ≤ R.slots)
      (fun P _ v B => ∃ L, QA Z x zn cs h v B.U.heap L ∧ B.locs = P.locs ++ L ∧ B.cells = P.cells + 1 ∧ B.slots = P.slots + cs.length) := by
  obtain ⟨A, K1, K2, K3, K4, K5, K6⟩ := K
  have e : A.slots.size = cs.length := K3.trans hlen
  have hat : ∀ (i : Nat) (hi : i < cs.length), A.slots[i]? = some (.int cs[i]) := fun i hi => by rw [K5 i (by omega)]; simp [List.getD_eq_getElem?_getD, hi]
  have hcv : ∀ (i : Nat) (hi : i < cs.length), cv A i = cs[i] := fun i hi => by unfold cv; rw [hat i hi]
  have hty : Typed .char A := fun i v hv => by
    have hi : i < A.slots.size := (Array.getElem?_eq_some_iff.mp hv).1
    have q := K5 i hi
    rw [hv] at q
    rw [Option.some.inj q]
    exact K6 i hi
  refine Back.mono (back hZ hw wi E V C K1 hty S hz (by omega) (by omega) (fun i hi => by rw [hcv i (by omega)]; exact hall _ (List.getElem_mem _)) hfr hlo) (fun P a hp => ⟨hp.1, hp.2.1, hp.2.2.1, by rw [e]; exact hp.2.2.2⟩) (fun P a v B hp hq => ?_)
  obtain ⟨L, ⟨q1, q2, q3, q4, q5, q6, q7, ⟨V', v1, v2, v3, v4, v5⟩, q9⟩, hl, hc, hs⟩ := hq
  refine ⟨L, ⟨q1, q2, q3, q4, q5, q6, q7, ⟨V'.cls, v3, V', v1, rfl, by rw [v4, e, hlen], K4, fun i hi => ?_, fun i hi => ?_⟩, q9⟩, hl, hc, by rw [hs, e]⟩
  · have hi' : i < cs.length := by omega
    rw [v5 i (by omega), hcv i hi']; simp [List.getD_eq_getElem?_getD, hi']
  · have hi' : i < cs.length := by omega
    simp only [List.getD_eq_getElem?_getD, List.getElem?_map, List.getElem?_eq_getElem hi', Option.map_some, Option.getD_some]
    exact fits_lo8 _
end StrChars.Road
namespace StrChars.Road
open Jvm Sem ClassFile Op Lib Jvm.Stand Jvm.Free Jvm.Free.XT
/-- WHAT COMES BACK, in the writer's own shape -/
def QV (Z : State) (x : Addr) (N : Int32) (bs : List Int32) (h : Heap) (n0 : Nat) (v : Option Value) (h' : Heap) (L : List Loc) : Prop := v = none ∧ RoadKit.Fr n0 L ∧ RoadKit.Keep h h' [x] ∧ RoadKit.Exa Z h' x ST ∧ RoadKit.Fld Z h' x ST "coder" "B" (.int 0) ∧
  ∃ (t : Addr) (kb : ClassId), n0 ≤ t ∧ h.size ≤ t ∧ ¬ t = x ∧ RoadKit.Fld Z h' x ST "value" "[B" (.ref t) ∧ RoadKit.Arv Z h' t kb .byte N (bs.map Value.int) (.int 0)
/-- **new String(chars) AT A CALL, FOR THE WRITER**: a char[] of n known ints, each 0 to 255 -/
theorem backV {p : Program} {l : Launch} {e : Env} {R : Room} {s : State} {args : Array Value} {below : List Frame} {len W : Nat} {Z : State} {a0 : Array Value} {h : Heap} (hZ : Z.Warmed39 s.vm) (hw : ∀ d ∈ words, d.before a0 Z = true) {kI : Nat} (wi : (Jvm.Cond.instantiable ST kI).before a0 Z = true)
    {x b : Addr} {kC : ClassId} {cs bs : List Int32} {d v0 c0 : Value} {z N : Int32} {n n0 : Nat} (hx0 : n0 ≤ x) (hh0 : n0 ≤ h.size) (E : RoadKit.Exa Z h x ST) (V : RoadKit.Fld Z h x ST "value" "[B" v0) (C : RoadKit.Fld Z h x ST "coder" "B" c0) (K : RoadKit.Arv Z h b kC .char N (cs.map Value.int) d) (S : RoadKit.Sta Z h ST "COMPACT_STRINGS" "Z" (.int z)) (hz : ¬ z = 0)
    (hn : cs.length = n) (hN : N = Int32.ofNat n) (l0 : 0 < n) (l2 : n ≤ 4000) (hp : ∀ c ∈ cs, ¬ c < 0 ∧ ¬ (255 : Int32) < c) (hb : bs = cs.map (fun c => c.toInt8.toInt32)) (hfr : 4 ≤ R.frames) (hlo : W + 65 ≤ R.locals) :
    Back l R p e below s args (⟨"java/lang/String", "<init>", "([C)V"⟩ : MethodName) len W (fun P a => a = #[.ref x, .ref b] ∧ P.U.heap = h ∧ P.cells + 1 ≤ R.cells ∧ P.slots + n ≤ R.slots)
      (fun P _ v B => ∃ L, QV Z x N bs h n0 v B.U.heap L ∧ B.locs = P.locs ++ L ∧ B.cells = P.cells + 1 ∧ B.slots = P.slots + n) := by
  subst hn hN hb
  refine Back.mono (backArv hZ hw wi E V C K S hz (n32 (by omega)) l0 (by omega) (fun c hc => (hp c hc).2) hfr hlo) (fun P a hp => hp) (fun P a v B hp hq => ?_)
  obtain ⟨L, ⟨q1, q2, q3, q4, q5, q6, q7, ⟨kb, v1, v2⟩, q9⟩, hl, hc, hs⟩ := hq
  exact ⟨L, ⟨q1, fun y hy => by rw [q2 y hy]; exact hx0, q3, q5, q7, h.size, kb, hh0, Nat.le_refl _, Nat.ne_of_gt E.lt, q6, by rw [List.map_map]; exact v2⟩, hl, hc, hs⟩
end StrChars.Road
namespace StrChars
open Jvm Sem ClassFile Op Lib Jvm.Stand Jvm.Free.XT Jvm.Free.ALB Jvm.Free.JM Jvm.Free
open Jvm.Lib.Cold (StaticIs)
def hi8 (x : Int32) : Int32 := lo8 (x >>> ((8 : Int32) &&& 31))
/-- what StringUTF16.getChar makes of two bytes -/
def pairCh (u v : Int32) : Int32 := (((u &&& 255) <<< ((0 : Int32) &&& 31)) ||| ((v &&& 255) <<< ((8 : Int32) &&& 31))).toUInt32.toUInt16.toUInt32.toInt32
theorem shr0 (c : Int32) : c >>> ((0 : Int32) &&& 31) = c := by
  have e : ((0 : Int32) &&& 31) = 0 := by decide
  rw [e]
  apply Int32.toBitVec_inj.mp
  rw [Int32.toBitVec_shiftRight]
  have e1 : ((0 : Int32).toBitVec.smod 32) = 0#32 := by decide
  rw [e1, BitVec.sshiftRight_eq']
  exact BitVec.sshiftRight_zero
theorem lo8_and (x : Int32) : (lo8 x &&& 255).toBitVec.toNat = x.toBitVec.toNat % 256 := by
  have h : (lo8 x).toBitVec = (x.toBitVec.signExtend 8).signExtend 32 := by rw [lo8, Int8.toBitVec_toInt32, Int32.toBitVec_toInt8]
  rw [Int32.toBitVec_and, BitVec.toNat_and, h]
  have e : ((x.toBitVec.signExtend 8).signExtend 32).toNat % 256 = x.toBitVec.toNat % 256 := by
    rw [BitVec.toNat_signExtend]
    have hlt := x.toBitVec.isLt
    simp only [BitVec.toNat_setWidth, BitVec.toNat_signExtend]
    split <;> split <;> omega
  rw [← e]
  exact Nat.and_two_pow_sub_one_eq_mod _ 8
theorem pair_says {c : Int32} (h0 : ¬ c < 0) (h1 : ¬ 65535 < c) : pairCh (lo8 c) (hi8 c) = c := by
  rw [Int32.lt_iff_toInt_lt] at h0 h1
  have e0 : (0 : Int32).toInt = 0 := rfl
  have e1 : (65535 : Int32).toInt = 65535 := rfl
  have hc : c.toInt = c.toBitVec.toNat := by
    have := c.toBitVec.isLt
    have e : c.toInt = c.toBitVec.toInt := rfl
    rw [e] at h0 h1
    rw [e]
    rw [BitVec.toInt_eq_toNat_cond] at h0 h1 ⊢
    split at h0 <;> split <;> omega
  have hn : c.toBitVec.toNat < 65536 := by omega
  have a1 := lo8_and c
  have a2 : (hi8 c &&& 255).toBitVec.toNat = c.toBitVec.toNat / 256 := by
    rw [hi8, lo8_and]
    have e : ((8 : Int32) &&& 31) = 8 := by decide
    rw [e, Int32.toBitVec_shiftRight]
    have e2 : ((8 : Int32).toBitVec.smod 32) = 8#32 := by decide
    rw [e2, BitVec.sshiftRight_eq', BitVec.toNat_sshiftRight_of_msb_false (by rw [BitVec.msb_eq_false_iff_two_mul_lt]; omega)]
    show c.toBitVec.toNat >>> 8 % 256 = _
    rw [Nat.shiftRight_eq_div_pow]
    omega
  unfold pairCh
  apply Int32.toBitVec_inj.mp
  apply BitVec.eq_of_toNat_eq
  have f0 : ((0 : Int32) &&& 31) = 0 := by decide
  have f8 : ((8 : Int32) &&& 31) = 8 := by decide
  rw [f0, f8]
  have g : (((lo8 c &&& 255) <<< (0 : Int32)) ||| ((hi8 c &&& 255) <<< (8 : Int32))).toBitVec.toNat = c.toBitVec.toNat := by
    rw [Int32.toBitVec_or, Int32.toBitVec_shiftLeft, Int32.toBitVec_shiftLeft]
    have s0 : ((0 : Int32).toBitVec.smod 32) = 0#32 := by decide
    have s8 : ((8 : Int32).toBitVec.smod 32) = 8#32 := by decide
    rw [s0, s8, BitVec.toNat_or]
    simp only [BitVec.shiftLeft_eq', BitVec.toNat_shiftLeft, a1, a2]
    show (c.toBitVec.toNat % 256) <<< 0 % 2 ^ 32 ||| (c.toBitVec.toNat / 256) <<< 8 % 2 ^ 32 = _
    rw [Nat.shiftLeft_zero, Nat.mod_eq_of_lt (show c.toBitVec.toNat % 256 < 2 ^ 32 by omega), Nat.mod_eq_of_lt (show (c.toBitVec.toNat / 256) <<< 8 < 2 ^ 32 by rw [Nat.shiftLeft_eq]; omega), Nat.or_comm, ← Nat.shiftLeft_add_eq_or_of_lt (by omega), Nat.shiftLeft_eq]
    omega
  show BitVec.toNat (((((lo8 c &&& 255) <<< (0 : Int32)) ||| ((hi8 c &&& 255) <<< (8 : Int32))).toBitVec.setWidth 16).setWidth 32) = _
  rw [BitVec.toNat_setWidth, BitVec.toNat_setWidth, g]
  omega
end StrChars
namespace StrChars
open Jvm Sem ClassFile Op Lib Jvm.Stand Jvm.Free.XT Jvm.Free.ALB Jvm.Free.JM Jvm.Free
open Jvm.Lib.Cold (StaticIs)
theorem shr1 {n : Nat} (h : 2 * n < 2 ^ 31) : Int32.ofNat (2 * n) >>> ((1 : Int32) &&& 31) = Int32.ofNat n := by
  have e : ((1 : Int32) &&& 31) = 1 := by decide
  rw [e]
  apply Int32.toBitVec_inj.mp
  rw [Int32.toBitVec_shiftRight]
  have e1 : ((1 : Int32).toBitVec.smod 32) = 1#32 := by decide
  have hm : (BitVec.ofNat 32 (2 * n)).toNat = 2 * n := by rw [BitVec.toNat_ofNat, Nat.mod_eq_of_lt (by omega)]
  rw [e1, BitVec.sshiftRight_eq']
  apply BitVec.eq_of_toNat_eq
  show ((BitVec.ofNat 32 (2 * n)).sshiftRight 1).toNat = (BitVec.ofNat 32 n).toNat
  rw [BitVec.toNat_sshiftRight_of_msb_false (by rw [BitVec.msb_eq_false_iff_two_mul_lt, hm]; omega), hm, BitVec.toNat_ofNat, Nat.shiftRight_eq_div_pow]
  omega
/-- charAt's cast of a byte read back -/
def chr8 (u : Int32) : Int32 := (u &&& 255).toUInt32.toUInt16.toUInt32.toInt32
theorem chr8_lo8 {c : Int32} (h0 : ¬ c < 0) (h1 : ¬ 255 < c) : chr8 (lo8 c) = c := by
  have t : ∀ k : Fin 256, (Int32.ofNat k.val).toUInt32.toUInt16.toUInt32.toInt32 = Int32.ofNat k.val := by decide +kernel
  unfold chr8
  rw [lo8_mask h0 h1]
  rw [Int32.lt_iff_toInt_lt] at h0 h1
  have e0 : (0 : Int32).toInt = 0 := rfl
  have e1 : (255 : Int32).toInt = 255 := rfl
  obtain ⟨k, hk⟩ : ∃ k : Nat, c.toInt = k := ⟨c.toInt.toNat, by omega⟩
  have hx : c = Int32.ofNat k := Int32.toInt_inj.mp (by rw [hk, Int32.toInt_ofNat_small (by omega)])
  rw [hx]
  exact t ⟨k, by omega⟩
theorem narrow_ch {c : Int32} (h0 : ¬ c < 0) (h1 : ¬ 65535 < c) : narrow .char (.int c) = .int c := by
  have q : narrow .char (.int (pairCh (lo8 c) (hi8 c))) = .int (pairCh (lo8 c) (hi8 c)) := narrow_c _
  rwa [pair_says h0 h1] at q
/-- the array's cell V codes the n chars f 0 .. f (n - 1) by the coder cd, as the JDK does: coder 1 just where some char is above 255 -/
def Cod (cd : Int32) (n : Nat) (f : Nat → Int32) (V : Cell) : Prop := (cd = 0 ∧ V.slots.size = n ∧ ∀ j, j < n → V.slots[j]? = some (.int (lo8 (f j))) ∧ ¬ 255 < f j) ∨ (cd = 1 ∧ V.slots.size = 2 * n ∧ (∀ j, j < n → V.slots[2 * j]? = some (.int (lo8 (f j))) ∧ V.slots[2 * j + 1]? = some (.int (hi8 (f j)))) ∧ ∃ j, j < n ∧ 255 < f j)
theorem Cod.cd {cd : Int32} {n : Nat} {f : Nat → Int32} {V : Cell} (h : Cod cd n f V) : cd = 0 ∨ cd = 1 := h.imp (fun q => q.1) fun q => q.1
theorem Cod.len {cd : Int32} {n : Nat} {f : Nat → Int32} {V : Cell} (h : Cod cd n f V) (hs : V.slots.size < 2 ^ 31) : Int32.ofNat V.slots.size >>> (cd &&& 31) = Int32.ofNat n := by
  rcases h with ⟨rfl, h, -⟩ | ⟨rfl, h, -⟩
  · rw [shr0, h]
  · rw [h, shr1 (by omega)]
/-- **x is a String of the n chars f 0 .. f (n - 1)**, Latin-1 or UTF-16; its array at t has the cell V -/
def Txt (x t : Addr) (V : Cell) (cd : Int32) (n : Nat) (f : Nat → Int32) (U : State) : Prop := Exact "java/lang/String" x U ∧ Has x "java/lang/String" "value" "[B" (.ref t) U ∧ Has x "java/lang/String" "coder" "B" (.int cd) U ∧ XT.Arr .byte t V U ∧ Cod cd n f V ∧ ∀ j, j < n → ¬ f j < 0 ∧ ¬ 65535 < f j
theorem Txt.mv {x t : Addr} {V : Cell} {cd : Int32} {n : Nat} {f : Nat → Int32} {U U' : State} (h : Txt x t V cd n f U) (hal : U.vm.Alike U'.vm) (hh : U'.heap = U.heap) : Txt x t V cd n f U' := ⟨h.1.mv hal hh, h.2.1.mv hal hh, h.2.2.1.mv hal hh, h.2.2.2.1.mv hal hh, h.2.2.2.2⟩
namespace Cdr
def yN : MethodName := ⟨"java/lang/String", "coder", "()B"⟩
abbrev yB : ByteArray := jdk_42_method_152_code
theorem d0 : decode yB 0 = .ok (.getstatic 38, 3) := by decide +kernel
theorem d3 : decode yB 3 = .ok (.ifCond (.eq) 10, 3) := by decide +kernel
theorem d6 : decode yB 6 = .ok (.aload_n 0, 1) := by decide +kernel
theorem d7 : decode yB 7 = .ok (.getfield 15, 3) := by decide +kernel
theorem d10 : decode yB 10 = .ok (.goto 4, 3) := by decide +kernel
theorem d14 : decode yB 14 = .ok (.ireturn, 1) := by decide +kernel
def site : List Cond := [.fieldLink "java/lang/String" 38 "java/lang/String" "COMPACT_STRINGS" "Z", .fieldLink "java/lang/String" 15 "java/lang/String" "coder" "B"]
def tab : Cond := tabOf yN yB 1 (some .byte) site
def P (x : Addr) (cd z : Int32) (args : Array Value) (s : State) : Prop := args = #[.ref x] ∧ Has x "java/lang/String" "coder" "B" (.int cd) s ∧ (cd = 0 ∨ cd = 1) ∧ StaticIs s "java/lang/String" "COMPACT_STRINGS" "Z" (.int z) ∧ ¬ z = 0
def E (cd : Int32) (r : Option Value) (s u : State) : Prop := XT.PureE (some (.int cd)) r s u
theorem law (l : Launch) (x : Addr) (cd z : Int32) : Law l yN 1 0 0 0 yB 1 (some .byte) site (P x cd z) (E cd) [] 0 0 := by
  refine Law.of_walk (plainFor_of_name (by decide +kernel)) (by decide +kernel) (by decide +kernel) (by decide) (fun _ _ h => by rw [h.1]; rfl) (fun _ U U' hal hh h => ⟨h.1, h.2.1.mv hal hh, h.2.2.1, h.2.2.2.1.there hal hh, h.2.2.2.2⟩) (fun r U U' V V' h1 hal h2 h => XT.PureE.mv r U U' V V' h1 hal h2 h) ?_
  intro p e s m args below meth c s₁ X0 hexec hbytes hml hret hlk hnm hown hh0 W hP
  obtain ⟨rfl, hx, hc, s1, hz⟩ := hP
  have c1 : Steps p.tables e below (s₁.setTop (entryFrame m #[.ref x] 1)) (s₁.setTop (mkF m 0 #[.val (.ref x)] [])) := entry rfl
  obtain ⟨T2, X2, q2, st2⟩ := X0.sget hexec hown (wk W (.fieldLink "java/lang/String" 38 "java/lang/String" "COMPACT_STRINGS" "Z")) s1 (fun _ _ h => by rw [hh0]; exact h) (g := (mkF m 0 #[.val (.ref x)] [])) rfl (hb hbytes d0)
  have hh2 := q2.trans hh0
  have c3 : Steps p.tables e below (s₁.setTop (entryFrame m #[.ref x] 1)) (T2.setTop (mkF m 7 #[.val (.ref x)] [.ref x])) := (c1.trans (st2 _ (Steps.refl _))).trans (by
    refine XS.ifNo X2.here hexec rfl (hb hbytes d3) rfl (i0_eq_f hz) ?_
    refine XS.aloadN X2.here hexec rfl (hb hbytes d6) rfl rfl ?_
    exact Steps.refl _)
  obtain ⟨T4, X4, q4, st4⟩ := X2.hget hexec hown (wk W (.fieldLink "java/lang/String" 15 "java/lang/String" "coder" "B")) (hx.mv X2.warmed.alike hh2) (g := (mkF m 7 #[.val (.ref x)] [.ref x])) rfl (rest := []) rfl (hb hbytes d7)
  have c5 : Steps p.tables e below (s₁.setTop (entryFrame m #[.ref x] 1)) (T4.setTop (mkF m 14 #[.val (.ref x)] [.int cd])) := (c3.trans (st4 _ (Steps.refl _))).trans (by
    refine XS.goto X4.here hexec rfl (pc0 := 10) rfl (hb hbytes d10) (by decide) rfl ?_
    exact Steps.refl _)
  exact ⟨T4, some (.int cd), _, _, _, X4, rfl, rfl, rfl, (fun h => by cases h), ⟨rfl, q4.trans hh2⟩, fun fs hl => c5.trans (X4.ireturnOut hexec hret (by rcases hc with rfl | rfl <;> rfl) (Or.inr (Or.inr (Or.inl rfl))) (hb hbytes d14) hl)⟩
end Cdr
namespace Len
def yN : MethodName := ⟨"java/lang/String", "length", "()I"⟩
abbrev yB : ByteArray := jdk_42_method_54_code
theorem d0 : decode yB 0 = .ok (.aload_n 0, 1) := by decide +kernel
theorem d1 : decode yB 1 = .ok (.getfield 9, 3) := by decide +kernel
theorem d4 : decode yB 4 = .ok (.arraylength, 1) := by decide +kernel
theorem d5 : decode yB 5 = .ok (.aload_n 0, 1) := by decide +kernel
theorem d6 : decode yB 6 = .ok (.invokevirtual 335, 3) := by decide +kernel
theorem d9 : decode yB 9 = .ok (.ishr, 1) := by decide +kernel
theorem d10 : decode yB 10 = .ok (.ireturn, 1) := by decide +kernel
def site : List Cond := [.fieldLink "java/lang/String" 9 "java/lang/String" "value" "[B", Cdr.tab] ++ virtW "java/lang/String" 335 "java/lang/String" Cdr.yN Cdr.yN
def tab : Cond := tabOf yN yB 1 (some .int) site
def P (x t : Addr) (V : Cell) (cd : Int32) (n : Nat) (f : Nat → Int32) (z : Int32) (args : Array Value) (s : State) : Prop := args = #[.ref x] ∧ Txt x t V cd n f s ∧ StaticIs s "java/lang/String" "COMPACT_STRINGS" "Z" (.int z) ∧ ¬ z = 0
def E (n : Nat) (r : Option Value) (s u : State) : Prop := XT.PureE (some (.int (Int32.ofNat n))) r s u
/-- length() of a String of n chars, in either coding -/
theorem law (l : Launch) (x t : Addr) (V : Cell) (cd : Int32) (n : Nat) (f : Nat → Int32) (z : Int32) : Law l yN 1 0 1 13 yB 1 (some .int) site (P x t V cd n f z) (E n) [] 0 0 := by
  refine Law.of_walk (plainFor_of_name (by decide +kernel)) (by decide +kernel) (by decide +kernel) (by decide) (fun _ _ h => by rw [h.1]; rfl) (fun _ U U' hal hh h => ⟨h.1, h.2.1.mv hal hh, h.2.2.1.there hal hh, h.2.2.2⟩) (fun r U U' V V' h1 hal h2 h => XT.PureE.mv r U U' V V' h1 hal h2 h) ?_
  intro p e s m args below meth c s₁ X0 hexec hbytes hml hret hlk hnm hown hh0 W hP
  obtain ⟨rfl, hx, s1, hz⟩ := hP
  have v31 := hx.2.2.2.1.2.2.2
  have c1 : Steps p.tables e below (s₁.setTop (entryFrame m #[.ref x] 1)) (s₁.setTop (mkF m 1 #[.val (.ref x)] [.ref x])) := Steps.trans (entry rfl) (by
    show Steps p.tables e below (s₁.setTop (mkF m 0 #[.val (.ref x)] [])) _
    refine XS.aloadN X0.here hexec rfl (hb hbytes d0) rfl rfl ?_
    exact Steps.refl _)
  obtain ⟨T2, X2, q2, st2⟩ := X0.hget hexec hown (wk W (.fieldLink "java/lang/String" 9 "java/lang/String" "value" "[B")) (hx.mv X0.warmed.alike hh0).2.1 (g := (mkF m 1 #[.val (.ref x)] [.ref x])) rfl (rest := []) rfl (hb hbytes d1)
  have hh2 := q2.trans hh0
  have hx2 := hx.mv X2.warmed.alike hh2
  have c3 : Steps p.tables e below (s₁.setTop (entryFrame m #[.ref x] 1)) (T2.setTop (mkF m 6 #[.val (.ref x)] [.ref x, .int (Int32.ofNat V.slots.size)])) := (c1.trans (st2 _ (Steps.refl _))).trans (by
    refine X2.alen hexec hx2.2.2.2.1 rfl rfl (hb hbytes d4) ?_
    refine XS.aloadN X2.here hexec rfl (hb hbytes d5) rfl rfl ?_
    exact Steps.refl _)
  obtain ⟨v4, T4, X4, E4, g4⟩ := X2.callV hexec (Cdr.law l x cd z) hown (wks W (virtW "java/lang/String" 335 "java/lang/String" Cdr.yN Cdr.yN)) rfl (by decide) (wk W Cdr.tab) (W := 1) (Nat.le_of_ble_eq_true rfl) (Nat.le_of_ble_eq_true rfl) (Nat.le_refl _) (Nat.le_refl _) (hx2.1.fc X2.warmed.alike) hx2.1.is (g := (mkF m 6 #[.val (.ref x)] [.ref x, .int (Int32.ofNat V.slots.size)])) rfl (by rw [hml]; rfl) c3 (argsL := []) (rest := [.int (Int32.ofNat V.slots.size)]) rfl rfl (by show 2 * 0 + (1 + 0) ≤ _; decide) (hb hbytes d6) (⟨rfl, hx2.2.2.1, hx.2.2.2.2.1.cd, s1.there X2.warmed.alike hh2, hz⟩)
  obtain ⟨rfl, q4⟩ := E4
  have c5 : Steps p.tables e below (s₁.setTop (entryFrame m #[.ref x] 1)) (T4.setTop (mkF m 10 #[.val (.ref x)] [.int (Int32.ofNat V.slots.size >>> (cd &&& 31))])) := Steps.trans g4 (by
    refine ishr X4.here hexec rfl (hb hbytes d9) rfl ?_
    exact Steps.refl _)
  rw [hx.2.2.2.2.1.len v31] at c5
  exact ⟨T4, some (.int (Int32.ofNat n)), _, _, _, X4, rfl, rfl, rfl, (fun h => by cases h), ⟨rfl, q4.trans hh2⟩, fun fs hl => c5.trans (X4.ireturnOut hexec hret rfl (Or.inl rfl) (hb hbytes d10) hl)⟩
theorem pays {l : Launch} {R : Room} {p : Program} {e : Env} {below : List Frame} {s : State} {sargs : Array Value} {len W : Nat} (x t : Addr) (V : Cell) (cd : Int32) (n : Nat) (f : Nat → Int32) (z : Int32) (htab : tab.before sargs s = true) (hfr : 2 ≤ R.frames) (hlo : W + 25 ≤ R.locals) :
    Back l R p e below s sargs yN len W (fun A₁ a₁ => A₁.cells + 0 ≤ R.cells ∧ A₁.slots + 0 ≤ R.slots ∧ P x t V cd n f z a₁ A₁.U) (fun A₁ _ v₁ B₁ => E n v₁ A₁.U B₁.U ∧ B₁.locs = A₁.locs ++ [] ∧ B₁.cells = A₁.cells + 0 ∧ B₁.slots = A₁.slots + 0) :=
  (law l x t V cd n f z).pays htab hfr (by omega)
end Len
namespace IsL
def yN : MethodName := ⟨"java/lang/String", "isLatin1", "()Z"⟩
abbrev yB : ByteArray := jdk_42_method_154_code
theorem d0 : decode yB 0 = .ok (.getstatic 38, 3) := by decide +kernel
theorem d3 : decode yB 3 = .ok (.ifCond (.eq) 14, 3) := by decide +kernel
theorem d6 : decode yB 6 = .ok (.aload_n 0, 1) := by decide +kernel
theorem d7 : decode yB 7 = .ok (.getfield 15, 3) := by decide +kernel
theorem d10 : decode yB 10 = .ok (.ifCond (.ne) 7, 3) := by decide +kernel
theorem d13 : decode yB 13 = .ok (.iconst 1, 1) := by decide +kernel
theorem d14 : decode yB 14 = .ok (.goto 4, 3) := by decide +kernel
theorem d17 : decode yB 17 = .ok (.iconst 0, 1) := by decide +kernel
theorem d18 : decode yB 18 = .ok (.ireturn, 1) := by decide +kernel
def site : List Cond := [.fieldLink "java/lang/String" 38 "java/lang/String" "COMPACT_STRINGS" "Z", .fieldLink "java/lang/String" 15 "java/lang/String" "coder" "B"]
def tab : Cond := tabOf yN yB 1 (some .boolean) site
def P (x : Addr) (cd z : Int32) (args : Array Value) (s : State) : Prop := args = #[.ref x] ∧ Has x "java/lang/String" "coder" "B" (.int cd) s ∧ (cd = 0 ∨ cd = 1) ∧ StaticIs s "java/lang/String" "COMPACT_STRINGS" "Z" (.int z) ∧ ¬ z = 0
def E (cd : Int32) (r : Option Value) (s u : State) : Prop := XT.PureE (some (.int (1 - cd))) r s u
theorem law (l : Launch) (x : Addr) (cd z : Int32) : Law l yN 1 0 0 0 yB 1 (some .boolean) site (P x cd z) (E cd) [] 0 0 := by
  refine Law.of_walk (plainFor_of_name (by decide +kernel)) (by decide +kernel) (by decide +kernel) (by decide) (fun _ _ h => by rw [h.1]; rfl) (fun _ U U' hal hh h => ⟨h.1, h.2.1.mv hal hh, h.2.2.1, h.2.2.2.1.there hal hh, h.2.2.2.2⟩) (fun r U U' V V' h1 hal h2 h => XT.PureE.mv r U U' V V' h1 hal h2 h) ?_
  intro p e s m args below meth c s₁ X0 hexec hbytes hml hret hlk hnm hown hh0 W hP
  obtain ⟨rfl, hx, hc, s1, hz⟩ := hP
  have c1 : Steps p.tables e below (s₁.setTop (entryFrame m #[.ref x] 1)) (s₁.setTop (mkF m 0 #[.val (.ref x)] [])) := entry rfl
  obtain ⟨T2, X2, q2, st2⟩ := X0.sget hexec hown (wk W (.fieldLink "java/lang/String" 38 "java/lang/String" "COMPACT_STRINGS" "Z")) s1 (fun _ _ h => by rw [hh0]; exact h) (g := (mkF m 0 #[.val (.ref x)] [])) rfl (hb hbytes d0)
  have hh2 := q2.trans hh0
  have c3 : Steps p.tables e below (s₁.setTop (entryFrame m #[.ref x] 1)) (T2.setTop (mkF m 7 #[.val (.ref x)] [.ref x])) := (c1.trans (st2 _ (Steps.refl _))).trans (by
    refine XS.ifNo X2.here hexec rfl (hb hbytes d3) rfl (i0_eq_f hz) ?_
    refine XS.aloadN X2.here hexec rfl (hb hbytes d6) rfl rfl ?_
    exact Steps.refl _)
  obtain ⟨T4, X4, q4, st4⟩ := X2.hget hexec hown (wk W (.fieldLink "java/lang/String" 15 "java/lang/String" "coder" "B")) (hx.mv X2.warmed.alike hh2) (g := (mkF m 7 #[.val (.ref x)] [.ref x])) rfl (rest := []) rfl (hb hbytes d7)
  have c5 : Steps p.tables e below (s₁.setTop (entryFrame m #[.ref x] 1)) (T4.setTop (mkF m 10 #[.val (.ref x)] [.int cd])) := c3.trans (st4 _ (Steps.refl _))
  have c6 : Steps p.tables e below (s₁.setTop (entryFrame m #[.ref x] 1)) (T4.setTop (mkF m 18 #[.val (.ref x)] [.int (1 - cd)])) := by
    rcases hc with rfl | rfl
    · exact c5.trans (by
        refine XS.ifNo X4.here hexec rfl (hb hbytes d10) rfl (i0_ne_f rfl) ?_
        refine iconstV X4.here hexec rfl 1 (hb hbytes d13) (by decide) ?_
        refine XS.goto X4.here hexec rfl (pc0 := 14) rfl (hb hbytes d14) (by decide) rfl ?_
        exact Steps.refl _)
    · exact c5.trans (by
        refine XS.ifYes X4.here hexec rfl (pc0 := 10) rfl (hb hbytes d10) rfl (i0_ne_t (by decide)) (by decide) rfl ?_
        refine iconstV X4.here hexec rfl 0 (hb hbytes d17) (by decide) ?_
        exact Steps.refl _)
  exact ⟨T4, some (.int (1 - cd)), _, _, _, X4, rfl, rfl, rfl, (fun h => by cases h), ⟨rfl, q4.trans hh2⟩, fun fs hl => c6.trans (X4.ireturnOut hexec hret (by rcases hc with rfl | rfl <;> rfl) (Or.inr (Or.inl rfl)) (hb hbytes d18) hl)⟩
end IsL
namespace LChA
def yN : MethodName := ⟨"java/lang/StringLatin1", "charAt", "([BI)C"⟩
abbrev yB : ByteArray := jdk_43_method_2_code
theorem d0 : decode yB 0 = .ok (.iload_n 1, 1) := by decide +kernel
theorem d1 : decode yB 1 = .ok (.aload_n 0, 1) := by decide +kernel
theorem d2 : decode yB 2 = .ok (.arraylength, 1) := by decide +kernel
theorem d3 : decode yB 3 = .ok (.invokestatic 9, 3) := by decide +kernel
theorem d6 : decode yB 6 = .ok (.aload_n 0, 1) := by decide +kernel
theorem d7 : decode yB 7 = .ok (.iload_n 1, 1) := by decide +kernel
theorem d8 : decode yB 8 = .ok (.baload, 1) := by decide +kernel
theorem d9 : decode yB 9 = .ok (.sipush 255, 3) := by decide +kernel
theorem d12 : decode yB 12 = .ok (.iand, 1) := by decide +kernel
theorem d13 : decode yB 13 = .ok (.i2c, 1) := by decide +kernel
theorem d14 : decode yB 14 = .ok (.ireturn, 1) := by decide +kernel
def site : List Cond := [JO.Str_checkIndex.tab] ++ staticW "java/lang/StringLatin1" 9 JO.Str_checkIndex.yN
def tab : Cond := tabOf yN yB 2 (some .char) site
def P (t : Addr) (V : Cell) (i : Nat) (u : Int32) (fm : Value) (args : Array Value) (s : State) : Prop := args = #[.ref t, .int (Int32.ofNat i)] ∧ XT.Arr .byte t V s ∧ V.slots[i]? = some (.int u) ∧ (StaticIs s "jdk/internal/util/Preconditions" "SIOOBE_FORMATTER" "Ljava/util/function/BiFunction;" fm ∧ fm.isRef = true)
def E (u : Int32) (r : Option Value) (s w : State) : Prop := XT.PureE (some (.int (chr8 u))) r s w
theorem law (l : Launch) (t : Addr) (V : Cell) (i : Nat) (u : Int32) (fm : Value) : Law l yN 2 2 2 27 yB 2 (some .char) site (P t V i u fm) (E u) [] 0 0 := by
  refine Law.of_walk (plainFor_of_name (by decide +kernel)) (by decide +kernel) (by decide +kernel) (by decide) (fun _ _ h => by rw [h.1]; rfl) (fun _ U U' hal hh h => ⟨h.1, h.2.1.mv hal hh, h.2.2.1, h.2.2.2.1.there hal hh, h.2.2.2.2⟩) (fun r U U' V V' h1 hal h2 h => XT.PureE.mv r U U' V V' h1 hal h2 h) ?_
  intro p e s m args below meth c s₁ X0 hexec hbytes hml hret hlk hnm hown hh0 W hP
  obtain ⟨rfl, hV, hu, s1, rf⟩ := hP
  have v31 := hV.2.2.2
  have hi : i < V.slots.size := (Array.getElem?_eq_some_iff.mp hu).1
  have c1 : Steps p.tables e below (s₁.setTop (entryFrame m #[.ref t, .int (Int32.ofNat i)] 2)) (s₁.setTop (mkF m 0 #[.val (.ref t), .val (.int (Int32.ofNat i))] [])) := entry rfl
  have c2 : Steps p.tables e below (s₁.setTop (entryFrame m #[.ref t, .int (Int32.ofNat i)] 2)) (s₁.setTop (mkF m 3 #[.val (.ref t), .val (.int (Int32.ofNat i))] [.int (Int32.ofNat V.slots.size), .int (Int32.ofNat i)])) := c1.trans (by
    refine XS.iloadN X0.here hexec rfl (hb hbytes d0) rfl ?_
    refine XS.aloadN X0.here hexec rfl (hb hbytes d1) rfl rfl ?_
    refine X0.alen hexec (hV.mv X0.warmed.alike hh0) rfl rfl (hb hbytes d2) ?_
    exact Steps.refl _)
  obtain ⟨v3, T3, X3, E3, g3⟩ := X0.callS hexec (JO.Str_checkIndex.law l (Int32.ofNat i) (Int32.ofNat V.slots.size) fm) hown (wks W (staticW "java/lang/StringLatin1" 9 JO.Str_checkIndex.yN)) (wk W JO.Str_checkIndex.tab) (W := 0) (Nat.le_of_ble_eq_true rfl) (Nat.le_of_ble_eq_true rfl) (Nat.le_refl _) (Nat.le_refl _) (g := (mkF m 3 #[.val (.ref t), .val (.int (Int32.ofNat i))] [.int (Int32.ofNat V.slots.size), .int (Int32.ofNat i)])) rfl (by rw [hml]; rfl) c2 (argsL := [.int (Int32.ofNat i), .int (Int32.ofNat V.slots.size)]) (rest := []) rfl rfl (by show 2 * 0 + 0 ≤ _; decide) (hb hbytes d3) (⟨rfl, rf, s1.there X0.warmed.alike hh0, Int32.ofNat_not_neg (by omega), lt32 v31 hi⟩)
  obtain ⟨rfl, q3⟩ := E3
  have hh3 := q3.trans hh0
  have c4 : Steps p.tables e below (s₁.setTop (entryFrame m #[.ref t, .int (Int32.ofNat i)] 2)) (T3.setTop (mkF m 14 #[.val (.ref t), .val (.int (Int32.ofNat i))] [.int (chr8 u)])) := Steps.trans g3 (by
    refine XS.aloadN X3.here hexec rfl (hb hbytes d6) rfl rfl ?_
    refine XS.iloadN X3.here hexec rfl (hb hbytes d7) rfl ?_
    refine X3.aget hexec (hV.mv X3.warmed.alike hh3) rfl hu rfl rfl (hb hbytes d8) ?_
    refine sipushV X3.here hexec rfl 255 (hb hbytes d9) (by decide) ?_
    refine XS.iand X3.here hexec rfl (hb hbytes d12) rfl ?_
    refine i2c X3.here hexec rfl (hb hbytes d13) rfl ?_
    exact Steps.refl _)
  exact ⟨T3, some (.int (chr8 u)), _, _, _, X3, rfl, rfl, rfl, (fun h => by cases h), ⟨rfl, hh3⟩, fun fs hl => c4.trans (X3.ireturnOut hexec hret (narrow_c _) (Or.inr (Or.inr (Or.inr (Or.inl rfl)))) (hb hbytes d14) hl)⟩
end LChA
end StrChars
namespace StrChars.Road
open Jvm Sem ClassFile Op Lib Jvm.Stand Jvm.Free Jvm.Free.XT
open Jvm.Lib.Cold (StaticIs)
theorem consq {a : Array Value} {s : State} {c : Jvm.Cond} {L : List Jvm.Cond} (h0 : c.before a s = true) (h : ∀ w ∈ L, w.before a s = true) : ∀ w ∈ c :: L, w.before a s = true := fun w hw => (List.mem_cons.mp hw).elim (fun e => e ▸ h0) (h w)
/-- the words of String.length(), either coding -/
abbrev wordsLen : List Jvm.Cond := [.code Len.yN Len.yB 1 (some .int), .initialized ST, .fieldLink ST 9 ST "value" "[B", .fieldLink ST 38 ST "COMPACT_STRINGS" "Z", .fieldLink ST 15 ST "coder" "B", .code Cdr.yN Cdr.yB 1 (some .byte), .methodLink ST 335 Cdr.yN, .declares Cdr.yN, .selects ST Cdr.yN Cdr.yN, .instanceMethod Cdr.yN]
theorem tabLen_of {a : Array Value} {s : State} (h : ∀ w ∈ wordsLen, w.before a s = true) : Len.tab.before a s = true := by
  have hc : Cdr.tab.before a s = true := unparts (wk h (.code Cdr.yN Cdr.yB 1 (some .byte))) (wks h (.initialized Cdr.yN.cls :: Cdr.site))
  have q := consq hc h
  exact unparts (wk q (.code Len.yN Len.yB 1 (some .int))) (wks q (.initialized Len.yN.cls :: Len.site))
theorem movedLen {Z s : State} {a0 args : Array Value} (hZ : Z.Warmed39 s.vm) (hw : ∀ d ∈ wordsLen, d.before a0 Z = true) : ∀ d ∈ wordsLen, d.before args s = true := fun d hd => by
  have q := hw d hd
  have t : ∀ d ∈ wordsLen, d = .arrayClass .byte ∨ (d.onTables && d.keepsFace) = true := by decide +kernel
  rcases t d hd with rfl | t
  · exact RoadKit.mvA hZ q
  · exact RoadKit.mv hZ q t
/-- the bytes of the chars cs, low before high -/
def wideBytes : List Int32 → List Value
  | [] => []
  | c :: cs => .int (lo8 c) :: .int (hi8 c) :: wideBytes cs
theorem wide_lo (d : Value) : ∀ (cs : List Int32) (j : Nat), j < cs.length → (wideBytes cs).getD (2 * j) d = .int (lo8 (cs.getD j 0))
  | [], j, h => absurd h (Nat.not_lt_zero j)
  | c :: cs, 0, _ => rfl
  | c :: cs, j + 1, h => by
    have q := wide_lo d cs j (by simpa using h)
    rw [show 2 * (j + 1) = 2 * j + 1 + 1 from by omega]
    simpa [wideBytes] using q
theorem wide_hi (d : Value) : ∀ (cs : List Int32) (j : Nat), j < cs.length → (wideBytes cs).getD (2 * j + 1) d = .int (hi8 (cs.getD j 0))
  | [], j, h => absurd h (Nat.not_lt_zero j)
  | c :: cs, 0, _ => rfl
  | c :: cs, j + 1, h => by
    have q := wide_hi d cs j (by simpa using h)
    rw [show 2 * (j + 1) + 1 = 2 * j + 1 + 1 + 1 from by omega]
    simpa [wideBytes] using q
theorem low_at (d : Value) (cs : List Int32) (j : Nat) (h : j < cs.length) : (cs.map fun c => Value.int (lo8 c)).getD j d = .int (lo8 (cs.getD j 0)) := by
  simp [List.getD_eq_getElem?_getD, h]
/-- an array of N2 bytes vs codes the chars cs by the coder cd -/
def CodA (cs : List Int32) (cd N2 : Int32) (vs : List Value) : Prop := (cd = 0 ∧ N2 = Int32.ofNat cs.length ∧ vs = (cs.map fun c => Value.int (lo8 c)) ∧ ∀ c ∈ cs, ¬ 255 < c) ∨ (cd = 1 ∧ N2 = Int32.ofNat (2 * cs.length) ∧ vs = wideBytes cs ∧ ∃ c ∈ cs, 255 < c)
theorem CodA.cod {cs : List Int32} {cd N2 : Int32} {vs : List Value} {V : Cell} (h : CodA cs cd N2 vs) (hn : 2 * cs.length < 2 ^ 31) (hs : V.slots.size = N2.toNatClampNeg) (hv : RoadKit.Has V vs (.int 0)) : Cod cd cs.length (fun j => cs.getD j 0) V := by
  rcases h with ⟨rfl, rfl, rfl, h⟩ | ⟨rfl, rfl, rfl, c, hc, hw⟩
  · rw [n32 (by omega)] at hs
    exact Or.inl ⟨rfl, hs, fun j hj => ⟨by rw [hv j (by omega), low_at _ _ _ hj], by
      have e : cs.getD j 0 = cs[j] := by simp [List.getD_eq_getElem?_getD, hj]
      show ¬ 255 < cs.getD j 0
      rw [e]; exact h _ (List.getElem_mem _)⟩⟩
  · rw [n32 (by omega)] at hs
    obtain ⟨j, hj, rfl⟩ := List.getElem_of_mem hc
    exact Or.inr ⟨rfl, hs, fun j hj => ⟨by rw [hv _ (by omega), wide_lo _ _ _ hj], by rw [hv _ (by omega), wide_hi _ _ _ hj]⟩, j, hj, by
      have e : cs.getD j 0 = cs[j] := by simp [List.getD_eq_getElem?_getD, hj]
      show 255 < cs.getD j 0
      rw [e]; exact hw⟩
/-- an object of exactly java/lang/String, its two fields found: as the laws ask it -/
theorem strObj {Z U : State} {a0 : Array Value} {kI : Nat} (wi : (Jvm.Cond.instantiable ST kI).before a0 Z = true) (al : Z.vm.Alike U.vm) {x : Addr} {v0 c0 : Value} (E : RoadKit.Exa Z U.heap x ST) (V : RoadKit.Fld Z U.heap x ST "value" "[B" v0) (C : RoadKit.Fld Z U.heap x ST "coder" "B" c0) :
    ∃ (D : Cell) (fV fC : Field), Blank ST x D U ∧ Found ST "value" "[B" fV U ∧ Found ST "coder" "B" fC U ∧ D.slots[fV.slot]? = some v0 ∧ D.slots[fC.slot]? = some c0 ∧ RoadKit.slotOf Z ST "value" "[B" = fV.slot ∧ RoadKit.slotOf Z ST "coder" "B" = fC.slot := by
  obtain ⟨D, cfV, kV, iV, fV, hD, gV, stV, knV, obV, asV, slV⟩ := V
  obtain ⟨D', cfC, kC, iC, fC, hD', gC, stC, -, -, asC, slC⟩ := C
  cases hD.symm.trans hD'
  obtain ⟨D2, kD, e1, e2, e3, e4, e5⟩ := E
  cases hD.symm.trans e1
  obtain ⟨c2, k2, i1, i2, i3, -⟩ := Cond.instantiable_spec wi
  cases e2.symm.trans i1
  cases e3.symm.trans i2
  obtain ⟨kU, u1, u2⟩ := al.2.2 _ _ e3
  exact ⟨D, fV, fC, ⟨hD, ⟨knV, fun q hq => by rw [hq] at obV; cases obV⟩, by rw [al.findClass]; exact e2, kU, u1, by rw [u2]; exact i3, by rw [u2]; exact e5 i3⟩, ⟨SBG.found_only al ⟨cfV, kV, iV, gV⟩, stV⟩, ⟨SBG.found_only al ⟨cfC, kC, iC, gC⟩, stC⟩, slV, slC, by simp [RoadKit.slotOf, gV], by simp [RoadKit.slotOf, gC]⟩
theorem sta_is {Z U : State} (al : Z.vm.Alike U.vm) {C n d : String} {v : Value} (S : RoadKit.Sta Z U.heap C n d v) : StaticIs U C n d v := by
  obtain ⟨cfS, iS, kS, fS, st, cS, t1, t2, t3, t4, t5, t6, t7⟩ := S
  exact StaticIs.there (s := { Z with heap := U.heap }) ⟨cfS, iS, kS, fS, st, cS, t1, t2, t3, t4, t5, (fun q => by rw [q] at t6; cases t6), t7⟩ al rfl
/-- **length() OF SUCH A STRING** -/
theorem lenW {p : Program} {l : Launch} {e : Env} {R : Room} {s : State} {args : Array Value} {below : List Frame} {len W : Nat} {Z : State} {a0 : Array Value} {h : Heap} (hZ : Z.Warmed39 s.vm) (hw : ∀ d ∈ wordsLen, d.before a0 Z = true) {kI : Nat} (wi : (Jvm.Cond.instantiable ST kI).before a0 Z = true)
    {x t : Addr} {kb : ClassId} {cs : List Int32} {cd N2 z : Int32} {vs : List Value} (E : RoadKit.Exa Z h x ST) (V : RoadKit.Fld Z h x ST "value" "[B" (.ref t)) (C : RoadKit.Fld Z h x ST "coder" "B" (.int cd)) (K : RoadKit.Arv Z h t kb .byte N2 vs (.int 0)) (hc : CodA cs cd N2 vs) (hb : ∀ c ∈ cs, ¬ c < 0 ∧ ¬ (65535 : Int32) < c)
    (S : RoadKit.Sta Z h ST "COMPACT_STRINGS" "Z" (.int z)) (hz : ¬ z = 0) (l2 : cs.length ≤ 4000) (hfr : 2 ≤ R.frames) (hlo : W + 25 ≤ R.locals) :
    Back l R p e below s args (⟨"java/lang/String", "length", "()I"⟩ : MethodName) len W (fun P a => a = #[.ref x] ∧ P.U.heap = h ∧ P.cells + 0 ≤ R.cells ∧ P.slots + 0 ≤ R.slots)
      (fun P _ v B => ∃ L, (v = some (.int (Int32.ofNat cs.length)) ∧ L = [] ∧ B.U.heap = h) ∧ B.locs = P.locs ++ L ∧ B.cells = P.cells + 0 ∧ B.slots = P.slots + 0) := by
  obtain ⟨A, K1, K2, K3, K4, K5, K6⟩ := K
  have hcod := hc.cod (by omega) K3 K5
  intro m meth c P g ig mk a X hg hsize hdg hW hn hp'
  obtain ⟨rfl, rfl, r1, r2⟩ := hp'
  have al : Z.vm.Alike P.U.vm := hZ.alike.trans X.warmed.alike
  obtain ⟨D, fV, fC, hB, F1, F2, g1, g2, -, -⟩ := strObj wi al E V C
  have hx : Txt x t A cd cs.length (fun j => cs.getD j 0) P.U := ⟨⟨_, hB.2.2.1, D, hB.1, rfl, by cases q : D.vm <;> first | rfl | exact absurd q (hB.2.1.2 _)⟩, Has.of hB F1 g1, Has.of hB F2 g2, ⟨K1.1, State.isArrayOf_alike al K1.2.1, K1.2.2, by rcases hcod with ⟨-, q, -⟩ | ⟨-, q, -⟩ <;> omega⟩, hcod, fun j hj => by
    have e : cs.getD j 0 = cs[j] := by simp [List.getD_eq_getElem?_getD, hj]
    show ¬ cs.getD j 0 < 0 ∧ ¬ 65535 < cs.getD j 0
    rw [e]; exact hb _ (List.getElem_mem _)⟩
  obtain ⟨v, B, X', ⟨⟨hv, hh⟩, hl, hk, hs⟩, st⟩ := Len.pays x t A cd cs.length (fun j => cs.getD j 0) z (tabLen_of (movedLen hZ hw)) hfr hlo m meth c P g ig mk _ X hg hsize hdg hW hn ⟨r1, r2, rfl, hx, sta_is al S, hz⟩
  exact ⟨v, B, X', ⟨[], ⟨hv, rfl, hh⟩, hl, hk, hs⟩, st⟩
end StrChars.Road
namespace StrChars.Road
open Jvm Sem ClassFile Op Lib Jvm.Stand Jvm.Free Jvm.Free.XT
open Jvm.Lib.Cold (StaticIs)
/-- the road's facts of a String, as the laws ask it -/
theorem txt_of {Z U : State} {a0 : Array Value} {kI : Nat} (wi : (Jvm.Cond.instantiable ST kI).before a0 Z = true) (al : Z.vm.Alike U.vm) {x t : Addr} {kb : ClassId} {cs : List Int32} {cd N2 : Int32} {vs : List Value} (E : RoadKit.Exa Z U.heap x ST) (V : RoadKit.Fld Z U.heap x ST "value" "[B" (.ref t)) (C : RoadKit.Fld Z U.heap x ST "coder" "B" (.int cd)) (K : RoadKit.Arv Z U.heap t kb .byte N2 vs (.int 0)) (hc : CodA cs cd N2 vs) (hb : ∀ c ∈ cs, ¬ c < 0 ∧ ¬ (65535 : Int32) < c) (l2 : cs.length ≤ 4000) :
    ∃ A, Txt x t A cd cs.length (fun j => cs.getD j 0) U := by
  obtain ⟨A, K1, K2, K3, K4, K5, K6⟩ := K
  have hcod := hc.cod (by omega) K3 K5
  obtain ⟨D, fV, fC, hB, F1, F2, g1, g2, -, -⟩ := strObj wi al E V C
  exact ⟨A, ⟨_, hB.2.2.1, D, hB.1, rfl, by cases q : D.vm <;> first | rfl | exact absurd q (hB.2.1.2 _)⟩, Has.of hB F1 g1, Has.of hB F2 g2, ⟨K1.1, State.isArrayOf_alike al K1.2.1, K1.2.2, by rcases hcod with ⟨-, q, -⟩ | ⟨-, q, -⟩ <;> omega⟩, hcod, fun j hj => by
    have e : cs.getD j 0 = cs[j] := by simp [List.getD_eq_getElem?_getD, hj]
    show ¬ cs.getD j 0 < 0 ∧ ¬ 65535 < cs.getD j 0
    rw [e]; exact hb _ (List.getElem_mem _)⟩
end StrChars.Road
namespace StrChars
open Jvm Sem ClassFile Op Lib Jvm.Stand Jvm.Free.XT Jvm.Free.ALB Jvm.Free.JM Jvm.Free
open Jvm.Lib.Cold (StaticIs)
namespace ChN
def yN : MethodName := ⟨"java/lang/String", "charAt", "(I)C"⟩
abbrev yB : ByteArray := jdk_42_method_56_code
theorem d0 : decode yB 0 = .ok (.aload_n 0, 1) := by decide +kernel
theorem d1 : decode yB 1 = .ok (.invokevirtual 492, 3) := by decide +kernel
theorem d4 : decode yB 4 = .ok (.ifCond (.eq) 12, 3) := by decide +kernel
theorem d7 : decode yB 7 = .ok (.aload_n 0, 1) := by decide +kernel
theorem d8 : decode yB 8 = .ok (.getfield 9, 3) := by decide +kernel
theorem d11 : decode yB 11 = .ok (.iload_n 1, 1) := by decide +kernel
theorem d12 : decode yB 12 = .ok (.invokestatic 495, 3) := by decide +kernel
theorem d15 : decode yB 15 = .ok (.ireturn, 1) := by decide +kernel
def site : List Cond := [.fieldLink "java/lang/String" 9 "java/lang/String" "value" "[B", IsL.tab, LChA.tab] ++ virtW "java/lang/String" 492 "java/lang/String" IsL.yN IsL.yN ++ staticW "java/lang/String" 495 LChA.yN
def tab : Cond := tabOf yN yB 2 (some .char) site
def P (x t : Addr) (V : Cell) (n : Nat) (f : Nat → Int32) (z : Int32) (fm : Value) (i : Nat) (args : Array Value) (s : State) : Prop := args = #[.ref x, .int (Int32.ofNat i)] ∧ Txt x t V 0 n f s ∧ i < n ∧ StaticIs s "java/lang/String" "COMPACT_STRINGS" "Z" (.int z) ∧ ¬ z = 0 ∧ StaticIs s "jdk/internal/util/Preconditions" "SIOOBE_FORMATTER" "Ljava/util/function/BiFunction;" fm ∧ fm.isRef = true
def E (f : Nat → Int32) (i : Nat) (r : Option Value) (s u : State) : Prop := XT.PureE (some (.int (f i))) r s u
/-- charAt(i) of a Latin-1 String of n chars, i < n: f i -/
theorem law (l : Launch) (x t : Addr) (V : Cell) (n : Nat) (f : Nat → Int32) (z : Int32) (fm : Value) (i : Nat) : Law l yN 2 1 3 40 yB 2 (some .char) site (P x t V n f z fm i) (E f i) [] 0 0 := by
  refine Law.of_walk (plainFor_of_name (by decide +kernel)) (by decide +kernel) (by decide +kernel) (by decide) (fun _ _ h => by rw [h.1]; rfl) (fun _ U U' hal hh h => ⟨h.1, h.2.1.mv hal hh, h.2.2.1, h.2.2.2.1.there hal hh, h.2.2.2.2.1, h.2.2.2.2.2.1.there hal hh, h.2.2.2.2.2.2⟩) (fun r U U' V V' h1 hal h2 h => XT.PureE.mv r U U' V V' h1 hal h2 h) ?_
  intro p e s m args below meth c s₁ X0 hexec hbytes hml hret hlk hnm hown hh0 W hP
  obtain ⟨rfl, hx, hi, s1, hz, s3, rf⟩ := hP
  have v31 := hx.2.2.2.1.2.2.2
  have hr := hx.2.2.2.2.2 i hi
  have hx0 := hx.mv X0.warmed.alike hh0
  have c1 : Steps p.tables e below (s₁.setTop (entryFrame m #[.ref x, .int (Int32.ofNat i)] 2)) (s₁.setTop (mkF m 1 #[.val (.ref x), .val (.int (Int32.ofNat i))] [.ref x])) := Steps.trans (entry rfl) (by
    show Steps p.tables e below (s₁.setTop (mkF m 0 #[.val (.ref x), .val (.int (Int32.ofNat i))] [])) _
    refine XS.aloadN X0.here hexec rfl (hb hbytes d0) rfl rfl ?_
    exact Steps.refl _)
  obtain ⟨v2, T2, X2, E2, g2⟩ := X0.callV hexec (IsL.law l x 0 z) hown (wks W (virtW "java/lang/String" 492 "java/lang/String" IsL.yN IsL.yN)) rfl (by decide) (wk W IsL.tab) (W := 0) (Nat.le_of_ble_eq_true rfl) (Nat.le_of_ble_eq_true rfl) (Nat.le_refl _) (Nat.le_refl _) (hx0.1.fc X0.warmed.alike) hx0.1.is (g := (mkF m 1 #[.val (.ref x), .val (.int (Int32.ofNat i))] [.ref x])) rfl (by rw [hml]; rfl) c1 (argsL := []) (rest := []) rfl rfl (by show 2 * 0 + 0 ≤ _; decide) (hb hbytes d1) (⟨rfl, hx0.2.2.1, hx.2.2.2.2.1.cd, s1.there X0.warmed.alike hh0, hz⟩)
  obtain ⟨rfl, q2⟩ := E2
  have hh2 := q2.trans hh0
  have hx2 := hx.mv X2.warmed.alike hh2
  obtain ⟨-, k1, k2⟩ | ⟨k0, -⟩ := hx.2.2.2.2.1
  · have c3 : Steps p.tables e below (s₁.setTop (entryFrame m #[.ref x, .int (Int32.ofNat i)] 2)) (T2.setTop (mkF m 8 #[.val (.ref x), .val (.int (Int32.ofNat i))] [.ref x])) := Steps.trans g2 (by
      refine XS.ifNo X2.here hexec rfl (hb hbytes d4) rfl (i0_eq_f (by decide)) ?_
      refine XS.aloadN X2.here hexec rfl (hb hbytes d7) rfl rfl ?_
      exact Steps.refl _)
    obtain ⟨T4, X4, q4, st4⟩ := X2.hget hexec hown (wk W (.fieldLink "java/lang/String" 9 "java/lang/String" "value" "[B")) hx2.2.1 (g := (mkF m 8 #[.val (.ref x), .val (.int (Int32.ofNat i))] [.ref x])) rfl (rest := []) rfl (hb hbytes d8)
    have hh4 := q4.trans hh2
    have c5 : Steps p.tables e below (s₁.setTop (entryFrame m #[.ref x, .int (Int32.ofNat i)] 2)) (T4.setTop (mkF m 12 #[.val (.ref x), .val (.int (Int32.ofNat i))] [.int (Int32.ofNat i), .ref t])) := (c3.trans (st4 _ (Steps.refl _))).trans (by
      refine XS.iloadN X4.here hexec rfl (hb hbytes d11) rfl ?_
      exact Steps.refl _)
    obtain ⟨v6, T6, X6, E6, g6⟩ := X4.callS hexec (LChA.law l t V i (lo8 (f i)) fm) hown (wks W (staticW "java/lang/String" 495 LChA.yN)) (wk W LChA.tab) (W := 0) (Nat.le_of_ble_eq_true rfl) (Nat.le_of_ble_eq_true rfl) (Nat.le_refl _) (Nat.le_refl _) (g := (mkF m 12 #[.val (.ref x), .val (.int (Int32.ofNat i))] [.int (Int32.ofNat i), .ref t])) rfl (by rw [hml]; rfl) c5 (argsL := [.ref t, .int (Int32.ofNat i)]) (rest := []) rfl rfl (by show 2 * 0 + 0 ≤ _; decide) (hb hbytes d12) (⟨rfl, hx.2.2.2.1.mv X4.warmed.alike hh4, (k2 i hi).1, s3.there X4.warmed.alike hh4, rf⟩)
    obtain ⟨rfl, q6⟩ := E6
    rw [chr8_lo8 hr.1 (k2 i hi).2] at g6
    exact ⟨T6, some (.int (f i)), _, _, _, X6, rfl, rfl, rfl, (fun h => by cases h), ⟨rfl, q6.trans hh4⟩, fun fs hl => Steps.trans g6 (X6.ireturnOut hexec hret (narrow_ch hr.1 hr.2) (Or.inr (Or.inr (Or.inr (Or.inl rfl)))) (hb hbytes d15) hl)⟩
  · exact absurd k0 (by decide)
theorem pays {l : Launch} {R : Room} {p : Program} {e : Env} {below : List Frame} {s : State} {sargs : Array Value} {len W : Nat} (x t : Addr) (V : Cell) (n : Nat) (f : Nat → Int32) (z : Int32) (fm : Value) (i : Nat) (htab : tab.before sargs s = true) (hfr : 4 ≤ R.frames) (hlo : W + 53 ≤ R.locals) :
    Back l R p e below s sargs yN len W (fun A₁ a₁ => A₁.cells + 0 ≤ R.cells ∧ A₁.slots + 0 ≤ R.slots ∧ P x t V n f z fm i a₁ A₁.U) (fun A₁ _ v₁ B₁ => E f i v₁ A₁.U B₁.U ∧ B₁.locs = A₁.locs ++ [] ∧ B₁.cells = A₁.cells + 0 ∧ B₁.slots = A₁.slots + 0) :=
  (law l x t V n f z fm i).pays htab hfr (by omega)
end ChN
end StrChars
namespace StrChars.Road
open Jvm Sem ClassFile Op Lib Jvm.Stand Jvm.Free Jvm.Free.XT
open Jvm.Lib.Cold (StaticIs)
/-- the words of String.charAt(int), the Latin-1 road alone -/
abbrev wordsChN : List Jvm.Cond := [.code ChN.yN ChN.yB 2 (some .char), .initialized ST, .fieldLink ST 9 ST "value" "[B", .fieldLink ST 38 ST "COMPACT_STRINGS" "Z", .fieldLink ST 15 ST "coder" "B", .code IsL.yN IsL.yB 1 (some .boolean), .methodLink ST 492 IsL.yN, .declares IsL.yN, .selects ST IsL.yN IsL.yN, .instanceMethod IsL.yN,
  .methodLink ST 495 LChA.yN, .static LChA.yN, .code LChA.yN LChA.yB 2 (some .char), .initialized "java/lang/StringLatin1", .methodLink "java/lang/StringLatin1" 9 JO.Str_checkIndex.yN, .static JO.Str_checkIndex.yN, .code JO.Str_checkIndex.yN JO.Str_checkIndex.yB 2 none,
  .fieldLink ST 1053 "jdk/internal/util/Preconditions" "SIOOBE_FORMATTER" "Ljava/util/function/BiFunction;", .methodLink ST 1059 JC.PreCheck.yN, .static JC.PreCheck.yN, .code JC.PreCheck.yN JC.PreCheck.yB 3 (some .int), .initialized "jdk/internal/util/Preconditions"]
theorem tabChN_of {a : Array Value} {s : State} (h : ∀ w ∈ wordsChN, w.before a s = true) : ChN.tab.before a s = true := by
  have hp : JC.PreCheck.tab.before a s = true := unparts (wk h (.code JC.PreCheck.yN JC.PreCheck.yB 3 (some .int))) (wks h (.initialized JC.PreCheck.yN.cls :: JC.PreCheck.site))
  have qk := consq hp h
  have hk : JO.Str_checkIndex.tab.before a s = true := unparts (wk qk (.code JO.Str_checkIndex.yN JO.Str_checkIndex.yB 2 none)) (wks qk (.initialized JO.Str_checkIndex.yN.cls :: JO.Str_checkIndex.site))
  have ql := consq hk h
  have hl : LChA.tab.before a s = true := unparts (wk ql (.code LChA.yN LChA.yB 2 (some .char))) (wks ql (.initialized LChA.yN.cls :: LChA.site))
  have hi : IsL.tab.before a s = true := unparts (wk h (.code IsL.yN IsL.yB 1 (some .boolean))) (wks h (.initialized IsL.yN.cls :: IsL.site))
  have q := consq hi (consq hl h)
  exact unparts (wk q (.code ChN.yN ChN.yB 2 (some .char))) (wks q (.initialized ChN.yN.cls :: ChN.site))
theorem movedChN {Z s : State} {a0 args : Array Value} (hZ : Z.Warmed39 s.vm) (hw : ∀ d ∈ wordsChN, d.before a0 Z = true) : ∀ d ∈ wordsChN, d.before args s = true := fun d hd => by
  have t : ∀ d ∈ wordsChN, (d.onTables && d.keepsFace) = true := by decide +kernel
  exact RoadKit.mv hZ (hw d hd) (t d hd)
/-- **charAt(i) OF A LATIN-1 STRING**, i < n: the char -/
theorem chN {p : Program} {l : Launch} {e : Env} {R : Room} {s : State} {args : Array Value} {below : List Frame} {len W : Nat} {Z : State} {a0 : Array Value} {h : Heap} (hZ : Z.Warmed39 s.vm) (hw : ∀ d ∈ wordsChN, d.before a0 Z = true) {kI : Nat} (wi : (Jvm.Cond.instantiable ST kI).before a0 Z = true)
    {x t : Addr} {kb : ClassId} {cs : List Int32} {N2 z : Int32} {vs : List Value} {fm : Value} {i : Nat} {j : Int32} (E : RoadKit.Exa Z h x ST) (V : RoadKit.Fld Z h x ST "value" "[B" (.ref t)) (C : RoadKit.Fld Z h x ST "coder" "B" (.int 0)) (K : RoadKit.Arv Z h t kb .byte N2 vs (.int 0)) (hc : CodA cs 0 N2 vs) (hb : ∀ c ∈ cs, ¬ c < 0 ∧ ¬ (65535 : Int32) < c)
    (S : RoadKit.Sta Z h ST "COMPACT_STRINGS" "Z" (.int z)) (hz : ¬ z = 0) (F : RoadKit.Sta Z h "jdk/internal/util/Preconditions" "SIOOBE_FORMATTER" "Ljava/util/function/BiFunction;" fm) (rf : fm.isRef = true) (l2 : cs.length ≤ 4000) (hi : i < cs.length) (hj : j = Int32.ofNat i) (hfr : 4 ≤ R.frames) (hlo : W + 53 ≤ R.locals) :
    Back l R p e below s args (⟨"java/lang/String", "charAt", "(I)C"⟩ : MethodName) len W (fun P a => a = #[.ref x, .int j] ∧ P.U.heap = h ∧ P.cells + 0 ≤ R.cells ∧ P.slots + 0 ≤ R.slots)
      (fun P _ v B => ∃ L, (v = some (.int (cs.getD i 0)) ∧ L = [] ∧ B.U.heap = h) ∧ B.locs = P.locs ++ L ∧ B.cells = P.cells + 0 ∧ B.slots = P.slots + 0) := by
  subst hj
  intro m meth c P g ig mk a X hg hsize hdg hW hn hp'
  obtain ⟨rfl, rfl, r1, r2⟩ := hp'
  have al : Z.vm.Alike P.U.vm := hZ.alike.trans X.warmed.alike
  obtain ⟨A, hx⟩ := txt_of wi al E V C K hc hb l2
  obtain ⟨v, B, X', ⟨⟨hv, hh⟩, hl, hk, hs⟩, st⟩ := ChN.pays x t A cs.length (fun j => cs.getD j 0) z fm i (tabChN_of (movedChN hZ hw)) hfr hlo m meth c P g ig mk _ X hg hsize hdg hW hn ⟨r1, r2, rfl, hx, hi, sta_is al S, hz, sta_is al F, rf⟩
  exact ⟨v, B, X', ⟨[], ⟨hv, rfl, hh⟩, hl, hk, hs⟩, st⟩
/-- what backV says of its String, as the contracts of this text ask it: cs's low bytes, coder 0 -/
theorem codOf {cs : List Int32} {n : Nat} (hn : cs.length = n) (hb : ∀ c ∈ cs, ¬ 255 < c) : CodA cs 0 (Int32.ofNat n) ((cs.map lo8).map Value.int) := Or.inl ⟨rfl, by rw [hn], by simp [List.map_map, Function.comp_def], hb⟩
end StrChars.Road
end Jvm.Pilot.@@N@@
namespace Jvm.Pilot.@@N@@
open Jvm Jvm.ClassFile Sem Op Lib Jvm.Free Jvm.Stand Jvm.LawKit Jvm.RoadKit Bundle Jvm.Pilot.@@N@@.Jvm.D Jvm.OwnKit
section OwnStr
variable {p : Program} {l : Launch} {e : Env} {R : Room} {s : State} {args : Array Value} {below : List Frame} {Z : State} {a0 : Array Value} {EL : List (String × Nat)} {vm : Vm} {h : Heap} {len W : Nat}
theorem own_up {cs : List Int32} (h : ∀ c ∈ cs, B8 c) : ∀ c ∈ cs, ¬ c < 0 ∧ ¬ (65535 : Int32) < c := fun c hc => ⟨(h c hc).1, fun q => (h c hc).2 (by rw [Int32.lt_iff_toInt_lt] at q ⊢; have e1 : (65535 : Int32).toInt = 65535 := rfl; have e2 : (255 : Int32).toInt = 255 := rfl; omega)⟩
theorem own_payNew {zc : Int32} (hws : ∀ d ∈ StrChars.Road.words, d.before a0 Z = true) (wi : (Jvm.Cond.instantiable "java/lang/String" 4).before a0 Z = true) (Scs : Sta Z Z.heap "java/lang/String" "COMPACT_STRINGS" "Z" (.int zc)) (hzc : ¬ zc = 0) (O : Ext Z.heap h)
    {x b : Addr} {kC : ClassId} {cs : List Int32} {d v0 c0 : Value} {N : Int32} {n : Nat} (gx0 : Z.heap.size ≤ x) (E : Exa Z h x "java/lang/String") (V : Fld Z h x "java/lang/String" "value" "[B" v0) (C : Fld Z h x "java/lang/String" "coder" "B" c0) (K : Arv Z h b kC .char N (cs.map Value.int) d)
    (hn : cs.length = n) (hN : N = Int32.ofNat n) (l0 : 0 < n) (l2 : n ≤ 4000) (hp : ∀ c ∈ cs, B8 c) (Sf : Safe Z EL vm h x) (hfr : 4 ≤ R.frames) (hlo : W + 65 ≤ R.locals) (hZ : Z.Warmed39 vm) (H : CHv Z EL vm h) (hEL : EW Z a0 EL) :
    Pay l R p e below s args Z EL vm h (⟨"java/lang/String", "<init>", "([C)V"⟩ : MethodName) len W #[.ref x, .ref b] 1 n (fun v _ h' => ∃ (t : Addr), v = none ∧ Keep h h' [x] ∧ h.size ≤ t ∧ Str Z h' x t cs) := by
  have hx : x < h.size := E.lt
  refine Pay.of_back (a0 := a0) (Q0 := StrChars.Road.QV Z x N (cs.map fun c => c.toInt8.toInt32) h Z.heap.size) (StrChars.Road.backV (s := s.setVm vm) hZ hws (kI := 4) wi (cs := cs) (bs := cs.map fun c => c.toInt8.toInt32) (n := n) gx0 O.1 E V C K (Scs.ext O) hzc hn hN l0 l2 hp rfl hfr hlo) hZ H hEL ?_
  rintro v h' L ⟨rfl, q1, q2, q3, q4, t, kb, q5, q6, q7, q8, q9⟩
  exact ⟨q1, ⟨[x], q2, allS Sf all0⟩, fun vm' _ => ⟨t, rfl, q2, q6, q3, q4, q8, ⟨kb, by rw [hn, ← hN]; exact q9⟩, hp, by rw [hn]; exact l2⟩⟩
theorem own_payLen {zc : Int32} (hws : ∀ d ∈ StrChars.Road.wordsLen, d.before a0 Z = true) (wi : (Jvm.Cond.instantiable "java/lang/String" 4).before a0 Z = true) (Scs : Sta Z Z.heap "java/lang/String" "COMPACT_STRINGS" "Z" (.int zc)) (hzc : ¬ zc = 0) (O : Ext Z.heap h)
    {x t : Addr} {cs : List Int32} {N : Int32} (F : Str Z h x t cs) (hN : Int32.ofNat cs.length = N) (hfr : 2 ≤ R.frames) (hlo : W + 25 ≤ R.locals) (hZ : Z.Warmed39 vm) (H : CHv Z EL vm h) (hEL : EW Z a0 EL) :
    Pay l R p e below s args Z EL vm h (⟨"java/lang/String", "length", "()I"⟩ : MethodName) len W #[.ref x] 0 0 (fun v _ h' => v = some (.int N) ∧ h = h') := by
  obtain ⟨f1, f2, f3, ⟨kb, f4⟩, f5, f6⟩ := F
  refine Pay.of_back (a0 := a0) (Q0 := fun v h' L => v = some (.int (Int32.ofNat cs.length)) ∧ L = [] ∧ h' = h) (StrChars.Road.lenW (s := s.setVm vm) hZ hws (kI := 4) wi (cs := cs) f1 f3 f2 f4 (StrChars.Road.codOf (n := cs.length) rfl (fun c hc => (f5 c hc).2)) (own_up f5) (Scs.ext O) hzc f6 hfr hlo) hZ H hEL ?_
  rintro v h' L ⟨rfl, rfl, rfl⟩
  exact ⟨Fr.nil _, ⟨[], Keep.refl _ _, all0⟩, fun _ _ => ⟨by rw [hN], rfl⟩⟩
theorem own_payChN {zc : Int32} {fm : Value} (hws : ∀ d ∈ StrChars.Road.wordsChN, d.before a0 Z = true) (wi : (Jvm.Cond.instantiable "java/lang/String" 4).before a0 Z = true) (Scs : Sta Z Z.heap "java/lang/String" "COMPACT_STRINGS" "Z" (.int zc)) (hzc : ¬ zc = 0) (Sfm : Sta Z Z.heap "jdk/internal/util/Preconditions" "SIOOBE_FORMATTER" "Ljava/util/function/BiFunction;" fm) (hfm : fm.isRef = true) (O : Ext Z.heap h)
    {x t : Addr} {cs : List Int32} {i : Nat} {j y : Int32} (F : Str Z h x t cs) (hi : i < cs.length) (hj : j = Int32.ofNat i) (hy : cs.getD i 0 = y) (hfr : 4 ≤ R.frames) (hlo : W + 53 ≤ R.locals) (hZ : Z.Warmed39 vm) (H : CHv Z EL vm h) (hEL : EW Z a0 EL) :
    Pay l R p e below s args Z EL vm h (⟨"java/lang/String", "charAt", "(I)C"⟩ : MethodName) len W #[.ref x, .int j] 0 0 (fun v _ h' => v = some (.int y) ∧ h = h') := by
  obtain ⟨f1, f2, f3, ⟨kb, f4⟩, f5, f6⟩ := F
  refine Pay.of_back (a0 := a0) (Q0 := fun v h' L => v = some (.int (cs.getD i 0)) ∧ L = [] ∧ h' = h) (StrChars.Road.chN (s := s.setVm vm) hZ hws (kI := 4) wi (cs := cs) f1 f3 f2 f4 (StrChars.Road.codOf (n := cs.length) rfl (fun c hc => (f5 c hc).2)) (own_up f5) (Scs.ext O) hzc (Sfm.ext O) hfm f6 hi hj hfr hlo) hZ H hEL ?_
  rintro v h' L ⟨rfl, rfl, rfl⟩
  exact ⟨Fr.nil _, ⟨[], Keep.refl _ _, all0⟩, fun _ _ => ⟨by rw [hy], rfl⟩⟩
end OwnStr
end Jvm.Pilot.@@N@@
namespace Jvm.Pilot.@@N@@
set_option maxRecDepth 65536
set_option maxHeartbeats 40000000
open Jvm Jvm.ClassFile Sem Op Lib Jvm.Free Jvm.Stand Jvm.LawKit Jvm.RoadKit Bundle Jvm.Pilot.@@N@@.Jvm.D Jvm.OwnKit
def own_vO : List Value := (List.range' 0 100).map fun r => .int (Int32.ofNat (48 + r % 10))
def own_vT : List Value := (List.range' 0 100).map fun r => .int (Int32.ofNat (48 + r / 10))
def Ctx (Z : State) (a0 : Array Value) : Prop := (∀ d ∈ tables_1, d.before a0 Z = true) ∧ EW Z a0 consts_1 ∧ (∃ zc : Int32, Sta Z Z.heap "java/lang/String" "COMPACT_STRINGS" "Z" (.int zc) ∧ ¬ zc = 0) ∧ (∃ fm : Value, Sta Z Z.heap "jdk/internal/util/Preconditions" "SIOOBE_FORMATTER" "Ljava/util/function/BiFunction;" fm ∧ fm.isRef = true) ∧ (∃ fe ft tt : Addr, Sta Z Z.heap "com/example/limentinus/limentinus/core/KeyLayout$Suffix" "PERMIT" "Lcom/example/limentinus/limentinus/core/KeyLayout$Suffix;" (.ref fe) ∧ Exa Z Z.heap fe "com/example/limentinus/limentinus/core/KeyLayout$Suffix" ∧ Fld Z Z.heap fe "com/example/limentinus/limentinus/core/KeyLayout$Suffix" "text" "Ljava/lang/String;" (.ref ft) ∧ Str Z Z.heap ft tt [(58 : Int32), (112 : Int32), (101 : Int32), (114 : Int32), (109 : Int32), (105 : Int32), (116 : Int32), (58 : Int32)]) ∧ (∃ dg_go dg_gt : Addr, ∃ kg_go kg_gt : ClassId, Sta Z Z.heap "java/lang/Integer" "DigitOnes" "[B" (.ref dg_go) ∧ Arv Z Z.heap dg_go kg_go .byte (100 : Int32) own_vO (.int 0) ∧ Sta Z Z.heap "java/lang/Integer" "DigitTens" "[B" (.ref dg_gt) ∧ Arv Z Z.heap dg_gt kg_gt .byte (100 : Int32) own_vT (.int 0))
theorem own_SA {Z : State} {a0 : Array Value} (hw : ∀ d ∈ tables_1, d.before a0 Z = true) : ∀ a ∈ Bundle.stringAtoms, a.before a0 Z = true := fun d hd => hw d ((by decide +kernel : ∀ d ∈ Bundle.stringAtoms, d ∈ tables_1) d hd)
theorem own_wNew {Z : State} {a0 : Array Value} (hw : ∀ d ∈ tables_1, d.before a0 Z = true) : ∀ d ∈ StrChars.Road.words, d.before a0 Z = true := fun d hd => hw d ((by decide +kernel : ∀ d ∈ StrChars.Road.words, d ∈ tables_1) d hd)
theorem own_wLen {Z : State} {a0 : Array Value} (hw : ∀ d ∈ tables_1, d.before a0 Z = true) : ∀ d ∈ StrChars.Road.wordsLen, d.before a0 Z = true := fun d hd => hw d ((by decide +kernel : ∀ d ∈ StrChars.Road.wordsLen, d ∈ tables_1) d hd)
theorem own_wChN {Z : State} {a0 : Array Value} (hw : ∀ d ∈ tables_1, d.before a0 Z = true) : ∀ d ∈ StrChars.Road.wordsChN, d.before a0 Z = true := fun d hd => hw d ((by decide +kernel : ∀ d ∈ StrChars.Road.wordsChN, d ∈ tables_1) d hd)
abbrev c0_ : String := "Ljava/lang/String;"
abbrev c1_ : String := "com/example/limentinus/limentinus/core/KeyLayout"
abbrev c2_ : String := "java/lang/AbstractStringBuilder"
abbrev c3_ : String := "java/lang/Integer"
abbrev c4_ : String := "java/lang/String"
abbrev c5_ : String := "java/lang/StringBuilder"
abbrev y0_ : ByteArray := jdk_29_method_65_code
abbrev y1_ : ByteArray := jdk_29_method_69_code
abbrev y2_ : ByteArray := jdk_31_method_11_code
abbrev y3_ : ByteArray := jdk_33_method_12_code
abbrev y4_ : ByteArray := jdk_33_method_13_code
abbrev y5_ : ByteArray := jdk_42_method_147_code
abbrev y6_ : ByteArray := jdk_42_method_149_code
abbrev y7_ : ByteArray := jdk_42_method_150_code
abbrev y8_ : ByteArray := jdk_42_method_152_code
abbrev y9_ : ByteArray := jdk_42_method_3_code
abbrev y10_ : ByteArray := jdk_42_method_53_code
abbrev y11_ : ByteArray := jdk_48_method_27_code
abbrev y12_ : ByteArray := jdk_65_method_121_code
abbrev y13_ : ByteArray := jdk_65_method_131_code
abbrev y14_ : ByteArray := jdk_65_method_132_code
abbrev y15_ : ByteArray := jdk_65_method_133_code
abbrev y16_ : ByteArray := jdk_67_method_15_code
abbrev y17_ : ByteArray := jdk_67_method_1_code
abbrev y18_ : ByteArray := jdk_67_method_42_code
abbrev y19_ : ByteArray := jdk_67_method_7_code
abbrev y20_ : ByteArray := jdk_67_method_93_code
abbrev y21_ : ByteArray := jdk_68_method_10_code
abbrev y22_ : ByteArray := jdk_68_method_22_code
abbrev y23_ : ByteArray := jdk_68_method_2_code
abbrev y24_ : ByteArray := jdk_68_method_32_code
abbrev y25_ : ByteArray := jdk_68_method_64_code
abbrev y26_ : ByteArray := jdk_68_method_68_code
abbrev y27_ : ByteArray := jdk_68_method_6_code
abbrev y28_ : ByteArray := jdk_68_method_71_code
abbrev y29_ : ByteArray := jdk_68_method_73_code
abbrev y30_ : ByteArray := jdk_68_method_9_code
abbrev y31_ : ByteArray := method_2_code
abbrev y32_ : ByteArray := method_3_code
abbrev y33_ : ByteArray := method_4_code
abbrev y34_ : ByteArray := method_5_code
abbrev y35_ : ByteArray := method_6_code
abbrev y36_ : ByteArray := method_7_code
abbrev y37_ : ByteArray := prog_19_method_1_code
abbrev y38_ : ByteArray := prog_19_method_2_code
abbrev y39_ : ByteArray := prog_19_method_4_code
theorem bapp {cs ds : List Int32} (h1 : ∀ c ∈ cs, B8 c) (h2 : ∀ c ∈ ds, B8 c) : ∀ c ∈ cs ++ ds, B8 c := fun c hc => (List.mem_append.mp hc).elim (h1 c) (h2 c)
theorem d0 : decode y6_ 0 = .ok (.aload_n 0, 1) := by decide +kernel
theorem d1 : decode y6_ 1 = .ok (.invokespecial 1, 3) := by decide +kernel
theorem d2 : decode y6_ 4 = .ok (.iload_n 3, 1) := by decide +kernel
theorem d3 : decode y6_ 5 = .ok (.ifCond .ne 22, 3) := by decide +kernel
theorem d4 : decode y6_ 8 = .ok (.aload_n 0, 1) := by decide +kernel
theorem d5 : decode y6_ 9 = .ok (.ldc 7, 2) := by decide +kernel
theorem d6 : decode y6_ 11 = .ok (.getfield 9, 3) := by decide +kernel
theorem d7 : decode y6_ 14 = .ok (.putfield 9, 3) := by decide +kernel
theorem d8 : decode y6_ 17 = .ok (.aload_n 0, 1) := by decide +kernel
theorem d9 : decode y6_ 18 = .ok (.ldc 7, 2) := by decide +kernel
theorem d10 : decode y6_ 20 = .ok (.getfield 15, 3) := by decide +kernel
theorem d11 : decode y6_ 23 = .ok (.putfield 15, 3) := by decide +kernel
theorem d12 : decode y6_ 26 = .ok (.return_, 1) := by decide +kernel
abbrev mn13 : MethodName := ⟨"java/lang/String", "<init>", "([CIILjava/lang/Void;)V"⟩
theorem own_pn14 : plainName "java/lang/String" = true := by first | (simp [plainName, overriddenIn]; done) | decide +kernel
theorem own_emp4 (l : Launch) (Z : State) (a0 : Array Value) (cx : Ctx Z a0) (ws : List Jvm.Cond) (x : Addr) (b : Addr) (v0 : Value) (c0 : Value) (vm0 : Vm) (h0 : Heap) (X00 : Ext Z.heap h0) (P0 : Exa Z h0 x c4_) (P1 : Fld Z h0 x c4_ "value" "[B" v0) (P2 : Fld Z h0 x c4_ "coder" "B" c0) (P3 : Z.heap.size ≤ x) (P4 : Safe Z consts_1 vm0 h0 x) :
    Met l mn13 y6_ 6 none ws ({ frames := 1, cells := 4, slots := 8, locals := 12 } : Room) Z consts_1 vm0 h0 #[(.ref x), (.ref b), (.int (0 : Int32)), (.int (0 : Int32)), .null] (fun rv vm h => ∃ (t : Addr), rv = none ∧ Keep h0 h [x] ∧ Str Z h x t ([] : List Int32) ∧ Safe Z consts_1 vm h x) := by
  obtain ⟨hw, hEL, ⟨zc, Scs, hzc⟩, ⟨fm, Sfm, hfm⟩, ⟨fe, ft, tt, Sfe, Efe, Fft, Sft⟩, hI0⟩ := id cx
  have hSA := own_SA hw
  refine Met.of_walk (a0 := a0) #[vr x, vr b, vi (0 : Int32), vi (0 : Int32), .val .null, un] (plainFor_of_name own_pn14) X00 hEL (fun m => by first | (simp [entryFrame, mkF, argsToLocals, Value.category]; done) | rfl) ?_
  intro p e s m below meth c vm hx hby hml hret hnm hC0 hW0
  have lt_x : h0.size > x := P0.lt
  have L4 := hC0.safe lt_x P4
  refine uAN 1 hx hby d0 rfl rfl rfl ?_
  refine ginitO hx (ow hw 15 rfl) (ow hw 16 rfl) (ow hw 17 rfl) 4 (W := 0) (Nat.le_of_eq rfl) (by rw [hml]; rfl) (hb hby d1) rfl (by decide) (by decide) ?_
  refine uIN 5 hx hby d2 rfl rfl ?_
  refine uN 8 hx hby d3 rfl ((if0 _ _).trans (teq (by decide)).2) ?_
  refine uAN 9 hx hby d4 rfl rfl rfl ?_
  refine gldcR hx (ow hw 18 rfl) hSA (by decide) (n := 0) (by decide) (by decide) (vs := []) (z := (0 : Int32)) (by decide +kernel) (by decide) (by decide) 11 (hb hby d5) rfl (by decide) (by decide) ?_
  intro b2 t2 k2 vm2 h2 E2 C2 Q2a Q2b Q2c Q2d Q2e
  have z2 := C2.2.1
  have S2 : Str Z h2 b2 t2 ([] : List Int32) := Str.lit Q2a Q2b Q2c Q2d (by decide) rfl rfl (by decide)
  have lt_b2 : h2.size > b2 := S2.1.lt
  have lt_t2 : h2.size > t2 := S2.tlt
  have f3 := (C2.safe (show h0.size > x by omega) L4)
  have ne2_x := Q2e x f3
  refine ggetF (host := "") hx (Or.inl (ow hw 24 rfl)) Via.refl S2.2.2.1 14 (hb hby d6) rfl ?_
  have f4 := (P1.ext E2)
  have f5 := (P0.ext E2)
  refine gputF (host := "") hx (Or.inl (ow hw 24 rfl)) Via.refl f4 f5 (Or.inr ⟨(ow hw 20 rfl), rfl, hnm⟩) (ow hw 5 rfl) (ty := (.array .byte)) (by decide) rfl rfl P3 (fun _ => f3) 17 (hb hby d7) rfl ?_
  intro h6 W6 C6
  have z6 := C6.2.1
  have F6 := f4.same W6
  refine uAN 18 hx hby d8 rfl rfl rfl ?_
  refine gldcR hx (ow hw 18 rfl) hSA (by decide) (n := 0) (by decide) (by decide) (vs := []) (z := (0 : Int32)) (by decide +kernel) (by decide) (by decide) 20 (hb hby d9) rfl (by decide) (by decide) ?_
  intro b7 t7 k7 vm7 h7 E7 C7 Q7a Q7b Q7c Q7d Q7e
  have z7 := C7.2.1
  have S7 : Str Z h7 b7 t7 ([] : List Int32) := Str.lit Q7a Q7b Q7c Q7d (by decide) rfl rfl (by decide)
  have lt_b7 : h7.size > b7 := S7.1.lt
  have lt_t7 : h7.size > t7 := S7.tlt
  have f8 := (C7.safe (show h6.size > x by omega) (C6.safe (show h2.size > x by omega) f3))
  have ne7_x := Q7e x f8
  refine ggetF (host := "") hx (Or.inl (ow hw 25 rfl)) Via.refl S7.2.1 23 (hb hby d10) rfl ?_
  have f9 := (((P2.ext E2).other W6 (Or.inr (slot_ne (Or.inr (ow hw 21 rfl)) (Or.inr (ow hw 20 rfl)) (by decide) (t := .byte) (t' := (.array .byte)) (by decide) (by decide)))).ext E7)
  have f10 := ((f5.wr W6).ext E7)
  refine gputF (host := "") hx (Or.inl (ow hw 25 rfl)) Via.refl f9 f10 (Or.inr ⟨(ow hw 21 rfl), rfl, hnm⟩) (ow hw 5 rfl) (ty := .byte) (by decide) rfl rfl P3 (fun _ => f8) 26 (hb hby d11) rfl ?_
  intro h11 W11 C11
  have z11 := C11.2.1
  have F11 := f9.same W11
  have f13 := (((S2.other W6 (Ne.symm ne2_x.1) (Ne.symm ne2_x.2)).ext E7).other W11 (Ne.symm ne2_x.1) (Ne.symm ne2_x.2))
  have f15 := (f10.wr W11)
  have f16 := ((F6.ext E7).other W11 (Or.inr (slot_ne (Or.inr (ow hw 20 rfl)) (Or.inr (ow hw 21 rfl)) (by decide) (t := (.array .byte)) (t' := .byte) (by decide) (by decide))))
  have S14 : Str Z h11 x t2 ([] : List Int32) := ⟨f15, F11, f16, f13.2.2.2⟩
  have f17 := (C11.safe (show h7.size > x by omega) f8)
  exact gretV hx hret (hb hby d12) (by decide) (by decide) (fun vq Cq => ⟨t2, rfl, (((((Keep.refl h0 [x]).ext E2).wr W6 (Or.inl (List.mem_of_getElem? (i := 0) rfl))).ext E7).wr W11 (Or.inl (List.mem_of_getElem? (i := 0) rfl))), S14, (Cq.safe (show h11.size > x by omega) f17)⟩)
theorem d15 : decode y9_ 0 = .ok (.aload_n 0, 1) := by decide +kernel
theorem d16 : decode y9_ 1 = .ok (.aload_n 1, 1) := by decide +kernel
theorem d17 : decode y9_ 2 = .ok (.iconst 0, 1) := by decide +kernel
theorem d18 : decode y9_ 3 = .ok (.aload_n 1, 1) := by decide +kernel
theorem d19 : decode y9_ 4 = .ok (.arraylength, 1) := by decide +kernel
theorem d20 : decode y9_ 5 = .ok (.aconst_null, 1) := by decide +kernel
theorem d21 : decode y9_ 6 = .ok (.invokespecial 27, 3) := by decide +kernel
theorem own_pd22 : parseMethodDescriptor "([CIILjava/lang/Void;)V" = some ⟨[(.array .char), .int, .int, (.object "java/lang/Void")], none⟩ := by decide +kernel
theorem d23 : decode y9_ 9 = .ok (.return_, 1) := by decide +kernel
abbrev mn24 : MethodName := ⟨"java/lang/String", "<init>", "([C)V"⟩
theorem own_emp1 (l : Launch) (Z : State) (a0 : Array Value) (cx : Ctx Z a0) (ws : List Jvm.Cond) (x : Addr) (b : Addr) (v0 : Value) (c0 : Value) (kc : ClassId) (vm0 : Vm) (h0 : Heap) (X00 : Ext Z.heap h0) (P0 : Exa Z h0 x c4_) (P1 : Fld Z h0 x c4_ "value" "[B" v0) (P2 : Fld Z h0 x c4_ "coder" "B" c0) (P3 : Z.heap.size ≤ x) (P4 : Safe Z consts_1 vm0 h0 x) (P5 : Arv Z h0 b kc .char (0 : Int32) [] (.int (0 : Int32))) :
    Met l mn24 y9_ 2 none ws ({ frames := 2, cells := 4, slots := 8, locals := 29 } : Room) Z consts_1 vm0 h0 #[(.ref x), (.ref b)] (fun rv vm h => ∃ (t : Addr), rv = none ∧ Keep h0 h [x] ∧ Str Z h x t ([] : List Int32) ∧ Safe Z consts_1 vm h x) := by
  obtain ⟨hw, hEL, ⟨zc, Scs, hzc⟩, ⟨fm, Sfm, hfm⟩, ⟨fe, ft, tt, Sfe, Efe, Fft, Sft⟩, hI0⟩ := id cx
  have hSA := own_SA hw
  refine Met.of_walk (a0 := a0) #[vr x, vr b] (plainFor_of_name own_pn14) X00 hEL (fun m => by first | (simp [entryFrame, mkF, argsToLocals, Value.category]; done) | rfl) ?_
  intro p e s m below meth c vm hx hby hml hret hnm hC0 hW0
  have lt_x : h0.size > x := P0.lt
  have L4 := hC0.safe lt_x P4
  have lt_b : h0.size > b := P5.lt
  refine uAN 1 hx hby d15 rfl rfl rfl ?_
  refine uAN 2 hx hby d16 rfl rfl rfl ?_
  refine uKc 3 (0 : Int32) hx hby d17 rfl rfl ?_
  refine uAN 4 hx hby d18 rfl rfl rfl ?_
  refine glen hx P5 5 (hb hby d19) rfl ?_
  refine uU 6 hx hby d20 rfl ?_
  refine ginfo fun _ _ O1 => ?_
  refine gcallI (y := mn13) hx rfl (ow hw 11 rfl) (ow hw 12 rfl) (ow hw 14 rfl) (by decide) (fun hZ H hEL => Pay.of_met (W := 0) (own_emp4 l Z a0 cx [] (x) (b) (v0) (c0) vm h0 O1 P0 P1 P2 P3 L4) (ow hw 14 rfl) (ow hw 6 rfl) (by decide) (by decide) hZ H hEL) (a := x) 9 (argsL := [(.ref b), (.int (0 : Int32)), (.int (0 : Int32)), .null]) (rest := []) (lenOf own_pd22 rfl) rfl rfl (Nat.le_of_eq rfl) (by rw [hml]; rfl) (hb hby d21) rfl (by decide) (by decide) ?_
  rintro _ vm1 h1 C1 ⟨t1, rfl, K1, q1_0, q1_1⟩
  have z1 := C1.2.1
  have lt_t1 : h1.size > t1 := q1_0.tlt
  refine gat0 ?_
  exact gretV hx hret (hb hby d23) (by decide) (by decide) (fun vq Cq => ⟨t1, rfl, ((Keep.refl h0 [x]).trans K1 (allS (Or.inl (List.mem_of_getElem? (i := 0) rfl)) all0)), q1_0, (Cq.safe (show h1.size > x by omega) q1_1)⟩)
theorem d25 : decode y2_ 0 = .ok (.aload_n 0, 1) := by decide +kernel
theorem d26 : decode y2_ 1 = .ok (.ifnonnull 12, 3) := by decide +kernel
theorem d27 : decode y2_ 13 = .ok (.aload_n 0, 1) := by decide +kernel
theorem d28 : decode y2_ 14 = .ok (.areturn, 1) := by decide +kernel
abbrev mn29 : MethodName := ⟨"java/util/Objects", "requireNonNull", "(Ljava/lang/Object;Ljava/lang/String;)Ljava/lang/Object;"⟩
theorem own_pn30 : plainName "java/util/Objects" = true := by first | (simp [plainName, overriddenIn]; done) | decide +kernel
theorem own_require2 (l : Launch) (Z : State) (a0 : Array Value) (cx : Ctx Z a0) (ws : List Jvm.Cond) (x : Addr) (b : Addr) (vm0 : Vm) (h0 : Heap) (X00 : Ext Z.heap h0)  :
    Met l mn29 y2_ 2 (some (.object "java/lang/Object")) ws ({ frames := 0, cells := 0, slots := 0, locals := 0 } : Room) Z consts_1 vm0 h0 #[(.ref x), (.ref b)] (fun rv vm h => rv = some (.ref x) ∧ h0 = h) := by
  obtain ⟨hw, hEL, ⟨zc, Scs, hzc⟩, ⟨fm, Sfm, hfm⟩, ⟨fe, ft, tt, Sfe, Efe, Fft, Sft⟩, hI0⟩ := id cx
  have hSA := own_SA hw
  refine Met.of_walk (a0 := a0) #[vr x, vr b] (plainFor_of_name own_pn30) X00 hEL (fun m => by first | (simp [entryFrame, mkF, argsToLocals, Value.category]; done) | rfl) ?_
  intro p e s m below meth c vm hx hby hml hret hnm hC0 hW0
  refine uAN 1 hx hby d25 rfl rfl rfl ?_
  refine uY1 13 hx hby d26 (by decide) (by decide) ?_
  refine uAN 14 hx hby d27 rfl rfl rfl ?_
  exact gretA hx hret rfl rfl (hb hby d28) (by decide) (by decide) (fun vq Cq => ⟨rfl, rfl⟩)
theorem d31 : decode y23_ 0 = .ok (.aload_n 0, 1) := by decide +kernel
theorem d32 : decode y23_ 1 = .ok (.invokespecial 3, 3) := by decide +kernel
theorem d33 : decode y23_ 4 = .ok (.getstatic 18, 3) := by decide +kernel
theorem d34 : decode y23_ 7 = .ok (.ifCond .eq 18, 3) := by decide +kernel
theorem d35 : decode y23_ 10 = .ok (.aload_n 0, 1) := by decide +kernel
theorem d36 : decode y23_ 11 = .ok (.iload_n 1, 1) := by decide +kernel
theorem d37 : decode y23_ 12 = .ok (.newarray .byte, 2) := by decide +kernel
theorem d38 : decode y23_ 14 = .ok (.putfield 15, 3) := by decide +kernel
theorem d39 : decode y23_ 17 = .ok (.aload_n 0, 1) := by decide +kernel
theorem d40 : decode y23_ 18 = .ok (.iconst 0, 1) := by decide +kernel
theorem d41 : decode y23_ 19 = .ok (.putfield 22, 3) := by decide +kernel
theorem d42 : decode y23_ 22 = .ok (.goto 16, 3) := by decide +kernel
theorem d43 : decode y23_ 38 = .ok (.return_, 1) := by decide +kernel
abbrev mn44 : MethodName := ⟨"java/lang/AbstractStringBuilder", "<init>", "(I)V"⟩
theorem own_pn45 : plainName "java/lang/AbstractStringBuilder" = true := by first | (simp [plainName, overriddenIn]; done) | decide +kernel
theorem own_asbinit (l : Launch) (Z : State) (a0 : Array Value) (cx : Ctx Z a0) (ws : List Jvm.Cond) (x : Addr) (v0 : Value) (c0 : Value) (vm0 : Vm) (h0 : Heap) (X00 : Ext Z.heap h0) (P0 : Exa Z h0 x c5_) (P1 : Fld Z h0 x c2_ "value" "[B" v0) (P2 : Fld Z h0 x c2_ "coder" "B" c0) (P3 : Fld Z h0 x c2_ "count" "I" (.int (0 : Int32))) (P4 : Z.heap.size ≤ x) :
    Met l mn44 y23_ 2 none ws ({ frames := 1, cells := 1, slots := 16, locals := 12 } : Room) Z consts_1 vm0 h0 #[(.ref x), (.int (16 : Int32))] (fun rv vm h => ∃ (v : Addr), ∃ (kb : ClassId), rv = none ∧ Keep h0 h [x] ∧ Fld Z h x c2_ "value" "[B" (.ref v) ∧ Fld Z h x c2_ "coder" "B" (.int (0 : Int32)) ∧ Fld Z h x c2_ "count" "I" (.int (0 : Int32)) ∧ h0.size ≤ v ∧ Z.heap.size ≤ v ∧ Safe Z consts_1 vm h v ∧ Arv Z h v kb .byte (16 : Int32) [(.int (0 : Int32)), (.int (0 : Int32)), (.int (0 : Int32)), (.int (0 : Int32)), (.int (0 : Int32)), (.int (0 : Int32)), (.int (0 : Int32)), (.int (0 : Int32)), (.int (0 : Int32)), (.int (0 : Int32)), (.int (0 : Int32)), (.int (0 : Int32)), (.int (0 : Int32)), (.int (0 : Int32)), (.int (0 : Int32)), (.int (0 : Int32))] (.int (0 : Int32)) ∧ Exa Z h v "[B") := by
  obtain ⟨hw, hEL, ⟨zc, Scs, hzc⟩, ⟨fm, Sfm, hfm⟩, ⟨fe, ft, tt, Sfe, Efe, Fft, Sft⟩, hI0⟩ := id cx
  have hSA := own_SA hw
  refine Met.of_walk (a0 := a0) #[vr x, vi (16 : Int32)] (plainFor_of_name own_pn45) X00 hEL (fun m => by first | (simp [entryFrame, mkF, argsToLocals, Value.category]; done) | rfl) ?_
  intro p e s m below meth c vm hx hby hml hret hnm hC0 hW0
  have lt_x : h0.size > x := P0.lt
  refine uAN 1 hx hby d31 rfl rfl rfl ?_
  refine ginitO hx (ow hw 58 rfl) (ow hw 16 rfl) (ow hw 17 rfl) 4 (W := 0) (Nat.le_of_eq rfl) (by rw [hml]; rfl) (hb hby d32) rfl (by decide) (by decide) ?_
  refine ggetS (host := "") hx (Or.inl (ow hw 59 rfl)) Via.refl Scs 7 (hb hby d33) rfl ?_
  refine uN 10 hx hby d34 rfl ((if0 _ _).trans (feq hzc).1) ?_
  refine uAN 11 hx hby d35 rfl rfl rfl ?_
  refine uIN 12 hx hby d36 rfl rfl ?_
  refine gnewPE hx (ow hw 19 rfl) (n := (16 : Int32)) (by decide) (cap := 16) (by decide) (by decide) (ad := "[B") (by decide) 14 (hb hby d37) rfl (by decide) (by decide) ?_
  intro b2 h2 k2 g2 E2 C2 V2 A2 n2 L2
  have z2 := C2.2.1
  have V2 : Arv Z h2 b2 k2 .byte (16 : Int32) [(.int (0 : Int32)), (.int (0 : Int32)), (.int (0 : Int32)), (.int (0 : Int32)), (.int (0 : Int32)), (.int (0 : Int32)), (.int (0 : Int32)), (.int (0 : Int32)), (.int (0 : Int32)), (.int (0 : Int32)), (.int (0 : Int32)), (.int (0 : Int32)), (.int (0 : Int32)), (.int (0 : Int32)), (.int (0 : Int32)), (.int (0 : Int32))] (.int (0 : Int32)) := V2.pad (pad_rep [] (.int (0 : Int32)) 16)
  have lt_b2 : h2.size > b2 := V2.lt
  have f3 := (P1.ext E2)
  have f4 := (P0.ext E2)
  refine gputF (host := "") hx (Or.inl (ow hw 60 rfl)) Via.refl f3 f4 (Or.inl (ow hw 61 rfl)) (ow hw 47 rfl) (ty := (.array .byte)) (by decide) rfl rfl P4 (fun al => Safe.exa al f4 (by decide) (by decide)) 17 (hb hby d38) rfl ?_
  intro h5 W5 C5
  have z5 := C5.2.1
  have F5 := f3.same W5
  refine uAN 18 hx hby d39 rfl rfl rfl ?_
  refine uKc 19 (0 : Int32) hx hby d40 rfl rfl ?_
  have f6 := ((P2.ext E2).other W5 (Or.inr (slot_ne (Or.inl (ow hw 63 rfl)) (Or.inl (ow hw 61 rfl)) (by decide) (t := .byte) (t' := (.array .byte)) (by decide) (by decide))))
  have f7 := (f4.wr W5)
  refine gputF (host := "") hx (Or.inl (ow hw 62 rfl)) Via.refl f6 f7 (Or.inl (ow hw 63 rfl)) (ow hw 47 rfl) (ty := .byte) (by decide) rfl rfl P4 (fun al => Safe.exa al f7 (by decide) (by decide)) 22 (hb hby d41) rfl ?_
  intro h8 W8 C8
  have z8 := C8.2.1
  have F8 := f6.same W8
  refine uG 38 hx hby d42 (by decide) (by decide) ?_
  have f10 := (F5.other W8 (Or.inr (slot_ne (Or.inl (ow hw 61 rfl)) (Or.inl (ow hw 63 rfl)) (by decide) (t := (.array .byte)) (t' := .byte) (by decide) (by decide))))
  have f11 := (((P3.ext E2).other W5 (Or.inr (slot_ne (Or.inl (ow hw 91 rfl)) (Or.inl (ow hw 61 rfl)) (by decide) (t := .int) (t' := (.array .byte)) (by decide) (by decide)))).other W8 (Or.inr (slot_ne (Or.inl (ow hw 91 rfl)) (Or.inl (ow hw 63 rfl)) (by decide) (t := .int) (t' := .byte) (by decide) (by decide))))
  have f12 := (C8.safe (show h5.size > b2 by omega) (C5.safe (show h2.size > b2 by omega) L2))
  have f13 := ((V2.other W5 (Nat.ne_of_gt (by omega))).other W8 (Nat.ne_of_gt (by omega)))
  have f14 := ((A2.wr W5).wr W8)
  exact gretV hx hret (hb hby d43) (by decide) (by decide) (fun vq Cq => ⟨b2, k2, rfl, ((((Keep.refl h0 [x]).ext E2).wr W5 (Or.inl (List.mem_of_getElem? (i := 0) rfl))).wr W8 (Or.inl (List.mem_of_getElem? (i := 0) rfl))), f10, F8, f11, (by omega), n2, (Cq.safe (show h8.size > b2 by omega) f12), f13, f14⟩)
theorem d46 : decode y17_ 0 = .ok (.aload_n 0, 1) := by decide +kernel
theorem d47 : decode y17_ 1 = .ok (.bipush 16, 2) := by decide +kernel
theorem d48 : decode y17_ 3 = .ok (.invokespecial 1, 3) := by decide +kernel
theorem own_pd49 : parseMethodDescriptor "(I)V" = some ⟨[.int], none⟩ := by decide +kernel
theorem d50 : decode y17_ 6 = .ok (.return_, 1) := by decide +kernel
abbrev mn51 : MethodName := ⟨"java/lang/StringBuilder", "<init>", "()V"⟩
theorem own_pn52 : plainName "java/lang/StringBuilder" = true := by first | (simp [plainName, overriddenIn]; done) | decide +kernel
theorem own_sbinit (l : Launch) (Z : State) (a0 : Array Value) (cx : Ctx Z a0) (ws : List Jvm.Cond) (x : Addr) (v0 : Value) (c0 : Value) (vm0 : Vm) (h0 : Heap) (X00 : Ext Z.heap h0) (P0 : Exa Z h0 x c5_) (P1 : Fld Z h0 x c2_ "value" "[B" v0) (P2 : Fld Z h0 x c2_ "coder" "B" c0) (P3 : Fld Z h0 x c2_ "count" "I" (.int (0 : Int32))) (P4 : Z.heap.size ≤ x) :
    Met l mn51 y17_ 1 none ws ({ frames := 2, cells := 1, slots := 16, locals := 25 } : Room) Z consts_1 vm0 h0 #[(.ref x)] (fun rv vm h => ∃ (v : Addr), rv = none ∧ Keep h0 h [x] ∧ SBd Z h x v 16 ([] : List Int32) ∧ h0.size ≤ v ∧ Z.heap.size ≤ v ∧ Safe Z consts_1 vm h v ∧ Exa Z h v "[B") := by
  obtain ⟨hw, hEL, ⟨zc, Scs, hzc⟩, ⟨fm, Sfm, hfm⟩, ⟨fe, ft, tt, Sfe, Efe, Fft, Sft⟩, hI0⟩ := id cx
  have hSA := own_SA hw
  refine Met.of_walk (a0 := a0) #[vr x] (plainFor_of_name own_pn52) X00 hEL (fun m => by first | (simp [entryFrame, mkF, argsToLocals, Value.category]; done) | rfl) ?_
  intro p e s m below meth c vm hx hby hml hret hnm hC0 hW0
  have lt_x : h0.size > x := P0.lt
  refine uAN 1 hx hby d46 rfl rfl rfl ?_
  refine uKb 3 (16 : Int32) hx hby d47 rfl rfl ?_
  refine ginfo fun _ _ O1 => ?_
  refine gcallI (y := mn44) hx rfl (ow hw 52 rfl) (ow hw 53 rfl) (ow hw 57 rfl) (by decide) (fun hZ H hEL => Pay.of_met (W := 0) (own_asbinit l Z a0 cx [] (x) (v0) (c0) vm h0 O1 P0 P1 P2 P3 P4) (ow hw 57 rfl) (ow hw 56 rfl) (by decide) (by decide) hZ H hEL) (a := x) 6 (argsL := [(.int (16 : Int32))]) (rest := []) (lenOf own_pd49 rfl) rfl rfl (Nat.le_of_eq rfl) (by rw [hml]; rfl) (hb hby d48) rfl (by decide) (by decide) ?_
  rintro _ vm1 h1 C1 ⟨v1, kb1, rfl, K1, q1_0, q1_1, q1_2, q1_3, q1_4, q1_5, q1_6, q1_7⟩
  have z1 := C1.2.1
  have lt_v1 : h1.size > v1 := q1_6.lt
  refine gat0 ?_
  have f2 := (P0.keep K1)
  exact gretV hx hret (hb hby d50) (by decide) (by decide) (fun vq Cq => ⟨v1, rfl, ((Keep.refl h0 [x]).trans K1 (allS (Or.inl (List.mem_of_getElem? (i := 0) rfl)) all0)), ⟨f2, q1_0, q1_1, q1_2, ⟨_, _, q1_6, rfl⟩, bnil, by decide⟩, (by omega), q1_4, (Cq.safe (show h1.size > v1 by omega) q1_5), q1_7⟩)
theorem d53 : decode y8_ 0 = .ok (.getstatic 38, 3) := by decide +kernel
theorem d54 : decode y8_ 3 = .ok (.ifCond .eq 10, 3) := by decide +kernel
theorem d55 : decode y8_ 6 = .ok (.aload_n 0, 1) := by decide +kernel
theorem d56 : decode y8_ 7 = .ok (.getfield 15, 3) := by decide +kernel
theorem d57 : decode y8_ 10 = .ok (.goto 4, 3) := by decide +kernel
theorem d58 : decode y8_ 14 = .ok (.ireturn, 1) := by decide +kernel
abbrev mn59 : MethodName := ⟨"java/lang/String", "coder", "()B"⟩
theorem own_scoder (l : Launch) (Z : State) (a0 : Array Value) (cx : Ctx Z a0) (ws : List Jvm.Cond) (x : Addr) (t : Addr) (cs : List Int32) (vm0 : Vm) (h0 : Heap) (X00 : Ext Z.heap h0) (P0 : Str Z h0 x t cs) :
    Met l mn59 y8_ 1 (some .byte) ws ({ frames := 0, cells := 0, slots := 0, locals := 0 } : Room) Z consts_1 vm0 h0 #[(.ref x)] (fun rv vm h => rv = some (.int (0 : Int32)) ∧ h0 = h) := by
  obtain ⟨hw, hEL, ⟨zc, Scs, hzc⟩, ⟨fm, Sfm, hfm⟩, ⟨fe, ft, tt, Sfe, Efe, Fft, Sft⟩, hI0⟩ := id cx
  have hSA := own_SA hw
  refine Met.of_walk (a0 := a0) #[vr x] (plainFor_of_name own_pn14) X00 hEL (fun m => by first | (simp [entryFrame, mkF, argsToLocals, Value.category]; done) | rfl) ?_
  intro p e s m below meth c vm hx hby hml hret hnm hC0 hW0
  have lt_x : h0.size > x := P0.1.lt
  have lt_t : h0.size > t := P0.tlt
  refine ggetS (host := "") hx (Or.inl (ow hw 89 rfl)) Via.refl Scs 3 (hb hby d53) rfl ?_
  refine uN 6 hx hby d54 rfl ((if0 _ _).trans (feq hzc).1) ?_
  refine uAN 7 hx hby d55 rfl rfl rfl ?_
  refine ggetF (host := "") hx (Or.inl (ow hw 25 rfl)) Via.refl P0.2.1 10 (hb hby d56) rfl ?_
  refine uG 14 hx hby d57 (by decide) (by decide) ?_
  exact gretN (t := .byte) hx hret (by simp) (hb hby d58) (by decide) (by decide) (fun vq Cq => ⟨rfl, rfl⟩)
theorem d60 : decode y28_ 0 = .ok (.getstatic 18, 3) := by decide +kernel
theorem d61 : decode y28_ 3 = .ok (.ifCond .eq 18, 3) := by decide +kernel
theorem d62 : decode y28_ 6 = .ok (.aload_n 0, 1) := by decide +kernel
theorem d63 : decode y28_ 7 = .ok (.getfield 22, 3) := by decide +kernel
theorem d64 : decode y28_ 10 = .ok (.aload_n 1, 1) := by decide +kernel
theorem d65 : decode y28_ 11 = .ok (.invokevirtual 40, 3) := by decide +kernel
theorem own_pd66 : parseMethodDescriptor "()B" = some ⟨[], some .byte⟩ := by decide +kernel
theorem d67 : decode y28_ 14 = .ok (.if_icmp .eq 7, 3) := by decide +kernel
theorem d68 : decode y28_ 21 = .ok (.return_, 1) := by decide +kernel
abbrev mn69 : MethodName := ⟨"java/lang/AbstractStringBuilder", "inflateIfNeededFor", "(Ljava/lang/String;)V"⟩
theorem own_inflate (l : Launch) (Z : State) (a0 : Array Value) (cx : Ctx Z a0) (ws : List Jvm.Cond) (x : Addr) (y : Addr) (t : Addr) (cs : List Int32) (vm0 : Vm) (h0 : Heap) (X00 : Ext Z.heap h0) (P0 : Fld Z h0 x c2_ "coder" "B" (.int (0 : Int32))) (P1 : Str Z h0 y t cs) :
    Met l mn69 y28_ 2 none ws ({ frames := 1, cells := 0, slots := 0, locals := 13 } : Room) Z consts_1 vm0 h0 #[(.ref x), (.ref y)] (fun rv vm h => rv = none ∧ h0 = h) := by
  obtain ⟨hw, hEL, ⟨zc, Scs, hzc⟩, ⟨fm, Sfm, hfm⟩, ⟨fe, ft, tt, Sfe, Efe, Fft, Sft⟩, hI0⟩ := id cx
  have hSA := own_SA hw
  refine Met.of_walk (a0 := a0) #[vr x, vr y] (plainFor_of_name own_pn45) X00 hEL (fun m => by first | (simp [entryFrame, mkF, argsToLocals, Value.category]; done) | rfl) ?_
  intro p e s m below meth c vm hx hby hml hret hnm hC0 hW0
  have lt_x : h0.size > x := P0.lt
  have lt_y : h0.size > y := P1.1.lt
  have lt_t : h0.size > t := P1.tlt
  refine ggetS (host := "") hx (Or.inl (ow hw 59 rfl)) Via.refl Scs 3 (hb hby d60) rfl ?_
  refine uN 6 hx hby d61 rfl ((if0 _ _).trans (feq hzc).1) ?_
  refine uAN 7 hx hby d62 rfl rfl rfl ?_
  refine ggetF (host := "") hx (Or.inl (ow hw 62 rfl)) Via.refl P0 10 (hb hby d63) rfl ?_
  refine uAN 11 hx hby d64 rfl rfl rfl ?_
  refine ginfo fun _ _ O1 => ?_
  refine gcallV (y := mn59) (z := mn59) hx (ow hw 107 rfl) (ow hw 85 rfl) (nfSel (ow hw 87 rfl)) (ow hw 87 rfl) (ow hw 86 rfl) (by decide) (fun hZ H hEL => Pay.of_met (W := 1) (own_scoder l Z a0 cx [] (y) (t) (cs) vm h0 O1 P1) (ow hw 88 rfl) (ow hw 6 rfl) (by decide) (by decide) hZ H hEL) 14 (argsL := []) (rest := [(.int (0 : Int32))]) P1.1 (lenOf own_pd66 rfl) rfl rfl (Nat.le_of_eq rfl) (by rw [hml]; rfl) (hb hby d65) rfl (by decide) (by decide) ?_
  rintro _ vm1 h1 C1 ⟨rfl, rfl⟩
  have z1 := C1.2.1
  refine gat1 ?_
  refine uYc 21 hx hby d67 (teq (by decide)).1 (by decide) (by decide) ?_
  exact gretV hx hret (hb hby d68) (by decide) (by decide) (fun vq Cq => ⟨rfl, rfl⟩)
theorem d70 : decode y5_ 0 = .ok (.aload_n 0, 1) := by decide +kernel
theorem d71 : decode y5_ 1 = .ok (.invokevirtual 335, 3) := by decide +kernel
theorem d72 : decode y5_ 4 = .ok (.iload_n 3, 1) := by decide +kernel
theorem d73 : decode y5_ 5 = .ok (.if_icmp .ne 23, 3) := by decide +kernel
theorem d74 : decode y5_ 8 = .ok (.aload_n 0, 1) := by decide +kernel
theorem d75 : decode y5_ 9 = .ok (.getfield 9, 3) := by decide +kernel
theorem d76 : decode y5_ 12 = .ok (.iconst 0, 1) := by decide +kernel
theorem d77 : decode y5_ 13 = .ok (.aload_n 1, 1) := by decide +kernel
theorem d78 : decode y5_ 14 = .ok (.iload_n 2, 1) := by decide +kernel
theorem d79 : decode y5_ 15 = .ok (.iload_n 3, 1) := by decide +kernel
theorem d80 : decode y5_ 16 = .ok (.ishl, 1) := by decide +kernel
theorem d81 : decode y5_ 17 = .ok (.aload_n 0, 1) := by decide +kernel
theorem d82 : decode y5_ 18 = .ok (.getfield 9, 3) := by decide +kernel
theorem d83 : decode y5_ 21 = .ok (.arraylength, 1) := by decide +kernel
theorem d84 : decode y5_ 22 = .ok (.invokestatic 212, 3) := by decide +kernel
theorem d85 : decode y5_ 25 = .ok (.goto 18, 3) := by decide +kernel
theorem d86 : decode y5_ 43 = .ok (.return_, 1) := by decide +kernel
abbrev mn87 : MethodName := ⟨"java/lang/String", "getBytes", "([BIB)V"⟩
theorem own_getBytes (l : Launch) (Z : State) (a0 : Array Value) (cx : Ctx Z a0) (ws : List Jvm.Cond) (x : Addr) (b : Addr) (j : Nat) (t : Addr) (ds : List Int32) (kb : ClassId) (M : Nat) (vd : List Value) (vm0 : Vm) (h0 : Heap) (X00 : Ext Z.heap h0) (P0 : Str Z h0 x t ds) (P1 : Arv Z h0 b kb .byte (Int32.ofNat M) vd (.int (0 : Int32))) (P2 : Z.heap.size ≤ b) (P3 : Safe Z consts_1 vm0 h0 b) (hj : (j + ds.length ≤ M)) (hM : (M ≤ 4000)) (hvd : (vd.length = M)) :
    Met l mn87 y5_ 4 none ws ({ frames := 1, cells := 0, slots := 0, locals := 18 } : Room) Z consts_1 vm0 h0 #[(.ref x), (.ref b), (.int (Int32.ofNat j)), (.int (0 : Int32))] (fun rv vm h => rv = none ∧ Keep h0 h [b] ∧ Arv Z h b kb .byte (Int32.ofNat M) (vd.take j ++ ((lo8s ds).drop 0).take ds.length ++ vd.drop (j + ds.length)) (.int (0 : Int32)) ∧ Safe Z consts_1 vm h b) := by
  obtain ⟨hw, hEL, ⟨zc, Scs, hzc⟩, ⟨fm, Sfm, hfm⟩, ⟨fe, ft, tt, Sfe, Efe, Fft, Sft⟩, hI0⟩ := id cx
  have hSA := own_SA hw
  refine Met.of_walk (a0 := a0) #[vr x, vr b, vi (Int32.ofNat j), vi (0 : Int32)] (plainFor_of_name own_pn14) X00 hEL (fun m => by first | (simp [entryFrame, mkF, argsToLocals, Value.category]; done) | rfl) ?_
  intro p e s m below meth c vm hx hby hml hret hnm hC0 hW0
  have lt_x : h0.size > x := P0.1.lt
  have lt_t : h0.size > t := P0.tlt
  have lt_b : h0.size > b := P1.lt
  have L3 := hC0.safe lt_b P3
  obtain ⟨ks, eS⟩ := P0.2.2.2.1
  refine uAN 1 hx hby d70 rfl rfl rfl ?_
  refine ginfo fun _ _ O1 => ?_
  refine gcallV (y := mn59) (z := mn59) hx (ow hw 84 rfl) (ow hw 85 rfl) (nfSel (ow hw 87 rfl)) (ow hw 87 rfl) (ow hw 86 rfl) (by decide) (fun hZ H hEL => Pay.of_met (W := 0) (own_scoder l Z a0 cx [] (x) (t) (ds) vm h0 O1 P0) (ow hw 88 rfl) (ow hw 6 rfl) (by decide) (by decide) hZ H hEL) 4 (argsL := []) (rest := []) P0.1 (lenOf own_pd66 rfl) rfl rfl (Nat.le_of_eq rfl) (by rw [hml]; rfl) (hb hby d71) rfl (by decide) (by decide) ?_
  rintro _ vm1 h1 C1 ⟨rfl, rfl⟩
  have z1 := C1.2.1
  refine gat1 ?_
  refine uIN 5 hx hby d72 rfl rfl ?_
  refine uNc 8 hx hby d73 rfl (teq (by decide)).2 ?_
  refine uAN 9 hx hby d74 rfl rfl rfl ?_
  refine ggetF (host := "") hx (Or.inl (ow hw 24 rfl)) Via.refl P0.2.2.1 12 (hb hby d75) rfl ?_
  refine uKc 13 (0 : Int32) hx hby d76 rfl rfl ?_
  refine uAN 14 hx hby d77 rfl rfl rfl ?_
  refine uIN 15 hx hby d78 rfl rfl ?_
  refine uIN 16 hx hby d79 rfl rfl ?_
  refine gs (mkF m 17 #[vr x, vr b, vi (Int32.ofNat j), vi (0 : Int32)] [(.int ((Int32.ofNat j) <<< ((0 : Int32) &&& 31))), (.ref b), (.int (0 : Int32)), (.ref t)]) (fun _ _ A kq => XS.ishl A hx rfl (hb hby d80) rfl kq) ?_
  refine gat (mkF m 17 #[vr x, vr b, vi (Int32.ofNat j), vi (0 : Int32)] [(.int (Int32.ofNat j)), (.ref b), (.int (0 : Int32)), (.ref t)]) (by rw [shl0 (by omega)]) ?_
  refine uAN 18 hx hby d81 rfl rfl rfl ?_
  refine ggetF (host := "") hx (Or.inl (ow hw 24 rfl)) Via.refl P0.2.2.1 21 (hb hby d82) rfl ?_
  refine glen hx eS 22 (hb hby d83) rfl ?_
  have f3 := (C1.safe (show h0.size > b by omega) L3)
  refine gcopyN hx (ow hw 113 rfl) (ow hw 116 rfl) (ow hw 114 rfl) (ow hw 115 rfl) (0) (j) (ds.length) (ds.length) (M) eS P1 rfl rfl rfl rfl rfl (by omega) (by omega) (by omega) hj (lo8s_len _) hvd P2 (fun _ => f3) 25 (W := 0) (Nat.le_of_eq rfl) (by rw [hml]; rfl) (hb hby d84) rfl (by decide) (by decide) ?_
  intro h2 K2 C2 V2
  have z2 := C2.2.1
  rw [show (0 : Nat) = 0 from rfl] at V2
  refine uG 43 hx hby d85 (by decide) (by decide) ?_
  have f5 := (C2.safe (show h0.size > b by omega) f3)
  exact gretV hx hret (hb hby d86) (by decide) (by decide) (fun vq Cq => ⟨rfl, ((Keep.refl h0 [b]).trans K2 (allS (Or.inl (List.mem_of_getElem? (i := 0) rfl)) all0)), V2, (Cq.safe (show h2.size > b by omega) f5)⟩)
theorem d88 : decode y29_ 0 = .ok (.aload_n 0, 1) := by decide +kernel
theorem d89 : decode y29_ 1 = .ok (.aload_n 2, 1) := by decide +kernel
theorem d90 : decode y29_ 2 = .ok (.invokevirtual 397, 3) := by decide +kernel
theorem own_pd91 : parseMethodDescriptor "(Ljava/lang/String;)V" = some ⟨[(.object "java/lang/String")], none⟩ := by decide +kernel
theorem d92 : decode y29_ 5 = .ok (.aload_n 2, 1) := by decide +kernel
theorem d93 : decode y29_ 6 = .ok (.aload_n 0, 1) := by decide +kernel
theorem d94 : decode y29_ 7 = .ok (.getfield 15, 3) := by decide +kernel
theorem d95 : decode y29_ 10 = .ok (.iload_n 1, 1) := by decide +kernel
theorem d96 : decode y29_ 11 = .ok (.aload_n 0, 1) := by decide +kernel
theorem d97 : decode y29_ 12 = .ok (.getfield 22, 3) := by decide +kernel
theorem d98 : decode y29_ 15 = .ok (.invokevirtual 399, 3) := by decide +kernel
theorem own_pd99 : parseMethodDescriptor "([BIB)V" = some ⟨[(.array .byte), .int, .byte], none⟩ := by decide +kernel
theorem d100 : decode y29_ 18 = .ok (.return_, 1) := by decide +kernel
abbrev mn101 : MethodName := ⟨"java/lang/AbstractStringBuilder", "putStringAt", "(ILjava/lang/String;)V"⟩
theorem own_putAt (l : Launch) (Z : State) (a0 : Array Value) (cx : Ctx Z a0) (ws : List Jvm.Cond) (x : Addr) (j : Nat) (y : Addr) (b : Addr) (t : Addr) (ds : List Int32) (kb : ClassId) (M : Nat) (vd : List Value) (vm0 : Vm) (h0 : Heap) (X00 : Ext Z.heap h0) (P0 : Exa Z h0 x c5_) (P1 : Fld Z h0 x c2_ "value" "[B" (.ref b)) (P2 : Fld Z h0 x c2_ "coder" "B" (.int (0 : Int32))) (P3 : Str Z h0 y t ds) (P4 : Arv Z h0 b kb .byte (Int32.ofNat M) vd (.int (0 : Int32))) (P5 : Z.heap.size ≤ b) (P6 : Safe Z consts_1 vm0 h0 b) (hj : (j + ds.length ≤ M)) (hM : (M ≤ 4000)) (hvd : (vd.length = M)) :
    Met l mn101 y29_ 3 none ws ({ frames := 2, cells := 0, slots := 0, locals := 33 } : Room) Z consts_1 vm0 h0 #[(.ref x), (.int (Int32.ofNat j)), (.ref y)] (fun rv vm h => rv = none ∧ Keep h0 h [b] ∧ Arv Z h b kb .byte (Int32.ofNat M) (vd.take j ++ ((lo8s ds).drop 0).take ds.length ++ vd.drop (j + ds.length)) (.int (0 : Int32)) ∧ Safe Z consts_1 vm h b) := by
  obtain ⟨hw, hEL, ⟨zc, Scs, hzc⟩, ⟨fm, Sfm, hfm⟩, ⟨fe, ft, tt, Sfe, Efe, Fft, Sft⟩, hI0⟩ := id cx
  have hSA := own_SA hw
  refine Met.of_walk (a0 := a0) #[vr x, vi (Int32.ofNat j), vr y] (plainFor_of_name own_pn45) X00 hEL (fun m => by first | (simp [entryFrame, mkF, argsToLocals, Value.category]; done) | rfl) ?_
  intro p e s m below meth c vm hx hby hml hret hnm hC0 hW0
  have lt_x : h0.size > x := P0.lt
  have lt_y : h0.size > y := P3.1.lt
  have lt_t : h0.size > t := P3.tlt
  have lt_b : h0.size > b := P4.lt
  have L6 := hC0.safe lt_b P6
  refine uAN 1 hx hby d88 rfl rfl rfl ?_
  refine uAN 2 hx hby d89 rfl rfl rfl ?_
  refine ginfo fun _ _ O1 => ?_
  refine gcallQ (y := mn69) hx (ow hw 102 rfl) (ow hw 103 rfl) (ow hw 105 rfl) (ow hw 104 rfl) (ow hw 106 rfl) (by decide) (fun hZ H hEL => Pay.of_met (W := 0) (own_inflate l Z a0 cx [] (x) (y) (t) (ds) vm h0 O1 P2 P3) (ow hw 106 rfl) (ow hw 56 rfl) (by decide) (by decide) hZ H hEL) 5 (argsL := [(.ref y)]) (rest := []) P0 (lenOf own_pd91 rfl) rfl rfl (Nat.le_of_eq rfl) (by rw [hml]; rfl) (hb hby d90) rfl (by decide) (by decide) ?_
  rintro _ vm1 h1 C1 ⟨rfl, rfl⟩
  have z1 := C1.2.1
  refine gat0 ?_
  refine uAN 6 hx hby d92 rfl rfl rfl ?_
  refine uAN 7 hx hby d93 rfl rfl rfl ?_
  refine ggetF (host := "") hx (Or.inl (ow hw 60 rfl)) Via.refl P1 10 (hb hby d94) rfl ?_
  refine uIN 11 hx hby d95 rfl rfl ?_
  refine uAN 12 hx hby d96 rfl rfl rfl ?_
  refine ggetF (host := "") hx (Or.inl (ow hw 62 rfl)) Via.refl P2 15 (hb hby d97) rfl ?_
  have f3 := (C1.safe (show h0.size > b by omega) L6)
  refine ginfo fun _ _ O2 => ?_
  refine gcallV (y := mn87) (z := mn87) hx (ow hw 108 rfl) (ow hw 109 rfl) (nfSel (ow hw 111 rfl)) (ow hw 111 rfl) (ow hw 110 rfl) (by decide) (fun hZ H hEL => Pay.of_met (W := 0) (own_getBytes l Z a0 cx [] (y) (b) (j) (t) (ds) (kb) (M) (vd) vm1 h0 O2 P3 P4 P5 f3 (by first | assumption | decide | omega) (by first | assumption | decide | omega) (by first | assumption | decide | omega)) (ow hw 112 rfl) (ow hw 6 rfl) (by decide) (by decide) hZ H hEL) 18 (argsL := [(.ref b), (.int (Int32.ofNat j)), (.int (0 : Int32))]) (rest := []) P3.1 (lenOf own_pd99 rfl) rfl rfl (Nat.le_of_eq rfl) (by rw [hml]; rfl) (hb hby d98) rfl (by decide) (by decide) ?_
  rintro _ vm2 h2 C2 ⟨rfl, K2, q2_0, q2_1⟩
  have z2 := C2.2.1
  refine gat0 ?_
  exact gretV hx hret (hb hby d100) (by decide) (by decide) (fun vq Cq => ⟨rfl, ((Keep.refl h0 [b]).trans K2 (allS (Or.inl (List.mem_of_getElem? (i := 0) rfl)) all0)), q2_0, (Cq.safe (show h2.size > b by omega) q2_1)⟩)
theorem d102 : decode y30_ 0 = .ok (.aload_n 0, 1) := by decide +kernel
theorem d103 : decode y30_ 1 = .ok (.getfield 15, 3) := by decide +kernel
theorem d104 : decode y30_ 4 = .ok (.arraylength, 1) := by decide +kernel
theorem d105 : decode y30_ 5 = .ok (.aload_n 0, 1) := by decide +kernel
theorem d106 : decode y30_ 6 = .ok (.getfield 22, 3) := by decide +kernel
theorem d107 : decode y30_ 9 = .ok (.ishr, 1) := by decide +kernel
theorem d108 : decode y30_ 10 = .ok (.istore_n 2, 1) := by decide +kernel
theorem d109 : decode y30_ 11 = .ok (.iload_n 1, 1) := by decide +kernel
theorem d110 : decode y30_ 12 = .ok (.iload_n 2, 1) := by decide +kernel
theorem d111 : decode y30_ 13 = .ok (.isub, 1) := by decide +kernel
theorem d112 : decode y30_ 14 = .ok (.ifCond .le 24, 3) := by decide +kernel
theorem d113 : decode y30_ 38 = .ok (.return_, 1) := by decide +kernel
abbrev mn114 : MethodName := ⟨"java/lang/AbstractStringBuilder", "ensureCapacityInternal", "(I)V"⟩
theorem own_ensure (l : Launch) (Z : State) (a0 : Array Value) (cx : Ctx Z a0) (ws : List Jvm.Cond) (x : Addr) (k : Nat) (v : Addr) (kb : ClassId) (M : Nat) (vd : List Value) (vm0 : Vm) (h0 : Heap) (X00 : Ext Z.heap h0) (P0 : Fld Z h0 x c2_ "value" "[B" (.ref v)) (P1 : Fld Z h0 x c2_ "coder" "B" (.int (0 : Int32))) (P2 : Arv Z h0 v kb .byte (Int32.ofNat M) vd (.int (0 : Int32))) (hk : (k ≤ M)) (hM : (M ≤ 4000)) :
    Met l mn114 y30_ 3 none ws ({ frames := 0, cells := 0, slots := 0, locals := 0 } : Room) Z consts_1 vm0 h0 #[(.ref x), (.int (Int32.ofNat k))] (fun rv vm h => rv = none ∧ h0 = h) := by
  obtain ⟨hw, hEL, ⟨zc, Scs, hzc⟩, ⟨fm, Sfm, hfm⟩, ⟨fe, ft, tt, Sfe, Efe, Fft, Sft⟩, hI0⟩ := id cx
  have hSA := own_SA hw
  refine Met.of_walk (a0 := a0) #[vr x, vi (Int32.ofNat k), un] (plainFor_of_name own_pn45) X00 hEL (fun m => by first | (simp [entryFrame, mkF, argsToLocals, Value.category]; done) | rfl) ?_
  intro p e s m below meth c vm hx hby hml hret hnm hC0 hW0
  have lt_x : h0.size > x := P0.lt
  have lt_v : h0.size > v := P2.lt
  refine uAN 1 hx hby d102 rfl rfl rfl ?_
  refine ggetF (host := "") hx (Or.inl (ow hw 60 rfl)) Via.refl P0 4 (hb hby d103) rfl ?_
  refine glen hx P2 5 (hb hby d104) rfl ?_
  refine uAN 6 hx hby d105 rfl rfl rfl ?_
  refine ggetF (host := "") hx (Or.inl (ow hw 62 rfl)) Via.refl P1 9 (hb hby d106) rfl ?_
  refine gs (mkF m 10 #[vr x, vi (Int32.ofNat k), un] [(.int ((Int32.ofNat M) >>> ((0 : Int32) &&& 31)))]) (fun _ _ A kq => XS.ishr A hx rfl (hb hby d107) rfl kq) ?_
  refine gat (mkF m 10 #[vr x, vi (Int32.ofNat k), un] [(.int (Int32.ofNat M))]) (by rw [shr0 hM]) ?_
  refine uSIN 11 #[vr x, vi (Int32.ofNat k), vi (Int32.ofNat M)] hx hby d108 rfl rfl ?_
  refine uIN 12 hx hby d109 rfl rfl ?_
  refine uIN 13 hx hby d110 rfl rfl ?_
  refine uisub 14 ((Int32.ofNat k) - (Int32.ofNat M)) hx hby d111 rfl rfl ?_
  refine uY 38 hx hby d112 ((if0 _ _).trans (flt (subLe (by omega) hM hk)).2.2.2) (by decide) (by decide) ?_
  exact gretV hx hret (hb hby d113) (by decide) (by decide) (fun vq Cq => ⟨rfl, rfl⟩)
theorem d115 : decode y22_ 0 = .ok (.aload_n 1, 1) := by decide +kernel
theorem d116 : decode y22_ 1 = .ok (.ifnonnull 8, 3) := by decide +kernel
theorem d117 : decode y22_ 9 = .ok (.aload_n 1, 1) := by decide +kernel
theorem d118 : decode y22_ 10 = .ok (.invokevirtual 32, 3) := by decide +kernel
theorem own_pd119 : parseMethodDescriptor "()I" = some ⟨[], some .int⟩ := by decide +kernel
abbrev mn120 : MethodName := ⟨"java/lang/String", "length", "()I"⟩
theorem d121 : decode y22_ 13 = .ok (.istore_n 2, 1) := by decide +kernel
theorem d122 : decode y22_ 14 = .ok (.aload_n 0, 1) := by decide +kernel
theorem d123 : decode y22_ 15 = .ok (.aload_n 0, 1) := by decide +kernel
theorem d124 : decode y22_ 16 = .ok (.getfield 79, 3) := by decide +kernel
theorem d125 : decode y22_ 19 = .ok (.iload_n 2, 1) := by decide +kernel
theorem d126 : decode y22_ 20 = .ok (.iadd, 1) := by decide +kernel
theorem d127 : decode y22_ 21 = .ok (.invokevirtual 100, 3) := by decide +kernel
theorem d128 : decode y22_ 24 = .ok (.aload_n 0, 1) := by decide +kernel
theorem d129 : decode y22_ 25 = .ok (.aload_n 0, 1) := by decide +kernel
theorem d130 : decode y22_ 26 = .ok (.getfield 79, 3) := by decide +kernel
theorem d131 : decode y22_ 29 = .ok (.aload_n 1, 1) := by decide +kernel
theorem d132 : decode y22_ 30 = .ok (.invokevirtual 208, 3) := by decide +kernel
theorem own_pd133 : parseMethodDescriptor "(ILjava/lang/String;)V" = some ⟨[.int, (.object "java/lang/String")], none⟩ := by decide +kernel
theorem d134 : decode y22_ 33 = .ok (.aload_n 0, 1) := by decide +kernel
theorem d135 : decode y22_ 34 = .ok (.dup, 1) := by decide +kernel
theorem d136 : decode y22_ 35 = .ok (.getfield 79, 3) := by decide +kernel
theorem d137 : decode y22_ 38 = .ok (.iload_n 2, 1) := by decide +kernel
theorem d138 : decode y22_ 39 = .ok (.iadd, 1) := by decide +kernel
theorem d139 : decode y22_ 40 = .ok (.putfield 79, 3) := by decide +kernel
theorem d140 : decode y22_ 43 = .ok (.aload_n 0, 1) := by decide +kernel
theorem d141 : decode y22_ 44 = .ok (.areturn, 1) := by decide +kernel
abbrev mn142 : MethodName := ⟨"java/lang/AbstractStringBuilder", "append", "(Ljava/lang/String;)Ljava/lang/AbstractStringBuilder;"⟩
theorem own_asbappend (l : Launch) (Z : State) (a0 : Array Value) (cx : Ctx Z a0) (ws : List Jvm.Cond) (b : Addr) (y : Addr) (v : Addr) (cap : Nat) (cs : List Int32) (t : Addr) (ds : List Int32) (vm0 : Vm) (h0 : Heap) (X00 : Ext Z.heap h0) (P0 : SBd Z h0 b v cap cs) (P1 : Str Z h0 y t ds) (P2 : Z.heap.size ≤ b) (P3 : Z.heap.size ≤ v) (P4 : Safe Z consts_1 vm0 h0 v) (hcd : (cs.length + ds.length ≤ cap)) (hvt : (v ≠ t)) :
    Met l mn142 y22_ 3 (some (.object c2_)) ws ({ frames := 3, cells := 0, slots := 0, locals := 47 } : Room) Z consts_1 vm0 h0 #[(.ref b), (.ref y)] (fun rv vm h => rv = some (.ref b) ∧ Keep h0 h [b, v] ∧ SBd Z h b v cap (cs ++ ds) ∧ Safe Z consts_1 vm h v) := by
  obtain ⟨hw, hEL, ⟨zc, Scs, hzc⟩, ⟨fm, Sfm, hfm⟩, ⟨fe, ft, tt, Sfe, Efe, Fft, Sft⟩, hI0⟩ := id cx
  have hSA := own_SA hw
  refine Met.of_walk (a0 := a0) #[vr b, vr y, un] (plainFor_of_name own_pn45) X00 hEL (fun m => by first | (simp [entryFrame, mkF, argsToLocals, Value.category]; done) | rfl) ?_
  intro p e s m below meth c vm hx hby hml hret hnm hC0 hW0
  have lt_v : h0.size > v := P0.vlt
  have lt_b : h0.size > b := P0.1.lt
  have lt_y : h0.size > y := P1.1.lt
  have lt_t : h0.size > t := P1.tlt
  have L4 := hC0.safe lt_v P4
  obtain ⟨eE, eV, eC, eN, ⟨kz, zs, eA, ez⟩, eb, ecap⟩ := P0
  refine uAN 1 hx hby d115 rfl rfl rfl ?_
  refine uY1 9 hx hby d116 (by decide) (by decide) ?_
  refine uAN 10 hx hby d117 rfl rfl rfl ?_
  refine ginfo fun _ _ O1 => ?_
  refine gcallV (y := mn120) (z := mn120) hx (ow hw 79 rfl) (ow hw 80 rfl) (nfSel (ow hw 82 rfl)) (ow hw 82 rfl) (ow hw 81 rfl) (by decide) (fun hZ H hEL => own_payLen (W := 0) (own_wLen hw) (ow hw 5 rfl) Scs hzc O1 (N := (Int32.ofNat (ds).length)) P1 rfl (by decide) (by decide) hZ H hEL) 13 (argsL := []) (rest := []) P1.1 (lenOf own_pd119 rfl) rfl rfl (Nat.le_of_eq rfl) (by rw [hml]; rfl) (hb hby d118) rfl (by decide) (by decide) ?_
  rintro _ vm1 h1 C1 ⟨rfl, rfl⟩
  have z1 := C1.2.1
  refine gat1 ?_
  refine uSIN 14 #[vr b, vr y, vi (Int32.ofNat (ds).length)] hx hby d121 rfl rfl ?_
  refine uAN 15 hx hby d122 rfl rfl rfl ?_
  refine uAN 16 hx hby d123 rfl rfl rfl ?_
  refine ggetF (host := "") hx (Or.inl (ow hw 90 rfl)) Via.refl eN 19 (hb hby d124) rfl ?_
  refine uIN 20 hx hby d125 rfl rfl ?_
  refine uiadd 21 ((Int32.ofNat (cs).length) + (Int32.ofNat (ds).length)) hx hby d126 rfl rfl ?_
  refine gat (mkF m 21 #[vr b, vr y, vi (Int32.ofNat (ds).length)] [(.int (Int32.ofNat (cs.length + ds.length))), (.ref b)]) (by rw [addOf (by omega)]) ?_
  refine ginfo fun _ _ O2 => ?_
  refine gcallQ (y := mn114) hx (ow hw 92 rfl) (ow hw 93 rfl) (ow hw 95 rfl) (ow hw 94 rfl) (ow hw 96 rfl) (by decide) (fun hZ H hEL => Pay.of_met (W := 0) (own_ensure l Z a0 cx [] (b) (cs.length + ds.length) (v) (kz) (cap) ((lo8s cs ++ zs)) vm1 h0 O2 eV eC eA (by first | assumption | decide | omega) (by first | assumption | decide | omega)) (ow hw 96 rfl) (ow hw 56 rfl) (by decide) (by decide) hZ H hEL) 24 (argsL := [(.int (Int32.ofNat (cs.length + ds.length)))]) (rest := []) eE (lenOf own_pd49 rfl) rfl rfl (Nat.le_of_eq rfl) (by rw [hml]; rfl) (hb hby d127) rfl (by decide) (by decide) ?_
  rintro _ vm2 h2 C2 ⟨rfl, rfl⟩
  have z2 := C2.2.1
  refine gat0 ?_
  refine uAN 25 hx hby d128 rfl rfl rfl ?_
  refine uAN 26 hx hby d129 rfl rfl rfl ?_
  refine ggetF (host := "") hx (Or.inl (ow hw 90 rfl)) Via.refl eN 29 (hb hby d130) rfl ?_
  refine uAN 30 hx hby d131 rfl rfl rfl ?_
  have f4 := (C2.safe (show h0.size > v by omega) (C1.safe (show h0.size > v by omega) L4))
  refine ginfo fun _ _ O3 => ?_
  refine gcallQ (y := mn101) hx (ow hw 97 rfl) (ow hw 98 rfl) (ow hw 100 rfl) (ow hw 99 rfl) (ow hw 101 rfl) (by decide) (fun hZ H hEL => Pay.of_met (W := 0) (own_putAt l Z a0 cx [] (b) (cs.length) (y) (v) (t) (ds) (kz) (cap) ((lo8s cs ++ zs)) vm2 h0 O3 eE eV eC P1 eA P3 f4 (by first | assumption | decide | omega) (by first | assumption | decide | omega) (by simp only [List.length_append, lo8s_len]; exact ez)) (ow hw 101 rfl) (ow hw 56 rfl) (by decide) (by decide) hZ H hEL) 33 (argsL := [(.int (Int32.ofNat (cs).length)), (.ref y)]) (rest := []) eE (lenOf own_pd133 rfl) rfl rfl (Nat.le_of_eq rfl) (by rw [hml]; rfl) (hb hby d132) rfl (by decide) (by decide) ?_
  rintro _ vm3 h3 C3 ⟨rfl, K3, q3_0, q3_1⟩
  have z3 := C3.2.1
  refine gat0 ?_
  have VL := q3_0
  rw [put_list] at VL
  refine uAN 34 hx hby d134 rfl rfl rfl ?_
  refine uD 35 hx hby d135 rfl rfl ?_
  have f5 := (eN.keep K3 (ninS (Exa.neArv (eE.keep K3) VL (ow hw 47 rfl)) nin0))
  refine ggetF (host := "") hx (Or.inl (ow hw 90 rfl)) Via.refl f5 38 (hb hby d136) rfl ?_
  refine uIN 39 hx hby d137 rfl rfl ?_
  refine uiadd 40 ((Int32.ofNat (cs).length) + (Int32.ofNat (ds).length)) hx hby d138 rfl rfl ?_
  refine gat (mkF m 40 #[vr b, vr y, vi (Int32.ofNat (ds).length)] [(.int (Int32.ofNat (cs.length + ds.length))), (.ref b)]) (by rw [addOf (by omega)]) ?_
  have f6 := (eE.keep K3)
  refine gputF (host := "") hx (Or.inl (ow hw 90 rfl)) Via.refl f5 f6 (Or.inl (ow hw 91 rfl)) (ow hw 47 rfl) (ty := .int) (by decide) rfl rfl P2 (fun al => Safe.exa al f6 (by decide) (by decide)) 43 (hb hby d139) rfl ?_
  intro h7 W7 C7
  have z7 := C7.2.1
  have F7 := f5.same W7
  refine uAN 44 hx hby d140 rfl rfl rfl ?_
  have N8 : Fld Z h7 b c2_ "count" "I" (.int (Int32.ofNat (cs ++ ds).length)) := by rw [List.length_append]; exact F7
  have f9 := (f6.wr W7)
  have f10 := ((eV.keep K3 (ninS (Exa.neArv f6 VL (ow hw 47 rfl)) nin0)).other W7 (Or.inr (slot_ne (Or.inl (ow hw 61 rfl)) (Or.inl (ow hw 91 rfl)) (by decide) (t := (.array .byte)) (t' := .int) (by decide) (by decide))))
  have f11 := ((eC.keep K3 (ninS (Exa.neArv f6 VL (ow hw 47 rfl)) nin0)).other W7 (Or.inr (slot_ne (Or.inl (ow hw 63 rfl)) (Or.inl (ow hw 91 rfl)) (by decide) (t := .byte) (t' := .int) (by decide) (by decide))))
  have f12 := (VL.other W7 (Ne.symm (Exa.neArv f6 VL (ow hw 47 rfl))))
  have f14 := (C7.safe (show h3.size > v by omega) q3_1)
  exact gretA hx hret rfl rfl (hb hby d141) (by decide) (by decide) (fun vq Cq => ⟨rfl, (((Keep.refl h0 [b, v]).trans K3 (allS (Or.inl (List.mem_of_getElem? (i := 1) rfl)) all0)).wr W7 (Or.inl (List.mem_of_getElem? (i := 0) rfl))), ⟨f9, f10, f11, N8, ⟨_, _, f12, by simp only [List.length_append, List.length_drop]; omega⟩, bapp eb P1.2.2.2.2.1, ecap⟩, (Cq.safe (show h7.size > v by omega) f14)⟩)
theorem d143 : decode y19_ 0 = .ok (.aload_n 0, 1) := by decide +kernel
theorem d144 : decode y19_ 1 = .ok (.aload_n 1, 1) := by decide +kernel
theorem d145 : decode y19_ 2 = .ok (.invokespecial 29, 3) := by decide +kernel
theorem own_pd146 : parseMethodDescriptor "(Ljava/lang/String;)Ljava/lang/AbstractStringBuilder;" = some ⟨[(.object "java/lang/String")], some (.object "java/lang/AbstractStringBuilder")⟩ := by decide +kernel
theorem d147 : decode y19_ 5 = .ok (.pop, 1) := by decide +kernel
theorem d148 : decode y19_ 6 = .ok (.aload_n 0, 1) := by decide +kernel
theorem d149 : decode y19_ 7 = .ok (.areturn, 1) := by decide +kernel
abbrev mn150 : MethodName := ⟨"java/lang/StringBuilder", "append", "(Ljava/lang/String;)Ljava/lang/StringBuilder;"⟩
theorem own_sbappend (l : Launch) (Z : State) (a0 : Array Value) (cx : Ctx Z a0) (ws : List Jvm.Cond) (b : Addr) (y : Addr) (v : Addr) (cap : Nat) (cs : List Int32) (t : Addr) (ds : List Int32) (vm0 : Vm) (h0 : Heap) (X00 : Ext Z.heap h0) (P0 : SBd Z h0 b v cap cs) (P1 : Str Z h0 y t ds) (P2 : Z.heap.size ≤ b) (P3 : Z.heap.size ≤ v) (P4 : Safe Z consts_1 vm0 h0 v) (hcd : (cs.length + ds.length ≤ cap)) (hvt : (v ≠ t)) :
    Met l mn150 y19_ 2 (some (.object c5_)) ws ({ frames := 4, cells := 0, slots := 0, locals := 61 } : Room) Z consts_1 vm0 h0 #[(.ref b), (.ref y)] (fun rv vm h => rv = some (.ref b) ∧ Keep h0 h [b, v] ∧ SBd Z h b v cap (cs ++ ds) ∧ Safe Z consts_1 vm h v) := by
  obtain ⟨hw, hEL, ⟨zc, Scs, hzc⟩, ⟨fm, Sfm, hfm⟩, ⟨fe, ft, tt, Sfe, Efe, Fft, Sft⟩, hI0⟩ := id cx
  have hSA := own_SA hw
  refine Met.of_walk (a0 := a0) #[vr b, vr y] (plainFor_of_name own_pn52) X00 hEL (fun m => by first | (simp [entryFrame, mkF, argsToLocals, Value.category]; done) | rfl) ?_
  intro p e s m below meth c vm hx hby hml hret hnm hC0 hW0
  have lt_v : h0.size > v := P0.vlt
  have lt_b : h0.size > b := P0.1.lt
  have lt_y : h0.size > y := P1.1.lt
  have lt_t : h0.size > t := P1.tlt
  have L4 := hC0.safe lt_v P4
  have eE := P0.1
  refine uAN 1 hx hby d143 rfl rfl rfl ?_
  refine uAN 2 hx hby d144 rfl rfl rfl ?_
  refine ginfo fun _ _ O1 => ?_
  refine gcallU (y := mn142) hx (ow hw 74 rfl) (smOf (y := mn142) (ow hw 75 rfl) (nfSame (y' := mn114) (ow hw 95 rfl) (ow hw 93 rfl) rfl) (by decide)) (ow hw 75 rfl) (ow hw 76 rfl) (by decide) (ow hw 78 rfl) (fun hZ H hEL => Pay.of_met (W := 0) (own_asbappend l Z a0 cx [] (b) (y) (v) (cap) (cs) (t) (ds) vm h0 O1 P0 P1 P2 P3 L4 (by first | assumption | decide | omega) (by first | assumption | decide | omega)) (ow hw 78 rfl) (ow hw 56 rfl) (by decide) (by decide) hZ H hEL) 5 (argsL := [(.ref y)]) (rest := []) (Ins.self eE) (lenOf own_pd146 rfl) rfl rfl (Nat.le_of_eq rfl) (by rw [hml]; rfl) (hb hby d145) rfl (by decide) (by decide) ?_
  rintro _ vm1 h1 C1 ⟨rfl, K1, q1_0, q1_1⟩
  have z1 := C1.2.1
  refine gat1 ?_
  refine uP 6 hx hby d147 rfl rfl ?_
  refine uAN 7 hx hby d148 rfl rfl rfl ?_
  exact gretA hx hret rfl rfl (hb hby d149) (by decide) (by decide) (fun vq Cq => ⟨rfl, ((Keep.refl h0 [b, v]).trans K1 (allS (Or.inl (List.mem_of_getElem? (i := 0) rfl)) (allS (Or.inl (List.mem_of_getElem? (i := 1) rfl)) all0))), q1_0, (Cq.safe (show h1.size > v by omega) q1_1)⟩)
theorem d151 : decode y25_ 0 = .ok (.aload_n 0, 1) := by decide +kernel
theorem d152 : decode y25_ 1 = .ok (.getfield 15, 3) := by decide +kernel
theorem d153 : decode y25_ 4 = .ok (.areturn, 1) := by decide +kernel
abbrev mn154 : MethodName := ⟨"java/lang/AbstractStringBuilder", "getValue", "()[B"⟩
theorem own_getValue (l : Launch) (Z : State) (a0 : Array Value) (cx : Ctx Z a0) (ws : List Jvm.Cond) (x : Addr) (v : Addr) (vm0 : Vm) (h0 : Heap) (X00 : Ext Z.heap h0) (P0 : Fld Z h0 x c2_ "value" "[B" (.ref v)) :
    Met l mn154 y25_ 1 (some (.array .byte)) ws ({ frames := 0, cells := 0, slots := 0, locals := 0 } : Room) Z consts_1 vm0 h0 #[(.ref x)] (fun rv vm h => rv = some (.ref v) ∧ h0 = h) := by
  obtain ⟨hw, hEL, ⟨zc, Scs, hzc⟩, ⟨fm, Sfm, hfm⟩, ⟨fe, ft, tt, Sfe, Efe, Fft, Sft⟩, hI0⟩ := id cx
  have hSA := own_SA hw
  refine Met.of_walk (a0 := a0) #[vr x] (plainFor_of_name own_pn45) X00 hEL (fun m => by first | (simp [entryFrame, mkF, argsToLocals, Value.category]; done) | rfl) ?_
  intro p e s m below meth c vm hx hby hml hret hnm hC0 hW0
  have lt_x : h0.size > x := P0.lt
  refine uAN 1 hx hby d151 rfl rfl rfl ?_
  refine ggetF (host := "") hx (Or.inl (ow hw 60 rfl)) Via.refl P0 4 (hb hby d152) rfl ?_
  exact gretA hx hret rfl rfl (hb hby d153) (by decide) (by decide) (fun vq Cq => ⟨rfl, rfl⟩)
theorem d155 : decode y27_ 0 = .ok (.aload_n 0, 1) := by decide +kernel
theorem d156 : decode y27_ 1 = .ok (.getfield 79, 3) := by decide +kernel
theorem d157 : decode y27_ 4 = .ok (.ireturn, 1) := by decide +kernel
abbrev mn158 : MethodName := ⟨"java/lang/AbstractStringBuilder", "length", "()I"⟩
theorem own_asblen (l : Launch) (Z : State) (a0 : Array Value) (cx : Ctx Z a0) (ws : List Jvm.Cond) (x : Addr) (n : Int32) (vm0 : Vm) (h0 : Heap) (X00 : Ext Z.heap h0) (P0 : Fld Z h0 x c2_ "count" "I" (.int n)) :
    Met l mn158 y27_ 1 (some .int) ws ({ frames := 0, cells := 0, slots := 0, locals := 0 } : Room) Z consts_1 vm0 h0 #[(.ref x)] (fun rv vm h => rv = some (.int n) ∧ h0 = h) := by
  obtain ⟨hw, hEL, ⟨zc, Scs, hzc⟩, ⟨fm, Sfm, hfm⟩, ⟨fe, ft, tt, Sfe, Efe, Fft, Sft⟩, hI0⟩ := id cx
  have hSA := own_SA hw
  refine Met.of_walk (a0 := a0) #[vr x] (plainFor_of_name own_pn45) X00 hEL (fun m => by first | (simp [entryFrame, mkF, argsToLocals, Value.category]; done) | rfl) ?_
  intro p e s m below meth c vm hx hby hml hret hnm hC0 hW0
  have lt_x : h0.size > x := P0.lt
  refine uAN 1 hx hby d155 rfl rfl rfl ?_
  refine ggetF (host := "") hx (Or.inl (ow hw 90 rfl)) Via.refl P0 4 (hb hby d156) rfl ?_
  exact gretI hx hret (hb hby d157) (by decide) (by decide) (fun vq Cq => ⟨rfl, rfl⟩)
theorem d159 : decode y20_ 0 = .ok (.aload_n 0, 1) := by decide +kernel
theorem d160 : decode y20_ 1 = .ok (.invokespecial 343, 3) := by decide +kernel
theorem d161 : decode y20_ 4 = .ok (.ireturn, 1) := by decide +kernel
abbrev mn162 : MethodName := ⟨"java/lang/StringBuilder", "length", "()I"⟩
theorem own_sblen (l : Launch) (Z : State) (a0 : Array Value) (cx : Ctx Z a0) (ws : List Jvm.Cond) (x : Addr) (n : Int32) (vm0 : Vm) (h0 : Heap) (X00 : Ext Z.heap h0) (P0 : Exa Z h0 x c5_) (P1 : Fld Z h0 x c2_ "count" "I" (.int n)) :
    Met l mn162 y20_ 1 (some .int) ws ({ frames := 1, cells := 0, slots := 0, locals := 12 } : Room) Z consts_1 vm0 h0 #[(.ref x)] (fun rv vm h => rv = some (.int n) ∧ h0 = h) := by
  obtain ⟨hw, hEL, ⟨zc, Scs, hzc⟩, ⟨fm, Sfm, hfm⟩, ⟨fe, ft, tt, Sfe, Efe, Fft, Sft⟩, hI0⟩ := id cx
  have hSA := own_SA hw
  refine Met.of_walk (a0 := a0) #[vr x] (plainFor_of_name own_pn52) X00 hEL (fun m => by first | (simp [entryFrame, mkF, argsToLocals, Value.category]; done) | rfl) ?_
  intro p e s m below meth c vm hx hby hml hret hnm hC0 hW0
  have lt_x : h0.size > x := P0.lt
  refine uAN 1 hx hby d159 rfl rfl rfl ?_
  refine ginfo fun _ _ O1 => ?_
  refine gcallU (y := mn158) hx (ow hw 140 rfl) (smOf (y := mn158) (ow hw 136 rfl) (nfSame (y' := mn114) (ow hw 95 rfl) (ow hw 93 rfl) rfl) (by decide)) (ow hw 136 rfl) (ow hw 76 rfl) (by decide) (ow hw 141 rfl) (fun hZ H hEL => Pay.of_met (W := 0) (own_asblen l Z a0 cx [] (x) (n) vm h0 O1 P1) (ow hw 141 rfl) (ow hw 56 rfl) (by decide) (by decide) hZ H hEL) 4 (argsL := []) (rest := []) (Ins.self P0) (lenOf own_pd119 rfl) rfl rfl (Nat.le_of_eq rfl) (by rw [hml]; rfl) (hb hby d160) rfl (by decide) (by decide) ?_
  rintro _ vm1 h1 C1 ⟨rfl, rfl⟩
  have z1 := C1.2.1
  refine gat1 ?_
  exact gretI hx hret (hb hby d161) (by decide) (by decide) (fun vq Cq => ⟨rfl, rfl⟩)
theorem d163 : decode y26_ 0 = .ok (.getstatic 18, 3) := by decide +kernel
theorem d164 : decode y26_ 3 = .ok (.ifCond .eq 14, 3) := by decide +kernel
theorem d165 : decode y26_ 6 = .ok (.aload_n 0, 1) := by decide +kernel
theorem d166 : decode y26_ 7 = .ok (.getfield 22, 3) := by decide +kernel
theorem d167 : decode y26_ 10 = .ok (.ifCond .ne 7, 3) := by decide +kernel
theorem d168 : decode y26_ 13 = .ok (.iconst 1, 1) := by decide +kernel
theorem d169 : decode y26_ 14 = .ok (.goto 4, 3) := by decide +kernel
theorem d170 : decode y26_ 18 = .ok (.ireturn, 1) := by decide +kernel
abbrev mn171 : MethodName := ⟨"java/lang/AbstractStringBuilder", "isLatin1", "()Z"⟩
theorem own_asblat (l : Launch) (Z : State) (a0 : Array Value) (cx : Ctx Z a0) (ws : List Jvm.Cond) (x : Addr) (vm0 : Vm) (h0 : Heap) (X00 : Ext Z.heap h0) (P0 : Fld Z h0 x c2_ "coder" "B" (.int (0 : Int32))) :
    Met l mn171 y26_ 1 (some .boolean) ws ({ frames := 0, cells := 0, slots := 0, locals := 0 } : Room) Z consts_1 vm0 h0 #[(.ref x)] (fun rv vm h => rv = some (.int (1 : Int32)) ∧ h0 = h) := by
  obtain ⟨hw, hEL, ⟨zc, Scs, hzc⟩, ⟨fm, Sfm, hfm⟩, ⟨fe, ft, tt, Sfe, Efe, Fft, Sft⟩, hI0⟩ := id cx
  have hSA := own_SA hw
  refine Met.of_walk (a0 := a0) #[vr x] (plainFor_of_name own_pn45) X00 hEL (fun m => by first | (simp [entryFrame, mkF, argsToLocals, Value.category]; done) | rfl) ?_
  intro p e s m below meth c vm hx hby hml hret hnm hC0 hW0
  have lt_x : h0.size > x := P0.lt
  refine ggetS (host := "") hx (Or.inl (ow hw 59 rfl)) Via.refl Scs 3 (hb hby d163) rfl ?_
  refine uN 6 hx hby d164 rfl ((if0 _ _).trans (feq hzc).1) ?_
  refine uAN 7 hx hby d165 rfl rfl rfl ?_
  refine ggetF (host := "") hx (Or.inl (ow hw 62 rfl)) Via.refl P0 10 (hb hby d166) rfl ?_
  refine uN 13 hx hby d167 rfl ((if0 _ _).trans (teq (by decide)).2) ?_
  refine uKc 14 (1 : Int32) hx hby d168 rfl rfl ?_
  refine uG 18 hx hby d169 (by decide) (by decide) ?_
  exact gretN (t := .boolean) hx hret (by simp) (hb hby d170) (by decide) (by decide) (fun vq Cq => ⟨rfl, rfl⟩)
theorem d172 : decode y13_ 0 = .ok (.iload_n 1, 1) := by decide +kernel
theorem d173 : decode y13_ 1 = .ok (.iload_n 0, 1) := by decide +kernel
theorem d174 : decode y13_ 2 = .ok (.if_icmp .ge 35, 3) := by decide +kernel
theorem d175 : decode y13_ 37 = .ok (.return_, 1) := by decide +kernel
abbrev mn176 : MethodName := ⟨"java/util/Arrays", "checkLength", "(II)V"⟩
theorem own_pn177 : plainName "java/util/Arrays" = true := by first | (simp [plainName, overriddenIn]; done) | decide +kernel
theorem own_checkLength (l : Launch) (Z : State) (a0 : Array Value) (cx : Ctx Z a0) (ws : List Jvm.Cond) (x : Int32) (y : Int32) (vm0 : Vm) (h0 : Heap) (X00 : Ext Z.heap h0) (hxy : (¬ y < x)) :
    Met l mn176 y13_ 2 none ws ({ frames := 0, cells := 0, slots := 0, locals := 0 } : Room) Z consts_1 vm0 h0 #[(.int x), (.int y)] (fun rv vm h => rv = none ∧ h0 = h) := by
  obtain ⟨hw, hEL, ⟨zc, Scs, hzc⟩, ⟨fm, Sfm, hfm⟩, ⟨fe, ft, tt, Sfe, Efe, Fft, Sft⟩, hI0⟩ := id cx
  have hSA := own_SA hw
  refine Met.of_walk (a0 := a0) #[vi x, vi y] (plainFor_of_name own_pn177) X00 hEL (fun m => by first | (simp [entryFrame, mkF, argsToLocals, Value.category]; done) | rfl) ?_
  intro p e s m below meth c vm hx hby hml hret hnm hC0 hW0
  refine uIN 1 hx hby d172 rfl rfl ?_
  refine uIN 2 hx hby d173 rfl rfl ?_
  refine uYc 37 hx hby d174 (flt hxy).2.1 (by decide) (by decide) ?_
  exact gretV hx hret (hb hby d175) (by decide) (by decide) (fun vq Cq => ⟨rfl, rfl⟩)
theorem d178 : decode y1_ 0 = .ok (.iload_n 0, 1) := by decide +kernel
theorem d179 : decode y1_ 1 = .ok (.iload_n 1, 1) := by decide +kernel
theorem d180 : decode y1_ 2 = .ok (.if_icmp .gt 7, 3) := by decide +kernel
theorem d181 : decode y1_ 9 = .ok (.iload_n 1, 1) := by decide +kernel
theorem d182 : decode y1_ 10 = .ok (.ireturn, 1) := by decide +kernel
abbrev mn183 : MethodName := ⟨"java/lang/Math", "min", "(II)I"⟩
theorem own_pn184 : plainFor mn183 = true := by first | decide +kernel | (simp [plainFor, plainName, overriddenIn]; done)
theorem own_min (l : Launch) (Z : State) (a0 : Array Value) (cx : Ctx Z a0) (ws : List Jvm.Cond) (x : Int32) (y : Int32) (vm0 : Vm) (h0 : Heap) (X00 : Ext Z.heap h0) (hyx : (y < x)) :
    Met l mn183 y1_ 2 (some .int) ws ({ frames := 0, cells := 0, slots := 0, locals := 0 } : Room) Z consts_1 vm0 h0 #[(.int x), (.int y)] (fun rv vm h => rv = some (.int y) ∧ h0 = h) := by
  obtain ⟨hw, hEL, ⟨zc, Scs, hzc⟩, ⟨fm, Sfm, hfm⟩, ⟨fe, ft, tt, Sfe, Efe, Fft, Sft⟩, hI0⟩ := id cx
  have hSA := own_SA hw
  refine Met.of_walk (a0 := a0) #[vi x, vi y] own_pn184 X00 hEL (fun m => by first | (simp [entryFrame, mkF, argsToLocals, Value.category]; done) | rfl) ?_
  intro p e s m below meth c vm hx hby hml hret hnm hC0 hW0
  refine uIN 1 hx hby d178 rfl rfl ?_
  refine uIN 2 hx hby d179 rfl rfl ?_
  refine uYc 9 hx hby d180 (tlt hyx).2.2.1 (by decide) (by decide) ?_
  refine uIN 10 hx hby d181 rfl rfl ?_
  exact gretI hx hret (hb hby d182) (by decide) (by decide) (fun vq Cq => ⟨rfl, rfl⟩)
theorem d185 : decode y15_ 0 = .ok (.iload_n 1, 1) := by decide +kernel
theorem d186 : decode y15_ 1 = .ok (.iload_n 2, 1) := by decide +kernel
theorem d187 : decode y15_ 2 = .ok (.invokestatic 343, 3) := by decide +kernel
theorem own_pd188 : parseMethodDescriptor "(II)V" = some ⟨[.int, .int], none⟩ := by decide +kernel
theorem d189 : decode y15_ 5 = .ok (.iload_n 2, 1) := by decide +kernel
theorem d190 : decode y15_ 6 = .ok (.iload_n 1, 1) := by decide +kernel
theorem d191 : decode y15_ 7 = .ok (.isub, 1) := by decide +kernel
theorem d192 : decode y15_ 8 = .ok (.istore_n 3, 1) := by decide +kernel
theorem d193 : decode y15_ 9 = .ok (.iload_n 3, 1) := by decide +kernel
theorem d194 : decode y15_ 10 = .ok (.newarray .byte, 2) := by decide +kernel
theorem d195 : decode y15_ 12 = .ok (.astore 4, 2) := by decide +kernel
theorem d196 : decode y15_ 14 = .ok (.aload_n 0, 1) := by decide +kernel
theorem d197 : decode y15_ 15 = .ok (.iload_n 1, 1) := by decide +kernel
theorem d198 : decode y15_ 16 = .ok (.aload 4, 2) := by decide +kernel
theorem d199 : decode y15_ 18 = .ok (.iconst 0, 1) := by decide +kernel
theorem d200 : decode y15_ 19 = .ok (.aload_n 0, 1) := by decide +kernel
theorem d201 : decode y15_ 20 = .ok (.arraylength, 1) := by decide +kernel
theorem d202 : decode y15_ 21 = .ok (.iload_n 1, 1) := by decide +kernel
theorem d203 : decode y15_ 22 = .ok (.isub, 1) := by decide +kernel
theorem d204 : decode y15_ 23 = .ok (.iload_n 3, 1) := by decide +kernel
theorem d205 : decode y15_ 24 = .ok (.invokestatic 304, 3) := by decide +kernel
theorem own_pd206 : parseMethodDescriptor "(II)I" = some ⟨[.int, .int], some .int⟩ := by decide +kernel
theorem d207 : decode y15_ 27 = .ok (.invokestatic 150, 3) := by decide +kernel
theorem d208 : decode y15_ 30 = .ok (.aload 4, 2) := by decide +kernel
theorem d209 : decode y15_ 32 = .ok (.areturn, 1) := by decide +kernel
abbrev mn210 : MethodName := ⟨"java/util/Arrays", "copyOfRangeByte", "([BII)[B"⟩
theorem own_corb (l : Launch) (Z : State) (a0 : Array Value) (cx : Ctx Z a0) (ws : List Jvm.Cond) (a : Addr) (ka : ClassId) (cs : List Int32) (zs : List Value) (cap : Nat) (vm0 : Vm) (h0 : Heap) (X00 : Ext Z.heap h0) (P0 : Arv Z h0 a ka .byte (Int32.ofNat cap) (lo8s cs ++ zs) (.int (0 : Int32))) (hz : (cs.length + zs.length = cap)) (hlt : (cs.length < cap)) (h32 : (cs.length ≤ 32)) (hcap : (cap ≤ 4000)) :
    Met l mn210 y15_ 5 (some (.array .byte)) ws ({ frames := 1, cells := 1, slots := 32, locals := 18 } : Room) Z consts_1 vm0 h0 #[(.ref a), (.int (0 : Int32)), (.int (Int32.ofNat cs.length))] (fun rv vm h => ∃ (r : Addr), ∃ (kb : ClassId), rv = some (.ref r) ∧ Keep h0 h [] ∧ h0.size ≤ r ∧ Arv Z h r kb .byte (Int32.ofNat cs.length) (lo8s cs) (.int (0 : Int32))) := by
  obtain ⟨hw, hEL, ⟨zc, Scs, hzc⟩, ⟨fm, Sfm, hfm⟩, ⟨fe, ft, tt, Sfe, Efe, Fft, Sft⟩, hI0⟩ := id cx
  have hSA := own_SA hw
  refine Met.of_walk (a0 := a0) #[vr a, vi (0 : Int32), vi (Int32.ofNat cs.length), un, un] (plainFor_of_name own_pn177) X00 hEL (fun m => by first | (simp [entryFrame, mkF, argsToLocals, Value.category]; done) | rfl) ?_
  intro p e s m below meth c vm hx hby hml hret hnm hC0 hW0
  have lt_a : h0.size > a := P0.lt
  refine uIN 1 hx hby d185 rfl rfl ?_
  refine uIN 2 hx hby d186 rfl rfl ?_
  refine ginfo fun _ _ O1 => ?_
  refine gcallS (y := mn176) hx (ow hw 154 rfl) (ow hw 155 rfl) (ow hw 149 rfl) (ow hw 156 rfl) (by decide) (fun hZ H hEL => Pay.of_met (W := 0) (own_checkLength l Z a0 cx [] ((0 : Int32)) ((Int32.ofNat cs.length)) vm h0 O1 (nn0 (by omega))) (ow hw 156 rfl) (ow hw 149 rfl) (by decide) (by decide) hZ H hEL) 5 (argsL := [(.int (0 : Int32)), (.int (Int32.ofNat cs.length))]) (rest := []) (lenOf own_pd188 rfl) rfl rfl (Nat.le_of_eq rfl) (by rw [hml]; rfl) (hb hby d187) rfl (by decide) (by decide) ?_
  rintro _ vm1 h1 C1 ⟨rfl, rfl⟩
  have z1 := C1.2.1
  refine gat0 ?_
  refine uIN 6 hx hby d189 rfl rfl ?_
  refine uIN 7 hx hby d190 rfl rfl ?_
  refine uisub 8 ((Int32.ofNat cs.length) - (0 : Int32)) hx hby d191 rfl rfl ?_
  refine gat (mkF m 8 #[vr a, vi (0 : Int32), vi (Int32.ofNat cs.length), un, un] [(.int (Int32.ofNat cs.length))]) (by rw [subOf0 (by omega)]) ?_
  refine uSIN 9 #[vr a, vi (0 : Int32), vi (Int32.ofNat cs.length), vi (Int32.ofNat cs.length), un] hx hby d192 rfl rfl ?_
  refine uIN 10 hx hby d193 rfl rfl ?_
  refine gnewPE hx (ow hw 19 rfl) (n := (Int32.ofNat cs.length)) (nn0 (by omega)) (cap := 32) (by rw [tn (by omega)]; exact h32) (by decide) (ad := "[B") (by decide) 12 (hb hby d194) rfl (by decide) (by decide) ?_
  intro b2 h2 k2 g2 E2 C2 V2 A2 n2 L2
  have z2 := C2.2.1
  have V2 : Arv Z h2 b2 k2 .byte (Int32.ofNat cs.length) (List.replicate cs.length (.int (0 : Int32))) (.int (0 : Int32)) := V2.pad (pad_rep [] (.int (0 : Int32)) cs.length)
  have lt_b2 : h2.size > b2 := V2.lt
  refine uSA 14 #[vr a, vi (0 : Int32), vi (Int32.ofNat cs.length), vi (Int32.ofNat cs.length), vr b2] hx hby d195 rfl rfl rfl ?_
  refine uAN 15 hx hby d196 rfl rfl rfl ?_
  refine uIN 16 hx hby d197 rfl rfl ?_
  refine uA 18 hx hby d198 rfl rfl rfl ?_
  refine uKc 19 (0 : Int32) hx hby d199 rfl rfl ?_
  refine uAN 20 hx hby d200 rfl rfl rfl ?_
  have f3 := (P0.ext E2)
  refine glen hx f3 21 (hb hby d201) rfl ?_
  refine uIN 22 hx hby d202 rfl rfl ?_
  refine uisub 23 ((Int32.ofNat cap) - (0 : Int32)) hx hby d203 rfl rfl ?_
  refine gat (mkF m 23 #[vr a, vi (0 : Int32), vi (Int32.ofNat cs.length), vi (Int32.ofNat cs.length), vr b2] [(.int (Int32.ofNat cap)), (.int (0 : Int32)), (.ref b2), (.int (0 : Int32)), (.ref a)]) (by rw [subOf0 hcap]) ?_
  refine uIN 24 hx hby d204 rfl rfl ?_
  refine ginfo fun _ _ O4 => ?_
  refine gcallS (y := mn183) hx (ow hw 157 rfl) (ow hw 158 rfl) (ow hw 159 rfl) (ow hw 160 rfl) (by decide) (fun hZ H hEL => Pay.of_met (W := 4) (own_min l Z a0 cx [] ((Int32.ofNat cap)) ((Int32.ofNat cs.length)) vm1 h2 O4 ((ltOf (by omega) hcap).mpr hlt)) (ow hw 160 rfl) (ow hw 159 rfl) (by decide) (by decide) hZ H hEL) 27 (argsL := [(.int (Int32.ofNat cap)), (.int (Int32.ofNat cs.length))]) (rest := [(.int (0 : Int32)), (.ref b2), (.int (0 : Int32)), (.ref a)]) (lenOf own_pd206 rfl) rfl rfl (Nat.le_of_eq rfl) (by rw [hml]; rfl) (hb hby d205) rfl (by decide) (by decide) ?_
  rintro _ vm4 h4 C4 ⟨rfl, rfl⟩
  have z4 := C4.2.1
  refine gat1 ?_
  have f6 := (C4.safe (show h2.size > b2 by omega) L2)
  refine gcopyN hx (ow hw 161 rfl) (ow hw 116 rfl) (ow hw 114 rfl) (ow hw 115 rfl) (0) (0) (cs.length) (cap) (cs.length) f3 V2 rfl rfl rfl rfl rfl (by omega) (by omega) (by omega) (by omega) (by simp only [List.length_append, lo8s_len]; exact hz) (by simp) n2 (fun _ => f6) 30 (W := 0) (Nat.le_of_eq rfl) (by rw [hml]; rfl) (hb hby d207) rfl (by decide) (by decide) ?_
  intro h5 K5 C5 V5
  have z5 := C5.2.1
  rw [pre_list] at V5
  refine uA 32 hx hby d208 rfl rfl rfl ?_
  exact gretA hx hret rfl rfl (hb hby d209) (by decide) (by decide) (fun vq Cq => ⟨b2, k2, rfl, (((Keep.refl h0 []).ext E2).trans K5 (allS (Or.inr (by omega)) all0)), (by omega), V5⟩)
theorem own_nil {cs : List Int32} {zs : List Value} {cap : Nat} (hz : cs.length + zs.length = cap) (he : cs.length = cap) : zs = [] := List.eq_nil_of_length_eq_zero (by omega)
theorem d211 : decode y14_ 0 = .ok (.iload_n 1, 1) := by decide +kernel
theorem d212 : decode y14_ 1 = .ok (.ifCond .ne 9, 3) := by decide +kernel
theorem d213 : decode y14_ 4 = .ok (.iload_n 2, 1) := by decide +kernel
theorem d214 : decode y14_ 5 = .ok (.aload_n 0, 1) := by decide +kernel
theorem d215 : decode y14_ 6 = .ok (.arraylength, 1) := by decide +kernel
theorem d216 : decode y14_ 7 = .ok (.if_icmp .eq 10, 3) := by decide +kernel
theorem d217 : decode y14_ 17 = .ok (.aload_n 0, 1) := by decide +kernel
theorem d218 : decode y14_ 18 = .ok (.invokevirtual 310, 3) := by decide +kernel
theorem d219 : decode y14_ 21 = .ok (.checkcast 311, 3) := by decide +kernel
theorem d220 : decode y14_ 24 = .ok (.areturn, 1) := by decide +kernel
theorem d221 : decode y14_ 10 = .ok (.aload_n 0, 1) := by decide +kernel
theorem d222 : decode y14_ 11 = .ok (.iload_n 1, 1) := by decide +kernel
theorem d223 : decode y14_ 12 = .ok (.iload_n 2, 1) := by decide +kernel
theorem d224 : decode y14_ 13 = .ok (.invokestatic 339, 3) := by decide +kernel
theorem own_pd225 : parseMethodDescriptor "([BII)[B" = some ⟨[(.array .byte), .int, .int], some (.array .byte)⟩ := by decide +kernel
theorem d226 : decode y14_ 16 = .ok (.areturn, 1) := by decide +kernel
abbrev mn227 : MethodName := ⟨"java/util/Arrays", "copyOfRange", "([BII)[B"⟩
theorem own_cor (l : Launch) (Z : State) (a0 : Array Value) (cx : Ctx Z a0) (ws : List Jvm.Cond) (a : Addr) (ka : ClassId) (cs : List Int32) (zs : List Value) (cap : Nat) (vm0 : Vm) (h0 : Heap) (X00 : Ext Z.heap h0) (P0 : Arv Z h0 a ka .byte (Int32.ofNat cap) (lo8s cs ++ zs) (.int (0 : Int32))) (hz : (cs.length + zs.length = cap)) (hlt : (cs.length ≤ cap)) (h32 : (cs.length ≤ 32)) (hcap : (cap ≤ 4000)) (P5 : Exa Z h0 a "[B") :
    Met l mn227 y14_ 3 (some (.array .byte)) ws ({ frames := 2, cells := 1, slots := 32, locals := 34 } : Room) Z consts_1 vm0 h0 #[(.ref a), (.int (0 : Int32)), (.int (Int32.ofNat cs.length))] (fun rv vm h => ∃ (r : Addr), ∃ (kb : ClassId), rv = some (.ref r) ∧ Keep h0 h [] ∧ h0.size ≤ r ∧ Arv Z h r kb .byte (Int32.ofNat cs.length) (lo8s cs) (.int (0 : Int32))) := by
  obtain ⟨hw, hEL, ⟨zc, Scs, hzc⟩, ⟨fm, Sfm, hfm⟩, ⟨fe, ft, tt, Sfe, Efe, Fft, Sft⟩, hI0⟩ := id cx
  have hSA := own_SA hw
  refine Met.of_walk (a0 := a0) #[vr a, vi (0 : Int32), vi (Int32.ofNat cs.length)] (plainFor_of_name own_pn177) X00 hEL (fun m => by first | (simp [entryFrame, mkF, argsToLocals, Value.category]; done) | rfl) ?_
  intro p e s m below meth c vm hx hby hml hret hnm hC0 hW0
  have lt_a : h0.size > a := P0.lt
  refine uIN 1 hx hby d211 rfl rfl ?_
  refine uN 4 hx hby d212 rfl ((if0 _ _).trans (teq (by decide)).2) ?_
  refine uIN 5 hx hby d213 rfl rfl ?_
  refine uAN 6 hx hby d214 rfl rfl rfl ?_
  refine glen hx P0 7 (hb hby d215) rfl ?_
  by_cases g : (Int32.ofNat cs.length) = (Int32.ofNat cap)
  · refine uYc 17 hx hby d216 (teq g).1 (by decide) (by decide) ?_
    have he := (eqOf (by omega) hcap).mp g
    refine uAN 18 hx hby d217 rfl rfl rfl ?_
    refine gclone hx (ow hw 260 rfl) (ow hw 261 rfl) (ow hw 265 rfl) (ow hw 263 rfl) (ow hw 264 rfl) (ow hw 266 rfl) P0 P5 (cap := 32) (by rw [tn (by omega)]; omega) 21 (W := 0) (Nat.le_of_eq rfl) (by rw [hml]; rfl) (hb hby d218) rfl (by decide) (by decide) (by decide) (by decide) ?_
    intro b1 h1 g1 E1 C1 V1 A1 n1 L1
    have z1 := C1.2.1
    have lt_b1 : h1.size > b1 := V1.lt
    refine gcast hx (ow hw 267 rfl) (Ins.self A1) 24 (hb hby d219) rfl ?_
    exact gretA hx hret rfl rfl (hb hby d220) (by decide) (by decide) (fun vq Cq => ⟨b1, ka, rfl, ((Keep.refl h0 []).ext E1), (by omega), (by have q := V1; rw [own_nil hz he, List.append_nil, ← he] at q; exact q)⟩)
  · refine uNc 10 hx hby d216 rfl (feq g).1 ?_
    have hl2 : cs.length < cap := Nat.lt_of_le_of_ne hlt fun q => g (congrArg Int32.ofNat q)
    refine uAN 11 hx hby d221 rfl rfl rfl ?_
    refine uIN 12 hx hby d222 rfl rfl ?_
    refine uIN 13 hx hby d223 rfl rfl ?_
    refine ginfo fun _ _ O3 => ?_
    refine gcallS (y := mn210) hx (ow hw 151 rfl) (ow hw 152 rfl) (ow hw 149 rfl) (ow hw 153 rfl) (by decide) (fun hZ H hEL => Pay.of_met (W := 0) (own_corb l Z a0 cx [] (a) (ka) (cs) (zs) (cap) vm h0 O3 P0 (by first | assumption | decide | omega) hl2 (by first | assumption | decide | omega) (by first | assumption | decide | omega)) (ow hw 153 rfl) (ow hw 149 rfl) (by decide) (by decide) hZ H hEL) 16 (argsL := [(.ref a), (.int (0 : Int32)), (.int (Int32.ofNat cs.length))]) (rest := []) (lenOf own_pd225 rfl) rfl rfl (Nat.le_of_eq rfl) (by rw [hml]; rfl) (hb hby d224) rfl (by decide) (by decide) ?_
    rintro _ vm3 h3 C3 ⟨r3, kb3, rfl, K3, q3_0, q3_1⟩
    have z3 := C3.2.1
    have lt_r3 : h3.size > r3 := q3_1.lt
    refine gat1 ?_
    exact gretA hx hret rfl rfl (hb hby d226) (by decide) (by decide) (fun vq Cq => ⟨r3, kb3, rfl, ((Keep.refl h0 []).trans K3 all0), (by omega), q3_1⟩)
theorem d228 : decode y7_ 0 = .ok (.aload_n 0, 1) := by decide +kernel
theorem d229 : decode y7_ 1 = .ok (.invokespecial 1, 3) := by decide +kernel
theorem d230 : decode y7_ 4 = .ok (.aload_n 1, 1) := by decide +kernel
theorem d231 : decode y7_ 5 = .ok (.invokevirtual 552, 3) := by decide +kernel
theorem own_pd232 : parseMethodDescriptor "()[B" = some ⟨[], some (.array .byte)⟩ := by decide +kernel
theorem d233 : decode y7_ 8 = .ok (.astore_n 3, 1) := by decide +kernel
theorem d234 : decode y7_ 9 = .ok (.aload_n 1, 1) := by decide +kernel
theorem d235 : decode y7_ 10 = .ok (.invokevirtual 549, 3) := by decide +kernel
theorem d236 : decode y7_ 13 = .ok (.istore 4, 2) := by decide +kernel
theorem d237 : decode y7_ 15 = .ok (.aload_n 1, 1) := by decide +kernel
theorem d238 : decode y7_ 16 = .ok (.invokevirtual 1047, 3) := by decide +kernel
theorem own_pd239 : parseMethodDescriptor "()Z" = some ⟨[], some .boolean⟩ := by decide +kernel
theorem d240 : decode y7_ 19 = .ok (.ifCond .eq 22, 3) := by decide +kernel
theorem d241 : decode y7_ 22 = .ok (.aload_n 0, 1) := by decide +kernel
theorem d242 : decode y7_ 23 = .ok (.iconst 0, 1) := by decide +kernel
theorem d243 : decode y7_ 24 = .ok (.putfield 15, 3) := by decide +kernel
theorem d244 : decode y7_ 27 = .ok (.aload_n 0, 1) := by decide +kernel
theorem d245 : decode y7_ 28 = .ok (.aload_n 3, 1) := by decide +kernel
theorem d246 : decode y7_ 29 = .ok (.iconst 0, 1) := by decide +kernel
theorem d247 : decode y7_ 30 = .ok (.iload 4, 2) := by decide +kernel
theorem d248 : decode y7_ 32 = .ok (.invokestatic 54, 3) := by decide +kernel
theorem d249 : decode y7_ 35 = .ok (.putfield 9, 3) := by decide +kernel
theorem d250 : decode y7_ 38 = .ok (.goto 59, 3) := by decide +kernel
theorem d251 : decode y7_ 97 = .ok (.return_, 1) := by decide +kernel
abbrev mn252 : MethodName := ⟨"java/lang/String", "<init>", "(Ljava/lang/AbstractStringBuilder;Ljava/lang/Void;)V"⟩
theorem own_sinit5 (l : Launch) (Z : State) (a0 : Array Value) (cx : Ctx Z a0) (ws : List Jvm.Cond) (x : Addr) (b : Addr) (v0 : Value) (c0 : Value) (v : Addr) (cap : Nat) (cs : List Int32) (vm0 : Vm) (h0 : Heap) (X00 : Ext Z.heap h0) (P0 : Exa Z h0 x c4_) (P1 : Fld Z h0 x c4_ "value" "[B" v0) (P2 : Fld Z h0 x c4_ "coder" "B" c0) (P3 : Z.heap.size ≤ x) (P4 : Safe Z consts_1 vm0 h0 x) (P5 : SBd Z h0 b v cap cs) (hlt : (cs.length ≤ cap)) (h32 : (cs.length ≤ 32)) (P8 : Exa Z h0 v "[B") :
    Met l mn252 y7_ 5 none ws ({ frames := 3, cells := 1, slots := 32, locals := 49 } : Room) Z consts_1 vm0 h0 #[(.ref x), (.ref b), .null] (fun rv vm h => ∃ (t : Addr), rv = none ∧ Keep h0 h [x] ∧ h0.size ≤ t ∧ Str Z h x t cs ∧ Safe Z consts_1 vm h x) := by
  obtain ⟨hw, hEL, ⟨zc, Scs, hzc⟩, ⟨fm, Sfm, hfm⟩, ⟨fe, ft, tt, Sfe, Efe, Fft, Sft⟩, hI0⟩ := id cx
  have hSA := own_SA hw
  refine Met.of_walk (a0 := a0) #[vr x, vr b, .val .null, un, un] (plainFor_of_name own_pn14) X00 hEL (fun m => by first | (simp [entryFrame, mkF, argsToLocals, Value.category]; done) | rfl) ?_
  intro p e s m below meth c vm hx hby hml hret hnm hC0 hW0
  have lt_x : h0.size > x := P0.lt
  have L4 := hC0.safe lt_x P4
  have lt_v : h0.size > v := P5.vlt
  have lt_b : h0.size > b := P5.1.lt
  refine uAN 1 hx hby d228 rfl rfl rfl ?_
  refine ginitO hx (ow hw 15 rfl) (ow hw 16 rfl) (ow hw 17 rfl) 4 (W := 0) (Nat.le_of_eq rfl) (by rw [hml]; rfl) (hb hby d229) rfl (by decide) (by decide) ?_
  obtain ⟨eE, eV, eC, eN, ⟨kz, zs, eA, ez⟩, eb, ecap⟩ := P5
  refine uAN 5 hx hby d230 rfl rfl rfl ?_
  refine ginfo fun _ _ O2 => ?_
  refine gcallV (y := mn154) (z := mn154) hx (ow hw 129 rfl) (ow hw 130 rfl) (nfSel (ow hw 132 rfl)) (ow hw 132 rfl) (ow hw 131 rfl) (by decide) (fun hZ H hEL => Pay.of_met (W := 0) (own_getValue l Z a0 cx [] (b) (v) vm h0 O2 eV) (ow hw 133 rfl) (ow hw 56 rfl) (by decide) (by decide) hZ H hEL) 8 (argsL := []) (rest := []) eE (lenOf own_pd232 rfl) rfl rfl (Nat.le_of_eq rfl) (by rw [hml]; rfl) (hb hby d231) rfl (by decide) (by decide) ?_
  rintro _ vm2 h2 C2 ⟨rfl, rfl⟩
  have z2 := C2.2.1
  refine gat1 ?_
  refine uSAN 9 #[vr x, vr b, .val .null, vr v, un] hx hby d233 rfl rfl rfl ?_
  refine uAN 10 hx hby d234 rfl rfl rfl ?_
  refine ginfo fun _ _ O3 => ?_
  refine gcallV (y := mn158) (z := mn162) hx (ow hw 134 rfl) (ow hw 135 rfl) (nfSame (y' := mn114) (ow hw 95 rfl) (ow hw 93 rfl) rfl) (ow hw 137 rfl) (ow hw 138 rfl) (by decide) (fun hZ H hEL => Pay.of_met (W := 0) (own_sblen l Z a0 cx [] (b) ((Int32.ofNat (cs).length)) vm2 h0 O3 eE eN) (ow hw 139 rfl) (ow hw 48 rfl) (by decide) (by decide) hZ H hEL) 13 (argsL := []) (rest := []) eE (lenOf own_pd119 rfl) rfl rfl (Nat.le_of_eq rfl) (by rw [hml]; rfl) (hb hby d235) rfl (by decide) (by decide) ?_
  rintro _ vm3 h3 C3 ⟨rfl, rfl⟩
  have z3 := C3.2.1
  refine gat1 ?_
  refine uSI 15 #[vr x, vr b, .val .null, vr v, vi (Int32.ofNat (cs).length)] hx hby d236 rfl rfl ?_
  refine uAN 16 hx hby d237 rfl rfl rfl ?_
  refine ginfo fun _ _ O4 => ?_
  refine gcallV (y := mn171) (z := mn171) hx (ow hw 142 rfl) (ow hw 143 rfl) (nfSel (ow hw 145 rfl)) (ow hw 145 rfl) (ow hw 144 rfl) (by decide) (fun hZ H hEL => Pay.of_met (W := 0) (own_asblat l Z a0 cx [] (b) vm3 h0 O4 eC) (ow hw 146 rfl) (ow hw 56 rfl) (by decide) (by decide) hZ H hEL) 19 (argsL := []) (rest := []) eE (lenOf own_pd239 rfl) rfl rfl (Nat.le_of_eq rfl) (by rw [hml]; rfl) (hb hby d238) rfl (by decide) (by decide) ?_
  rintro _ vm4 h4 C4 ⟨rfl, rfl⟩
  have z4 := C4.2.1
  refine gat1 ?_
  refine uN 22 hx hby d240 rfl ((if0 _ _).trans (feq (by decide)).1) ?_
  refine uAN 23 hx hby d241 rfl rfl rfl ?_
  refine uKc 24 (0 : Int32) hx hby d242 rfl rfl ?_
  have f5 := (C4.safe (show h0.size > x by omega) (C3.safe (show h0.size > x by omega) (C2.safe (show h0.size > x by omega) L4)))
  refine gputF (host := "") hx (Or.inl (ow hw 25 rfl)) Via.refl P2 P0 (Or.inr ⟨(ow hw 21 rfl), rfl, hnm⟩) (ow hw 5 rfl) (ty := .byte) (by decide) rfl rfl P3 (fun _ => f5) 27 (hb hby d243) rfl ?_
  intro h6 W6 C6
  have z6 := C6.2.1
  have F6 := P2.same W6
  refine uAN 28 hx hby d244 rfl rfl rfl ?_
  refine uAN 29 hx hby d245 rfl rfl rfl ?_
  refine uKc 30 (0 : Int32) hx hby d246 rfl rfl ?_
  refine uI 32 hx hby d247 rfl rfl ?_
  have f8 := (P8.wr W6)
  have f9 := (P0.wr W6)
  have f10 := (eA.other W6 (ne_exa f8 f9 (by decide)))
  refine ginfo fun _ _ O7 => ?_
  refine gcallS (y := mn227) hx (ow hw 147 rfl) (ow hw 148 rfl) (ow hw 149 rfl) (ow hw 150 rfl) (by decide) (fun hZ H hEL => Pay.of_met (W := 1) (own_cor l Z a0 cx [] (v) (kz) (cs) (zs) (cap) vm4 h6 O7 f10 ez (by first | assumption | decide | omega) (by first | assumption | decide | omega) ecap f8) (ow hw 150 rfl) (ow hw 149 rfl) (by decide) (by decide) hZ H hEL) 35 (argsL := [(.ref v), (.int (0 : Int32)), (.int (Int32.ofNat (cs).length))]) (rest := [(.ref x)]) (lenOf own_pd225 rfl) rfl rfl (Nat.le_of_eq rfl) (by rw [hml]; rfl) (hb hby d248) rfl (by decide) (by decide) ?_
  rintro _ vm7 h7 C7 ⟨r7, kb7, rfl, K7, q7_0, q7_1⟩
  have z7 := C7.2.1
  have lt_r7 : h7.size > r7 := q7_1.lt
  refine gat1 ?_
  have f11 := ((P1.other W6 (Or.inr (slot_ne (Or.inr (ow hw 20 rfl)) (Or.inr (ow hw 21 rfl)) (by decide) (t := (.array .byte)) (t' := .byte) (by decide) (by decide)))).keep K7 nin0)
  have f12 := (f9.keep K7)
  have f13 := (C7.safe (show h6.size > x by omega) (C6.safe (show h0.size > x by omega) f5))
  refine gputF (host := "") hx (Or.inl (ow hw 24 rfl)) Via.refl f11 f12 (Or.inr ⟨(ow hw 20 rfl), rfl, hnm⟩) (ow hw 5 rfl) (ty := (.array .byte)) (by decide) rfl rfl P3 (fun _ => f13) 38 (hb hby d249) rfl ?_
  intro h14 W14 C14
  have z14 := C14.2.1
  have F14 := f11.same W14
  refine uG 97 hx hby d250 (by decide) (by decide) ?_
  have f15 := (f12.wr W14)
  have f16 := ((F6.keep K7 nin0).other W14 (Or.inr (slot_ne (Or.inr (ow hw 21 rfl)) (Or.inr (ow hw 20 rfl)) (by decide) (t := .byte) (t' := (.array .byte)) (by decide) (by decide))))
  have f17 := (q7_1.other W14 (Nat.ne_of_gt (by omega)))
  have f19 := (C14.safe (show h7.size > x by omega) f13)
  exact gretV hx hret (hb hby d251) (by decide) (by decide) (fun vq Cq => ⟨r7, rfl, ((((Keep.refl h0 [x]).wr W6 (Or.inl (List.mem_of_getElem? (i := 0) rfl))).trans K7 all0).wr W14 (Or.inl (List.mem_of_getElem? (i := 0) rfl))), (by omega), ⟨f15, f16, F14, ⟨_, f17⟩, eb, by omega⟩, (Cq.safe (show h14.size > x by omega) f19)⟩)
theorem d253 : decode y10_ 0 = .ok (.aload_n 0, 1) := by decide +kernel
theorem d254 : decode y10_ 1 = .ok (.aload_n 1, 1) := by decide +kernel
theorem d255 : decode y10_ 2 = .ok (.aconst_null, 1) := by decide +kernel
theorem d256 : decode y10_ 3 = .ok (.invokespecial 489, 3) := by decide +kernel
theorem own_pd257 : parseMethodDescriptor "(Ljava/lang/AbstractStringBuilder;Ljava/lang/Void;)V" = some ⟨[(.object "java/lang/AbstractStringBuilder"), (.object "java/lang/Void")], none⟩ := by decide +kernel
theorem d258 : decode y10_ 6 = .ok (.return_, 1) := by decide +kernel
abbrev mn259 : MethodName := ⟨"java/lang/String", "<init>", "(Ljava/lang/StringBuilder;)V"⟩
theorem own_sinit3 (l : Launch) (Z : State) (a0 : Array Value) (cx : Ctx Z a0) (ws : List Jvm.Cond) (x : Addr) (b : Addr) (v0 : Value) (c0 : Value) (v : Addr) (cap : Nat) (cs : List Int32) (vm0 : Vm) (h0 : Heap) (X00 : Ext Z.heap h0) (P0 : Exa Z h0 x c4_) (P1 : Fld Z h0 x c4_ "value" "[B" v0) (P2 : Fld Z h0 x c4_ "coder" "B" c0) (P3 : Z.heap.size ≤ x) (P4 : Safe Z consts_1 vm0 h0 x) (P5 : SBd Z h0 b v cap cs) (hlt : (cs.length ≤ cap)) (h32 : (cs.length ≤ 32)) (P8 : Exa Z h0 v "[B") :
    Met l mn259 y10_ 2 none ws ({ frames := 4, cells := 1, slots := 32, locals := 65 } : Room) Z consts_1 vm0 h0 #[(.ref x), (.ref b)] (fun rv vm h => ∃ (t : Addr), rv = none ∧ Keep h0 h [x] ∧ h0.size ≤ t ∧ Str Z h x t cs ∧ Safe Z consts_1 vm h x) := by
  obtain ⟨hw, hEL, ⟨zc, Scs, hzc⟩, ⟨fm, Sfm, hfm⟩, ⟨fe, ft, tt, Sfe, Efe, Fft, Sft⟩, hI0⟩ := id cx
  have hSA := own_SA hw
  refine Met.of_walk (a0 := a0) #[vr x, vr b] (plainFor_of_name own_pn14) X00 hEL (fun m => by first | (simp [entryFrame, mkF, argsToLocals, Value.category]; done) | rfl) ?_
  intro p e s m below meth c vm hx hby hml hret hnm hC0 hW0
  have lt_x : h0.size > x := P0.lt
  have L4 := hC0.safe lt_x P4
  have lt_v : h0.size > v := P5.vlt
  have lt_b : h0.size > b := P5.1.lt
  refine uAN 1 hx hby d253 rfl rfl rfl ?_
  refine uAN 2 hx hby d254 rfl rfl rfl ?_
  refine uU 3 hx hby d255 rfl ?_
  refine ginfo fun _ _ O1 => ?_
  refine gcallI (y := mn252) hx rfl (ow hw 126 rfl) (ow hw 127 rfl) (ow hw 128 rfl) (by decide) (fun hZ H hEL => Pay.of_met (W := 0) (own_sinit5 l Z a0 cx [] (x) (b) (v0) (c0) (v) (cap) (cs) vm h0 O1 P0 P1 P2 P3 L4 P5 (by first | assumption | decide | omega) (by first | assumption | decide | omega) P8) (ow hw 128 rfl) (ow hw 6 rfl) (by decide) (by decide) hZ H hEL) (a := x) 6 (argsL := [(.ref b), .null]) (rest := []) (lenOf own_pd257 rfl) rfl rfl (Nat.le_of_eq rfl) (by rw [hml]; rfl) (hb hby d256) rfl (by decide) (by decide) ?_
  rintro _ vm1 h1 C1 ⟨t1, rfl, K1, q1_0, q1_1, q1_2⟩
  have z1 := C1.2.1
  have lt_t1 : h1.size > t1 := q1_1.tlt
  refine gat0 ?_
  exact gretV hx hret (hb hby d258) (by decide) (by decide) (fun vq Cq => ⟨t1, rfl, ((Keep.refl h0 [x]).trans K1 (allS (Or.inl (List.mem_of_getElem? (i := 0) rfl)) all0)), (by omega), q1_1, (Cq.safe (show h1.size > x by omega) q1_2)⟩)
theorem d260 : decode y18_ 0 = .ok (.new 18, 3) := by decide +kernel
theorem d261 : decode y18_ 3 = .ok (.dup, 1) := by decide +kernel
theorem d262 : decode y18_ 4 = .ok (.aload_n 0, 1) := by decide +kernel
theorem d263 : decode y18_ 5 = .ok (.invokespecial 137, 3) := by decide +kernel
theorem own_pd264 : parseMethodDescriptor "(Ljava/lang/StringBuilder;)V" = some ⟨[(.object "java/lang/StringBuilder")], none⟩ := by decide +kernel
theorem d265 : decode y18_ 8 = .ok (.areturn, 1) := by decide +kernel
abbrev mn266 : MethodName := ⟨"java/lang/StringBuilder", "toString", "()Ljava/lang/String;"⟩
theorem own_sbtostring (l : Launch) (Z : State) (a0 : Array Value) (cx : Ctx Z a0) (ws : List Jvm.Cond) (b : Addr) (v : Addr) (cap : Nat) (cs : List Int32) (vm0 : Vm) (h0 : Heap) (X00 : Ext Z.heap h0) (P0 : SBd Z h0 b v cap cs) (hlt : (cs.length ≤ cap)) (h32 : (cs.length ≤ 32)) (P3 : Exa Z h0 v "[B") :
    Met l mn266 y18_ 1 (some (.object c4_)) ws ({ frames := 5, cells := 2, slots := 36, locals := 79 } : Room) Z consts_1 vm0 h0 #[(.ref b)] (fun rv vm h => ∃ (r : Addr), ∃ (t : Addr), rv = some (.ref r) ∧ Keep h0 h [] ∧ h0.size ≤ r ∧ h0.size ≤ t ∧ Str Z h r t cs) := by
  obtain ⟨hw, hEL, ⟨zc, Scs, hzc⟩, ⟨fm, Sfm, hfm⟩, ⟨fe, ft, tt, Sfe, Efe, Fft, Sft⟩, hI0⟩ := id cx
  have hSA := own_SA hw
  refine Met.of_walk (a0 := a0) #[vr b] (plainFor_of_name own_pn52) X00 hEL (fun m => by first | (simp [entryFrame, mkF, argsToLocals, Value.category]; done) | rfl) ?_
  intro p e s m below meth c vm hx hby hml hret hnm hC0 hW0
  have lt_v : h0.size > v := P0.vlt
  have lt_b : h0.size > b := P0.1.lt
  have eE := P0.1
  refine gnewO hx (ow hw 122 rfl) (ow hw 5 rfl) (ow hw 6 rfl) 3 (hb hby d260) rfl (by decide) (by decide) ?_
  intro b1 h1 g1 E1 C1 A1 D1 n1 L1
  have z1 := C1.2.1
  have lt_b1 : h1.size > b1 := A1.lt
  have F1_value : Fld Z h1 b1 c4_ "value" "[B" .null := D1 (Or.inr (ow hw 20 rfl)) (ty := (.array .byte)) (by decide)
  have F1_coder : Fld Z h1 b1 c4_ "coder" "B" (.int (0 : Int32)) := D1 (Or.inr (ow hw 21 rfl)) (ty := .byte) (by decide)
  refine uD 4 hx hby d261 rfl rfl ?_
  refine uAN 5 hx hby d262 rfl rfl rfl ?_
  have f3 := (P0.ext E1)
  have f4 := (P3.ext E1)
  refine ginfo fun _ _ O2 => ?_
  refine gcallI (y := mn259) hx rfl (ow hw 123 rfl) (ow hw 124 rfl) (ow hw 125 rfl) (by decide) (fun hZ H hEL => Pay.of_met (W := 1) (own_sinit3 l Z a0 cx [] (b1) (b) (.null) ((.int (0 : Int32))) (v) (cap) (cs) vm h1 O2 A1 F1_value F1_coder n1 L1 f3 (by first | assumption | decide | omega) (by first | assumption | decide | omega) f4) (ow hw 125 rfl) (ow hw 6 rfl) (by decide) (by decide) hZ H hEL) (a := b1) 8 (argsL := [(.ref b)]) (rest := [(.ref b1)]) (lenOf own_pd264 rfl) rfl rfl (Nat.le_of_eq rfl) (by rw [hml]; rfl) (hb hby d263) rfl (by decide) (by decide) ?_
  rintro _ vm2 h2 C2 ⟨t2, rfl, K2, q2_0, q2_1, q2_2⟩
  have z2 := C2.2.1
  have lt_t2 : h2.size > t2 := q2_1.tlt
  refine gat0 ?_
  exact gretA hx hret rfl rfl (hb hby d265) (by decide) (by decide) (fun vq Cq => ⟨b1, t2, rfl, (((Keep.refl h0 []).ext E1).trans K2 (allS (Or.inr (by omega)) all0)), (by omega), (by omega), q2_1⟩)
open Jvm.Free.SBG (negI negI_div100 negI_rem negI_lt neg_negI negI_toInt)
def own_dn (n : Nat) : Nat := if n < 10 then 1 else if n < 100 then 2 else if n < 1000 then 3 else if n < 10000 then 4 else if n < 100000 then 5 else if n < 1000000 then 6 else if n < 10000000 then 7 else if n < 100000000 then 8 else if n < 1000000000 then 9 else 10
theorem own_dn_pos (n : Nat) : 1 ≤ own_dn n ∧ own_dn n ≤ 10 := by unfold own_dn; (repeat' split) <;> omega
theorem own_num_go : ∀ r, r < 100 → (48 : Int32) + Int32.ofNat r % 10 = Int32.ofNat (48 + r % 10) := by decide +kernel
theorem own_num_gt : ∀ r, r < 100 → (48 : Int32) + Int32.ofNat r / 10 = Int32.ofNat (48 + r / 10) := by decide +kernel
theorem own_hasR {c : Cell} {f : Nat → Value} : ∀ (n k : Nat), (∀ i, i < n → c.slots[k + i]? = some (f (k + i))) → HasL c k ((List.range' k n).map f)
  | 0, _, _ => trivial
  | n + 1, k, h => by
    rw [List.range'_succ]
    exact ⟨by simpa using h 0 (by omega), own_hasR n (k + 1) fun i hi => by
      have q := h (i + 1) (by omega)
      rwa [show k + (i + 1) = k + 1 + i by omega] at q⟩
theorem own_all {args : Array Value} {first s : State} {o : Option Outcome} {idx : List Nat} {t : Term} {c : Jvm.Cond} {a : Addr} {cell : Cell} (ht : t.eval args first o idx s = some (.ref a)) (hc : s.arrayAt? a = some cell) (h : (Jvm.Cond.all t c).value args first o s idx = some true) (i : Nat) (hi : i < cell.slots.size) : c.value args first o s (i :: idx) = some true := by
  simp only [Cond.value, ht, hc] at h
  have key : ∀ (l : List Nat) (b : Option Bool), l.foldl (fun acc i => match acc with | some true => c.value args first o s (i :: idx) | x => x) b = some true → b = some true ∧ (i ∈ l → c.value args first o s (i :: idx) = some true) := by
    intro l
    induction l with
    | nil => exact fun b hb => ⟨hb, fun q => nomatch q⟩
    | cons y r ih =>
      intro b hb
      obtain ⟨q1, q2⟩ := ih _ hb
      have hb' : b = some true := by
        cases b with
        | none => cases q1
        | some b => cases b with
          | false => cases q1
          | true => rfl
      subst hb'
      refine ⟨rfl, fun hm => ?_⟩
      cases hm with
      | head => exact q1
      | tail _ hm => exact q2 hm
  exact (key _ _ h).2 (List.mem_range.mpr hi)
theorem own_tbl {s : State} {args : Array Value} {n : String} {rhs : Term} {F : Nat → Nat} (hf : Fit s) (hx : (Jvm.Cond.exactly (Jvm.Term.static c3_ n "[B") "[B").before args s = true) (hl : (Jvm.Cond.eq (Jvm.Term.length (Jvm.Term.static c3_ n "[B")) (Jvm.Term.int (100 : Int32))).value args s none s [] = some true)
    (ha : (Jvm.Cond.all (Jvm.Term.static c3_ n "[B") (Jvm.Cond.eq (Jvm.Term.elem (Jvm.Term.static c3_ n "[B") (Jvm.Term.index (0 : Nat))) rhs)).before args s = true) (hr : ∀ r, r < 100 → rhs.eval args s none [r] s = some (.int (Int32.ofNat (F r)))) (harr : (Jvm.Cond.arrayClass Jvm.ClassFile.FieldType.byte).before args s = true) :
    ∃ (d : Addr) (k : ClassId), (Jvm.Term.static c3_ n "[B").eval args s none [] s = some (.ref d) ∧ Arv s s.heap d k .byte (100 : Int32) ((List.range' 0 100).map fun r => .int (Int32.ofNat (F r))) (.int 0) := by
  obtain ⟨d, cB, D, kB, hev, hfcB, hcellD, hkB, hstatD, hclsD, -⟩ := Cond.exactly_spec hx
  obtain ⟨cB', kB', comp, hnameB, hkB', hkindB⟩ := Cond.arrayClass_spec harr
  have eBA : ("[" ++ FieldType.toString .byte) = "[B" := by decide
  rw [eBA] at hnameB
  cases hfcB.symm.trans hnameB
  cases hkB.symm.trans hkB'
  obtain ⟨x, y, f1, f2, -, -⟩ := cmp_v (Or.inl hl)
  obtain ⟨zl, rfl⟩ : ∃ z, x = .int z := by
    obtain ⟨x', y', g1, g2, -, k2⟩ := cmp_v (Or.inl hl)
    cases f1.symm.trans g1
    cases (Option.some.inj g2 : Value.int 100 = y')
    exact k2
  obtain ⟨d', D', hev', harrAt, -⟩ := Term.length_spec f1
  cases hev.symm.trans hev'
  obtain ⟨hcellD', hknD, -, -⟩ := State.arrayAt?_spec harrAt
  cases hcellD.symm.trans hcellD'
  have A : Arr s s.heap d D .byte := ⟨hcellD, ⟨(fun q h => by rw [h] at hstatD; cases hstatD), kB, (by rw [hclsD]; exact hkB), comp, hkindB⟩, hknD⟩
  obtain ⟨h1, h2⟩ := lenI hl hev harrAt
  have hsz : D.slots.size = 100 := by
    have f5 := len_toInt h1
    rw [h2] at f5
    have : (100 : Int32).toInt = 100 := rfl
    omega
  refine ⟨d, D.cls, hev, Arv.start hf A h1 h2 (by decide) (by simp) (own_hasR 100 0 fun i hi => ?_)⟩
  have hv := own_all hev harrAt (Cond.before_iff.mp ha) i (by omega)
  obtain ⟨x, y, e1, e2, k1, k2⟩ := cmp_v (Or.inl hv)
  cases (Option.some.inj ((hr i hi).symm.trans e2))
  obtain ⟨z, rfl⟩ := k2
  rw [Cond.eq_ints e1 (hr i hi)] at hv
  have ez := of_decide_eq_true (Option.some.inj hv)
  have hn : ¬ (Int32.ofNat i) < 0 := nn0 (by omega)
  have hc : (Int32.ofNat i).toNatClampNeg = i := tn (by omega)
  have hj := idx_at (first := s) (o := none) (s := s) (args := args) hn
  rw [hc] at hj
  have q := elem_in e1 (by simpa only [Term.eval] using hev) hj A.1
  rw [hc] at q
  rw [Nat.zero_add, q.2, ez]
def own_abs (x : Int32) : Nat := x.toInt.natAbs
def own_sg (x : Int32) : Nat := if x < 0 then 1 else 0
def own_dc (n : Nat) : Int32 := Int32.ofNat (48 + n % 10)
def own_digs : Nat → Nat → List Int32
  | 0, _ => []
  | k + 1, n => own_digs k (n / 10) ++ [own_dc n]
def own_dec (x : Int32) : List Int32 := (if x < 0 then [(45 : Int32)] else []) ++ own_digs (own_dn (own_abs x)) (own_abs x)
theorem own_abs_le (x : Int32) : own_abs x ≤ 2 ^ 31 := by have r := rng32 x; unfold own_abs; omega
theorem own_neg1 {x : Int32} (h : x < (0 : Int32)) : x = negI (own_abs x) := by
  apply Int32.toInt_inj.mp
  have e0 : (0 : Int32).toInt = 0 := rfl
  rw [Int32.lt_iff_toInt_lt, e0] at h
  rw [negI_toInt (own_abs_le x)]; unfold own_abs; omega
theorem own_neg2 {x : Int32} (h : ¬ x < (0 : Int32)) : -x = negI (own_abs x) := by
  apply Int32.toInt_inj.mp
  have e0 : (0 : Int32).toInt = 0 := rfl
  rw [Int32.lt_iff_toInt_lt, e0] at h
  have q := c_ineg x
  have r := rng32 x
  have r2 := rng32 (-x)
  rw [negI_toInt (own_abs_le x)]; unfold own_abs; omega
theorem own_sg_le (x : Int32) : own_sg x ≤ 1 := by unfold own_sg; split <;> decide
theorem own_sg0 {x : Int32} (h : Int32.ofNat (own_sg x) = (0 : Int32)) : own_sg x = 0 ∧ ¬ x < 0 := by
  unfold own_sg at *
  split at h
  · exact absurd h (by decide)
  · rename_i q; exact ⟨if_neg q, q⟩
theorem own_sg1 {x : Int32} (h : ¬ Int32.ofNat (own_sg x) = (0 : Int32)) : own_sg x = 1 ∧ x < 0 := by
  unfold own_sg at *
  split at h
  · rename_i q; exact ⟨if_pos q, q⟩
  · exact absurd rfl h
theorem own_digs_len : ∀ k n, (own_digs k n).length = k
  | 0, _ => rfl
  | k + 1, n => by rw [own_digs, List.length_append, own_digs_len k]; rfl
theorem own_dec_len (x : Int32) : (own_dec x).length = own_sg x + own_dn (own_abs x) := by
  unfold own_dec own_sg
  rw [List.length_append, own_digs_len]
  split <;> rfl
theorem own_dec_le (x : Int32) : (own_dec x).length ≤ 11 := by
  have h := own_dec_len x
  have h1 := own_sg_le x
  have h2 := (own_dn_pos (own_abs x)).2
  omega
theorem own_b8of {n : Nat} (h : n ≤ 255) : B8 (Int32.ofNat n) := by
  have e0 : (0 : Int32).toInt = 0 := rfl
  have e1 : (255 : Int32).toInt = 255 := rfl
  unfold B8
  rw [Int32.lt_iff_toInt_lt, Int32.lt_iff_toInt_lt, Int32.toInt_ofNat_of_lt (by omega), e0, e1]
  omega
theorem own_dcB (n : Nat) : B8 (own_dc n) := own_b8of (by omega)
theorem own_digsB : ∀ k n, ∀ c ∈ own_digs k n, B8 c
  | 0, _, _, h => nomatch h
  | k + 1, n, c, h => by
    rw [own_digs, List.mem_append] at h
    rcases h with h | h
    · exact own_digsB k _ c h
    · cases List.mem_singleton.mp h; exact own_dcB n
theorem own_decB (x : Int32) : ∀ c ∈ own_dec x, B8 c := fun c h => by
  unfold own_dec at h
  rw [List.mem_append] at h
  rcases h with h | h
  · split at h
    · cases List.mem_singleton.mp h; exact ⟨by decide, by decide⟩
    · cases h
  · exact own_digsB _ _ c h
theorem own_d100 (k n : Nat) : own_digs (k + 2) n = own_digs k (n / 100) ++ [own_dc (n / 10), own_dc n] := by
  show (own_digs k (n / 10 / 10) ++ [own_dc (n / 10)]) ++ [own_dc n] = _
  rw [Nat.div_div_eq_div_mul, List.append_assoc]; rfl
theorem own_ltn {n : Nat} (hn : n ≤ 2 ^ 31) (k : Nat) (hk : k ≤ 2 ^ 31) (z : Int32) (hz : z = negI k) : z < negI n ↔ n < k := by subst hz; exact negI_lt hn k hk
theorem own_gtn {n : Nat} (hn : n ≤ 2 ^ 31) (k : Nat) (hk : k ≤ 2 ^ 31) (z : Int32) (hz : z = negI k) : negI n < z ↔ k < n := by subst hz; exact negI_lt hk n hn
theorem own_size {x : Int32} (k : Nat) (z : Int32) (hz : z = Int32.ofNat k) (hd : own_dn (own_abs x) = k) : z + Int32.ofNat (own_sg x) = Int32.ofNat (own_dec x).length := by
  have h1 := own_sg_le x
  have h2 := (own_dn_pos (own_abs x)).2
  rw [hz, own_dec_len, addOf (by omega), ← hd, Nat.add_comm]
theorem own_dec1 {a b : Nat} (h : a = b + 1) (h2 : a ≤ 4000) : Int32.ofNat a + (-1 : Int32) = Int32.ofNat b := by
  apply Int32.toInt_inj.mp
  have q := c_iadd (Int32.ofNat a) (-1)
  have r := rng32 (Int32.ofNat a + (-1))
  have e : (-1 : Int32).toInt = -1 := rfl
  rw [Int32.toInt_ofNat_of_lt (by omega), e] at q
  rw [Int32.toInt_ofNat_of_lt (by omega)]
  omega
theorem own_lt100 (n : Nat) : ¬ Int32.ofNat (n % 100) < 0 ∧ Int32.ofNat (n % 100) < (100 : Int32) := ⟨nn0 (by omega), (ltOf (b := 100) (by omega) (by omega)).mpr (by omega)⟩
theorem own_rget {f : Nat → Value} {r : Nat} (h : r < 100) {d : Value} : ((List.range' 0 100).map f).getD r d = f r := by
  rw [List.getD_eq_getElem?_getD, List.getElem?_map, List.getElem?_range' h]
  simp
theorem own_ones (n : Nat) : own_vO.getD (n % 100) (.int (0 : Int32)) = .int (own_dc n) := by
  rw [own_vO, own_rget (by omega), own_dc]
  exact congrArg (fun z => Value.int (Int32.ofNat z)) (by omega)
theorem own_tens (n : Nat) : own_vT.getD (n % 100) (.int (0 : Int32)) = .int (own_dc (n / 10)) := by
  rw [own_vT, own_rget (by omega), own_dc]
  exact congrArg (fun z => Value.int (Int32.ofNat z)) (by omega)
theorem own_negm {n : Nat} (h : n < 100) : -(negI n) = Int32.ofNat (n % 100) := by rw [neg_negI (by omega), Nat.mod_eq_of_lt h]
def own_w (vd : List Value) (p T : Nat) (ds : List Int32) : List Value := vd.take p ++ lo8s ds ++ vd.drop T
theorem own_w0 (vd : List Value) (T : Nat) : vd = own_w vd T T [] := by unfold own_w; simp [lo8s]
theorem own_wl {vd : List Value} {p T : Nat} {ds : List Int32} (h : p + ds.length = T) (hT : T ≤ vd.length) : (own_w vd p T ds).length = vd.length := by
  unfold own_w
  rw [List.length_append, List.length_append, List.length_take, List.length_drop, lo8s_len]; omega
theorem own_w1 {vd : List Value} {p q T : Nat} {ds : List Int32} {c : Int32} (hp : p = q + 1) (hT : p ≤ vd.length) : (own_w vd p T ds).set q (.int (c.toInt8.toInt32)) = own_w vd q T (c :: ds) := by
  subst hp
  unfold own_w
  have e : vd.take (q + 1) = vd.take q ++ [vd[q]'(by omega)] := by rw [List.take_add_one, List.getElem?_eq_getElem (by omega)]; rfl
  rw [e, List.append_assoc, List.append_assoc, List.set_append_right _ _ (by rw [List.length_take]; omega), List.length_take, show q - min q vd.length = 0 by omega]
  simp [lo8s]
theorem own_wend {vd : List Value} {p j T : Nat} {ds es : List Int32} (hp : p = j) (hd : ds = es) : own_w vd p T ds = vd.take j ++ lo8s es ++ vd.drop T := by rw [hp, hd]; rfl
theorem own_put2 {cs ds : List Int32} {zs : List Value} : ((lo8s cs ++ zs).take cs.length ++ lo8s ds ++ (lo8s cs ++ zs).drop (cs.length + ds.length)) = lo8s (cs ++ ds) ++ zs.drop ds.length := by
  have q := put_list (cs := cs) (ds := ds) (zs := zs)
  rwa [List.drop_zero, List.take_of_length_le (l := lo8s ds) (by rw [lo8s_len]; exact Nat.le_refl _)] at q
theorem own_dg2 {n : Nat} (h : 10 ≤ n) : 2 ≤ own_dn n := by unfold own_dn; (repeat' split) <;> omega
theorem own_dg3 {n : Nat} (h : 100 ≤ n) : 3 ≤ own_dn n := by unfold own_dn; (repeat' split) <;> omega
theorem own_dg4 {n : Nat} (h : 1000 ≤ n) : 4 ≤ own_dn n := by unfold own_dn; (repeat' split) <;> omega
theorem own_dg5 {n : Nat} (h : 10000 ≤ n) : 5 ≤ own_dn n := by unfold own_dn; (repeat' split) <;> omega
theorem own_dg6 {n : Nat} (h : 100000 ≤ n) : 6 ≤ own_dn n := by unfold own_dn; (repeat' split) <;> omega
theorem own_dg7 {n : Nat} (h : 1000000 ≤ n) : 7 ≤ own_dn n := by unfold own_dn; (repeat' split) <;> omega
theorem own_dg8 {n : Nat} (h : 10000000 ≤ n) : 8 ≤ own_dn n := by unfold own_dn; (repeat' split) <;> omega
theorem own_dg9 {n : Nat} (h : 100000000 ≤ n) : 9 ≤ own_dn n := by unfold own_dn; (repeat' split) <;> omega
theorem own_dg10 {n : Nat} (h : 1000000000 ≤ n) : 10 ≤ own_dn n := by unfold own_dn; (repeat' split) <;> omega
theorem own_du1 {n : Nat} (h : n < 10) : own_dn n ≤ 1 := by unfold own_dn; (repeat' split) <;> omega
theorem own_du2 {n : Nat} (h : n < 100) : own_dn n ≤ 2 := by unfold own_dn; (repeat' split) <;> omega
theorem own_du3 {n : Nat} (h : n < 1000) : own_dn n ≤ 3 := by unfold own_dn; (repeat' split) <;> omega
theorem own_du4 {n : Nat} (h : n < 10000) : own_dn n ≤ 4 := by unfold own_dn; (repeat' split) <;> omega
theorem own_du5 {n : Nat} (h : n < 100000) : own_dn n ≤ 5 := by unfold own_dn; (repeat' split) <;> omega
theorem own_du6 {n : Nat} (h : n < 1000000) : own_dn n ≤ 6 := by unfold own_dn; (repeat' split) <;> omega
theorem own_du7 {n : Nat} (h : n < 10000000) : own_dn n ≤ 7 := by unfold own_dn; (repeat' split) <;> omega
theorem own_du8 {n : Nat} (h : n < 100000000) : own_dn n ≤ 8 := by unfold own_dn; (repeat' split) <;> omega
theorem own_du9 {n : Nat} (h : n < 1000000000) : own_dn n ≤ 9 := by unfold own_dn; (repeat' split) <;> omega
theorem d267 : decode y4_ 0 = .ok (.iconst 1, 1) := by decide +kernel
theorem d268 : decode y4_ 1 = .ok (.istore_n 1, 1) := by decide +kernel
theorem d269 : decode y4_ 2 = .ok (.iload_n 0, 1) := by decide +kernel
theorem d270 : decode y4_ 3 = .ok (.ifCond .lt 8, 3) := by decide +kernel
theorem d271 : decode y4_ 6 = .ok (.iconst 0, 1) := by decide +kernel
theorem d272 : decode y4_ 7 = .ok (.istore_n 1, 1) := by decide +kernel
theorem d273 : decode y4_ 8 = .ok (.iload_n 0, 1) := by decide +kernel
theorem d274 : decode y4_ 9 = .ok (.ineg, 1) := by decide +kernel
theorem d275 : decode y4_ 10 = .ok (.istore_n 0, 1) := by decide +kernel
theorem d276 : decode y4_ 11 = .ok (.bipush (-10), 2) := by decide +kernel
theorem d277 : decode y4_ 13 = .ok (.istore_n 2, 1) := by decide +kernel
theorem d278 : decode y4_ 14 = .ok (.iconst 1, 1) := by decide +kernel
theorem d279 : decode y4_ 15 = .ok (.istore_n 3, 1) := by decide +kernel
theorem d280 : decode y4_ 16 = .ok (.iload_n 3, 1) := by decide +kernel
theorem d281 : decode y4_ 17 = .ok (.bipush 10, 2) := by decide +kernel
theorem d282 : decode y4_ 19 = .ok (.if_icmp .ge 23, 3) := by decide +kernel
theorem d283 : decode y4_ 22 = .ok (.iload_n 0, 1) := by decide +kernel
theorem d284 : decode y4_ 23 = .ok (.iload_n 2, 1) := by decide +kernel
theorem d285 : decode y4_ 24 = .ok (.if_icmp .le 7, 3) := by decide +kernel
theorem d286 : decode y4_ 27 = .ok (.iload_n 3, 1) := by decide +kernel
theorem d287 : decode y4_ 28 = .ok (.iload_n 1, 1) := by decide +kernel
theorem d288 : decode y4_ 29 = .ok (.iadd, 1) := by decide +kernel
theorem d289 : decode y4_ 30 = .ok (.ireturn, 1) := by decide +kernel
theorem d290 : decode y4_ 31 = .ok (.bipush 10, 2) := by decide +kernel
theorem d291 : decode y4_ 33 = .ok (.iload_n 2, 1) := by decide +kernel
theorem d292 : decode y4_ 34 = .ok (.imul, 1) := by decide +kernel
theorem d293 : decode y4_ 35 = .ok (.istore_n 2, 1) := by decide +kernel
theorem d294 : decode y4_ 36 = .ok (.iinc 3 1, 3) := by decide +kernel
theorem d295 : decode y4_ 39 = .ok (.goto (-23), 3) := by decide +kernel
theorem d296 : decode y4_ 42 = .ok (.bipush 10, 2) := by decide +kernel
theorem d297 : decode y4_ 44 = .ok (.iload_n 1, 1) := by decide +kernel
theorem d298 : decode y4_ 45 = .ok (.iadd, 1) := by decide +kernel
theorem d299 : decode y4_ 46 = .ok (.ireturn, 1) := by decide +kernel
abbrev mn300 : MethodName := ⟨"java/lang/Integer", "stringSize", "(I)I"⟩
theorem own_pn301 : plainName "java/lang/Integer" = true := by first | (simp [plainName, overriddenIn]; done) | decide +kernel
theorem own_stringSize (l : Launch) (Z : State) (a0 : Array Value) (cx : Ctx Z a0) (ws : List Jvm.Cond) (x : Int32) (vm0 : Vm) (h0 : Heap) (X00 : Ext Z.heap h0)  :
    Met l mn300 y4_ 4 (some .int) ws ({ frames := 0, cells := 0, slots := 0, locals := 0 } : Room) Z consts_1 vm0 h0 #[(.int x)] (fun rv vm h => rv = some (.int (Int32.ofNat (own_dec x).length)) ∧ Keep h0 h []) := by
  obtain ⟨hw, hEL, ⟨zc, Scs, hzc⟩, ⟨fm, Sfm, hfm⟩, ⟨fe, ft, tt, Sfe, Efe, Fft, Sft⟩, hI0⟩ := id cx
  have hSA := own_SA hw
  refine Met.of_walk (a0 := a0) #[vi x, un, un, un] (plainFor_of_name own_pn301) X00 hEL (fun m => by first | (simp [entryFrame, mkF, argsToLocals, Value.category]; done) | rfl) ?_
  intro p e s m below meth c vm hx hby hml hret hnm hC0 hW0
  refine gjoin (fun vmJ hJ gJ => ∃ (nn1 : Int32), ∃ (sg1 : Int32), gJ = (mkF m 11 #[vi nn1, vi sg1, un, un] []) ∧ Keep h0 hJ [] ∧ CHr Z consts_1 vm h0 vmJ hJ ∧ (nn1 = negI (own_abs x)) ∧ (sg1 = Int32.ofNat (own_sg x))) 0 0 ?_ ?_
  · rintro vm1 h1 _ ⟨nn1, sg1, rfl, K1, C1, q1_0, q1_1⟩
    have z1 := C1.2.1
    refine gat (mkF m 11 #[vi (negI (own_abs x)), vi (Int32.ofNat (own_sg x)), un, un] []) (by rw [q1_0, q1_1]) ?_
    have hle := own_abs_le x
    refine uKb 13 (-10 : Int32) hx hby d276 rfl rfl ?_
    refine uSIN 14 #[vi (negI (own_abs x)), vi (Int32.ofNat (own_sg x)), vi (-10 : Int32), un] hx hby d277 rfl rfl ?_
    refine uKc 15 (1 : Int32) hx hby d278 rfl rfl ?_
    refine uSIN 16 #[vi (negI (own_abs x)), vi (Int32.ofNat (own_sg x)), vi (-10 : Int32), vi (1 : Int32)] hx hby d279 rfl rfl ?_
    refine uIN 17 hx hby d280 rfl rfl ?_
    refine uKb 19 (10 : Int32) hx hby d281 rfl rfl ?_
    refine uNc 22 hx hby d282 rfl (tlt (by decide)).2.1 ?_
    refine uIN 23 hx hby d283 rfl rfl ?_
    refine uIN 24 hx hby d284 rfl rfl ?_
    by_cases g : (-10 : Int32) < (negI (own_abs x))
    · refine uNc 27 hx hby d285 rfl (tlt g).2.2.2 ?_
      have m1 := (own_ltn hle 10 (by decide) (-10) (by decide +kernel)).mp g
      refine uIN 28 hx hby d286 rfl rfl ?_
      refine uIN 29 hx hby d287 rfl rfl ?_
      refine uiadd 30 ((1 : Int32) + (Int32.ofNat (own_sg x))) hx hby d288 rfl rfl ?_
      exact gretI hx hret (hb hby d289) (by decide) (by decide) (fun vq Cq => ⟨(congrArg (fun z => some (Value.int z)) (own_size 1 (1 : Int32) (by decide) (Nat.le_antisymm (own_du1 (by omega)) (own_dn_pos _).1))), ((Keep.refl h0 []).trans K1 all0)⟩)
    · refine uYc 31 hx hby d285 (flt g).2.2.2 (by decide) (by decide) ?_
      have m1 : ¬ own_abs x < 10 := fun q => g ((own_ltn hle 10 (by decide) (-10) (by decide +kernel)).mpr q)
      refine uKb 33 (10 : Int32) hx hby d290 rfl rfl ?_
      refine uIN 34 hx hby d291 rfl rfl ?_
      refine uimul 35 (-100 : Int32) hx hby d292 rfl (by decide) ?_
      refine uSIN 36 #[vi (negI (own_abs x)), vi (Int32.ofNat (own_sg x)), vi (-100 : Int32), vi (1 : Int32)] hx hby d293 rfl rfl ?_
      refine uInc 39 #[vi (negI (own_abs x)), vi (Int32.ofNat (own_sg x)), vi (-100 : Int32), vi (2 : Int32)] hx hby d294 rfl rfl rfl ?_
      refine uG 16 hx hby d295 (by decide) (by decide) ?_
      refine uIN 17 hx hby d280 rfl rfl ?_
      refine uKb 19 (10 : Int32) hx hby d281 rfl rfl ?_
      refine uNc 22 hx hby d282 rfl (tlt (by decide)).2.1 ?_
      refine uIN 23 hx hby d283 rfl rfl ?_
      refine uIN 24 hx hby d284 rfl rfl ?_
      by_cases g : (-100 : Int32) < (negI (own_abs x))
      · refine uNc 27 hx hby d285 rfl (tlt g).2.2.2 ?_
        have m2 := (own_ltn hle 100 (by decide) (-100) (by decide +kernel)).mp g
        refine uIN 28 hx hby d286 rfl rfl ?_
        refine uIN 29 hx hby d287 rfl rfl ?_
        refine uiadd 30 ((2 : Int32) + (Int32.ofNat (own_sg x))) hx hby d288 rfl rfl ?_
        exact gretI hx hret (hb hby d289) (by decide) (by decide) (fun vq Cq => ⟨(congrArg (fun z => some (Value.int z)) (own_size 2 (2 : Int32) (by decide) (Nat.le_antisymm (own_du2 (by omega)) (own_dg2 (by omega))))), ((Keep.refl h0 []).trans K1 all0)⟩)
      · refine uYc 31 hx hby d285 (flt g).2.2.2 (by decide) (by decide) ?_
        have m2 : ¬ own_abs x < 100 := fun q => g ((own_ltn hle 100 (by decide) (-100) (by decide +kernel)).mpr q)
        refine uKb 33 (10 : Int32) hx hby d290 rfl rfl ?_
        refine uIN 34 hx hby d291 rfl rfl ?_
        refine uimul 35 (-1000 : Int32) hx hby d292 rfl (by decide) ?_
        refine uSIN 36 #[vi (negI (own_abs x)), vi (Int32.ofNat (own_sg x)), vi (-1000 : Int32), vi (2 : Int32)] hx hby d293 rfl rfl ?_
        refine uInc 39 #[vi (negI (own_abs x)), vi (Int32.ofNat (own_sg x)), vi (-1000 : Int32), vi (3 : Int32)] hx hby d294 rfl rfl rfl ?_
        refine uG 16 hx hby d295 (by decide) (by decide) ?_
        refine uIN 17 hx hby d280 rfl rfl ?_
        refine uKb 19 (10 : Int32) hx hby d281 rfl rfl ?_
        refine uNc 22 hx hby d282 rfl (tlt (by decide)).2.1 ?_
        refine uIN 23 hx hby d283 rfl rfl ?_
        refine uIN 24 hx hby d284 rfl rfl ?_
        by_cases g : (-1000 : Int32) < (negI (own_abs x))
        · refine uNc 27 hx hby d285 rfl (tlt g).2.2.2 ?_
          have m3 := (own_ltn hle 1000 (by decide) (-1000) (by decide +kernel)).mp g
          refine uIN 28 hx hby d286 rfl rfl ?_
          refine uIN 29 hx hby d287 rfl rfl ?_
          refine uiadd 30 ((3 : Int32) + (Int32.ofNat (own_sg x))) hx hby d288 rfl rfl ?_
          exact gretI hx hret (hb hby d289) (by decide) (by decide) (fun vq Cq => ⟨(congrArg (fun z => some (Value.int z)) (own_size 3 (3 : Int32) (by decide) (Nat.le_antisymm (own_du3 (by omega)) (own_dg3 (by omega))))), ((Keep.refl h0 []).trans K1 all0)⟩)
        · refine uYc 31 hx hby d285 (flt g).2.2.2 (by decide) (by decide) ?_
          have m3 : ¬ own_abs x < 1000 := fun q => g ((own_ltn hle 1000 (by decide) (-1000) (by decide +kernel)).mpr q)
          refine uKb 33 (10 : Int32) hx hby d290 rfl rfl ?_
          refine uIN 34 hx hby d291 rfl rfl ?_
          refine uimul 35 (-10000 : Int32) hx hby d292 rfl (by decide) ?_
          refine uSIN 36 #[vi (negI (own_abs x)), vi (Int32.ofNat (own_sg x)), vi (-10000 : Int32), vi (3 : Int32)] hx hby d293 rfl rfl ?_
          refine uInc 39 #[vi (negI (own_abs x)), vi (Int32.ofNat (own_sg x)), vi (-10000 : Int32), vi (4 : Int32)] hx hby d294 rfl rfl rfl ?_
          refine uG 16 hx hby d295 (by decide) (by decide) ?_
          refine uIN 17 hx hby d280 rfl rfl ?_
          refine uKb 19 (10 : Int32) hx hby d281 rfl rfl ?_
          refine uNc 22 hx hby d282 rfl (tlt (by decide)).2.1 ?_
          refine uIN 23 hx hby d283 rfl rfl ?_
          refine uIN 24 hx hby d284 rfl rfl ?_
          by_cases g : (-10000 : Int32) < (negI (own_abs x))
          · refine uNc 27 hx hby d285 rfl (tlt g).2.2.2 ?_
            have m4 := (own_ltn hle 10000 (by decide) (-10000) (by decide +kernel)).mp g
            refine uIN 28 hx hby d286 rfl rfl ?_
            refine uIN 29 hx hby d287 rfl rfl ?_
            refine uiadd 30 ((4 : Int32) + (Int32.ofNat (own_sg x))) hx hby d288 rfl rfl ?_
            exact gretI hx hret (hb hby d289) (by decide) (by decide) (fun vq Cq => ⟨(congrArg (fun z => some (Value.int z)) (own_size 4 (4 : Int32) (by decide) (Nat.le_antisymm (own_du4 (by omega)) (own_dg4 (by omega))))), ((Keep.refl h0 []).trans K1 all0)⟩)
          · refine uYc 31 hx hby d285 (flt g).2.2.2 (by decide) (by decide) ?_
            have m4 : ¬ own_abs x < 10000 := fun q => g ((own_ltn hle 10000 (by decide) (-10000) (by decide +kernel)).mpr q)
            refine uKb 33 (10 : Int32) hx hby d290 rfl rfl ?_
            refine uIN 34 hx hby d291 rfl rfl ?_
            refine uimul 35 (-100000 : Int32) hx hby d292 rfl (by decide) ?_
            refine uSIN 36 #[vi (negI (own_abs x)), vi (Int32.ofNat (own_sg x)), vi (-100000 : Int32), vi (4 : Int32)] hx hby d293 rfl rfl ?_
            refine uInc 39 #[vi (negI (own_abs x)), vi (Int32.ofNat (own_sg x)), vi (-100000 : Int32), vi (5 : Int32)] hx hby d294 rfl rfl rfl ?_
            refine uG 16 hx hby d295 (by decide) (by decide) ?_
            refine uIN 17 hx hby d280 rfl rfl ?_
            refine uKb 19 (10 : Int32) hx hby d281 rfl rfl ?_
            refine uNc 22 hx hby d282 rfl (tlt (by decide)).2.1 ?_
            refine uIN 23 hx hby d283 rfl rfl ?_
            refine uIN 24 hx hby d284 rfl rfl ?_
            by_cases g : (-100000 : Int32) < (negI (own_abs x))
            · refine uNc 27 hx hby d285 rfl (tlt g).2.2.2 ?_
              have m5 := (own_ltn hle 100000 (by decide) (-100000) (by decide +kernel)).mp g
              refine uIN 28 hx hby d286 rfl rfl ?_
              refine uIN 29 hx hby d287 rfl rfl ?_
              refine uiadd 30 ((5 : Int32) + (Int32.ofNat (own_sg x))) hx hby d288 rfl rfl ?_
              exact gretI hx hret (hb hby d289) (by decide) (by decide) (fun vq Cq => ⟨(congrArg (fun z => some (Value.int z)) (own_size 5 (5 : Int32) (by decide) (Nat.le_antisymm (own_du5 (by omega)) (own_dg5 (by omega))))), ((Keep.refl h0 []).trans K1 all0)⟩)
            · refine uYc 31 hx hby d285 (flt g).2.2.2 (by decide) (by decide) ?_
              have m5 : ¬ own_abs x < 100000 := fun q => g ((own_ltn hle 100000 (by decide) (-100000) (by decide +kernel)).mpr q)
              refine uKb 33 (10 : Int32) hx hby d290 rfl rfl ?_
              refine uIN 34 hx hby d291 rfl rfl ?_
              refine uimul 35 (-1000000 : Int32) hx hby d292 rfl (by decide) ?_
              refine uSIN 36 #[vi (negI (own_abs x)), vi (Int32.ofNat (own_sg x)), vi (-1000000 : Int32), vi (5 : Int32)] hx hby d293 rfl rfl ?_
              refine uInc 39 #[vi (negI (own_abs x)), vi (Int32.ofNat (own_sg x)), vi (-1000000 : Int32), vi (6 : Int32)] hx hby d294 rfl rfl rfl ?_
              refine uG 16 hx hby d295 (by decide) (by decide) ?_
              refine uIN 17 hx hby d280 rfl rfl ?_
              refine uKb 19 (10 : Int32) hx hby d281 rfl rfl ?_
              refine uNc 22 hx hby d282 rfl (tlt (by decide)).2.1 ?_
              refine uIN 23 hx hby d283 rfl rfl ?_
              refine uIN 24 hx hby d284 rfl rfl ?_
              by_cases g : (-1000000 : Int32) < (negI (own_abs x))
              · refine uNc 27 hx hby d285 rfl (tlt g).2.2.2 ?_
                have m6 := (own_ltn hle 1000000 (by decide) (-1000000) (by decide +kernel)).mp g
                refine uIN 28 hx hby d286 rfl rfl ?_
                refine uIN 29 hx hby d287 rfl rfl ?_
                refine uiadd 30 ((6 : Int32) + (Int32.ofNat (own_sg x))) hx hby d288 rfl rfl ?_
                exact gretI hx hret (hb hby d289) (by decide) (by decide) (fun vq Cq => ⟨(congrArg (fun z => some (Value.int z)) (own_size 6 (6 : Int32) (by decide) (Nat.le_antisymm (own_du6 (by omega)) (own_dg6 (by omega))))), ((Keep.refl h0 []).trans K1 all0)⟩)
              · refine uYc 31 hx hby d285 (flt g).2.2.2 (by decide) (by decide) ?_
                have m6 : ¬ own_abs x < 1000000 := fun q => g ((own_ltn hle 1000000 (by decide) (-1000000) (by decide +kernel)).mpr q)
                refine uKb 33 (10 : Int32) hx hby d290 rfl rfl ?_
                refine uIN 34 hx hby d291 rfl rfl ?_
                refine uimul 35 (-10000000 : Int32) hx hby d292 rfl (by decide) ?_
                refine uSIN 36 #[vi (negI (own_abs x)), vi (Int32.ofNat (own_sg x)), vi (-10000000 : Int32), vi (6 : Int32)] hx hby d293 rfl rfl ?_
                refine uInc 39 #[vi (negI (own_abs x)), vi (Int32.ofNat (own_sg x)), vi (-10000000 : Int32), vi (7 : Int32)] hx hby d294 rfl rfl rfl ?_
                refine uG 16 hx hby d295 (by decide) (by decide) ?_
                refine uIN 17 hx hby d280 rfl rfl ?_
                refine uKb 19 (10 : Int32) hx hby d281 rfl rfl ?_
                refine uNc 22 hx hby d282 rfl (tlt (by decide)).2.1 ?_
                refine uIN 23 hx hby d283 rfl rfl ?_
                refine uIN 24 hx hby d284 rfl rfl ?_
                by_cases g : (-10000000 : Int32) < (negI (own_abs x))
                · refine uNc 27 hx hby d285 rfl (tlt g).2.2.2 ?_
                  have m7 := (own_ltn hle 10000000 (by decide) (-10000000) (by decide +kernel)).mp g
                  refine uIN 28 hx hby d286 rfl rfl ?_
                  refine uIN 29 hx hby d287 rfl rfl ?_
                  refine uiadd 30 ((7 : Int32) + (Int32.ofNat (own_sg x))) hx hby d288 rfl rfl ?_
                  exact gretI hx hret (hb hby d289) (by decide) (by decide) (fun vq Cq => ⟨(congrArg (fun z => some (Value.int z)) (own_size 7 (7 : Int32) (by decide) (Nat.le_antisymm (own_du7 (by omega)) (own_dg7 (by omega))))), ((Keep.refl h0 []).trans K1 all0)⟩)
                · refine uYc 31 hx hby d285 (flt g).2.2.2 (by decide) (by decide) ?_
                  have m7 : ¬ own_abs x < 10000000 := fun q => g ((own_ltn hle 10000000 (by decide) (-10000000) (by decide +kernel)).mpr q)
                  refine uKb 33 (10 : Int32) hx hby d290 rfl rfl ?_
                  refine uIN 34 hx hby d291 rfl rfl ?_
                  refine uimul 35 (-100000000 : Int32) hx hby d292 rfl (by decide) ?_
                  refine uSIN 36 #[vi (negI (own_abs x)), vi (Int32.ofNat (own_sg x)), vi (-100000000 : Int32), vi (7 : Int32)] hx hby d293 rfl rfl ?_
                  refine uInc 39 #[vi (negI (own_abs x)), vi (Int32.ofNat (own_sg x)), vi (-100000000 : Int32), vi (8 : Int32)] hx hby d294 rfl rfl rfl ?_
                  refine uG 16 hx hby d295 (by decide) (by decide) ?_
                  refine uIN 17 hx hby d280 rfl rfl ?_
                  refine uKb 19 (10 : Int32) hx hby d281 rfl rfl ?_
                  refine uNc 22 hx hby d282 rfl (tlt (by decide)).2.1 ?_
                  refine uIN 23 hx hby d283 rfl rfl ?_
                  refine uIN 24 hx hby d284 rfl rfl ?_
                  by_cases g : (-100000000 : Int32) < (negI (own_abs x))
                  · refine uNc 27 hx hby d285 rfl (tlt g).2.2.2 ?_
                    have m8 := (own_ltn hle 100000000 (by decide) (-100000000) (by decide +kernel)).mp g
                    refine uIN 28 hx hby d286 rfl rfl ?_
                    refine uIN 29 hx hby d287 rfl rfl ?_
                    refine uiadd 30 ((8 : Int32) + (Int32.ofNat (own_sg x))) hx hby d288 rfl rfl ?_
                    exact gretI hx hret (hb hby d289) (by decide) (by decide) (fun vq Cq => ⟨(congrArg (fun z => some (Value.int z)) (own_size 8 (8 : Int32) (by decide) (Nat.le_antisymm (own_du8 (by omega)) (own_dg8 (by omega))))), ((Keep.refl h0 []).trans K1 all0)⟩)
                  · refine uYc 31 hx hby d285 (flt g).2.2.2 (by decide) (by decide) ?_
                    have m8 : ¬ own_abs x < 100000000 := fun q => g ((own_ltn hle 100000000 (by decide) (-100000000) (by decide +kernel)).mpr q)
                    refine uKb 33 (10 : Int32) hx hby d290 rfl rfl ?_
                    refine uIN 34 hx hby d291 rfl rfl ?_
                    refine uimul 35 (-1000000000 : Int32) hx hby d292 rfl (by decide) ?_
                    refine uSIN 36 #[vi (negI (own_abs x)), vi (Int32.ofNat (own_sg x)), vi (-1000000000 : Int32), vi (8 : Int32)] hx hby d293 rfl rfl ?_
                    refine uInc 39 #[vi (negI (own_abs x)), vi (Int32.ofNat (own_sg x)), vi (-1000000000 : Int32), vi (9 : Int32)] hx hby d294 rfl rfl rfl ?_
                    refine uG 16 hx hby d295 (by decide) (by decide) ?_
                    refine uIN 17 hx hby d280 rfl rfl ?_
                    refine uKb 19 (10 : Int32) hx hby d281 rfl rfl ?_
                    refine uNc 22 hx hby d282 rfl (tlt (by decide)).2.1 ?_
                    refine uIN 23 hx hby d283 rfl rfl ?_
                    refine uIN 24 hx hby d284 rfl rfl ?_
                    by_cases g : (-1000000000 : Int32) < (negI (own_abs x))
                    · refine uNc 27 hx hby d285 rfl (tlt g).2.2.2 ?_
                      have m9 := (own_ltn hle 1000000000 (by decide) (-1000000000) (by decide +kernel)).mp g
                      refine uIN 28 hx hby d286 rfl rfl ?_
                      refine uIN 29 hx hby d287 rfl rfl ?_
                      refine uiadd 30 ((9 : Int32) + (Int32.ofNat (own_sg x))) hx hby d288 rfl rfl ?_
                      exact gretI hx hret (hb hby d289) (by decide) (by decide) (fun vq Cq => ⟨(congrArg (fun z => some (Value.int z)) (own_size 9 (9 : Int32) (by decide) (Nat.le_antisymm (own_du9 (by omega)) (own_dg9 (by omega))))), ((Keep.refl h0 []).trans K1 all0)⟩)
                    · refine uYc 31 hx hby d285 (flt g).2.2.2 (by decide) (by decide) ?_
                      have m9 : ¬ own_abs x < 1000000000 := fun q => g ((own_ltn hle 1000000000 (by decide) (-1000000000) (by decide +kernel)).mpr q)
                      refine uKb 33 (10 : Int32) hx hby d290 rfl rfl ?_
                      refine uIN 34 hx hby d291 rfl rfl ?_
                      refine uimul 35 (-1410065408 : Int32) hx hby d292 rfl (by decide) ?_
                      refine uSIN 36 #[vi (negI (own_abs x)), vi (Int32.ofNat (own_sg x)), vi (-1410065408 : Int32), vi (9 : Int32)] hx hby d293 rfl rfl ?_
                      refine uInc 39 #[vi (negI (own_abs x)), vi (Int32.ofNat (own_sg x)), vi (-1410065408 : Int32), vi (10 : Int32)] hx hby d294 rfl rfl rfl ?_
                      refine uG 16 hx hby d295 (by decide) (by decide) ?_
                      refine uIN 17 hx hby d280 rfl rfl ?_
                      refine uKb 19 (10 : Int32) hx hby d281 rfl rfl ?_
                      refine uYc 42 hx hby d282 (flt (by decide)).2.1 (by decide) (by decide) ?_
                      refine uKb 44 (10 : Int32) hx hby d296 rfl rfl ?_
                      refine uIN 45 hx hby d297 rfl rfl ?_
                      refine uiadd 46 ((10 : Int32) + (Int32.ofNat (own_sg x))) hx hby d298 rfl rfl ?_
                      exact gretI hx hret (hb hby d299) (by decide) (by decide) (fun vq Cq => ⟨(congrArg (fun z => some (Value.int z)) (own_size 10 (10 : Int32) (by decide) (Nat.le_antisymm (own_dn_pos _).2 (own_dg10 (by omega))))), ((Keep.refl h0 []).trans K1 all0)⟩)
  · intro J1
    refine uKc 1 (1 : Int32) hx hby d267 rfl rfl ?_
    refine uSIN 2 #[vi x, vi (1 : Int32), un, un] hx hby d268 rfl rfl ?_
    refine uIN 3 hx hby d269 rfl rfl ?_
    by_cases e1 : x < (0 : Int32)
    · refine uY 11 hx hby d270 ((if0 _ _).trans (tlt e1).1) (by decide) (by decide) ?_
      refine ginfo fun _ Hq _ => ?_
      exact gmono (by decide) (by decide) (J1 _ _ _ ⟨x, (1 : Int32), rfl, (Keep.refl h0 []), (CHr.refl Hq), (own_neg1 e1), (by rw [own_sg, if_pos e1]; rfl)⟩)
    · refine uN 6 hx hby d270 rfl ((if0 _ _).trans (flt e1).1) ?_
      refine uKc 7 (0 : Int32) hx hby d271 rfl rfl ?_
      refine uSIN 8 #[vi x, vi (0 : Int32), un, un] hx hby d272 rfl rfl ?_
      refine uIN 9 hx hby d273 rfl rfl ?_
      refine gs (mkF m 10 #[vi x, vi (0 : Int32), un, un] [(.int (-x))]) (fun _ _ A kq => XS.ineg A hx rfl (hb hby d274) rfl kq) ?_
      refine uSIN 11 #[vi (-x), vi (0 : Int32), un, un] hx hby d275 rfl rfl ?_
      refine ginfo fun _ Hq _ => ?_
      exact gmono (by decide) (by decide) (J1 _ _ _ ⟨(-x), (0 : Int32), rfl, (Keep.refl h0 []), (CHr.refl Hq), (own_neg2 e1), (by rw [own_sg, if_neg e1]; rfl)⟩)
theorem d302 : decode y3_ 0 = .ok (.iload_n 1, 1) := by decide +kernel
theorem d303 : decode y3_ 1 = .ok (.istore 5, 2) := by decide +kernel
theorem d304 : decode y3_ 3 = .ok (.iload_n 0, 1) := by decide +kernel
theorem d305 : decode y3_ 4 = .ok (.ifCond .ge 7, 3) := by decide +kernel
theorem d306 : decode y3_ 7 = .ok (.iconst 1, 1) := by decide +kernel
theorem d307 : decode y3_ 8 = .ok (.goto 4, 3) := by decide +kernel
theorem d308 : decode y3_ 12 = .ok (.istore 6, 2) := by decide +kernel
theorem d309 : decode y3_ 14 = .ok (.iload 6, 2) := by decide +kernel
theorem d310 : decode y3_ 16 = .ok (.ifCond .ne 6, 3) := by decide +kernel
theorem d311 : decode y3_ 11 = .ok (.iconst 0, 1) := by decide +kernel
theorem d312 : decode y3_ 19 = .ok (.iload_n 0, 1) := by decide +kernel
theorem d313 : decode y3_ 20 = .ok (.ineg, 1) := by decide +kernel
theorem d314 : decode y3_ 21 = .ok (.istore_n 0, 1) := by decide +kernel
theorem d315 : decode y3_ 22 = .ok (.iload_n 0, 1) := by decide +kernel
theorem d316 : decode y3_ 23 = .ok (.bipush (-100), 2) := by decide +kernel
theorem d317 : decode y3_ 25 = .ok (.if_icmp .gt 47, 3) := by decide +kernel
theorem d318 : decode y3_ 72 = .ok (.aload_n 2, 1) := by decide +kernel
theorem d319 : decode y3_ 73 = .ok (.iinc 5 (-1), 3) := by decide +kernel
theorem d320 : decode y3_ 76 = .ok (.iload 5, 2) := by decide +kernel
theorem d321 : decode y3_ 78 = .ok (.getstatic 83, 3) := by decide +kernel
theorem d322 : decode y3_ 81 = .ok (.iload_n 0, 1) := by decide +kernel
theorem d323 : decode y3_ 82 = .ok (.ineg, 1) := by decide +kernel
theorem d324 : decode y3_ 83 = .ok (.baload, 1) := by decide +kernel
theorem d325 : decode y3_ 84 = .ok (.bastore, 1) := by decide +kernel
theorem d326 : decode y3_ 85 = .ok (.iload_n 0, 1) := by decide +kernel
theorem d327 : decode y3_ 86 = .ok (.bipush (-9), 2) := by decide +kernel
theorem d328 : decode y3_ 88 = .ok (.if_icmp .ge 16, 3) := by decide +kernel
theorem d329 : decode y3_ 91 = .ok (.aload_n 2, 1) := by decide +kernel
theorem d330 : decode y3_ 92 = .ok (.iinc 5 (-1), 3) := by decide +kernel
theorem d331 : decode y3_ 95 = .ok (.iload 5, 2) := by decide +kernel
theorem d332 : decode y3_ 97 = .ok (.getstatic 87, 3) := by decide +kernel
theorem d333 : decode y3_ 100 = .ok (.iload_n 0, 1) := by decide +kernel
theorem d334 : decode y3_ 101 = .ok (.ineg, 1) := by decide +kernel
theorem d335 : decode y3_ 102 = .ok (.baload, 1) := by decide +kernel
theorem d336 : decode y3_ 103 = .ok (.bastore, 1) := by decide +kernel
theorem d337 : decode y3_ 104 = .ok (.iload 6, 2) := by decide +kernel
theorem d338 : decode y3_ 106 = .ok (.ifCond .eq 12, 3) := by decide +kernel
theorem d339 : decode y3_ 118 = .ok (.iload 5, 2) := by decide +kernel
theorem d340 : decode y3_ 120 = .ok (.ireturn, 1) := by decide +kernel
theorem d341 : decode y3_ 109 = .ok (.aload_n 2, 1) := by decide +kernel
theorem d342 : decode y3_ 110 = .ok (.iinc 5 (-1), 3) := by decide +kernel
theorem d343 : decode y3_ 113 = .ok (.iload 5, 2) := by decide +kernel
theorem d344 : decode y3_ 115 = .ok (.bipush 45, 2) := by decide +kernel
theorem d345 : decode y3_ 117 = .ok (.bastore, 1) := by decide +kernel
theorem d346 : decode y3_ 28 = .ok (.iload_n 0, 1) := by decide +kernel
theorem d347 : decode y3_ 29 = .ok (.bipush 100, 2) := by decide +kernel
theorem d348 : decode y3_ 31 = .ok (.idiv, 1) := by decide +kernel
theorem d349 : decode y3_ 32 = .ok (.istore_n 3, 1) := by decide +kernel
theorem d350 : decode y3_ 33 = .ok (.iload_n 3, 1) := by decide +kernel
theorem d351 : decode y3_ 34 = .ok (.bipush 100, 2) := by decide +kernel
theorem d352 : decode y3_ 36 = .ok (.imul, 1) := by decide +kernel
theorem d353 : decode y3_ 37 = .ok (.iload_n 0, 1) := by decide +kernel
theorem d354 : decode y3_ 38 = .ok (.isub, 1) := by decide +kernel
theorem d355 : decode y3_ 39 = .ok (.istore 4, 2) := by decide +kernel
theorem d356 : decode y3_ 41 = .ok (.iload_n 3, 1) := by decide +kernel
theorem d357 : decode y3_ 42 = .ok (.istore_n 0, 1) := by decide +kernel
theorem d358 : decode y3_ 43 = .ok (.aload_n 2, 1) := by decide +kernel
theorem d359 : decode y3_ 44 = .ok (.iinc 5 (-1), 3) := by decide +kernel
theorem d360 : decode y3_ 47 = .ok (.iload 5, 2) := by decide +kernel
theorem d361 : decode y3_ 49 = .ok (.getstatic 83, 3) := by decide +kernel
theorem d362 : decode y3_ 52 = .ok (.iload 4, 2) := by decide +kernel
theorem d363 : decode y3_ 54 = .ok (.baload, 1) := by decide +kernel
theorem d364 : decode y3_ 55 = .ok (.bastore, 1) := by decide +kernel
theorem d365 : decode y3_ 56 = .ok (.aload_n 2, 1) := by decide +kernel
theorem d366 : decode y3_ 57 = .ok (.iinc 5 (-1), 3) := by decide +kernel
theorem d367 : decode y3_ 60 = .ok (.iload 5, 2) := by decide +kernel
theorem d368 : decode y3_ 62 = .ok (.getstatic 87, 3) := by decide +kernel
theorem d369 : decode y3_ 65 = .ok (.iload 4, 2) := by decide +kernel
theorem d370 : decode y3_ 67 = .ok (.baload, 1) := by decide +kernel
theorem d371 : decode y3_ 68 = .ok (.bastore, 1) := by decide +kernel
theorem d372 : decode y3_ 69 = .ok (.goto (-47), 3) := by decide +kernel
abbrev mn373 : MethodName := ⟨"java/lang/Integer", "getChars", "(II[B)I"⟩
theorem own_getChars (l : Launch) (Z : State) (a0 : Array Value) (cx : Ctx Z a0) (ws : List Jvm.Cond) (x : Int32) (j : Nat) (b : Addr) (kb : ClassId) (M : Nat) (vd : List Value) (vm0 : Vm) (h0 : Heap) (X00 : Ext Z.heap h0) (P0 : Arv Z h0 b kb .byte (Int32.ofNat M) vd (.int (0 : Int32))) (P1 : Z.heap.size ≤ b) (P2 : Safe Z consts_1 vm0 h0 b) (hj : ((j + (own_dec x).length) ≤ M)) (hM : (M ≤ 4000)) (hvd : (vd.length = M)) :
    Met l mn373 y3_ 7 (some .int) ws ({ frames := 0, cells := 0, slots := 0, locals := 0 } : Room) Z consts_1 vm0 h0 #[(.int x), (.int (Int32.ofNat (j + (own_dec x).length))), (.ref b)] (fun rv vm h => rv = some (.int (Int32.ofNat j)) ∧ Keep h0 h [b] ∧ Arv Z h b kb .byte (Int32.ofNat M) (vd.take j ++ lo8s (own_dec x) ++ vd.drop (j + (own_dec x).length)) (.int (0 : Int32)) ∧ Safe Z consts_1 vm h b) := by
  obtain ⟨hw, hEL, ⟨zc, Scs, hzc⟩, ⟨fm, Sfm, hfm⟩, ⟨fe, ft, tt, Sfe, Efe, Fft, Sft⟩, hI0⟩ := id cx
  have hSA := own_SA hw
  refine Met.of_walk (a0 := a0) #[vi x, vi (Int32.ofNat (j + (own_dec x).length)), vr b, un, un, un, un] (plainFor_of_name own_pn301) X00 hEL (fun m => by first | (simp [entryFrame, mkF, argsToLocals, Value.category]; done) | rfl) ?_
  intro p e s m below meth c vm hx hby hml hret hnm hC0 hW0
  have lt_b : h0.size > b := P0.lt
  have L2 := hC0.safe lt_b P2
  obtain ⟨dgo, dgt, kgo, kgt, Sgo, Vgo, Sgt, Vgt⟩ := hI0
  refine ginfo fun _ _ OI => ?_
  have hle := own_abs_le x
  have hD := own_dec_len x
  have hd1 := (own_dn_pos (own_abs x)).1
  have hD2 := own_dec_le x
  have hsgl := own_sg_le x
  have Wdgo := Vgo.ext OI
  have lt_dgo : h0.size > dgo := Wdgo.lt
  have Wdgt := Vgt.ext OI
  have lt_dgt : h0.size > dgt := Wdgt.lt
  have VB : Arv Z h0 b kb .byte (Int32.ofNat M) (own_w vd (j + (own_dec x).length) (j + (own_dec x).length) ([] : List Int32)) (.int (0 : Int32)) := Eq.mp (congrArg (fun z => Arv Z h0 b kb .byte (Int32.ofNat M) z (.int (0 : Int32))) (own_w0 vd (j + (own_dec x).length))) P0
  refine gjoin (fun vmJ hJ gJ => ∃ (nn2 : Int32), ∃ (sg2 : Int32), gJ = (mkF m 22 #[vi nn2, vi (Int32.ofNat (j + (own_dec x).length)), vr b, un, un, vi (Int32.ofNat (j + (own_dec x).length)), vi sg2] []) ∧ Keep h0 hJ [] ∧ CHr Z consts_1 vm h0 vmJ hJ ∧ (nn2 = negI (own_abs x)) ∧ (sg2 = Int32.ofNat (own_sg x))) 0 0 ?_ ?_
  · rintro vm2 h2 _ ⟨nn2, sg2, rfl, K2, C2, q2_0, q2_1⟩
    have z2 := C2.2.1
    refine gat (mkF m 22 #[vi (negI (own_abs x)), vi (Int32.ofNat (j + (own_dec x).length)), vr b, un, un, vi (Int32.ofNat (j + (own_dec x).length)), vi (Int32.ofNat (own_sg x))] []) (by rw [q2_0, q2_1]) ?_
    refine uIN 23 hx hby d315 rfl rfl ?_
    refine uKb 25 (-100 : Int32) hx hby d316 rfl rfl ?_
    by_cases g : (-100 : Int32) < (negI (own_abs x))
    · refine uYc 72 hx hby d317 (tlt g).2.2.1 (by decide) (by decide) ?_
      have m0 := (own_ltn (n := (own_abs x)) (by omega) 100 (by decide) (-100) (by decide +kernel)).mp g
      refine uAN 73 hx hby d318 rfl rfl rfl ?_
      refine uInc 76 #[vi (negI (own_abs x)), vi (Int32.ofNat (j + (own_dec x).length)), vr b, un, un, vi ((Int32.ofNat (j + (own_dec x).length)) + (-1 : Int32)), vi (Int32.ofNat (own_sg x))] hx hby d319 rfl rfl rfl ?_
      refine gat (mkF m 76 #[vi (negI (own_abs x)), vi (Int32.ofNat (j + (own_dec x).length)), vr b, un, un, vi (Int32.ofNat (j + (own_dec x).length - 1)), vi (Int32.ofNat (own_sg x))] [(.ref b)]) (by rw [own_dec1 (a := (j + (own_dec x).length)) (b := (j + (own_dec x).length - 1)) (by omega) (by omega)]) ?_
      refine uI 78 hx hby d320 rfl rfl ?_
      refine ggetS (host := "") hx (Or.inl (ow hw 184 rfl)) Via.refl Sgo 81 (hb hby d321) rfl ?_
      refine uIN 82 hx hby d322 rfl rfl ?_
      refine gs (mkF m 83 #[vi (negI (own_abs x)), vi (Int32.ofNat (j + (own_dec x).length)), vr b, un, un, vi (Int32.ofNat (j + (own_dec x).length - 1)), vi (Int32.ofNat (own_sg x))] [(.int (-(negI (own_abs x)))), (.ref dgo), (.int (Int32.ofNat (j + (own_dec x).length - 1))), (.ref b)]) (fun _ _ A kq => XS.ineg A hx rfl (hb hby d323) rfl kq) ?_
      refine gat (mkF m 83 #[vi (negI (own_abs x)), vi (Int32.ofNat (j + (own_dec x).length)), vr b, un, un, vi (Int32.ofNat (j + (own_dec x).length - 1)), vi (Int32.ofNat (own_sg x))] [(.int (Int32.ofNat ((own_abs x) % 100))), (.ref dgo), (.int (Int32.ofNat (j + (own_dec x).length - 1))), (.ref b)]) (by rw [own_negm (n := (own_abs x)) (by omega)]) ?_
      have f3 := (Wdgo.keep K2 nin0)
      refine gldB hx f3 (own_lt100 _) (i := ((own_abs x) % 100)) (tn (by omega)) (v := (.int (own_dc (own_abs x)))) (own_ones _) 84 (hb hby d324) rfl ?_
      have f4 := (VB.keep K2 nin0)
      have f6 := (C2.safe (show h0.size > b by omega) L2)
      refine gstB hx f4 ⟨nn0 (by omega), (ltOf (by omega) hM).mpr (by omega)⟩ (i := (j + (own_dec x).length - 1)) (tn (by omega)) (by rw [own_wl (by simp only [List.length_cons, List.length_nil]; omega) (by omega), hvd]; omega) (y := ((own_dc (own_abs x)).toInt8.toInt32)) rfl P1 (fun _ => f6) 85 (hb hby d325) rfl ?_
      intro h5 W5 C5 V5
      have z5 := C5.2.1
      have X7 : Arv Z h5 b kb .byte (Int32.ofNat M) (own_w vd (j + (own_dec x).length - 1) (j + (own_dec x).length) [(own_dc (own_abs x))]) (.int (0 : Int32)) := Eq.mp (congrArg (fun z => Arv Z h5 b kb .byte (Int32.ofNat M) z (.int (0 : Int32))) (own_w1 (p := (j + (own_dec x).length)) (q := (j + (own_dec x).length - 1)) (c := (own_dc (own_abs x))) (by omega) (by omega))) V5
      refine uIN 86 hx hby d326 rfl rfl ?_
      refine uKb 88 (-9 : Int32) hx hby d327 rfl rfl ?_
      by_cases g : (negI (own_abs x)) < (-9 : Int32)
      · refine uNc 91 hx hby d328 rfl (tlt g).2.1 ?_
        have m9 := (own_gtn (n := (own_abs x)) (by omega) 9 (by decide) (-9) (by decide +kernel)).mp g
        have hd9 := own_dg2 (n := own_abs x) (by omega)
        refine uAN 92 hx hby d329 rfl rfl rfl ?_
        refine uInc 95 #[vi (negI (own_abs x)), vi (Int32.ofNat (j + (own_dec x).length)), vr b, un, un, vi ((Int32.ofNat (j + (own_dec x).length - 1)) + (-1 : Int32)), vi (Int32.ofNat (own_sg x))] hx hby d330 rfl rfl rfl ?_
        refine gat (mkF m 95 #[vi (negI (own_abs x)), vi (Int32.ofNat (j + (own_dec x).length)), vr b, un, un, vi (Int32.ofNat (j + (own_dec x).length - 2)), vi (Int32.ofNat (own_sg x))] [(.ref b)]) (by rw [own_dec1 (a := (j + (own_dec x).length - 1)) (b := (j + (own_dec x).length - 2)) (by omega) (by omega)]) ?_
        refine uI 97 hx hby d331 rfl rfl ?_
        refine ggetS (host := "") hx (Or.inl (ow hw 229 rfl)) Via.refl Sgt 100 (hb hby d332) rfl ?_
        refine uIN 101 hx hby d333 rfl rfl ?_
        refine gs (mkF m 102 #[vi (negI (own_abs x)), vi (Int32.ofNat (j + (own_dec x).length)), vr b, un, un, vi (Int32.ofNat (j + (own_dec x).length - 2)), vi (Int32.ofNat (own_sg x))] [(.int (-(negI (own_abs x)))), (.ref dgt), (.int (Int32.ofNat (j + (own_dec x).length - 2))), (.ref b)]) (fun _ _ A kq => XS.ineg A hx rfl (hb hby d334) rfl kq) ?_
        refine gat (mkF m 102 #[vi (negI (own_abs x)), vi (Int32.ofNat (j + (own_dec x).length)), vr b, un, un, vi (Int32.ofNat (j + (own_dec x).length - 2)), vi (Int32.ofNat (own_sg x))] [(.int (Int32.ofNat ((own_abs x) % 100))), (.ref dgt), (.int (Int32.ofNat (j + (own_dec x).length - 2))), (.ref b)]) (by rw [own_negm (n := (own_abs x)) (by omega)]) ?_
        have f8 := ((Wdgt.keep K2 nin0).other W5 (Nat.ne_of_lt (Nat.lt_of_lt_of_le Vgt.lt P1)))
        refine gldB hx f8 (own_lt100 _) (i := ((own_abs x) % 100)) (tn (by omega)) (v := (.int (own_dc ((own_abs x) / 10)))) (own_tens _) 103 (hb hby d335) rfl ?_
        have f10 := (C5.safe (show h2.size > b by omega) f6)
        refine gstB hx X7 ⟨nn0 (by omega), (ltOf (by omega) hM).mpr (by omega)⟩ (i := (j + (own_dec x).length - 2)) (tn (by omega)) (by rw [own_wl (by simp only [List.length_cons, List.length_nil]; omega) (by omega), hvd]; omega) (y := ((own_dc ((own_abs x) / 10)).toInt8.toInt32)) rfl P1 (fun _ => f10) 104 (hb hby d336) rfl ?_
        intro h9 W9 C9 V9
        have z9 := C9.2.1
        have X11 : Arv Z h9 b kb .byte (Int32.ofNat M) (own_w vd (j + (own_dec x).length - 2) (j + (own_dec x).length) [(own_dc ((own_abs x) / 10)), (own_dc (own_abs x))]) (.int (0 : Int32)) := Eq.mp (congrArg (fun z => Arv Z h9 b kb .byte (Int32.ofNat M) z (.int (0 : Int32))) (own_w1 (p := (j + (own_dec x).length - 1)) (q := (j + (own_dec x).length - 2)) (c := (own_dc ((own_abs x) / 10))) (by omega) (by omega))) V9
        refine uI 106 hx hby d337 rfl rfl ?_
        by_cases g6 : (Int32.ofNat (own_sg x)) = (0 : Int32)
        · refine uY 118 hx hby d338 ((if0 _ _).trans (teq g6).1) (by decide) (by decide) ?_
          obtain ⟨e6, x6⟩ := own_sg0 g6
          have hdg : own_dn (own_abs x) = 2 := (Nat.le_antisymm (own_du2 (by omega)) (own_dg2 (by omega)))
          refine uI 120 hx hby d339 rfl rfl ?_
          have f13 := (C9.safe (show h5.size > b by omega) f10)
          exact gretI hx hret (hb hby d340) (by decide) (by decide) (fun vq Cq => ⟨(congrArg (fun z => some (Value.int z)) (congrArg Int32.ofNat (by omega))), ((((Keep.refl h0 [b]).trans K2 all0).wr W5 (Or.inl (List.mem_of_getElem? (i := 0) rfl))).wr W9 (Or.inl (List.mem_of_getElem? (i := 0) rfl))), (Eq.mp (congrArg (fun z => Arv Z h9 b kb .byte (Int32.ofNat M) z (.int (0 : Int32))) (own_wend (p := (j + (own_dec x).length - 2)) (ds := [(own_dc ((own_abs x) / 10)), (own_dc (own_abs x))]) (by omega) (by rw [own_dec, if_neg x6, hdg, (own_d100 0 (own_abs x) : own_digs 2 (own_abs x) = _)]; rfl))) X11), (Cq.safe (show h9.size > b by omega) f13)⟩)
        · refine uN 109 hx hby d338 rfl ((if0 _ _).trans (feq g6).1) ?_
          obtain ⟨e6, x6⟩ := own_sg1 g6
          have hdg : own_dn (own_abs x) = 2 := (Nat.le_antisymm (own_du2 (by omega)) (own_dg2 (by omega)))
          refine uAN 110 hx hby d341 rfl rfl rfl ?_
          refine uInc 113 #[vi (negI (own_abs x)), vi (Int32.ofNat (j + (own_dec x).length)), vr b, un, un, vi ((Int32.ofNat (j + (own_dec x).length - 2)) + (-1 : Int32)), vi (Int32.ofNat (own_sg x))] hx hby d342 rfl rfl rfl ?_
          refine gat (mkF m 113 #[vi (negI (own_abs x)), vi (Int32.ofNat (j + (own_dec x).length)), vr b, un, un, vi (Int32.ofNat (j + (own_dec x).length - 3)), vi (Int32.ofNat (own_sg x))] [(.ref b)]) (by rw [own_dec1 (a := (j + (own_dec x).length - 2)) (b := (j + (own_dec x).length - 3)) (by omega) (by omega)]) ?_
          refine uI 115 hx hby d343 rfl rfl ?_
          refine uKb 117 (45 : Int32) hx hby d344 rfl rfl ?_
          have f15 := (C9.safe (show h5.size > b by omega) f10)
          refine gstB hx X11 ⟨nn0 (by omega), (ltOf (by omega) hM).mpr (by omega)⟩ (i := (j + (own_dec x).length - 3)) (tn (by omega)) (by rw [own_wl (by simp only [List.length_cons, List.length_nil]; omega) (by omega), hvd]; omega) (y := ((45 : Int32).toInt8.toInt32)) rfl P1 (fun _ => f15) 118 (hb hby d345) rfl ?_
          intro h14 W14 C14 V14
          have z14 := C14.2.1
          have X16 : Arv Z h14 b kb .byte (Int32.ofNat M) (own_w vd (j + (own_dec x).length - 3) (j + (own_dec x).length) [(45 : Int32), (own_dc ((own_abs x) / 10)), (own_dc (own_abs x))]) (.int (0 : Int32)) := Eq.mp (congrArg (fun z => Arv Z h14 b kb .byte (Int32.ofNat M) z (.int (0 : Int32))) (own_w1 (p := (j + (own_dec x).length - 2)) (q := (j + (own_dec x).length - 3)) (c := (45 : Int32)) (by omega) (by omega))) V14
          refine uI 120 hx hby d339 rfl rfl ?_
          have f18 := (C14.safe (show h9.size > b by omega) f15)
          exact gretI hx hret (hb hby d340) (by decide) (by decide) (fun vq Cq => ⟨(congrArg (fun z => some (Value.int z)) (congrArg Int32.ofNat (by omega))), (((((Keep.refl h0 [b]).trans K2 all0).wr W5 (Or.inl (List.mem_of_getElem? (i := 0) rfl))).wr W9 (Or.inl (List.mem_of_getElem? (i := 0) rfl))).wr W14 (Or.inl (List.mem_of_getElem? (i := 0) rfl))), (Eq.mp (congrArg (fun z => Arv Z h14 b kb .byte (Int32.ofNat M) z (.int (0 : Int32))) (own_wend (p := (j + (own_dec x).length - 3)) (ds := [(45 : Int32), (own_dc ((own_abs x) / 10)), (own_dc (own_abs x))]) (by omega) (by rw [own_dec, if_pos x6, hdg, (own_d100 0 (own_abs x) : own_digs 2 (own_abs x) = _)]; rfl))) X16), (Cq.safe (show h14.size > b by omega) f18)⟩)
      · refine uYc 104 hx hby d328 (flt g).2.1 (by decide) (by decide) ?_
        have m9 : ¬ 9 < (own_abs x) := fun q => g ((own_gtn (n := (own_abs x)) (by omega) 9 (by decide) (-9) (by decide +kernel)).mpr q)
        refine uI 106 hx hby d337 rfl rfl ?_
        by_cases g6 : (Int32.ofNat (own_sg x)) = (0 : Int32)
        · refine uY 118 hx hby d338 ((if0 _ _).trans (teq g6).1) (by decide) (by decide) ?_
          obtain ⟨e6, x6⟩ := own_sg0 g6
          have hdg : own_dn (own_abs x) = 1 := (Nat.le_antisymm (own_du1 (by omega)) (own_dn_pos _).1)
          refine uI 120 hx hby d339 rfl rfl ?_
          have f20 := (C5.safe (show h2.size > b by omega) f6)
          exact gretI hx hret (hb hby d340) (by decide) (by decide) (fun vq Cq => ⟨(congrArg (fun z => some (Value.int z)) (congrArg Int32.ofNat (by omega))), (((Keep.refl h0 [b]).trans K2 all0).wr W5 (Or.inl (List.mem_of_getElem? (i := 0) rfl))), (Eq.mp (congrArg (fun z => Arv Z h5 b kb .byte (Int32.ofNat M) z (.int (0 : Int32))) (own_wend (p := (j + (own_dec x).length - 1)) (ds := [(own_dc (own_abs x))]) (by omega) (by rw [own_dec, if_neg x6, hdg]; rfl))) X7), (Cq.safe (show h5.size > b by omega) f20)⟩)
        · refine uN 109 hx hby d338 rfl ((if0 _ _).trans (feq g6).1) ?_
          obtain ⟨e6, x6⟩ := own_sg1 g6
          have hdg : own_dn (own_abs x) = 1 := (Nat.le_antisymm (own_du1 (by omega)) (own_dn_pos _).1)
          refine uAN 110 hx hby d341 rfl rfl rfl ?_
          refine uInc 113 #[vi (negI (own_abs x)), vi (Int32.ofNat (j + (own_dec x).length)), vr b, un, un, vi ((Int32.ofNat (j + (own_dec x).length - 1)) + (-1 : Int32)), vi (Int32.ofNat (own_sg x))] hx hby d342 rfl rfl rfl ?_
          refine gat (mkF m 113 #[vi (negI (own_abs x)), vi (Int32.ofNat (j + (own_dec x).length)), vr b, un, un, vi (Int32.ofNat (j + (own_dec x).length - 2)), vi (Int32.ofNat (own_sg x))] [(.ref b)]) (by rw [own_dec1 (a := (j + (own_dec x).length - 1)) (b := (j + (own_dec x).length - 2)) (by omega) (by omega)]) ?_
          refine uI 115 hx hby d343 rfl rfl ?_
          refine uKb 117 (45 : Int32) hx hby d344 rfl rfl ?_
          have f22 := (C5.safe (show h2.size > b by omega) f6)
          refine gstB hx X7 ⟨nn0 (by omega), (ltOf (by omega) hM).mpr (by omega)⟩ (i := (j + (own_dec x).length - 2)) (tn (by omega)) (by rw [own_wl (by simp only [List.length_cons, List.length_nil]; omega) (by omega), hvd]; omega) (y := ((45 : Int32).toInt8.toInt32)) rfl P1 (fun _ => f22) 118 (hb hby d345) rfl ?_
          intro h21 W21 C21 V21
          have z21 := C21.2.1
          have X23 : Arv Z h21 b kb .byte (Int32.ofNat M) (own_w vd (j + (own_dec x).length - 2) (j + (own_dec x).length) [(45 : Int32), (own_dc (own_abs x))]) (.int (0 : Int32)) := Eq.mp (congrArg (fun z => Arv Z h21 b kb .byte (Int32.ofNat M) z (.int (0 : Int32))) (own_w1 (p := (j + (own_dec x).length - 1)) (q := (j + (own_dec x).length - 2)) (c := (45 : Int32)) (by omega) (by omega))) V21
          refine uI 120 hx hby d339 rfl rfl ?_
          have f25 := (C21.safe (show h5.size > b by omega) f22)
          exact gretI hx hret (hb hby d340) (by decide) (by decide) (fun vq Cq => ⟨(congrArg (fun z => some (Value.int z)) (congrArg Int32.ofNat (by omega))), ((((Keep.refl h0 [b]).trans K2 all0).wr W5 (Or.inl (List.mem_of_getElem? (i := 0) rfl))).wr W21 (Or.inl (List.mem_of_getElem? (i := 0) rfl))), (Eq.mp (congrArg (fun z => Arv Z h21 b kb .byte (Int32.ofNat M) z (.int (0 : Int32))) (own_wend (p := (j + (own_dec x).length - 2)) (ds := [(45 : Int32), (own_dc (own_abs x))]) (by omega) (by rw [own_dec, if_pos x6, hdg]; rfl))) X23), (Cq.safe (show h21.size > b by omega) f25)⟩)
    · refine uNc 28 hx hby d317 rfl (flt g).2.2.1 ?_
      have m0 : ¬ (own_abs x) < 100 := fun q => g ((own_ltn (n := (own_abs x)) (by omega) 100 (by decide) (-100) (by decide +kernel)).mpr q)
      have hd2 := own_dg3 (n := own_abs x) (by omega)
      refine uIN 29 hx hby d346 rfl rfl ?_
      refine uKb 31 (100 : Int32) hx hby d347 rfl rfl ?_
      refine gs (mkF m 32 #[vi (negI (own_abs x)), vi (Int32.ofNat (j + (own_dec x).length)), vr b, un, un, vi (Int32.ofNat (j + (own_dec x).length)), vi (Int32.ofNat (own_sg x))] [(.int ((negI (own_abs x)) / (100 : Int32)))]) (fun _ _ A kq => XS.idiv A hx rfl (hb hby d348) rfl (by decide) kq) ?_
      refine gat (mkF m 32 #[vi (negI (own_abs x)), vi (Int32.ofNat (j + (own_dec x).length)), vr b, un, un, vi (Int32.ofNat (j + (own_dec x).length)), vi (Int32.ofNat (own_sg x))] [(.int (negI ((own_abs x) / 100)))]) (by rw [negI_div100 (n := (own_abs x)) (by omega)]) ?_
      refine uSIN 33 #[vi (negI (own_abs x)), vi (Int32.ofNat (j + (own_dec x).length)), vr b, vi (negI ((own_abs x) / 100)), un, vi (Int32.ofNat (j + (own_dec x).length)), vi (Int32.ofNat (own_sg x))] hx hby d349 rfl rfl ?_
      refine uIN 34 hx hby d350 rfl rfl ?_
      refine uKb 36 (100 : Int32) hx hby d351 rfl rfl ?_
      refine uimul 37 ((negI ((own_abs x) / 100)) * (100 : Int32)) hx hby d352 rfl rfl ?_
      refine uIN 38 hx hby d353 rfl rfl ?_
      refine uisub 39 (((negI ((own_abs x) / 100)) * (100 : Int32)) - (negI (own_abs x))) hx hby d354 rfl rfl ?_
      refine gat (mkF m 39 #[vi (negI (own_abs x)), vi (Int32.ofNat (j + (own_dec x).length)), vr b, vi (negI ((own_abs x) / 100)), un, vi (Int32.ofNat (j + (own_dec x).length)), vi (Int32.ofNat (own_sg x))] [(.int (Int32.ofNat ((own_abs x) % 100)))]) (by rw [negI_rem (n := (own_abs x)) (by omega)]) ?_
      refine uSI 41 #[vi (negI (own_abs x)), vi (Int32.ofNat (j + (own_dec x).length)), vr b, vi (negI ((own_abs x) / 100)), vi (Int32.ofNat ((own_abs x) % 100)), vi (Int32.ofNat (j + (own_dec x).length)), vi (Int32.ofNat (own_sg x))] hx hby d355 rfl rfl ?_
      refine uIN 42 hx hby d356 rfl rfl ?_
      refine uSIN 43 #[vi (negI ((own_abs x) / 100)), vi (Int32.ofNat (j + (own_dec x).length)), vr b, vi (negI ((own_abs x) / 100)), vi (Int32.ofNat ((own_abs x) % 100)), vi (Int32.ofNat (j + (own_dec x).length)), vi (Int32.ofNat (own_sg x))] hx hby d357 rfl rfl ?_
      refine uAN 44 hx hby d358 rfl rfl rfl ?_
      refine uInc 47 #[vi (negI ((own_abs x) / 100)), vi (Int32.ofNat (j + (own_dec x).length)), vr b, vi (negI ((own_abs x) / 100)), vi (Int32.ofNat ((own_abs x) % 100)), vi ((Int32.ofNat (j + (own_dec x).length)) + (-1 : Int32)), vi (Int32.ofNat (own_sg x))] hx hby d359 rfl rfl rfl ?_
      refine gat (mkF m 47 #[vi (negI ((own_abs x) / 100)), vi (Int32.ofNat (j + (own_dec x).length)), vr b, vi (negI ((own_abs x) / 100)), vi (Int32.ofNat ((own_abs x) % 100)), vi (Int32.ofNat (j + (own_dec x).length - 1)), vi (Int32.ofNat (own_sg x))] [(.ref b)]) (by rw [own_dec1 (a := (j + (own_dec x).length)) (b := (j + (own_dec x).length - 1)) (by omega) (by omega)]) ?_
      refine uI 49 hx hby d360 rfl rfl ?_
      refine ggetS (host := "") hx (Or.inl (ow hw 184 rfl)) Via.refl Sgo 52 (hb hby d361) rfl ?_
      refine uI 54 hx hby d362 rfl rfl ?_
      have f26 := (Wdgo.keep K2 nin0)
      refine gldB hx f26 (own_lt100 _) (i := ((own_abs x) % 100)) (tn (by omega)) (v := (.int (own_dc (own_abs x)))) (own_ones _) 55 (hb hby d363) rfl ?_
      have f27 := (VB.keep K2 nin0)
      have f29 := (C2.safe (show h0.size > b by omega) L2)
      refine gstB hx f27 ⟨nn0 (by omega), (ltOf (by omega) hM).mpr (by omega)⟩ (i := (j + (own_dec x).length - 1)) (tn (by omega)) (by rw [own_wl (by simp only [List.length_cons, List.length_nil]; omega) (by omega), hvd]; omega) (y := ((own_dc (own_abs x)).toInt8.toInt32)) rfl P1 (fun _ => f29) 56 (hb hby d364) rfl ?_
      intro h28 W28 C28 V28
      have z28 := C28.2.1
      have X30 : Arv Z h28 b kb .byte (Int32.ofNat M) (own_w vd (j + (own_dec x).length - 1) (j + (own_dec x).length) [(own_dc (own_abs x))]) (.int (0 : Int32)) := Eq.mp (congrArg (fun z => Arv Z h28 b kb .byte (Int32.ofNat M) z (.int (0 : Int32))) (own_w1 (p := (j + (own_dec x).length)) (q := (j + (own_dec x).length - 1)) (c := (own_dc (own_abs x))) (by omega) (by omega))) V28
      refine uAN 57 hx hby d365 rfl rfl rfl ?_
      refine uInc 60 #[vi (negI ((own_abs x) / 100)), vi (Int32.ofNat (j + (own_dec x).length)), vr b, vi (negI ((own_abs x) / 100)), vi (Int32.ofNat ((own_abs x) % 100)), vi ((Int32.ofNat (j + (own_dec x).length - 1)) + (-1 : Int32)), vi (Int32.ofNat (own_sg x))] hx hby d366 rfl rfl rfl ?_
      refine gat (mkF m 60 #[vi (negI ((own_abs x) / 100)), vi (Int32.ofNat (j + (own_dec x).length)), vr b, vi (negI ((own_abs x) / 100)), vi (Int32.ofNat ((own_abs x) % 100)), vi (Int32.ofNat (j + (own_dec x).length - 2)), vi (Int32.ofNat (own_sg x))] [(.ref b)]) (by rw [own_dec1 (a := (j + (own_dec x).length - 1)) (b := (j + (own_dec x).length - 2)) (by omega) (by omega)]) ?_
      refine uI 62 hx hby d367 rfl rfl ?_
      refine ggetS (host := "") hx (Or.inl (ow hw 229 rfl)) Via.refl Sgt 65 (hb hby d368) rfl ?_
      refine uI 67 hx hby d369 rfl rfl ?_
      have f31 := ((Wdgt.keep K2 nin0).other W28 (Nat.ne_of_lt (Nat.lt_of_lt_of_le Vgt.lt P1)))
      refine gldB hx f31 (own_lt100 _) (i := ((own_abs x) % 100)) (tn (by omega)) (v := (.int (own_dc ((own_abs x) / 10)))) (own_tens _) 68 (hb hby d370) rfl ?_
      have f33 := (C28.safe (show h2.size > b by omega) f29)
      refine gstB hx X30 ⟨nn0 (by omega), (ltOf (by omega) hM).mpr (by omega)⟩ (i := (j + (own_dec x).length - 2)) (tn (by omega)) (by rw [own_wl (by simp only [List.length_cons, List.length_nil]; omega) (by omega), hvd]; omega) (y := ((own_dc ((own_abs x) / 10)).toInt8.toInt32)) rfl P1 (fun _ => f33) 69 (hb hby d371) rfl ?_
      intro h32 W32 C32 V32
      have z32 := C32.2.1
      have X34 : Arv Z h32 b kb .byte (Int32.ofNat M) (own_w vd (j + (own_dec x).length - 2) (j + (own_dec x).length) [(own_dc ((own_abs x) / 10)), (own_dc (own_abs x))]) (.int (0 : Int32)) := Eq.mp (congrArg (fun z => Arv Z h32 b kb .byte (Int32.ofNat M) z (.int (0 : Int32))) (own_w1 (p := (j + (own_dec x).length - 1)) (q := (j + (own_dec x).length - 2)) (c := (own_dc ((own_abs x) / 10))) (by omega) (by omega))) V32
      refine uG 22 hx hby d372 (by decide) (by decide) ?_
      refine uIN 23 hx hby d315 rfl rfl ?_
      refine uKb 25 (-100 : Int32) hx hby d316 rfl rfl ?_
      by_cases g : (-100 : Int32) < (negI ((own_abs x) / 100))
      · refine uYc 72 hx hby d317 (tlt g).2.2.1 (by decide) (by decide) ?_
        have m1 := (own_ltn (n := ((own_abs x) / 100)) (by omega) 100 (by decide) (-100) (by decide +kernel)).mp g
        refine uAN 73 hx hby d318 rfl rfl rfl ?_
        refine uInc 76 #[vi (negI ((own_abs x) / 100)), vi (Int32.ofNat (j + (own_dec x).length)), vr b, vi (negI ((own_abs x) / 100)), vi (Int32.ofNat ((own_abs x) % 100)), vi ((Int32.ofNat (j + (own_dec x).length - 2)) + (-1 : Int32)), vi (Int32.ofNat (own_sg x))] hx hby d319 rfl rfl rfl ?_
        refine gat (mkF m 76 #[vi (negI ((own_abs x) / 100)), vi (Int32.ofNat (j + (own_dec x).length)), vr b, vi (negI ((own_abs x) / 100)), vi (Int32.ofNat ((own_abs x) % 100)), vi (Int32.ofNat (j + (own_dec x).length - 3)), vi (Int32.ofNat (own_sg x))] [(.ref b)]) (by rw [own_dec1 (a := (j + (own_dec x).length - 2)) (b := (j + (own_dec x).length - 3)) (by omega) (by omega)]) ?_
        refine uI 78 hx hby d320 rfl rfl ?_
        refine ggetS (host := "") hx (Or.inl (ow hw 184 rfl)) Via.refl Sgo 81 (hb hby d321) rfl ?_
        refine uIN 82 hx hby d322 rfl rfl ?_
        refine gs (mkF m 83 #[vi (negI ((own_abs x) / 100)), vi (Int32.ofNat (j + (own_dec x).length)), vr b, vi (negI ((own_abs x) / 100)), vi (Int32.ofNat ((own_abs x) % 100)), vi (Int32.ofNat (j + (own_dec x).length - 3)), vi (Int32.ofNat (own_sg x))] [(.int (-(negI ((own_abs x) / 100)))), (.ref dgo), (.int (Int32.ofNat (j + (own_dec x).length - 3))), (.ref b)]) (fun _ _ A kq => XS.ineg A hx rfl (hb hby d323) rfl kq) ?_
        refine gat (mkF m 83 #[vi (negI ((own_abs x) / 100)), vi (Int32.ofNat (j + (own_dec x).length)), vr b, vi (negI ((own_abs x) / 100)), vi (Int32.ofNat ((own_abs x) % 100)), vi (Int32.ofNat (j + (own_dec x).length - 3)), vi (Int32.ofNat (own_sg x))] [(.int (Int32.ofNat (((own_abs x) / 100) % 100))), (.ref dgo), (.int (Int32.ofNat (j + (own_dec x).length - 3))), (.ref b)]) (by rw [own_negm (n := ((own_abs x) / 100)) (by omega)]) ?_
        have f35 := ((f26.other W28 (Nat.ne_of_lt (Nat.lt_of_lt_of_le Vgo.lt P1))).other W32 (Nat.ne_of_lt (Nat.lt_of_lt_of_le Vgo.lt P1)))
        refine gldB hx f35 (own_lt100 _) (i := (((own_abs x) / 100) % 100)) (tn (by omega)) (v := (.int (own_dc ((own_abs x) / 100)))) (own_ones _) 84 (hb hby d324) rfl ?_
        have f37 := (C32.safe (show h28.size > b by omega) f33)
        refine gstB hx X34 ⟨nn0 (by omega), (ltOf (by omega) hM).mpr (by omega)⟩ (i := (j + (own_dec x).length - 3)) (tn (by omega)) (by rw [own_wl (by simp only [List.length_cons, List.length_nil]; omega) (by omega), hvd]; omega) (y := ((own_dc ((own_abs x) / 100)).toInt8.toInt32)) rfl P1 (fun _ => f37) 85 (hb hby d325) rfl ?_
        intro h36 W36 C36 V36
        have z36 := C36.2.1
        have X38 : Arv Z h36 b kb .byte (Int32.ofNat M) (own_w vd (j + (own_dec x).length - 3) (j + (own_dec x).length) [(own_dc ((own_abs x) / 100)), (own_dc ((own_abs x) / 10)), (own_dc (own_abs x))]) (.int (0 : Int32)) := Eq.mp (congrArg (fun z => Arv Z h36 b kb .byte (Int32.ofNat M) z (.int (0 : Int32))) (own_w1 (p := (j + (own_dec x).length - 2)) (q := (j + (own_dec x).length - 3)) (c := (own_dc ((own_abs x) / 100))) (by omega) (by omega))) V36
        refine uIN 86 hx hby d326 rfl rfl ?_
        refine uKb 88 (-9 : Int32) hx hby d327 rfl rfl ?_
        by_cases g : (negI ((own_abs x) / 100)) < (-9 : Int32)
        · refine uNc 91 hx hby d328 rfl (tlt g).2.1 ?_
          have m9 := (own_gtn (n := ((own_abs x) / 100)) (by omega) 9 (by decide) (-9) (by decide +kernel)).mp g
          have hd9 := own_dg4 (n := own_abs x) (by omega)
          refine uAN 92 hx hby d329 rfl rfl rfl ?_
          refine uInc 95 #[vi (negI ((own_abs x) / 100)), vi (Int32.ofNat (j + (own_dec x).length)), vr b, vi (negI ((own_abs x) / 100)), vi (Int32.ofNat ((own_abs x) % 100)), vi ((Int32.ofNat (j + (own_dec x).length - 3)) + (-1 : Int32)), vi (Int32.ofNat (own_sg x))] hx hby d330 rfl rfl rfl ?_
          refine gat (mkF m 95 #[vi (negI ((own_abs x) / 100)), vi (Int32.ofNat (j + (own_dec x).length)), vr b, vi (negI ((own_abs x) / 100)), vi (Int32.ofNat ((own_abs x) % 100)), vi (Int32.ofNat (j + (own_dec x).length - 4)), vi (Int32.ofNat (own_sg x))] [(.ref b)]) (by rw [own_dec1 (a := (j + (own_dec x).length - 3)) (b := (j + (own_dec x).length - 4)) (by omega) (by omega)]) ?_
          refine uI 97 hx hby d331 rfl rfl ?_
          refine ggetS (host := "") hx (Or.inl (ow hw 229 rfl)) Via.refl Sgt 100 (hb hby d332) rfl ?_
          refine uIN 101 hx hby d333 rfl rfl ?_
          refine gs (mkF m 102 #[vi (negI ((own_abs x) / 100)), vi (Int32.ofNat (j + (own_dec x).length)), vr b, vi (negI ((own_abs x) / 100)), vi (Int32.ofNat ((own_abs x) % 100)), vi (Int32.ofNat (j + (own_dec x).length - 4)), vi (Int32.ofNat (own_sg x))] [(.int (-(negI ((own_abs x) / 100)))), (.ref dgt), (.int (Int32.ofNat (j + (own_dec x).length - 4))), (.ref b)]) (fun _ _ A kq => XS.ineg A hx rfl (hb hby d334) rfl kq) ?_
          refine gat (mkF m 102 #[vi (negI ((own_abs x) / 100)), vi (Int32.ofNat (j + (own_dec x).length)), vr b, vi (negI ((own_abs x) / 100)), vi (Int32.ofNat ((own_abs x) % 100)), vi (Int32.ofNat (j + (own_dec x).length - 4)), vi (Int32.ofNat (own_sg x))] [(.int (Int32.ofNat (((own_abs x) / 100) % 100))), (.ref dgt), (.int (Int32.ofNat (j + (own_dec x).length - 4))), (.ref b)]) (by rw [own_negm (n := ((own_abs x) / 100)) (by omega)]) ?_
          have f39 := ((f31.other W32 (Nat.ne_of_lt (Nat.lt_of_lt_of_le Vgt.lt P1))).other W36 (Nat.ne_of_lt (Nat.lt_of_lt_of_le Vgt.lt P1)))
          refine gldB hx f39 (own_lt100 _) (i := (((own_abs x) / 100) % 100)) (tn (by omega)) (v := (.int (own_dc (((own_abs x) / 100) / 10)))) (own_tens _) 103 (hb hby d335) rfl ?_
          have f41 := (C36.safe (show h32.size > b by omega) f37)
          refine gstB hx X38 ⟨nn0 (by omega), (ltOf (by omega) hM).mpr (by omega)⟩ (i := (j + (own_dec x).length - 4)) (tn (by omega)) (by rw [own_wl (by simp only [List.length_cons, List.length_nil]; omega) (by omega), hvd]; omega) (y := ((own_dc (((own_abs x) / 100) / 10)).toInt8.toInt32)) rfl P1 (fun _ => f41) 104 (hb hby d336) rfl ?_
          intro h40 W40 C40 V40
          have z40 := C40.2.1
          have X42 : Arv Z h40 b kb .byte (Int32.ofNat M) (own_w vd (j + (own_dec x).length - 4) (j + (own_dec x).length) [(own_dc (((own_abs x) / 100) / 10)), (own_dc ((own_abs x) / 100)), (own_dc ((own_abs x) / 10)), (own_dc (own_abs x))]) (.int (0 : Int32)) := Eq.mp (congrArg (fun z => Arv Z h40 b kb .byte (Int32.ofNat M) z (.int (0 : Int32))) (own_w1 (p := (j + (own_dec x).length - 3)) (q := (j + (own_dec x).length - 4)) (c := (own_dc (((own_abs x) / 100) / 10))) (by omega) (by omega))) V40
          refine uI 106 hx hby d337 rfl rfl ?_
          by_cases g6 : (Int32.ofNat (own_sg x)) = (0 : Int32)
          · refine uY 118 hx hby d338 ((if0 _ _).trans (teq g6).1) (by decide) (by decide) ?_
            obtain ⟨e6, x6⟩ := own_sg0 g6
            have hdg : own_dn (own_abs x) = 4 := (Nat.le_antisymm (own_du4 (by omega)) (own_dg4 (by omega)))
            refine uI 120 hx hby d339 rfl rfl ?_
            have f44 := (C40.safe (show h36.size > b by omega) f41)
            exact gretI hx hret (hb hby d340) (by decide) (by decide) (fun vq Cq => ⟨(congrArg (fun z => some (Value.int z)) (congrArg Int32.ofNat (by omega))), ((((((Keep.refl h0 [b]).trans K2 all0).wr W28 (Or.inl (List.mem_of_getElem? (i := 0) rfl))).wr W32 (Or.inl (List.mem_of_getElem? (i := 0) rfl))).wr W36 (Or.inl (List.mem_of_getElem? (i := 0) rfl))).wr W40 (Or.inl (List.mem_of_getElem? (i := 0) rfl))), (Eq.mp (congrArg (fun z => Arv Z h40 b kb .byte (Int32.ofNat M) z (.int (0 : Int32))) (own_wend (p := (j + (own_dec x).length - 4)) (ds := [(own_dc (((own_abs x) / 100) / 10)), (own_dc ((own_abs x) / 100)), (own_dc ((own_abs x) / 10)), (own_dc (own_abs x))]) (by omega) (by rw [own_dec, if_neg x6, hdg, (own_d100 2 (own_abs x) : own_digs 4 (own_abs x) = _), (own_d100 0 ((own_abs x) / 100) : own_digs 2 ((own_abs x) / 100) = _)]; rfl))) X42), (Cq.safe (show h40.size > b by omega) f44)⟩)
          · refine uN 109 hx hby d338 rfl ((if0 _ _).trans (feq g6).1) ?_
            obtain ⟨e6, x6⟩ := own_sg1 g6
            have hdg : own_dn (own_abs x) = 4 := (Nat.le_antisymm (own_du4 (by omega)) (own_dg4 (by omega)))
            refine uAN 110 hx hby d341 rfl rfl rfl ?_
            refine uInc 113 #[vi (negI ((own_abs x) / 100)), vi (Int32.ofNat (j + (own_dec x).length)), vr b, vi (negI ((own_abs x) / 100)), vi (Int32.ofNat ((own_abs x) % 100)), vi ((Int32.ofNat (j + (own_dec x).length - 4)) + (-1 : Int32)), vi (Int32.ofNat (own_sg x))] hx hby d342 rfl rfl rfl ?_
            refine gat (mkF m 113 #[vi (negI ((own_abs x) / 100)), vi (Int32.ofNat (j + (own_dec x).length)), vr b, vi (negI ((own_abs x) / 100)), vi (Int32.ofNat ((own_abs x) % 100)), vi (Int32.ofNat (j + (own_dec x).length - 5)), vi (Int32.ofNat (own_sg x))] [(.ref b)]) (by rw [own_dec1 (a := (j + (own_dec x).length - 4)) (b := (j + (own_dec x).length - 5)) (by omega) (by omega)]) ?_
            refine uI 115 hx hby d343 rfl rfl ?_
            refine uKb 117 (45 : Int32) hx hby d344 rfl rfl ?_
            have f46 := (C40.safe (show h36.size > b by omega) f41)
            refine gstB hx X42 ⟨nn0 (by omega), (ltOf (by omega) hM).mpr (by omega)⟩ (i := (j + (own_dec x).length - 5)) (tn (by omega)) (by rw [own_wl (by simp only [List.length_cons, List.length_nil]; omega) (by omega), hvd]; omega) (y := ((45 : Int32).toInt8.toInt32)) rfl P1 (fun _ => f46) 118 (hb hby d345) rfl ?_
            intro h45 W45 C45 V45
            have z45 := C45.2.1
            have X47 : Arv Z h45 b kb .byte (Int32.ofNat M) (own_w vd (j + (own_dec x).length - 5) (j + (own_dec x).length) [(45 : Int32), (own_dc (((own_abs x) / 100) / 10)), (own_dc ((own_abs x) / 100)), (own_dc ((own_abs x) / 10)), (own_dc (own_abs x))]) (.int (0 : Int32)) := Eq.mp (congrArg (fun z => Arv Z h45 b kb .byte (Int32.ofNat M) z (.int (0 : Int32))) (own_w1 (p := (j + (own_dec x).length - 4)) (q := (j + (own_dec x).length - 5)) (c := (45 : Int32)) (by omega) (by omega))) V45
            refine uI 120 hx hby d339 rfl rfl ?_
            have f49 := (C45.safe (show h40.size > b by omega) f46)
            exact gretI hx hret (hb hby d340) (by decide) (by decide) (fun vq Cq => ⟨(congrArg (fun z => some (Value.int z)) (congrArg Int32.ofNat (by omega))), (((((((Keep.refl h0 [b]).trans K2 all0).wr W28 (Or.inl (List.mem_of_getElem? (i := 0) rfl))).wr W32 (Or.inl (List.mem_of_getElem? (i := 0) rfl))).wr W36 (Or.inl (List.mem_of_getElem? (i := 0) rfl))).wr W40 (Or.inl (List.mem_of_getElem? (i := 0) rfl))).wr W45 (Or.inl (List.mem_of_getElem? (i := 0) rfl))), (Eq.mp (congrArg (fun z => Arv Z h45 b kb .byte (Int32.ofNat M) z (.int (0 : Int32))) (own_wend (p := (j + (own_dec x).length - 5)) (ds := [(45 : Int32), (own_dc (((own_abs x) / 100) / 10)), (own_dc ((own_abs x) / 100)), (own_dc ((own_abs x) / 10)), (own_dc (own_abs x))]) (by omega) (by rw [own_dec, if_pos x6, hdg, (own_d100 2 (own_abs x) : own_digs 4 (own_abs x) = _), (own_d100 0 ((own_abs x) / 100) : own_digs 2 ((own_abs x) / 100) = _)]; rfl))) X47), (Cq.safe (show h45.size > b by omega) f49)⟩)
        · refine uYc 104 hx hby d328 (flt g).2.1 (by decide) (by decide) ?_
          have m9 : ¬ 9 < ((own_abs x) / 100) := fun q => g ((own_gtn (n := ((own_abs x) / 100)) (by omega) 9 (by decide) (-9) (by decide +kernel)).mpr q)
          refine uI 106 hx hby d337 rfl rfl ?_
          by_cases g6 : (Int32.ofNat (own_sg x)) = (0 : Int32)
          · refine uY 118 hx hby d338 ((if0 _ _).trans (teq g6).1) (by decide) (by decide) ?_
            obtain ⟨e6, x6⟩ := own_sg0 g6
            have hdg : own_dn (own_abs x) = 3 := (Nat.le_antisymm (own_du3 (by omega)) (own_dg3 (by omega)))
            refine uI 120 hx hby d339 rfl rfl ?_
            have f51 := (C36.safe (show h32.size > b by omega) f37)
            exact gretI hx hret (hb hby d340) (by decide) (by decide) (fun vq Cq => ⟨(congrArg (fun z => some (Value.int z)) (congrArg Int32.ofNat (by omega))), (((((Keep.refl h0 [b]).trans K2 all0).wr W28 (Or.inl (List.mem_of_getElem? (i := 0) rfl))).wr W32 (Or.inl (List.mem_of_getElem? (i := 0) rfl))).wr W36 (Or.inl (List.mem_of_getElem? (i := 0) rfl))), (Eq.mp (congrArg (fun z => Arv Z h36 b kb .byte (Int32.ofNat M) z (.int (0 : Int32))) (own_wend (p := (j + (own_dec x).length - 3)) (ds := [(own_dc ((own_abs x) / 100)), (own_dc ((own_abs x) / 10)), (own_dc (own_abs x))]) (by omega) (by rw [own_dec, if_neg x6, hdg, (own_d100 1 (own_abs x) : own_digs 3 (own_abs x) = _)]; rfl))) X38), (Cq.safe (show h36.size > b by omega) f51)⟩)
          · refine uN 109 hx hby d338 rfl ((if0 _ _).trans (feq g6).1) ?_
            obtain ⟨e6, x6⟩ := own_sg1 g6
            have hdg : own_dn (own_abs x) = 3 := (Nat.le_antisymm (own_du3 (by omega)) (own_dg3 (by omega)))
            refine uAN 110 hx hby d341 rfl rfl rfl ?_
            refine uInc 113 #[vi (negI ((own_abs x) / 100)), vi (Int32.ofNat (j + (own_dec x).length)), vr b, vi (negI ((own_abs x) / 100)), vi (Int32.ofNat ((own_abs x) % 100)), vi ((Int32.ofNat (j + (own_dec x).length - 3)) + (-1 : Int32)), vi (Int32.ofNat (own_sg x))] hx hby d342 rfl rfl rfl ?_
            refine gat (mkF m 113 #[vi (negI ((own_abs x) / 100)), vi (Int32.ofNat (j + (own_dec x).length)), vr b, vi (negI ((own_abs x) / 100)), vi (Int32.ofNat ((own_abs x) % 100)), vi (Int32.ofNat (j + (own_dec x).length - 4)), vi (Int32.ofNat (own_sg x))] [(.ref b)]) (by rw [own_dec1 (a := (j + (own_dec x).length - 3)) (b := (j + (own_dec x).length - 4)) (by omega) (by omega)]) ?_
            refine uI 115 hx hby d343 rfl rfl ?_
            refine uKb 117 (45 : Int32) hx hby d344 rfl rfl ?_
            have f53 := (C36.safe (show h32.size > b by omega) f37)
            refine gstB hx X38 ⟨nn0 (by omega), (ltOf (by omega) hM).mpr (by omega)⟩ (i := (j + (own_dec x).length - 4)) (tn (by omega)) (by rw [own_wl (by simp only [List.length_cons, List.length_nil]; omega) (by omega), hvd]; omega) (y := ((45 : Int32).toInt8.toInt32)) rfl P1 (fun _ => f53) 118 (hb hby d345) rfl ?_
            intro h52 W52 C52 V52
            have z52 := C52.2.1
            have X54 : Arv Z h52 b kb .byte (Int32.ofNat M) (own_w vd (j + (own_dec x).length - 4) (j + (own_dec x).length) [(45 : Int32), (own_dc ((own_abs x) / 100)), (own_dc ((own_abs x) / 10)), (own_dc (own_abs x))]) (.int (0 : Int32)) := Eq.mp (congrArg (fun z => Arv Z h52 b kb .byte (Int32.ofNat M) z (.int (0 : Int32))) (own_w1 (p := (j + (own_dec x).length - 3)) (q := (j + (own_dec x).length - 4)) (c := (45 : Int32)) (by omega) (by omega))) V52
            refine uI 120 hx hby d339 rfl rfl ?_
            have f56 := (C52.safe (show h36.size > b by omega) f53)
            exact gretI hx hret (hb hby d340) (by decide) (by decide) (fun vq Cq => ⟨(congrArg (fun z => some (Value.int z)) (congrArg Int32.ofNat (by omega))), ((((((Keep.refl h0 [b]).trans K2 all0).wr W28 (Or.inl (List.mem_of_getElem? (i := 0) rfl))).wr W32 (Or.inl (List.mem_of_getElem? (i := 0) rfl))).wr W36 (Or.inl (List.mem_of_getElem? (i := 0) rfl))).wr W52 (Or.inl (List.mem_of_getElem? (i := 0) rfl))), (Eq.mp (congrArg (fun z => Arv Z h52 b kb .byte (Int32.ofNat M) z (.int (0 : Int32))) (own_wend (p := (j + (own_dec x).length - 4)) (ds := [(45 : Int32), (own_dc ((own_abs x) / 100)), (own_dc ((own_abs x) / 10)), (own_dc (own_abs x))]) (by omega) (by rw [own_dec, if_pos x6, hdg, (own_d100 1 (own_abs x) : own_digs 3 (own_abs x) = _)]; rfl))) X54), (Cq.safe (show h52.size > b by omega) f56)⟩)
      · refine uNc 28 hx hby d317 rfl (flt g).2.2.1 ?_
        have m1 : ¬ ((own_abs x) / 100) < 100 := fun q => g ((own_ltn (n := ((own_abs x) / 100)) (by omega) 100 (by decide) (-100) (by decide +kernel)).mpr q)
        have hd3 := own_dg5 (n := own_abs x) (by omega)
        refine uIN 29 hx hby d346 rfl rfl ?_
        refine uKb 31 (100 : Int32) hx hby d347 rfl rfl ?_
        refine gs (mkF m 32 #[vi (negI ((own_abs x) / 100)), vi (Int32.ofNat (j + (own_dec x).length)), vr b, vi (negI ((own_abs x) / 100)), vi (Int32.ofNat ((own_abs x) % 100)), vi (Int32.ofNat (j + (own_dec x).length - 2)), vi (Int32.ofNat (own_sg x))] [(.int ((negI ((own_abs x) / 100)) / (100 : Int32)))]) (fun _ _ A kq => XS.idiv A hx rfl (hb hby d348) rfl (by decide) kq) ?_
        refine gat (mkF m 32 #[vi (negI ((own_abs x) / 100)), vi (Int32.ofNat (j + (own_dec x).length)), vr b, vi (negI ((own_abs x) / 100)), vi (Int32.ofNat ((own_abs x) % 100)), vi (Int32.ofNat (j + (own_dec x).length - 2)), vi (Int32.ofNat (own_sg x))] [(.int (negI (((own_abs x) / 100) / 100)))]) (by rw [negI_div100 (n := ((own_abs x) / 100)) (by omega)]) ?_
        refine uSIN 33 #[vi (negI ((own_abs x) / 100)), vi (Int32.ofNat (j + (own_dec x).length)), vr b, vi (negI (((own_abs x) / 100) / 100)), vi (Int32.ofNat ((own_abs x) % 100)), vi (Int32.ofNat (j + (own_dec x).length - 2)), vi (Int32.ofNat (own_sg x))] hx hby d349 rfl rfl ?_
        refine uIN 34 hx hby d350 rfl rfl ?_
        refine uKb 36 (100 : Int32) hx hby d351 rfl rfl ?_
        refine uimul 37 ((negI (((own_abs x) / 100) / 100)) * (100 : Int32)) hx hby d352 rfl rfl ?_
        refine uIN 38 hx hby d353 rfl rfl ?_
        refine uisub 39 (((negI (((own_abs x) / 100) / 100)) * (100 : Int32)) - (negI ((own_abs x) / 100))) hx hby d354 rfl rfl ?_
        refine gat (mkF m 39 #[vi (negI ((own_abs x) / 100)), vi (Int32.ofNat (j + (own_dec x).length)), vr b, vi (negI (((own_abs x) / 100) / 100)), vi (Int32.ofNat ((own_abs x) % 100)), vi (Int32.ofNat (j + (own_dec x).length - 2)), vi (Int32.ofNat (own_sg x))] [(.int (Int32.ofNat (((own_abs x) / 100) % 100)))]) (by rw [negI_rem (n := ((own_abs x) / 100)) (by omega)]) ?_
        refine uSI 41 #[vi (negI ((own_abs x) / 100)), vi (Int32.ofNat (j + (own_dec x).length)), vr b, vi (negI (((own_abs x) / 100) / 100)), vi (Int32.ofNat (((own_abs x) / 100) % 100)), vi (Int32.ofNat (j + (own_dec x).length - 2)), vi (Int32.ofNat (own_sg x))] hx hby d355 rfl rfl ?_
        refine uIN 42 hx hby d356 rfl rfl ?_
        refine uSIN 43 #[vi (negI (((own_abs x) / 100) / 100)), vi (Int32.ofNat (j + (own_dec x).length)), vr b, vi (negI (((own_abs x) / 100) / 100)), vi (Int32.ofNat (((own_abs x) / 100) % 100)), vi (Int32.ofNat (j + (own_dec x).length - 2)), vi (Int32.ofNat (own_sg x))] hx hby d357 rfl rfl ?_
        refine uAN 44 hx hby d358 rfl rfl rfl ?_
        refine uInc 47 #[vi (negI (((own_abs x) / 100) / 100)), vi (Int32.ofNat (j + (own_dec x).length)), vr b, vi (negI (((own_abs x) / 100) / 100)), vi (Int32.ofNat (((own_abs x) / 100) % 100)), vi ((Int32.ofNat (j + (own_dec x).length - 2)) + (-1 : Int32)), vi (Int32.ofNat (own_sg x))] hx hby d359 rfl rfl rfl ?_
        refine gat (mkF m 47 #[vi (negI (((own_abs x) / 100) / 100)), vi (Int32.ofNat (j + (own_dec x).length)), vr b, vi (negI (((own_abs x) / 100) / 100)), vi (Int32.ofNat (((own_abs x) / 100) % 100)), vi (Int32.ofNat (j + (own_dec x).length - 3)), vi (Int32.ofNat (own_sg x))] [(.ref b)]) (by rw [own_dec1 (a := (j + (own_dec x).length - 2)) (b := (j + (own_dec x).length - 3)) (by omega) (by omega)]) ?_
        refine uI 49 hx hby d360 rfl rfl ?_
        refine ggetS (host := "") hx (Or.inl (ow hw 184 rfl)) Via.refl Sgo 52 (hb hby d361) rfl ?_
        refine uI 54 hx hby d362 rfl rfl ?_
        have f57 := ((f26.other W28 (Nat.ne_of_lt (Nat.lt_of_lt_of_le Vgo.lt P1))).other W32 (Nat.ne_of_lt (Nat.lt_of_lt_of_le Vgo.lt P1)))
        refine gldB hx f57 (own_lt100 _) (i := (((own_abs x) / 100) % 100)) (tn (by omega)) (v := (.int (own_dc ((own_abs x) / 100)))) (own_ones _) 55 (hb hby d363) rfl ?_
        have f59 := (C32.safe (show h28.size > b by omega) f33)
        refine gstB hx X34 ⟨nn0 (by omega), (ltOf (by omega) hM).mpr (by omega)⟩ (i := (j + (own_dec x).length - 3)) (tn (by omega)) (by rw [own_wl (by simp only [List.length_cons, List.length_nil]; omega) (by omega), hvd]; omega) (y := ((own_dc ((own_abs x) / 100)).toInt8.toInt32)) rfl P1 (fun _ => f59) 56 (hb hby d364) rfl ?_
        intro h58 W58 C58 V58
        have z58 := C58.2.1
        have X60 : Arv Z h58 b kb .byte (Int32.ofNat M) (own_w vd (j + (own_dec x).length - 3) (j + (own_dec x).length) [(own_dc ((own_abs x) / 100)), (own_dc ((own_abs x) / 10)), (own_dc (own_abs x))]) (.int (0 : Int32)) := Eq.mp (congrArg (fun z => Arv Z h58 b kb .byte (Int32.ofNat M) z (.int (0 : Int32))) (own_w1 (p := (j + (own_dec x).length - 2)) (q := (j + (own_dec x).length - 3)) (c := (own_dc ((own_abs x) / 100))) (by omega) (by omega))) V58
        refine uAN 57 hx hby d365 rfl rfl rfl ?_
        refine uInc 60 #[vi (negI (((own_abs x) / 100) / 100)), vi (Int32.ofNat (j + (own_dec x).length)), vr b, vi (negI (((own_abs x) / 100) / 100)), vi (Int32.ofNat (((own_abs x) / 100) % 100)), vi ((Int32.ofNat (j + (own_dec x).length - 3)) + (-1 : Int32)), vi (Int32.ofNat (own_sg x))] hx hby d366 rfl rfl rfl ?_
        refine gat (mkF m 60 #[vi (negI (((own_abs x) / 100) / 100)), vi (Int32.ofNat (j + (own_dec x).length)), vr b, vi (negI (((own_abs x) / 100) / 100)), vi (Int32.ofNat (((own_abs x) / 100) % 100)), vi (Int32.ofNat (j + (own_dec x).length - 4)), vi (Int32.ofNat (own_sg x))] [(.ref b)]) (by rw [own_dec1 (a := (j + (own_dec x).length - 3)) (b := (j + (own_dec x).length - 4)) (by omega) (by omega)]) ?_
        refine uI 62 hx hby d367 rfl rfl ?_
        refine ggetS (host := "") hx (Or.inl (ow hw 229 rfl)) Via.refl Sgt 65 (hb hby d368) rfl ?_
        refine uI 67 hx hby d369 rfl rfl ?_
        have f61 := ((f31.other W32 (Nat.ne_of_lt (Nat.lt_of_lt_of_le Vgt.lt P1))).other W58 (Nat.ne_of_lt (Nat.lt_of_lt_of_le Vgt.lt P1)))
        refine gldB hx f61 (own_lt100 _) (i := (((own_abs x) / 100) % 100)) (tn (by omega)) (v := (.int (own_dc (((own_abs x) / 100) / 10)))) (own_tens _) 68 (hb hby d370) rfl ?_
        have f63 := (C58.safe (show h32.size > b by omega) f59)
        refine gstB hx X60 ⟨nn0 (by omega), (ltOf (by omega) hM).mpr (by omega)⟩ (i := (j + (own_dec x).length - 4)) (tn (by omega)) (by rw [own_wl (by simp only [List.length_cons, List.length_nil]; omega) (by omega), hvd]; omega) (y := ((own_dc (((own_abs x) / 100) / 10)).toInt8.toInt32)) rfl P1 (fun _ => f63) 69 (hb hby d371) rfl ?_
        intro h62 W62 C62 V62
        have z62 := C62.2.1
        have X64 : Arv Z h62 b kb .byte (Int32.ofNat M) (own_w vd (j + (own_dec x).length - 4) (j + (own_dec x).length) [(own_dc (((own_abs x) / 100) / 10)), (own_dc ((own_abs x) / 100)), (own_dc ((own_abs x) / 10)), (own_dc (own_abs x))]) (.int (0 : Int32)) := Eq.mp (congrArg (fun z => Arv Z h62 b kb .byte (Int32.ofNat M) z (.int (0 : Int32))) (own_w1 (p := (j + (own_dec x).length - 3)) (q := (j + (own_dec x).length - 4)) (c := (own_dc (((own_abs x) / 100) / 10))) (by omega) (by omega))) V62
        refine uG 22 hx hby d372 (by decide) (by decide) ?_
        refine uIN 23 hx hby d315 rfl rfl ?_
        refine uKb 25 (-100 : Int32) hx hby d316 rfl rfl ?_
        by_cases g : (-100 : Int32) < (negI (((own_abs x) / 100) / 100))
        · refine uYc 72 hx hby d317 (tlt g).2.2.1 (by decide) (by decide) ?_
          have m2 := (own_ltn (n := (((own_abs x) / 100) / 100)) (by omega) 100 (by decide) (-100) (by decide +kernel)).mp g
          refine uAN 73 hx hby d318 rfl rfl rfl ?_
          refine uInc 76 #[vi (negI (((own_abs x) / 100) / 100)), vi (Int32.ofNat (j + (own_dec x).length)), vr b, vi (negI (((own_abs x) / 100) / 100)), vi (Int32.ofNat (((own_abs x) / 100) % 100)), vi ((Int32.ofNat (j + (own_dec x).length - 4)) + (-1 : Int32)), vi (Int32.ofNat (own_sg x))] hx hby d319 rfl rfl rfl ?_
          refine gat (mkF m 76 #[vi (negI (((own_abs x) / 100) / 100)), vi (Int32.ofNat (j + (own_dec x).length)), vr b, vi (negI (((own_abs x) / 100) / 100)), vi (Int32.ofNat (((own_abs x) / 100) % 100)), vi (Int32.ofNat (j + (own_dec x).length - 5)), vi (Int32.ofNat (own_sg x))] [(.ref b)]) (by rw [own_dec1 (a := (j + (own_dec x).length - 4)) (b := (j + (own_dec x).length - 5)) (by omega) (by omega)]) ?_
          refine uI 78 hx hby d320 rfl rfl ?_
          refine ggetS (host := "") hx (Or.inl (ow hw 184 rfl)) Via.refl Sgo 81 (hb hby d321) rfl ?_
          refine uIN 82 hx hby d322 rfl rfl ?_
          refine gs (mkF m 83 #[vi (negI (((own_abs x) / 100) / 100)), vi (Int32.ofNat (j + (own_dec x).length)), vr b, vi (negI (((own_abs x) / 100) / 100)), vi (Int32.ofNat (((own_abs x) / 100) % 100)), vi (Int32.ofNat (j + (own_dec x).length - 5)), vi (Int32.ofNat (own_sg x))] [(.int (-(negI (((own_abs x) / 100) / 100)))), (.ref dgo), (.int (Int32.ofNat (j + (own_dec x).length - 5))), (.ref b)]) (fun _ _ A kq => XS.ineg A hx rfl (hb hby d323) rfl kq) ?_
          refine gat (mkF m 83 #[vi (negI (((own_abs x) / 100) / 100)), vi (Int32.ofNat (j + (own_dec x).length)), vr b, vi (negI (((own_abs x) / 100) / 100)), vi (Int32.ofNat (((own_abs x) / 100) % 100)), vi (Int32.ofNat (j + (own_dec x).length - 5)), vi (Int32.ofNat (own_sg x))] [(.int (Int32.ofNat ((((own_abs x) / 100) / 100) % 100))), (.ref dgo), (.int (Int32.ofNat (j + (own_dec x).length - 5))), (.ref b)]) (by rw [own_negm (n := (((own_abs x) / 100) / 100)) (by omega)]) ?_
          have f65 := ((f57.other W58 (Nat.ne_of_lt (Nat.lt_of_lt_of_le Vgo.lt P1))).other W62 (Nat.ne_of_lt (Nat.lt_of_lt_of_le Vgo.lt P1)))
          refine gldB hx f65 (own_lt100 _) (i := ((((own_abs x) / 100) / 100) % 100)) (tn (by omega)) (v := (.int (own_dc (((own_abs x) / 100) / 100)))) (own_ones _) 84 (hb hby d324) rfl ?_
          have f67 := (C62.safe (show h58.size > b by omega) f63)
          refine gstB hx X64 ⟨nn0 (by omega), (ltOf (by omega) hM).mpr (by omega)⟩ (i := (j + (own_dec x).length - 5)) (tn (by omega)) (by rw [own_wl (by simp only [List.length_cons, List.length_nil]; omega) (by omega), hvd]; omega) (y := ((own_dc (((own_abs x) / 100) / 100)).toInt8.toInt32)) rfl P1 (fun _ => f67) 85 (hb hby d325) rfl ?_
          intro h66 W66 C66 V66
          have z66 := C66.2.1
          have X68 : Arv Z h66 b kb .byte (Int32.ofNat M) (own_w vd (j + (own_dec x).length - 5) (j + (own_dec x).length) [(own_dc (((own_abs x) / 100) / 100)), (own_dc (((own_abs x) / 100) / 10)), (own_dc ((own_abs x) / 100)), (own_dc ((own_abs x) / 10)), (own_dc (own_abs x))]) (.int (0 : Int32)) := Eq.mp (congrArg (fun z => Arv Z h66 b kb .byte (Int32.ofNat M) z (.int (0 : Int32))) (own_w1 (p := (j + (own_dec x).length - 4)) (q := (j + (own_dec x).length - 5)) (c := (own_dc (((own_abs x) / 100) / 100))) (by omega) (by omega))) V66
          refine uIN 86 hx hby d326 rfl rfl ?_
          refine uKb 88 (-9 : Int32) hx hby d327 rfl rfl ?_
          by_cases g : (negI (((own_abs x) / 100) / 100)) < (-9 : Int32)
          · refine uNc 91 hx hby d328 rfl (tlt g).2.1 ?_
            have m9 := (own_gtn (n := (((own_abs x) / 100) / 100)) (by omega) 9 (by decide) (-9) (by decide +kernel)).mp g
            have hd9 := own_dg6 (n := own_abs x) (by omega)
            refine uAN 92 hx hby d329 rfl rfl rfl ?_
            refine uInc 95 #[vi (negI (((own_abs x) / 100) / 100)), vi (Int32.ofNat (j + (own_dec x).length)), vr b, vi (negI (((own_abs x) / 100) / 100)), vi (Int32.ofNat (((own_abs x) / 100) % 100)), vi ((Int32.ofNat (j + (own_dec x).length - 5)) + (-1 : Int32)), vi (Int32.ofNat (own_sg x))] hx hby d330 rfl rfl rfl ?_
            refine gat (mkF m 95 #[vi (negI (((own_abs x) / 100) / 100)), vi (Int32.ofNat (j + (own_dec x).length)), vr b, vi (negI (((own_abs x) / 100) / 100)), vi (Int32.ofNat (((own_abs x) / 100) % 100)), vi (Int32.ofNat (j + (own_dec x).length - 6)), vi (Int32.ofNat (own_sg x))] [(.ref b)]) (by rw [own_dec1 (a := (j + (own_dec x).length - 5)) (b := (j + (own_dec x).length - 6)) (by omega) (by omega)]) ?_
            refine uI 97 hx hby d331 rfl rfl ?_
            refine ggetS (host := "") hx (Or.inl (ow hw 229 rfl)) Via.refl Sgt 100 (hb hby d332) rfl ?_
            refine uIN 101 hx hby d333 rfl rfl ?_
            refine gs (mkF m 102 #[vi (negI (((own_abs x) / 100) / 100)), vi (Int32.ofNat (j + (own_dec x).length)), vr b, vi (negI (((own_abs x) / 100) / 100)), vi (Int32.ofNat (((own_abs x) / 100) % 100)), vi (Int32.ofNat (j + (own_dec x).length - 6)), vi (Int32.ofNat (own_sg x))] [(.int (-(negI (((own_abs x) / 100) / 100)))), (.ref dgt), (.int (Int32.ofNat (j + (own_dec x).length - 6))), (.ref b)]) (fun _ _ A kq => XS.ineg A hx rfl (hb hby d334) rfl kq) ?_
            refine gat (mkF m 102 #[vi (negI (((own_abs x) / 100) / 100)), vi (Int32.ofNat (j + (own_dec x).length)), vr b, vi (negI (((own_abs x) / 100) / 100)), vi (Int32.ofNat (((own_abs x) / 100) % 100)), vi (Int32.ofNat (j + (own_dec x).length - 6)), vi (Int32.ofNat (own_sg x))] [(.int (Int32.ofNat ((((own_abs x) / 100) / 100) % 100))), (.ref dgt), (.int (Int32.ofNat (j + (own_dec x).length - 6))), (.ref b)]) (by rw [own_negm (n := (((own_abs x) / 100) / 100)) (by omega)]) ?_
            have f69 := ((f61.other W62 (Nat.ne_of_lt (Nat.lt_of_lt_of_le Vgt.lt P1))).other W66 (Nat.ne_of_lt (Nat.lt_of_lt_of_le Vgt.lt P1)))
            refine gldB hx f69 (own_lt100 _) (i := ((((own_abs x) / 100) / 100) % 100)) (tn (by omega)) (v := (.int (own_dc ((((own_abs x) / 100) / 100) / 10)))) (own_tens _) 103 (hb hby d335) rfl ?_
            have f71 := (C66.safe (show h62.size > b by omega) f67)
            refine gstB hx X68 ⟨nn0 (by omega), (ltOf (by omega) hM).mpr (by omega)⟩ (i := (j + (own_dec x).length - 6)) (tn (by omega)) (by rw [own_wl (by simp only [List.length_cons, List.length_nil]; omega) (by omega), hvd]; omega) (y := ((own_dc ((((own_abs x) / 100) / 100) / 10)).toInt8.toInt32)) rfl P1 (fun _ => f71) 104 (hb hby d336) rfl ?_
            intro h70 W70 C70 V70
            have z70 := C70.2.1
            have X72 : Arv Z h70 b kb .byte (Int32.ofNat M) (own_w vd (j + (own_dec x).length - 6) (j + (own_dec x).length) [(own_dc ((((own_abs x) / 100) / 100) / 10)), (own_dc (((own_abs x) / 100) / 100)), (own_dc (((own_abs x) / 100) / 10)), (own_dc ((own_abs x) / 100)), (own_dc ((own_abs x) / 10)), (own_dc (own_abs x))]) (.int (0 : Int32)) := Eq.mp (congrArg (fun z => Arv Z h70 b kb .byte (Int32.ofNat M) z (.int (0 : Int32))) (own_w1 (p := (j + (own_dec x).length - 5)) (q := (j + (own_dec x).length - 6)) (c := (own_dc ((((own_abs x) / 100) / 100) / 10))) (by omega) (by omega))) V70
            refine uI 106 hx hby d337 rfl rfl ?_
            by_cases g6 : (Int32.ofNat (own_sg x)) = (0 : Int32)
            · refine uY 118 hx hby d338 ((if0 _ _).trans (teq g6).1) (by decide) (by decide) ?_
              obtain ⟨e6, x6⟩ := own_sg0 g6
              have hdg : own_dn (own_abs x) = 6 := (Nat.le_antisymm (own_du6 (by omega)) (own_dg6 (by omega)))
              refine uI 120 hx hby d339 rfl rfl ?_
              have f74 := (C70.safe (show h66.size > b by omega) f71)
              exact gretI hx hret (hb hby d340) (by decide) (by decide) (fun vq Cq => ⟨(congrArg (fun z => some (Value.int z)) (congrArg Int32.ofNat (by omega))), ((((((((Keep.refl h0 [b]).trans K2 all0).wr W28 (Or.inl (List.mem_of_getElem? (i := 0) rfl))).wr W32 (Or.inl (List.mem_of_getElem? (i := 0) rfl))).wr W58 (Or.inl (List.mem_of_getElem? (i := 0) rfl))).wr W62 (Or.inl (List.mem_of_getElem? (i := 0) rfl))).wr W66 (Or.inl (List.mem_of_getElem? (i := 0) rfl))).wr W70 (Or.inl (List.mem_of_getElem? (i := 0) rfl))), (Eq.mp (congrArg (fun z => Arv Z h70 b kb .byte (Int32.ofNat M) z (.int (0 : Int32))) (own_wend (p := (j + (own_dec x).length - 6)) (ds := [(own_dc ((((own_abs x) / 100) / 100) / 10)), (own_dc (((own_abs x) / 100) / 100)), (own_dc (((own_abs x) / 100) / 10)), (own_dc ((own_abs x) / 100)), (own_dc ((own_abs x) / 10)), (own_dc (own_abs x))]) (by omega) (by rw [own_dec, if_neg x6, hdg, (own_d100 4 (own_abs x) : own_digs 6 (own_abs x) = _), (own_d100 2 ((own_abs x) / 100) : own_digs 4 ((own_abs x) / 100) = _), (own_d100 0 (((own_abs x) / 100) / 100) : own_digs 2 (((own_abs x) / 100) / 100) = _)]; rfl))) X72), (Cq.safe (show h70.size > b by omega) f74)⟩)
            · refine uN 109 hx hby d338 rfl ((if0 _ _).trans (feq g6).1) ?_
              obtain ⟨e6, x6⟩ := own_sg1 g6
              have hdg : own_dn (own_abs x) = 6 := (Nat.le_antisymm (own_du6 (by omega)) (own_dg6 (by omega)))
              refine uAN 110 hx hby d341 rfl rfl rfl ?_
              refine uInc 113 #[vi (negI (((own_abs x) / 100) / 100)), vi (Int32.ofNat (j + (own_dec x).length)), vr b, vi (negI (((own_abs x) / 100) / 100)), vi (Int32.ofNat (((own_abs x) / 100) % 100)), vi ((Int32.ofNat (j + (own_dec x).length - 6)) + (-1 : Int32)), vi (Int32.ofNat (own_sg x))] hx hby d342 rfl rfl rfl ?_
              refine gat (mkF m 113 #[vi (negI (((own_abs x) / 100) / 100)), vi (Int32.ofNat (j + (own_dec x).length)), vr b, vi (negI (((own_abs x) / 100) / 100)), vi (Int32.ofNat (((own_abs x) / 100) % 100)), vi (Int32.ofNat (j + (own_dec x).length - 7)), vi (Int32.ofNat (own_sg x))] [(.ref b)]) (by rw [own_dec1 (a := (j + (own_dec x).length - 6)) (b := (j + (own_dec x).length - 7)) (by omega) (by omega)]) ?_
              refine uI 115 hx hby d343 rfl rfl ?_
              refine uKb 117 (45 : Int32) hx hby d344 rfl rfl ?_
              have f76 := (C70.safe (show h66.size > b by omega) f71)
              refine gstB hx X72 ⟨nn0 (by omega), (ltOf (by omega) hM).mpr (by omega)⟩ (i := (j + (own_dec x).length - 7)) (tn (by omega)) (by rw [own_wl (by simp only [List.length_cons, List.length_nil]; omega) (by omega), hvd]; omega) (y := ((45 : Int32).toInt8.toInt32)) rfl P1 (fun _ => f76) 118 (hb hby d345) rfl ?_
              intro h75 W75 C75 V75
              have z75 := C75.2.1
              have X77 : Arv Z h75 b kb .byte (Int32.ofNat M) (own_w vd (j + (own_dec x).length - 7) (j + (own_dec x).length) [(45 : Int32), (own_dc ((((own_abs x) / 100) / 100) / 10)), (own_dc (((own_abs x) / 100) / 100)), (own_dc (((own_abs x) / 100) / 10)), (own_dc ((own_abs x) / 100)), (own_dc ((own_abs x) / 10)), (own_dc (own_abs x))]) (.int (0 : Int32)) := Eq.mp (congrArg (fun z => Arv Z h75 b kb .byte (Int32.ofNat M) z (.int (0 : Int32))) (own_w1 (p := (j + (own_dec x).length - 6)) (q := (j + (own_dec x).length - 7)) (c := (45 : Int32)) (by omega) (by omega))) V75
              refine uI 120 hx hby d339 rfl rfl ?_
              have f79 := (C75.safe (show h70.size > b by omega) f76)
              exact gretI hx hret (hb hby d340) (by decide) (by decide) (fun vq Cq => ⟨(congrArg (fun z => some (Value.int z)) (congrArg Int32.ofNat (by omega))), (((((((((Keep.refl h0 [b]).trans K2 all0).wr W28 (Or.inl (List.mem_of_getElem? (i := 0) rfl))).wr W32 (Or.inl (List.mem_of_getElem? (i := 0) rfl))).wr W58 (Or.inl (List.mem_of_getElem? (i := 0) rfl))).wr W62 (Or.inl (List.mem_of_getElem? (i := 0) rfl))).wr W66 (Or.inl (List.mem_of_getElem? (i := 0) rfl))).wr W70 (Or.inl (List.mem_of_getElem? (i := 0) rfl))).wr W75 (Or.inl (List.mem_of_getElem? (i := 0) rfl))), (Eq.mp (congrArg (fun z => Arv Z h75 b kb .byte (Int32.ofNat M) z (.int (0 : Int32))) (own_wend (p := (j + (own_dec x).length - 7)) (ds := [(45 : Int32), (own_dc ((((own_abs x) / 100) / 100) / 10)), (own_dc (((own_abs x) / 100) / 100)), (own_dc (((own_abs x) / 100) / 10)), (own_dc ((own_abs x) / 100)), (own_dc ((own_abs x) / 10)), (own_dc (own_abs x))]) (by omega) (by rw [own_dec, if_pos x6, hdg, (own_d100 4 (own_abs x) : own_digs 6 (own_abs x) = _), (own_d100 2 ((own_abs x) / 100) : own_digs 4 ((own_abs x) / 100) = _), (own_d100 0 (((own_abs x) / 100) / 100) : own_digs 2 (((own_abs x) / 100) / 100) = _)]; rfl))) X77), (Cq.safe (show h75.size > b by omega) f79)⟩)
          · refine uYc 104 hx hby d328 (flt g).2.1 (by decide) (by decide) ?_
            have m9 : ¬ 9 < (((own_abs x) / 100) / 100) := fun q => g ((own_gtn (n := (((own_abs x) / 100) / 100)) (by omega) 9 (by decide) (-9) (by decide +kernel)).mpr q)
            refine uI 106 hx hby d337 rfl rfl ?_
            by_cases g6 : (Int32.ofNat (own_sg x)) = (0 : Int32)
            · refine uY 118 hx hby d338 ((if0 _ _).trans (teq g6).1) (by decide) (by decide) ?_
              obtain ⟨e6, x6⟩ := own_sg0 g6
              have hdg : own_dn (own_abs x) = 5 := (Nat.le_antisymm (own_du5 (by omega)) (own_dg5 (by omega)))
              refine uI 120 hx hby d339 rfl rfl ?_
              have f81 := (C66.safe (show h62.size > b by omega) f67)
              exact gretI hx hret (hb hby d340) (by decide) (by decide) (fun vq Cq => ⟨(congrArg (fun z => some (Value.int z)) (congrArg Int32.ofNat (by omega))), (((((((Keep.refl h0 [b]).trans K2 all0).wr W28 (Or.inl (List.mem_of_getElem? (i := 0) rfl))).wr W32 (Or.inl (List.mem_of_getElem? (i := 0) rfl))).wr W58 (Or.inl (List.mem_of_getElem? (i := 0) rfl))).wr W62 (Or.inl (List.mem_of_getElem? (i := 0) rfl))).wr W66 (Or.inl (List.mem_of_getElem? (i := 0) rfl))), (Eq.mp (congrArg (fun z => Arv Z h66 b kb .byte (Int32.ofNat M) z (.int (0 : Int32))) (own_wend (p := (j + (own_dec x).length - 5)) (ds := [(own_dc (((own_abs x) / 100) / 100)), (own_dc (((own_abs x) / 100) / 10)), (own_dc ((own_abs x) / 100)), (own_dc ((own_abs x) / 10)), (own_dc (own_abs x))]) (by omega) (by rw [own_dec, if_neg x6, hdg, (own_d100 3 (own_abs x) : own_digs 5 (own_abs x) = _), (own_d100 1 ((own_abs x) / 100) : own_digs 3 ((own_abs x) / 100) = _)]; rfl))) X68), (Cq.safe (show h66.size > b by omega) f81)⟩)
            · refine uN 109 hx hby d338 rfl ((if0 _ _).trans (feq g6).1) ?_
              obtain ⟨e6, x6⟩ := own_sg1 g6
              have hdg : own_dn (own_abs x) = 5 := (Nat.le_antisymm (own_du5 (by omega)) (own_dg5 (by omega)))
              refine uAN 110 hx hby d341 rfl rfl rfl ?_
              refine uInc 113 #[vi (negI (((own_abs x) / 100) / 100)), vi (Int32.ofNat (j + (own_dec x).length)), vr b, vi (negI (((own_abs x) / 100) / 100)), vi (Int32.ofNat (((own_abs x) / 100) % 100)), vi ((Int32.ofNat (j + (own_dec x).length - 5)) + (-1 : Int32)), vi (Int32.ofNat (own_sg x))] hx hby d342 rfl rfl rfl ?_
              refine gat (mkF m 113 #[vi (negI (((own_abs x) / 100) / 100)), vi (Int32.ofNat (j + (own_dec x).length)), vr b, vi (negI (((own_abs x) / 100) / 100)), vi (Int32.ofNat (((own_abs x) / 100) % 100)), vi (Int32.ofNat (j + (own_dec x).length - 6)), vi (Int32.ofNat (own_sg x))] [(.ref b)]) (by rw [own_dec1 (a := (j + (own_dec x).length - 5)) (b := (j + (own_dec x).length - 6)) (by omega) (by omega)]) ?_
              refine uI 115 hx hby d343 rfl rfl ?_
              refine uKb 117 (45 : Int32) hx hby d344 rfl rfl ?_
              have f83 := (C66.safe (show h62.size > b by omega) f67)
              refine gstB hx X68 ⟨nn0 (by omega), (ltOf (by omega) hM).mpr (by omega)⟩ (i := (j + (own_dec x).length - 6)) (tn (by omega)) (by rw [own_wl (by simp only [List.length_cons, List.length_nil]; omega) (by omega), hvd]; omega) (y := ((45 : Int32).toInt8.toInt32)) rfl P1 (fun _ => f83) 118 (hb hby d345) rfl ?_
              intro h82 W82 C82 V82
              have z82 := C82.2.1
              have X84 : Arv Z h82 b kb .byte (Int32.ofNat M) (own_w vd (j + (own_dec x).length - 6) (j + (own_dec x).length) [(45 : Int32), (own_dc (((own_abs x) / 100) / 100)), (own_dc (((own_abs x) / 100) / 10)), (own_dc ((own_abs x) / 100)), (own_dc ((own_abs x) / 10)), (own_dc (own_abs x))]) (.int (0 : Int32)) := Eq.mp (congrArg (fun z => Arv Z h82 b kb .byte (Int32.ofNat M) z (.int (0 : Int32))) (own_w1 (p := (j + (own_dec x).length - 5)) (q := (j + (own_dec x).length - 6)) (c := (45 : Int32)) (by omega) (by omega))) V82
              refine uI 120 hx hby d339 rfl rfl ?_
              have f86 := (C82.safe (show h66.size > b by omega) f83)
              exact gretI hx hret (hb hby d340) (by decide) (by decide) (fun vq Cq => ⟨(congrArg (fun z => some (Value.int z)) (congrArg Int32.ofNat (by omega))), ((((((((Keep.refl h0 [b]).trans K2 all0).wr W28 (Or.inl (List.mem_of_getElem? (i := 0) rfl))).wr W32 (Or.inl (List.mem_of_getElem? (i := 0) rfl))).wr W58 (Or.inl (List.mem_of_getElem? (i := 0) rfl))).wr W62 (Or.inl (List.mem_of_getElem? (i := 0) rfl))).wr W66 (Or.inl (List.mem_of_getElem? (i := 0) rfl))).wr W82 (Or.inl (List.mem_of_getElem? (i := 0) rfl))), (Eq.mp (congrArg (fun z => Arv Z h82 b kb .byte (Int32.ofNat M) z (.int (0 : Int32))) (own_wend (p := (j + (own_dec x).length - 6)) (ds := [(45 : Int32), (own_dc (((own_abs x) / 100) / 100)), (own_dc (((own_abs x) / 100) / 10)), (own_dc ((own_abs x) / 100)), (own_dc ((own_abs x) / 10)), (own_dc (own_abs x))]) (by omega) (by rw [own_dec, if_pos x6, hdg, (own_d100 3 (own_abs x) : own_digs 5 (own_abs x) = _), (own_d100 1 ((own_abs x) / 100) : own_digs 3 ((own_abs x) / 100) = _)]; rfl))) X84), (Cq.safe (show h82.size > b by omega) f86)⟩)
        · refine uNc 28 hx hby d317 rfl (flt g).2.2.1 ?_
          have m2 : ¬ (((own_abs x) / 100) / 100) < 100 := fun q => g ((own_ltn (n := (((own_abs x) / 100) / 100)) (by omega) 100 (by decide) (-100) (by decide +kernel)).mpr q)
          have hd4 := own_dg7 (n := own_abs x) (by omega)
          refine uIN 29 hx hby d346 rfl rfl ?_
          refine uKb 31 (100 : Int32) hx hby d347 rfl rfl ?_
          refine gs (mkF m 32 #[vi (negI (((own_abs x) / 100) / 100)), vi (Int32.ofNat (j + (own_dec x).length)), vr b, vi (negI (((own_abs x) / 100) / 100)), vi (Int32.ofNat (((own_abs x) / 100) % 100)), vi (Int32.ofNat (j + (own_dec x).length - 4)), vi (Int32.ofNat (own_sg x))] [(.int ((negI (((own_abs x) / 100) / 100)) / (100 : Int32)))]) (fun _ _ A kq => XS.idiv A hx rfl (hb hby d348) rfl (by decide) kq) ?_
          refine gat (mkF m 32 #[vi (negI (((own_abs x) / 100) / 100)), vi (Int32.ofNat (j + (own_dec x).length)), vr b, vi (negI (((own_abs x) / 100) / 100)), vi (Int32.ofNat (((own_abs x) / 100) % 100)), vi (Int32.ofNat (j + (own_dec x).length - 4)), vi (Int32.ofNat (own_sg x))] [(.int (negI ((((own_abs x) / 100) / 100) / 100)))]) (by rw [negI_div100 (n := (((own_abs x) / 100) / 100)) (by omega)]) ?_
          refine uSIN 33 #[vi (negI (((own_abs x) / 100) / 100)), vi (Int32.ofNat (j + (own_dec x).length)), vr b, vi (negI ((((own_abs x) / 100) / 100) / 100)), vi (Int32.ofNat (((own_abs x) / 100) % 100)), vi (Int32.ofNat (j + (own_dec x).length - 4)), vi (Int32.ofNat (own_sg x))] hx hby d349 rfl rfl ?_
          refine uIN 34 hx hby d350 rfl rfl ?_
          refine uKb 36 (100 : Int32) hx hby d351 rfl rfl ?_
          refine uimul 37 ((negI ((((own_abs x) / 100) / 100) / 100)) * (100 : Int32)) hx hby d352 rfl rfl ?_
          refine uIN 38 hx hby d353 rfl rfl ?_
          refine uisub 39 (((negI ((((own_abs x) / 100) / 100) / 100)) * (100 : Int32)) - (negI (((own_abs x) / 100) / 100))) hx hby d354 rfl rfl ?_
          refine gat (mkF m 39 #[vi (negI (((own_abs x) / 100) / 100)), vi (Int32.ofNat (j + (own_dec x).length)), vr b, vi (negI ((((own_abs x) / 100) / 100) / 100)), vi (Int32.ofNat (((own_abs x) / 100) % 100)), vi (Int32.ofNat (j + (own_dec x).length - 4)), vi (Int32.ofNat (own_sg x))] [(.int (Int32.ofNat ((((own_abs x) / 100) / 100) % 100)))]) (by rw [negI_rem (n := (((own_abs x) / 100) / 100)) (by omega)]) ?_
          refine uSI 41 #[vi (negI (((own_abs x) / 100) / 100)), vi (Int32.ofNat (j + (own_dec x).length)), vr b, vi (negI ((((own_abs x) / 100) / 100) / 100)), vi (Int32.ofNat ((((own_abs x) / 100) / 100) % 100)), vi (Int32.ofNat (j + (own_dec x).length - 4)), vi (Int32.ofNat (own_sg x))] hx hby d355 rfl rfl ?_
          refine uIN 42 hx hby d356 rfl rfl ?_
          refine uSIN 43 #[vi (negI ((((own_abs x) / 100) / 100) / 100)), vi (Int32.ofNat (j + (own_dec x).length)), vr b, vi (negI ((((own_abs x) / 100) / 100) / 100)), vi (Int32.ofNat ((((own_abs x) / 100) / 100) % 100)), vi (Int32.ofNat (j + (own_dec x).length - 4)), vi (Int32.ofNat (own_sg x))] hx hby d357 rfl rfl ?_
          refine uAN 44 hx hby d358 rfl rfl rfl ?_
          refine uInc 47 #[vi (negI ((((own_abs x) / 100) / 100) / 100)), vi (Int32.ofNat (j + (own_dec x).length)), vr b, vi (negI ((((own_abs x) / 100) / 100) / 100)), vi (Int32.ofNat ((((own_abs x) / 100) / 100) % 100)), vi ((Int32.ofNat (j + (own_dec x).length - 4)) + (-1 : Int32)), vi (Int32.ofNat (own_sg x))] hx hby d359 rfl rfl rfl ?_
          refine gat (mkF m 47 #[vi (negI ((((own_abs x) / 100) / 100) / 100)), vi (Int32.ofNat (j + (own_dec x).length)), vr b, vi (negI ((((own_abs x) / 100) / 100) / 100)), vi (Int32.ofNat ((((own_abs x) / 100) / 100) % 100)), vi (Int32.ofNat (j + (own_dec x).length - 5)), vi (Int32.ofNat (own_sg x))] [(.ref b)]) (by rw [own_dec1 (a := (j + (own_dec x).length - 4)) (b := (j + (own_dec x).length - 5)) (by omega) (by omega)]) ?_
          refine uI 49 hx hby d360 rfl rfl ?_
          refine ggetS (host := "") hx (Or.inl (ow hw 184 rfl)) Via.refl Sgo 52 (hb hby d361) rfl ?_
          refine uI 54 hx hby d362 rfl rfl ?_
          have f87 := ((f57.other W58 (Nat.ne_of_lt (Nat.lt_of_lt_of_le Vgo.lt P1))).other W62 (Nat.ne_of_lt (Nat.lt_of_lt_of_le Vgo.lt P1)))
          refine gldB hx f87 (own_lt100 _) (i := ((((own_abs x) / 100) / 100) % 100)) (tn (by omega)) (v := (.int (own_dc (((own_abs x) / 100) / 100)))) (own_ones _) 55 (hb hby d363) rfl ?_
          have f89 := (C62.safe (show h58.size > b by omega) f63)
          refine gstB hx X64 ⟨nn0 (by omega), (ltOf (by omega) hM).mpr (by omega)⟩ (i := (j + (own_dec x).length - 5)) (tn (by omega)) (by rw [own_wl (by simp only [List.length_cons, List.length_nil]; omega) (by omega), hvd]; omega) (y := ((own_dc (((own_abs x) / 100) / 100)).toInt8.toInt32)) rfl P1 (fun _ => f89) 56 (hb hby d364) rfl ?_
          intro h88 W88 C88 V88
          have z88 := C88.2.1
          have X90 : Arv Z h88 b kb .byte (Int32.ofNat M) (own_w vd (j + (own_dec x).length - 5) (j + (own_dec x).length) [(own_dc (((own_abs x) / 100) / 100)), (own_dc (((own_abs x) / 100) / 10)), (own_dc ((own_abs x) / 100)), (own_dc ((own_abs x) / 10)), (own_dc (own_abs x))]) (.int (0 : Int32)) := Eq.mp (congrArg (fun z => Arv Z h88 b kb .byte (Int32.ofNat M) z (.int (0 : Int32))) (own_w1 (p := (j + (own_dec x).length - 4)) (q := (j + (own_dec x).length - 5)) (c := (own_dc (((own_abs x) / 100) / 100))) (by omega) (by omega))) V88
          refine uAN 57 hx hby d365 rfl rfl rfl ?_
          refine uInc 60 #[vi (negI ((((own_abs x) / 100) / 100) / 100)), vi (Int32.ofNat (j + (own_dec x).length)), vr b, vi (negI ((((own_abs x) / 100) / 100) / 100)), vi (Int32.ofNat ((((own_abs x) / 100) / 100) % 100)), vi ((Int32.ofNat (j + (own_dec x).length - 5)) + (-1 : Int32)), vi (Int32.ofNat (own_sg x))] hx hby d366 rfl rfl rfl ?_
          refine gat (mkF m 60 #[vi (negI ((((own_abs x) / 100) / 100) / 100)), vi (Int32.ofNat (j + (own_dec x).length)), vr b, vi (negI ((((own_abs x) / 100) / 100) / 100)), vi (Int32.ofNat ((((own_abs x) / 100) / 100) % 100)), vi (Int32.ofNat (j + (own_dec x).length - 6)), vi (Int32.ofNat (own_sg x))] [(.ref b)]) (by rw [own_dec1 (a := (j + (own_dec x).length - 5)) (b := (j + (own_dec x).length - 6)) (by omega) (by omega)]) ?_
          refine uI 62 hx hby d367 rfl rfl ?_
          refine ggetS (host := "") hx (Or.inl (ow hw 229 rfl)) Via.refl Sgt 65 (hb hby d368) rfl ?_
          refine uI 67 hx hby d369 rfl rfl ?_
          have f91 := ((f61.other W62 (Nat.ne_of_lt (Nat.lt_of_lt_of_le Vgt.lt P1))).other W88 (Nat.ne_of_lt (Nat.lt_of_lt_of_le Vgt.lt P1)))
          refine gldB hx f91 (own_lt100 _) (i := ((((own_abs x) / 100) / 100) % 100)) (tn (by omega)) (v := (.int (own_dc ((((own_abs x) / 100) / 100) / 10)))) (own_tens _) 68 (hb hby d370) rfl ?_
          have f93 := (C88.safe (show h62.size > b by omega) f89)
          refine gstB hx X90 ⟨nn0 (by omega), (ltOf (by omega) hM).mpr (by omega)⟩ (i := (j + (own_dec x).length - 6)) (tn (by omega)) (by rw [own_wl (by simp only [List.length_cons, List.length_nil]; omega) (by omega), hvd]; omega) (y := ((own_dc ((((own_abs x) / 100) / 100) / 10)).toInt8.toInt32)) rfl P1 (fun _ => f93) 69 (hb hby d371) rfl ?_
          intro h92 W92 C92 V92
          have z92 := C92.2.1
          have X94 : Arv Z h92 b kb .byte (Int32.ofNat M) (own_w vd (j + (own_dec x).length - 6) (j + (own_dec x).length) [(own_dc ((((own_abs x) / 100) / 100) / 10)), (own_dc (((own_abs x) / 100) / 100)), (own_dc (((own_abs x) / 100) / 10)), (own_dc ((own_abs x) / 100)), (own_dc ((own_abs x) / 10)), (own_dc (own_abs x))]) (.int (0 : Int32)) := Eq.mp (congrArg (fun z => Arv Z h92 b kb .byte (Int32.ofNat M) z (.int (0 : Int32))) (own_w1 (p := (j + (own_dec x).length - 5)) (q := (j + (own_dec x).length - 6)) (c := (own_dc ((((own_abs x) / 100) / 100) / 10))) (by omega) (by omega))) V92
          refine uG 22 hx hby d372 (by decide) (by decide) ?_
          refine uIN 23 hx hby d315 rfl rfl ?_
          refine uKb 25 (-100 : Int32) hx hby d316 rfl rfl ?_
          by_cases g : (-100 : Int32) < (negI ((((own_abs x) / 100) / 100) / 100))
          · refine uYc 72 hx hby d317 (tlt g).2.2.1 (by decide) (by decide) ?_
            have m3 := (own_ltn (n := ((((own_abs x) / 100) / 100) / 100)) (by omega) 100 (by decide) (-100) (by decide +kernel)).mp g
            refine uAN 73 hx hby d318 rfl rfl rfl ?_
            refine uInc 76 #[vi (negI ((((own_abs x) / 100) / 100) / 100)), vi (Int32.ofNat (j + (own_dec x).length)), vr b, vi (negI ((((own_abs x) / 100) / 100) / 100)), vi (Int32.ofNat ((((own_abs x) / 100) / 100) % 100)), vi ((Int32.ofNat (j + (own_dec x).length - 6)) + (-1 : Int32)), vi (Int32.ofNat (own_sg x))] hx hby d319 rfl rfl rfl ?_
            refine gat (mkF m 76 #[vi (negI ((((own_abs x) / 100) / 100) / 100)), vi (Int32.ofNat (j + (own_dec x).length)), vr b, vi (negI ((((own_abs x) / 100) / 100) / 100)), vi (Int32.ofNat ((((own_abs x) / 100) / 100) % 100)), vi (Int32.ofNat (j + (own_dec x).length - 7)), vi (Int32.ofNat (own_sg x))] [(.ref b)]) (by rw [own_dec1 (a := (j + (own_dec x).length - 6)) (b := (j + (own_dec x).length - 7)) (by omega) (by omega)]) ?_
            refine uI 78 hx hby d320 rfl rfl ?_
            refine ggetS (host := "") hx (Or.inl (ow hw 184 rfl)) Via.refl Sgo 81 (hb hby d321) rfl ?_
            refine uIN 82 hx hby d322 rfl rfl ?_
            refine gs (mkF m 83 #[vi (negI ((((own_abs x) / 100) / 100) / 100)), vi (Int32.ofNat (j + (own_dec x).length)), vr b, vi (negI ((((own_abs x) / 100) / 100) / 100)), vi (Int32.ofNat ((((own_abs x) / 100) / 100) % 100)), vi (Int32.ofNat (j + (own_dec x).length - 7)), vi (Int32.ofNat (own_sg x))] [(.int (-(negI ((((own_abs x) / 100) / 100) / 100)))), (.ref dgo), (.int (Int32.ofNat (j + (own_dec x).length - 7))), (.ref b)]) (fun _ _ A kq => XS.ineg A hx rfl (hb hby d323) rfl kq) ?_
            refine gat (mkF m 83 #[vi (negI ((((own_abs x) / 100) / 100) / 100)), vi (Int32.ofNat (j + (own_dec x).length)), vr b, vi (negI ((((own_abs x) / 100) / 100) / 100)), vi (Int32.ofNat ((((own_abs x) / 100) / 100) % 100)), vi (Int32.ofNat (j + (own_dec x).length - 7)), vi (Int32.ofNat (own_sg x))] [(.int (Int32.ofNat (((((own_abs x) / 100) / 100) / 100) % 100))), (.ref dgo), (.int (Int32.ofNat (j + (own_dec x).length - 7))), (.ref b)]) (by rw [own_negm (n := ((((own_abs x) / 100) / 100) / 100)) (by omega)]) ?_
            have f95 := ((f87.other W88 (Nat.ne_of_lt (Nat.lt_of_lt_of_le Vgo.lt P1))).other W92 (Nat.ne_of_lt (Nat.lt_of_lt_of_le Vgo.lt P1)))
            refine gldB hx f95 (own_lt100 _) (i := (((((own_abs x) / 100) / 100) / 100) % 100)) (tn (by omega)) (v := (.int (own_dc ((((own_abs x) / 100) / 100) / 100)))) (own_ones _) 84 (hb hby d324) rfl ?_
            have f97 := (C92.safe (show h88.size > b by omega) f93)
            refine gstB hx X94 ⟨nn0 (by omega), (ltOf (by omega) hM).mpr (by omega)⟩ (i := (j + (own_dec x).length - 7)) (tn (by omega)) (by rw [own_wl (by simp only [List.length_cons, List.length_nil]; omega) (by omega), hvd]; omega) (y := ((own_dc ((((own_abs x) / 100) / 100) / 100)).toInt8.toInt32)) rfl P1 (fun _ => f97) 85 (hb hby d325) rfl ?_
            intro h96 W96 C96 V96
            have z96 := C96.2.1
            have X98 : Arv Z h96 b kb .byte (Int32.ofNat M) (own_w vd (j + (own_dec x).length - 7) (j + (own_dec x).length) [(own_dc ((((own_abs x) / 100) / 100) / 100)), (own_dc ((((own_abs x) / 100) / 100) / 10)), (own_dc (((own_abs x) / 100) / 100)), (own_dc (((own_abs x) / 100) / 10)), (own_dc ((own_abs x) / 100)), (own_dc ((own_abs x) / 10)), (own_dc (own_abs x))]) (.int (0 : Int32)) := Eq.mp (congrArg (fun z => Arv Z h96 b kb .byte (Int32.ofNat M) z (.int (0 : Int32))) (own_w1 (p := (j + (own_dec x).length - 6)) (q := (j + (own_dec x).length - 7)) (c := (own_dc ((((own_abs x) / 100) / 100) / 100))) (by omega) (by omega))) V96
            refine uIN 86 hx hby d326 rfl rfl ?_
            refine uKb 88 (-9 : Int32) hx hby d327 rfl rfl ?_
            by_cases g : (negI ((((own_abs x) / 100) / 100) / 100)) < (-9 : Int32)
            · refine uNc 91 hx hby d328 rfl (tlt g).2.1 ?_
              have m9 := (own_gtn (n := ((((own_abs x) / 100) / 100) / 100)) (by omega) 9 (by decide) (-9) (by decide +kernel)).mp g
              have hd9 := own_dg8 (n := own_abs x) (by omega)
              refine uAN 92 hx hby d329 rfl rfl rfl ?_
              refine uInc 95 #[vi (negI ((((own_abs x) / 100) / 100) / 100)), vi (Int32.ofNat (j + (own_dec x).length)), vr b, vi (negI ((((own_abs x) / 100) / 100) / 100)), vi (Int32.ofNat ((((own_abs x) / 100) / 100) % 100)), vi ((Int32.ofNat (j + (own_dec x).length - 7)) + (-1 : Int32)), vi (Int32.ofNat (own_sg x))] hx hby d330 rfl rfl rfl ?_
              refine gat (mkF m 95 #[vi (negI ((((own_abs x) / 100) / 100) / 100)), vi (Int32.ofNat (j + (own_dec x).length)), vr b, vi (negI ((((own_abs x) / 100) / 100) / 100)), vi (Int32.ofNat ((((own_abs x) / 100) / 100) % 100)), vi (Int32.ofNat (j + (own_dec x).length - 8)), vi (Int32.ofNat (own_sg x))] [(.ref b)]) (by rw [own_dec1 (a := (j + (own_dec x).length - 7)) (b := (j + (own_dec x).length - 8)) (by omega) (by omega)]) ?_
              refine uI 97 hx hby d331 rfl rfl ?_
              refine ggetS (host := "") hx (Or.inl (ow hw 229 rfl)) Via.refl Sgt 100 (hb hby d332) rfl ?_
              refine uIN 101 hx hby d333 rfl rfl ?_
              refine gs (mkF m 102 #[vi (negI ((((own_abs x) / 100) / 100) / 100)), vi (Int32.ofNat (j + (own_dec x).length)), vr b, vi (negI ((((own_abs x) / 100) / 100) / 100)), vi (Int32.ofNat ((((own_abs x) / 100) / 100) % 100)), vi (Int32.ofNat (j + (own_dec x).length - 8)), vi (Int32.ofNat (own_sg x))] [(.int (-(negI ((((own_abs x) / 100) / 100) / 100)))), (.ref dgt), (.int (Int32.ofNat (j + (own_dec x).length - 8))), (.ref b)]) (fun _ _ A kq => XS.ineg A hx rfl (hb hby d334) rfl kq) ?_
              refine gat (mkF m 102 #[vi (negI ((((own_abs x) / 100) / 100) / 100)), vi (Int32.ofNat (j + (own_dec x).length)), vr b, vi (negI ((((own_abs x) / 100) / 100) / 100)), vi (Int32.ofNat ((((own_abs x) / 100) / 100) % 100)), vi (Int32.ofNat (j + (own_dec x).length - 8)), vi (Int32.ofNat (own_sg x))] [(.int (Int32.ofNat (((((own_abs x) / 100) / 100) / 100) % 100))), (.ref dgt), (.int (Int32.ofNat (j + (own_dec x).length - 8))), (.ref b)]) (by rw [own_negm (n := ((((own_abs x) / 100) / 100) / 100)) (by omega)]) ?_
              have f99 := ((f91.other W92 (Nat.ne_of_lt (Nat.lt_of_lt_of_le Vgt.lt P1))).other W96 (Nat.ne_of_lt (Nat.lt_of_lt_of_le Vgt.lt P1)))
              refine gldB hx f99 (own_lt100 _) (i := (((((own_abs x) / 100) / 100) / 100) % 100)) (tn (by omega)) (v := (.int (own_dc (((((own_abs x) / 100) / 100) / 100) / 10)))) (own_tens _) 103 (hb hby d335) rfl ?_
              have f101 := (C96.safe (show h92.size > b by omega) f97)
              refine gstB hx X98 ⟨nn0 (by omega), (ltOf (by omega) hM).mpr (by omega)⟩ (i := (j + (own_dec x).length - 8)) (tn (by omega)) (by rw [own_wl (by simp only [List.length_cons, List.length_nil]; omega) (by omega), hvd]; omega) (y := ((own_dc (((((own_abs x) / 100) / 100) / 100) / 10)).toInt8.toInt32)) rfl P1 (fun _ => f101) 104 (hb hby d336) rfl ?_
              intro h100 W100 C100 V100
              have z100 := C100.2.1
              have X102 : Arv Z h100 b kb .byte (Int32.ofNat M) (own_w vd (j + (own_dec x).length - 8) (j + (own_dec x).length) [(own_dc (((((own_abs x) / 100) / 100) / 100) / 10)), (own_dc ((((own_abs x) / 100) / 100) / 100)), (own_dc ((((own_abs x) / 100) / 100) / 10)), (own_dc (((own_abs x) / 100) / 100)), (own_dc (((own_abs x) / 100) / 10)), (own_dc ((own_abs x) / 100)), (own_dc ((own_abs x) / 10)), (own_dc (own_abs x))]) (.int (0 : Int32)) := Eq.mp (congrArg (fun z => Arv Z h100 b kb .byte (Int32.ofNat M) z (.int (0 : Int32))) (own_w1 (p := (j + (own_dec x).length - 7)) (q := (j + (own_dec x).length - 8)) (c := (own_dc (((((own_abs x) / 100) / 100) / 100) / 10))) (by omega) (by omega))) V100
              refine uI 106 hx hby d337 rfl rfl ?_
              by_cases g6 : (Int32.ofNat (own_sg x)) = (0 : Int32)
              · refine uY 118 hx hby d338 ((if0 _ _).trans (teq g6).1) (by decide) (by decide) ?_
                obtain ⟨e6, x6⟩ := own_sg0 g6
                have hdg : own_dn (own_abs x) = 8 := (Nat.le_antisymm (own_du8 (by omega)) (own_dg8 (by omega)))
                refine uI 120 hx hby d339 rfl rfl ?_
                have f104 := (C100.safe (show h96.size > b by omega) f101)
                exact gretI hx hret (hb hby d340) (by decide) (by decide) (fun vq Cq => ⟨(congrArg (fun z => some (Value.int z)) (congrArg Int32.ofNat (by omega))), ((((((((((Keep.refl h0 [b]).trans K2 all0).wr W28 (Or.inl (List.mem_of_getElem? (i := 0) rfl))).wr W32 (Or.inl (List.mem_of_getElem? (i := 0) rfl))).wr W58 (Or.inl (List.mem_of_getElem? (i := 0) rfl))).wr W62 (Or.inl (List.mem_of_getElem? (i := 0) rfl))).wr W88 (Or.inl (List.mem_of_getElem? (i := 0) rfl))).wr W92 (Or.inl (List.mem_of_getElem? (i := 0) rfl))).wr W96 (Or.inl (List.mem_of_getElem? (i := 0) rfl))).wr W100 (Or.inl (List.mem_of_getElem? (i := 0) rfl))), (Eq.mp (congrArg (fun z => Arv Z h100 b kb .byte (Int32.ofNat M) z (.int (0 : Int32))) (own_wend (p := (j + (own_dec x).length - 8)) (ds := [(own_dc (((((own_abs x) / 100) / 100) / 100) / 10)), (own_dc ((((own_abs x) / 100) / 100) / 100)), (own_dc ((((own_abs x) / 100) / 100) / 10)), (own_dc (((own_abs x) / 100) / 100)), (own_dc (((own_abs x) / 100) / 10)), (own_dc ((own_abs x) / 100)), (own_dc ((own_abs x) / 10)), (own_dc (own_abs x))]) (by omega) (by rw [own_dec, if_neg x6, hdg, (own_d100 6 (own_abs x) : own_digs 8 (own_abs x) = _), (own_d100 4 ((own_abs x) / 100) : own_digs 6 ((own_abs x) / 100) = _), (own_d100 2 (((own_abs x) / 100) / 100) : own_digs 4 (((own_abs x) / 100) / 100) = _), (own_d100 0 ((((own_abs x) / 100) / 100) / 100) : own_digs 2 ((((own_abs x) / 100) / 100) / 100) = _)]; rfl))) X102), (Cq.safe (show h100.size > b by omega) f104)⟩)
              · refine uN 109 hx hby d338 rfl ((if0 _ _).trans (feq g6).1) ?_
                obtain ⟨e6, x6⟩ := own_sg1 g6
                have hdg : own_dn (own_abs x) = 8 := (Nat.le_antisymm (own_du8 (by omega)) (own_dg8 (by omega)))
                refine uAN 110 hx hby d341 rfl rfl rfl ?_
                refine uInc 113 #[vi (negI ((((own_abs x) / 100) / 100) / 100)), vi (Int32.ofNat (j + (own_dec x).length)), vr b, vi (negI ((((own_abs x) / 100) / 100) / 100)), vi (Int32.ofNat ((((own_abs x) / 100) / 100) % 100)), vi ((Int32.ofNat (j + (own_dec x).length - 8)) + (-1 : Int32)), vi (Int32.ofNat (own_sg x))] hx hby d342 rfl rfl rfl ?_
                refine gat (mkF m 113 #[vi (negI ((((own_abs x) / 100) / 100) / 100)), vi (Int32.ofNat (j + (own_dec x).length)), vr b, vi (negI ((((own_abs x) / 100) / 100) / 100)), vi (Int32.ofNat ((((own_abs x) / 100) / 100) % 100)), vi (Int32.ofNat (j + (own_dec x).length - 9)), vi (Int32.ofNat (own_sg x))] [(.ref b)]) (by rw [own_dec1 (a := (j + (own_dec x).length - 8)) (b := (j + (own_dec x).length - 9)) (by omega) (by omega)]) ?_
                refine uI 115 hx hby d343 rfl rfl ?_
                refine uKb 117 (45 : Int32) hx hby d344 rfl rfl ?_
                have f106 := (C100.safe (show h96.size > b by omega) f101)
                refine gstB hx X102 ⟨nn0 (by omega), (ltOf (by omega) hM).mpr (by omega)⟩ (i := (j + (own_dec x).length - 9)) (tn (by omega)) (by rw [own_wl (by simp only [List.length_cons, List.length_nil]; omega) (by omega), hvd]; omega) (y := ((45 : Int32).toInt8.toInt32)) rfl P1 (fun _ => f106) 118 (hb hby d345) rfl ?_
                intro h105 W105 C105 V105
                have z105 := C105.2.1
                have X107 : Arv Z h105 b kb .byte (Int32.ofNat M) (own_w vd (j + (own_dec x).length - 9) (j + (own_dec x).length) [(45 : Int32), (own_dc (((((own_abs x) / 100) / 100) / 100) / 10)), (own_dc ((((own_abs x) / 100) / 100) / 100)), (own_dc ((((own_abs x) / 100) / 100) / 10)), (own_dc (((own_abs x) / 100) / 100)), (own_dc (((own_abs x) / 100) / 10)), (own_dc ((own_abs x) / 100)), (own_dc ((own_abs x) / 10)), (own_dc (own_abs x))]) (.int (0 : Int32)) := Eq.mp (congrArg (fun z => Arv Z h105 b kb .byte (Int32.ofNat M) z (.int (0 : Int32))) (own_w1 (p := (j + (own_dec x).length - 8)) (q := (j + (own_dec x).length - 9)) (c := (45 : Int32)) (by omega) (by omega))) V105
                refine uI 120 hx hby d339 rfl rfl ?_
                have f109 := (C105.safe (show h100.size > b by omega) f106)
                exact gretI hx hret (hb hby d340) (by decide) (by decide) (fun vq Cq => ⟨(congrArg (fun z => some (Value.int z)) (congrArg Int32.ofNat (by omega))), (((((((((((Keep.refl h0 [b]).trans K2 all0).wr W28 (Or.inl (List.mem_of_getElem? (i := 0) rfl))).wr W32 (Or.inl (List.mem_of_getElem? (i := 0) rfl))).wr W58 (Or.inl (List.mem_of_getElem? (i := 0) rfl))).wr W62 (Or.inl (List.mem_of_getElem? (i := 0) rfl))).wr W88 (Or.inl (List.mem_of_getElem? (i := 0) rfl))).wr W92 (Or.inl (List.mem_of_getElem? (i := 0) rfl))).wr W96 (Or.inl (List.mem_of_getElem? (i := 0) rfl))).wr W100 (Or.inl (List.mem_of_getElem? (i := 0) rfl))).wr W105 (Or.inl (List.mem_of_getElem? (i := 0) rfl))), (Eq.mp (congrArg (fun z => Arv Z h105 b kb .byte (Int32.ofNat M) z (.int (0 : Int32))) (own_wend (p := (j + (own_dec x).length - 9)) (ds := [(45 : Int32), (own_dc (((((own_abs x) / 100) / 100) / 100) / 10)), (own_dc ((((own_abs x) / 100) / 100) / 100)), (own_dc ((((own_abs x) / 100) / 100) / 10)), (own_dc (((own_abs x) / 100) / 100)), (own_dc (((own_abs x) / 100) / 10)), (own_dc ((own_abs x) / 100)), (own_dc ((own_abs x) / 10)), (own_dc (own_abs x))]) (by omega) (by rw [own_dec, if_pos x6, hdg, (own_d100 6 (own_abs x) : own_digs 8 (own_abs x) = _), (own_d100 4 ((own_abs x) / 100) : own_digs 6 ((own_abs x) / 100) = _), (own_d100 2 (((own_abs x) / 100) / 100) : own_digs 4 (((own_abs x) / 100) / 100) = _), (own_d100 0 ((((own_abs x) / 100) / 100) / 100) : own_digs 2 ((((own_abs x) / 100) / 100) / 100) = _)]; rfl))) X107), (Cq.safe (show h105.size > b by omega) f109)⟩)
            · refine uYc 104 hx hby d328 (flt g).2.1 (by decide) (by decide) ?_
              have m9 : ¬ 9 < ((((own_abs x) / 100) / 100) / 100) := fun q => g ((own_gtn (n := ((((own_abs x) / 100) / 100) / 100)) (by omega) 9 (by decide) (-9) (by decide +kernel)).mpr q)
              refine uI 106 hx hby d337 rfl rfl ?_
              by_cases g6 : (Int32.ofNat (own_sg x)) = (0 : Int32)
              · refine uY 118 hx hby d338 ((if0 _ _).trans (teq g6).1) (by decide) (by decide) ?_
                obtain ⟨e6, x6⟩ := own_sg0 g6
                have hdg : own_dn (own_abs x) = 7 := (Nat.le_antisymm (own_du7 (by omega)) (own_dg7 (by omega)))
                refine uI 120 hx hby d339 rfl rfl ?_
                have f111 := (C96.safe (show h92.size > b by omega) f97)
                exact gretI hx hret (hb hby d340) (by decide) (by decide) (fun vq Cq => ⟨(congrArg (fun z => some (Value.int z)) (congrArg Int32.ofNat (by omega))), (((((((((Keep.refl h0 [b]).trans K2 all0).wr W28 (Or.inl (List.mem_of_getElem? (i := 0) rfl))).wr W32 (Or.inl (List.mem_of_getElem? (i := 0) rfl))).wr W58 (Or.inl (List.mem_of_getElem? (i := 0) rfl))).wr W62 (Or.inl (List.mem_of_getElem? (i := 0) rfl))).wr W88 (Or.inl (List.mem_of_getElem? (i := 0) rfl))).wr W92 (Or.inl (List.mem_of_getElem? (i := 0) rfl))).wr W96 (Or.inl (List.mem_of_getElem? (i := 0) rfl))), (Eq.mp (congrArg (fun z => Arv Z h96 b kb .byte (Int32.ofNat M) z (.int (0 : Int32))) (own_wend (p := (j + (own_dec x).length - 7)) (ds := [(own_dc ((((own_abs x) / 100) / 100) / 100)), (own_dc ((((own_abs x) / 100) / 100) / 10)), (own_dc (((own_abs x) / 100) / 100)), (own_dc (((own_abs x) / 100) / 10)), (own_dc ((own_abs x) / 100)), (own_dc ((own_abs x) / 10)), (own_dc (own_abs x))]) (by omega) (by rw [own_dec, if_neg x6, hdg, (own_d100 5 (own_abs x) : own_digs 7 (own_abs x) = _), (own_d100 3 ((own_abs x) / 100) : own_digs 5 ((own_abs x) / 100) = _), (own_d100 1 (((own_abs x) / 100) / 100) : own_digs 3 (((own_abs x) / 100) / 100) = _)]; rfl))) X98), (Cq.safe (show h96.size > b by omega) f111)⟩)
              · refine uN 109 hx hby d338 rfl ((if0 _ _).trans (feq g6).1) ?_
                obtain ⟨e6, x6⟩ := own_sg1 g6
                have hdg : own_dn (own_abs x) = 7 := (Nat.le_antisymm (own_du7 (by omega)) (own_dg7 (by omega)))
                refine uAN 110 hx hby d341 rfl rfl rfl ?_
                refine uInc 113 #[vi (negI ((((own_abs x) / 100) / 100) / 100)), vi (Int32.ofNat (j + (own_dec x).length)), vr b, vi (negI ((((own_abs x) / 100) / 100) / 100)), vi (Int32.ofNat ((((own_abs x) / 100) / 100) % 100)), vi ((Int32.ofNat (j + (own_dec x).length - 7)) + (-1 : Int32)), vi (Int32.ofNat (own_sg x))] hx hby d342 rfl rfl rfl ?_
                refine gat (mkF m 113 #[vi (negI ((((own_abs x) / 100) / 100) / 100)), vi (Int32.ofNat (j + (own_dec x).length)), vr b, vi (negI ((((own_abs x) / 100) / 100) / 100)), vi (Int32.ofNat ((((own_abs x) / 100) / 100) % 100)), vi (Int32.ofNat (j + (own_dec x).length - 8)), vi (Int32.ofNat (own_sg x))] [(.ref b)]) (by rw [own_dec1 (a := (j + (own_dec x).length - 7)) (b := (j + (own_dec x).length - 8)) (by omega) (by omega)]) ?_
                refine uI 115 hx hby d343 rfl rfl ?_
                refine uKb 117 (45 : Int32) hx hby d344 rfl rfl ?_
                have f113 := (C96.safe (show h92.size > b by omega) f97)
                refine gstB hx X98 ⟨nn0 (by omega), (ltOf (by omega) hM).mpr (by omega)⟩ (i := (j + (own_dec x).length - 8)) (tn (by omega)) (by rw [own_wl (by simp only [List.length_cons, List.length_nil]; omega) (by omega), hvd]; omega) (y := ((45 : Int32).toInt8.toInt32)) rfl P1 (fun _ => f113) 118 (hb hby d345) rfl ?_
                intro h112 W112 C112 V112
                have z112 := C112.2.1
                have X114 : Arv Z h112 b kb .byte (Int32.ofNat M) (own_w vd (j + (own_dec x).length - 8) (j + (own_dec x).length) [(45 : Int32), (own_dc ((((own_abs x) / 100) / 100) / 100)), (own_dc ((((own_abs x) / 100) / 100) / 10)), (own_dc (((own_abs x) / 100) / 100)), (own_dc (((own_abs x) / 100) / 10)), (own_dc ((own_abs x) / 100)), (own_dc ((own_abs x) / 10)), (own_dc (own_abs x))]) (.int (0 : Int32)) := Eq.mp (congrArg (fun z => Arv Z h112 b kb .byte (Int32.ofNat M) z (.int (0 : Int32))) (own_w1 (p := (j + (own_dec x).length - 7)) (q := (j + (own_dec x).length - 8)) (c := (45 : Int32)) (by omega) (by omega))) V112
                refine uI 120 hx hby d339 rfl rfl ?_
                have f116 := (C112.safe (show h96.size > b by omega) f113)
                exact gretI hx hret (hb hby d340) (by decide) (by decide) (fun vq Cq => ⟨(congrArg (fun z => some (Value.int z)) (congrArg Int32.ofNat (by omega))), ((((((((((Keep.refl h0 [b]).trans K2 all0).wr W28 (Or.inl (List.mem_of_getElem? (i := 0) rfl))).wr W32 (Or.inl (List.mem_of_getElem? (i := 0) rfl))).wr W58 (Or.inl (List.mem_of_getElem? (i := 0) rfl))).wr W62 (Or.inl (List.mem_of_getElem? (i := 0) rfl))).wr W88 (Or.inl (List.mem_of_getElem? (i := 0) rfl))).wr W92 (Or.inl (List.mem_of_getElem? (i := 0) rfl))).wr W96 (Or.inl (List.mem_of_getElem? (i := 0) rfl))).wr W112 (Or.inl (List.mem_of_getElem? (i := 0) rfl))), (Eq.mp (congrArg (fun z => Arv Z h112 b kb .byte (Int32.ofNat M) z (.int (0 : Int32))) (own_wend (p := (j + (own_dec x).length - 8)) (ds := [(45 : Int32), (own_dc ((((own_abs x) / 100) / 100) / 100)), (own_dc ((((own_abs x) / 100) / 100) / 10)), (own_dc (((own_abs x) / 100) / 100)), (own_dc (((own_abs x) / 100) / 10)), (own_dc ((own_abs x) / 100)), (own_dc ((own_abs x) / 10)), (own_dc (own_abs x))]) (by omega) (by rw [own_dec, if_pos x6, hdg, (own_d100 5 (own_abs x) : own_digs 7 (own_abs x) = _), (own_d100 3 ((own_abs x) / 100) : own_digs 5 ((own_abs x) / 100) = _), (own_d100 1 (((own_abs x) / 100) / 100) : own_digs 3 (((own_abs x) / 100) / 100) = _)]; rfl))) X114), (Cq.safe (show h112.size > b by omega) f116)⟩)
          · refine uNc 28 hx hby d317 rfl (flt g).2.2.1 ?_
            have m3 : ¬ ((((own_abs x) / 100) / 100) / 100) < 100 := fun q => g ((own_ltn (n := ((((own_abs x) / 100) / 100) / 100)) (by omega) 100 (by decide) (-100) (by decide +kernel)).mpr q)
            have hd5 := own_dg9 (n := own_abs x) (by omega)
            refine uIN 29 hx hby d346 rfl rfl ?_
            refine uKb 31 (100 : Int32) hx hby d347 rfl rfl ?_
            refine gs (mkF m 32 #[vi (negI ((((own_abs x) / 100) / 100) / 100)), vi (Int32.ofNat (j + (own_dec x).length)), vr b, vi (negI ((((own_abs x) / 100) / 100) / 100)), vi (Int32.ofNat ((((own_abs x) / 100) / 100) % 100)), vi (Int32.ofNat (j + (own_dec x).length - 6)), vi (Int32.ofNat (own_sg x))] [(.int ((negI ((((own_abs x) / 100) / 100) / 100)) / (100 : Int32)))]) (fun _ _ A kq => XS.idiv A hx rfl (hb hby d348) rfl (by decide) kq) ?_
            refine gat (mkF m 32 #[vi (negI ((((own_abs x) / 100) / 100) / 100)), vi (Int32.ofNat (j + (own_dec x).length)), vr b, vi (negI ((((own_abs x) / 100) / 100) / 100)), vi (Int32.ofNat ((((own_abs x) / 100) / 100) % 100)), vi (Int32.ofNat (j + (own_dec x).length - 6)), vi (Int32.ofNat (own_sg x))] [(.int (negI (((((own_abs x) / 100) / 100) / 100) / 100)))]) (by rw [negI_div100 (n := ((((own_abs x) / 100) / 100) / 100)) (by omega)]) ?_
            refine uSIN 33 #[vi (negI ((((own_abs x) / 100) / 100) / 100)), vi (Int32.ofNat (j + (own_dec x).length)), vr b, vi (negI (((((own_abs x) / 100) / 100) / 100) / 100)), vi (Int32.ofNat ((((own_abs x) / 100) / 100) % 100)), vi (Int32.ofNat (j + (own_dec x).length - 6)), vi (Int32.ofNat (own_sg x))] hx hby d349 rfl rfl ?_
            refine uIN 34 hx hby d350 rfl rfl ?_
            refine uKb 36 (100 : Int32) hx hby d351 rfl rfl ?_
            refine uimul 37 ((negI (((((own_abs x) / 100) / 100) / 100) / 100)) * (100 : Int32)) hx hby d352 rfl rfl ?_
            refine uIN 38 hx hby d353 rfl rfl ?_
            refine uisub 39 (((negI (((((own_abs x) / 100) / 100) / 100) / 100)) * (100 : Int32)) - (negI ((((own_abs x) / 100) / 100) / 100))) hx hby d354 rfl rfl ?_
            refine gat (mkF m 39 #[vi (negI ((((own_abs x) / 100) / 100) / 100)), vi (Int32.ofNat (j + (own_dec x).length)), vr b, vi (negI (((((own_abs x) / 100) / 100) / 100) / 100)), vi (Int32.ofNat ((((own_abs x) / 100) / 100) % 100)), vi (Int32.ofNat (j + (own_dec x).length - 6)), vi (Int32.ofNat (own_sg x))] [(.int (Int32.ofNat (((((own_abs x) / 100) / 100) / 100) % 100)))]) (by rw [negI_rem (n := ((((own_abs x) / 100) / 100) / 100)) (by omega)]) ?_
            refine uSI 41 #[vi (negI ((((own_abs x) / 100) / 100) / 100)), vi (Int32.ofNat (j + (own_dec x).length)), vr b, vi (negI (((((own_abs x) / 100) / 100) / 100) / 100)), vi (Int32.ofNat (((((own_abs x) / 100) / 100) / 100) % 100)), vi (Int32.ofNat (j + (own_dec x).length - 6)), vi (Int32.ofNat (own_sg x))] hx hby d355 rfl rfl ?_
            refine uIN 42 hx hby d356 rfl rfl ?_
            refine uSIN 43 #[vi (negI (((((own_abs x) / 100) / 100) / 100) / 100)), vi (Int32.ofNat (j + (own_dec x).length)), vr b, vi (negI (((((own_abs x) / 100) / 100) / 100) / 100)), vi (Int32.ofNat (((((own_abs x) / 100) / 100) / 100) % 100)), vi (Int32.ofNat (j + (own_dec x).length - 6)), vi (Int32.ofNat (own_sg x))] hx hby d357 rfl rfl ?_
            refine uAN 44 hx hby d358 rfl rfl rfl ?_
            refine uInc 47 #[vi (negI (((((own_abs x) / 100) / 100) / 100) / 100)), vi (Int32.ofNat (j + (own_dec x).length)), vr b, vi (negI (((((own_abs x) / 100) / 100) / 100) / 100)), vi (Int32.ofNat (((((own_abs x) / 100) / 100) / 100) % 100)), vi ((Int32.ofNat (j + (own_dec x).length - 6)) + (-1 : Int32)), vi (Int32.ofNat (own_sg x))] hx hby d359 rfl rfl rfl ?_
            refine gat (mkF m 47 #[vi (negI (((((own_abs x) / 100) / 100) / 100) / 100)), vi (Int32.ofNat (j + (own_dec x).length)), vr b, vi (negI (((((own_abs x) / 100) / 100) / 100) / 100)), vi (Int32.ofNat (((((own_abs x) / 100) / 100) / 100) % 100)), vi (Int32.ofNat (j + (own_dec x).length - 7)), vi (Int32.ofNat (own_sg x))] [(.ref b)]) (by rw [own_dec1 (a := (j + (own_dec x).length - 6)) (b := (j + (own_dec x).length - 7)) (by omega) (by omega)]) ?_
            refine uI 49 hx hby d360 rfl rfl ?_
            refine ggetS (host := "") hx (Or.inl (ow hw 184 rfl)) Via.refl Sgo 52 (hb hby d361) rfl ?_
            refine uI 54 hx hby d362 rfl rfl ?_
            have f117 := ((f87.other W88 (Nat.ne_of_lt (Nat.lt_of_lt_of_le Vgo.lt P1))).other W92 (Nat.ne_of_lt (Nat.lt_of_lt_of_le Vgo.lt P1)))
            refine gldB hx f117 (own_lt100 _) (i := (((((own_abs x) / 100) / 100) / 100) % 100)) (tn (by omega)) (v := (.int (own_dc ((((own_abs x) / 100) / 100) / 100)))) (own_ones _) 55 (hb hby d363) rfl ?_
            have f119 := (C92.safe (show h88.size > b by omega) f93)
            refine gstB hx X94 ⟨nn0 (by omega), (ltOf (by omega) hM).mpr (by omega)⟩ (i := (j + (own_dec x).length - 7)) (tn (by omega)) (by rw [own_wl (by simp only [List.length_cons, List.length_nil]; omega) (by omega), hvd]; omega) (y := ((own_dc ((((own_abs x) / 100) / 100) / 100)).toInt8.toInt32)) rfl P1 (fun _ => f119) 56 (hb hby d364) rfl ?_
            intro h118 W118 C118 V118
            have z118 := C118.2.1
            have X120 : Arv Z h118 b kb .byte (Int32.ofNat M) (own_w vd (j + (own_dec x).length - 7) (j + (own_dec x).length) [(own_dc ((((own_abs x) / 100) / 100) / 100)), (own_dc ((((own_abs x) / 100) / 100) / 10)), (own_dc (((own_abs x) / 100) / 100)), (own_dc (((own_abs x) / 100) / 10)), (own_dc ((own_abs x) / 100)), (own_dc ((own_abs x) / 10)), (own_dc (own_abs x))]) (.int (0 : Int32)) := Eq.mp (congrArg (fun z => Arv Z h118 b kb .byte (Int32.ofNat M) z (.int (0 : Int32))) (own_w1 (p := (j + (own_dec x).length - 6)) (q := (j + (own_dec x).length - 7)) (c := (own_dc ((((own_abs x) / 100) / 100) / 100))) (by omega) (by omega))) V118
            refine uAN 57 hx hby d365 rfl rfl rfl ?_
            refine uInc 60 #[vi (negI (((((own_abs x) / 100) / 100) / 100) / 100)), vi (Int32.ofNat (j + (own_dec x).length)), vr b, vi (negI (((((own_abs x) / 100) / 100) / 100) / 100)), vi (Int32.ofNat (((((own_abs x) / 100) / 100) / 100) % 100)), vi ((Int32.ofNat (j + (own_dec x).length - 7)) + (-1 : Int32)), vi (Int32.ofNat (own_sg x))] hx hby d366 rfl rfl rfl ?_
            refine gat (mkF m 60 #[vi (negI (((((own_abs x) / 100) / 100) / 100) / 100)), vi (Int32.ofNat (j + (own_dec x).length)), vr b, vi (negI (((((own_abs x) / 100) / 100) / 100) / 100)), vi (Int32.ofNat (((((own_abs x) / 100) / 100) / 100) % 100)), vi (Int32.ofNat (j + (own_dec x).length - 8)), vi (Int32.ofNat (own_sg x))] [(.ref b)]) (by rw [own_dec1 (a := (j + (own_dec x).length - 7)) (b := (j + (own_dec x).length - 8)) (by omega) (by omega)]) ?_
            refine uI 62 hx hby d367 rfl rfl ?_
            refine ggetS (host := "") hx (Or.inl (ow hw 229 rfl)) Via.refl Sgt 65 (hb hby d368) rfl ?_
            refine uI 67 hx hby d369 rfl rfl ?_
            have f121 := ((f91.other W92 (Nat.ne_of_lt (Nat.lt_of_lt_of_le Vgt.lt P1))).other W118 (Nat.ne_of_lt (Nat.lt_of_lt_of_le Vgt.lt P1)))
            refine gldB hx f121 (own_lt100 _) (i := (((((own_abs x) / 100) / 100) / 100) % 100)) (tn (by omega)) (v := (.int (own_dc (((((own_abs x) / 100) / 100) / 100) / 10)))) (own_tens _) 68 (hb hby d370) rfl ?_
            have f123 := (C118.safe (show h92.size > b by omega) f119)
            refine gstB hx X120 ⟨nn0 (by omega), (ltOf (by omega) hM).mpr (by omega)⟩ (i := (j + (own_dec x).length - 8)) (tn (by omega)) (by rw [own_wl (by simp only [List.length_cons, List.length_nil]; omega) (by omega), hvd]; omega) (y := ((own_dc (((((own_abs x) / 100) / 100) / 100) / 10)).toInt8.toInt32)) rfl P1 (fun _ => f123) 69 (hb hby d371) rfl ?_
            intro h122 W122 C122 V122
            have z122 := C122.2.1
            have X124 : Arv Z h122 b kb .byte (Int32.ofNat M) (own_w vd (j + (own_dec x).length - 8) (j + (own_dec x).length) [(own_dc (((((own_abs x) / 100) / 100) / 100) / 10)), (own_dc ((((own_abs x) / 100) / 100) / 100)), (own_dc ((((own_abs x) / 100) / 100) / 10)), (own_dc (((own_abs x) / 100) / 100)), (own_dc (((own_abs x) / 100) / 10)), (own_dc ((own_abs x) / 100)), (own_dc ((own_abs x) / 10)), (own_dc (own_abs x))]) (.int (0 : Int32)) := Eq.mp (congrArg (fun z => Arv Z h122 b kb .byte (Int32.ofNat M) z (.int (0 : Int32))) (own_w1 (p := (j + (own_dec x).length - 7)) (q := (j + (own_dec x).length - 8)) (c := (own_dc (((((own_abs x) / 100) / 100) / 100) / 10))) (by omega) (by omega))) V122
            refine uG 22 hx hby d372 (by decide) (by decide) ?_
            refine uIN 23 hx hby d315 rfl rfl ?_
            refine uKb 25 (-100 : Int32) hx hby d316 rfl rfl ?_
            refine uYc 72 hx hby d317 (tlt ((own_ltn (n := (((((own_abs x) / 100) / 100) / 100) / 100)) (by omega) 100 (by decide) (-100) (by decide +kernel)).mpr (by omega))).2.2.1 (by decide) (by decide) ?_
            refine uAN 73 hx hby d318 rfl rfl rfl ?_
            refine uInc 76 #[vi (negI (((((own_abs x) / 100) / 100) / 100) / 100)), vi (Int32.ofNat (j + (own_dec x).length)), vr b, vi (negI (((((own_abs x) / 100) / 100) / 100) / 100)), vi (Int32.ofNat (((((own_abs x) / 100) / 100) / 100) % 100)), vi ((Int32.ofNat (j + (own_dec x).length - 8)) + (-1 : Int32)), vi (Int32.ofNat (own_sg x))] hx hby d319 rfl rfl rfl ?_
            refine gat (mkF m 76 #[vi (negI (((((own_abs x) / 100) / 100) / 100) / 100)), vi (Int32.ofNat (j + (own_dec x).length)), vr b, vi (negI (((((own_abs x) / 100) / 100) / 100) / 100)), vi (Int32.ofNat (((((own_abs x) / 100) / 100) / 100) % 100)), vi (Int32.ofNat (j + (own_dec x).length - 9)), vi (Int32.ofNat (own_sg x))] [(.ref b)]) (by rw [own_dec1 (a := (j + (own_dec x).length - 8)) (b := (j + (own_dec x).length - 9)) (by omega) (by omega)]) ?_
            refine uI 78 hx hby d320 rfl rfl ?_
            refine ggetS (host := "") hx (Or.inl (ow hw 184 rfl)) Via.refl Sgo 81 (hb hby d321) rfl ?_
            refine uIN 82 hx hby d322 rfl rfl ?_
            refine gs (mkF m 83 #[vi (negI (((((own_abs x) / 100) / 100) / 100) / 100)), vi (Int32.ofNat (j + (own_dec x).length)), vr b, vi (negI (((((own_abs x) / 100) / 100) / 100) / 100)), vi (Int32.ofNat (((((own_abs x) / 100) / 100) / 100) % 100)), vi (Int32.ofNat (j + (own_dec x).length - 9)), vi (Int32.ofNat (own_sg x))] [(.int (-(negI (((((own_abs x) / 100) / 100) / 100) / 100)))), (.ref dgo), (.int (Int32.ofNat (j + (own_dec x).length - 9))), (.ref b)]) (fun _ _ A kq => XS.ineg A hx rfl (hb hby d323) rfl kq) ?_
            refine gat (mkF m 83 #[vi (negI (((((own_abs x) / 100) / 100) / 100) / 100)), vi (Int32.ofNat (j + (own_dec x).length)), vr b, vi (negI (((((own_abs x) / 100) / 100) / 100) / 100)), vi (Int32.ofNat (((((own_abs x) / 100) / 100) / 100) % 100)), vi (Int32.ofNat (j + (own_dec x).length - 9)), vi (Int32.ofNat (own_sg x))] [(.int (Int32.ofNat ((((((own_abs x) / 100) / 100) / 100) / 100) % 100))), (.ref dgo), (.int (Int32.ofNat (j + (own_dec x).length - 9))), (.ref b)]) (by rw [own_negm (n := (((((own_abs x) / 100) / 100) / 100) / 100)) (by omega)]) ?_
            have f125 := ((f117.other W118 (Nat.ne_of_lt (Nat.lt_of_lt_of_le Vgo.lt P1))).other W122 (Nat.ne_of_lt (Nat.lt_of_lt_of_le Vgo.lt P1)))
            refine gldB hx f125 (own_lt100 _) (i := ((((((own_abs x) / 100) / 100) / 100) / 100) % 100)) (tn (by omega)) (v := (.int (own_dc (((((own_abs x) / 100) / 100) / 100) / 100)))) (own_ones _) 84 (hb hby d324) rfl ?_
            have f127 := (C122.safe (show h118.size > b by omega) f123)
            refine gstB hx X124 ⟨nn0 (by omega), (ltOf (by omega) hM).mpr (by omega)⟩ (i := (j + (own_dec x).length - 9)) (tn (by omega)) (by rw [own_wl (by simp only [List.length_cons, List.length_nil]; omega) (by omega), hvd]; omega) (y := ((own_dc (((((own_abs x) / 100) / 100) / 100) / 100)).toInt8.toInt32)) rfl P1 (fun _ => f127) 85 (hb hby d325) rfl ?_
            intro h126 W126 C126 V126
            have z126 := C126.2.1
            have X128 : Arv Z h126 b kb .byte (Int32.ofNat M) (own_w vd (j + (own_dec x).length - 9) (j + (own_dec x).length) [(own_dc (((((own_abs x) / 100) / 100) / 100) / 100)), (own_dc (((((own_abs x) / 100) / 100) / 100) / 10)), (own_dc ((((own_abs x) / 100) / 100) / 100)), (own_dc ((((own_abs x) / 100) / 100) / 10)), (own_dc (((own_abs x) / 100) / 100)), (own_dc (((own_abs x) / 100) / 10)), (own_dc ((own_abs x) / 100)), (own_dc ((own_abs x) / 10)), (own_dc (own_abs x))]) (.int (0 : Int32)) := Eq.mp (congrArg (fun z => Arv Z h126 b kb .byte (Int32.ofNat M) z (.int (0 : Int32))) (own_w1 (p := (j + (own_dec x).length - 8)) (q := (j + (own_dec x).length - 9)) (c := (own_dc (((((own_abs x) / 100) / 100) / 100) / 100))) (by omega) (by omega))) V126
            refine uIN 86 hx hby d326 rfl rfl ?_
            refine uKb 88 (-9 : Int32) hx hby d327 rfl rfl ?_
            by_cases g : (negI (((((own_abs x) / 100) / 100) / 100) / 100)) < (-9 : Int32)
            · refine uNc 91 hx hby d328 rfl (tlt g).2.1 ?_
              have m9 := (own_gtn (n := (((((own_abs x) / 100) / 100) / 100) / 100)) (by omega) 9 (by decide) (-9) (by decide +kernel)).mp g
              have hd9 := own_dg10 (n := own_abs x) (by omega)
              refine uAN 92 hx hby d329 rfl rfl rfl ?_
              refine uInc 95 #[vi (negI (((((own_abs x) / 100) / 100) / 100) / 100)), vi (Int32.ofNat (j + (own_dec x).length)), vr b, vi (negI (((((own_abs x) / 100) / 100) / 100) / 100)), vi (Int32.ofNat (((((own_abs x) / 100) / 100) / 100) % 100)), vi ((Int32.ofNat (j + (own_dec x).length - 9)) + (-1 : Int32)), vi (Int32.ofNat (own_sg x))] hx hby d330 rfl rfl rfl ?_
              refine gat (mkF m 95 #[vi (negI (((((own_abs x) / 100) / 100) / 100) / 100)), vi (Int32.ofNat (j + (own_dec x).length)), vr b, vi (negI (((((own_abs x) / 100) / 100) / 100) / 100)), vi (Int32.ofNat (((((own_abs x) / 100) / 100) / 100) % 100)), vi (Int32.ofNat (j + (own_dec x).length - 10)), vi (Int32.ofNat (own_sg x))] [(.ref b)]) (by rw [own_dec1 (a := (j + (own_dec x).length - 9)) (b := (j + (own_dec x).length - 10)) (by omega) (by omega)]) ?_
              refine uI 97 hx hby d331 rfl rfl ?_
              refine ggetS (host := "") hx (Or.inl (ow hw 229 rfl)) Via.refl Sgt 100 (hb hby d332) rfl ?_
              refine uIN 101 hx hby d333 rfl rfl ?_
              refine gs (mkF m 102 #[vi (negI (((((own_abs x) / 100) / 100) / 100) / 100)), vi (Int32.ofNat (j + (own_dec x).length)), vr b, vi (negI (((((own_abs x) / 100) / 100) / 100) / 100)), vi (Int32.ofNat (((((own_abs x) / 100) / 100) / 100) % 100)), vi (Int32.ofNat (j + (own_dec x).length - 10)), vi (Int32.ofNat (own_sg x))] [(.int (-(negI (((((own_abs x) / 100) / 100) / 100) / 100)))), (.ref dgt), (.int (Int32.ofNat (j + (own_dec x).length - 10))), (.ref b)]) (fun _ _ A kq => XS.ineg A hx rfl (hb hby d334) rfl kq) ?_
              refine gat (mkF m 102 #[vi (negI (((((own_abs x) / 100) / 100) / 100) / 100)), vi (Int32.ofNat (j + (own_dec x).length)), vr b, vi (negI (((((own_abs x) / 100) / 100) / 100) / 100)), vi (Int32.ofNat (((((own_abs x) / 100) / 100) / 100) % 100)), vi (Int32.ofNat (j + (own_dec x).length - 10)), vi (Int32.ofNat (own_sg x))] [(.int (Int32.ofNat ((((((own_abs x) / 100) / 100) / 100) / 100) % 100))), (.ref dgt), (.int (Int32.ofNat (j + (own_dec x).length - 10))), (.ref b)]) (by rw [own_negm (n := (((((own_abs x) / 100) / 100) / 100) / 100)) (by omega)]) ?_
              have f129 := ((f121.other W122 (Nat.ne_of_lt (Nat.lt_of_lt_of_le Vgt.lt P1))).other W126 (Nat.ne_of_lt (Nat.lt_of_lt_of_le Vgt.lt P1)))
              refine gldB hx f129 (own_lt100 _) (i := ((((((own_abs x) / 100) / 100) / 100) / 100) % 100)) (tn (by omega)) (v := (.int (own_dc ((((((own_abs x) / 100) / 100) / 100) / 100) / 10)))) (own_tens _) 103 (hb hby d335) rfl ?_
              have f131 := (C126.safe (show h122.size > b by omega) f127)
              refine gstB hx X128 ⟨nn0 (by omega), (ltOf (by omega) hM).mpr (by omega)⟩ (i := (j + (own_dec x).length - 10)) (tn (by omega)) (by rw [own_wl (by simp only [List.length_cons, List.length_nil]; omega) (by omega), hvd]; omega) (y := ((own_dc ((((((own_abs x) / 100) / 100) / 100) / 100) / 10)).toInt8.toInt32)) rfl P1 (fun _ => f131) 104 (hb hby d336) rfl ?_
              intro h130 W130 C130 V130
              have z130 := C130.2.1
              have X132 : Arv Z h130 b kb .byte (Int32.ofNat M) (own_w vd (j + (own_dec x).length - 10) (j + (own_dec x).length) [(own_dc ((((((own_abs x) / 100) / 100) / 100) / 100) / 10)), (own_dc (((((own_abs x) / 100) / 100) / 100) / 100)), (own_dc (((((own_abs x) / 100) / 100) / 100) / 10)), (own_dc ((((own_abs x) / 100) / 100) / 100)), (own_dc ((((own_abs x) / 100) / 100) / 10)), (own_dc (((own_abs x) / 100) / 100)), (own_dc (((own_abs x) / 100) / 10)), (own_dc ((own_abs x) / 100)), (own_dc ((own_abs x) / 10)), (own_dc (own_abs x))]) (.int (0 : Int32)) := Eq.mp (congrArg (fun z => Arv Z h130 b kb .byte (Int32.ofNat M) z (.int (0 : Int32))) (own_w1 (p := (j + (own_dec x).length - 9)) (q := (j + (own_dec x).length - 10)) (c := (own_dc ((((((own_abs x) / 100) / 100) / 100) / 100) / 10))) (by omega) (by omega))) V130
              refine uI 106 hx hby d337 rfl rfl ?_
              by_cases g6 : (Int32.ofNat (own_sg x)) = (0 : Int32)
              · refine uY 118 hx hby d338 ((if0 _ _).trans (teq g6).1) (by decide) (by decide) ?_
                obtain ⟨e6, x6⟩ := own_sg0 g6
                have hdg : own_dn (own_abs x) = 10 := (Nat.le_antisymm (own_dn_pos _).2 (own_dg10 (by omega)))
                refine uI 120 hx hby d339 rfl rfl ?_
                have f134 := (C130.safe (show h126.size > b by omega) f131)
                exact gretI hx hret (hb hby d340) (by decide) (by decide) (fun vq Cq => ⟨(congrArg (fun z => some (Value.int z)) (congrArg Int32.ofNat (by omega))), ((((((((((((Keep.refl h0 [b]).trans K2 all0).wr W28 (Or.inl (List.mem_of_getElem? (i := 0) rfl))).wr W32 (Or.inl (List.mem_of_getElem? (i := 0) rfl))).wr W58 (Or.inl (List.mem_of_getElem? (i := 0) rfl))).wr W62 (Or.inl (List.mem_of_getElem? (i := 0) rfl))).wr W88 (Or.inl (List.mem_of_getElem? (i := 0) rfl))).wr W92 (Or.inl (List.mem_of_getElem? (i := 0) rfl))).wr W118 (Or.inl (List.mem_of_getElem? (i := 0) rfl))).wr W122 (Or.inl (List.mem_of_getElem? (i := 0) rfl))).wr W126 (Or.inl (List.mem_of_getElem? (i := 0) rfl))).wr W130 (Or.inl (List.mem_of_getElem? (i := 0) rfl))), (Eq.mp (congrArg (fun z => Arv Z h130 b kb .byte (Int32.ofNat M) z (.int (0 : Int32))) (own_wend (p := (j + (own_dec x).length - 10)) (ds := [(own_dc ((((((own_abs x) / 100) / 100) / 100) / 100) / 10)), (own_dc (((((own_abs x) / 100) / 100) / 100) / 100)), (own_dc (((((own_abs x) / 100) / 100) / 100) / 10)), (own_dc ((((own_abs x) / 100) / 100) / 100)), (own_dc ((((own_abs x) / 100) / 100) / 10)), (own_dc (((own_abs x) / 100) / 100)), (own_dc (((own_abs x) / 100) / 10)), (own_dc ((own_abs x) / 100)), (own_dc ((own_abs x) / 10)), (own_dc (own_abs x))]) (by omega) (by rw [own_dec, if_neg x6, hdg, (own_d100 8 (own_abs x) : own_digs 10 (own_abs x) = _), (own_d100 6 ((own_abs x) / 100) : own_digs 8 ((own_abs x) / 100) = _), (own_d100 4 (((own_abs x) / 100) / 100) : own_digs 6 (((own_abs x) / 100) / 100) = _), (own_d100 2 ((((own_abs x) / 100) / 100) / 100) : own_digs 4 ((((own_abs x) / 100) / 100) / 100) = _), (own_d100 0 (((((own_abs x) / 100) / 100) / 100) / 100) : own_digs 2 (((((own_abs x) / 100) / 100) / 100) / 100) = _)]; rfl))) X132), (Cq.safe (show h130.size > b by omega) f134)⟩)
              · refine uN 109 hx hby d338 rfl ((if0 _ _).trans (feq g6).1) ?_
                obtain ⟨e6, x6⟩ := own_sg1 g6
                have hdg : own_dn (own_abs x) = 10 := (Nat.le_antisymm (own_dn_pos _).2 (own_dg10 (by omega)))
                refine uAN 110 hx hby d341 rfl rfl rfl ?_
                refine uInc 113 #[vi (negI (((((own_abs x) / 100) / 100) / 100) / 100)), vi (Int32.ofNat (j + (own_dec x).length)), vr b, vi (negI (((((own_abs x) / 100) / 100) / 100) / 100)), vi (Int32.ofNat (((((own_abs x) / 100) / 100) / 100) % 100)), vi ((Int32.ofNat (j + (own_dec x).length - 10)) + (-1 : Int32)), vi (Int32.ofNat (own_sg x))] hx hby d342 rfl rfl rfl ?_
                refine gat (mkF m 113 #[vi (negI (((((own_abs x) / 100) / 100) / 100) / 100)), vi (Int32.ofNat (j + (own_dec x).length)), vr b, vi (negI (((((own_abs x) / 100) / 100) / 100) / 100)), vi (Int32.ofNat (((((own_abs x) / 100) / 100) / 100) % 100)), vi (Int32.ofNat (j + (own_dec x).length - 11)), vi (Int32.ofNat (own_sg x))] [(.ref b)]) (by rw [own_dec1 (a := (j + (own_dec x).length - 10)) (b := (j + (own_dec x).length - 11)) (by omega) (by omega)]) ?_
                refine uI 115 hx hby d343 rfl rfl ?_
                refine uKb 117 (45 : Int32) hx hby d344 rfl rfl ?_
                have f136 := (C130.safe (show h126.size > b by omega) f131)
                refine gstB hx X132 ⟨nn0 (by omega), (ltOf (by omega) hM).mpr (by omega)⟩ (i := (j + (own_dec x).length - 11)) (tn (by omega)) (by rw [own_wl (by simp only [List.length_cons, List.length_nil]; omega) (by omega), hvd]; omega) (y := ((45 : Int32).toInt8.toInt32)) rfl P1 (fun _ => f136) 118 (hb hby d345) rfl ?_
                intro h135 W135 C135 V135
                have z135 := C135.2.1
                have X137 : Arv Z h135 b kb .byte (Int32.ofNat M) (own_w vd (j + (own_dec x).length - 11) (j + (own_dec x).length) [(45 : Int32), (own_dc ((((((own_abs x) / 100) / 100) / 100) / 100) / 10)), (own_dc (((((own_abs x) / 100) / 100) / 100) / 100)), (own_dc (((((own_abs x) / 100) / 100) / 100) / 10)), (own_dc ((((own_abs x) / 100) / 100) / 100)), (own_dc ((((own_abs x) / 100) / 100) / 10)), (own_dc (((own_abs x) / 100) / 100)), (own_dc (((own_abs x) / 100) / 10)), (own_dc ((own_abs x) / 100)), (own_dc ((own_abs x) / 10)), (own_dc (own_abs x))]) (.int (0 : Int32)) := Eq.mp (congrArg (fun z => Arv Z h135 b kb .byte (Int32.ofNat M) z (.int (0 : Int32))) (own_w1 (p := (j + (own_dec x).length - 10)) (q := (j + (own_dec x).length - 11)) (c := (45 : Int32)) (by omega) (by omega))) V135
                refine uI 120 hx hby d339 rfl rfl ?_
                have f139 := (C135.safe (show h130.size > b by omega) f136)
                exact gretI hx hret (hb hby d340) (by decide) (by decide) (fun vq Cq => ⟨(congrArg (fun z => some (Value.int z)) (congrArg Int32.ofNat (by omega))), (((((((((((((Keep.refl h0 [b]).trans K2 all0).wr W28 (Or.inl (List.mem_of_getElem? (i := 0) rfl))).wr W32 (Or.inl (List.mem_of_getElem? (i := 0) rfl))).wr W58 (Or.inl (List.mem_of_getElem? (i := 0) rfl))).wr W62 (Or.inl (List.mem_of_getElem? (i := 0) rfl))).wr W88 (Or.inl (List.mem_of_getElem? (i := 0) rfl))).wr W92 (Or.inl (List.mem_of_getElem? (i := 0) rfl))).wr W118 (Or.inl (List.mem_of_getElem? (i := 0) rfl))).wr W122 (Or.inl (List.mem_of_getElem? (i := 0) rfl))).wr W126 (Or.inl (List.mem_of_getElem? (i := 0) rfl))).wr W130 (Or.inl (List.mem_of_getElem? (i := 0) rfl))).wr W135 (Or.inl (List.mem_of_getElem? (i := 0) rfl))), (Eq.mp (congrArg (fun z => Arv Z h135 b kb .byte (Int32.ofNat M) z (.int (0 : Int32))) (own_wend (p := (j + (own_dec x).length - 11)) (ds := [(45 : Int32), (own_dc ((((((own_abs x) / 100) / 100) / 100) / 100) / 10)), (own_dc (((((own_abs x) / 100) / 100) / 100) / 100)), (own_dc (((((own_abs x) / 100) / 100) / 100) / 10)), (own_dc ((((own_abs x) / 100) / 100) / 100)), (own_dc ((((own_abs x) / 100) / 100) / 10)), (own_dc (((own_abs x) / 100) / 100)), (own_dc (((own_abs x) / 100) / 10)), (own_dc ((own_abs x) / 100)), (own_dc ((own_abs x) / 10)), (own_dc (own_abs x))]) (by omega) (by rw [own_dec, if_pos x6, hdg, (own_d100 8 (own_abs x) : own_digs 10 (own_abs x) = _), (own_d100 6 ((own_abs x) / 100) : own_digs 8 ((own_abs x) / 100) = _), (own_d100 4 (((own_abs x) / 100) / 100) : own_digs 6 (((own_abs x) / 100) / 100) = _), (own_d100 2 ((((own_abs x) / 100) / 100) / 100) : own_digs 4 ((((own_abs x) / 100) / 100) / 100) = _), (own_d100 0 (((((own_abs x) / 100) / 100) / 100) / 100) : own_digs 2 (((((own_abs x) / 100) / 100) / 100) / 100) = _)]; rfl))) X137), (Cq.safe (show h135.size > b by omega) f139)⟩)
            · refine uYc 104 hx hby d328 (flt g).2.1 (by decide) (by decide) ?_
              have m9 : ¬ 9 < (((((own_abs x) / 100) / 100) / 100) / 100) := fun q => g ((own_gtn (n := (((((own_abs x) / 100) / 100) / 100) / 100)) (by omega) 9 (by decide) (-9) (by decide +kernel)).mpr q)
              refine uI 106 hx hby d337 rfl rfl ?_
              by_cases g6 : (Int32.ofNat (own_sg x)) = (0 : Int32)
              · refine uY 118 hx hby d338 ((if0 _ _).trans (teq g6).1) (by decide) (by decide) ?_
                obtain ⟨e6, x6⟩ := own_sg0 g6
                have hdg : own_dn (own_abs x) = 9 := (Nat.le_antisymm (own_du9 (by omega)) (own_dg9 (by omega)))
                refine uI 120 hx hby d339 rfl rfl ?_
                have f141 := (C126.safe (show h122.size > b by omega) f127)
                exact gretI hx hret (hb hby d340) (by decide) (by decide) (fun vq Cq => ⟨(congrArg (fun z => some (Value.int z)) (congrArg Int32.ofNat (by omega))), (((((((((((Keep.refl h0 [b]).trans K2 all0).wr W28 (Or.inl (List.mem_of_getElem? (i := 0) rfl))).wr W32 (Or.inl (List.mem_of_getElem? (i := 0) rfl))).wr W58 (Or.inl (List.mem_of_getElem? (i := 0) rfl))).wr W62 (Or.inl (List.mem_of_getElem? (i := 0) rfl))).wr W88 (Or.inl (List.mem_of_getElem? (i := 0) rfl))).wr W92 (Or.inl (List.mem_of_getElem? (i := 0) rfl))).wr W118 (Or.inl (List.mem_of_getElem? (i := 0) rfl))).wr W122 (Or.inl (List.mem_of_getElem? (i := 0) rfl))).wr W126 (Or.inl (List.mem_of_getElem? (i := 0) rfl))), (Eq.mp (congrArg (fun z => Arv Z h126 b kb .byte (Int32.ofNat M) z (.int (0 : Int32))) (own_wend (p := (j + (own_dec x).length - 9)) (ds := [(own_dc (((((own_abs x) / 100) / 100) / 100) / 100)), (own_dc (((((own_abs x) / 100) / 100) / 100) / 10)), (own_dc ((((own_abs x) / 100) / 100) / 100)), (own_dc ((((own_abs x) / 100) / 100) / 10)), (own_dc (((own_abs x) / 100) / 100)), (own_dc (((own_abs x) / 100) / 10)), (own_dc ((own_abs x) / 100)), (own_dc ((own_abs x) / 10)), (own_dc (own_abs x))]) (by omega) (by rw [own_dec, if_neg x6, hdg, (own_d100 7 (own_abs x) : own_digs 9 (own_abs x) = _), (own_d100 5 ((own_abs x) / 100) : own_digs 7 ((own_abs x) / 100) = _), (own_d100 3 (((own_abs x) / 100) / 100) : own_digs 5 (((own_abs x) / 100) / 100) = _), (own_d100 1 ((((own_abs x) / 100) / 100) / 100) : own_digs 3 ((((own_abs x) / 100) / 100) / 100) = _)]; rfl))) X128), (Cq.safe (show h126.size > b by omega) f141)⟩)
              · refine uN 109 hx hby d338 rfl ((if0 _ _).trans (feq g6).1) ?_
                obtain ⟨e6, x6⟩ := own_sg1 g6
                have hdg : own_dn (own_abs x) = 9 := (Nat.le_antisymm (own_du9 (by omega)) (own_dg9 (by omega)))
                refine uAN 110 hx hby d341 rfl rfl rfl ?_
                refine uInc 113 #[vi (negI (((((own_abs x) / 100) / 100) / 100) / 100)), vi (Int32.ofNat (j + (own_dec x).length)), vr b, vi (negI (((((own_abs x) / 100) / 100) / 100) / 100)), vi (Int32.ofNat (((((own_abs x) / 100) / 100) / 100) % 100)), vi ((Int32.ofNat (j + (own_dec x).length - 9)) + (-1 : Int32)), vi (Int32.ofNat (own_sg x))] hx hby d342 rfl rfl rfl ?_
                refine gat (mkF m 113 #[vi (negI (((((own_abs x) / 100) / 100) / 100) / 100)), vi (Int32.ofNat (j + (own_dec x).length)), vr b, vi (negI (((((own_abs x) / 100) / 100) / 100) / 100)), vi (Int32.ofNat (((((own_abs x) / 100) / 100) / 100) % 100)), vi (Int32.ofNat (j + (own_dec x).length - 10)), vi (Int32.ofNat (own_sg x))] [(.ref b)]) (by rw [own_dec1 (a := (j + (own_dec x).length - 9)) (b := (j + (own_dec x).length - 10)) (by omega) (by omega)]) ?_
                refine uI 115 hx hby d343 rfl rfl ?_
                refine uKb 117 (45 : Int32) hx hby d344 rfl rfl ?_
                have f143 := (C126.safe (show h122.size > b by omega) f127)
                refine gstB hx X128 ⟨nn0 (by omega), (ltOf (by omega) hM).mpr (by omega)⟩ (i := (j + (own_dec x).length - 10)) (tn (by omega)) (by rw [own_wl (by simp only [List.length_cons, List.length_nil]; omega) (by omega), hvd]; omega) (y := ((45 : Int32).toInt8.toInt32)) rfl P1 (fun _ => f143) 118 (hb hby d345) rfl ?_
                intro h142 W142 C142 V142
                have z142 := C142.2.1
                have X144 : Arv Z h142 b kb .byte (Int32.ofNat M) (own_w vd (j + (own_dec x).length - 10) (j + (own_dec x).length) [(45 : Int32), (own_dc (((((own_abs x) / 100) / 100) / 100) / 100)), (own_dc (((((own_abs x) / 100) / 100) / 100) / 10)), (own_dc ((((own_abs x) / 100) / 100) / 100)), (own_dc ((((own_abs x) / 100) / 100) / 10)), (own_dc (((own_abs x) / 100) / 100)), (own_dc (((own_abs x) / 100) / 10)), (own_dc ((own_abs x) / 100)), (own_dc ((own_abs x) / 10)), (own_dc (own_abs x))]) (.int (0 : Int32)) := Eq.mp (congrArg (fun z => Arv Z h142 b kb .byte (Int32.ofNat M) z (.int (0 : Int32))) (own_w1 (p := (j + (own_dec x).length - 9)) (q := (j + (own_dec x).length - 10)) (c := (45 : Int32)) (by omega) (by omega))) V142
                refine uI 120 hx hby d339 rfl rfl ?_
                have f146 := (C142.safe (show h126.size > b by omega) f143)
                exact gretI hx hret (hb hby d340) (by decide) (by decide) (fun vq Cq => ⟨(congrArg (fun z => some (Value.int z)) (congrArg Int32.ofNat (by omega))), ((((((((((((Keep.refl h0 [b]).trans K2 all0).wr W28 (Or.inl (List.mem_of_getElem? (i := 0) rfl))).wr W32 (Or.inl (List.mem_of_getElem? (i := 0) rfl))).wr W58 (Or.inl (List.mem_of_getElem? (i := 0) rfl))).wr W62 (Or.inl (List.mem_of_getElem? (i := 0) rfl))).wr W88 (Or.inl (List.mem_of_getElem? (i := 0) rfl))).wr W92 (Or.inl (List.mem_of_getElem? (i := 0) rfl))).wr W118 (Or.inl (List.mem_of_getElem? (i := 0) rfl))).wr W122 (Or.inl (List.mem_of_getElem? (i := 0) rfl))).wr W126 (Or.inl (List.mem_of_getElem? (i := 0) rfl))).wr W142 (Or.inl (List.mem_of_getElem? (i := 0) rfl))), (Eq.mp (congrArg (fun z => Arv Z h142 b kb .byte (Int32.ofNat M) z (.int (0 : Int32))) (own_wend (p := (j + (own_dec x).length - 10)) (ds := [(45 : Int32), (own_dc (((((own_abs x) / 100) / 100) / 100) / 100)), (own_dc (((((own_abs x) / 100) / 100) / 100) / 10)), (own_dc ((((own_abs x) / 100) / 100) / 100)), (own_dc ((((own_abs x) / 100) / 100) / 10)), (own_dc (((own_abs x) / 100) / 100)), (own_dc (((own_abs x) / 100) / 10)), (own_dc ((own_abs x) / 100)), (own_dc ((own_abs x) / 10)), (own_dc (own_abs x))]) (by omega) (by rw [own_dec, if_pos x6, hdg, (own_d100 7 (own_abs x) : own_digs 9 (own_abs x) = _), (own_d100 5 ((own_abs x) / 100) : own_digs 7 ((own_abs x) / 100) = _), (own_d100 3 (((own_abs x) / 100) / 100) : own_digs 5 (((own_abs x) / 100) / 100) = _), (own_d100 1 ((((own_abs x) / 100) / 100) / 100) : own_digs 3 ((((own_abs x) / 100) / 100) / 100) = _)]; rfl))) X144), (Cq.safe (show h142.size > b by omega) f146)⟩)
  · intro J2
    refine uIN 1 hx hby d302 rfl rfl ?_
    refine uSI 3 #[vi x, vi (Int32.ofNat (j + (own_dec x).length)), vr b, un, un, vi (Int32.ofNat (j + (own_dec x).length)), un] hx hby d303 rfl rfl ?_
    refine uIN 4 hx hby d304 rfl rfl ?_
    by_cases e1 : x < (0 : Int32)
    · refine uN 7 hx hby d305 rfl ((if0 _ _).trans (tlt e1).2.1) ?_
      refine uKc 8 (1 : Int32) hx hby d306 rfl rfl ?_
      refine uG 12 hx hby d307 (by decide) (by decide) ?_
      refine uSI 14 #[vi x, vi (Int32.ofNat (j + (own_dec x).length)), vr b, un, un, vi (Int32.ofNat (j + (own_dec x).length)), vi (1 : Int32)] hx hby d308 rfl rfl ?_
      refine uI 16 hx hby d309 rfl rfl ?_
      refine uY 22 hx hby d310 ((if0 _ _).trans (feq (by decide)).2) (by decide) (by decide) ?_
      refine ginfo fun _ Hq _ => ?_
      exact gmono (by decide) (by decide) (J2 _ _ _ ⟨x, (1 : Int32), rfl, (Keep.refl h0 []), (CHr.refl Hq), (own_neg1 e1), (by rw [own_sg, if_pos e1]; rfl)⟩)
    · refine uY 11 hx hby d305 ((if0 _ _).trans (flt e1).2.1) (by decide) (by decide) ?_
      refine uKc 12 (0 : Int32) hx hby d311 rfl rfl ?_
      refine uSI 14 #[vi x, vi (Int32.ofNat (j + (own_dec x).length)), vr b, un, un, vi (Int32.ofNat (j + (own_dec x).length)), vi (0 : Int32)] hx hby d308 rfl rfl ?_
      refine uI 16 hx hby d309 rfl rfl ?_
      refine uN 19 hx hby d310 rfl ((if0 _ _).trans (teq (by decide)).2) ?_
      refine uIN 20 hx hby d312 rfl rfl ?_
      refine gs (mkF m 21 #[vi x, vi (Int32.ofNat (j + (own_dec x).length)), vr b, un, un, vi (Int32.ofNat (j + (own_dec x).length)), vi (0 : Int32)] [(.int (-x))]) (fun _ _ A kq => XS.ineg A hx rfl (hb hby d313) rfl kq) ?_
      refine uSIN 22 #[vi (-x), vi (Int32.ofNat (j + (own_dec x).length)), vr b, un, un, vi (Int32.ofNat (j + (own_dec x).length)), vi (0 : Int32)] hx hby d314 rfl rfl ?_
      refine ginfo fun _ Hq _ => ?_
      exact gmono (by decide) (by decide) (J2 _ _ _ ⟨(-x), (0 : Int32), rfl, (Keep.refl h0 []), (CHr.refl Hq), (own_neg2 e1), (by rw [own_sg, if_neg e1]; rfl)⟩)
theorem own_sub16 {a : Nat} (h : 16 ≤ a) (h2 : a ≤ 4000) : Int32.ofNat a - (16 : Int32) = Int32.ofNat (a - 16) := by
  apply Int32.toInt_inj.mp
  have q := c_isub (Int32.ofNat a) 16
  have r := rng32 (Int32.ofNat a - 16)
  have e : (16 : Int32).toInt = 16 := rfl
  rw [Int32.toInt_ofNat_of_lt (by omega), e] at q
  rw [Int32.toInt_ofNat_of_lt (by omega)]
  omega
theorem own_grown {vd : List Value} (h : vd.length = 16) : ((List.replicate 34 (.int (0 : Int32))).take 0 ++ (vd.drop 0).take 16 ++ (List.replicate 34 (.int (0 : Int32))).drop (0 + 16)) = vd ++ List.replicate 18 (.int (0 : Int32)) := by
  rw [List.drop_zero, List.take_of_length_le (l := vd) (by omega)]; rfl
theorem d374 : decode y0_ 0 = .ok (.iload_n 0, 1) := by decide +kernel
theorem d375 : decode y0_ 1 = .ok (.iload_n 1, 1) := by decide +kernel
theorem d376 : decode y0_ 2 = .ok (.if_icmp .lt 7, 3) := by decide +kernel
theorem d377 : decode y0_ 9 = .ok (.iload_n 1, 1) := by decide +kernel
theorem d378 : decode y0_ 10 = .ok (.ireturn, 1) := by decide +kernel
abbrev mn379 : MethodName := ⟨"java/lang/Math", "max", "(II)I"⟩
theorem own_pn380 : plainFor mn379 = true := by first | decide +kernel | (simp [plainFor, plainName, overriddenIn]; done)
theorem own_max18 (l : Launch) (Z : State) (a0 : Array Value) (cx : Ctx Z a0) (ws : List Jvm.Cond) (u : Nat) (vm0 : Vm) (h0 : Heap) (X00 : Ext Z.heap h0) (hu : (u ≤ 17)) :
    Met l mn379 y0_ 2 (some .int) ws ({ frames := 0, cells := 0, slots := 0, locals := 0 } : Room) Z consts_1 vm0 h0 #[(.int (Int32.ofNat u)), (.int (18 : Int32))] (fun rv vm h => rv = some (.int (18 : Int32)) ∧ h0 = h) := by
  obtain ⟨hw, hEL, ⟨zc, Scs, hzc⟩, ⟨fm, Sfm, hfm⟩, ⟨fe, ft, tt, Sfe, Efe, Fft, Sft⟩, hI0⟩ := id cx
  have hSA := own_SA hw
  refine Met.of_walk (a0 := a0) #[vi (Int32.ofNat u), vi (18 : Int32)] own_pn380 X00 hEL (fun m => by first | (simp [entryFrame, mkF, argsToLocals, Value.category]; done) | rfl) ?_
  intro p e s m below meth c vm hx hby hml hret hnm hC0 hW0
  refine uIN 1 hx hby d374 rfl rfl ?_
  refine uIN 2 hx hby d375 rfl rfl ?_
  refine uYc 9 hx hby d376 (tlt ((ltOf (b := 18) (by omega) (by omega)).mpr (by omega))).1 (by decide) (by decide) ?_
  refine uIN 10 hx hby d377 rfl rfl ?_
  exact gretI hx hret (hb hby d378) (by decide) (by decide) (fun vq Cq => ⟨rfl, rfl⟩)
theorem d381 : decode y11_ 0 = .ok (.iload_n 0, 1) := by decide +kernel
theorem d382 : decode y11_ 1 = .ok (.iload_n 1, 1) := by decide +kernel
theorem d383 : decode y11_ 2 = .ok (.iload_n 2, 1) := by decide +kernel
theorem d384 : decode y11_ 3 = .ok (.invokestatic 194, 3) := by decide +kernel
theorem d385 : decode y11_ 6 = .ok (.iadd, 1) := by decide +kernel
theorem d386 : decode y11_ 7 = .ok (.istore_n 3, 1) := by decide +kernel
theorem d387 : decode y11_ 8 = .ok (.iconst 0, 1) := by decide +kernel
theorem d388 : decode y11_ 9 = .ok (.iload_n 3, 1) := by decide +kernel
theorem d389 : decode y11_ 10 = .ok (.if_icmp .ge 11, 3) := by decide +kernel
theorem d390 : decode y11_ 13 = .ok (.iload_n 3, 1) := by decide +kernel
theorem d391 : decode y11_ 14 = .ok (.ldc 200, 2) := by decide +kernel
theorem d392 : decode y11_ 16 = .ok (.if_icmp .gt 5, 3) := by decide +kernel
theorem d393 : decode y11_ 19 = .ok (.iload_n 3, 1) := by decide +kernel
theorem d394 : decode y11_ 20 = .ok (.ireturn, 1) := by decide +kernel
abbrev mn395 : MethodName := ⟨"jdk/internal/util/ArraysSupport", "newLength", "(III)I"⟩
theorem own_pn396 : plainName "jdk/internal/util/ArraysSupport" = true := by first | (simp [plainName, overriddenIn]; done) | decide +kernel
theorem own_newLength (l : Launch) (Z : State) (a0 : Array Value) (cx : Ctx Z a0) (ws : List Jvm.Cond) (u : Nat) (vm0 : Vm) (h0 : Heap) (X00 : Ext Z.heap h0) (hu : (u ≤ 17)) :
    Met l mn395 y11_ 4 (some .int) ws ({ frames := 1, cells := 0, slots := 0, locals := 14 } : Room) Z consts_1 vm0 h0 #[(.int (16 : Int32)), (.int (Int32.ofNat u)), (.int (18 : Int32))] (fun rv vm h => rv = some (.int (34 : Int32)) ∧ h0 = h) := by
  obtain ⟨hw, hEL, ⟨zc, Scs, hzc⟩, ⟨fm, Sfm, hfm⟩, ⟨fe, ft, tt, Sfe, Efe, Fft, Sft⟩, hI0⟩ := id cx
  have hSA := own_SA hw
  refine Met.of_walk (a0 := a0) #[vi (16 : Int32), vi (Int32.ofNat u), vi (18 : Int32), un] (plainFor_of_name own_pn396) X00 hEL (fun m => by first | (simp [entryFrame, mkF, argsToLocals, Value.category]; done) | rfl) ?_
  intro p e s m below meth c vm hx hby hml hret hnm hC0 hW0
  refine uIN 1 hx hby d381 rfl rfl ?_
  refine uIN 2 hx hby d382 rfl rfl ?_
  refine uIN 3 hx hby d383 rfl rfl ?_
  refine ginfo fun _ _ O1 => ?_
  refine gcallS (y := mn379) hx (ow hw 252 rfl) (ow hw 253 rfl) (ow hw 159 rfl) (ow hw 254 rfl) (by decide) (fun hZ H hEL => Pay.of_met (W := 1) (own_max18 l Z a0 cx [] (u) vm h0 O1 (by first | assumption | decide | omega)) (ow hw 254 rfl) (ow hw 159 rfl) (by decide) (by decide) hZ H hEL) 6 (argsL := [(.int (Int32.ofNat u)), (.int (18 : Int32))]) (rest := [(.int (16 : Int32))]) (lenOf own_pd206 rfl) rfl rfl (Nat.le_of_eq rfl) (by rw [hml]; rfl) (hb hby d384) rfl (by decide) (by decide) ?_
  rintro _ vm1 h1 C1 ⟨rfl, rfl⟩
  have z1 := C1.2.1
  refine gat1 ?_
  refine uiadd 7 (34 : Int32) hx hby d385 rfl (by decide) ?_
  refine uSIN 8 #[vi (16 : Int32), vi (Int32.ofNat u), vi (18 : Int32), vi (34 : Int32)] hx hby d386 rfl rfl ?_
  refine uKc 9 (0 : Int32) hx hby d387 rfl rfl ?_
  refine uIN 10 hx hby d388 rfl rfl ?_
  refine uNc 13 hx hby d389 rfl (tlt (by decide)).2.1 ?_
  refine uIN 14 hx hby d390 rfl rfl ?_
  refine gldcI hx (ow hw 255 rfl) 16 (hb hby d391) rfl ?_
  refine uNc 19 hx hby d392 rfl (flt (by decide)).2.2.1 ?_
  refine uIN 20 hx hby d393 rfl rfl ?_
  exact gretI hx hret (hb hby d394) (by decide) (by decide) (fun vq Cq => ⟨rfl, rfl⟩)
theorem d397 : decode y21_ 0 = .ok (.aload_n 0, 1) := by decide +kernel
theorem d398 : decode y21_ 1 = .ok (.getfield 15, 3) := by decide +kernel
theorem d399 : decode y21_ 4 = .ok (.arraylength, 1) := by decide +kernel
theorem d400 : decode y21_ 5 = .ok (.istore_n 2, 1) := by decide +kernel
theorem d401 : decode y21_ 6 = .ok (.iload_n 1, 1) := by decide +kernel
theorem d402 : decode y21_ 7 = .ok (.aload_n 0, 1) := by decide +kernel
theorem d403 : decode y21_ 8 = .ok (.getfield 22, 3) := by decide +kernel
theorem d404 : decode y21_ 11 = .ok (.ishl, 1) := by decide +kernel
theorem d405 : decode y21_ 12 = .ok (.istore_n 3, 1) := by decide +kernel
theorem d406 : decode y21_ 13 = .ok (.iload_n 3, 1) := by decide +kernel
theorem d407 : decode y21_ 14 = .ok (.iload_n 2, 1) := by decide +kernel
theorem d408 : decode y21_ 15 = .ok (.isub, 1) := by decide +kernel
theorem d409 : decode y21_ 16 = .ok (.istore 4, 2) := by decide +kernel
theorem d410 : decode y21_ 18 = .ok (.iload_n 2, 1) := by decide +kernel
theorem d411 : decode y21_ 19 = .ok (.iload 4, 2) := by decide +kernel
theorem d412 : decode y21_ 21 = .ok (.iload_n 2, 1) := by decide +kernel
theorem d413 : decode y21_ 22 = .ok (.iconst 2, 1) := by decide +kernel
theorem d414 : decode y21_ 23 = .ok (.aload_n 0, 1) := by decide +kernel
theorem d415 : decode y21_ 24 = .ok (.getfield 22, 3) := by decide +kernel
theorem d416 : decode y21_ 27 = .ok (.ishl, 1) := by decide +kernel
theorem d417 : decode y21_ 28 = .ok (.iadd, 1) := by decide +kernel
theorem d418 : decode y21_ 29 = .ok (.invokestatic 114, 3) := by decide +kernel
theorem own_pd419 : parseMethodDescriptor "(III)I" = some ⟨[.int, .int, .int], some .int⟩ := by decide +kernel
theorem d420 : decode y21_ 32 = .ok (.istore 5, 2) := by decide +kernel
theorem d421 : decode y21_ 34 = .ok (.iload 5, 2) := by decide +kernel
theorem d422 : decode y21_ 36 = .ok (.ldc 39, 2) := by decide +kernel
theorem d423 : decode y21_ 38 = .ok (.if_icmp .ne 13, 3) := by decide +kernel
theorem d424 : decode y21_ 51 = .ok (.iload 5, 2) := by decide +kernel
theorem d425 : decode y21_ 53 = .ok (.aload_n 0, 1) := by decide +kernel
theorem d426 : decode y21_ 54 = .ok (.getfield 22, 3) := by decide +kernel
theorem d427 : decode y21_ 57 = .ok (.ishr, 1) := by decide +kernel
theorem d428 : decode y21_ 58 = .ok (.ireturn, 1) := by decide +kernel
abbrev mn429 : MethodName := ⟨"java/lang/AbstractStringBuilder", "newCapacity", "(I)I"⟩
theorem own_newCap (l : Launch) (Z : State) (a0 : Array Value) (cx : Ctx Z a0) (ws : List Jvm.Cond) (x : Addr) (k : Nat) (v : Addr) (kb : ClassId) (vd : List Value) (vm0 : Vm) (h0 : Heap) (X00 : Ext Z.heap h0) (P0 : Arv Z h0 v kb .byte (16 : Int32) vd (.int (0 : Int32))) (P1 : Fld Z h0 x c2_ "value" "[B" (.ref v)) (P2 : Fld Z h0 x c2_ "coder" "B" (.int (0 : Int32))) (hk : (16 < k)) (hk2 : (k ≤ 32)) :
    Met l mn429 y21_ 6 (some .int) ws ({ frames := 2, cells := 0, slots := 0, locals := 29 } : Room) Z consts_1 vm0 h0 #[(.ref x), (.int (Int32.ofNat k))] (fun rv vm h => rv = some (.int (34 : Int32)) ∧ h0 = h) := by
  obtain ⟨hw, hEL, ⟨zc, Scs, hzc⟩, ⟨fm, Sfm, hfm⟩, ⟨fe, ft, tt, Sfe, Efe, Fft, Sft⟩, hI0⟩ := id cx
  have hSA := own_SA hw
  refine Met.of_walk (a0 := a0) #[vr x, vi (Int32.ofNat k), un, un, un, un] (plainFor_of_name own_pn45) X00 hEL (fun m => by first | (simp [entryFrame, mkF, argsToLocals, Value.category]; done) | rfl) ?_
  intro p e s m below meth c vm hx hby hml hret hnm hC0 hW0
  have lt_v : h0.size > v := P0.lt
  have lt_x : h0.size > x := P1.lt
  refine uAN 1 hx hby d397 rfl rfl rfl ?_
  refine ggetF (host := "") hx (Or.inl (ow hw 60 rfl)) Via.refl P1 4 (hb hby d398) rfl ?_
  refine glen hx P0 5 (hb hby d399) rfl ?_
  refine uSIN 6 #[vr x, vi (Int32.ofNat k), vi (16 : Int32), un, un, un] hx hby d400 rfl rfl ?_
  refine uIN 7 hx hby d401 rfl rfl ?_
  refine uAN 8 hx hby d402 rfl rfl rfl ?_
  refine ggetF (host := "") hx (Or.inl (ow hw 62 rfl)) Via.refl P2 11 (hb hby d403) rfl ?_
  refine gs (mkF m 12 #[vr x, vi (Int32.ofNat k), vi (16 : Int32), un, un, un] [(.int ((Int32.ofNat k) <<< ((0 : Int32) &&& 31)))]) (fun _ _ A kq => XS.ishl A hx rfl (hb hby d404) rfl kq) ?_
  refine gat (mkF m 12 #[vr x, vi (Int32.ofNat k), vi (16 : Int32), un, un, un] [(.int (Int32.ofNat k))]) (by rw [shl0 (by omega)]) ?_
  refine uSIN 13 #[vr x, vi (Int32.ofNat k), vi (16 : Int32), vi (Int32.ofNat k), un, un] hx hby d405 rfl rfl ?_
  refine uIN 14 hx hby d406 rfl rfl ?_
  refine uIN 15 hx hby d407 rfl rfl ?_
  refine uisub 16 ((Int32.ofNat k) - (16 : Int32)) hx hby d408 rfl rfl ?_
  refine gat (mkF m 16 #[vr x, vi (Int32.ofNat k), vi (16 : Int32), vi (Int32.ofNat k), un, un] [(.int (Int32.ofNat (k - 16)))]) (by rw [own_sub16 (by omega) (by omega)]) ?_
  refine uSI 18 #[vr x, vi (Int32.ofNat k), vi (16 : Int32), vi (Int32.ofNat k), vi (Int32.ofNat (k - 16)), un] hx hby d409 rfl rfl ?_
  refine uIN 19 hx hby d410 rfl rfl ?_
  refine uI 21 hx hby d411 rfl rfl ?_
  refine uIN 22 hx hby d412 rfl rfl ?_
  refine uKc 23 (2 : Int32) hx hby d413 rfl rfl ?_
  refine uAN 24 hx hby d414 rfl rfl rfl ?_
  refine ggetF (host := "") hx (Or.inl (ow hw 62 rfl)) Via.refl P2 27 (hb hby d415) rfl ?_
  refine gs (mkF m 28 #[vr x, vi (Int32.ofNat k), vi (16 : Int32), vi (Int32.ofNat k), vi (Int32.ofNat (k - 16)), un] [(.int (2 : Int32)), (.int (16 : Int32)), (.int (Int32.ofNat (k - 16))), (.int (16 : Int32))]) (fun _ _ A kq => XS.ishl A hx rfl (hb hby d416) rfl kq) ?_
  refine uiadd 29 (18 : Int32) hx hby d417 rfl (by decide) ?_
  refine ginfo fun _ _ O1 => ?_
  refine gcallS (y := mn395) hx (ow hw 248 rfl) (ow hw 249 rfl) (ow hw 250 rfl) (ow hw 251 rfl) (by decide) (fun hZ H hEL => Pay.of_met (W := 0) (own_newLength l Z a0 cx [] ((k - 16)) vm h0 O1 (by first | assumption | decide | omega)) (ow hw 251 rfl) (ow hw 250 rfl) (by decide) (by decide) hZ H hEL) 32 (argsL := [(.int (16 : Int32)), (.int (Int32.ofNat (k - 16))), (.int (18 : Int32))]) (rest := []) (lenOf own_pd419 rfl) rfl rfl (Nat.le_of_eq rfl) (by rw [hml]; rfl) (hb hby d418) rfl (by decide) (by decide) ?_
  rintro _ vm1 h1 C1 ⟨rfl, rfl⟩
  have z1 := C1.2.1
  refine gat1 ?_
  refine uSI 34 #[vr x, vi (Int32.ofNat k), vi (16 : Int32), vi (Int32.ofNat k), vi (Int32.ofNat (k - 16)), vi (34 : Int32)] hx hby d420 rfl rfl ?_
  refine uI 36 hx hby d421 rfl rfl ?_
  refine gldcI hx (ow hw 256 rfl) 38 (hb hby d422) rfl ?_
  refine uYc 51 hx hby d423 (feq (by decide)).2 (by decide) (by decide) ?_
  refine uI 53 hx hby d424 rfl rfl ?_
  refine uAN 54 hx hby d425 rfl rfl rfl ?_
  refine ggetF (host := "") hx (Or.inl (ow hw 62 rfl)) Via.refl P2 57 (hb hby d426) rfl ?_
  refine gs (mkF m 58 #[vr x, vi (Int32.ofNat k), vi (16 : Int32), vi (Int32.ofNat k), vi (Int32.ofNat (k - 16)), vi (34 : Int32)] [(.int (34 : Int32))]) (fun _ _ A kq => XS.ishr A hx rfl (hb hby d427) rfl kq) ?_
  exact gretI hx hret (hb hby d428) (by decide) (by decide) (fun vq Cq => ⟨rfl, rfl⟩)
theorem d430 : decode y1_ 5 = .ok (.iload_n 0, 1) := by decide +kernel
theorem d431 : decode y1_ 6 = .ok (.goto 4, 3) := by decide +kernel
theorem own_min1634 (l : Launch) (Z : State) (a0 : Array Value) (cx : Ctx Z a0) (ws : List Jvm.Cond)  (vm0 : Vm) (h0 : Heap) (X00 : Ext Z.heap h0)  :
    Met l mn183 y1_ 2 (some .int) ws ({ frames := 0, cells := 0, slots := 0, locals := 0 } : Room) Z consts_1 vm0 h0 #[(.int (16 : Int32)), (.int (34 : Int32))] (fun rv vm h => rv = some (.int (16 : Int32)) ∧ h0 = h) := by
  obtain ⟨hw, hEL, ⟨zc, Scs, hzc⟩, ⟨fm, Sfm, hfm⟩, ⟨fe, ft, tt, Sfe, Efe, Fft, Sft⟩, hI0⟩ := id cx
  have hSA := own_SA hw
  refine Met.of_walk (a0 := a0) #[vi (16 : Int32), vi (34 : Int32)] own_pn184 X00 hEL (fun m => by first | (simp [entryFrame, mkF, argsToLocals, Value.category]; done) | rfl) ?_
  intro p e s m below meth c vm hx hby hml hret hnm hC0 hW0
  refine uIN 1 hx hby d178 rfl rfl ?_
  refine uIN 2 hx hby d179 rfl rfl ?_
  refine uNc 5 hx hby d180 rfl (flt (by decide)).2.2.1 ?_
  refine uIN 6 hx hby d430 rfl rfl ?_
  refine uG 10 hx hby d431 (by decide) (by decide) ?_
  exact gretI hx hret (hb hby d182) (by decide) (by decide) (fun vq Cq => ⟨rfl, rfl⟩)
theorem d432 : decode y12_ 0 = .ok (.iload_n 1, 1) := by decide +kernel
theorem d433 : decode y12_ 1 = .ok (.aload_n 0, 1) := by decide +kernel
theorem d434 : decode y12_ 2 = .ok (.arraylength, 1) := by decide +kernel
theorem d435 : decode y12_ 3 = .ok (.if_icmp .ne 11, 3) := by decide +kernel
theorem d436 : decode y12_ 14 = .ok (.iload_n 1, 1) := by decide +kernel
theorem d437 : decode y12_ 15 = .ok (.newarray .byte, 2) := by decide +kernel
theorem d438 : decode y12_ 17 = .ok (.astore_n 2, 1) := by decide +kernel
theorem d439 : decode y12_ 18 = .ok (.aload_n 0, 1) := by decide +kernel
theorem d440 : decode y12_ 19 = .ok (.iconst 0, 1) := by decide +kernel
theorem d441 : decode y12_ 20 = .ok (.aload_n 2, 1) := by decide +kernel
theorem d442 : decode y12_ 21 = .ok (.iconst 0, 1) := by decide +kernel
theorem d443 : decode y12_ 22 = .ok (.aload_n 0, 1) := by decide +kernel
theorem d444 : decode y12_ 23 = .ok (.arraylength, 1) := by decide +kernel
theorem d445 : decode y12_ 24 = .ok (.iload_n 1, 1) := by decide +kernel
theorem d446 : decode y12_ 25 = .ok (.invokestatic 304, 3) := by decide +kernel
theorem d447 : decode y12_ 28 = .ok (.invokestatic 150, 3) := by decide +kernel
theorem d448 : decode y12_ 31 = .ok (.aload_n 2, 1) := by decide +kernel
theorem d449 : decode y12_ 32 = .ok (.areturn, 1) := by decide +kernel
abbrev mn450 : MethodName := ⟨"java/util/Arrays", "copyOf", "([BI)[B"⟩
theorem own_copy34 (l : Launch) (Z : State) (a0 : Array Value) (cx : Ctx Z a0) (ws : List Jvm.Cond) (v : Addr) (kb : ClassId) (vd : List Value) (vm0 : Vm) (h0 : Heap) (X00 : Ext Z.heap h0) (P0 : Arv Z h0 v kb .byte (16 : Int32) vd (.int (0 : Int32))) (hvd : (vd.length = 16)) :
    Met l mn450 y12_ 3 (some (.array .byte)) ws ({ frames := 1, cells := 1, slots := 34, locals := 18 } : Room) Z consts_1 vm0 h0 #[(.ref v), (.int (34 : Int32))] (fun rv vm h => ∃ (r : Addr), ∃ (kr : ClassId), rv = some (.ref r) ∧ Keep h0 h [] ∧ h0.size ≤ r ∧ Z.heap.size ≤ r ∧ Safe Z consts_1 vm h r ∧ Exa Z h r "[B" ∧ Arv Z h r kr .byte (34 : Int32) (vd ++ List.replicate 18 (.int (0 : Int32))) (.int (0 : Int32))) := by
  obtain ⟨hw, hEL, ⟨zc, Scs, hzc⟩, ⟨fm, Sfm, hfm⟩, ⟨fe, ft, tt, Sfe, Efe, Fft, Sft⟩, hI0⟩ := id cx
  have hSA := own_SA hw
  refine Met.of_walk (a0 := a0) #[vr v, vi (34 : Int32), un] (plainFor_of_name own_pn177) X00 hEL (fun m => by first | (simp [entryFrame, mkF, argsToLocals, Value.category]; done) | rfl) ?_
  intro p e s m below meth c vm hx hby hml hret hnm hC0 hW0
  have lt_v : h0.size > v := P0.lt
  refine uIN 1 hx hby d432 rfl rfl ?_
  refine uAN 2 hx hby d433 rfl rfl rfl ?_
  refine glen hx P0 3 (hb hby d434) rfl ?_
  refine uYc 14 hx hby d435 (feq (by decide)).2 (by decide) (by decide) ?_
  refine uIN 15 hx hby d436 rfl rfl ?_
  refine gnewPE hx (ow hw 19 rfl) (n := (34 : Int32)) (by decide) (cap := 34) (by decide) (by decide) (ad := "[B") (by decide) 17 (hb hby d437) rfl (by decide) (by decide) ?_
  intro b1 h1 k1 g1 E1 C1 V1 A1 n1 L1
  have z1 := C1.2.1
  have V1 : Arv Z h1 b1 k1 .byte (34 : Int32) (List.replicate 34 (.int (0 : Int32))) (.int (0 : Int32)) := V1.pad (pad_rep [] (.int (0 : Int32)) 34)
  have lt_b1 : h1.size > b1 := V1.lt
  refine uSAN 18 #[vr v, vi (34 : Int32), vr b1] hx hby d438 rfl rfl rfl ?_
  refine uAN 19 hx hby d439 rfl rfl rfl ?_
  refine uKc 20 (0 : Int32) hx hby d440 rfl rfl ?_
  refine uAN 21 hx hby d441 rfl rfl rfl ?_
  refine uKc 22 (0 : Int32) hx hby d442 rfl rfl ?_
  refine uAN 23 hx hby d443 rfl rfl rfl ?_
  have f2 := (P0.ext E1)
  refine glen hx f2 24 (hb hby d444) rfl ?_
  refine uIN 25 hx hby d445 rfl rfl ?_
  refine ginfo fun _ _ O3 => ?_
  refine gcallS (y := mn183) hx (ow hw 157 rfl) (ow hw 158 rfl) (ow hw 159 rfl) (ow hw 160 rfl) (by decide) (fun hZ H hEL => Pay.of_met (W := 4) (own_min1634 l Z a0 cx []  vm h1 O3 ) (ow hw 160 rfl) (ow hw 159 rfl) (by decide) (by decide) hZ H hEL) 28 (argsL := [(.int (16 : Int32)), (.int (34 : Int32))]) (rest := [(.int (0 : Int32)), (.ref b1), (.int (0 : Int32)), (.ref v)]) (lenOf own_pd206 rfl) rfl rfl (Nat.le_of_eq rfl) (by rw [hml]; rfl) (hb hby d446) rfl (by decide) (by decide) ?_
  rintro _ vm3 h3 C3 ⟨rfl, rfl⟩
  have z3 := C3.2.1
  refine gat1 ?_
  have f5 := (C3.safe (show h1.size > b1 by omega) L1)
  refine gcopyN hx (ow hw 161 rfl) (ow hw 116 rfl) (ow hw 114 rfl) (ow hw 115 rfl) (0) (0) (16) (16) (34) f2 V1 rfl rfl rfl rfl rfl (by decide) (by decide) (by decide) (by decide) hvd (by simp) n1 (fun _ => f5) 31 (W := 0) (Nat.le_of_eq rfl) (by rw [hml]; rfl) (hb hby d447) rfl (by decide) (by decide) ?_
  intro h4 K4 C4 V4
  have z4 := C4.2.1
  rw [own_grown hvd] at V4
  refine uAN 32 hx hby d448 rfl rfl rfl ?_
  have f7 := (C4.safe (show h1.size > b1 by omega) f5)
  have f8 := (A1.keep K4)
  exact gretA hx hret rfl rfl (hb hby d449) (by decide) (by decide) (fun vq Cq => ⟨b1, k1, rfl, (((Keep.refl h0 []).ext E1).trans K4 (allS (Or.inr (by omega)) all0)), (by omega), n1, (Cq.safe (show h4.size > b1 by omega) f7), f8, V4⟩)
theorem d451 : decode y30_ 17 = .ok (.aload_n 0, 1) := by decide +kernel
theorem d452 : decode y30_ 18 = .ok (.aload_n 0, 1) := by decide +kernel
theorem d453 : decode y30_ 19 = .ok (.getfield 15, 3) := by decide +kernel
theorem d454 : decode y30_ 22 = .ok (.aload_n 0, 1) := by decide +kernel
theorem d455 : decode y30_ 23 = .ok (.iload_n 1, 1) := by decide +kernel
theorem d456 : decode y30_ 24 = .ok (.invokevirtual 104, 3) := by decide +kernel
theorem own_pd457 : parseMethodDescriptor "(I)I" = some ⟨[.int], some .int⟩ := by decide +kernel
theorem d458 : decode y30_ 27 = .ok (.aload_n 0, 1) := by decide +kernel
theorem d459 : decode y30_ 28 = .ok (.getfield 22, 3) := by decide +kernel
theorem d460 : decode y30_ 31 = .ok (.ishl, 1) := by decide +kernel
theorem d461 : decode y30_ 32 = .ok (.invokestatic 108, 3) := by decide +kernel
theorem own_pd462 : parseMethodDescriptor "([BI)[B" = some ⟨[(.array .byte), .int], some (.array .byte)⟩ := by decide +kernel
theorem d463 : decode y30_ 35 = .ok (.putfield 15, 3) := by decide +kernel
theorem own_ensureG (l : Launch) (Z : State) (a0 : Array Value) (cx : Ctx Z a0) (ws : List Jvm.Cond) (x : Addr) (k : Nat) (v : Addr) (kb : ClassId) (vd : List Value) (ct : Int32) (vm0 : Vm) (h0 : Heap) (X00 : Ext Z.heap h0) (P0 : Arv Z h0 v kb .byte (16 : Int32) vd (.int (0 : Int32))) (P1 : Fld Z h0 x c2_ "value" "[B" (.ref v)) (P2 : Fld Z h0 x c2_ "coder" "B" (.int (0 : Int32))) (hk : (16 < k)) (hk2 : (k ≤ 32)) (hvd : (vd.length = 16)) (P6 : Exa Z h0 x c5_) (P7 : Z.heap.size ≤ x) (P8 : Fld Z h0 x c2_ "count" "I" (.int ct)) :
    Met l mn114 y30_ 3 none ws ({ frames := 3, cells := 1, slots := 34, locals := 48 } : Room) Z consts_1 vm0 h0 #[(.ref x), (.int (Int32.ofNat k))] (fun rv vm h => ∃ (w : Addr), ∃ (kw : ClassId), rv = none ∧ Keep h0 h [x] ∧ Fld Z h x c2_ "value" "[B" (.ref w) ∧ Fld Z h x c2_ "coder" "B" (.int (0 : Int32)) ∧ Fld Z h x c2_ "count" "I" (.int ct) ∧ h0.size ≤ w ∧ Z.heap.size ≤ w ∧ Safe Z consts_1 vm h w ∧ Exa Z h w "[B" ∧ Arv Z h w kw .byte (34 : Int32) (vd ++ List.replicate 18 (.int (0 : Int32))) (.int (0 : Int32))) := by
  obtain ⟨hw, hEL, ⟨zc, Scs, hzc⟩, ⟨fm, Sfm, hfm⟩, ⟨fe, ft, tt, Sfe, Efe, Fft, Sft⟩, hI0⟩ := id cx
  have hSA := own_SA hw
  refine Met.of_walk (a0 := a0) #[vr x, vi (Int32.ofNat k), un] (plainFor_of_name own_pn45) X00 hEL (fun m => by first | (simp [entryFrame, mkF, argsToLocals, Value.category]; done) | rfl) ?_
  intro p e s m below meth c vm hx hby hml hret hnm hC0 hW0
  have lt_v : h0.size > v := P0.lt
  have lt_x : h0.size > x := P1.lt
  refine uAN 1 hx hby d102 rfl rfl rfl ?_
  refine ggetF (host := "") hx (Or.inl (ow hw 60 rfl)) Via.refl P1 4 (hb hby d103) rfl ?_
  refine glen hx P0 5 (hb hby d104) rfl ?_
  refine uAN 6 hx hby d105 rfl rfl rfl ?_
  refine ggetF (host := "") hx (Or.inl (ow hw 62 rfl)) Via.refl P2 9 (hb hby d106) rfl ?_
  refine gs (mkF m 10 #[vr x, vi (Int32.ofNat k), un] [(.int (16 : Int32))]) (fun _ _ A kq => XS.ishr A hx rfl (hb hby d107) rfl kq) ?_
  refine uSIN 11 #[vr x, vi (Int32.ofNat k), vi (16 : Int32)] hx hby d108 rfl rfl ?_
  refine uIN 12 hx hby d109 rfl rfl ?_
  refine uIN 13 hx hby d110 rfl rfl ?_
  refine uisub 14 ((Int32.ofNat k) - (16 : Int32)) hx hby d111 rfl rfl ?_
  refine gat (mkF m 14 #[vr x, vi (Int32.ofNat k), vi (16 : Int32)] [(.int (Int32.ofNat (k - 16)))]) (by rw [own_sub16 (by omega) (by omega)]) ?_
  refine uN 17 hx hby d112 rfl ((if0 _ _).trans (tlt ((ltOf (a := 0) (by omega) (by omega)).mpr (by omega))).2.2.2) ?_
  refine uAN 18 hx hby d451 rfl rfl rfl ?_
  refine uAN 19 hx hby d452 rfl rfl rfl ?_
  refine ggetF (host := "") hx (Or.inl (ow hw 60 rfl)) Via.refl P1 22 (hb hby d453) rfl ?_
  refine uAN 23 hx hby d454 rfl rfl rfl ?_
  refine uIN 24 hx hby d455 rfl rfl ?_
  refine ginfo fun _ _ O1 => ?_
  refine gcallQ (y := mn429) hx (ow hw 243 rfl) (ow hw 244 rfl) (ow hw 246 rfl) (ow hw 245 rfl) (ow hw 247 rfl) (by decide) (fun hZ H hEL => Pay.of_met (W := 2) (own_newCap l Z a0 cx [] (x) (k) (v) (kb) (vd) vm h0 O1 P0 P1 P2 (by first | assumption | decide | omega) (by first | assumption | decide | omega)) (ow hw 247 rfl) (ow hw 56 rfl) (by decide) (by decide) hZ H hEL) 27 (argsL := [(.int (Int32.ofNat k))]) (rest := [(.ref v), (.ref x)]) P6 (lenOf own_pd457 rfl) rfl rfl (Nat.le_of_eq rfl) (by rw [hml]; rfl) (hb hby d456) rfl (by decide) (by decide) ?_
  rintro _ vm1 h1 C1 ⟨rfl, rfl⟩
  have z1 := C1.2.1
  refine gat1 ?_
  refine uAN 28 hx hby d458 rfl rfl rfl ?_
  refine ggetF (host := "") hx (Or.inl (ow hw 62 rfl)) Via.refl P2 31 (hb hby d459) rfl ?_
  refine gs (mkF m 32 #[vr x, vi (Int32.ofNat k), vi (16 : Int32)] [(.int (34 : Int32)), (.ref v), (.ref x)]) (fun _ _ A kq => XS.ishl A hx rfl (hb hby d460) rfl kq) ?_
  refine ginfo fun _ _ O2 => ?_
  refine gcallS (y := mn450) hx (ow hw 257 rfl) (ow hw 258 rfl) (ow hw 149 rfl) (ow hw 259 rfl) (by decide) (fun hZ H hEL => Pay.of_met (W := 1) (own_copy34 l Z a0 cx [] (v) (kb) (vd) vm1 h0 O2 P0 hvd) (ow hw 259 rfl) (ow hw 149 rfl) (by decide) (by decide) hZ H hEL) 35 (argsL := [(.ref v), (.int (34 : Int32))]) (rest := [(.ref x)]) (lenOf own_pd462 rfl) rfl rfl (Nat.le_of_eq rfl) (by rw [hml]; rfl) (hb hby d461) rfl (by decide) (by decide) ?_
  rintro _ vm2 h2 C2 ⟨r2, kr2, rfl, K2, q2_0, q2_1, q2_2, q2_3, q2_4⟩
  have z2 := C2.2.1
  have lt_r2 : h2.size > r2 := q2_3.lt
  refine gat1 ?_
  have f3 := (P1.keep K2 nin0)
  have f4 := (P6.keep K2)
  refine gputF (host := "") hx (Or.inl (ow hw 60 rfl)) Via.refl f3 f4 (Or.inl (ow hw 61 rfl)) (ow hw 47 rfl) (ty := (.array .byte)) (by decide) rfl rfl P7 (fun al => Safe.exa al f4 (by decide) (by decide)) 38 (hb hby d463) rfl ?_
  intro h5 W5 C5
  have z5 := C5.2.1
  have F5 := f3.same W5
  have f7 := ((P2.keep K2 nin0).other W5 (Or.inr (slot_ne (Or.inl (ow hw 63 rfl)) (Or.inl (ow hw 61 rfl)) (by decide) (t := .byte) (t' := (.array .byte)) (by decide) (by decide))))
  have f8 := ((P8.keep K2 nin0).other W5 (Or.inr (slot_ne (Or.inl (ow hw 91 rfl)) (Or.inl (ow hw 61 rfl)) (by decide) (t := .int) (t' := (.array .byte)) (by decide) (by decide))))
  have f9 := (C5.safe (show h2.size > r2 by omega) q2_2)
  have f10 := (q2_3.wr W5)
  have f11 := (q2_4.other W5 (Nat.ne_of_gt (by omega)))
  exact gretV hx hret (hb hby d113) (by decide) (by decide) (fun vq Cq => ⟨r2, kr2, rfl, (((Keep.refl h0 [x]).trans K2 all0).wr W5 (Or.inl (List.mem_of_getElem? (i := 0) rfl))), F5, f7, f8, (by omega), q2_1, (Cq.safe (show h5.size > r2 by omega) f9), f10, f11⟩)
theorem d464 : decode y24_ 0 = .ok (.aload_n 0, 1) := by decide +kernel
theorem d465 : decode y24_ 1 = .ok (.getfield 79, 3) := by decide +kernel
theorem d466 : decode y24_ 4 = .ok (.istore_n 2, 1) := by decide +kernel
theorem d467 : decode y24_ 5 = .ok (.iload_n 2, 1) := by decide +kernel
theorem d468 : decode y24_ 6 = .ok (.iload_n 1, 1) := by decide +kernel
theorem d469 : decode y24_ 7 = .ok (.invokestatic 245, 3) := by decide +kernel
theorem d470 : decode y24_ 10 = .ok (.iadd, 1) := by decide +kernel
theorem d471 : decode y24_ 11 = .ok (.istore_n 3, 1) := by decide +kernel
theorem d472 : decode y24_ 12 = .ok (.aload_n 0, 1) := by decide +kernel
theorem d473 : decode y24_ 13 = .ok (.iload_n 3, 1) := by decide +kernel
theorem d474 : decode y24_ 14 = .ok (.invokevirtual 100, 3) := by decide +kernel
theorem d475 : decode y24_ 17 = .ok (.aload_n 0, 1) := by decide +kernel
theorem d476 : decode y24_ 18 = .ok (.invokevirtual 83, 3) := by decide +kernel
theorem d477 : decode y24_ 21 = .ok (.ifCond .eq 16, 3) := by decide +kernel
theorem d478 : decode y24_ 24 = .ok (.iload_n 1, 1) := by decide +kernel
theorem d479 : decode y24_ 25 = .ok (.iload_n 3, 1) := by decide +kernel
theorem d480 : decode y24_ 26 = .ok (.aload_n 0, 1) := by decide +kernel
theorem d481 : decode y24_ 27 = .ok (.getfield 15, 3) := by decide +kernel
theorem d482 : decode y24_ 30 = .ok (.invokestatic 248, 3) := by decide +kernel
theorem own_pd483 : parseMethodDescriptor "(II[B)I" = some ⟨[.int, .int, (.array .byte)], some .int⟩ := by decide +kernel
theorem d484 : decode y24_ 33 = .ok (.pop, 1) := by decide +kernel
theorem d485 : decode y24_ 34 = .ok (.goto 14, 3) := by decide +kernel
theorem d486 : decode y24_ 48 = .ok (.aload_n 0, 1) := by decide +kernel
theorem d487 : decode y24_ 49 = .ok (.iload_n 3, 1) := by decide +kernel
theorem d488 : decode y24_ 50 = .ok (.putfield 79, 3) := by decide +kernel
theorem d489 : decode y24_ 53 = .ok (.aload_n 0, 1) := by decide +kernel
theorem d490 : decode y24_ 54 = .ok (.areturn, 1) := by decide +kernel
abbrev mn491 : MethodName := ⟨"java/lang/AbstractStringBuilder", "append", "(I)Ljava/lang/AbstractStringBuilder;"⟩
theorem own_asbI (l : Launch) (Z : State) (a0 : Array Value) (cx : Ctx Z a0) (ws : List Jvm.Cond) (b : Addr) (x : Int32) (v : Addr) (cs : List Int32) (vm0 : Vm) (h0 : Heap) (X00 : Ext Z.heap h0) (P0 : SBd Z h0 b v 16 cs) (P1 : Z.heap.size ≤ b) (P2 : Z.heap.size ≤ v) (P3 : Safe Z consts_1 vm0 h0 v) (hcd : (cs.length ≤ 16)) (P5 : Exa Z h0 v "[B") :
    Met l mn491 y24_ 4 (some (.object c2_)) ws ({ frames := 4, cells := 1, slots := 34, locals := 62 } : Room) Z consts_1 vm0 h0 #[(.ref b), (.int x)] (fun rv vm h => ∃ (w : Addr), ∃ (cap : Nat), rv = some (.ref b) ∧ Keep h0 h [b, v] ∧ SBd Z h b w cap (cs ++ (own_dec x)) ∧ Exa Z h w "[B" ∧ ((cs ++ (own_dec x)).length ≤ cap)) := by
  obtain ⟨hw, hEL, ⟨zc, Scs, hzc⟩, ⟨fm, Sfm, hfm⟩, ⟨fe, ft, tt, Sfe, Efe, Fft, Sft⟩, hI0⟩ := id cx
  have hSA := own_SA hw
  refine Met.of_walk (a0 := a0) #[vr b, vi x, un, un] (plainFor_of_name own_pn45) X00 hEL (fun m => by first | (simp [entryFrame, mkF, argsToLocals, Value.category]; done) | rfl) ?_
  intro p e s m below meth c vm hx hby hml hret hnm hC0 hW0
  have lt_v : h0.size > v := P0.vlt
  have lt_b : h0.size > b := P0.1.lt
  have L3 := hC0.safe lt_v P3
  obtain ⟨eE, eV, eC, eN, ⟨kz, zs, eA, ez⟩, eb, ecap⟩ := P0
  have hD2 := own_dec_le x
  rcases Nat.lt_or_ge 16 (cs.length + (own_dec x).length) with hg | hg
  · refine uAN 1 hx hby d464 rfl rfl rfl ?_
    refine ggetF (host := "") hx (Or.inl (ow hw 90 rfl)) Via.refl eN 4 (hb hby d465) rfl ?_
    refine uSIN 5 #[vr b, vi x, vi (Int32.ofNat (cs).length), un] hx hby d466 rfl rfl ?_
    refine uIN 6 hx hby d467 rfl rfl ?_
    refine uIN 7 hx hby d468 rfl rfl ?_
    refine ginfo fun _ _ O1 => ?_
    refine gcallS (y := mn300) hx (ow hw 176 rfl) (ow hw 177 rfl) (ow hw 178 rfl) (ow hw 179 rfl) (by decide) (fun hZ H hEL => Pay.of_met (W := 1) (own_stringSize l Z a0 cx [] (x) vm h0 O1 ) (ow hw 179 rfl) (ow hw 178 rfl) (by decide) (by decide) hZ H hEL) 10 (argsL := [(.int x)]) (rest := [(.int (Int32.ofNat (cs).length))]) (lenOf own_pd457 rfl) rfl rfl (Nat.le_of_eq rfl) (by rw [hml]; rfl) (hb hby d469) rfl (by decide) (by decide) ?_
    rintro _ vm1 h1 C1 ⟨rfl, K1⟩
    have z1 := C1.2.1
    refine gat1 ?_
    refine uiadd 11 ((Int32.ofNat (cs).length) + (Int32.ofNat (own_dec x).length)) hx hby d470 rfl rfl ?_
    refine gat (mkF m 11 #[vr b, vi x, vi (Int32.ofNat (cs).length), un] [(.int (Int32.ofNat (cs.length + (own_dec x).length)))]) (by rw [addOf (by omega)]) ?_
    refine uSIN 12 #[vr b, vi x, vi (Int32.ofNat (cs).length), vi (Int32.ofNat (cs.length + (own_dec x).length))] hx hby d471 rfl rfl ?_
    refine uAN 13 hx hby d472 rfl rfl rfl ?_
    refine uIN 14 hx hby d473 rfl rfl ?_
    have f3 := (eA.keep K1 nin0)
    have f4 := (eV.keep K1 nin0)
    have f5 := (eC.keep K1 nin0)
    have f6 := (eE.keep K1)
    have f7 := (eN.keep K1 nin0)
    refine ginfo fun _ _ O2 => ?_
    refine gcallQ (y := mn114) hx (ow hw 92 rfl) (ow hw 93 rfl) (ow hw 95 rfl) (ow hw 94 rfl) (ow hw 96 rfl) (by decide) (fun hZ H hEL => Pay.of_met (W := 0) (own_ensureG l Z a0 cx [] (b) ((cs.length + (own_dec x).length)) (v) (kz) ((lo8s cs ++ zs)) ((Int32.ofNat (cs).length)) vm1 h1 O2 f3 f4 f5 (by first | assumption | decide | omega) (by first | assumption | decide | omega) (by simp only [List.length_append, lo8s_len]; exact ez) f6 P1 f7) (ow hw 96 rfl) (ow hw 56 rfl) (by decide) (by decide) hZ H hEL) 17 (argsL := [(.int (Int32.ofNat (cs.length + (own_dec x).length)))]) (rest := []) f6 (lenOf own_pd49 rfl) rfl rfl (Nat.le_of_eq rfl) (by rw [hml]; rfl) (hb hby d474) rfl (by decide) (by decide) ?_
    rintro _ vm2 h2 C2 ⟨w2, kw2, rfl, K2, q2_0, q2_1, q2_2, q2_3, q2_4, q2_5, q2_6, q2_7⟩
    have z2 := C2.2.1
    have lt_w2 : h2.size > w2 := q2_6.lt
    refine gat0 ?_
    refine uAN 18 hx hby d475 rfl rfl rfl ?_
    refine ginfo fun _ _ O8 => ?_
    have f9 := (f6.keep K2)
    refine gcallV (y := mn171) (z := mn171) hx (ow hw 180 rfl) (ow hw 143 rfl) (nfSel (ow hw 145 rfl)) (ow hw 145 rfl) (ow hw 144 rfl) (by decide) (fun hZ H hEL => Pay.of_met (W := 0) (own_asblat l Z a0 cx [] (b) vm2 h2 O8 q2_1) (ow hw 146 rfl) (ow hw 56 rfl) (by decide) (by decide) hZ H hEL) 21 (argsL := []) (rest := []) f9 (lenOf own_pd239 rfl) rfl rfl (Nat.le_of_eq rfl) (by rw [hml]; rfl) (hb hby d476) rfl (by decide) (by decide) ?_
    rintro _ vm8 h8 C8 ⟨rfl, rfl⟩
    have z8 := C8.2.1
    refine gat1 ?_
    refine uN 24 hx hby d477 rfl ((if0 _ _).trans (feq (by decide)).1) ?_
    refine uIN 25 hx hby d478 rfl rfl ?_
    refine uIN 26 hx hby d479 rfl rfl ?_
    refine uAN 27 hx hby d480 rfl rfl rfl ?_
    refine ggetF (host := "") hx (Or.inl (ow hw 60 rfl)) Via.refl q2_0 30 (hb hby d481) rfl ?_
    have f11 := (C8.safe (show h2.size > w2 by omega) q2_5)
    refine ginfo fun _ _ O10 => ?_
    refine gcallS (y := mn373) hx (ow hw 181 rfl) (ow hw 182 rfl) (ow hw 178 rfl) (ow hw 183 rfl) (by decide) (fun hZ H hEL => Pay.of_met (W := 0) (own_getChars l Z a0 cx [] (x) (cs.length) (w2) (kw2) (34) (((lo8s cs ++ zs) ++ List.replicate 18 (.int (0 : Int32)))) vm8 h2 O10 q2_7 q2_4 f11 (by omega) (by first | assumption | decide | omega) (by simp only [List.length_append, lo8s_len, List.length_replicate]; omega)) (ow hw 183 rfl) (ow hw 178 rfl) (by decide) (by decide) hZ H hEL) 33 (argsL := [(.int x), (.int (Int32.ofNat (cs.length + (own_dec x).length))), (.ref w2)]) (rest := []) (lenOf own_pd483 rfl) rfl rfl (Nat.le_of_eq rfl) (by rw [hml]; rfl) (hb hby d482) rfl (by decide) (by decide) ?_
    rintro _ vm10 h10 C10 ⟨rfl, K10, q10_0, q10_1⟩
    have z10 := C10.2.1
    refine gat1 ?_
    have VL := q10_0
    rw [List.append_assoc (lo8s cs) zs, own_put2] at VL
    refine uP 34 hx hby d484 rfl rfl ?_
    refine uG 48 hx hby d485 (by decide) (by decide) ?_
    refine uAN 49 hx hby d486 rfl rfl rfl ?_
    refine uIN 50 hx hby d487 rfl rfl ?_
    have f12 := (q2_2.keep K10 (ninS (Nat.ne_of_lt (by omega)) nin0))
    have f13 := (f9.keep K10)
    refine gputF (host := "") hx (Or.inl (ow hw 90 rfl)) Via.refl f12 f13 (Or.inl (ow hw 91 rfl)) (ow hw 47 rfl) (ty := .int) (by decide) rfl rfl P1 (fun al => Safe.exa al f13 (by decide) (by decide)) 53 (hb hby d488) rfl ?_
    intro h14 W14 C14
    have z14 := C14.2.1
    have F14 := f12.same W14
    refine uAN 54 hx hby d489 rfl rfl rfl ?_
    have N15 : Fld Z h14 b c2_ "count" "I" (.int (Int32.ofNat (cs ++ (own_dec x)).length)) := by rw [List.length_append]; exact F14
    have f16 := (f13.wr W14)
    have f17 := ((q2_0.keep K10 (ninS (Nat.ne_of_lt (by omega)) nin0)).other W14 (Or.inr (slot_ne (Or.inl (ow hw 61 rfl)) (Or.inl (ow hw 91 rfl)) (by decide) (t := (.array .byte)) (t' := .int) (by decide) (by decide))))
    have f18 := ((q2_1.keep K10 (ninS (Nat.ne_of_lt (by omega)) nin0)).other W14 (Or.inr (slot_ne (Or.inl (ow hw 63 rfl)) (Or.inl (ow hw 91 rfl)) (by decide) (t := .byte) (t' := .int) (by decide) (by decide))))
    have f19 := (VL.other W14 (Nat.ne_of_gt (by omega)))
    have f21 := ((q2_6.keep K10).wr W14)
    exact gretA hx hret rfl rfl (hb hby d490) (by decide) (by decide) (fun vq Cq => ⟨w2, 34, rfl, (((((Keep.refl h0 [b, v]).trans K1 all0).trans K2 (allS (Or.inl (List.mem_of_getElem? (i := 0) rfl)) all0)).trans K10 (allS (Or.inr (by omega)) all0)).wr W14 (Or.inl (List.mem_of_getElem? (i := 0) rfl))), ⟨f16, f17, f18, N15, ⟨_, _, f19, by simp only [List.length_append, List.length_drop, List.length_replicate]; omega⟩, bapp eb (own_decB x), by decide⟩, f21, (by rw [List.length_append]; omega)⟩)
  · refine uAN 1 hx hby d464 rfl rfl rfl ?_
    refine ggetF (host := "") hx (Or.inl (ow hw 90 rfl)) Via.refl eN 4 (hb hby d465) rfl ?_
    refine uSIN 5 #[vr b, vi x, vi (Int32.ofNat (cs).length), un] hx hby d466 rfl rfl ?_
    refine uIN 6 hx hby d467 rfl rfl ?_
    refine uIN 7 hx hby d468 rfl rfl ?_
    refine ginfo fun _ _ O22 => ?_
    refine gcallS (y := mn300) hx (ow hw 176 rfl) (ow hw 177 rfl) (ow hw 178 rfl) (ow hw 179 rfl) (by decide) (fun hZ H hEL => Pay.of_met (W := 1) (own_stringSize l Z a0 cx [] (x) vm h0 O22 ) (ow hw 179 rfl) (ow hw 178 rfl) (by decide) (by decide) hZ H hEL) 10 (argsL := [(.int x)]) (rest := [(.int (Int32.ofNat (cs).length))]) (lenOf own_pd457 rfl) rfl rfl (Nat.le_of_eq rfl) (by rw [hml]; rfl) (hb hby d469) rfl (by decide) (by decide) ?_
    rintro _ vm22 h22 C22 ⟨rfl, K22⟩
    have z22 := C22.2.1
    refine gat1 ?_
    refine uiadd 11 ((Int32.ofNat (cs).length) + (Int32.ofNat (own_dec x).length)) hx hby d470 rfl rfl ?_
    refine gat (mkF m 11 #[vr b, vi x, vi (Int32.ofNat (cs).length), un] [(.int (Int32.ofNat (cs.length + (own_dec x).length)))]) (by rw [addOf (by omega)]) ?_
    refine uSIN 12 #[vr b, vi x, vi (Int32.ofNat (cs).length), vi (Int32.ofNat (cs.length + (own_dec x).length))] hx hby d471 rfl rfl ?_
    refine uAN 13 hx hby d472 rfl rfl rfl ?_
    refine uIN 14 hx hby d473 rfl rfl ?_
    have f24 := (eV.keep K22 nin0)
    have f25 := (eC.keep K22 nin0)
    have f26 := (eA.keep K22 nin0)
    refine ginfo fun _ _ O23 => ?_
    have f27 := (eE.keep K22)
    refine gcallQ (y := mn114) hx (ow hw 92 rfl) (ow hw 93 rfl) (ow hw 95 rfl) (ow hw 94 rfl) (ow hw 96 rfl) (by decide) (fun hZ H hEL => Pay.of_met (W := 0) (own_ensure l Z a0 cx [] (b) (cs.length + (own_dec x).length) (v) (kz) (16) ((lo8s cs ++ zs)) vm22 h22 O23 f24 f25 f26 (by first | assumption | decide | omega) (by first | assumption | decide | omega)) (ow hw 96 rfl) (ow hw 56 rfl) (by decide) (by decide) hZ H hEL) 17 (argsL := [(.int (Int32.ofNat (cs.length + (own_dec x).length)))]) (rest := []) f27 (lenOf own_pd49 rfl) rfl rfl (Nat.le_of_eq rfl) (by rw [hml]; rfl) (hb hby d474) rfl (by decide) (by decide) ?_
    rintro _ vm23 h23 C23 ⟨rfl, rfl⟩
    have z23 := C23.2.1
    refine gat0 ?_
    refine uAN 18 hx hby d475 rfl rfl rfl ?_
    refine ginfo fun _ _ O28 => ?_
    refine gcallV (y := mn171) (z := mn171) hx (ow hw 180 rfl) (ow hw 143 rfl) (nfSel (ow hw 145 rfl)) (ow hw 145 rfl) (ow hw 144 rfl) (by decide) (fun hZ H hEL => Pay.of_met (W := 0) (own_asblat l Z a0 cx [] (b) vm23 h22 O28 f25) (ow hw 146 rfl) (ow hw 56 rfl) (by decide) (by decide) hZ H hEL) 21 (argsL := []) (rest := []) f27 (lenOf own_pd239 rfl) rfl rfl (Nat.le_of_eq rfl) (by rw [hml]; rfl) (hb hby d476) rfl (by decide) (by decide) ?_
    rintro _ vm28 h28 C28 ⟨rfl, rfl⟩
    have z28 := C28.2.1
    refine gat1 ?_
    refine uN 24 hx hby d477 rfl ((if0 _ _).trans (feq (by decide)).1) ?_
    refine uIN 25 hx hby d478 rfl rfl ?_
    refine uIN 26 hx hby d479 rfl rfl ?_
    refine uAN 27 hx hby d480 rfl rfl rfl ?_
    refine ggetF (host := "") hx (Or.inl (ow hw 60 rfl)) Via.refl f24 30 (hb hby d481) rfl ?_
    have f30 := (C28.safe (show h22.size > v by omega) (C23.safe (show h22.size > v by omega) (C22.safe (show h0.size > v by omega) L3)))
    refine ginfo fun _ _ O29 => ?_
    refine gcallS (y := mn373) hx (ow hw 181 rfl) (ow hw 182 rfl) (ow hw 178 rfl) (ow hw 183 rfl) (by decide) (fun hZ H hEL => Pay.of_met (W := 0) (own_getChars l Z a0 cx [] (x) (cs.length) (v) (kz) (16) ((lo8s cs ++ zs)) vm28 h22 O29 f26 P2 f30 (by omega) (by first | assumption | decide | omega) (by simp only [List.length_append, lo8s_len, List.length_replicate]; omega)) (ow hw 183 rfl) (ow hw 178 rfl) (by decide) (by decide) hZ H hEL) 33 (argsL := [(.int x), (.int (Int32.ofNat (cs.length + (own_dec x).length))), (.ref v)]) (rest := []) (lenOf own_pd483 rfl) rfl rfl (Nat.le_of_eq rfl) (by rw [hml]; rfl) (hb hby d482) rfl (by decide) (by decide) ?_
    rintro _ vm29 h29 C29 ⟨rfl, K29, q29_0, q29_1⟩
    have z29 := C29.2.1
    refine gat1 ?_
    have VL := q29_0
    rw [own_put2] at VL
    refine uP 34 hx hby d484 rfl rfl ?_
    refine uG 48 hx hby d485 (by decide) (by decide) ?_
    refine uAN 49 hx hby d486 rfl rfl rfl ?_
    refine uIN 50 hx hby d487 rfl rfl ?_
    have f31 := (f27.keep K29)
    have f32 := ((P5.keep K22).keep K29)
    have f33 := ((eN.keep K22 nin0).keep K29 (ninS (ne_exa f31 f32 (by decide)) nin0))
    refine gputF (host := "") hx (Or.inl (ow hw 90 rfl)) Via.refl f33 f31 (Or.inl (ow hw 91 rfl)) (ow hw 47 rfl) (ty := .int) (by decide) rfl rfl P1 (fun al => Safe.exa al f31 (by decide) (by decide)) 53 (hb hby d488) rfl ?_
    intro h34 W34 C34
    have z34 := C34.2.1
    have F34 := f33.same W34
    refine uAN 54 hx hby d489 rfl rfl rfl ?_
    have N35 : Fld Z h34 b c2_ "count" "I" (.int (Int32.ofNat (cs ++ (own_dec x)).length)) := by rw [List.length_append]; exact F34
    have f36 := (f31.wr W34)
    have f37 := (f32.wr W34)
    have f38 := ((f24.keep K29 (ninS (ne_exa f36 f37 (by decide)) nin0)).other W34 (Or.inr (slot_ne (Or.inl (ow hw 61 rfl)) (Or.inl (ow hw 91 rfl)) (by decide) (t := (.array .byte)) (t' := .int) (by decide) (by decide))))
    have f39 := ((f25.keep K29 (ninS (ne_exa f36 f37 (by decide)) nin0)).other W34 (Or.inr (slot_ne (Or.inl (ow hw 63 rfl)) (Or.inl (ow hw 91 rfl)) (by decide) (t := .byte) (t' := .int) (by decide) (by decide))))
    have f40 := (VL.other W34 (ne_exa f37 f36 (by decide)))
    exact gretA hx hret rfl rfl (hb hby d490) (by decide) (by decide) (fun vq Cq => ⟨v, 16, rfl, ((((Keep.refl h0 [b, v]).trans K22 all0).trans K29 (allS (Or.inl (List.mem_of_getElem? (i := 1) rfl)) all0)).wr W34 (Or.inl (List.mem_of_getElem? (i := 0) rfl))), ⟨f36, f38, f39, N35, ⟨_, _, f40, by simp only [List.length_append, List.length_drop, List.length_replicate]; omega⟩, bapp eb (own_decB x), by decide⟩, f37, (by rw [List.length_append]; omega)⟩)
theorem d492 : decode y16_ 0 = .ok (.aload_n 0, 1) := by decide +kernel
theorem d493 : decode y16_ 1 = .ok (.iload_n 1, 1) := by decide +kernel
theorem d494 : decode y16_ 2 = .ok (.invokespecial 53, 3) := by decide +kernel
theorem own_pd495 : parseMethodDescriptor "(I)Ljava/lang/AbstractStringBuilder;" = some ⟨[.int], some (.object "java/lang/AbstractStringBuilder")⟩ := by decide +kernel
theorem d496 : decode y16_ 5 = .ok (.pop, 1) := by decide +kernel
theorem d497 : decode y16_ 6 = .ok (.aload_n 0, 1) := by decide +kernel
theorem d498 : decode y16_ 7 = .ok (.areturn, 1) := by decide +kernel
abbrev mn499 : MethodName := ⟨"java/lang/StringBuilder", "append", "(I)Ljava/lang/StringBuilder;"⟩
theorem own_sbI (l : Launch) (Z : State) (a0 : Array Value) (cx : Ctx Z a0) (ws : List Jvm.Cond) (b : Addr) (x : Int32) (v : Addr) (cs : List Int32) (vm0 : Vm) (h0 : Heap) (X00 : Ext Z.heap h0) (P0 : SBd Z h0 b v 16 cs) (P1 : Z.heap.size ≤ b) (P2 : Z.heap.size ≤ v) (P3 : Safe Z consts_1 vm0 h0 v) (hcd : (cs.length ≤ 16)) (P5 : Exa Z h0 v "[B") :
    Met l mn499 y16_ 2 (some (.object c5_)) ws ({ frames := 5, cells := 1, slots := 34, locals := 77 } : Room) Z consts_1 vm0 h0 #[(.ref b), (.int x)] (fun rv vm h => ∃ (w : Addr), ∃ (cap : Nat), rv = some (.ref b) ∧ Keep h0 h [b, v] ∧ SBd Z h b w cap (cs ++ (own_dec x)) ∧ Exa Z h w "[B" ∧ ((cs ++ (own_dec x)).length ≤ cap)) := by
  obtain ⟨hw, hEL, ⟨zc, Scs, hzc⟩, ⟨fm, Sfm, hfm⟩, ⟨fe, ft, tt, Sfe, Efe, Fft, Sft⟩, hI0⟩ := id cx
  have hSA := own_SA hw
  refine Met.of_walk (a0 := a0) #[vr b, vi x] (plainFor_of_name own_pn52) X00 hEL (fun m => by first | (simp [entryFrame, mkF, argsToLocals, Value.category]; done) | rfl) ?_
  intro p e s m below meth c vm hx hby hml hret hnm hC0 hW0
  have lt_v : h0.size > v := P0.vlt
  have lt_b : h0.size > b := P0.1.lt
  have L3 := hC0.safe lt_v P3
  have eE := P0.1
  refine uAN 1 hx hby d492 rfl rfl rfl ?_
  refine uIN 2 hx hby d493 rfl rfl ?_
  refine ginfo fun _ _ O1 => ?_
  refine gcallU (y := mn491) hx (ow hw 172 rfl) (smOf (y := mn491) (ow hw 173 rfl) (nfSame (y' := mn114) (ow hw 95 rfl) (ow hw 93 rfl) rfl) (by decide)) (ow hw 173 rfl) (ow hw 76 rfl) (by decide) (ow hw 175 rfl) (fun hZ H hEL => Pay.of_met (W := 0) (own_asbI l Z a0 cx [] (b) (x) (v) (cs) vm h0 O1 P0 P1 P2 L3 (by first | assumption | decide | omega) P5) (ow hw 175 rfl) (ow hw 56 rfl) (by decide) (by decide) hZ H hEL) 5 (argsL := [(.int x)]) (rest := []) (Ins.self eE) (lenOf own_pd495 rfl) rfl rfl (Nat.le_of_eq rfl) (by rw [hml]; rfl) (hb hby d494) rfl (by decide) (by decide) ?_
  rintro _ vm1 h1 C1 ⟨w1, cap1, rfl, K1, q1_0, q1_1, q1_2⟩
  have z1 := C1.2.1
  have lt_w1 : h1.size > w1 := q1_0.vlt
  refine gat1 ?_
  refine uP 6 hx hby d496 rfl rfl ?_
  refine uAN 7 hx hby d497 rfl rfl rfl ?_
  exact gretA hx hret rfl rfl (hb hby d498) (by decide) (by decide) (fun vq Cq => ⟨w1, cap1, rfl, ((Keep.refl h0 [b, v]).trans K1 (allS (Or.inl (List.mem_of_getElem? (i := 0) rfl)) (allS (Or.inl (List.mem_of_getElem? (i := 1) rfl)) all0))), q1_0, q1_1, q1_2⟩)
def own_ch (x i : Int32) : Int32 := (((x.toUInt32 >>> (((8 : Int32) * i) &&& 31).toUInt32).toInt32) &&& (255 : Int32))
theorem d500 : decode y31_ 0 = .ok (.iload_n 0, 1) := by decide +kernel
theorem d501 : decode y31_ 1 = .ok (.bipush 8, 2) := by decide +kernel
theorem d502 : decode y31_ 3 = .ok (.iload_n 1, 1) := by decide +kernel
theorem d503 : decode y31_ 4 = .ok (.imul, 1) := by decide +kernel
theorem d504 : decode y31_ 5 = .ok (.iushr, 1) := by decide +kernel
theorem d505 : decode y31_ 6 = .ok (.sipush 255, 3) := by decide +kernel
theorem d506 : decode y31_ 9 = .ok (.iand, 1) := by decide +kernel
theorem d507 : decode y31_ 10 = .ok (.i2c, 1) := by decide +kernel
theorem d508 : decode y31_ 11 = .ok (.ireturn, 1) := by decide +kernel
abbrev mn509 : MethodName := ⟨"com/example/limentinus/limentinus/core/KeyLayoutPermitKeyPinLaw", "ch", "(II)C"⟩
theorem own_pn510 : plainName "com/example/limentinus/limentinus/core/KeyLayoutPermitKeyPinLaw" = true := by first | (simp [plainName, overriddenIn]; done) | decide +kernel
theorem own_chw (l : Launch) (Z : State) (a0 : Array Value) (cx : Ctx Z a0) (ws : List Jvm.Cond) (x : Int32) (i : Int32) (vm0 : Vm) (h0 : Heap) (X00 : Ext Z.heap h0)  :
    Met l mn509 y31_ 2 (some .char) ws ({ frames := 0, cells := 0, slots := 0, locals := 0 } : Room) Z consts_1 vm0 h0 #[(.int x), (.int i)] (fun rv vm h => rv = some (.int (own_ch x i)) ∧ h0 = h) := by
  obtain ⟨hw, hEL, ⟨zc, Scs, hzc⟩, ⟨fm, Sfm, hfm⟩, ⟨fe, ft, tt, Sfe, Efe, Fft, Sft⟩, hI0⟩ := id cx
  have hSA := own_SA hw
  refine Met.of_walk (a0 := a0) #[vi x, vi i] (plainFor_of_name own_pn510) X00 hEL (fun m => by first | (simp [entryFrame, mkF, argsToLocals, Value.category]; done) | rfl) ?_
  intro p e s m below meth c vm hx hby hml hret hnm hC0 hW0
  refine uIN 1 hx hby d500 rfl rfl ?_
  refine uKb 3 (8 : Int32) hx hby d501 rfl rfl ?_
  refine uIN 4 hx hby d502 rfl rfl ?_
  refine uimul 5 ((8 : Int32) * i) hx hby d503 rfl rfl ?_
  refine gs (mkF m 6 #[vi x, vi i] [(.int ((x.toUInt32 >>> (((8 : Int32) * i) &&& 31).toUInt32).toInt32))]) (fun _ _ A kq => XS.iushr A hx rfl (hb hby d504) rfl kq) ?_
  refine uKs 9 (255 : Int32) hx hby d505 rfl rfl ?_
  refine uiand 10 (((x.toUInt32 >>> (((8 : Int32) * i) &&& 31).toUInt32).toInt32) &&& (255 : Int32)) hx hby d506 rfl rfl ?_
  refine gi2c hx (i2c_mask _) 11 (hb hby d507) rfl ?_
  exact gretN (t := .char) hx hret (by simp) (hb hby d508) (by decide) (by decide) (fun vq Cq => ⟨(congrArg (fun z => some (Value.int z)) (narC _)), rfl⟩)
def own_n (x : Int32) : Int32 := (((x.toUInt32 >>> ((24 : Int32) &&& 31).toUInt32).toInt32) &&& (3 : Int32))
def own_dr (x n : Int32) : List Int32 := if n = 0 then [] else if n = 1 then [(own_ch x (0 : Int32))] else if n = 2 then [(own_ch x (0 : Int32)), (own_ch x (1 : Int32))] else [(own_ch x (0 : Int32)), (own_ch x (1 : Int32)), (own_ch x (2 : Int32))]
def own_id (x : Int32) : List Int32 := own_dr x (own_n x)
theorem own_chB (x i : Int32) : B8 (own_ch x i) := b255 _
theorem own_narch (x i : Int32) : nar .char (own_ch x i) = own_ch x i := narC _
theorem own_and3 (z : Int32) : z &&& (3 : Int32) = 0 ∨ z &&& (3 : Int32) = 1 ∨ z &&& (3 : Int32) = 2 ∨ z &&& (3 : Int32) = 3 := by
  have h := c_mask z 3 2 (by decide) (by decide)
  have e0 : (0 : Int32).toInt = 0 := rfl
  have e1 : (1 : Int32).toInt = 1 := rfl
  have e2 : (2 : Int32).toInt = 2 := rfl
  have e3 : (3 : Int32).toInt = 3 := rfl
  simp only [← Int32.toInt_inj, e0, e1, e2, e3]
  omega
theorem own_id0 {x : Int32} (h : (((x.toUInt32 >>> ((24 : Int32) &&& 31).toUInt32).toInt32) &&& (3 : Int32)) = (0 : Int32)) : own_id x = [] := by rw [own_id, own_n, h]; rfl
theorem own_id1 {x : Int32} (h : (((x.toUInt32 >>> ((24 : Int32) &&& 31).toUInt32).toInt32) &&& (3 : Int32)) = (1 : Int32)) : own_id x = [(own_ch x (0 : Int32))] := by rw [own_id, own_n, h]; rfl
theorem own_id2 {x : Int32} (h : (((x.toUInt32 >>> ((24 : Int32) &&& 31).toUInt32).toInt32) &&& (3 : Int32)) = (2 : Int32)) : own_id x = [(own_ch x (0 : Int32)), (own_ch x (1 : Int32))] := by rw [own_id, own_n, h]; rfl
theorem own_id3 {x : Int32} (h : (((x.toUInt32 >>> ((24 : Int32) &&& 31).toUInt32).toInt32) &&& (3 : Int32)) = (3 : Int32)) : own_id x = [(own_ch x (0 : Int32)), (own_ch x (1 : Int32)), (own_ch x (2 : Int32))] := by rw [own_id, own_n, h]; rfl
theorem own_idL (x : Int32) : (own_id x).length ≤ 3 := by
  rcases own_and3 ((x.toUInt32 >>> ((24 : Int32) &&& 31).toUInt32).toInt32) with q | q | q | q
  · rw [own_id0 q]; decide
  · rw [own_id1 q]; exact Nat.le_of_ble_eq_true rfl
  · rw [own_id2 q]; exact Nat.le_of_ble_eq_true rfl
  · rw [own_id3 q]; exact Nat.le_of_ble_eq_true rfl
theorem d511 : decode y32_ 0 = .ok (.iload_n 0, 1) := by decide +kernel
theorem d512 : decode y32_ 1 = .ok (.bipush 24, 2) := by decide +kernel
theorem d513 : decode y32_ 3 = .ok (.iushr, 1) := by decide +kernel
theorem d514 : decode y32_ 4 = .ok (.iconst 3, 1) := by decide +kernel
theorem d515 : decode y32_ 5 = .ok (.iand, 1) := by decide +kernel
theorem d516 : decode y32_ 6 = .ok (.istore_n 1, 1) := by decide +kernel
theorem d517 : decode y32_ 7 = .ok (.iload_n 1, 1) := by decide +kernel
theorem d518 : decode y32_ 8 = .ok (.ifCond .ne 14, 3) := by decide +kernel
theorem d519 : decode y32_ 11 = .ok (.new 7, 3) := by decide +kernel
theorem d520 : decode y32_ 14 = .ok (.dup, 1) := by decide +kernel
theorem d521 : decode y32_ 15 = .ok (.iconst 0, 1) := by decide +kernel
theorem d522 : decode y32_ 16 = .ok (.newarray .char, 2) := by decide +kernel
theorem d523 : decode y32_ 18 = .ok (.invokespecial 9, 3) := by decide +kernel
theorem own_pd524 : parseMethodDescriptor "([C)V" = some ⟨[(.array .char)], none⟩ := by decide +kernel
theorem d525 : decode y32_ 21 = .ok (.areturn, 1) := by decide +kernel
theorem d526 : decode y32_ 22 = .ok (.iload_n 1, 1) := by decide +kernel
theorem d527 : decode y32_ 23 = .ok (.iconst 1, 1) := by decide +kernel
theorem d528 : decode y32_ 24 = .ok (.if_icmp .ne 22, 3) := by decide +kernel
theorem d529 : decode y32_ 27 = .ok (.new 7, 3) := by decide +kernel
theorem d530 : decode y32_ 30 = .ok (.dup, 1) := by decide +kernel
theorem d531 : decode y32_ 31 = .ok (.iconst 1, 1) := by decide +kernel
theorem d532 : decode y32_ 32 = .ok (.newarray .char, 2) := by decide +kernel
theorem d533 : decode y32_ 34 = .ok (.dup, 1) := by decide +kernel
theorem d534 : decode y32_ 35 = .ok (.iconst 0, 1) := by decide +kernel
theorem d535 : decode y32_ 36 = .ok (.iload_n 0, 1) := by decide +kernel
theorem d536 : decode y32_ 37 = .ok (.iconst 0, 1) := by decide +kernel
theorem d537 : decode y32_ 38 = .ok (.invokestatic 12, 3) := by decide +kernel
theorem own_pd538 : parseMethodDescriptor "(II)C" = some ⟨[.int, .int], some .char⟩ := by decide +kernel
theorem d539 : decode y32_ 41 = .ok (.castore, 1) := by decide +kernel
theorem d540 : decode y32_ 42 = .ok (.invokespecial 9, 3) := by decide +kernel
theorem d541 : decode y32_ 45 = .ok (.areturn, 1) := by decide +kernel
theorem d542 : decode y32_ 46 = .ok (.iload_n 1, 1) := by decide +kernel
theorem d543 : decode y32_ 47 = .ok (.iconst 2, 1) := by decide +kernel
theorem d544 : decode y32_ 48 = .ok (.if_icmp .ne 30, 3) := by decide +kernel
theorem d545 : decode y32_ 51 = .ok (.new 7, 3) := by decide +kernel
theorem d546 : decode y32_ 54 = .ok (.dup, 1) := by decide +kernel
theorem d547 : decode y32_ 55 = .ok (.iconst 2, 1) := by decide +kernel
theorem d548 : decode y32_ 56 = .ok (.newarray .char, 2) := by decide +kernel
theorem d549 : decode y32_ 58 = .ok (.dup, 1) := by decide +kernel
theorem d550 : decode y32_ 59 = .ok (.iconst 0, 1) := by decide +kernel
theorem d551 : decode y32_ 60 = .ok (.iload_n 0, 1) := by decide +kernel
theorem d552 : decode y32_ 61 = .ok (.iconst 0, 1) := by decide +kernel
theorem d553 : decode y32_ 62 = .ok (.invokestatic 12, 3) := by decide +kernel
theorem d554 : decode y32_ 65 = .ok (.castore, 1) := by decide +kernel
theorem d555 : decode y32_ 66 = .ok (.dup, 1) := by decide +kernel
theorem d556 : decode y32_ 67 = .ok (.iconst 1, 1) := by decide +kernel
theorem d557 : decode y32_ 68 = .ok (.iload_n 0, 1) := by decide +kernel
theorem d558 : decode y32_ 69 = .ok (.iconst 1, 1) := by decide +kernel
theorem d559 : decode y32_ 70 = .ok (.invokestatic 12, 3) := by decide +kernel
theorem d560 : decode y32_ 73 = .ok (.castore, 1) := by decide +kernel
theorem d561 : decode y32_ 74 = .ok (.invokespecial 9, 3) := by decide +kernel
theorem d562 : decode y32_ 77 = .ok (.areturn, 1) := by decide +kernel
theorem d563 : decode y32_ 78 = .ok (.new 7, 3) := by decide +kernel
theorem d564 : decode y32_ 81 = .ok (.dup, 1) := by decide +kernel
theorem d565 : decode y32_ 82 = .ok (.iconst 3, 1) := by decide +kernel
theorem d566 : decode y32_ 83 = .ok (.newarray .char, 2) := by decide +kernel
theorem d567 : decode y32_ 85 = .ok (.dup, 1) := by decide +kernel
theorem d568 : decode y32_ 86 = .ok (.iconst 0, 1) := by decide +kernel
theorem d569 : decode y32_ 87 = .ok (.iload_n 0, 1) := by decide +kernel
theorem d570 : decode y32_ 88 = .ok (.iconst 0, 1) := by decide +kernel
theorem d571 : decode y32_ 89 = .ok (.invokestatic 12, 3) := by decide +kernel
theorem d572 : decode y32_ 92 = .ok (.castore, 1) := by decide +kernel
theorem d573 : decode y32_ 93 = .ok (.dup, 1) := by decide +kernel
theorem d574 : decode y32_ 94 = .ok (.iconst 1, 1) := by decide +kernel
theorem d575 : decode y32_ 95 = .ok (.iload_n 0, 1) := by decide +kernel
theorem d576 : decode y32_ 96 = .ok (.iconst 1, 1) := by decide +kernel
theorem d577 : decode y32_ 97 = .ok (.invokestatic 12, 3) := by decide +kernel
theorem d578 : decode y32_ 100 = .ok (.castore, 1) := by decide +kernel
theorem d579 : decode y32_ 101 = .ok (.dup, 1) := by decide +kernel
theorem d580 : decode y32_ 102 = .ok (.iconst 2, 1) := by decide +kernel
theorem d581 : decode y32_ 103 = .ok (.iload_n 0, 1) := by decide +kernel
theorem d582 : decode y32_ 104 = .ok (.iconst 2, 1) := by decide +kernel
theorem d583 : decode y32_ 105 = .ok (.invokestatic 12, 3) := by decide +kernel
theorem d584 : decode y32_ 108 = .ok (.castore, 1) := by decide +kernel
theorem d585 : decode y32_ 109 = .ok (.invokespecial 9, 3) := by decide +kernel
theorem d586 : decode y32_ 112 = .ok (.areturn, 1) := by decide +kernel
abbrev mn587 : MethodName := ⟨"com/example/limentinus/limentinus/core/KeyLayoutPermitKeyPinLaw", "mk", "(I)Ljava/lang/String;"⟩
theorem own_mkw (l : Launch) (Z : State) (a0 : Array Value) (cx : Ctx Z a0) (ws : List Jvm.Cond) (x : Int32) (vm0 : Vm) (h0 : Heap) (X00 : Ext Z.heap h0)  :
    Met l mn587 y32_ 2 (some (.object c4_)) ws ({ frames := 4, cells := 6, slots := 12, locals := 66 } : Room) Z consts_1 vm0 h0 #[(.int x)] (fun rv vm h => ∃ (r : Addr), ∃ (t : Addr), rv = some (.ref r) ∧ Keep h0 h [] ∧ h0.size ≤ r ∧ Str Z h r t (own_id x)) := by
  obtain ⟨hw, hEL, ⟨zc, Scs, hzc⟩, ⟨fm, Sfm, hfm⟩, ⟨fe, ft, tt, Sfe, Efe, Fft, Sft⟩, hI0⟩ := id cx
  have hSA := own_SA hw
  refine Met.of_walk (a0 := a0) #[vi x, un] (plainFor_of_name own_pn510) X00 hEL (fun m => by first | (simp [entryFrame, mkF, argsToLocals, Value.category]; done) | rfl) ?_
  intro p e s m below meth c vm hx hby hml hret hnm hC0 hW0
  refine uIN 1 hx hby d511 rfl rfl ?_
  refine uKb 3 (24 : Int32) hx hby d512 rfl rfl ?_
  refine gs (mkF m 4 #[vi x, un] [(.int ((x.toUInt32 >>> ((24 : Int32) &&& 31).toUInt32).toInt32))]) (fun _ _ A kq => XS.iushr A hx rfl (hb hby d513) rfl kq) ?_
  refine uKc 5 (3 : Int32) hx hby d514 rfl rfl ?_
  refine uiand 6 (((x.toUInt32 >>> ((24 : Int32) &&& 31).toUInt32).toInt32) &&& (3 : Int32)) hx hby d515 rfl rfl ?_
  refine uSIN 7 #[vi x, vi (((x.toUInt32 >>> ((24 : Int32) &&& 31).toUInt32).toInt32) &&& (3 : Int32))] hx hby d516 rfl rfl ?_
  rcases own_and3 ((x.toUInt32 >>> ((24 : Int32) &&& 31).toUInt32).toInt32) with q | q | q | q
  · refine gat (mkF m 7 #[vi x, vi (0 : Int32)] []) (by rw [q]) ?_
    refine uIN 8 hx hby d517 rfl rfl ?_
    refine uN 11 hx hby d518 rfl ((if0 _ _).trans (teq (by decide)).2) ?_
    refine gnewO hx (ow hw 4 rfl) (ow hw 5 rfl) (ow hw 6 rfl) 14 (hb hby d519) rfl (by decide) (by decide) ?_
    intro b1 h1 g1 E1 C1 A1 D1 n1 L1
    have z1 := C1.2.1
    have lt_b1 : h1.size > b1 := A1.lt
    have F1_value : Fld Z h1 b1 c4_ "value" "[B" .null := D1 (Or.inr (ow hw 20 rfl)) (ty := (.array .byte)) (by decide)
    have F1_coder : Fld Z h1 b1 c4_ "coder" "B" (.int (0 : Int32)) := D1 (Or.inr (ow hw 21 rfl)) (ty := .byte) (by decide)
    refine uD 15 hx hby d520 rfl rfl ?_
    refine uKc 16 (0 : Int32) hx hby d521 rfl rfl ?_
    refine gnewPE hx (ow hw 7 rfl) (n := (0 : Int32)) (by decide) (cap := 0) (by decide) (by decide) (ad := "[C") (by decide) 18 (hb hby d522) rfl (by decide) (by decide) ?_
    intro b2 h2 k2 g2 E2 C2 V2 A2 n2 L2
    have z2 := C2.2.1
    have V2 : Arv Z h2 b2 k2 .char (0 : Int32) [] (.int (0 : Int32)) := V2.pad (pad_rep [] (.int (0 : Int32)) 0)
    have lt_b2 : h2.size > b2 := V2.lt
    have f4 := (A1.ext E2)
    have f5 := (F1_value.ext E2)
    have f6 := (F1_coder.ext E2)
    have f7 := (C2.safe (show h1.size > b1 by omega) L1)
    refine ginfo fun _ _ O3 => ?_
    refine gcallI (y := mn24) hx rfl (ow hw 8 rfl) (ow hw 9 rfl) (ow hw 10 rfl) (by decide) (fun hZ H hEL => Pay.of_met (W := 1) (own_emp1 l Z a0 cx [] (b1) (b2) (.null) ((.int (0 : Int32))) (k2) vm h2 O3 f4 f5 f6 n1 f7 V2) (ow hw 10 rfl) (ow hw 6 rfl) (by decide) (by decide) hZ H hEL) (a := b1) 21 (argsL := [(.ref b2)]) (rest := [(.ref b1)]) (lenOf own_pd524 rfl) rfl rfl (Nat.le_of_eq rfl) (by rw [hml]; rfl) (hb hby d523) rfl (by decide) (by decide) ?_
    rintro _ vm3 h3 C3 ⟨t3, rfl, K3, q3_0, q3_1⟩
    have z3 := C3.2.1
    have lt_t3 : h3.size > t3 := q3_0.tlt
    refine gat0 ?_
    exact gretA hx hret rfl rfl (hb hby d525) (by decide) (by decide) (fun vq Cq => ⟨b1, t3, rfl, ((((Keep.refl h0 []).ext E1).ext E2).trans K3 (allS (Or.inr (by omega)) all0)), (by omega), (by rw [own_id0 q]; exact q3_0)⟩)
  · refine gat (mkF m 7 #[vi x, vi (1 : Int32)] []) (by rw [q]) ?_
    refine uIN 8 hx hby d517 rfl rfl ?_
    refine uY 22 hx hby d518 ((if0 _ _).trans (feq (by decide)).2) (by decide) (by decide) ?_
    refine uIN 23 hx hby d526 rfl rfl ?_
    refine uKc 24 (1 : Int32) hx hby d527 rfl rfl ?_
    refine uNc 27 hx hby d528 rfl (teq (by decide)).2 ?_
    refine gnewO hx (ow hw 4 rfl) (ow hw 5 rfl) (ow hw 6 rfl) 30 (hb hby d529) rfl (by decide) (by decide) ?_
    intro b9 h9 g9 E9 C9 A9 D9 n9 L9
    have z9 := C9.2.1
    have lt_b9 : h9.size > b9 := A9.lt
    have F9_value : Fld Z h9 b9 c4_ "value" "[B" .null := D9 (Or.inr (ow hw 20 rfl)) (ty := (.array .byte)) (by decide)
    have F9_coder : Fld Z h9 b9 c4_ "coder" "B" (.int (0 : Int32)) := D9 (Or.inr (ow hw 21 rfl)) (ty := .byte) (by decide)
    refine uD 31 hx hby d530 rfl rfl ?_
    refine uKc 32 (1 : Int32) hx hby d531 rfl rfl ?_
    refine gnewPE hx (ow hw 7 rfl) (n := (1 : Int32)) (by decide) (cap := 1) (by decide) (by decide) (ad := "[C") (by decide) 34 (hb hby d532) rfl (by decide) (by decide) ?_
    intro b10 h10 k10 g10 E10 C10 V10 A10 n10 L10
    have z10 := C10.2.1
    have V10 : Arv Z h10 b10 k10 .char (1 : Int32) [(.int (0 : Int32))] (.int (0 : Int32)) := V10.pad (pad_rep [] (.int (0 : Int32)) 1)
    have lt_b10 : h10.size > b10 := V10.lt
    refine uD 35 hx hby d533 rfl rfl ?_
    refine uKc 36 (0 : Int32) hx hby d534 rfl rfl ?_
    refine uIN 37 hx hby d535 rfl rfl ?_
    refine uKc 38 (0 : Int32) hx hby d536 rfl rfl ?_
    refine ginfo fun _ _ O11 => ?_
    refine gcallS (y := mn509) hx (ow hw 230 rfl) (ow hw 231 rfl) (ow hw 2 rfl) (ow hw 232 rfl) (by decide) (fun hZ H hEL => Pay.of_met (W := 5) (own_chw l Z a0 cx [] (x) ((0 : Int32)) vm h10 O11 ) (ow hw 232 rfl) (ow hw 2 rfl) (by decide) (by decide) hZ H hEL) 41 (argsL := [(.int x), (.int (0 : Int32))]) (rest := [(.int (0 : Int32)), (.ref b10), (.ref b10), (.ref b9), (.ref b9)]) (lenOf own_pd538 rfl) rfl rfl (Nat.le_of_eq rfl) (by rw [hml]; rfl) (hb hby d537) rfl (by decide) (by decide) ?_
    rintro _ vm11 h11 C11 ⟨rfl, rfl⟩
    have z11 := C11.2.1
    refine gat1 ?_
    refine gstC hx V10 ⟨by decide, by decide⟩ (i := 0) rfl (Nat.le_of_ble_eq_true rfl) (y := (own_ch x (0 : Int32))) (own_narch _ _) n10 42 (hb hby d539) rfl ?_
    intro h12 W12 C12 V12
    have z12 := C12.2.1
    replace V12 : Arv Z h12 b10 k10 .char (1 : Int32) [(.int (own_ch x (0 : Int32)))] (.int (0 : Int32)) := V12
    have f14 := ((A9.ext E10).wr W12)
    have f15 := ((F9_value.ext E10).other W12 (Or.inl (Nat.ne_of_lt (by omega))))
    have f16 := ((F9_coder.ext E10).other W12 (Or.inl (Nat.ne_of_lt (by omega))))
    have f17 := (C12.safe (show h10.size > b9 by omega) (C11.safe (show h10.size > b9 by omega) (C10.safe (show h9.size > b9 by omega) L9)))
    refine ginfo fun _ _ O13 => ?_
    refine gcallI (y := mn24) hx rfl (ow hw 8 rfl) (ow hw 9 rfl) (ow hw 10 rfl) (by decide) (fun hZ H hEL => own_payNew (W := 1) (own_wNew hw) (ow hw 5 rfl) Scs hzc O13 (cs := [(own_ch x (0 : Int32))]) (n := 1) n9 f14 f15 f16 V12 rfl rfl (by decide) (by decide) (bcons (own_chB _ _) bnil) f17 (by decide) (by decide) hZ H hEL) (a := b9) 45 (argsL := [(.ref b10)]) (rest := [(.ref b9)]) (lenOf own_pd524 rfl) rfl rfl (Nat.le_of_eq rfl) (by rw [hml]; rfl) (hb hby d540) rfl (by decide) (by decide) ?_
    rintro _ vm13 h13 C13 ⟨t13, rfl, K13, g13, S13⟩
    have z13 := C13.2.1
    have lt_t13 : h13.size > t13 := S13.tlt
    refine gat0 ?_
    exact gretA hx hret rfl rfl (hb hby d541) (by decide) (by decide) (fun vq Cq => ⟨b9, t13, rfl, (((((Keep.refl h0 []).ext E9).ext E10).wr W12 (Or.inr (by omega))).trans K13 (allS (Or.inr (by omega)) all0)), (by omega), (by rw [own_id1 q]; exact S13)⟩)
  · refine gat (mkF m 7 #[vi x, vi (2 : Int32)] []) (by rw [q]) ?_
    refine uIN 8 hx hby d517 rfl rfl ?_
    refine uY 22 hx hby d518 ((if0 _ _).trans (feq (by decide)).2) (by decide) (by decide) ?_
    refine uIN 23 hx hby d526 rfl rfl ?_
    refine uKc 24 (1 : Int32) hx hby d527 rfl rfl ?_
    refine uYc 46 hx hby d528 (feq (by decide)).2 (by decide) (by decide) ?_
    refine uIN 47 hx hby d542 rfl rfl ?_
    refine uKc 48 (2 : Int32) hx hby d543 rfl rfl ?_
    refine uNc 51 hx hby d544 rfl (teq (by decide)).2 ?_
    refine gnewO hx (ow hw 4 rfl) (ow hw 5 rfl) (ow hw 6 rfl) 54 (hb hby d545) rfl (by decide) (by decide) ?_
    intro b19 h19 g19 E19 C19 A19 D19 n19 L19
    have z19 := C19.2.1
    have lt_b19 : h19.size > b19 := A19.lt
    have F19_value : Fld Z h19 b19 c4_ "value" "[B" .null := D19 (Or.inr (ow hw 20 rfl)) (ty := (.array .byte)) (by decide)
    have F19_coder : Fld Z h19 b19 c4_ "coder" "B" (.int (0 : Int32)) := D19 (Or.inr (ow hw 21 rfl)) (ty := .byte) (by decide)
    refine uD 55 hx hby d546 rfl rfl ?_
    refine uKc 56 (2 : Int32) hx hby d547 rfl rfl ?_
    refine gnewPE hx (ow hw 7 rfl) (n := (2 : Int32)) (by decide) (cap := 2) (by decide) (by decide) (ad := "[C") (by decide) 58 (hb hby d548) rfl (by decide) (by decide) ?_
    intro b20 h20 k20 g20 E20 C20 V20 A20 n20 L20
    have z20 := C20.2.1
    have V20 : Arv Z h20 b20 k20 .char (2 : Int32) [(.int (0 : Int32)), (.int (0 : Int32))] (.int (0 : Int32)) := V20.pad (pad_rep [] (.int (0 : Int32)) 2)
    have lt_b20 : h20.size > b20 := V20.lt
    refine uD 59 hx hby d549 rfl rfl ?_
    refine uKc 60 (0 : Int32) hx hby d550 rfl rfl ?_
    refine uIN 61 hx hby d551 rfl rfl ?_
    refine uKc 62 (0 : Int32) hx hby d552 rfl rfl ?_
    refine ginfo fun _ _ O21 => ?_
    refine gcallS (y := mn509) hx (ow hw 230 rfl) (ow hw 231 rfl) (ow hw 2 rfl) (ow hw 232 rfl) (by decide) (fun hZ H hEL => Pay.of_met (W := 5) (own_chw l Z a0 cx [] (x) ((0 : Int32)) vm h20 O21 ) (ow hw 232 rfl) (ow hw 2 rfl) (by decide) (by decide) hZ H hEL) 65 (argsL := [(.int x), (.int (0 : Int32))]) (rest := [(.int (0 : Int32)), (.ref b20), (.ref b20), (.ref b19), (.ref b19)]) (lenOf own_pd538 rfl) rfl rfl (Nat.le_of_eq rfl) (by rw [hml]; rfl) (hb hby d553) rfl (by decide) (by decide) ?_
    rintro _ vm21 h21 C21 ⟨rfl, rfl⟩
    have z21 := C21.2.1
    refine gat1 ?_
    refine gstC hx V20 ⟨by decide, by decide⟩ (i := 0) rfl (Nat.le_of_ble_eq_true rfl) (y := (own_ch x (0 : Int32))) (own_narch _ _) n20 66 (hb hby d554) rfl ?_
    intro h22 W22 C22 V22
    have z22 := C22.2.1
    replace V22 : Arv Z h22 b20 k20 .char (2 : Int32) [(.int (own_ch x (0 : Int32))), (.int (0 : Int32))] (.int (0 : Int32)) := V22
    refine uD 67 hx hby d555 rfl rfl ?_
    refine uKc 68 (1 : Int32) hx hby d556 rfl rfl ?_
    refine uIN 69 hx hby d557 rfl rfl ?_
    refine uKc 70 (1 : Int32) hx hby d558 rfl rfl ?_
    refine ginfo fun _ _ O23 => ?_
    refine gcallS (y := mn509) hx (ow hw 230 rfl) (ow hw 231 rfl) (ow hw 2 rfl) (ow hw 232 rfl) (by decide) (fun hZ H hEL => Pay.of_met (W := 5) (own_chw l Z a0 cx [] (x) ((1 : Int32)) vm21 h22 O23 ) (ow hw 232 rfl) (ow hw 2 rfl) (by decide) (by decide) hZ H hEL) 73 (argsL := [(.int x), (.int (1 : Int32))]) (rest := [(.int (1 : Int32)), (.ref b20), (.ref b20), (.ref b19), (.ref b19)]) (lenOf own_pd538 rfl) rfl rfl (Nat.le_of_eq rfl) (by rw [hml]; rfl) (hb hby d559) rfl (by decide) (by decide) ?_
    rintro _ vm23 h23 C23 ⟨rfl, rfl⟩
    have z23 := C23.2.1
    refine gat1 ?_
    refine gstC hx V22 ⟨by decide, by decide⟩ (i := 1) rfl (Nat.le_of_ble_eq_true rfl) (y := (own_ch x (1 : Int32))) (own_narch _ _) n20 74 (hb hby d560) rfl ?_
    intro h24 W24 C24 V24
    have z24 := C24.2.1
    replace V24 : Arv Z h24 b20 k20 .char (2 : Int32) [(.int (own_ch x (0 : Int32))), (.int (own_ch x (1 : Int32)))] (.int (0 : Int32)) := V24
    have f26 := (((A19.ext E20).wr W22).wr W24)
    have f27 := (((F19_value.ext E20).other W22 (Or.inl (Nat.ne_of_lt (by omega)))).other W24 (Or.inl (Nat.ne_of_lt (by omega))))
    have f28 := (((F19_coder.ext E20).other W22 (Or.inl (Nat.ne_of_lt (by omega)))).other W24 (Or.inl (Nat.ne_of_lt (by omega))))
    have f29 := (C24.safe (show h22.size > b19 by omega) (C23.safe (show h22.size > b19 by omega) (C22.safe (show h20.size > b19 by omega) (C21.safe (show h20.size > b19 by omega) (C20.safe (show h19.size > b19 by omega) L19)))))
    refine ginfo fun _ _ O25 => ?_
    refine gcallI (y := mn24) hx rfl (ow hw 8 rfl) (ow hw 9 rfl) (ow hw 10 rfl) (by decide) (fun hZ H hEL => own_payNew (W := 1) (own_wNew hw) (ow hw 5 rfl) Scs hzc O25 (cs := [(own_ch x (0 : Int32)), (own_ch x (1 : Int32))]) (n := 2) n19 f26 f27 f28 V24 rfl rfl (by decide) (by decide) (bcons (own_chB _ _) (bcons (own_chB _ _) bnil)) f29 (by decide) (by decide) hZ H hEL) (a := b19) 77 (argsL := [(.ref b20)]) (rest := [(.ref b19)]) (lenOf own_pd524 rfl) rfl rfl (Nat.le_of_eq rfl) (by rw [hml]; rfl) (hb hby d561) rfl (by decide) (by decide) ?_
    rintro _ vm25 h25 C25 ⟨t25, rfl, K25, g25, S25⟩
    have z25 := C25.2.1
    have lt_t25 : h25.size > t25 := S25.tlt
    refine gat0 ?_
    exact gretA hx hret rfl rfl (hb hby d562) (by decide) (by decide) (fun vq Cq => ⟨b19, t25, rfl, ((((((Keep.refl h0 []).ext E19).ext E20).wr W22 (Or.inr (by omega))).wr W24 (Or.inr (by omega))).trans K25 (allS (Or.inr (by omega)) all0)), (by omega), (by rw [own_id2 q]; exact S25)⟩)
  · refine gat (mkF m 7 #[vi x, vi (3 : Int32)] []) (by rw [q]) ?_
    refine uIN 8 hx hby d517 rfl rfl ?_
    refine uY 22 hx hby d518 ((if0 _ _).trans (feq (by decide)).2) (by decide) (by decide) ?_
    refine uIN 23 hx hby d526 rfl rfl ?_
    refine uKc 24 (1 : Int32) hx hby d527 rfl rfl ?_
    refine uYc 46 hx hby d528 (feq (by decide)).2 (by decide) (by decide) ?_
    refine uIN 47 hx hby d542 rfl rfl ?_
    refine uKc 48 (2 : Int32) hx hby d543 rfl rfl ?_
    refine uYc 78 hx hby d544 (feq (by decide)).2 (by decide) (by decide) ?_
    refine gnewO hx (ow hw 4 rfl) (ow hw 5 rfl) (ow hw 6 rfl) 81 (hb hby d563) rfl (by decide) (by decide) ?_
    intro b31 h31 g31 E31 C31 A31 D31 n31 L31
    have z31 := C31.2.1
    have lt_b31 : h31.size > b31 := A31.lt
    have F31_value : Fld Z h31 b31 c4_ "value" "[B" .null := D31 (Or.inr (ow hw 20 rfl)) (ty := (.array .byte)) (by decide)
    have F31_coder : Fld Z h31 b31 c4_ "coder" "B" (.int (0 : Int32)) := D31 (Or.inr (ow hw 21 rfl)) (ty := .byte) (by decide)
    refine uD 82 hx hby d564 rfl rfl ?_
    refine uKc 83 (3 : Int32) hx hby d565 rfl rfl ?_
    refine gnewPE hx (ow hw 7 rfl) (n := (3 : Int32)) (by decide) (cap := 3) (by decide) (by decide) (ad := "[C") (by decide) 85 (hb hby d566) rfl (by decide) (by decide) ?_
    intro b32 h32 k32 g32 E32 C32 V32 A32 n32 L32
    have z32 := C32.2.1
    have V32 : Arv Z h32 b32 k32 .char (3 : Int32) [(.int (0 : Int32)), (.int (0 : Int32)), (.int (0 : Int32))] (.int (0 : Int32)) := V32.pad (pad_rep [] (.int (0 : Int32)) 3)
    have lt_b32 : h32.size > b32 := V32.lt
    refine uD 86 hx hby d567 rfl rfl ?_
    refine uKc 87 (0 : Int32) hx hby d568 rfl rfl ?_
    refine uIN 88 hx hby d569 rfl rfl ?_
    refine uKc 89 (0 : Int32) hx hby d570 rfl rfl ?_
    refine ginfo fun _ _ O33 => ?_
    refine gcallS (y := mn509) hx (ow hw 230 rfl) (ow hw 231 rfl) (ow hw 2 rfl) (ow hw 232 rfl) (by decide) (fun hZ H hEL => Pay.of_met (W := 5) (own_chw l Z a0 cx [] (x) ((0 : Int32)) vm h32 O33 ) (ow hw 232 rfl) (ow hw 2 rfl) (by decide) (by decide) hZ H hEL) 92 (argsL := [(.int x), (.int (0 : Int32))]) (rest := [(.int (0 : Int32)), (.ref b32), (.ref b32), (.ref b31), (.ref b31)]) (lenOf own_pd538 rfl) rfl rfl (Nat.le_of_eq rfl) (by rw [hml]; rfl) (hb hby d571) rfl (by decide) (by decide) ?_
    rintro _ vm33 h33 C33 ⟨rfl, rfl⟩
    have z33 := C33.2.1
    refine gat1 ?_
    refine gstC hx V32 ⟨by decide, by decide⟩ (i := 0) rfl (Nat.le_of_ble_eq_true rfl) (y := (own_ch x (0 : Int32))) (own_narch _ _) n32 93 (hb hby d572) rfl ?_
    intro h34 W34 C34 V34
    have z34 := C34.2.1
    replace V34 : Arv Z h34 b32 k32 .char (3 : Int32) [(.int (own_ch x (0 : Int32))), (.int (0 : Int32)), (.int (0 : Int32))] (.int (0 : Int32)) := V34
    refine uD 94 hx hby d573 rfl rfl ?_
    refine uKc 95 (1 : Int32) hx hby d574 rfl rfl ?_
    refine uIN 96 hx hby d575 rfl rfl ?_
    refine uKc 97 (1 : Int32) hx hby d576 rfl rfl ?_
    refine ginfo fun _ _ O35 => ?_
    refine gcallS (y := mn509) hx (ow hw 230 rfl) (ow hw 231 rfl) (ow hw 2 rfl) (ow hw 232 rfl) (by decide) (fun hZ H hEL => Pay.of_met (W := 5) (own_chw l Z a0 cx [] (x) ((1 : Int32)) vm33 h34 O35 ) (ow hw 232 rfl) (ow hw 2 rfl) (by decide) (by decide) hZ H hEL) 100 (argsL := [(.int x), (.int (1 : Int32))]) (rest := [(.int (1 : Int32)), (.ref b32), (.ref b32), (.ref b31), (.ref b31)]) (lenOf own_pd538 rfl) rfl rfl (Nat.le_of_eq rfl) (by rw [hml]; rfl) (hb hby d577) rfl (by decide) (by decide) ?_
    rintro _ vm35 h35 C35 ⟨rfl, rfl⟩
    have z35 := C35.2.1
    refine gat1 ?_
    refine gstC hx V34 ⟨by decide, by decide⟩ (i := 1) rfl (Nat.le_of_ble_eq_true rfl) (y := (own_ch x (1 : Int32))) (own_narch _ _) n32 101 (hb hby d578) rfl ?_
    intro h36 W36 C36 V36
    have z36 := C36.2.1
    replace V36 : Arv Z h36 b32 k32 .char (3 : Int32) [(.int (own_ch x (0 : Int32))), (.int (own_ch x (1 : Int32))), (.int (0 : Int32))] (.int (0 : Int32)) := V36
    refine uD 102 hx hby d579 rfl rfl ?_
    refine uKc 103 (2 : Int32) hx hby d580 rfl rfl ?_
    refine uIN 104 hx hby d581 rfl rfl ?_
    refine uKc 105 (2 : Int32) hx hby d582 rfl rfl ?_
    refine ginfo fun _ _ O37 => ?_
    refine gcallS (y := mn509) hx (ow hw 230 rfl) (ow hw 231 rfl) (ow hw 2 rfl) (ow hw 232 rfl) (by decide) (fun hZ H hEL => Pay.of_met (W := 5) (own_chw l Z a0 cx [] (x) ((2 : Int32)) vm35 h36 O37 ) (ow hw 232 rfl) (ow hw 2 rfl) (by decide) (by decide) hZ H hEL) 108 (argsL := [(.int x), (.int (2 : Int32))]) (rest := [(.int (2 : Int32)), (.ref b32), (.ref b32), (.ref b31), (.ref b31)]) (lenOf own_pd538 rfl) rfl rfl (Nat.le_of_eq rfl) (by rw [hml]; rfl) (hb hby d583) rfl (by decide) (by decide) ?_
    rintro _ vm37 h37 C37 ⟨rfl, rfl⟩
    have z37 := C37.2.1
    refine gat1 ?_
    refine gstC hx V36 ⟨by decide, by decide⟩ (i := 2) rfl (Nat.le_of_ble_eq_true rfl) (y := (own_ch x (2 : Int32))) (own_narch _ _) n32 109 (hb hby d584) rfl ?_
    intro h38 W38 C38 V38
    have z38 := C38.2.1
    replace V38 : Arv Z h38 b32 k32 .char (3 : Int32) [(.int (own_ch x (0 : Int32))), (.int (own_ch x (1 : Int32))), (.int (own_ch x (2 : Int32)))] (.int (0 : Int32)) := V38
    have f40 := ((((A31.ext E32).wr W34).wr W36).wr W38)
    have f41 := ((((F31_value.ext E32).other W34 (Or.inl (Nat.ne_of_lt (by omega)))).other W36 (Or.inl (Nat.ne_of_lt (by omega)))).other W38 (Or.inl (Nat.ne_of_lt (by omega))))
    have f42 := ((((F31_coder.ext E32).other W34 (Or.inl (Nat.ne_of_lt (by omega)))).other W36 (Or.inl (Nat.ne_of_lt (by omega)))).other W38 (Or.inl (Nat.ne_of_lt (by omega))))
    have f43 := (C38.safe (show h36.size > b31 by omega) (C37.safe (show h36.size > b31 by omega) (C36.safe (show h34.size > b31 by omega) (C35.safe (show h34.size > b31 by omega) (C34.safe (show h32.size > b31 by omega) (C33.safe (show h32.size > b31 by omega) (C32.safe (show h31.size > b31 by omega) L31)))))))
    refine ginfo fun _ _ O39 => ?_
    refine gcallI (y := mn24) hx rfl (ow hw 8 rfl) (ow hw 9 rfl) (ow hw 10 rfl) (by decide) (fun hZ H hEL => own_payNew (W := 1) (own_wNew hw) (ow hw 5 rfl) Scs hzc O39 (cs := [(own_ch x (0 : Int32)), (own_ch x (1 : Int32)), (own_ch x (2 : Int32))]) (n := 3) n31 f40 f41 f42 V38 rfl rfl (by decide) (by decide) (bcons (own_chB _ _) (bcons (own_chB _ _) (bcons (own_chB _ _) bnil))) f43 (by decide) (by decide) hZ H hEL) (a := b31) 112 (argsL := [(.ref b32)]) (rest := [(.ref b31)]) (lenOf own_pd524 rfl) rfl rfl (Nat.le_of_eq rfl) (by rw [hml]; rfl) (hb hby d585) rfl (by decide) (by decide) ?_
    rintro _ vm39 h39 C39 ⟨t39, rfl, K39, g39, S39⟩
    have z39 := C39.2.1
    have lt_t39 : h39.size > t39 := S39.tlt
    refine gat0 ?_
    exact gretA hx hret rfl rfl (hb hby d586) (by decide) (by decide) (fun vq Cq => ⟨b31, t39, rfl, (((((((Keep.refl h0 []).ext E31).ext E32).wr W34 (Or.inr (by omega))).wr W36 (Or.inr (by omega))).wr W38 (Or.inr (by omega))).trans K39 (allS (Or.inr (by omega)) all0)), (by omega), (by rw [own_id3 q]; exact S39)⟩)
theorem d588 : decode y37_ 0 = .ok (.aload_n 0, 1) := by decide +kernel
theorem d589 : decode y37_ 1 = .ok (.invokespecial 1, 3) := by decide +kernel
theorem d590 : decode y37_ 4 = .ok (.aload_n 0, 1) := by decide +kernel
theorem d591 : decode y37_ 5 = .ok (.aload_n 1, 1) := by decide +kernel
theorem d592 : decode y37_ 6 = .ok (.ldc 7, 2) := by decide +kernel
theorem d593 : decode y37_ 8 = .ok (.invokestatic 9, 3) := by decide +kernel
theorem own_pd594 : parseMethodDescriptor "(Ljava/lang/Object;Ljava/lang/String;)Ljava/lang/Object;" = some ⟨[(.object "java/lang/Object"), (.object "java/lang/String")], some (.object "java/lang/Object")⟩ := by decide +kernel
theorem d595 : decode y37_ 11 = .ok (.checkcast 15, 3) := by decide +kernel
theorem d596 : decode y37_ 14 = .ok (.putfield 17, 3) := by decide +kernel
theorem d597 : decode y37_ 17 = .ok (.return_, 1) := by decide +kernel
abbrev mn598 : MethodName := ⟨"com/example/limentinus/limentinus/core/KeyLayout", "<init>", "(Ljava/lang/String;)V"⟩
theorem own_pn599 : plainName "com/example/limentinus/limentinus/core/KeyLayout" = true := by first | (simp [plainName, overriddenIn]; done) | decide +kernel
theorem own_klinit (l : Launch) (Z : State) (a0 : Array Value) (cx : Ctx Z a0) (ws : List Jvm.Cond) (x : Addr) (y : Addr) (u : Value) (t : Addr) (cs : List Int32) (vm0 : Vm) (h0 : Heap) (X00 : Ext Z.heap h0) (P0 : Exa Z h0 x c1_) (P1 : Fld Z h0 x c1_ "prefix" c0_ u) (P2 : Z.heap.size ≤ x) (P3 : Str Z h0 y t cs) :
    Met l mn598 y37_ 2 none ws ({ frames := 1, cells := 2, slots := 28, locals := 14 } : Room) Z consts_1 vm0 h0 #[(.ref x), (.ref y)] (fun rv vm h => rv = none ∧ Keep h0 h [x] ∧ Fld Z h x c1_ "prefix" c0_ (.ref y)) := by
  obtain ⟨hw, hEL, ⟨zc, Scs, hzc⟩, ⟨fm, Sfm, hfm⟩, ⟨fe, ft, tt, Sfe, Efe, Fft, Sft⟩, hI0⟩ := id cx
  have hSA := own_SA hw
  refine Met.of_walk (a0 := a0) #[vr x, vr y] (plainFor_of_name own_pn599) X00 hEL (fun m => by first | (simp [entryFrame, mkF, argsToLocals, Value.category]; done) | rfl) ?_
  intro p e s m below meth c vm hx hby hml hret hnm hC0 hW0
  have lt_x : h0.size > x := P0.lt
  have lt_y : h0.size > y := P3.1.lt
  have lt_t : h0.size > t := P3.tlt
  refine uAN 1 hx hby d588 rfl rfl rfl ?_
  refine ginitO hx (ow hw 32 rfl) (ow hw 16 rfl) (ow hw 17 rfl) 4 (W := 0) (Nat.le_of_eq rfl) (by rw [hml]; rfl) (hb hby d589) rfl (by decide) (by decide) ?_
  refine uAN 5 hx hby d590 rfl rfl rfl ?_
  refine uAN 6 hx hby d591 rfl rfl rfl ?_
  refine gldcO hx (ow hw 33 rfl) hSA (n := 24) (by decide) (by decide) 8 (hb hby d592) rfl (by decide) (by decide) ?_
  intro b2 vm2 h2 E2 C2
  have z2 := C2.2.1
  refine ginfo fun _ _ O3 => ?_
  refine gcallS (y := mn29) hx (ow hw 34 rfl) (ow hw 35 rfl) (ow hw 36 rfl) (ow hw 37 rfl) (by decide) (fun hZ H hEL => Pay.of_met (W := 1) (own_require2 l Z a0 cx [] (y) (b2) vm2 h2 O3 ) (ow hw 37 rfl) (ow hw 36 rfl) (by decide) (by decide) hZ H hEL) 11 (argsL := [(.ref y), (.ref b2)]) (rest := [(.ref x)]) (lenOf own_pd594 rfl) rfl rfl (Nat.le_of_eq rfl) (by rw [hml]; rfl) (hb hby d593) rfl (by decide) (by decide) ?_
  rintro _ vm3 h3 C3 ⟨rfl, rfl⟩
  have z3 := C3.2.1
  refine gat1 ?_
  refine gcast hx (ow hw 38 rfl) (Ins.self (P3.1.ext E2)) 14 (hb hby d595) rfl ?_
  have f4 := (P1.ext E2)
  have f5 := (P0.ext E2)
  refine gputF (host := "") hx (Or.inl (ow hw 39 rfl)) Via.refl f4 f5 (Or.inr ⟨(ow hw 40 rfl), rfl, hnm⟩) (ow hw 27 rfl) (ty := (.object c4_)) (by decide) rfl rfl P2 (fun al => Safe.exa al f5 (by decide) (by decide)) 17 (hb hby d596) rfl ?_
  intro h6 W6 C6
  have z6 := C6.2.1
  have F6 := f4.same W6
  exact gretV hx hret (hb hby d597) (by decide) (by decide) (fun vq Cq => ⟨rfl, (((Keep.refl h0 [x]).ext E2).wr W6 (Or.inl (List.mem_of_getElem? (i := 0) rfl))), F6⟩)
theorem d600 : decode y38_ 0 = .ok (.new 22, 3) := by decide +kernel
theorem d601 : decode y38_ 3 = .ok (.dup, 1) := by decide +kernel
theorem d602 : decode y38_ 4 = .ok (.invokespecial 24, 3) := by decide +kernel
theorem own_pd603 : parseMethodDescriptor "()V" = some ⟨[], none⟩ := by decide +kernel
theorem d604 : decode y38_ 7 = .ok (.aload_n 0, 1) := by decide +kernel
theorem d605 : decode y38_ 8 = .ok (.getfield 17, 3) := by decide +kernel
theorem d606 : decode y38_ 11 = .ok (.invokevirtual 25, 3) := by decide +kernel
theorem own_pd607 : parseMethodDescriptor "(Ljava/lang/String;)Ljava/lang/StringBuilder;" = some ⟨[(.object "java/lang/String")], some (.object "java/lang/StringBuilder")⟩ := by decide +kernel
theorem d608 : decode y38_ 14 = .ok (.aload_n 1, 1) := by decide +kernel
theorem d609 : decode y38_ 15 = .ok (.invokevirtual 25, 3) := by decide +kernel
theorem d610 : decode y38_ 18 = .ok (.invokevirtual 29, 3) := by decide +kernel
theorem own_pd611 : parseMethodDescriptor "()Ljava/lang/String;" = some ⟨[], some (.object "java/lang/String")⟩ := by decide +kernel
theorem d612 : decode y38_ 21 = .ok (.areturn, 1) := by decide +kernel
abbrev mn613 : MethodName := ⟨"com/example/limentinus/limentinus/core/KeyLayout", "key", "(Ljava/lang/String;)Ljava/lang/String;"⟩
theorem own_key (l : Launch) (Z : State) (a0 : Array Value) (cx : Ctx Z a0) (ws : List Jvm.Cond) (x : Addr) (y : Addr) (pf : Addr) (t1 : Addr) (ca : List Int32) (t2 : Addr) (cb : List Int32) (vm0 : Vm) (h0 : Heap) (X00 : Ext Z.heap h0) (P0 : Fld Z h0 x c1_ "prefix" c0_ (.ref pf)) (P1 : Str Z h0 pf t1 ca) (P2 : Str Z h0 y t2 cb) (h1 : (ca.length ≤ 3)) (h2 : (cb.length ≤ 3)) :
    Met l mn613 y38_ 2 (some (.object c4_)) ws ({ frames := 6, cells := 4, slots := 56, locals := 91 } : Room) Z consts_1 vm0 h0 #[(.ref x), (.ref y)] (fun rv vm h => ∃ (r : Addr), ∃ (t : Addr), rv = some (.ref r) ∧ Keep h0 h [] ∧ h0.size ≤ t ∧ Str Z h r t (ca ++ cb)) := by
  obtain ⟨hw, hEL, ⟨zc, Scs, hzc⟩, ⟨fm, Sfm, hfm⟩, ⟨fe, ft, tt, Sfe, Efe, Fft, Sft⟩, hI0⟩ := id cx
  have hSA := own_SA hw
  refine Met.of_walk (a0 := a0) #[vr x, vr y] (plainFor_of_name own_pn599) X00 hEL (fun m => by first | (simp [entryFrame, mkF, argsToLocals, Value.category]; done) | rfl) ?_
  intro p e s m below meth c vm hx hby hml hret hnm hC0 hW0
  have lt_x : h0.size > x := P0.lt
  have lt_pf : h0.size > pf := P1.1.lt
  have lt_t1 : h0.size > t1 := P1.tlt
  have lt_y : h0.size > y := P2.1.lt
  have lt_t2 : h0.size > t2 := P2.tlt
  refine gnewO hx (ow hw 46 rfl) (ow hw 47 rfl) (ow hw 48 rfl) 3 (hb hby d600) rfl (by decide) (by decide) ?_
  intro b1 h1 g1 E1 C1 A1 D1 n1 L1
  have z1 := C1.2.1
  have lt_b1 : h1.size > b1 := A1.lt
  have F1_value : Fld Z h1 b1 c2_ "value" "[B" .null := D1 (Or.inl (ow hw 61 rfl)) (ty := (.array .byte)) (by decide)
  have F1_coder : Fld Z h1 b1 c2_ "coder" "B" (.int (0 : Int32)) := D1 (Or.inl (ow hw 63 rfl)) (ty := .byte) (by decide)
  have F1_count : Fld Z h1 b1 c2_ "count" "I" (.int (0 : Int32)) := D1 (Or.inl (ow hw 91 rfl)) (ty := .int) (by decide)
  refine uD 4 hx hby d601 rfl rfl ?_
  refine ginfo fun _ _ O2 => ?_
  refine gcallI (y := mn51) hx rfl (ow hw 49 rfl) (ow hw 50 rfl) (ow hw 51 rfl) (by decide) (fun hZ H hEL => Pay.of_met (W := 1) (own_sbinit l Z a0 cx [] (b1) (.null) ((.int (0 : Int32))) vm h1 O2 A1 F1_value F1_coder F1_count n1) (ow hw 51 rfl) (ow hw 48 rfl) (by decide) (by decide) hZ H hEL) (a := b1) 7 (argsL := []) (rest := [(.ref b1)]) (lenOf own_pd603 rfl) rfl rfl (Nat.le_of_eq rfl) (by rw [hml]; rfl) (hb hby d602) rfl (by decide) (by decide) ?_
  rintro _ vm2 h2 C2 ⟨v2, rfl, K2, q2_0, q2_1, q2_2, q2_3, q2_4⟩
  have z2 := C2.2.1
  have lt_v2 : h2.size > v2 := q2_0.vlt
  refine gat0 ?_
  refine uAN 8 hx hby d604 rfl rfl rfl ?_
  have f3 := ((P0.ext E1).keep K2 (ninS (Nat.ne_of_lt (by omega)) nin0))
  refine ggetF (host := "") hx (Or.inl (ow hw 39 rfl)) Via.refl f3 11 (hb hby d605) rfl ?_
  have f5 := ((P1.ext E1).keep K2 (ninS (Nat.ne_of_lt (by omega)) nin0) (ninS (Nat.ne_of_lt (by omega)) nin0))
  refine ginfo fun _ _ O4 => ?_
  have f6 := (A1.keep K2)
  refine gcallV (y := mn150) (z := mn150) hx (ow hw 69 rfl) (ow hw 70 rfl) (nfSel (ow hw 72 rfl)) (ow hw 72 rfl) (ow hw 71 rfl) (by decide) (fun hZ H hEL => Pay.of_met (W := 0) (own_sbappend l Z a0 cx [] (b1) (pf) (v2) (16) (([] : List Int32)) (t1) (ca) vm2 h2 O4 q2_0 f5 n1 q2_2 q2_3 (by simp only [List.length_append, List.length_nil, List.length_cons]; omega) (Nat.ne_of_gt (by omega))) (ow hw 73 rfl) (ow hw 48 rfl) (by decide) (by decide) hZ H hEL) 14 (argsL := [(.ref pf)]) (rest := []) f6 (lenOf own_pd607 rfl) rfl rfl (Nat.le_of_eq rfl) (by rw [hml]; rfl) (hb hby d606) rfl (by decide) (by decide) ?_
  rintro _ vm4 h4 C4 ⟨rfl, K4, q4_0, q4_1⟩
  have z4 := C4.2.1
  refine gat1 ?_
  refine uAN 15 hx hby d608 rfl rfl rfl ?_
  have f8 := (((P2.ext E1).keep K2 (ninS (Nat.ne_of_lt (by omega)) nin0) (ninS (Nat.ne_of_lt (by omega)) nin0)).keep K4 (ninS (Nat.ne_of_lt (by omega)) (ninS (Nat.ne_of_lt (by omega)) nin0)) (ninS (Nat.ne_of_lt (by omega)) (ninS (Nat.ne_of_lt (by omega)) nin0)))
  refine ginfo fun _ _ O7 => ?_
  have f9 := (f6.keep K4)
  refine gcallV (y := mn150) (z := mn150) hx (ow hw 69 rfl) (ow hw 70 rfl) (nfSel (ow hw 72 rfl)) (ow hw 72 rfl) (ow hw 71 rfl) (by decide) (fun hZ H hEL => Pay.of_met (W := 0) (own_sbappend l Z a0 cx [] (b1) (y) (v2) (16) ((([] : List Int32) ++ ca)) (t2) (cb) vm4 h4 O7 q4_0 f8 n1 q2_2 q4_1 (by simp only [List.length_append, List.length_nil, List.length_cons]; omega) (Nat.ne_of_gt (by omega))) (ow hw 73 rfl) (ow hw 48 rfl) (by decide) (by decide) hZ H hEL) 18 (argsL := [(.ref y)]) (rest := []) f9 (lenOf own_pd607 rfl) rfl rfl (Nat.le_of_eq rfl) (by rw [hml]; rfl) (hb hby d609) rfl (by decide) (by decide) ?_
  rintro _ vm7 h7 C7 ⟨rfl, K7, q7_0, q7_1⟩
  have z7 := C7.2.1
  refine gat1 ?_
  have f11 := ((q2_4.keep K4).keep K7)
  refine ginfo fun _ _ O10 => ?_
  have f12 := (f9.keep K7)
  refine gcallV (y := mn266) (z := mn266) hx (ow hw 117 rfl) (ow hw 118 rfl) (nfSel (ow hw 120 rfl)) (ow hw 120 rfl) (ow hw 119 rfl) (by decide) (fun hZ H hEL => Pay.of_met (W := 0) (own_sbtostring l Z a0 cx [] (b1) (v2) (16) (((([] : List Int32) ++ ca) ++ cb)) vm7 h7 O10 q7_0 (by simp only [List.length_append, List.length_nil, List.length_cons]; omega) (by simp only [List.length_append, List.length_nil, List.length_cons]; omega) f11) (ow hw 121 rfl) (ow hw 48 rfl) (by decide) (by decide) hZ H hEL) 21 (argsL := []) (rest := []) f12 (lenOf own_pd611 rfl) rfl rfl (Nat.le_of_eq rfl) (by rw [hml]; rfl) (hb hby d610) rfl (by decide) (by decide) ?_
  rintro _ vm10 h10 C10 ⟨r10, t10, rfl, K10, q10_0, q10_1, q10_2⟩
  have z10 := C10.2.1
  have lt_r10 : h10.size > r10 := q10_2.1.lt
  have lt_t10 : h10.size > t10 := q10_2.tlt
  refine gat1 ?_
  exact gretA hx hret rfl rfl (hb hby d612) (by decide) (by decide) (fun vq Cq => ⟨r10, t10, rfl, ((((((Keep.refl h0 []).ext E1).trans K2 (allS (Or.inr (by omega)) all0)).trans K4 (allS (Or.inr (by omega)) (allS (Or.inr (by omega)) all0))).trans K7 (allS (Or.inr (by omega)) (allS (Or.inr (by omega)) all0))).trans K10 all0), (by omega), (by have q := q10_2; rw [List.nil_append] at q; exact q)⟩)
def own_pre (a b : List Int32) : List Int32 := a ++ b ++ [(58 : Int32), (112 : Int32), (101 : Int32), (114 : Int32), (109 : Int32), (105 : Int32), (116 : Int32), (58 : Int32)]
theorem d614 : decode y39_ 0 = .ok (.new 22, 3) := by decide +kernel
theorem d615 : decode y39_ 3 = .ok (.dup, 1) := by decide +kernel
theorem d616 : decode y39_ 4 = .ok (.invokespecial 24, 3) := by decide +kernel
theorem d617 : decode y39_ 7 = .ok (.aload_n 0, 1) := by decide +kernel
theorem d618 : decode y39_ 8 = .ok (.aload_n 1, 1) := by decide +kernel
theorem d619 : decode y39_ 9 = .ok (.invokevirtual 33, 3) := by decide +kernel
theorem own_pd620 : parseMethodDescriptor "(Ljava/lang/String;)Ljava/lang/String;" = some ⟨[(.object "java/lang/String")], some (.object "java/lang/String")⟩ := by decide +kernel
theorem d621 : decode y39_ 12 = .ok (.invokevirtual 25, 3) := by decide +kernel
theorem d622 : decode y39_ 15 = .ok (.getstatic 46, 3) := by decide +kernel
theorem d623 : decode y39_ 18 = .ok (.getfield 43, 3) := by decide +kernel
theorem d624 : decode y39_ 21 = .ok (.invokevirtual 25, 3) := by decide +kernel
theorem d625 : decode y39_ 24 = .ok (.iload_n 2, 1) := by decide +kernel
theorem d626 : decode y39_ 25 = .ok (.invokevirtual 49, 3) := by decide +kernel
theorem own_pd627 : parseMethodDescriptor "(I)Ljava/lang/StringBuilder;" = some ⟨[.int], some (.object "java/lang/StringBuilder")⟩ := by decide +kernel
theorem d628 : decode y39_ 28 = .ok (.invokevirtual 29, 3) := by decide +kernel
theorem d629 : decode y39_ 31 = .ok (.areturn, 1) := by decide +kernel
abbrev mn630 : MethodName := ⟨"com/example/limentinus/limentinus/core/KeyLayout", "permitKey", "(Ljava/lang/String;I)Ljava/lang/String;"⟩
theorem own_permit (l : Launch) (Z : State) (a0 : Array Value) (cx : Ctx Z a0) (ws : List Jvm.Cond) (x : Addr) (y : Addr) (pf : Addr) (t1 : Addr) (ca : List Int32) (t2 : Addr) (cb : List Int32) (n : Int32) (vm0 : Vm) (h0 : Heap) (X00 : Ext Z.heap h0) (P0 : Exa Z h0 x c1_) (P1 : Fld Z h0 x c1_ "prefix" c0_ (.ref pf)) (P2 : Str Z h0 pf t1 ca) (P3 : Str Z h0 y t2 cb) (h1 : (ca.length ≤ 3)) (h2 : (cb.length ≤ 3)) :
    Met l mn630 y39_ 3 (some (.object c4_)) ws ({ frames := 7, cells := 9, slots := 146, locals := 105 } : Room) Z consts_1 vm0 h0 #[(.ref x), (.ref y), (.int n)] (fun rv vm h => ∃ (r : Addr), ∃ (t : Addr), rv = some (.ref r) ∧ Keep h0 h [] ∧ h0.size ≤ r ∧ Str Z h r t ((own_pre ca cb) ++ own_dec n)) := by
  obtain ⟨hw, hEL, ⟨zc, Scs, hzc⟩, ⟨fm, Sfm, hfm⟩, ⟨fe, ft, tt, Sfe, Efe, Fft, Sft⟩, hI0⟩ := id cx
  have hSA := own_SA hw
  refine Met.of_walk (a0 := a0) #[vr x, vr y, vi n] (plainFor_of_name own_pn599) X00 hEL (fun m => by first | (simp [entryFrame, mkF, argsToLocals, Value.category]; done) | rfl) ?_
  intro p e s m below meth c vm hx hby hml hret hnm hC0 hW0
  have lt_x : h0.size > x := P0.lt
  have lt_pf : h0.size > pf := P2.1.lt
  have lt_t1 : h0.size > t1 := P2.tlt
  have lt_y : h0.size > y := P3.1.lt
  have lt_t2 : h0.size > t2 := P3.tlt
  have hD2 := own_dec_le n
  refine gnewO hx (ow hw 46 rfl) (ow hw 47 rfl) (ow hw 48 rfl) 3 (hb hby d614) rfl (by decide) (by decide) ?_
  intro b1 h1 g1 E1 C1 A1 D1 n1 L1
  have z1 := C1.2.1
  have lt_b1 : h1.size > b1 := A1.lt
  have F1_value : Fld Z h1 b1 c2_ "value" "[B" .null := D1 (Or.inl (ow hw 61 rfl)) (ty := (.array .byte)) (by decide)
  have F1_coder : Fld Z h1 b1 c2_ "coder" "B" (.int (0 : Int32)) := D1 (Or.inl (ow hw 63 rfl)) (ty := .byte) (by decide)
  have F1_count : Fld Z h1 b1 c2_ "count" "I" (.int (0 : Int32)) := D1 (Or.inl (ow hw 91 rfl)) (ty := .int) (by decide)
  refine uD 4 hx hby d615 rfl rfl ?_
  refine ginfo fun _ _ O2 => ?_
  refine gcallI (y := mn51) hx rfl (ow hw 49 rfl) (ow hw 50 rfl) (ow hw 51 rfl) (by decide) (fun hZ H hEL => Pay.of_met (W := 1) (own_sbinit l Z a0 cx [] (b1) (.null) ((.int (0 : Int32))) vm h1 O2 A1 F1_value F1_coder F1_count n1) (ow hw 51 rfl) (ow hw 48 rfl) (by decide) (by decide) hZ H hEL) (a := b1) 7 (argsL := []) (rest := [(.ref b1)]) (lenOf own_pd603 rfl) rfl rfl (Nat.le_of_eq rfl) (by rw [hml]; rfl) (hb hby d616) rfl (by decide) (by decide) ?_
  rintro _ vm2 h2 C2 ⟨v2, rfl, K2, q2_0, q2_1, q2_2, q2_3, q2_4⟩
  have z2 := C2.2.1
  have lt_v2 : h2.size > v2 := q2_0.vlt
  refine gat0 ?_
  refine uAN 8 hx hby d617 rfl rfl rfl ?_
  refine uAN 9 hx hby d618 rfl rfl rfl ?_
  have f4 := ((P1.ext E1).keep K2 (ninS (Nat.ne_of_lt (by omega)) nin0))
  have f5 := ((P2.ext E1).keep K2 (ninS (Nat.ne_of_lt (by omega)) nin0) (ninS (Nat.ne_of_lt (by omega)) nin0))
  have f6 := ((P3.ext E1).keep K2 (ninS (Nat.ne_of_lt (by omega)) nin0) (ninS (Nat.ne_of_lt (by omega)) nin0))
  refine ginfo fun _ _ O3 => ?_
  have f7 := ((P0.ext E1).keep K2)
  refine gcallV (y := mn613) (z := mn613) hx (ow hw 64 rfl) (ow hw 65 rfl) (nfSel (ow hw 67 rfl)) (ow hw 67 rfl) (ow hw 66 rfl) (by decide) (fun hZ H hEL => Pay.of_met (W := 1) (own_key l Z a0 cx [] (x) (y) (pf) (t1) (ca) (t2) (cb) vm2 h2 O3 f4 f5 f6 (by first | assumption | decide | omega) (by first | assumption | decide | omega)) (ow hw 68 rfl) (ow hw 28 rfl) (by decide) (by decide) hZ H hEL) 12 (argsL := [(.ref y)]) (rest := [(.ref b1)]) f7 (lenOf own_pd620 rfl) rfl rfl (Nat.le_of_eq rfl) (by rw [hml]; rfl) (hb hby d619) rfl (by decide) (by decide) ?_
  rintro _ vm3 h3 C3 ⟨r3, t3, rfl, K3, q3_0, q3_1⟩
  have z3 := C3.2.1
  have lt_r3 : h3.size > r3 := q3_1.1.lt
  have lt_t3 : h3.size > t3 := q3_1.tlt
  refine gat1 ?_
  have f9 := (q2_0.keep K3 nin0 nin0)
  have f10 := (C3.safe (show h2.size > v2 by omega) q2_3)
  refine ginfo fun _ _ O8 => ?_
  have f11 := ((A1.keep K2).keep K3)
  refine gcallV (y := mn150) (z := mn150) hx (ow hw 69 rfl) (ow hw 70 rfl) (nfSel (ow hw 72 rfl)) (ow hw 72 rfl) (ow hw 71 rfl) (by decide) (fun hZ H hEL => Pay.of_met (W := 0) (own_sbappend l Z a0 cx [] (b1) (r3) (v2) (16) (([] : List Int32)) (t3) ((ca ++ cb)) vm3 h3 O8 f9 q3_1 n1 q2_2 f10 (by simp only [List.length_append, List.length_nil, List.length_cons]; omega) (Nat.ne_of_lt (by omega))) (ow hw 73 rfl) (ow hw 48 rfl) (by decide) (by decide) hZ H hEL) 15 (argsL := [(.ref r3)]) (rest := []) f11 (lenOf own_pd607 rfl) rfl rfl (Nat.le_of_eq rfl) (by rw [hml]; rfl) (hb hby d621) rfl (by decide) (by decide) ?_
  rintro _ vm8 h8 C8 ⟨rfl, K8, q8_0, q8_1⟩
  have z8 := C8.2.1
  refine gat1 ?_
  refine ginfo fun _ _ O12 => ?_
  have Fx12 := Fft.ext O12
  have Sx12 := Sft.ext O12
  have lt_fe : h8.size > fe := Fx12.lt
  have lt_ft : h8.size > ft := Sx12.1.lt
  have lt_tt : h8.size > tt := Sx12.tlt
  have lo_tt : Z.heap.size > tt := Sft.tlt
  refine ggetS (host := "") hx (Or.inl (ow hw 162 rfl)) Via.refl Sfe 18 (hb hby d622) rfl ?_
  refine ggetFR hx (ow hw 165 rfl) Via.refl Fx12 21 (hb hby d623) rfl ?_
  refine ginfo fun _ _ O13 => ?_
  have f14 := (f11.keep K8)
  refine gcallV (y := mn150) (z := mn150) hx (ow hw 69 rfl) (ow hw 70 rfl) (nfSel (ow hw 72 rfl)) (ow hw 72 rfl) (ow hw 71 rfl) (by decide) (fun hZ H hEL => Pay.of_met (W := 0) (own_sbappend l Z a0 cx [] (b1) (ft) (v2) (16) ((([] : List Int32) ++ (ca ++ cb))) (tt) ([(58 : Int32), (112 : Int32), (101 : Int32), (114 : Int32), (109 : Int32), (105 : Int32), (116 : Int32), (58 : Int32)]) vm8 h8 O13 q8_0 Sx12 n1 q2_2 q8_1 (by simp only [List.length_append, List.length_nil, List.length_cons]; omega) (Nat.ne_of_gt (by omega))) (ow hw 73 rfl) (ow hw 48 rfl) (by decide) (by decide) hZ H hEL) 24 (argsL := [(.ref ft)]) (rest := []) f14 (lenOf own_pd607 rfl) rfl rfl (Nat.le_of_eq rfl) (by rw [hml]; rfl) (hb hby d624) rfl (by decide) (by decide) ?_
  rintro _ vm13 h13 C13 ⟨rfl, K13, q13_0, q13_1⟩
  have z13 := C13.2.1
  refine gat1 ?_
  refine uIN 25 hx hby d625 rfl rfl ?_
  have f16 := (((q2_4.keep K3).keep K8).keep K13)
  refine ginfo fun _ _ O15 => ?_
  have f17 := (f14.keep K13)
  refine gcallV (y := mn499) (z := mn499) hx (ow hw 167 rfl) (ow hw 168 rfl) (nfSel (ow hw 170 rfl)) (ow hw 170 rfl) (ow hw 169 rfl) (by decide) (fun hZ H hEL => Pay.of_met (W := 0) (own_sbI l Z a0 cx [] (b1) (n) (v2) (((([] : List Int32) ++ (ca ++ cb)) ++ [(58 : Int32), (112 : Int32), (101 : Int32), (114 : Int32), (109 : Int32), (105 : Int32), (116 : Int32), (58 : Int32)])) vm13 h13 O15 q13_0 n1 q2_2 q13_1 (by simp only [List.length_append, List.length_nil, List.length_cons]; omega) f16) (ow hw 171 rfl) (ow hw 48 rfl) (by decide) (by decide) hZ H hEL) 28 (argsL := [(.int n)]) (rest := []) f17 (lenOf own_pd627 rfl) rfl rfl (Nat.le_of_eq rfl) (by rw [hml]; rfl) (hb hby d626) rfl (by decide) (by decide) ?_
  rintro _ vm15 h15 C15 ⟨w15, cap15, rfl, K15, q15_0, q15_1, q15_2⟩
  have z15 := C15.2.1
  have lt_w15 : h15.size > w15 := q15_0.vlt
  refine gat1 ?_
  refine ginfo fun _ _ O18 => ?_
  have f19 := (f17.keep K15)
  refine gcallV (y := mn266) (z := mn266) hx (ow hw 117 rfl) (ow hw 118 rfl) (nfSel (ow hw 120 rfl)) (ow hw 120 rfl) (ow hw 119 rfl) (by decide) (fun hZ H hEL => Pay.of_met (W := 0) (own_sbtostring l Z a0 cx [] (b1) (w15) (cap15) ((((([] : List Int32) ++ (ca ++ cb)) ++ [(58 : Int32), (112 : Int32), (101 : Int32), (114 : Int32), (109 : Int32), (105 : Int32), (116 : Int32), (58 : Int32)]) ++ (own_dec n))) vm15 h15 O18 q15_0 q15_2 (by simp only [List.length_append, List.length_nil, List.length_cons]; omega) q15_1) (ow hw 121 rfl) (ow hw 48 rfl) (by decide) (by decide) hZ H hEL) 31 (argsL := []) (rest := []) f19 (lenOf own_pd611 rfl) rfl rfl (Nat.le_of_eq rfl) (by rw [hml]; rfl) (hb hby d628) rfl (by decide) (by decide) ?_
  rintro _ vm18 h18 C18 ⟨r18, t18, rfl, K18, q18_0, q18_1, q18_2⟩
  have z18 := C18.2.1
  have lt_r18 : h18.size > r18 := q18_2.1.lt
  have lt_t18 : h18.size > t18 := q18_2.tlt
  refine gat1 ?_
  exact gretA hx hret rfl rfl (hb hby d629) (by decide) (by decide) (fun vq Cq => ⟨r18, t18, rfl, ((((((((Keep.refl h0 []).ext E1).trans K2 (allS (Or.inr (by omega)) all0)).trans K3 all0).trans K8 (allS (Or.inr (by omega)) (allS (Or.inr (by omega)) all0))).trans K13 (allS (Or.inr (by omega)) (allS (Or.inr (by omega)) all0))).trans K15 (allS (Or.inr (by omega)) (allS (Or.inr (by omega)) all0))).trans K18 all0), (by omega), (by have q := q18_2; rw [List.nil_append] at q; exact q)⟩)
def own_ca (k : Nat) (ds : List Int32) : List Value := ds.map Value.int ++ List.replicate (k - ds.length) (.int (0 : Int32))
theorem own_cal {k : Nat} {ds : List Int32} (h : ds.length ≤ k) : (own_ca k ds).length = k := by rw [own_ca, List.length_append, List.length_map, List.length_replicate]; omega
theorem own_ca0 (k : Nat) : List.replicate k (Value.int (0 : Int32)) = own_ca k [] := by rw [own_ca]; simp
theorem own_ca1 {k : Nat} {ds : List Int32} {c : Int32} (h : ds.length < k) : (own_ca k ds).set ds.length (.int c) = own_ca k (ds ++ [c]) := by
  obtain ⟨j, hj⟩ : ∃ j, k - ds.length = j + 1 := ⟨k - ds.length - 1, by omega⟩
  rw [own_ca, own_ca, List.set_append_right _ _ (by rw [List.length_map]; exact Nat.le_refl _), List.length_map, Nat.sub_self, hj, List.length_append, List.map_append, List.append_assoc, show k - (ds.length + [c].length) = j by simp; omega]
  rfl
theorem own_cag {k : Nat} {ds : List Int32} {q : Nat} (h : q < ds.length) : (own_ca k ds).getD q (.int (0 : Int32)) = .int (ds.getD q 0) := by
  rw [own_ca, List.getD_eq_getElem?_getD, List.getElem?_append_left (by rw [List.length_map]; exact h), List.getElem?_map, List.getD_eq_getElem?_getD, List.getElem?_eq_getElem h]; rfl
theorem own_add1 {a : Nat} (h2 : a ≤ 3000) : Int32.ofNat a + (1 : Int32) = Int32.ofNat (a + 1) := addOf (b := 1) (by omega)
theorem own_len1 {ds : List Int32} {c : Int32} (h : ds.length ≤ 3000) : Int32.ofNat ds.length + (1 : Int32) = Int32.ofNat (ds ++ [c]).length := by rw [own_add1 h, List.length_append]; rfl
theorem own_j64 {n : Nat} (h : n < 2 ^ 63) : (Int64.ofNat n).toInt = n := Int64.toInt_ofNat_of_lt h
theorem own_jbm {x : Int} (h1 : -2 ^ 63 ≤ x) (h2 : x < 2 ^ 63) : x.bmod (2 ^ 64) = x := Int.bmod_eq_of_le (by omega) (by omega)
theorem own_i2j (x : Int32) : x.toInt64.toInt = x.toInt := Int32.toInt_toInt64 x
theorem own_lcj {n : Nat} (hn : n ≤ 2 ^ 31) (k : Nat) (hk : k ≤ 2 ^ 31) (z : Int64) (hz : z = Int64.ofNat k) : lcmpW (Int64.ofNat n) z < (0 : Int32) ↔ n < k := by
  subst hz
  rw [lw_lt, Int64.lt_iff_toInt_lt, own_j64 (by omega), own_j64 (by omega)]; omega
theorem own_jabs1 {x : Int32} (h : lcmpW x.toInt64 (0 : Int64) < (0 : Int32)) : -x.toInt64 = Int64.ofNat (own_abs x) ∧ x < 0 := by
  have e0 : (0 : Int64).toInt = 0 := rfl
  have f0 : (0 : Int32).toInt = 0 := rfl
  rw [lw_lt, Int64.lt_iff_toInt_lt, e0, own_i2j] at h
  have r := rng32 x
  have l := own_abs_le x
  refine ⟨?_, by rw [Int32.lt_iff_toInt_lt, f0]; exact h⟩
  apply Int64.toInt_inj.mp
  rw [Int64.toInt_neg, own_i2j, own_j64 (by omega), own_jbm (by omega) (by omega)]; unfold own_abs; omega
theorem own_jabs2 {x : Int32} (h : ¬ lcmpW x.toInt64 (0 : Int64) < (0 : Int32)) : x.toInt64 = Int64.ofNat (own_abs x) ∧ ¬ x < 0 := by
  have e0 : (0 : Int64).toInt = 0 := rfl
  have f0 : (0 : Int32).toInt = 0 := rfl
  rw [lw_lt, Int64.lt_iff_toInt_lt, e0, own_i2j] at h
  have r := rng32 x
  have l := own_abs_le x
  refine ⟨?_, by rw [Int32.lt_iff_toInt_lt, f0]; exact h⟩
  apply Int64.toInt_inj.mp
  rw [own_i2j, own_j64 (by omega)]; unfold own_abs; omega
theorem own_p10le {e : Nat} (h : e ≤ 9) : 10 ^ e ≤ 1000000000 := Nat.le_trans (Nat.pow_le_pow_right (by decide) h) (by decide)
theorem own_p10ne {e : Nat} (h : e ≤ 9) : Int64.ofNat (10 ^ e) ≠ 0 := fun q => by
  have l := own_p10le h
  have p := Nat.pow_pos (n := e) (show 0 < 10 by decide)
  have := congrArg Int64.toInt q
  have e0 : (0 : Int64).toInt = 0 := rfl
  rw [own_j64 (by omega), e0] at this
  omega
theorem own_jdiv {n d : Nat} (hn : n ≤ 2 ^ 31) (hd : 1 ≤ d) (hd2 : d ≤ 1000000000) : Int64.ofNat n / Int64.ofNat d = Int64.ofNat (n / d) := by
  apply Int64.toInt_inj.mp
  have l : n / d ≤ n := Nat.div_le_self n d
  have l2 : (0 : Int) ≤ (n : Int) / (d : Int) := Int.ediv_nonneg (by omega) (by omega)
  rw [Int64.toInt_div, own_j64 (by omega), own_j64 (by omega), own_j64 (by omega), Int.tdiv_eq_ediv_of_nonneg (by omega), own_jbm (by omega) (by omega)]
  exact (Int.natCast_ediv n d).symm
theorem own_jrem {n : Nat} (hn : n ≤ 2 ^ 31) : Int64.ofNat n - Int64.ofNat n / (10 : Int64) * (10 : Int64) = Int64.ofNat (n % 10) := by
  have e : (10 : Int64) = Int64.ofNat 10 := rfl
  rw [e, own_jdiv hn (by decide) (by decide)]
  apply Int64.toInt_inj.mp
  rw [Int64.toInt_sub, Int64.toInt_mul, own_j64 (by omega), own_j64 (by omega), own_j64 (by omega), own_j64 (by omega), own_jbm (x := ((n / 10 : Nat) : Int) * ((10 : Nat) : Int)) (by omega) (by omega), own_jbm (by omega) (by omega)]
  omega
theorem own_j2i {n : Nat} (h : n < 10) : (Int64.ofNat n).toInt32 = Int32.ofNat n := by
  apply Int32.toInt_inj.mp
  rw [Int64.toInt_toInt32, own_j64 (by omega), Int32.toInt_ofNat_of_lt (by omega)]
  exact Int.bmod_eq_of_le (by omega) (by omega)
theorem own_48 (n : Nat) : (48 : Int32) + Int32.ofNat (n % 10) = own_dc n := by
  have e : (48 : Int32) = Int32.ofNat 48 := rfl
  rw [e, addOf (by omega)]; rfl
theorem own_dcc (n : Nat) : (own_dc n).toUInt32.toUInt16.toUInt32.toInt32 = own_dc n := by
  have q := c_i2c (own_dc n)
  have r := own_dcB n
  have e0 : (0 : Int32).toInt = 0 := rfl
  have e2 : (255 : Int32).toInt = 255 := rfl
  unfold B8 at r
  rw [Int32.lt_iff_toInt_lt, Int32.lt_iff_toInt_lt, e0, e2] at r
  apply Int32.toInt_inj.mp
  omega
theorem own_nardc (n : Nat) : nar .char (own_dc n) = own_dc n := own_dcc n
def own_dk (d n k : Nat) : List Int32 := if k < d then [own_dc (n / 10 ^ k)] else []
def own_dks (d n : Nat) : Nat → List Int32
  | 0 => []
  | j + 1 => own_dks d n j ++ own_dk d n (9 - j)
theorem own_dks_s (d n j : Nat) : own_dks d n j ++ own_dk d n (9 - j) = own_dks d n (j + 1) := rfl
theorem own_dkl (d n k : Nat) : (own_dk d n k).length ≤ 1 := by unfold own_dk; split <;> simp
theorem own_dksl (d n : Nat) : ∀ j, (own_dks d n j).length ≤ j
  | 0 => Nat.le_refl _
  | j + 1 => by have h := own_dksl d n j; have g := own_dkl d n (9 - j); rw [← own_dks_s, List.length_append]; omega
theorem own_digs_cons : ∀ k n, own_digs (k + 1) n = own_dc (n / 10 ^ k) :: own_digs k n
  | 0, n => by simp [own_digs]
  | k + 1, n => by
    show own_digs (k + 1) (n / 10) ++ [own_dc n] = _
    rw [own_digs_cons k (n / 10), Nat.div_div_eq_div_mul, ← Nat.pow_succ']; rfl
theorem own_dks10 (n : Nat) : own_dks (own_dn n) n 10 = own_digs (own_dn n) n := by
  have h := own_dn_pos n
  generalize own_dn n = d at *
  obtain rfl | rfl | rfl | rfl | rfl | rfl | rfl | rfl | rfl | rfl : d = 1 ∨ d = 2 ∨ d = 3 ∨ d = 4 ∨ d = 5 ∨ d = 6 ∨ d = 7 ∨ d = 8 ∨ d = 9 ∨ d = 10 := by omega
  all_goals (simp only [own_digs_cons]; rfl)
def own_nd : Nat → Nat → Nat
  | 0, _ => 1
  | k + 1, n => if n < 10 ^ (k + 1) then own_nd k n else k + 2
theorem own_nd9 (n : Nat) : own_nd 9 n = own_dn n := by
  simp only [own_nd, own_dn]
  (repeat' split) <;> omega
def own_sl (x : Int32) : List Int32 := if x < 0 then [(45 : Int32)] else []
theorem own_decE (x : Int32) : own_dec x = own_sl x ++ own_digs (own_dn (own_abs x)) (own_abs x) := rfl
theorem own_sll (x : Int32) : (own_sl x).length ≤ 1 := by unfold own_sl; split <;> simp
theorem d631 : decode y34_ 0 = .ok (.aload_n 0, 1) := by decide +kernel
theorem d632 : decode y34_ 1 = .ok (.iload_n 1, 1) := by decide +kernel
theorem d633 : decode y34_ 2 = .ok (.iload_n 2, 1) := by decide +kernel
theorem d634 : decode y34_ 3 = .ok (.castore, 1) := by decide +kernel
theorem d635 : decode y34_ 4 = .ok (.iload_n 1, 1) := by decide +kernel
theorem d636 : decode y34_ 5 = .ok (.iconst 1, 1) := by decide +kernel
theorem d637 : decode y34_ 6 = .ok (.iadd, 1) := by decide +kernel
theorem d638 : decode y34_ 7 = .ok (.ireturn, 1) := by decide +kernel
abbrev mn639 : MethodName := ⟨"com/example/limentinus/limentinus/core/KeyLayoutPermitKeyPinLaw", "put", "([CIC)I"⟩
theorem own_put (l : Launch) (Z : State) (a0 : Array Value) (cx : Ctx Z a0) (ws : List Jvm.Cond) (a : Addr) (ka : ClassId) (ds : List Int32) (ch : Int32) (vm0 : Vm) (h0 : Heap) (X00 : Ext Z.heap h0) (P0 : Arv Z h0 a ka .char (25 : Int32) (own_ca 25 ds) (.int (0 : Int32))) (P1 : Z.heap.size ≤ a) (hd : (ds.length < 25)) (hn : (nar .char ch = ch)) :
    Met l mn639 y34_ 3 (some .int) ws ({ frames := 0, cells := 0, slots := 0, locals := 0 } : Room) Z consts_1 vm0 h0 #[(.ref a), (.int (Int32.ofNat ds.length)), (.int ch)] (fun rv vm h => rv = some (.int (Int32.ofNat (ds ++ [ch]).length)) ∧ Keep h0 h [a] ∧ Arv Z h a ka .char (25 : Int32) (own_ca 25 (ds ++ [ch])) (.int (0 : Int32))) := by
  obtain ⟨hw, hEL, ⟨zc, Scs, hzc⟩, ⟨fm, Sfm, hfm⟩, ⟨fe, ft, tt, Sfe, Efe, Fft, Sft⟩, hI0⟩ := id cx
  have hSA := own_SA hw
  refine Met.of_walk (a0 := a0) #[vr a, vi (Int32.ofNat ds.length), vi ch] (plainFor_of_name own_pn510) X00 hEL (fun m => by first | (simp [entryFrame, mkF, argsToLocals, Value.category]; done) | rfl) ?_
  intro p e s m below meth c vm hx hby hml hret hnm hC0 hW0
  have lt_a : h0.size > a := P0.lt
  refine uAN 1 hx hby d631 rfl rfl rfl ?_
  refine uIN 2 hx hby d632 rfl rfl ?_
  refine uIN 3 hx hby d633 rfl rfl ?_
  refine gstC hx P0 ⟨nn0 (by omega), (ltOf (b := 25) (by omega) (by omega)).mpr (by omega)⟩ (i := ds.length) (tn (by omega)) (by rw [own_cal (by omega)]; omega) (y := ch) hn P1 4 (hb hby d634) rfl ?_
  intro h1 W1 C1 V1
  have z1 := C1.2.1
  have X2 : Arv Z h1 a ka .char (25 : Int32) (own_ca 25 (ds ++ [ch])) (.int (0 : Int32)) := Eq.mp (congrArg (fun z => Arv Z h1 a ka .char (25 : Int32) z (.int (0 : Int32))) (own_ca1 (by omega))) V1
  refine uIN 5 hx hby d635 rfl rfl ?_
  refine uKc 6 (1 : Int32) hx hby d636 rfl rfl ?_
  refine uiadd 7 ((Int32.ofNat ds.length) + (1 : Int32)) hx hby d637 rfl rfl ?_
  exact gretI hx hret (hb hby d638) (by decide) (by decide) (fun vq Cq => ⟨(congrArg (fun z => some (Value.int z)) (own_len1 (by omega))), ((Keep.refl h0 [a]).wr W1 (Or.inl (List.mem_of_getElem? (i := 0) rfl))), X2⟩)
theorem d640 : decode y33_ 0 = .ok (.iload_n 2, 1) := by decide +kernel
theorem d641 : decode y33_ 1 = .ok (.bipush 24, 2) := by decide +kernel
theorem d642 : decode y33_ 3 = .ok (.iushr, 1) := by decide +kernel
theorem d643 : decode y33_ 4 = .ok (.iconst 3, 1) := by decide +kernel
theorem d644 : decode y33_ 5 = .ok (.iand, 1) := by decide +kernel
theorem d645 : decode y33_ 6 = .ok (.istore_n 3, 1) := by decide +kernel
theorem d646 : decode y33_ 7 = .ok (.iload_n 1, 1) := by decide +kernel
theorem d647 : decode y33_ 8 = .ok (.istore 4, 2) := by decide +kernel
theorem d648 : decode y33_ 10 = .ok (.iload_n 3, 1) := by decide +kernel
theorem d649 : decode y33_ 11 = .ok (.iconst 1, 1) := by decide +kernel
theorem d650 : decode y33_ 12 = .ok (.if_icmp .lt 18, 3) := by decide +kernel
theorem d651 : decode y33_ 30 = .ok (.iload_n 3, 1) := by decide +kernel
theorem d652 : decode y33_ 31 = .ok (.iconst 2, 1) := by decide +kernel
theorem d653 : decode y33_ 32 = .ok (.if_icmp .lt 18, 3) := by decide +kernel
theorem d654 : decode y33_ 50 = .ok (.iload_n 3, 1) := by decide +kernel
theorem d655 : decode y33_ 51 = .ok (.iconst 3, 1) := by decide +kernel
theorem d656 : decode y33_ 52 = .ok (.if_icmp .lt 18, 3) := by decide +kernel
theorem d657 : decode y33_ 70 = .ok (.iload 4, 2) := by decide +kernel
theorem d658 : decode y33_ 72 = .ok (.ireturn, 1) := by decide +kernel
theorem d659 : decode y33_ 15 = .ok (.aload_n 0, 1) := by decide +kernel
theorem d660 : decode y33_ 16 = .ok (.iload 4, 2) := by decide +kernel
theorem d661 : decode y33_ 18 = .ok (.iload_n 2, 1) := by decide +kernel
theorem d662 : decode y33_ 19 = .ok (.iconst 0, 1) := by decide +kernel
theorem d663 : decode y33_ 20 = .ok (.invokestatic 12, 3) := by decide +kernel
theorem d664 : decode y33_ 23 = .ok (.castore, 1) := by decide +kernel
theorem d665 : decode y33_ 24 = .ok (.iload 4, 2) := by decide +kernel
theorem d666 : decode y33_ 26 = .ok (.iconst 1, 1) := by decide +kernel
theorem d667 : decode y33_ 27 = .ok (.iadd, 1) := by decide +kernel
theorem d668 : decode y33_ 28 = .ok (.istore 4, 2) := by decide +kernel
theorem d669 : decode y33_ 35 = .ok (.aload_n 0, 1) := by decide +kernel
theorem d670 : decode y33_ 36 = .ok (.iload 4, 2) := by decide +kernel
theorem d671 : decode y33_ 38 = .ok (.iload_n 2, 1) := by decide +kernel
theorem d672 : decode y33_ 39 = .ok (.iconst 1, 1) := by decide +kernel
theorem d673 : decode y33_ 40 = .ok (.invokestatic 12, 3) := by decide +kernel
theorem d674 : decode y33_ 43 = .ok (.castore, 1) := by decide +kernel
theorem d675 : decode y33_ 44 = .ok (.iload 4, 2) := by decide +kernel
theorem d676 : decode y33_ 46 = .ok (.iconst 1, 1) := by decide +kernel
theorem d677 : decode y33_ 47 = .ok (.iadd, 1) := by decide +kernel
theorem d678 : decode y33_ 48 = .ok (.istore 4, 2) := by decide +kernel
theorem d679 : decode y33_ 55 = .ok (.aload_n 0, 1) := by decide +kernel
theorem d680 : decode y33_ 56 = .ok (.iload 4, 2) := by decide +kernel
theorem d681 : decode y33_ 58 = .ok (.iload_n 2, 1) := by decide +kernel
theorem d682 : decode y33_ 59 = .ok (.iconst 2, 1) := by decide +kernel
theorem d683 : decode y33_ 60 = .ok (.invokestatic 12, 3) := by decide +kernel
theorem d684 : decode y33_ 63 = .ok (.castore, 1) := by decide +kernel
theorem d685 : decode y33_ 64 = .ok (.iload 4, 2) := by decide +kernel
theorem d686 : decode y33_ 66 = .ok (.iconst 1, 1) := by decide +kernel
theorem d687 : decode y33_ 67 = .ok (.iadd, 1) := by decide +kernel
theorem d688 : decode y33_ 68 = .ok (.istore 4, 2) := by decide +kernel
abbrev mn689 : MethodName := ⟨"com/example/limentinus/limentinus/core/KeyLayoutPermitKeyPinLaw", "part", "([CII)I"⟩
theorem own_part (l : Launch) (Z : State) (a0 : Array Value) (cx : Ctx Z a0) (ws : List Jvm.Cond) (a : Addr) (ka : ClassId) (ds : List Int32) (x : Int32) (vm0 : Vm) (h0 : Heap) (X00 : Ext Z.heap h0) (P0 : Arv Z h0 a ka .char (25 : Int32) (own_ca 25 ds) (.int (0 : Int32))) (P1 : Z.heap.size ≤ a) (hd : (ds.length ≤ 22)) :
    Met l mn689 y33_ 5 (some .int) ws ({ frames := 1, cells := 0, slots := 0, locals := 15 } : Room) Z consts_1 vm0 h0 #[(.ref a), (.int (Int32.ofNat ds.length)), (.int x)] (fun rv vm h => rv = some (.int (Int32.ofNat (ds ++ (own_id x)).length)) ∧ Keep h0 h [a] ∧ Arv Z h a ka .char (25 : Int32) (own_ca 25 (ds ++ (own_id x))) (.int (0 : Int32))) := by
  obtain ⟨hw, hEL, ⟨zc, Scs, hzc⟩, ⟨fm, Sfm, hfm⟩, ⟨fe, ft, tt, Sfe, Efe, Fft, Sft⟩, hI0⟩ := id cx
  have hSA := own_SA hw
  refine Met.of_walk (a0 := a0) #[vr a, vi (Int32.ofNat ds.length), vi x, un, un] (plainFor_of_name own_pn510) X00 hEL (fun m => by first | (simp [entryFrame, mkF, argsToLocals, Value.category]; done) | rfl) ?_
  intro p e s m below meth c vm hx hby hml hret hnm hC0 hW0
  have lt_a : h0.size > a := P0.lt
  refine uIN 1 hx hby d640 rfl rfl ?_
  refine uKb 3 (24 : Int32) hx hby d641 rfl rfl ?_
  refine gs (mkF m 4 #[vr a, vi (Int32.ofNat ds.length), vi x, un, un] [(.int ((x.toUInt32 >>> ((24 : Int32) &&& 31).toUInt32).toInt32))]) (fun _ _ A kq => XS.iushr A hx rfl (hb hby d642) rfl kq) ?_
  refine uKc 5 (3 : Int32) hx hby d643 rfl rfl ?_
  refine uiand 6 (((x.toUInt32 >>> ((24 : Int32) &&& 31).toUInt32).toInt32) &&& (3 : Int32)) hx hby d644 rfl rfl ?_
  refine uSIN 7 #[vr a, vi (Int32.ofNat ds.length), vi x, vi (((x.toUInt32 >>> ((24 : Int32) &&& 31).toUInt32).toInt32) &&& (3 : Int32)), un] hx hby d645 rfl rfl ?_
  rcases own_and3 ((x.toUInt32 >>> ((24 : Int32) &&& 31).toUInt32).toInt32) with q | q | q | q
  · refine gat (mkF m 7 #[vr a, vi (Int32.ofNat ds.length), vi x, vi (0 : Int32), un] []) (by rw [q]) ?_
    refine uIN 8 hx hby d646 rfl rfl ?_
    refine uSI 10 #[vr a, vi (Int32.ofNat ds.length), vi x, vi (0 : Int32), vi (Int32.ofNat ds.length)] hx hby d647 rfl rfl ?_
    refine uIN 11 hx hby d648 rfl rfl ?_
    refine uKc 12 (1 : Int32) hx hby d649 rfl rfl ?_
    refine uYc 30 hx hby d650 (tlt (by decide)).1 (by decide) (by decide) ?_
    refine uIN 31 hx hby d651 rfl rfl ?_
    refine uKc 32 (2 : Int32) hx hby d652 rfl rfl ?_
    refine uYc 50 hx hby d653 (tlt (by decide)).1 (by decide) (by decide) ?_
    refine uIN 51 hx hby d654 rfl rfl ?_
    refine uKc 52 (3 : Int32) hx hby d655 rfl rfl ?_
    refine uYc 70 hx hby d656 (tlt (by decide)).1 (by decide) (by decide) ?_
    refine uI 72 hx hby d657 rfl rfl ?_
    exact gretI hx hret (hb hby d658) (by decide) (by decide) (fun vq Cq => ⟨(congrArg (fun z => some (Value.int z)) (by rw [own_id0 q, List.append_nil])), (Keep.refl h0 [a]), (by rw [own_id0 q, List.append_nil]; exact P0)⟩)
  · refine gat (mkF m 7 #[vr a, vi (Int32.ofNat ds.length), vi x, vi (1 : Int32), un] []) (by rw [q]) ?_
    refine uIN 8 hx hby d646 rfl rfl ?_
    refine uSI 10 #[vr a, vi (Int32.ofNat ds.length), vi x, vi (1 : Int32), vi (Int32.ofNat ds.length)] hx hby d647 rfl rfl ?_
    refine uIN 11 hx hby d648 rfl rfl ?_
    refine uKc 12 (1 : Int32) hx hby d649 rfl rfl ?_
    refine uNc 15 hx hby d650 rfl (flt (by decide)).1 ?_
    refine uAN 16 hx hby d659 rfl rfl rfl ?_
    refine uI 18 hx hby d660 rfl rfl ?_
    refine uIN 19 hx hby d661 rfl rfl ?_
    refine uKc 20 (0 : Int32) hx hby d662 rfl rfl ?_
    refine ginfo fun _ _ O2 => ?_
    refine gcallS (y := mn509) hx (ow hw 230 rfl) (ow hw 231 rfl) (ow hw 2 rfl) (ow hw 232 rfl) (by decide) (fun hZ H hEL => Pay.of_met (W := 2) (own_chw l Z a0 cx [] (x) ((0 : Int32)) vm h0 O2 ) (ow hw 232 rfl) (ow hw 2 rfl) (by decide) (by decide) hZ H hEL) 23 (argsL := [(.int x), (.int (0 : Int32))]) (rest := [(.int (Int32.ofNat ds.length)), (.ref a)]) (lenOf own_pd538 rfl) rfl rfl (Nat.le_of_eq rfl) (by rw [hml]; rfl) (hb hby d663) rfl (by decide) (by decide) ?_
    rintro _ vm2 h2 C2 ⟨rfl, rfl⟩
    have z2 := C2.2.1
    refine gat1 ?_
    refine gstC hx P0 ⟨nn0 (by omega), (ltOf (b := 25) (by omega) (by omega)).mpr (by omega)⟩ (i := ds.length) (tn (by omega)) (by rw [own_cal (by omega)]; omega) (y := (own_ch x (0 : Int32))) (own_narch _ _) P1 24 (hb hby d664) rfl ?_
    intro h3 W3 C3 V3
    have z3 := C3.2.1
    have X4 : Arv Z h3 a ka .char (25 : Int32) (own_ca 25 (ds ++ [(own_ch x (0 : Int32))])) (.int (0 : Int32)) := Eq.mp (congrArg (fun z => Arv Z h3 a ka .char (25 : Int32) z (.int (0 : Int32))) (own_ca1 (by omega))) V3
    refine uI 26 hx hby d665 rfl rfl ?_
    refine uKc 27 (1 : Int32) hx hby d666 rfl rfl ?_
    refine uiadd 28 ((Int32.ofNat ds.length) + (1 : Int32)) hx hby d667 rfl rfl ?_
    refine gat (mkF m 28 #[vr a, vi (Int32.ofNat ds.length), vi x, vi (1 : Int32), vi (Int32.ofNat ds.length)] [(.int (Int32.ofNat (ds ++ [(own_ch x (0 : Int32))]).length))]) (by rw [own_len1 (c := (own_ch x (0 : Int32))) (by omega)]) ?_
    have hl1 : (ds ++ [(own_ch x (0 : Int32))]).length = ds.length + 1 := by simp only [List.length_append, List.length_cons, List.length_nil]
    refine uSI 30 #[vr a, vi (Int32.ofNat ds.length), vi x, vi (1 : Int32), vi (Int32.ofNat (ds ++ [(own_ch x (0 : Int32))]).length)] hx hby d668 rfl rfl ?_
    refine uIN 31 hx hby d651 rfl rfl ?_
    refine uKc 32 (2 : Int32) hx hby d652 rfl rfl ?_
    refine uYc 50 hx hby d653 (tlt (by decide)).1 (by decide) (by decide) ?_
    refine uIN 51 hx hby d654 rfl rfl ?_
    refine uKc 52 (3 : Int32) hx hby d655 rfl rfl ?_
    refine uYc 70 hx hby d656 (tlt (by decide)).1 (by decide) (by decide) ?_
    refine uI 72 hx hby d657 rfl rfl ?_
    exact gretI hx hret (hb hby d658) (by decide) (by decide) (fun vq Cq => ⟨(congrArg (fun z => some (Value.int z)) (by rw [own_id1 q])), ((Keep.refl h0 [a]).wr W3 (Or.inl (List.mem_of_getElem? (i := 0) rfl))), (by have z := X4; rw [own_id1 q]; exact z)⟩)
  · refine gat (mkF m 7 #[vr a, vi (Int32.ofNat ds.length), vi x, vi (2 : Int32), un] []) (by rw [q]) ?_
    refine uIN 8 hx hby d646 rfl rfl ?_
    refine uSI 10 #[vr a, vi (Int32.ofNat ds.length), vi x, vi (2 : Int32), vi (Int32.ofNat ds.length)] hx hby d647 rfl rfl ?_
    refine uIN 11 hx hby d648 rfl rfl ?_
    refine uKc 12 (1 : Int32) hx hby d649 rfl rfl ?_
    refine uNc 15 hx hby d650 rfl (flt (by decide)).1 ?_
    refine uAN 16 hx hby d659 rfl rfl rfl ?_
    refine uI 18 hx hby d660 rfl rfl ?_
    refine uIN 19 hx hby d661 rfl rfl ?_
    refine uKc 20 (0 : Int32) hx hby d662 rfl rfl ?_
    refine ginfo fun _ _ O6 => ?_
    refine gcallS (y := mn509) hx (ow hw 230 rfl) (ow hw 231 rfl) (ow hw 2 rfl) (ow hw 232 rfl) (by decide) (fun hZ H hEL => Pay.of_met (W := 2) (own_chw l Z a0 cx [] (x) ((0 : Int32)) vm h0 O6 ) (ow hw 232 rfl) (ow hw 2 rfl) (by decide) (by decide) hZ H hEL) 23 (argsL := [(.int x), (.int (0 : Int32))]) (rest := [(.int (Int32.ofNat ds.length)), (.ref a)]) (lenOf own_pd538 rfl) rfl rfl (Nat.le_of_eq rfl) (by rw [hml]; rfl) (hb hby d663) rfl (by decide) (by decide) ?_
    rintro _ vm6 h6 C6 ⟨rfl, rfl⟩
    have z6 := C6.2.1
    refine gat1 ?_
    refine gstC hx P0 ⟨nn0 (by omega), (ltOf (b := 25) (by omega) (by omega)).mpr (by omega)⟩ (i := ds.length) (tn (by omega)) (by rw [own_cal (by omega)]; omega) (y := (own_ch x (0 : Int32))) (own_narch _ _) P1 24 (hb hby d664) rfl ?_
    intro h7 W7 C7 V7
    have z7 := C7.2.1
    have X8 : Arv Z h7 a ka .char (25 : Int32) (own_ca 25 (ds ++ [(own_ch x (0 : Int32))])) (.int (0 : Int32)) := Eq.mp (congrArg (fun z => Arv Z h7 a ka .char (25 : Int32) z (.int (0 : Int32))) (own_ca1 (by omega))) V7
    refine uI 26 hx hby d665 rfl rfl ?_
    refine uKc 27 (1 : Int32) hx hby d666 rfl rfl ?_
    refine uiadd 28 ((Int32.ofNat ds.length) + (1 : Int32)) hx hby d667 rfl rfl ?_
    refine gat (mkF m 28 #[vr a, vi (Int32.ofNat ds.length), vi x, vi (2 : Int32), vi (Int32.ofNat ds.length)] [(.int (Int32.ofNat (ds ++ [(own_ch x (0 : Int32))]).length))]) (by rw [own_len1 (c := (own_ch x (0 : Int32))) (by omega)]) ?_
    have hl1 : (ds ++ [(own_ch x (0 : Int32))]).length = ds.length + 1 := by simp only [List.length_append, List.length_cons, List.length_nil]
    refine uSI 30 #[vr a, vi (Int32.ofNat ds.length), vi x, vi (2 : Int32), vi (Int32.ofNat (ds ++ [(own_ch x (0 : Int32))]).length)] hx hby d668 rfl rfl ?_
    refine uIN 31 hx hby d651 rfl rfl ?_
    refine uKc 32 (2 : Int32) hx hby d652 rfl rfl ?_
    refine uNc 35 hx hby d653 rfl (flt (by decide)).1 ?_
    refine uAN 36 hx hby d669 rfl rfl rfl ?_
    refine uI 38 hx hby d670 rfl rfl ?_
    refine uIN 39 hx hby d671 rfl rfl ?_
    refine uKc 40 (1 : Int32) hx hby d672 rfl rfl ?_
    refine ginfo fun _ _ O9 => ?_
    refine gcallS (y := mn509) hx (ow hw 230 rfl) (ow hw 231 rfl) (ow hw 2 rfl) (ow hw 232 rfl) (by decide) (fun hZ H hEL => Pay.of_met (W := 2) (own_chw l Z a0 cx [] (x) ((1 : Int32)) vm6 h7 O9 ) (ow hw 232 rfl) (ow hw 2 rfl) (by decide) (by decide) hZ H hEL) 43 (argsL := [(.int x), (.int (1 : Int32))]) (rest := [(.int (Int32.ofNat (ds ++ [(own_ch x (0 : Int32))]).length)), (.ref a)]) (lenOf own_pd538 rfl) rfl rfl (Nat.le_of_eq rfl) (by rw [hml]; rfl) (hb hby d673) rfl (by decide) (by decide) ?_
    rintro _ vm9 h9 C9 ⟨rfl, rfl⟩
    have z9 := C9.2.1
    refine gat1 ?_
    refine gstC hx X8 ⟨nn0 (by omega), (ltOf (b := 25) (by omega) (by omega)).mpr (by omega)⟩ (i := (ds ++ [(own_ch x (0 : Int32))]).length) (tn (by omega)) (by rw [own_cal (by omega)]; omega) (y := (own_ch x (1 : Int32))) (own_narch _ _) P1 44 (hb hby d674) rfl ?_
    intro h10 W10 C10 V10
    have z10 := C10.2.1
    have X11 : Arv Z h10 a ka .char (25 : Int32) (own_ca 25 ((ds ++ [(own_ch x (0 : Int32))]) ++ [(own_ch x (1 : Int32))])) (.int (0 : Int32)) := Eq.mp (congrArg (fun z => Arv Z h10 a ka .char (25 : Int32) z (.int (0 : Int32))) (own_ca1 (by omega))) V10
    refine uI 46 hx hby d675 rfl rfl ?_
    refine uKc 47 (1 : Int32) hx hby d676 rfl rfl ?_
    refine uiadd 48 ((Int32.ofNat (ds ++ [(own_ch x (0 : Int32))]).length) + (1 : Int32)) hx hby d677 rfl rfl ?_
    refine gat (mkF m 48 #[vr a, vi (Int32.ofNat ds.length), vi x, vi (2 : Int32), vi (Int32.ofNat (ds ++ [(own_ch x (0 : Int32))]).length)] [(.int (Int32.ofNat ((ds ++ [(own_ch x (0 : Int32))]) ++ [(own_ch x (1 : Int32))]).length))]) (by rw [own_len1 (c := (own_ch x (1 : Int32))) (by omega)]) ?_
    have hl2 : ((ds ++ [(own_ch x (0 : Int32))]) ++ [(own_ch x (1 : Int32))]).length = ds.length + 2 := by simp only [List.length_append, List.length_cons, List.length_nil]
    refine uSI 50 #[vr a, vi (Int32.ofNat ds.length), vi x, vi (2 : Int32), vi (Int32.ofNat ((ds ++ [(own_ch x (0 : Int32))]) ++ [(own_ch x (1 : Int32))]).length)] hx hby d678 rfl rfl ?_
    refine uIN 51 hx hby d654 rfl rfl ?_
    refine uKc 52 (3 : Int32) hx hby d655 rfl rfl ?_
    refine uYc 70 hx hby d656 (tlt (by decide)).1 (by decide) (by decide) ?_
    refine uI 72 hx hby d657 rfl rfl ?_
    exact gretI hx hret (hb hby d658) (by decide) (by decide) (fun vq Cq => ⟨(congrArg (fun z => some (Value.int z)) (by rw [own_id2 q, List.append_assoc]; rfl)), (((Keep.refl h0 [a]).wr W7 (Or.inl (List.mem_of_getElem? (i := 0) rfl))).wr W10 (Or.inl (List.mem_of_getElem? (i := 0) rfl))), (by have z := X11; rw [List.append_assoc] at z; rw [own_id2 q]; exact z)⟩)
  · refine gat (mkF m 7 #[vr a, vi (Int32.ofNat ds.length), vi x, vi (3 : Int32), un] []) (by rw [q]) ?_
    refine uIN 8 hx hby d646 rfl rfl ?_
    refine uSI 10 #[vr a, vi (Int32.ofNat ds.length), vi x, vi (3 : Int32), vi (Int32.ofNat ds.length)] hx hby d647 rfl rfl ?_
    refine uIN 11 hx hby d648 rfl rfl ?_
    refine uKc 12 (1 : Int32) hx hby d649 rfl rfl ?_
    refine uNc 15 hx hby d650 rfl (flt (by decide)).1 ?_
    refine uAN 16 hx hby d659 rfl rfl rfl ?_
    refine uI 18 hx hby d660 rfl rfl ?_
    refine uIN 19 hx hby d661 rfl rfl ?_
    refine uKc 20 (0 : Int32) hx hby d662 rfl rfl ?_
    refine ginfo fun _ _ O13 => ?_
    refine gcallS (y := mn509) hx (ow hw 230 rfl) (ow hw 231 rfl) (ow hw 2 rfl) (ow hw 232 rfl) (by decide) (fun hZ H hEL => Pay.of_met (W := 2) (own_chw l Z a0 cx [] (x) ((0 : Int32)) vm h0 O13 ) (ow hw 232 rfl) (ow hw 2 rfl) (by decide) (by decide) hZ H hEL) 23 (argsL := [(.int x), (.int (0 : Int32))]) (rest := [(.int (Int32.ofNat ds.length)), (.ref a)]) (lenOf own_pd538 rfl) rfl rfl (Nat.le_of_eq rfl) (by rw [hml]; rfl) (hb hby d663) rfl (by decide) (by decide) ?_
    rintro _ vm13 h13 C13 ⟨rfl, rfl⟩
    have z13 := C13.2.1
    refine gat1 ?_
    refine gstC hx P0 ⟨nn0 (by omega), (ltOf (b := 25) (by omega) (by omega)).mpr (by omega)⟩ (i := ds.length) (tn (by omega)) (by rw [own_cal (by omega)]; omega) (y := (own_ch x (0 : Int32))) (own_narch _ _) P1 24 (hb hby d664) rfl ?_
    intro h14 W14 C14 V14
    have z14 := C14.2.1
    have X15 : Arv Z h14 a ka .char (25 : Int32) (own_ca 25 (ds ++ [(own_ch x (0 : Int32))])) (.int (0 : Int32)) := Eq.mp (congrArg (fun z => Arv Z h14 a ka .char (25 : Int32) z (.int (0 : Int32))) (own_ca1 (by omega))) V14
    refine uI 26 hx hby d665 rfl rfl ?_
    refine uKc 27 (1 : Int32) hx hby d666 rfl rfl ?_
    refine uiadd 28 ((Int32.ofNat ds.length) + (1 : Int32)) hx hby d667 rfl rfl ?_
    refine gat (mkF m 28 #[vr a, vi (Int32.ofNat ds.length), vi x, vi (3 : Int32), vi (Int32.ofNat ds.length)] [(.int (Int32.ofNat (ds ++ [(own_ch x (0 : Int32))]).length))]) (by rw [own_len1 (c := (own_ch x (0 : Int32))) (by omega)]) ?_
    have hl1 : (ds ++ [(own_ch x (0 : Int32))]).length = ds.length + 1 := by simp only [List.length_append, List.length_cons, List.length_nil]
    refine uSI 30 #[vr a, vi (Int32.ofNat ds.length), vi x, vi (3 : Int32), vi (Int32.ofNat (ds ++ [(own_ch x (0 : Int32))]).length)] hx hby d668 rfl rfl ?_
    refine uIN 31 hx hby d651 rfl rfl ?_
    refine uKc 32 (2 : Int32) hx hby d652 rfl rfl ?_
    refine uNc 35 hx hby d653 rfl (flt (by decide)).1 ?_
    refine uAN 36 hx hby d669 rfl rfl rfl ?_
    refine uI 38 hx hby d670 rfl rfl ?_
    refine uIN 39 hx hby d671 rfl rfl ?_
    refine uKc 40 (1 : Int32) hx hby d672 rfl rfl ?_
    refine ginfo fun _ _ O16 => ?_
    refine gcallS (y := mn509) hx (ow hw 230 rfl) (ow hw 231 rfl) (ow hw 2 rfl) (ow hw 232 rfl) (by decide) (fun hZ H hEL => Pay.of_met (W := 2) (own_chw l Z a0 cx [] (x) ((1 : Int32)) vm13 h14 O16 ) (ow hw 232 rfl) (ow hw 2 rfl) (by decide) (by decide) hZ H hEL) 43 (argsL := [(.int x), (.int (1 : Int32))]) (rest := [(.int (Int32.ofNat (ds ++ [(own_ch x (0 : Int32))]).length)), (.ref a)]) (lenOf own_pd538 rfl) rfl rfl (Nat.le_of_eq rfl) (by rw [hml]; rfl) (hb hby d673) rfl (by decide) (by decide) ?_
    rintro _ vm16 h16 C16 ⟨rfl, rfl⟩
    have z16 := C16.2.1
    refine gat1 ?_
    refine gstC hx X15 ⟨nn0 (by omega), (ltOf (b := 25) (by omega) (by omega)).mpr (by omega)⟩ (i := (ds ++ [(own_ch x (0 : Int32))]).length) (tn (by omega)) (by rw [own_cal (by omega)]; omega) (y := (own_ch x (1 : Int32))) (own_narch _ _) P1 44 (hb hby d674) rfl ?_
    intro h17 W17 C17 V17
    have z17 := C17.2.1
    have X18 : Arv Z h17 a ka .char (25 : Int32) (own_ca 25 ((ds ++ [(own_ch x (0 : Int32))]) ++ [(own_ch x (1 : Int32))])) (.int (0 : Int32)) := Eq.mp (congrArg (fun z => Arv Z h17 a ka .char (25 : Int32) z (.int (0 : Int32))) (own_ca1 (by omega))) V17
    refine uI 46 hx hby d675 rfl rfl ?_
    refine uKc 47 (1 : Int32) hx hby d676 rfl rfl ?_
    refine uiadd 48 ((Int32.ofNat (ds ++ [(own_ch x (0 : Int32))]).length) + (1 : Int32)) hx hby d677 rfl rfl ?_
    refine gat (mkF m 48 #[vr a, vi (Int32.ofNat ds.length), vi x, vi (3 : Int32), vi (Int32.ofNat (ds ++ [(own_ch x (0 : Int32))]).length)] [(.int (Int32.ofNat ((ds ++ [(own_ch x (0 : Int32))]) ++ [(own_ch x (1 : Int32))]).length))]) (by rw [own_len1 (c := (own_ch x (1 : Int32))) (by omega)]) ?_
    have hl2 : ((ds ++ [(own_ch x (0 : Int32))]) ++ [(own_ch x (1 : Int32))]).length = ds.length + 2 := by simp only [List.length_append, List.length_cons, List.length_nil]
    refine uSI 50 #[vr a, vi (Int32.ofNat ds.length), vi x, vi (3 : Int32), vi (Int32.ofNat ((ds ++ [(own_ch x (0 : Int32))]) ++ [(own_ch x (1 : Int32))]).length)] hx hby d678 rfl rfl ?_
    refine uIN 51 hx hby d654 rfl rfl ?_
    refine uKc 52 (3 : Int32) hx hby d655 rfl rfl ?_
    refine uNc 55 hx hby d656 rfl (flt (by decide)).1 ?_
    refine uAN 56 hx hby d679 rfl rfl rfl ?_
    refine uI 58 hx hby d680 rfl rfl ?_
    refine uIN 59 hx hby d681 rfl rfl ?_
    refine uKc 60 (2 : Int32) hx hby d682 rfl rfl ?_
    refine ginfo fun _ _ O19 => ?_
    refine gcallS (y := mn509) hx (ow hw 230 rfl) (ow hw 231 rfl) (ow hw 2 rfl) (ow hw 232 rfl) (by decide) (fun hZ H hEL => Pay.of_met (W := 2) (own_chw l Z a0 cx [] (x) ((2 : Int32)) vm16 h17 O19 ) (ow hw 232 rfl) (ow hw 2 rfl) (by decide) (by decide) hZ H hEL) 63 (argsL := [(.int x), (.int (2 : Int32))]) (rest := [(.int (Int32.ofNat ((ds ++ [(own_ch x (0 : Int32))]) ++ [(own_ch x (1 : Int32))]).length)), (.ref a)]) (lenOf own_pd538 rfl) rfl rfl (Nat.le_of_eq rfl) (by rw [hml]; rfl) (hb hby d683) rfl (by decide) (by decide) ?_
    rintro _ vm19 h19 C19 ⟨rfl, rfl⟩
    have z19 := C19.2.1
    refine gat1 ?_
    refine gstC hx X18 ⟨nn0 (by omega), (ltOf (b := 25) (by omega) (by omega)).mpr (by omega)⟩ (i := ((ds ++ [(own_ch x (0 : Int32))]) ++ [(own_ch x (1 : Int32))]).length) (tn (by omega)) (by rw [own_cal (by omega)]; omega) (y := (own_ch x (2 : Int32))) (own_narch _ _) P1 64 (hb hby d684) rfl ?_
    intro h20 W20 C20 V20
    have z20 := C20.2.1
    have X21 : Arv Z h20 a ka .char (25 : Int32) (own_ca 25 (((ds ++ [(own_ch x (0 : Int32))]) ++ [(own_ch x (1 : Int32))]) ++ [(own_ch x (2 : Int32))])) (.int (0 : Int32)) := Eq.mp (congrArg (fun z => Arv Z h20 a ka .char (25 : Int32) z (.int (0 : Int32))) (own_ca1 (by omega))) V20
    refine uI 66 hx hby d685 rfl rfl ?_
    refine uKc 67 (1 : Int32) hx hby d686 rfl rfl ?_
    refine uiadd 68 ((Int32.ofNat ((ds ++ [(own_ch x (0 : Int32))]) ++ [(own_ch x (1 : Int32))]).length) + (1 : Int32)) hx hby d687 rfl rfl ?_
    refine gat (mkF m 68 #[vr a, vi (Int32.ofNat ds.length), vi x, vi (3 : Int32), vi (Int32.ofNat ((ds ++ [(own_ch x (0 : Int32))]) ++ [(own_ch x (1 : Int32))]).length)] [(.int (Int32.ofNat (((ds ++ [(own_ch x (0 : Int32))]) ++ [(own_ch x (1 : Int32))]) ++ [(own_ch x (2 : Int32))]).length))]) (by rw [own_len1 (c := (own_ch x (2 : Int32))) (by omega)]) ?_
    have hl3 : (((ds ++ [(own_ch x (0 : Int32))]) ++ [(own_ch x (1 : Int32))]) ++ [(own_ch x (2 : Int32))]).length = ds.length + 3 := by simp only [List.length_append, List.length_cons, List.length_nil]
    refine uSI 70 #[vr a, vi (Int32.ofNat ds.length), vi x, vi (3 : Int32), vi (Int32.ofNat (((ds ++ [(own_ch x (0 : Int32))]) ++ [(own_ch x (1 : Int32))]) ++ [(own_ch x (2 : Int32))]).length)] hx hby d688 rfl rfl ?_
    refine uI 72 hx hby d657 rfl rfl ?_
    exact gretI hx hret (hb hby d658) (by decide) (by decide) (fun vq Cq => ⟨(congrArg (fun z => some (Value.int z)) (by rw [own_id3 q, List.append_assoc, List.append_assoc]; rfl)), ((((Keep.refl h0 [a]).wr W14 (Or.inl (List.mem_of_getElem? (i := 0) rfl))).wr W17 (Or.inl (List.mem_of_getElem? (i := 0) rfl))).wr W20 (Or.inl (List.mem_of_getElem? (i := 0) rfl))), (by have z := X21; rw [List.append_assoc, List.append_assoc] at z; rw [own_id3 q]; exact z)⟩)
theorem d690 : decode y35_ 0 = .ok (.iload 7, 2) := by decide +kernel
theorem d691 : decode y35_ 2 = .ok (.iload 6, 2) := by decide +kernel
theorem d692 : decode y35_ 4 = .ok (.if_icmp .ge 23, 3) := by decide +kernel
theorem d693 : decode y35_ 7 = .ok (.aload_n 0, 1) := by decide +kernel
theorem d694 : decode y35_ 8 = .ok (.iload_n 1, 1) := by decide +kernel
theorem d695 : decode y35_ 9 = .ok (.bipush 48, 2) := by decide +kernel
theorem d696 : decode y35_ 11 = .ok (.lload_n 2, 1) := by decide +kernel
theorem d697 : decode y35_ 12 = .ok (.lload 4, 2) := by decide +kernel
theorem d698 : decode y35_ 14 = .ok (.ldiv, 1) := by decide +kernel
theorem d699 : decode y35_ 15 = .ok (.ldc2_w 18, 3) := by decide +kernel
theorem d700 : decode y35_ 18 = .ok (.lrem, 1) := by decide +kernel
theorem d701 : decode y35_ 19 = .ok (.l2i, 1) := by decide +kernel
theorem d702 : decode y35_ 20 = .ok (.iadd, 1) := by decide +kernel
theorem d703 : decode y35_ 21 = .ok (.i2c, 1) := by decide +kernel
theorem d704 : decode y35_ 22 = .ok (.castore, 1) := by decide +kernel
theorem d705 : decode y35_ 23 = .ok (.iload_n 1, 1) := by decide +kernel
theorem d706 : decode y35_ 24 = .ok (.iconst 1, 1) := by decide +kernel
theorem d707 : decode y35_ 25 = .ok (.iadd, 1) := by decide +kernel
theorem d708 : decode y35_ 26 = .ok (.ireturn, 1) := by decide +kernel
theorem d709 : decode y35_ 27 = .ok (.iload_n 1, 1) := by decide +kernel
theorem d710 : decode y35_ 28 = .ok (.ireturn, 1) := by decide +kernel
abbrev mn711 : MethodName := ⟨"com/example/limentinus/limentinus/core/KeyLayoutPermitKeyPinLaw", "dig", "([CIJJII)I"⟩
theorem own_dig (l : Launch) (Z : State) (a0 : Array Value) (cx : Ctx Z a0) (ws : List Jvm.Cond) (a : Addr) (ka : ClassId) (ds : List Int32) (n : Nat) (k : Nat) (d : Nat) (vm0 : Vm) (h0 : Heap) (X00 : Ext Z.heap h0) (P0 : Arv Z h0 a ka .char (25 : Int32) (own_ca 25 ds) (.int (0 : Int32))) (P1 : Z.heap.size ≤ a) (hd : (ds.length < 25)) (hle : (n ≤ 2 ^ 31)) (hk : (k ≤ 9)) (hd10 : (d ≤ 10)) :
    Met l mn711 y35_ 8 (some .int) ws ({ frames := 0, cells := 0, slots := 0, locals := 0 } : Room) Z consts_1 vm0 h0 #[(.ref a), (.int (Int32.ofNat ds.length)), (.long (Int64.ofNat n)), (.long (Int64.ofNat (10 ^ k))), (.int (Int32.ofNat d)), (.int (Int32.ofNat k))] (fun rv vm h => rv = some (.int (Int32.ofNat (ds ++ (own_dk d n k)).length)) ∧ Keep h0 h [a] ∧ Arv Z h a ka .char (25 : Int32) (own_ca 25 (ds ++ (own_dk d n k))) (.int (0 : Int32))) := by
  obtain ⟨hw, hEL, ⟨zc, Scs, hzc⟩, ⟨fm, Sfm, hfm⟩, ⟨fe, ft, tt, Sfe, Efe, Fft, Sft⟩, hI0⟩ := id cx
  have hSA := own_SA hw
  refine Met.of_walk (a0 := a0) #[vr a, vi (Int32.ofNat ds.length), .val (.long (Int64.ofNat n)), .second, .val (.long (Int64.ofNat (10 ^ k))), .second, vi (Int32.ofNat d), vi (Int32.ofNat k)] (plainFor_of_name own_pn510) X00 hEL (fun m => by first | (simp [entryFrame, mkF, argsToLocals, Value.category]; done) | rfl) ?_
  intro p e s m below meth c vm hx hby hml hret hnm hC0 hW0
  have lt_a : h0.size > a := P0.lt
  refine uI 2 hx hby d690 rfl rfl ?_
  refine uI 4 hx hby d691 rfl rfl ?_
  by_cases g : (Int32.ofNat k) < (Int32.ofNat d)
  · refine uNc 7 hx hby d692 rfl (tlt g).2.1 ?_
    have hq : k < d := (ltOf (by omega) (by omega)).mp g
    have hdl : (n / 10 ^ k) ≤ 2 ^ 31 := Nat.le_trans (Nat.div_le_self _ _) hle
    refine uAN 8 hx hby d693 rfl rfl rfl ?_
    refine uIN 9 hx hby d694 rfl rfl ?_
    refine uKb 11 (48 : Int32) hx hby d695 rfl rfl ?_
    refine gs (mkF m 12 #[vr a, vi (Int32.ofNat ds.length), .val (.long (Int64.ofNat n)), .second, .val (.long (Int64.ofNat (10 ^ k))), .second, vi (Int32.ofNat d), vi (Int32.ofNat k)] [(.long (Int64.ofNat n)), (.int (48 : Int32)), (.int (Int32.ofNat ds.length)), (.ref a)]) (fun _ _ A kq => XS.lloadN A hx rfl (hb hby d696) rfl  kq) ?_
    refine gs (mkF m 14 #[vr a, vi (Int32.ofNat ds.length), .val (.long (Int64.ofNat n)), .second, .val (.long (Int64.ofNat (10 ^ k))), .second, vi (Int32.ofNat d), vi (Int32.ofNat k)] [(.long (Int64.ofNat (10 ^ k))), (.long (Int64.ofNat n)), (.int (48 : Int32)), (.int (Int32.ofNat ds.length)), (.ref a)]) (fun _ _ A kq => XS.lload A hx rfl (hb hby d697) rfl  kq) ?_
    refine gs (mkF m 15 #[vr a, vi (Int32.ofNat ds.length), .val (.long (Int64.ofNat n)), .second, .val (.long (Int64.ofNat (10 ^ k))), .second, vi (Int32.ofNat d), vi (Int32.ofNat k)] [(.long ((Int64.ofNat n) / (Int64.ofNat (10 ^ k)))), (.int (48 : Int32)), (.int (Int32.ofNat ds.length)), (.ref a)]) (fun _ _ A kq => XS.ldiv A hx rfl (hb hby d698) rfl (own_p10ne hk) kq) ?_
    refine gat (mkF m 15 #[vr a, vi (Int32.ofNat ds.length), .val (.long (Int64.ofNat n)), .second, .val (.long (Int64.ofNat (10 ^ k))), .second, vi (Int32.ofNat d), vi (Int32.ofNat k)] [(.long (Int64.ofNat (n / 10 ^ k))), (.int (48 : Int32)), (.int (Int32.ofNat ds.length)), (.ref a)]) (by rw [own_jdiv hle (Nat.pow_pos (by decide)) (own_p10le hk)]) ?_
    refine gldcJ hx (ow hw 191 rfl) 18 (hb hby d699) rfl ?_
    refine gs (mkF m 19 #[vr a, vi (Int32.ofNat ds.length), .val (.long (Int64.ofNat n)), .second, .val (.long (Int64.ofNat (10 ^ k))), .second, vi (Int32.ofNat d), vi (Int32.ofNat k)] [(.long ((Int64.ofNat (n / 10 ^ k)) - ((Int64.ofNat (n / 10 ^ k)) / (10 : Int64)) * (10 : Int64))), (.int (48 : Int32)), (.int (Int32.ofNat ds.length)), (.ref a)]) (fun _ _ A kq => XS.lrem A hx rfl (hb hby d700) rfl (by decide) kq) ?_
    refine gat (mkF m 19 #[vr a, vi (Int32.ofNat ds.length), .val (.long (Int64.ofNat n)), .second, .val (.long (Int64.ofNat (10 ^ k))), .second, vi (Int32.ofNat d), vi (Int32.ofNat k)] [(.long (Int64.ofNat ((n / 10 ^ k) % 10))), (.int (48 : Int32)), (.int (Int32.ofNat ds.length)), (.ref a)]) (by rw [own_jrem hdl]) ?_
    refine gs (mkF m 20 #[vr a, vi (Int32.ofNat ds.length), .val (.long (Int64.ofNat n)), .second, .val (.long (Int64.ofNat (10 ^ k))), .second, vi (Int32.ofNat d), vi (Int32.ofNat k)] [(.int ((Int64.ofNat ((n / 10 ^ k) % 10)).toInt32)), (.int (48 : Int32)), (.int (Int32.ofNat ds.length)), (.ref a)]) (fun _ _ A kq => XS.l2i A hx rfl (hb hby d701) rfl kq) ?_
    refine gat (mkF m 20 #[vr a, vi (Int32.ofNat ds.length), .val (.long (Int64.ofNat n)), .second, .val (.long (Int64.ofNat (10 ^ k))), .second, vi (Int32.ofNat d), vi (Int32.ofNat k)] [(.int (Int32.ofNat ((n / 10 ^ k) % 10))), (.int (48 : Int32)), (.int (Int32.ofNat ds.length)), (.ref a)]) (by rw [own_j2i (Nat.mod_lt _ (by decide))]) ?_
    refine uiadd 21 ((48 : Int32) + (Int32.ofNat ((n / 10 ^ k) % 10))) hx hby d702 rfl rfl ?_
    refine gat (mkF m 21 #[vr a, vi (Int32.ofNat ds.length), .val (.long (Int64.ofNat n)), .second, .val (.long (Int64.ofNat (10 ^ k))), .second, vi (Int32.ofNat d), vi (Int32.ofNat k)] [(.int (own_dc (n / 10 ^ k))), (.int (Int32.ofNat ds.length)), (.ref a)]) (by rw [own_48]) ?_
    refine gi2c hx (own_dcc _) 22 (hb hby d703) rfl ?_
    refine gstC hx P0 ⟨nn0 (by omega), (ltOf (b := 25) (by omega) (by omega)).mpr (by omega)⟩ (i := ds.length) (tn (by omega)) (by rw [own_cal (by omega)]; omega) (y := (own_dc (n / 10 ^ k))) (own_nardc _) P1 23 (hb hby d704) rfl ?_
    intro h2 W2 C2 V2
    have z2 := C2.2.1
    have X3 : Arv Z h2 a ka .char (25 : Int32) (own_ca 25 (ds ++ [(own_dc (n / 10 ^ k))])) (.int (0 : Int32)) := Eq.mp (congrArg (fun z => Arv Z h2 a ka .char (25 : Int32) z (.int (0 : Int32))) (own_ca1 (by omega))) V2
    refine uIN 24 hx hby d705 rfl rfl ?_
    refine uKc 25 (1 : Int32) hx hby d706 rfl rfl ?_
    refine uiadd 26 ((Int32.ofNat ds.length) + (1 : Int32)) hx hby d707 rfl rfl ?_
    exact gretI hx hret (hb hby d708) (by decide) (by decide) (fun vq Cq => ⟨(congrArg (fun z => some (Value.int z)) (by rw [own_dk, if_pos hq]; exact own_len1 (by omega))), ((Keep.refl h0 [a]).wr W2 (Or.inl (List.mem_of_getElem? (i := 0) rfl))), (by rw [own_dk, if_pos hq]; exact X3)⟩)
  · refine uYc 27 hx hby d692 (flt g).2.1 (by decide) (by decide) ?_
    have hq : ¬ k < d := fun z => g ((ltOf (by omega) (by omega)).mpr z)
    refine uIN 28 hx hby d709 rfl rfl ?_
    exact gretI hx hret (hb hby d710) (by decide) (by decide) (fun vq Cq => ⟨(congrArg (fun z => some (Value.int z)) (by rw [own_dk, if_neg hq, List.append_nil])), (Keep.refl h0 [a]), (by rw [own_dk, if_neg hq, List.append_nil]; exact P0)⟩)
theorem d712 : decode y36_ 0 = .ok (.iload_n 3, 1) := by decide +kernel
theorem d713 : decode y36_ 1 = .ok (.iload_n 2, 1) := by decide +kernel
theorem d714 : decode y36_ 2 = .ok (.if_icmp .ge 14, 3) := by decide +kernel
theorem d715 : decode y36_ 5 = .ok (.aload_n 0, 1) := by decide +kernel
theorem d716 : decode y36_ 6 = .ok (.iload_n 3, 1) := by decide +kernel
theorem d717 : decode y36_ 7 = .ok (.invokevirtual 20, 3) := by decide +kernel
theorem own_pd718 : parseMethodDescriptor "(I)C" = some ⟨[.int], some .char⟩ := by decide +kernel
abbrev mn719 : MethodName := ⟨"java/lang/String", "charAt", "(I)C"⟩
theorem d720 : decode y36_ 10 = .ok (.aload_n 1, 1) := by decide +kernel
theorem d721 : decode y36_ 11 = .ok (.iload_n 3, 1) := by decide +kernel
theorem d722 : decode y36_ 12 = .ok (.caload, 1) := by decide +kernel
theorem d723 : decode y36_ 13 = .ok (.if_icmp .ne 7, 3) := by decide +kernel
theorem d724 : decode y36_ 16 = .ok (.iconst 1, 1) := by decide +kernel
theorem d725 : decode y36_ 17 = .ok (.goto 4, 3) := by decide +kernel
theorem d726 : decode y36_ 21 = .ok (.ireturn, 1) := by decide +kernel
abbrev mn727 : MethodName := ⟨"com/example/limentinus/limentinus/core/KeyLayoutPermitKeyPinLaw", "same", "(Ljava/lang/String;[CII)Z"⟩
theorem own_same (l : Launch) (Z : State) (a0 : Array Value) (cx : Ctx Z a0) (ws : List Jvm.Cond) (r : Addr) (t : Addr) (a : Addr) (ka : ClassId) (ds : List Int32) (q : Nat) (vm0 : Vm) (h0 : Heap) (X00 : Ext Z.heap h0) (P0 : Str Z h0 r t ds) (P1 : Arv Z h0 a ka .char (25 : Int32) (own_ca 25 ds) (.int (0 : Int32))) (hd : (ds.length ≤ 25)) (hq24 : (q ≤ 24)) :
    Met l mn727 y36_ 4 (some .boolean) ws ({ frames := 4, cells := 0, slots := 0, locals := 53 } : Room) Z consts_1 vm0 h0 #[(.ref r), (.ref a), (.int (Int32.ofNat ds.length)), (.int (Int32.ofNat q))] (fun rv vm h => rv = some (.int (1 : Int32)) ∧ h0 = h) := by
  obtain ⟨hw, hEL, ⟨zc, Scs, hzc⟩, ⟨fm, Sfm, hfm⟩, ⟨fe, ft, tt, Sfe, Efe, Fft, Sft⟩, hI0⟩ := id cx
  have hSA := own_SA hw
  refine Met.of_walk (a0 := a0) #[vr r, vr a, vi (Int32.ofNat ds.length), vi (Int32.ofNat q)] (plainFor_of_name own_pn510) X00 hEL (fun m => by first | (simp [entryFrame, mkF, argsToLocals, Value.category]; done) | rfl) ?_
  intro p e s m below meth c vm hx hby hml hret hnm hC0 hW0
  have lt_r : h0.size > r := P0.1.lt
  have lt_t : h0.size > t := P0.tlt
  have lt_a : h0.size > a := P1.lt
  refine uIN 1 hx hby d712 rfl rfl ?_
  refine uIN 2 hx hby d713 rfl rfl ?_
  by_cases g : (Int32.ofNat q) < (Int32.ofNat ds.length)
  · refine uNc 5 hx hby d714 rfl (tlt g).2.1 ?_
    have hq : q < ds.length := (ltOf (by omega) (by omega)).mp g
    refine uAN 6 hx hby d715 rfl rfl rfl ?_
    refine uIN 7 hx hby d716 rfl rfl ?_
    refine ginfo fun _ _ O1 => ?_
    refine gcallV (y := mn719) (z := mn719) hx (ow hw 207 rfl) (ow hw 208 rfl) (nfSel (ow hw 210 rfl)) (ow hw 210 rfl) (ow hw 209 rfl) (by decide) (fun hZ H hEL => own_payChN (W := 0) (own_wChN hw) (ow hw 5 rfl) Scs hzc Sfm hfm O1 (i := q) (y := (ds.getD q 0)) P0 hq rfl rfl (by decide) (by decide) hZ H hEL) 10 (argsL := [(.int (Int32.ofNat q))]) (rest := []) P0.1 (lenOf own_pd718 rfl) rfl rfl (Nat.le_of_eq rfl) (by rw [hml]; rfl) (hb hby d717) rfl (by decide) (by decide) ?_
    rintro _ vm1 h1 C1 ⟨rfl, rfl⟩
    have z1 := C1.2.1
    refine gat1 ?_
    refine uAN 11 hx hby d720 rfl rfl rfl ?_
    refine uIN 12 hx hby d721 rfl rfl ?_
    refine gldC hx P1 ⟨nn0 (by omega), (ltOf (b := 25) (by omega) (by omega)).mpr (by omega)⟩ (i := q) (tn (by omega)) (v := (.int (ds.getD q 0))) (own_cag hq) 13 (hb hby d722) rfl ?_
    refine uNc 16 hx hby d723 rfl (teq rfl).2 ?_
    refine uKc 17 (1 : Int32) hx hby d724 rfl rfl ?_
    refine uG 21 hx hby d725 (by decide) (by decide) ?_
    exact gretN (t := .boolean) hx hret (by simp) (hb hby d726) (by decide) (by decide) (fun vq Cq => ⟨rfl, rfl⟩)
  · refine uYc 16 hx hby d714 (flt g).2.1 (by decide) (by decide) ?_
    skip
    refine uKc 17 (1 : Int32) hx hby d724 rfl rfl ?_
    refine uG 21 hx hby d725 (by decide) (by decide) ?_
    exact gretN (t := .boolean) hx hret (by simp) (hb hby d726) (by decide) (by decide) (fun vq Cq => ⟨rfl, rfl⟩)
theorem own_e0 {x0 x1 x2 : Int32} (h : ¬ x2 < 0) : ((((((((((([] : List Int32) ++ (own_id x0)) ++ (own_id x1)) ++ [(58 : Int32)]) ++ [(112 : Int32)]) ++ [(101 : Int32)]) ++ [(114 : Int32)]) ++ [(109 : Int32)]) ++ [(105 : Int32)]) ++ [(116 : Int32)]) ++ [(58 : Int32)]) = ((own_pre (own_id x0) (own_id x1)) ++ own_sl x2) := by rw [own_sl, if_neg h, own_pre]; simp
theorem own_e1 {x0 x1 x2 : Int32} (h : x2 < 0) : (((((((((((([] : List Int32) ++ (own_id x0)) ++ (own_id x1)) ++ [(58 : Int32)]) ++ [(112 : Int32)]) ++ [(101 : Int32)]) ++ [(114 : Int32)]) ++ [(109 : Int32)]) ++ [(105 : Int32)]) ++ [(116 : Int32)]) ++ [(58 : Int32)]) ++ [(45 : Int32)]) = ((own_pre (own_id x0) (own_id x1)) ++ own_sl x2) := by rw [own_sl, if_pos h, own_pre]; simp
theorem own_preL {a b : List Int32} : (own_pre a b).length = a.length + b.length + 8 := by rw [own_pre]; simp; omega
theorem own_fin (a : List Int32) (x : Int32) : ((a ++ own_sl x) ++ own_dks (own_dn (own_abs x)) (own_abs x) 10) = a ++ own_dec x := by rw [own_dks10, List.append_assoc, ← own_decE]
theorem own_pd728 : parseMethodDescriptor "(I)Ljava/lang/String;" = some ⟨[.int], some (.object "java/lang/String")⟩ := by decide +kernel
theorem own_pd729 : parseMethodDescriptor "(Ljava/lang/String;I)Ljava/lang/String;" = some ⟨[(.object "java/lang/String"), .int], some (.object "java/lang/String")⟩ := by decide +kernel
theorem own_pd730 : parseMethodDescriptor "([CII)I" = some ⟨[(.array .char), .int, .int], some .int⟩ := by decide +kernel
theorem own_pd731 : parseMethodDescriptor "([CIC)I" = some ⟨[(.array .char), .int, .char], some .int⟩ := by decide +kernel
theorem own_pd732 : parseMethodDescriptor "([CIJJII)I" = some ⟨[(.array .char), .int, .long, .long, .int, .int], some .int⟩ := by decide +kernel
theorem own_pd733 : parseMethodDescriptor "(Ljava/lang/String;[CII)Z" = some ⟨[(.object "java/lang/String"), (.array .char), .int, .int], some .boolean⟩ := by decide +kernel
theorem own_law (l : Launch) (Z : State) (a0 : Array Value) (cx : Ctx Z a0) (ws : List Jvm.Cond) (x0 : Int32) (x1 : Int32) (x2 : Int32) (vm0 : Vm) (h0 : Heap) (X00 : Ext Z.heap h0)  :
    Met l x code maxLocals ret ws room_1 Z consts_1 vm0 h0 #[(.int x0), (.int x1), (.int x2)] (fun rv vm h => rv = some (.int (1 : Int32)) ∧ Keep h0 h []) := by
  obtain ⟨hw, hEL, ⟨zc, Scs, hzc⟩, ⟨fm, Sfm, hfm⟩, ⟨fe, ft, tt, Sfe, Efe, Fft, Sft⟩, hI0⟩ := id cx
  have hSA := own_SA hw
  refine Met.of_walk (a0 := a0) #[vi x0, vi x1, vi x2, un, un, un, un, un, un, un, un, un] (plainFor_of_name own_pn510) X00 hEL (fun m => by first | (simp [entryFrame, mkF, argsToLocals, Value.category, maxLocals]; done) | rfl) ?_
  intro p e s m below meth c vm hx hby hml hret hnm hC0 hW0
  have hj0 := own_idL x0
  have hj1 := own_idL x1
  refine uIN 1 hx hby at_0 rfl rfl ?_
  refine ginfo fun _ _ O1 => ?_
  refine gcallS (y := mn587) hx (ow hw 0 rfl) (ow hw 1 rfl) (ow hw 2 rfl) (ow hw 3 rfl) (by decide) (fun hZ H hEL => Pay.of_met (W := 0) (own_mkw l Z a0 cx [] (x0) vm h0 O1 ) (ow hw 3 rfl) (ow hw 2 rfl) (by decide) (by decide) hZ H hEL) 4 (argsL := [(.int x0)]) (rest := []) (lenOf own_pd728 rfl) rfl rfl (Nat.le_of_eq rfl) (by rw [hml]; rfl) (hb hby at_1) rfl (by decide) (by decide) ?_
  rintro _ vm1 h1 C1 ⟨r1, t1, rfl, K1, q1_0, q1_1⟩
  have z1 := C1.2.1
  have lt_r1 : h1.size > r1 := q1_1.1.lt
  have lt_t1 : h1.size > t1 := q1_1.tlt
  refine gat1 ?_
  refine uSAN 5 #[vi x0, vi x1, vi x2, vr r1, un, un, un, un, un, un, un, un] hx hby at_4 rfl rfl rfl ?_
  refine uIN 6 hx hby at_5 rfl rfl ?_
  refine ginfo fun _ _ O2 => ?_
  refine gcallS (y := mn587) hx (ow hw 0 rfl) (ow hw 1 rfl) (ow hw 2 rfl) (ow hw 3 rfl) (by decide) (fun hZ H hEL => Pay.of_met (W := 0) (own_mkw l Z a0 cx [] (x1) vm1 h1 O2 ) (ow hw 3 rfl) (ow hw 2 rfl) (by decide) (by decide) hZ H hEL) 9 (argsL := [(.int x1)]) (rest := []) (lenOf own_pd728 rfl) rfl rfl (Nat.le_of_eq rfl) (by rw [hml]; rfl) (hb hby at_6) rfl (by decide) (by decide) ?_
  rintro _ vm2 h2 C2 ⟨r2, t2, rfl, K2, q2_0, q2_1⟩
  have z2 := C2.2.1
  have lt_r2 : h2.size > r2 := q2_1.1.lt
  have lt_t2 : h2.size > t2 := q2_1.tlt
  refine gat1 ?_
  refine uSA 11 #[vi x0, vi x1, vi x2, vr r1, vr r2, un, un, un, un, un, un, un] hx hby at_9 rfl rfl rfl ?_
  refine gnewO hx (ow hw 26 rfl) (ow hw 27 rfl) (ow hw 28 rfl) 14 (hb hby at_11) rfl (by decide) (by decide) ?_
  intro b3 h3 g3 E3 C3 A3 D3 n3 L3
  have z3 := C3.2.1
  have lt_b3 : h3.size > b3 := A3.lt
  have F3_prefix : Fld Z h3 b3 c1_ "prefix" c0_ .null := D3 (Or.inr (ow hw 40 rfl)) (ty := (.object c4_)) (by decide)
  refine uD 15 hx hby at_14 rfl rfl ?_
  refine uAN 16 hx hby at_15 rfl rfl rfl ?_
  have f5 := ((q1_1.keep K2 nin0 nin0).ext E3)
  refine ginfo fun _ _ O4 => ?_
  refine gcallI (y := mn598) hx rfl (ow hw 29 rfl) (ow hw 30 rfl) (ow hw 31 rfl) (by decide) (fun hZ H hEL => Pay.of_met (W := 1) (own_klinit l Z a0 cx [] (b3) (r1) (.null) (t1) ((own_id x0)) vm2 h3 O4 A3 F3_prefix n3 f5) (ow hw 31 rfl) (ow hw 28 rfl) (by decide) (by decide) hZ H hEL) (a := b3) 19 (argsL := [(.ref r1)]) (rest := [(.ref b3)]) (lenOf own_pd91 rfl) rfl rfl (Nat.le_of_eq rfl) (by rw [hml]; rfl) (hb hby at_16) rfl (by decide) (by decide) ?_
  rintro _ vm4 h4 C4 ⟨rfl, K4, q4_0⟩
  have z4 := C4.2.1
  refine gat0 ?_
  refine uSA 21 #[vi x0, vi x1, vi x2, vr r1, vr r2, vr b3, un, un, un, un, un, un] hx hby at_19 rfl rfl rfl ?_
  refine uA 23 hx hby at_21 rfl rfl rfl ?_
  refine uA 25 hx hby at_23 rfl rfl rfl ?_
  refine uIN 26 hx hby at_25 rfl rfl ?_
  have f7 := (A3.keep K4)
  have f8 := (f5.keep K4 (ninS (Nat.ne_of_lt (by omega)) nin0) (ninS (Nat.ne_of_lt (by omega)) nin0))
  have f9 := ((q2_1.ext E3).keep K4 (ninS (Nat.ne_of_lt (by omega)) nin0) (ninS (Nat.ne_of_lt (by omega)) nin0))
  refine ginfo fun _ _ O6 => ?_
  refine gcallV (y := mn630) (z := mn630) hx (ow hw 41 rfl) (ow hw 42 rfl) (nfSel (ow hw 44 rfl)) (ow hw 44 rfl) (ow hw 43 rfl) (by decide) (fun hZ H hEL => Pay.of_met (W := 0) (own_permit l Z a0 cx [] (b3) (r2) (r1) (t1) ((own_id x0)) (t2) ((own_id x1)) (x2) vm4 h4 O6 f7 q4_0 f8 f9 hj0 hj1) (ow hw 45 rfl) (ow hw 28 rfl) (by decide) (by decide) hZ H hEL) 29 (argsL := [(.ref r2), (.int x2)]) (rest := []) f7 (lenOf own_pd729 rfl) rfl rfl (Nat.le_of_eq rfl) (by rw [hml]; rfl) (hb hby at_26) rfl (by decide) (by decide) ?_
  rintro _ vm6 h6 C6 ⟨r6, t6, rfl, K6, q6_0, q6_1⟩
  have z6 := C6.2.1
  have lt_r6 : h6.size > r6 := q6_1.1.lt
  have lt_t6 : h6.size > t6 := q6_1.tlt
  refine gat1 ?_
  refine uSA 31 #[vi x0, vi x1, vi x2, vr r1, vr r2, vr b3, vr r6, un, un, un, un, un] hx hby at_29 rfl rfl rfl ?_
  refine uKb 33 (25 : Int32) hx hby at_31 rfl rfl ?_
  refine gnewPE hx (ow hw 7 rfl) (n := (25 : Int32)) (by decide) (cap := 25) (by decide) (by decide) (ad := "[C") (by decide) 35 (hb hby at_33) rfl (by decide) (by decide) ?_
  intro b10 h10 k10 g10 E10 C10 V10 A10 n10 L10
  have z10 := C10.2.1
  have V10 : Arv Z h10 b10 k10 .char (25 : Int32) (List.replicate 25 (.int (0 : Int32))) (.int (0 : Int32)) := V10.pad (pad_rep [] (.int (0 : Int32)) 25)
  have lt_b10 : h10.size > b10 := V10.lt
  refine uSA 37 #[vi x0, vi x1, vi x2, vr r1, vr r2, vr b3, vr r6, vr b10, un, un, un, un] hx hby at_35 rfl rfl rfl ?_
  have hi0 := own_idL x0
  have hi1 := own_idL x1
  have hle := own_abs_le x2
  have hdp := own_dn_pos (own_abs x2)
  have hsl := own_sll x2
  have XA : Arv Z h10 b10 k10 .char (25 : Int32) (own_ca 25 ([] : List Int32)) (.int (0 : Int32)) := Eq.mp (congrArg (fun z => Arv Z h10 b10 k10 .char (25 : Int32) z (.int (0 : Int32))) (own_ca0 25)) V10
  refine uKc 38 (0 : Int32) hx hby at_37 rfl rfl ?_
  refine uSI 40 #[vi x0, vi x1, vi x2, vr r1, vr r2, vr b3, vr r6, vr b10, vi (0 : Int32), un, un, un] hx hby at_38 rfl rfl ?_
  refine gat (mkF m 40 #[vi x0, vi x1, vi x2, vr r1, vr r2, vr b3, vr r6, vr b10, vi (Int32.ofNat ([] : List Int32).length), un, un, un] []) rfl ?_
  refine uA 42 hx hby at_40 rfl rfl rfl ?_
  refine uI 44 hx hby at_42 rfl rfl ?_
  refine uIN 45 hx hby at_44 rfl rfl ?_
  refine ginfo fun _ _ O11 => ?_
  refine gcallS (y := mn689) hx (ow hw 185 rfl) (ow hw 186 rfl) (ow hw 2 rfl) (ow hw 187 rfl) (by decide) (fun hZ H hEL => Pay.of_met (W := 0) (own_part l Z a0 cx [] (b10) (k10) (([] : List Int32)) (x0) vm6 h10 O11 XA n10 (by simp only [List.length_append, List.length_cons, List.length_nil]; omega)) (ow hw 187 rfl) (ow hw 2 rfl) (by decide) (by decide) hZ H hEL) 48 (argsL := [(.ref b10), (.int (Int32.ofNat ([] : List Int32).length)), (.int x0)]) (rest := []) (lenOf own_pd730 rfl) rfl rfl (Nat.le_of_eq rfl) (by rw [hml]; rfl) (hb hby at_45) rfl (by decide) (by decide) ?_
  rintro _ vm11 h11 C11 ⟨rfl, K11, q11_0⟩
  have z11 := C11.2.1
  refine gat1 ?_
  refine uSI 50 #[vi x0, vi x1, vi x2, vr r1, vr r2, vr b3, vr r6, vr b10, vi (Int32.ofNat (([] : List Int32) ++ (own_id x0)).length), un, un, un] hx hby at_48 rfl rfl ?_
  refine uA 52 hx hby at_50 rfl rfl rfl ?_
  refine uI 54 hx hby at_52 rfl rfl ?_
  refine uIN 55 hx hby at_54 rfl rfl ?_
  refine ginfo fun _ _ O12 => ?_
  refine gcallS (y := mn689) hx (ow hw 185 rfl) (ow hw 186 rfl) (ow hw 2 rfl) (ow hw 187 rfl) (by decide) (fun hZ H hEL => Pay.of_met (W := 0) (own_part l Z a0 cx [] (b10) (k10) ((([] : List Int32) ++ (own_id x0))) (x1) vm11 h11 O12 q11_0 n10 (by simp only [List.length_append, List.length_cons, List.length_nil]; omega)) (ow hw 187 rfl) (ow hw 2 rfl) (by decide) (by decide) hZ H hEL) 58 (argsL := [(.ref b10), (.int (Int32.ofNat (([] : List Int32) ++ (own_id x0)).length)), (.int x1)]) (rest := []) (lenOf own_pd730 rfl) rfl rfl (Nat.le_of_eq rfl) (by rw [hml]; rfl) (hb hby at_55) rfl (by decide) (by decide) ?_
  rintro _ vm12 h12 C12 ⟨rfl, K12, q12_0⟩
  have z12 := C12.2.1
  refine gat1 ?_
  refine uSI 60 #[vi x0, vi x1, vi x2, vr r1, vr r2, vr b3, vr r6, vr b10, vi (Int32.ofNat ((([] : List Int32) ++ (own_id x0)) ++ (own_id x1)).length), un, un, un] hx hby at_58 rfl rfl ?_
  refine uA 62 hx hby at_60 rfl rfl rfl ?_
  refine uI 64 hx hby at_62 rfl rfl ?_
  refine uKb 66 (58 : Int32) hx hby at_64 rfl rfl ?_
  refine ginfo fun _ _ O13 => ?_
  refine gcallS (y := mn639) hx (ow hw 188 rfl) (ow hw 189 rfl) (ow hw 2 rfl) (ow hw 190 rfl) (by decide) (fun hZ H hEL => Pay.of_met (W := 0) (own_put l Z a0 cx [] (b10) (k10) (((([] : List Int32) ++ (own_id x0)) ++ (own_id x1))) ((58 : Int32)) vm12 h12 O13 q12_0 n10 (by simp only [List.length_append, List.length_cons, List.length_nil]; omega) (by decide)) (ow hw 190 rfl) (ow hw 2 rfl) (by decide) (by decide) hZ H hEL) 69 (argsL := [(.ref b10), (.int (Int32.ofNat ((([] : List Int32) ++ (own_id x0)) ++ (own_id x1)).length)), (.int (58 : Int32))]) (rest := []) (lenOf own_pd731 rfl) rfl rfl (Nat.le_of_eq rfl) (by rw [hml]; rfl) (hb hby at_66) rfl (by decide) (by decide) ?_
  rintro _ vm13 h13 C13 ⟨rfl, K13, q13_0⟩
  have z13 := C13.2.1
  refine gat1 ?_
  refine uSI 71 #[vi x0, vi x1, vi x2, vr r1, vr r2, vr b3, vr r6, vr b10, vi (Int32.ofNat (((([] : List Int32) ++ (own_id x0)) ++ (own_id x1)) ++ [(58 : Int32)]).length), un, un, un] hx hby at_69 rfl rfl ?_
  refine uA 73 hx hby at_71 rfl rfl rfl ?_
  refine uI 75 hx hby at_73 rfl rfl ?_
  refine uKb 77 (112 : Int32) hx hby at_75 rfl rfl ?_
  refine ginfo fun _ _ O14 => ?_
  refine gcallS (y := mn639) hx (ow hw 188 rfl) (ow hw 189 rfl) (ow hw 2 rfl) (ow hw 190 rfl) (by decide) (fun hZ H hEL => Pay.of_met (W := 0) (own_put l Z a0 cx [] (b10) (k10) ((((([] : List Int32) ++ (own_id x0)) ++ (own_id x1)) ++ [(58 : Int32)])) ((112 : Int32)) vm13 h13 O14 q13_0 n10 (by simp only [List.length_append, List.length_cons, List.length_nil]; omega) (by decide)) (ow hw 190 rfl) (ow hw 2 rfl) (by decide) (by decide) hZ H hEL) 80 (argsL := [(.ref b10), (.int (Int32.ofNat (((([] : List Int32) ++ (own_id x0)) ++ (own_id x1)) ++ [(58 : Int32)]).length)), (.int (112 : Int32))]) (rest := []) (lenOf own_pd731 rfl) rfl rfl (Nat.le_of_eq rfl) (by rw [hml]; rfl) (hb hby at_77) rfl (by decide) (by decide) ?_
  rintro _ vm14 h14 C14 ⟨rfl, K14, q14_0⟩
  have z14 := C14.2.1
  refine gat1 ?_
  refine uSI 82 #[vi x0, vi x1, vi x2, vr r1, vr r2, vr b3, vr r6, vr b10, vi (Int32.ofNat ((((([] : List Int32) ++ (own_id x0)) ++ (own_id x1)) ++ [(58 : Int32)]) ++ [(112 : Int32)]).length), un, un, un] hx hby at_80 rfl rfl ?_
  refine uA 84 hx hby at_82 rfl rfl rfl ?_
  refine uI 86 hx hby at_84 rfl rfl ?_
  refine uKb 88 (101 : Int32) hx hby at_86 rfl rfl ?_
  refine ginfo fun _ _ O15 => ?_
  refine gcallS (y := mn639) hx (ow hw 188 rfl) (ow hw 189 rfl) (ow hw 2 rfl) (ow hw 190 rfl) (by decide) (fun hZ H hEL => Pay.of_met (W := 0) (own_put l Z a0 cx [] (b10) (k10) (((((([] : List Int32) ++ (own_id x0)) ++ (own_id x1)) ++ [(58 : Int32)]) ++ [(112 : Int32)])) ((101 : Int32)) vm14 h14 O15 q14_0 n10 (by simp only [List.length_append, List.length_cons, List.length_nil]; omega) (by decide)) (ow hw 190 rfl) (ow hw 2 rfl) (by decide) (by decide) hZ H hEL) 91 (argsL := [(.ref b10), (.int (Int32.ofNat ((((([] : List Int32) ++ (own_id x0)) ++ (own_id x1)) ++ [(58 : Int32)]) ++ [(112 : Int32)]).length)), (.int (101 : Int32))]) (rest := []) (lenOf own_pd731 rfl) rfl rfl (Nat.le_of_eq rfl) (by rw [hml]; rfl) (hb hby at_88) rfl (by decide) (by decide) ?_
  rintro _ vm15 h15 C15 ⟨rfl, K15, q15_0⟩
  have z15 := C15.2.1
  refine gat1 ?_
  refine uSI 93 #[vi x0, vi x1, vi x2, vr r1, vr r2, vr b3, vr r6, vr b10, vi (Int32.ofNat (((((([] : List Int32) ++ (own_id x0)) ++ (own_id x1)) ++ [(58 : Int32)]) ++ [(112 : Int32)]) ++ [(101 : Int32)]).length), un, un, un] hx hby at_91 rfl rfl ?_
  refine uA 95 hx hby at_93 rfl rfl rfl ?_
  refine uI 97 hx hby at_95 rfl rfl ?_
  refine uKb 99 (114 : Int32) hx hby at_97 rfl rfl ?_
  refine ginfo fun _ _ O16 => ?_
  refine gcallS (y := mn639) hx (ow hw 188 rfl) (ow hw 189 rfl) (ow hw 2 rfl) (ow hw 190 rfl) (by decide) (fun hZ H hEL => Pay.of_met (W := 0) (own_put l Z a0 cx [] (b10) (k10) ((((((([] : List Int32) ++ (own_id x0)) ++ (own_id x1)) ++ [(58 : Int32)]) ++ [(112 : Int32)]) ++ [(101 : Int32)])) ((114 : Int32)) vm15 h15 O16 q15_0 n10 (by simp only [List.length_append, List.length_cons, List.length_nil]; omega) (by decide)) (ow hw 190 rfl) (ow hw 2 rfl) (by decide) (by decide) hZ H hEL) 102 (argsL := [(.ref b10), (.int (Int32.ofNat (((((([] : List Int32) ++ (own_id x0)) ++ (own_id x1)) ++ [(58 : Int32)]) ++ [(112 : Int32)]) ++ [(101 : Int32)]).length)), (.int (114 : Int32))]) (rest := []) (lenOf own_pd731 rfl) rfl rfl (Nat.le_of_eq rfl) (by rw [hml]; rfl) (hb hby at_99) rfl (by decide) (by decide) ?_
  rintro _ vm16 h16 C16 ⟨rfl, K16, q16_0⟩
  have z16 := C16.2.1
  refine gat1 ?_
  refine uSI 104 #[vi x0, vi x1, vi x2, vr r1, vr r2, vr b3, vr r6, vr b10, vi (Int32.ofNat ((((((([] : List Int32) ++ (own_id x0)) ++ (own_id x1)) ++ [(58 : Int32)]) ++ [(112 : Int32)]) ++ [(101 : Int32)]) ++ [(114 : Int32)]).length), un, un, un] hx hby at_102 rfl rfl ?_
  refine uA 106 hx hby at_104 rfl rfl rfl ?_
  refine uI 108 hx hby at_106 rfl rfl ?_
  refine uKb 110 (109 : Int32) hx hby at_108 rfl rfl ?_
  refine ginfo fun _ _ O17 => ?_
  refine gcallS (y := mn639) hx (ow hw 188 rfl) (ow hw 189 rfl) (ow hw 2 rfl) (ow hw 190 rfl) (by decide) (fun hZ H hEL => Pay.of_met (W := 0) (own_put l Z a0 cx [] (b10) (k10) (((((((([] : List Int32) ++ (own_id x0)) ++ (own_id x1)) ++ [(58 : Int32)]) ++ [(112 : Int32)]) ++ [(101 : Int32)]) ++ [(114 : Int32)])) ((109 : Int32)) vm16 h16 O17 q16_0 n10 (by simp only [List.length_append, List.length_cons, List.length_nil]; omega) (by decide)) (ow hw 190 rfl) (ow hw 2 rfl) (by decide) (by decide) hZ H hEL) 113 (argsL := [(.ref b10), (.int (Int32.ofNat ((((((([] : List Int32) ++ (own_id x0)) ++ (own_id x1)) ++ [(58 : Int32)]) ++ [(112 : Int32)]) ++ [(101 : Int32)]) ++ [(114 : Int32)]).length)), (.int (109 : Int32))]) (rest := []) (lenOf own_pd731 rfl) rfl rfl (Nat.le_of_eq rfl) (by rw [hml]; rfl) (hb hby at_110) rfl (by decide) (by decide) ?_
  rintro _ vm17 h17 C17 ⟨rfl, K17, q17_0⟩
  have z17 := C17.2.1
  refine gat1 ?_
  refine uSI 115 #[vi x0, vi x1, vi x2, vr r1, vr r2, vr b3, vr r6, vr b10, vi (Int32.ofNat (((((((([] : List Int32) ++ (own_id x0)) ++ (own_id x1)) ++ [(58 : Int32)]) ++ [(112 : Int32)]) ++ [(101 : Int32)]) ++ [(114 : Int32)]) ++ [(109 : Int32)]).length), un, un, un] hx hby at_113 rfl rfl ?_
  refine uA 117 hx hby at_115 rfl rfl rfl ?_
  refine uI 119 hx hby at_117 rfl rfl ?_
  refine uKb 121 (105 : Int32) hx hby at_119 rfl rfl ?_
  refine ginfo fun _ _ O18 => ?_
  refine gcallS (y := mn639) hx (ow hw 188 rfl) (ow hw 189 rfl) (ow hw 2 rfl) (ow hw 190 rfl) (by decide) (fun hZ H hEL => Pay.of_met (W := 0) (own_put l Z a0 cx [] (b10) (k10) ((((((((([] : List Int32) ++ (own_id x0)) ++ (own_id x1)) ++ [(58 : Int32)]) ++ [(112 : Int32)]) ++ [(101 : Int32)]) ++ [(114 : Int32)]) ++ [(109 : Int32)])) ((105 : Int32)) vm17 h17 O18 q17_0 n10 (by simp only [List.length_append, List.length_cons, List.length_nil]; omega) (by decide)) (ow hw 190 rfl) (ow hw 2 rfl) (by decide) (by decide) hZ H hEL) 124 (argsL := [(.ref b10), (.int (Int32.ofNat (((((((([] : List Int32) ++ (own_id x0)) ++ (own_id x1)) ++ [(58 : Int32)]) ++ [(112 : Int32)]) ++ [(101 : Int32)]) ++ [(114 : Int32)]) ++ [(109 : Int32)]).length)), (.int (105 : Int32))]) (rest := []) (lenOf own_pd731 rfl) rfl rfl (Nat.le_of_eq rfl) (by rw [hml]; rfl) (hb hby at_121) rfl (by decide) (by decide) ?_
  rintro _ vm18 h18 C18 ⟨rfl, K18, q18_0⟩
  have z18 := C18.2.1
  refine gat1 ?_
  refine uSI 126 #[vi x0, vi x1, vi x2, vr r1, vr r2, vr b3, vr r6, vr b10, vi (Int32.ofNat ((((((((([] : List Int32) ++ (own_id x0)) ++ (own_id x1)) ++ [(58 : Int32)]) ++ [(112 : Int32)]) ++ [(101 : Int32)]) ++ [(114 : Int32)]) ++ [(109 : Int32)]) ++ [(105 : Int32)]).length), un, un, un] hx hby at_124 rfl rfl ?_
  refine uA 128 hx hby at_126 rfl rfl rfl ?_
  refine uI 130 hx hby at_128 rfl rfl ?_
  refine uKb 132 (116 : Int32) hx hby at_130 rfl rfl ?_
  refine ginfo fun _ _ O19 => ?_
  refine gcallS (y := mn639) hx (ow hw 188 rfl) (ow hw 189 rfl) (ow hw 2 rfl) (ow hw 190 rfl) (by decide) (fun hZ H hEL => Pay.of_met (W := 0) (own_put l Z a0 cx [] (b10) (k10) (((((((((([] : List Int32) ++ (own_id x0)) ++ (own_id x1)) ++ [(58 : Int32)]) ++ [(112 : Int32)]) ++ [(101 : Int32)]) ++ [(114 : Int32)]) ++ [(109 : Int32)]) ++ [(105 : Int32)])) ((116 : Int32)) vm18 h18 O19 q18_0 n10 (by simp only [List.length_append, List.length_cons, List.length_nil]; omega) (by decide)) (ow hw 190 rfl) (ow hw 2 rfl) (by decide) (by decide) hZ H hEL) 135 (argsL := [(.ref b10), (.int (Int32.ofNat ((((((((([] : List Int32) ++ (own_id x0)) ++ (own_id x1)) ++ [(58 : Int32)]) ++ [(112 : Int32)]) ++ [(101 : Int32)]) ++ [(114 : Int32)]) ++ [(109 : Int32)]) ++ [(105 : Int32)]).length)), (.int (116 : Int32))]) (rest := []) (lenOf own_pd731 rfl) rfl rfl (Nat.le_of_eq rfl) (by rw [hml]; rfl) (hb hby at_132) rfl (by decide) (by decide) ?_
  rintro _ vm19 h19 C19 ⟨rfl, K19, q19_0⟩
  have z19 := C19.2.1
  refine gat1 ?_
  refine uSI 137 #[vi x0, vi x1, vi x2, vr r1, vr r2, vr b3, vr r6, vr b10, vi (Int32.ofNat (((((((((([] : List Int32) ++ (own_id x0)) ++ (own_id x1)) ++ [(58 : Int32)]) ++ [(112 : Int32)]) ++ [(101 : Int32)]) ++ [(114 : Int32)]) ++ [(109 : Int32)]) ++ [(105 : Int32)]) ++ [(116 : Int32)]).length), un, un, un] hx hby at_135 rfl rfl ?_
  refine uA 139 hx hby at_137 rfl rfl rfl ?_
  refine uI 141 hx hby at_139 rfl rfl ?_
  refine uKb 143 (58 : Int32) hx hby at_141 rfl rfl ?_
  refine ginfo fun _ _ O20 => ?_
  refine gcallS (y := mn639) hx (ow hw 188 rfl) (ow hw 189 rfl) (ow hw 2 rfl) (ow hw 190 rfl) (by decide) (fun hZ H hEL => Pay.of_met (W := 0) (own_put l Z a0 cx [] (b10) (k10) ((((((((((([] : List Int32) ++ (own_id x0)) ++ (own_id x1)) ++ [(58 : Int32)]) ++ [(112 : Int32)]) ++ [(101 : Int32)]) ++ [(114 : Int32)]) ++ [(109 : Int32)]) ++ [(105 : Int32)]) ++ [(116 : Int32)])) ((58 : Int32)) vm19 h19 O20 q19_0 n10 (by simp only [List.length_append, List.length_cons, List.length_nil]; omega) (by decide)) (ow hw 190 rfl) (ow hw 2 rfl) (by decide) (by decide) hZ H hEL) 146 (argsL := [(.ref b10), (.int (Int32.ofNat (((((((((([] : List Int32) ++ (own_id x0)) ++ (own_id x1)) ++ [(58 : Int32)]) ++ [(112 : Int32)]) ++ [(101 : Int32)]) ++ [(114 : Int32)]) ++ [(109 : Int32)]) ++ [(105 : Int32)]) ++ [(116 : Int32)]).length)), (.int (58 : Int32))]) (rest := []) (lenOf own_pd731 rfl) rfl rfl (Nat.le_of_eq rfl) (by rw [hml]; rfl) (hb hby at_143) rfl (by decide) (by decide) ?_
  rintro _ vm20 h20 C20 ⟨rfl, K20, q20_0⟩
  have z20 := C20.2.1
  refine gat1 ?_
  refine uSI 148 #[vi x0, vi x1, vi x2, vr r1, vr r2, vr b3, vr r6, vr b10, vi (Int32.ofNat ((((((((((([] : List Int32) ++ (own_id x0)) ++ (own_id x1)) ++ [(58 : Int32)]) ++ [(112 : Int32)]) ++ [(101 : Int32)]) ++ [(114 : Int32)]) ++ [(109 : Int32)]) ++ [(105 : Int32)]) ++ [(116 : Int32)]) ++ [(58 : Int32)]).length), un, un, un] hx hby at_146 rfl rfl ?_
  refine uIN 149 hx hby at_148 rfl rfl ?_
  refine gs (mkF m 150 #[vi x0, vi x1, vi x2, vr r1, vr r2, vr b3, vr r6, vr b10, vi (Int32.ofNat ((((((((((([] : List Int32) ++ (own_id x0)) ++ (own_id x1)) ++ [(58 : Int32)]) ++ [(112 : Int32)]) ++ [(101 : Int32)]) ++ [(114 : Int32)]) ++ [(109 : Int32)]) ++ [(105 : Int32)]) ++ [(116 : Int32)]) ++ [(58 : Int32)]).length), un, un, un] [(.long (x2.toInt64))]) (fun _ _ A kq => XS.i2l A hx rfl (hb hby at_149) rfl kq) ?_
  refine gs (mkF m 152 #[vi x0, vi x1, vi x2, vr r1, vr r2, vr b3, vr r6, vr b10, vi (Int32.ofNat ((((((((((([] : List Int32) ++ (own_id x0)) ++ (own_id x1)) ++ [(58 : Int32)]) ++ [(112 : Int32)]) ++ [(101 : Int32)]) ++ [(114 : Int32)]) ++ [(109 : Int32)]) ++ [(105 : Int32)]) ++ [(116 : Int32)]) ++ [(58 : Int32)]).length), .val (.long (x2.toInt64)), .second, un] []) (fun _ _ A kq => XS.lstore A hx rfl (hb hby at_150) rfl (l' := #[vi x0, vi x1, vi x2, vr r1, vr r2, vr b3, vr r6, vr b10, vi (Int32.ofNat ((((((((((([] : List Int32) ++ (own_id x0)) ++ (own_id x1)) ++ [(58 : Int32)]) ++ [(112 : Int32)]) ++ [(101 : Int32)]) ++ [(114 : Int32)]) ++ [(109 : Int32)]) ++ [(105 : Int32)]) ++ [(116 : Int32)]) ++ [(58 : Int32)]).length), .val (.long (x2.toInt64)), .second, un]) rfl kq) ?_
  refine gjoin (fun vmJ hJ gJ => ∃ (es21 : List Int32), ∃ (b821 : Int32), ∃ (n921 : Int64), gJ = (mkF m 175 #[vi x0, vi x1, vi x2, vr r1, vr r2, vr b3, vr r6, vr b10, vi b821, .val (.long n921), .second, un] []) ∧ Keep h20 hJ [b10] ∧ CHr Z consts_1 vm20 h20 vmJ hJ ∧ Arv Z hJ b10 k10 .char (25 : Int32) (own_ca 25 es21) (.int (0 : Int32)) ∧ (es21 = ((own_pre (own_id x0) (own_id x1)) ++ own_sl x2)) ∧ (b821 = Int32.ofNat es21.length) ∧ (n921 = Int64.ofNat (own_abs x2))) 25 224 ?_ ?_
  · rintro vm21 h21 _ ⟨es21, b821, n921, rfl, K21, C21, q21_0, q21_1, q21_2, q21_3⟩
    have z21 := C21.2.1
    subst q21_1
    refine gat (mkF m 175 #[vi x0, vi x1, vi x2, vr r1, vr r2, vr b3, vr r6, vr b10, vi (Int32.ofNat ((own_pre (own_id x0) (own_id x1)) ++ own_sl x2).length), .val (.long (Int64.ofNat (own_abs x2))), .second, un] []) (by rw [q21_2, q21_3]) ?_
    have hpl := own_preL (a := own_id x0) (b := own_id x1)
    refine uKc 176 (1 : Int32) hx hby at_175 rfl rfl ?_
    refine uSI 178 #[vi x0, vi x1, vi x2, vr r1, vr r2, vr b3, vr r6, vr b10, vi (Int32.ofNat ((own_pre (own_id x0) (own_id x1)) ++ own_sl x2).length), .val (.long (Int64.ofNat (own_abs x2))), .second, vi (1 : Int32)] hx hby at_176 rfl rfl ?_
    refine gat (mkF m 178 #[vi x0, vi x1, vi x2, vr r1, vr r2, vr b3, vr r6, vr b10, vi (Int32.ofNat ((own_pre (own_id x0) (own_id x1)) ++ own_sl x2).length), .val (.long (Int64.ofNat (own_abs x2))), .second, vi (Int32.ofNat (own_nd 0 (own_abs x2)))] []) rfl ?_
    refine gjoin (fun vmJ hJ gJ => ∃ (d1_23 : Int32), gJ = (mkF m 190 #[vi x0, vi x1, vi x2, vr r1, vr r2, vr b3, vr r6, vr b10, vi (Int32.ofNat ((own_pre (own_id x0) (own_id x1)) ++ own_sl x2).length), .val (.long (Int64.ofNat (own_abs x2))), .second, vi d1_23] []) ∧ Keep h21 hJ [] ∧ CHr Z consts_1 vm21 h21 vmJ hJ ∧ (d1_23 = (Int32.ofNat (own_nd 1 (own_abs x2))))) 25 224 ?_ ?_
    · rintro vm23 h23 _ ⟨d1_23, rfl, K23, C23, q23_0⟩
      have z23 := C23.2.1
      refine gat (mkF m 190 #[vi x0, vi x1, vi x2, vr r1, vr r2, vr b3, vr r6, vr b10, vi (Int32.ofNat ((own_pre (own_id x0) (own_id x1)) ++ own_sl x2).length), .val (.long (Int64.ofNat (own_abs x2))), .second, vi (Int32.ofNat (own_nd 1 (own_abs x2)))] []) (by rw [q23_0]) ?_
      refine gjoin (fun vmJ hJ gJ => ∃ (d2_25 : Int32), gJ = (mkF m 202 #[vi x0, vi x1, vi x2, vr r1, vr r2, vr b3, vr r6, vr b10, vi (Int32.ofNat ((own_pre (own_id x0) (own_id x1)) ++ own_sl x2).length), .val (.long (Int64.ofNat (own_abs x2))), .second, vi d2_25] []) ∧ Keep h23 hJ [] ∧ CHr Z consts_1 vm23 h23 vmJ hJ ∧ (d2_25 = (Int32.ofNat (own_nd 2 (own_abs x2))))) 25 224 ?_ ?_
      · rintro vm25 h25 _ ⟨d2_25, rfl, K25, C25, q25_0⟩
        have z25 := C25.2.1
        refine gat (mkF m 202 #[vi x0, vi x1, vi x2, vr r1, vr r2, vr b3, vr r6, vr b10, vi (Int32.ofNat ((own_pre (own_id x0) (own_id x1)) ++ own_sl x2).length), .val (.long (Int64.ofNat (own_abs x2))), .second, vi (Int32.ofNat (own_nd 2 (own_abs x2)))] []) (by rw [q25_0]) ?_
        refine gjoin (fun vmJ hJ gJ => ∃ (d3_27 : Int32), gJ = (mkF m 214 #[vi x0, vi x1, vi x2, vr r1, vr r2, vr b3, vr r6, vr b10, vi (Int32.ofNat ((own_pre (own_id x0) (own_id x1)) ++ own_sl x2).length), .val (.long (Int64.ofNat (own_abs x2))), .second, vi d3_27] []) ∧ Keep h25 hJ [] ∧ CHr Z consts_1 vm25 h25 vmJ hJ ∧ (d3_27 = (Int32.ofNat (own_nd 3 (own_abs x2))))) 25 224 ?_ ?_
        · rintro vm27 h27 _ ⟨d3_27, rfl, K27, C27, q27_0⟩
          have z27 := C27.2.1
          refine gat (mkF m 214 #[vi x0, vi x1, vi x2, vr r1, vr r2, vr b3, vr r6, vr b10, vi (Int32.ofNat ((own_pre (own_id x0) (own_id x1)) ++ own_sl x2).length), .val (.long (Int64.ofNat (own_abs x2))), .second, vi (Int32.ofNat (own_nd 3 (own_abs x2)))] []) (by rw [q27_0]) ?_
          refine gjoin (fun vmJ hJ gJ => ∃ (d4_29 : Int32), gJ = (mkF m 226 #[vi x0, vi x1, vi x2, vr r1, vr r2, vr b3, vr r6, vr b10, vi (Int32.ofNat ((own_pre (own_id x0) (own_id x1)) ++ own_sl x2).length), .val (.long (Int64.ofNat (own_abs x2))), .second, vi d4_29] []) ∧ Keep h27 hJ [] ∧ CHr Z consts_1 vm27 h27 vmJ hJ ∧ (d4_29 = (Int32.ofNat (own_nd 4 (own_abs x2))))) 25 224 ?_ ?_
          · rintro vm29 h29 _ ⟨d4_29, rfl, K29, C29, q29_0⟩
            have z29 := C29.2.1
            refine gat (mkF m 226 #[vi x0, vi x1, vi x2, vr r1, vr r2, vr b3, vr r6, vr b10, vi (Int32.ofNat ((own_pre (own_id x0) (own_id x1)) ++ own_sl x2).length), .val (.long (Int64.ofNat (own_abs x2))), .second, vi (Int32.ofNat (own_nd 4 (own_abs x2)))] []) (by rw [q29_0]) ?_
            refine gjoin (fun vmJ hJ gJ => ∃ (d5_31 : Int32), gJ = (mkF m 239 #[vi x0, vi x1, vi x2, vr r1, vr r2, vr b3, vr r6, vr b10, vi (Int32.ofNat ((own_pre (own_id x0) (own_id x1)) ++ own_sl x2).length), .val (.long (Int64.ofNat (own_abs x2))), .second, vi d5_31] []) ∧ Keep h29 hJ [] ∧ CHr Z consts_1 vm29 h29 vmJ hJ ∧ (d5_31 = (Int32.ofNat (own_nd 5 (own_abs x2))))) 25 224 ?_ ?_
            · rintro vm31 h31 _ ⟨d5_31, rfl, K31, C31, q31_0⟩
              have z31 := C31.2.1
              refine gat (mkF m 239 #[vi x0, vi x1, vi x2, vr r1, vr r2, vr b3, vr r6, vr b10, vi (Int32.ofNat ((own_pre (own_id x0) (own_id x1)) ++ own_sl x2).length), .val (.long (Int64.ofNat (own_abs x2))), .second, vi (Int32.ofNat (own_nd 5 (own_abs x2)))] []) (by rw [q31_0]) ?_
              refine gjoin (fun vmJ hJ gJ => ∃ (d6_33 : Int32), gJ = (mkF m 252 #[vi x0, vi x1, vi x2, vr r1, vr r2, vr b3, vr r6, vr b10, vi (Int32.ofNat ((own_pre (own_id x0) (own_id x1)) ++ own_sl x2).length), .val (.long (Int64.ofNat (own_abs x2))), .second, vi d6_33] []) ∧ Keep h31 hJ [] ∧ CHr Z consts_1 vm31 h31 vmJ hJ ∧ (d6_33 = (Int32.ofNat (own_nd 6 (own_abs x2))))) 25 224 ?_ ?_
              · rintro vm33 h33 _ ⟨d6_33, rfl, K33, C33, q33_0⟩
                have z33 := C33.2.1
                refine gat (mkF m 252 #[vi x0, vi x1, vi x2, vr r1, vr r2, vr b3, vr r6, vr b10, vi (Int32.ofNat ((own_pre (own_id x0) (own_id x1)) ++ own_sl x2).length), .val (.long (Int64.ofNat (own_abs x2))), .second, vi (Int32.ofNat (own_nd 6 (own_abs x2)))] []) (by rw [q33_0]) ?_
                refine gjoin (fun vmJ hJ gJ => ∃ (d7_35 : Int32), gJ = (mkF m 265 #[vi x0, vi x1, vi x2, vr r1, vr r2, vr b3, vr r6, vr b10, vi (Int32.ofNat ((own_pre (own_id x0) (own_id x1)) ++ own_sl x2).length), .val (.long (Int64.ofNat (own_abs x2))), .second, vi d7_35] []) ∧ Keep h33 hJ [] ∧ CHr Z consts_1 vm33 h33 vmJ hJ ∧ (d7_35 = (Int32.ofNat (own_nd 7 (own_abs x2))))) 25 224 ?_ ?_
                · rintro vm35 h35 _ ⟨d7_35, rfl, K35, C35, q35_0⟩
                  have z35 := C35.2.1
                  refine gat (mkF m 265 #[vi x0, vi x1, vi x2, vr r1, vr r2, vr b3, vr r6, vr b10, vi (Int32.ofNat ((own_pre (own_id x0) (own_id x1)) ++ own_sl x2).length), .val (.long (Int64.ofNat (own_abs x2))), .second, vi (Int32.ofNat (own_nd 7 (own_abs x2)))] []) (by rw [q35_0]) ?_
                  refine gjoin (fun vmJ hJ gJ => ∃ (d8_37 : Int32), gJ = (mkF m 278 #[vi x0, vi x1, vi x2, vr r1, vr r2, vr b3, vr r6, vr b10, vi (Int32.ofNat ((own_pre (own_id x0) (own_id x1)) ++ own_sl x2).length), .val (.long (Int64.ofNat (own_abs x2))), .second, vi d8_37] []) ∧ Keep h35 hJ [] ∧ CHr Z consts_1 vm35 h35 vmJ hJ ∧ (d8_37 = (Int32.ofNat (own_nd 8 (own_abs x2))))) 25 224 ?_ ?_
                  · rintro vm37 h37 _ ⟨d8_37, rfl, K37, C37, q37_0⟩
                    have z37 := C37.2.1
                    refine gat (mkF m 278 #[vi x0, vi x1, vi x2, vr r1, vr r2, vr b3, vr r6, vr b10, vi (Int32.ofNat ((own_pre (own_id x0) (own_id x1)) ++ own_sl x2).length), .val (.long (Int64.ofNat (own_abs x2))), .second, vi (Int32.ofNat (own_nd 8 (own_abs x2)))] []) (by rw [q37_0]) ?_
                    refine gjoin (fun vmJ hJ gJ => ∃ (d9_39 : Int32), gJ = (mkF m 291 #[vi x0, vi x1, vi x2, vr r1, vr r2, vr b3, vr r6, vr b10, vi (Int32.ofNat ((own_pre (own_id x0) (own_id x1)) ++ own_sl x2).length), .val (.long (Int64.ofNat (own_abs x2))), .second, vi d9_39] []) ∧ Keep h37 hJ [] ∧ CHr Z consts_1 vm37 h37 vmJ hJ ∧ (d9_39 = (Int32.ofNat (own_nd 9 (own_abs x2))))) 25 224 ?_ ?_
                    · rintro vm39 h39 _ ⟨d9_39, rfl, K39, C39, q39_0⟩
                      have z39 := C39.2.1
                      refine gat (mkF m 291 #[vi x0, vi x1, vi x2, vr r1, vr r2, vr b3, vr r6, vr b10, vi (Int32.ofNat ((own_pre (own_id x0) (own_id x1)) ++ own_sl x2).length), .val (.long (Int64.ofNat (own_abs x2))), .second, vi (Int32.ofNat (own_dn (own_abs x2)))] []) (by rw [q39_0, own_nd9]) ?_
                      have hks := own_dksl (own_dn (own_abs x2)) (own_abs x2)
                      have ed0 : ((own_pre (own_id x0) (own_id x1)) ++ own_sl x2) = (((own_pre (own_id x0) (own_id x1)) ++ own_sl x2) ++ (own_dks (own_dn (own_abs x2)) (own_abs x2) 0)) := (List.append_nil _).symm
                      have f42 := (((((((((q21_0.keep K23 nin0).keep K25 nin0).keep K27 nin0).keep K29 nin0).keep K31 nin0).keep K33 nin0).keep K35 nin0).keep K37 nin0).keep K39 nin0)
                      have X41 : Arv Z h39 b10 k10 .char (25 : Int32) (own_ca 25 (((own_pre (own_id x0) (own_id x1)) ++ own_sl x2) ++ (own_dks (own_dn (own_abs x2)) (own_abs x2) 0))) (.int (0 : Int32)) := ed0 ▸ f42
                      refine gat (mkF m 291 #[vi x0, vi x1, vi x2, vr r1, vr r2, vr b3, vr r6, vr b10, vi (Int32.ofNat (((own_pre (own_id x0) (own_id x1)) ++ own_sl x2) ++ (own_dks (own_dn (own_abs x2)) (own_abs x2) 0)).length), .val (.long (Int64.ofNat (own_abs x2))), .second, vi (Int32.ofNat (own_dn (own_abs x2)))] []) (by rw [← ed0]) ?_
                      refine uA 293 hx hby at_291 rfl rfl rfl ?_
                      refine uI 295 hx hby at_293 rfl rfl ?_
                      refine gs (mkF m 297 #[vi x0, vi x1, vi x2, vr r1, vr r2, vr b3, vr r6, vr b10, vi (Int32.ofNat (((own_pre (own_id x0) (own_id x1)) ++ own_sl x2) ++ (own_dks (own_dn (own_abs x2)) (own_abs x2) 0)).length), .val (.long (Int64.ofNat (own_abs x2))), .second, vi (Int32.ofNat (own_dn (own_abs x2)))] [(.long (Int64.ofNat (own_abs x2))), (.int (Int32.ofNat (((own_pre (own_id x0) (own_id x1)) ++ own_sl x2) ++ (own_dks (own_dn (own_abs x2)) (own_abs x2) 0)).length)), (.ref b10)]) (fun _ _ A kq => XS.lload A hx rfl (hb hby at_295) rfl  kq) ?_
                      refine gldcJ hx (ow hw 199 rfl) 300 (hb hby at_297) rfl ?_
                      refine uI 302 hx hby at_300 rfl rfl ?_
                      refine uKb 304 (9 : Int32) hx hby at_302 rfl rfl ?_
                      refine ginfo fun _ _ O44 => ?_
                      refine gcallS (y := mn711) hx (ow hw 200 rfl) (ow hw 201 rfl) (ow hw 2 rfl) (ow hw 202 rfl) (by decide) (fun hZ H hEL => Pay.of_met (W := 0) (own_dig l Z a0 cx [] (b10) (k10) ((((own_pre (own_id x0) (own_id x1)) ++ own_sl x2) ++ (own_dks (own_dn (own_abs x2)) (own_abs x2) 0))) ((own_abs x2)) ((9 - 0)) ((own_dn (own_abs x2))) vm39 h39 O44 X41 n10 (by have z := hks 0; rw [List.length_append, List.length_append]; omega) hle (by decide) hdp.2) (ow hw 202 rfl) (ow hw 2 rfl) (by decide) (by decide) hZ H hEL) 307 (argsL := [(.ref b10), (.int (Int32.ofNat (((own_pre (own_id x0) (own_id x1)) ++ own_sl x2) ++ (own_dks (own_dn (own_abs x2)) (own_abs x2) 0)).length)), (.long (Int64.ofNat (own_abs x2))), (.long (1000000000 : Int64)), (.int (Int32.ofNat (own_dn (own_abs x2)))), (.int (9 : Int32))]) (rest := []) (lenOf own_pd732 rfl) rfl rfl (Nat.le_of_eq rfl) (by rw [hml]; rfl) (hb hby at_304) rfl (by decide) (by decide) ?_
                      rintro _ vm44 h44 C44 ⟨rfl, K44, q44_0⟩
                      have z44 := C44.2.1
                      refine gat1 ?_
                      have X45 := q44_0
                      rw [List.append_assoc ((own_pre (own_id x0) (own_id x1)) ++ own_sl x2), own_dks_s] at X45
                      refine gat (mkF m 307 #[vi x0, vi x1, vi x2, vr r1, vr r2, vr b3, vr r6, vr b10, vi (Int32.ofNat (((own_pre (own_id x0) (own_id x1)) ++ own_sl x2) ++ (own_dks (own_dn (own_abs x2)) (own_abs x2) 0)).length), .val (.long (Int64.ofNat (own_abs x2))), .second, vi (Int32.ofNat (own_dn (own_abs x2)))] [(.int (Int32.ofNat (((own_pre (own_id x0) (own_id x1)) ++ own_sl x2) ++ (own_dks (own_dn (own_abs x2)) (own_abs x2) 1)).length))]) (by rw [List.append_assoc ((own_pre (own_id x0) (own_id x1)) ++ own_sl x2), own_dks_s]) ?_
                      refine uSI 309 #[vi x0, vi x1, vi x2, vr r1, vr r2, vr b3, vr r6, vr b10, vi (Int32.ofNat (((own_pre (own_id x0) (own_id x1)) ++ own_sl x2) ++ (own_dks (own_dn (own_abs x2)) (own_abs x2) 1)).length), .val (.long (Int64.ofNat (own_abs x2))), .second, vi (Int32.ofNat (own_dn (own_abs x2)))] hx hby at_307 rfl rfl ?_
                      refine uA 311 hx hby at_309 rfl rfl rfl ?_
                      refine uI 313 hx hby at_311 rfl rfl ?_
                      refine gs (mkF m 315 #[vi x0, vi x1, vi x2, vr r1, vr r2, vr b3, vr r6, vr b10, vi (Int32.ofNat (((own_pre (own_id x0) (own_id x1)) ++ own_sl x2) ++ (own_dks (own_dn (own_abs x2)) (own_abs x2) 1)).length), .val (.long (Int64.ofNat (own_abs x2))), .second, vi (Int32.ofNat (own_dn (own_abs x2)))] [(.long (Int64.ofNat (own_abs x2))), (.int (Int32.ofNat (((own_pre (own_id x0) (own_id x1)) ++ own_sl x2) ++ (own_dks (own_dn (own_abs x2)) (own_abs x2) 1)).length)), (.ref b10)]) (fun _ _ A kq => XS.lload A hx rfl (hb hby at_313) rfl  kq) ?_
                      refine gldcJ hx (ow hw 198 rfl) 318 (hb hby at_315) rfl ?_
                      refine uI 320 hx hby at_318 rfl rfl ?_
                      refine uKb 322 (8 : Int32) hx hby at_320 rfl rfl ?_
                      refine ginfo fun _ _ O47 => ?_
                      refine gcallS (y := mn711) hx (ow hw 200 rfl) (ow hw 201 rfl) (ow hw 2 rfl) (ow hw 202 rfl) (by decide) (fun hZ H hEL => Pay.of_met (W := 0) (own_dig l Z a0 cx [] (b10) (k10) ((((own_pre (own_id x0) (own_id x1)) ++ own_sl x2) ++ (own_dks (own_dn (own_abs x2)) (own_abs x2) 1))) ((own_abs x2)) ((9 - 1)) ((own_dn (own_abs x2))) vm44 h44 O47 X45 n10 (by have z := hks 1; rw [List.length_append, List.length_append]; omega) hle (by decide) hdp.2) (ow hw 202 rfl) (ow hw 2 rfl) (by decide) (by decide) hZ H hEL) 325 (argsL := [(.ref b10), (.int (Int32.ofNat (((own_pre (own_id x0) (own_id x1)) ++ own_sl x2) ++ (own_dks (own_dn (own_abs x2)) (own_abs x2) 1)).length)), (.long (Int64.ofNat (own_abs x2))), (.long (100000000 : Int64)), (.int (Int32.ofNat (own_dn (own_abs x2)))), (.int (8 : Int32))]) (rest := []) (lenOf own_pd732 rfl) rfl rfl (Nat.le_of_eq rfl) (by rw [hml]; rfl) (hb hby at_322) rfl (by decide) (by decide) ?_
                      rintro _ vm47 h47 C47 ⟨rfl, K47, q47_0⟩
                      have z47 := C47.2.1
                      refine gat1 ?_
                      have X48 := q47_0
                      rw [List.append_assoc ((own_pre (own_id x0) (own_id x1)) ++ own_sl x2), own_dks_s] at X48
                      refine gat (mkF m 325 #[vi x0, vi x1, vi x2, vr r1, vr r2, vr b3, vr r6, vr b10, vi (Int32.ofNat (((own_pre (own_id x0) (own_id x1)) ++ own_sl x2) ++ (own_dks (own_dn (own_abs x2)) (own_abs x2) 1)).length), .val (.long (Int64.ofNat (own_abs x2))), .second, vi (Int32.ofNat (own_dn (own_abs x2)))] [(.int (Int32.ofNat (((own_pre (own_id x0) (own_id x1)) ++ own_sl x2) ++ (own_dks (own_dn (own_abs x2)) (own_abs x2) 2)).length))]) (by rw [List.append_assoc ((own_pre (own_id x0) (own_id x1)) ++ own_sl x2), own_dks_s]) ?_
                      refine uSI 327 #[vi x0, vi x1, vi x2, vr r1, vr r2, vr b3, vr r6, vr b10, vi (Int32.ofNat (((own_pre (own_id x0) (own_id x1)) ++ own_sl x2) ++ (own_dks (own_dn (own_abs x2)) (own_abs x2) 2)).length), .val (.long (Int64.ofNat (own_abs x2))), .second, vi (Int32.ofNat (own_dn (own_abs x2)))] hx hby at_325 rfl rfl ?_
                      refine uA 329 hx hby at_327 rfl rfl rfl ?_
                      refine uI 331 hx hby at_329 rfl rfl ?_
                      refine gs (mkF m 333 #[vi x0, vi x1, vi x2, vr r1, vr r2, vr b3, vr r6, vr b10, vi (Int32.ofNat (((own_pre (own_id x0) (own_id x1)) ++ own_sl x2) ++ (own_dks (own_dn (own_abs x2)) (own_abs x2) 2)).length), .val (.long (Int64.ofNat (own_abs x2))), .second, vi (Int32.ofNat (own_dn (own_abs x2)))] [(.long (Int64.ofNat (own_abs x2))), (.int (Int32.ofNat (((own_pre (own_id x0) (own_id x1)) ++ own_sl x2) ++ (own_dks (own_dn (own_abs x2)) (own_abs x2) 2)).length)), (.ref b10)]) (fun _ _ A kq => XS.lload A hx rfl (hb hby at_331) rfl  kq) ?_
                      refine gldcJ hx (ow hw 197 rfl) 336 (hb hby at_333) rfl ?_
                      refine uI 338 hx hby at_336 rfl rfl ?_
                      refine uKb 340 (7 : Int32) hx hby at_338 rfl rfl ?_
                      refine ginfo fun _ _ O50 => ?_
                      refine gcallS (y := mn711) hx (ow hw 200 rfl) (ow hw 201 rfl) (ow hw 2 rfl) (ow hw 202 rfl) (by decide) (fun hZ H hEL => Pay.of_met (W := 0) (own_dig l Z a0 cx [] (b10) (k10) ((((own_pre (own_id x0) (own_id x1)) ++ own_sl x2) ++ (own_dks (own_dn (own_abs x2)) (own_abs x2) 2))) ((own_abs x2)) ((9 - 2)) ((own_dn (own_abs x2))) vm47 h47 O50 X48 n10 (by have z := hks 2; rw [List.length_append, List.length_append]; omega) hle (by decide) hdp.2) (ow hw 202 rfl) (ow hw 2 rfl) (by decide) (by decide) hZ H hEL) 343 (argsL := [(.ref b10), (.int (Int32.ofNat (((own_pre (own_id x0) (own_id x1)) ++ own_sl x2) ++ (own_dks (own_dn (own_abs x2)) (own_abs x2) 2)).length)), (.long (Int64.ofNat (own_abs x2))), (.long (10000000 : Int64)), (.int (Int32.ofNat (own_dn (own_abs x2)))), (.int (7 : Int32))]) (rest := []) (lenOf own_pd732 rfl) rfl rfl (Nat.le_of_eq rfl) (by rw [hml]; rfl) (hb hby at_340) rfl (by decide) (by decide) ?_
                      rintro _ vm50 h50 C50 ⟨rfl, K50, q50_0⟩
                      have z50 := C50.2.1
                      refine gat1 ?_
                      have X51 := q50_0
                      rw [List.append_assoc ((own_pre (own_id x0) (own_id x1)) ++ own_sl x2), own_dks_s] at X51
                      refine gat (mkF m 343 #[vi x0, vi x1, vi x2, vr r1, vr r2, vr b3, vr r6, vr b10, vi (Int32.ofNat (((own_pre (own_id x0) (own_id x1)) ++ own_sl x2) ++ (own_dks (own_dn (own_abs x2)) (own_abs x2) 2)).length), .val (.long (Int64.ofNat (own_abs x2))), .second, vi (Int32.ofNat (own_dn (own_abs x2)))] [(.int (Int32.ofNat (((own_pre (own_id x0) (own_id x1)) ++ own_sl x2) ++ (own_dks (own_dn (own_abs x2)) (own_abs x2) 3)).length))]) (by rw [List.append_assoc ((own_pre (own_id x0) (own_id x1)) ++ own_sl x2), own_dks_s]) ?_
                      refine uSI 345 #[vi x0, vi x1, vi x2, vr r1, vr r2, vr b3, vr r6, vr b10, vi (Int32.ofNat (((own_pre (own_id x0) (own_id x1)) ++ own_sl x2) ++ (own_dks (own_dn (own_abs x2)) (own_abs x2) 3)).length), .val (.long (Int64.ofNat (own_abs x2))), .second, vi (Int32.ofNat (own_dn (own_abs x2)))] hx hby at_343 rfl rfl ?_
                      refine uA 347 hx hby at_345 rfl rfl rfl ?_
                      refine uI 349 hx hby at_347 rfl rfl ?_
                      refine gs (mkF m 351 #[vi x0, vi x1, vi x2, vr r1, vr r2, vr b3, vr r6, vr b10, vi (Int32.ofNat (((own_pre (own_id x0) (own_id x1)) ++ own_sl x2) ++ (own_dks (own_dn (own_abs x2)) (own_abs x2) 3)).length), .val (.long (Int64.ofNat (own_abs x2))), .second, vi (Int32.ofNat (own_dn (own_abs x2)))] [(.long (Int64.ofNat (own_abs x2))), (.int (Int32.ofNat (((own_pre (own_id x0) (own_id x1)) ++ own_sl x2) ++ (own_dks (own_dn (own_abs x2)) (own_abs x2) 3)).length)), (.ref b10)]) (fun _ _ A kq => XS.lload A hx rfl (hb hby at_349) rfl  kq) ?_
                      refine gldcJ hx (ow hw 196 rfl) 354 (hb hby at_351) rfl ?_
                      refine uI 356 hx hby at_354 rfl rfl ?_
                      refine uKb 358 (6 : Int32) hx hby at_356 rfl rfl ?_
                      refine ginfo fun _ _ O53 => ?_
                      refine gcallS (y := mn711) hx (ow hw 200 rfl) (ow hw 201 rfl) (ow hw 2 rfl) (ow hw 202 rfl) (by decide) (fun hZ H hEL => Pay.of_met (W := 0) (own_dig l Z a0 cx [] (b10) (k10) ((((own_pre (own_id x0) (own_id x1)) ++ own_sl x2) ++ (own_dks (own_dn (own_abs x2)) (own_abs x2) 3))) ((own_abs x2)) ((9 - 3)) ((own_dn (own_abs x2))) vm50 h50 O53 X51 n10 (by have z := hks 3; rw [List.length_append, List.length_append]; omega) hle (by decide) hdp.2) (ow hw 202 rfl) (ow hw 2 rfl) (by decide) (by decide) hZ H hEL) 361 (argsL := [(.ref b10), (.int (Int32.ofNat (((own_pre (own_id x0) (own_id x1)) ++ own_sl x2) ++ (own_dks (own_dn (own_abs x2)) (own_abs x2) 3)).length)), (.long (Int64.ofNat (own_abs x2))), (.long (1000000 : Int64)), (.int (Int32.ofNat (own_dn (own_abs x2)))), (.int (6 : Int32))]) (rest := []) (lenOf own_pd732 rfl) rfl rfl (Nat.le_of_eq rfl) (by rw [hml]; rfl) (hb hby at_358) rfl (by decide) (by decide) ?_
                      rintro _ vm53 h53 C53 ⟨rfl, K53, q53_0⟩
                      have z53 := C53.2.1
                      refine gat1 ?_
                      have X54 := q53_0
                      rw [List.append_assoc ((own_pre (own_id x0) (own_id x1)) ++ own_sl x2), own_dks_s] at X54
                      refine gat (mkF m 361 #[vi x0, vi x1, vi x2, vr r1, vr r2, vr b3, vr r6, vr b10, vi (Int32.ofNat (((own_pre (own_id x0) (own_id x1)) ++ own_sl x2) ++ (own_dks (own_dn (own_abs x2)) (own_abs x2) 3)).length), .val (.long (Int64.ofNat (own_abs x2))), .second, vi (Int32.ofNat (own_dn (own_abs x2)))] [(.int (Int32.ofNat (((own_pre (own_id x0) (own_id x1)) ++ own_sl x2) ++ (own_dks (own_dn (own_abs x2)) (own_abs x2) 4)).length))]) (by rw [List.append_assoc ((own_pre (own_id x0) (own_id x1)) ++ own_sl x2), own_dks_s]) ?_
                      refine uSI 363 #[vi x0, vi x1, vi x2, vr r1, vr r2, vr b3, vr r6, vr b10, vi (Int32.ofNat (((own_pre (own_id x0) (own_id x1)) ++ own_sl x2) ++ (own_dks (own_dn (own_abs x2)) (own_abs x2) 4)).length), .val (.long (Int64.ofNat (own_abs x2))), .second, vi (Int32.ofNat (own_dn (own_abs x2)))] hx hby at_361 rfl rfl ?_
                      refine uA 365 hx hby at_363 rfl rfl rfl ?_
                      refine uI 367 hx hby at_365 rfl rfl ?_
                      refine gs (mkF m 369 #[vi x0, vi x1, vi x2, vr r1, vr r2, vr b3, vr r6, vr b10, vi (Int32.ofNat (((own_pre (own_id x0) (own_id x1)) ++ own_sl x2) ++ (own_dks (own_dn (own_abs x2)) (own_abs x2) 4)).length), .val (.long (Int64.ofNat (own_abs x2))), .second, vi (Int32.ofNat (own_dn (own_abs x2)))] [(.long (Int64.ofNat (own_abs x2))), (.int (Int32.ofNat (((own_pre (own_id x0) (own_id x1)) ++ own_sl x2) ++ (own_dks (own_dn (own_abs x2)) (own_abs x2) 4)).length)), (.ref b10)]) (fun _ _ A kq => XS.lload A hx rfl (hb hby at_367) rfl  kq) ?_
                      refine gldcJ hx (ow hw 195 rfl) 372 (hb hby at_369) rfl ?_
                      refine uI 374 hx hby at_372 rfl rfl ?_
                      refine uKc 375 (5 : Int32) hx hby at_374 rfl rfl ?_
                      refine ginfo fun _ _ O56 => ?_
                      refine gcallS (y := mn711) hx (ow hw 200 rfl) (ow hw 201 rfl) (ow hw 2 rfl) (ow hw 202 rfl) (by decide) (fun hZ H hEL => Pay.of_met (W := 0) (own_dig l Z a0 cx [] (b10) (k10) ((((own_pre (own_id x0) (own_id x1)) ++ own_sl x2) ++ (own_dks (own_dn (own_abs x2)) (own_abs x2) 4))) ((own_abs x2)) ((9 - 4)) ((own_dn (own_abs x2))) vm53 h53 O56 X54 n10 (by have z := hks 4; rw [List.length_append, List.length_append]; omega) hle (by decide) hdp.2) (ow hw 202 rfl) (ow hw 2 rfl) (by decide) (by decide) hZ H hEL) 378 (argsL := [(.ref b10), (.int (Int32.ofNat (((own_pre (own_id x0) (own_id x1)) ++ own_sl x2) ++ (own_dks (own_dn (own_abs x2)) (own_abs x2) 4)).length)), (.long (Int64.ofNat (own_abs x2))), (.long (100000 : Int64)), (.int (Int32.ofNat (own_dn (own_abs x2)))), (.int (5 : Int32))]) (rest := []) (lenOf own_pd732 rfl) rfl rfl (Nat.le_of_eq rfl) (by rw [hml]; rfl) (hb hby at_375) rfl (by decide) (by decide) ?_
                      rintro _ vm56 h56 C56 ⟨rfl, K56, q56_0⟩
                      have z56 := C56.2.1
                      refine gat1 ?_
                      have X57 := q56_0
                      rw [List.append_assoc ((own_pre (own_id x0) (own_id x1)) ++ own_sl x2), own_dks_s] at X57
                      refine gat (mkF m 378 #[vi x0, vi x1, vi x2, vr r1, vr r2, vr b3, vr r6, vr b10, vi (Int32.ofNat (((own_pre (own_id x0) (own_id x1)) ++ own_sl x2) ++ (own_dks (own_dn (own_abs x2)) (own_abs x2) 4)).length), .val (.long (Int64.ofNat (own_abs x2))), .second, vi (Int32.ofNat (own_dn (own_abs x2)))] [(.int (Int32.ofNat (((own_pre (own_id x0) (own_id x1)) ++ own_sl x2) ++ (own_dks (own_dn (own_abs x2)) (own_abs x2) 5)).length))]) (by rw [List.append_assoc ((own_pre (own_id x0) (own_id x1)) ++ own_sl x2), own_dks_s]) ?_
                      refine uSI 380 #[vi x0, vi x1, vi x2, vr r1, vr r2, vr b3, vr r6, vr b10, vi (Int32.ofNat (((own_pre (own_id x0) (own_id x1)) ++ own_sl x2) ++ (own_dks (own_dn (own_abs x2)) (own_abs x2) 5)).length), .val (.long (Int64.ofNat (own_abs x2))), .second, vi (Int32.ofNat (own_dn (own_abs x2)))] hx hby at_378 rfl rfl ?_
                      refine uA 382 hx hby at_380 rfl rfl rfl ?_
                      refine uI 384 hx hby at_382 rfl rfl ?_
                      refine gs (mkF m 386 #[vi x0, vi x1, vi x2, vr r1, vr r2, vr b3, vr r6, vr b10, vi (Int32.ofNat (((own_pre (own_id x0) (own_id x1)) ++ own_sl x2) ++ (own_dks (own_dn (own_abs x2)) (own_abs x2) 5)).length), .val (.long (Int64.ofNat (own_abs x2))), .second, vi (Int32.ofNat (own_dn (own_abs x2)))] [(.long (Int64.ofNat (own_abs x2))), (.int (Int32.ofNat (((own_pre (own_id x0) (own_id x1)) ++ own_sl x2) ++ (own_dks (own_dn (own_abs x2)) (own_abs x2) 5)).length)), (.ref b10)]) (fun _ _ A kq => XS.lload A hx rfl (hb hby at_384) rfl  kq) ?_
                      refine gldcJ hx (ow hw 194 rfl) 389 (hb hby at_386) rfl ?_
                      refine uI 391 hx hby at_389 rfl rfl ?_
                      refine uKc 392 (4 : Int32) hx hby at_391 rfl rfl ?_
                      refine ginfo fun _ _ O59 => ?_
                      refine gcallS (y := mn711) hx (ow hw 200 rfl) (ow hw 201 rfl) (ow hw 2 rfl) (ow hw 202 rfl) (by decide) (fun hZ H hEL => Pay.of_met (W := 0) (own_dig l Z a0 cx [] (b10) (k10) ((((own_pre (own_id x0) (own_id x1)) ++ own_sl x2) ++ (own_dks (own_dn (own_abs x2)) (own_abs x2) 5))) ((own_abs x2)) ((9 - 5)) ((own_dn (own_abs x2))) vm56 h56 O59 X57 n10 (by have z := hks 5; rw [List.length_append, List.length_append]; omega) hle (by decide) hdp.2) (ow hw 202 rfl) (ow hw 2 rfl) (by decide) (by decide) hZ H hEL) 395 (argsL := [(.ref b10), (.int (Int32.ofNat (((own_pre (own_id x0) (own_id x1)) ++ own_sl x2) ++ (own_dks (own_dn (own_abs x2)) (own_abs x2) 5)).length)), (.long (Int64.ofNat (own_abs x2))), (.long (10000 : Int64)), (.int (Int32.ofNat (own_dn (own_abs x2)))), (.int (4 : Int32))]) (rest := []) (lenOf own_pd732 rfl) rfl rfl (Nat.le_of_eq rfl) (by rw [hml]; rfl) (hb hby at_392) rfl (by decide) (by decide) ?_
                      rintro _ vm59 h59 C59 ⟨rfl, K59, q59_0⟩
                      have z59 := C59.2.1
                      refine gat1 ?_
                      have X60 := q59_0
                      rw [List.append_assoc ((own_pre (own_id x0) (own_id x1)) ++ own_sl x2), own_dks_s] at X60
                      refine gat (mkF m 395 #[vi x0, vi x1, vi x2, vr r1, vr r2, vr b3, vr r6, vr b10, vi (Int32.ofNat (((own_pre (own_id x0) (own_id x1)) ++ own_sl x2) ++ (own_dks (own_dn (own_abs x2)) (own_abs x2) 5)).length), .val (.long (Int64.ofNat (own_abs x2))), .second, vi (Int32.ofNat (own_dn (own_abs x2)))] [(.int (Int32.ofNat (((own_pre (own_id x0) (own_id x1)) ++ own_sl x2) ++ (own_dks (own_dn (own_abs x2)) (own_abs x2) 6)).length))]) (by rw [List.append_assoc ((own_pre (own_id x0) (own_id x1)) ++ own_sl x2), own_dks_s]) ?_
                      refine uSI 397 #[vi x0, vi x1, vi x2, vr r1, vr r2, vr b3, vr r6, vr b10, vi (Int32.ofNat (((own_pre (own_id x0) (own_id x1)) ++ own_sl x2) ++ (own_dks (own_dn (own_abs x2)) (own_abs x2) 6)).length), .val (.long (Int64.ofNat (own_abs x2))), .second, vi (Int32.ofNat (own_dn (own_abs x2)))] hx hby at_395 rfl rfl ?_
                      refine uA 399 hx hby at_397 rfl rfl rfl ?_
                      refine uI 401 hx hby at_399 rfl rfl ?_
                      refine gs (mkF m 403 #[vi x0, vi x1, vi x2, vr r1, vr r2, vr b3, vr r6, vr b10, vi (Int32.ofNat (((own_pre (own_id x0) (own_id x1)) ++ own_sl x2) ++ (own_dks (own_dn (own_abs x2)) (own_abs x2) 6)).length), .val (.long (Int64.ofNat (own_abs x2))), .second, vi (Int32.ofNat (own_dn (own_abs x2)))] [(.long (Int64.ofNat (own_abs x2))), (.int (Int32.ofNat (((own_pre (own_id x0) (own_id x1)) ++ own_sl x2) ++ (own_dks (own_dn (own_abs x2)) (own_abs x2) 6)).length)), (.ref b10)]) (fun _ _ A kq => XS.lload A hx rfl (hb hby at_401) rfl  kq) ?_
                      refine gldcJ hx (ow hw 193 rfl) 406 (hb hby at_403) rfl ?_
                      refine uI 408 hx hby at_406 rfl rfl ?_
                      refine uKc 409 (3 : Int32) hx hby at_408 rfl rfl ?_
                      refine ginfo fun _ _ O62 => ?_
                      refine gcallS (y := mn711) hx (ow hw 200 rfl) (ow hw 201 rfl) (ow hw 2 rfl) (ow hw 202 rfl) (by decide) (fun hZ H hEL => Pay.of_met (W := 0) (own_dig l Z a0 cx [] (b10) (k10) ((((own_pre (own_id x0) (own_id x1)) ++ own_sl x2) ++ (own_dks (own_dn (own_abs x2)) (own_abs x2) 6))) ((own_abs x2)) ((9 - 6)) ((own_dn (own_abs x2))) vm59 h59 O62 X60 n10 (by have z := hks 6; rw [List.length_append, List.length_append]; omega) hle (by decide) hdp.2) (ow hw 202 rfl) (ow hw 2 rfl) (by decide) (by decide) hZ H hEL) 412 (argsL := [(.ref b10), (.int (Int32.ofNat (((own_pre (own_id x0) (own_id x1)) ++ own_sl x2) ++ (own_dks (own_dn (own_abs x2)) (own_abs x2) 6)).length)), (.long (Int64.ofNat (own_abs x2))), (.long (1000 : Int64)), (.int (Int32.ofNat (own_dn (own_abs x2)))), (.int (3 : Int32))]) (rest := []) (lenOf own_pd732 rfl) rfl rfl (Nat.le_of_eq rfl) (by rw [hml]; rfl) (hb hby at_409) rfl (by decide) (by decide) ?_
                      rintro _ vm62 h62 C62 ⟨rfl, K62, q62_0⟩
                      have z62 := C62.2.1
                      refine gat1 ?_
                      have X63 := q62_0
                      rw [List.append_assoc ((own_pre (own_id x0) (own_id x1)) ++ own_sl x2), own_dks_s] at X63
                      refine gat (mkF m 412 #[vi x0, vi x1, vi x2, vr r1, vr r2, vr b3, vr r6, vr b10, vi (Int32.ofNat (((own_pre (own_id x0) (own_id x1)) ++ own_sl x2) ++ (own_dks (own_dn (own_abs x2)) (own_abs x2) 6)).length), .val (.long (Int64.ofNat (own_abs x2))), .second, vi (Int32.ofNat (own_dn (own_abs x2)))] [(.int (Int32.ofNat (((own_pre (own_id x0) (own_id x1)) ++ own_sl x2) ++ (own_dks (own_dn (own_abs x2)) (own_abs x2) 7)).length))]) (by rw [List.append_assoc ((own_pre (own_id x0) (own_id x1)) ++ own_sl x2), own_dks_s]) ?_
                      refine uSI 414 #[vi x0, vi x1, vi x2, vr r1, vr r2, vr b3, vr r6, vr b10, vi (Int32.ofNat (((own_pre (own_id x0) (own_id x1)) ++ own_sl x2) ++ (own_dks (own_dn (own_abs x2)) (own_abs x2) 7)).length), .val (.long (Int64.ofNat (own_abs x2))), .second, vi (Int32.ofNat (own_dn (own_abs x2)))] hx hby at_412 rfl rfl ?_
                      refine uA 416 hx hby at_414 rfl rfl rfl ?_
                      refine uI 418 hx hby at_416 rfl rfl ?_
                      refine gs (mkF m 420 #[vi x0, vi x1, vi x2, vr r1, vr r2, vr b3, vr r6, vr b10, vi (Int32.ofNat (((own_pre (own_id x0) (own_id x1)) ++ own_sl x2) ++ (own_dks (own_dn (own_abs x2)) (own_abs x2) 7)).length), .val (.long (Int64.ofNat (own_abs x2))), .second, vi (Int32.ofNat (own_dn (own_abs x2)))] [(.long (Int64.ofNat (own_abs x2))), (.int (Int32.ofNat (((own_pre (own_id x0) (own_id x1)) ++ own_sl x2) ++ (own_dks (own_dn (own_abs x2)) (own_abs x2) 7)).length)), (.ref b10)]) (fun _ _ A kq => XS.lload A hx rfl (hb hby at_418) rfl  kq) ?_
                      refine gldcJ hx (ow hw 192 rfl) 423 (hb hby at_420) rfl ?_
                      refine uI 425 hx hby at_423 rfl rfl ?_
                      refine uKc 426 (2 : Int32) hx hby at_425 rfl rfl ?_
                      refine ginfo fun _ _ O65 => ?_
                      refine gcallS (y := mn711) hx (ow hw 200 rfl) (ow hw 201 rfl) (ow hw 2 rfl) (ow hw 202 rfl) (by decide) (fun hZ H hEL => Pay.of_met (W := 0) (own_dig l Z a0 cx [] (b10) (k10) ((((own_pre (own_id x0) (own_id x1)) ++ own_sl x2) ++ (own_dks (own_dn (own_abs x2)) (own_abs x2) 7))) ((own_abs x2)) ((9 - 7)) ((own_dn (own_abs x2))) vm62 h62 O65 X63 n10 (by have z := hks 7; rw [List.length_append, List.length_append]; omega) hle (by decide) hdp.2) (ow hw 202 rfl) (ow hw 2 rfl) (by decide) (by decide) hZ H hEL) 429 (argsL := [(.ref b10), (.int (Int32.ofNat (((own_pre (own_id x0) (own_id x1)) ++ own_sl x2) ++ (own_dks (own_dn (own_abs x2)) (own_abs x2) 7)).length)), (.long (Int64.ofNat (own_abs x2))), (.long (100 : Int64)), (.int (Int32.ofNat (own_dn (own_abs x2)))), (.int (2 : Int32))]) (rest := []) (lenOf own_pd732 rfl) rfl rfl (Nat.le_of_eq rfl) (by rw [hml]; rfl) (hb hby at_426) rfl (by decide) (by decide) ?_
                      rintro _ vm65 h65 C65 ⟨rfl, K65, q65_0⟩
                      have z65 := C65.2.1
                      refine gat1 ?_
                      have X66 := q65_0
                      rw [List.append_assoc ((own_pre (own_id x0) (own_id x1)) ++ own_sl x2), own_dks_s] at X66
                      refine gat (mkF m 429 #[vi x0, vi x1, vi x2, vr r1, vr r2, vr b3, vr r6, vr b10, vi (Int32.ofNat (((own_pre (own_id x0) (own_id x1)) ++ own_sl x2) ++ (own_dks (own_dn (own_abs x2)) (own_abs x2) 7)).length), .val (.long (Int64.ofNat (own_abs x2))), .second, vi (Int32.ofNat (own_dn (own_abs x2)))] [(.int (Int32.ofNat (((own_pre (own_id x0) (own_id x1)) ++ own_sl x2) ++ (own_dks (own_dn (own_abs x2)) (own_abs x2) 8)).length))]) (by rw [List.append_assoc ((own_pre (own_id x0) (own_id x1)) ++ own_sl x2), own_dks_s]) ?_
                      refine uSI 431 #[vi x0, vi x1, vi x2, vr r1, vr r2, vr b3, vr r6, vr b10, vi (Int32.ofNat (((own_pre (own_id x0) (own_id x1)) ++ own_sl x2) ++ (own_dks (own_dn (own_abs x2)) (own_abs x2) 8)).length), .val (.long (Int64.ofNat (own_abs x2))), .second, vi (Int32.ofNat (own_dn (own_abs x2)))] hx hby at_429 rfl rfl ?_
                      refine uA 433 hx hby at_431 rfl rfl rfl ?_
                      refine uI 435 hx hby at_433 rfl rfl ?_
                      refine gs (mkF m 437 #[vi x0, vi x1, vi x2, vr r1, vr r2, vr b3, vr r6, vr b10, vi (Int32.ofNat (((own_pre (own_id x0) (own_id x1)) ++ own_sl x2) ++ (own_dks (own_dn (own_abs x2)) (own_abs x2) 8)).length), .val (.long (Int64.ofNat (own_abs x2))), .second, vi (Int32.ofNat (own_dn (own_abs x2)))] [(.long (Int64.ofNat (own_abs x2))), (.int (Int32.ofNat (((own_pre (own_id x0) (own_id x1)) ++ own_sl x2) ++ (own_dks (own_dn (own_abs x2)) (own_abs x2) 8)).length)), (.ref b10)]) (fun _ _ A kq => XS.lload A hx rfl (hb hby at_435) rfl  kq) ?_
                      refine gldcJ hx (ow hw 191 rfl) 440 (hb hby at_437) rfl ?_
                      refine uI 442 hx hby at_440 rfl rfl ?_
                      refine uKc 443 (1 : Int32) hx hby at_442 rfl rfl ?_
                      refine ginfo fun _ _ O68 => ?_
                      refine gcallS (y := mn711) hx (ow hw 200 rfl) (ow hw 201 rfl) (ow hw 2 rfl) (ow hw 202 rfl) (by decide) (fun hZ H hEL => Pay.of_met (W := 0) (own_dig l Z a0 cx [] (b10) (k10) ((((own_pre (own_id x0) (own_id x1)) ++ own_sl x2) ++ (own_dks (own_dn (own_abs x2)) (own_abs x2) 8))) ((own_abs x2)) ((9 - 8)) ((own_dn (own_abs x2))) vm65 h65 O68 X66 n10 (by have z := hks 8; rw [List.length_append, List.length_append]; omega) hle (by decide) hdp.2) (ow hw 202 rfl) (ow hw 2 rfl) (by decide) (by decide) hZ H hEL) 446 (argsL := [(.ref b10), (.int (Int32.ofNat (((own_pre (own_id x0) (own_id x1)) ++ own_sl x2) ++ (own_dks (own_dn (own_abs x2)) (own_abs x2) 8)).length)), (.long (Int64.ofNat (own_abs x2))), (.long (10 : Int64)), (.int (Int32.ofNat (own_dn (own_abs x2)))), (.int (1 : Int32))]) (rest := []) (lenOf own_pd732 rfl) rfl rfl (Nat.le_of_eq rfl) (by rw [hml]; rfl) (hb hby at_443) rfl (by decide) (by decide) ?_
                      rintro _ vm68 h68 C68 ⟨rfl, K68, q68_0⟩
                      have z68 := C68.2.1
                      refine gat1 ?_
                      have X69 := q68_0
                      rw [List.append_assoc ((own_pre (own_id x0) (own_id x1)) ++ own_sl x2), own_dks_s] at X69
                      refine gat (mkF m 446 #[vi x0, vi x1, vi x2, vr r1, vr r2, vr b3, vr r6, vr b10, vi (Int32.ofNat (((own_pre (own_id x0) (own_id x1)) ++ own_sl x2) ++ (own_dks (own_dn (own_abs x2)) (own_abs x2) 8)).length), .val (.long (Int64.ofNat (own_abs x2))), .second, vi (Int32.ofNat (own_dn (own_abs x2)))] [(.int (Int32.ofNat (((own_pre (own_id x0) (own_id x1)) ++ own_sl x2) ++ (own_dks (own_dn (own_abs x2)) (own_abs x2) 9)).length))]) (by rw [List.append_assoc ((own_pre (own_id x0) (own_id x1)) ++ own_sl x2), own_dks_s]) ?_
                      refine uSI 448 #[vi x0, vi x1, vi x2, vr r1, vr r2, vr b3, vr r6, vr b10, vi (Int32.ofNat (((own_pre (own_id x0) (own_id x1)) ++ own_sl x2) ++ (own_dks (own_dn (own_abs x2)) (own_abs x2) 9)).length), .val (.long (Int64.ofNat (own_abs x2))), .second, vi (Int32.ofNat (own_dn (own_abs x2)))] hx hby at_446 rfl rfl ?_
                      refine uA 450 hx hby at_448 rfl rfl rfl ?_
                      refine uI 452 hx hby at_450 rfl rfl ?_
                      refine gs (mkF m 454 #[vi x0, vi x1, vi x2, vr r1, vr r2, vr b3, vr r6, vr b10, vi (Int32.ofNat (((own_pre (own_id x0) (own_id x1)) ++ own_sl x2) ++ (own_dks (own_dn (own_abs x2)) (own_abs x2) 9)).length), .val (.long (Int64.ofNat (own_abs x2))), .second, vi (Int32.ofNat (own_dn (own_abs x2)))] [(.long (Int64.ofNat (own_abs x2))), (.int (Int32.ofNat (((own_pre (own_id x0) (own_id x1)) ++ own_sl x2) ++ (own_dks (own_dn (own_abs x2)) (own_abs x2) 9)).length)), (.ref b10)]) (fun _ _ A kq => XS.lload A hx rfl (hb hby at_452) rfl  kq) ?_
                      refine gs (mkF m 455 #[vi x0, vi x1, vi x2, vr r1, vr r2, vr b3, vr r6, vr b10, vi (Int32.ofNat (((own_pre (own_id x0) (own_id x1)) ++ own_sl x2) ++ (own_dks (own_dn (own_abs x2)) (own_abs x2) 9)).length), .val (.long (Int64.ofNat (own_abs x2))), .second, vi (Int32.ofNat (own_dn (own_abs x2)))] [(.long (1 : Int64)), (.long (Int64.ofNat (own_abs x2))), (.int (Int32.ofNat (((own_pre (own_id x0) (own_id x1)) ++ own_sl x2) ++ (own_dks (own_dn (own_abs x2)) (own_abs x2) 9)).length)), (.ref b10)]) (fun _ _ A kq => XS.lconst A hx rfl (hb hby at_454) kq) ?_
                      refine uI 457 hx hby at_455 rfl rfl ?_
                      refine uKc 458 (0 : Int32) hx hby at_457 rfl rfl ?_
                      refine ginfo fun _ _ O70 => ?_
                      refine gcallS (y := mn711) hx (ow hw 200 rfl) (ow hw 201 rfl) (ow hw 2 rfl) (ow hw 202 rfl) (by decide) (fun hZ H hEL => Pay.of_met (W := 0) (own_dig l Z a0 cx [] (b10) (k10) ((((own_pre (own_id x0) (own_id x1)) ++ own_sl x2) ++ (own_dks (own_dn (own_abs x2)) (own_abs x2) 9))) ((own_abs x2)) ((9 - 9)) ((own_dn (own_abs x2))) vm68 h68 O70 X69 n10 (by have z := hks 9; rw [List.length_append, List.length_append]; omega) hle (by decide) hdp.2) (ow hw 202 rfl) (ow hw 2 rfl) (by decide) (by decide) hZ H hEL) 461 (argsL := [(.ref b10), (.int (Int32.ofNat (((own_pre (own_id x0) (own_id x1)) ++ own_sl x2) ++ (own_dks (own_dn (own_abs x2)) (own_abs x2) 9)).length)), (.long (Int64.ofNat (own_abs x2))), (.long (1 : Int64)), (.int (Int32.ofNat (own_dn (own_abs x2)))), (.int (0 : Int32))]) (rest := []) (lenOf own_pd732 rfl) rfl rfl (Nat.le_of_eq rfl) (by rw [hml]; rfl) (hb hby at_458) rfl (by decide) (by decide) ?_
                      rintro _ vm70 h70 C70 ⟨rfl, K70, q70_0⟩
                      have z70 := C70.2.1
                      refine gat1 ?_
                      have X71 := q70_0
                      rw [List.append_assoc ((own_pre (own_id x0) (own_id x1)) ++ own_sl x2), own_dks_s] at X71
                      refine gat (mkF m 461 #[vi x0, vi x1, vi x2, vr r1, vr r2, vr b3, vr r6, vr b10, vi (Int32.ofNat (((own_pre (own_id x0) (own_id x1)) ++ own_sl x2) ++ (own_dks (own_dn (own_abs x2)) (own_abs x2) 9)).length), .val (.long (Int64.ofNat (own_abs x2))), .second, vi (Int32.ofNat (own_dn (own_abs x2)))] [(.int (Int32.ofNat (((own_pre (own_id x0) (own_id x1)) ++ own_sl x2) ++ (own_dks (own_dn (own_abs x2)) (own_abs x2) 10)).length))]) (by rw [List.append_assoc ((own_pre (own_id x0) (own_id x1)) ++ own_sl x2), own_dks_s]) ?_
                      refine uSI 463 #[vi x0, vi x1, vi x2, vr r1, vr r2, vr b3, vr r6, vr b10, vi (Int32.ofNat (((own_pre (own_id x0) (own_id x1)) ++ own_sl x2) ++ (own_dks (own_dn (own_abs x2)) (own_abs x2) 10)).length), .val (.long (Int64.ofNat (own_abs x2))), .second, vi (Int32.ofNat (own_dn (own_abs x2)))] hx hby at_461 rfl rfl ?_
                      have X72 := X71
                      rw [own_fin] at X72
                      refine gat (mkF m 463 #[vi x0, vi x1, vi x2, vr r1, vr r2, vr b3, vr r6, vr b10, vi (Int32.ofNat ((own_pre (own_id x0) (own_id x1)) ++ own_dec x2).length), .val (.long (Int64.ofNat (own_abs x2))), .second, vi (Int32.ofNat (own_dn (own_abs x2)))] []) (by rw [own_fin]) ?_
                      have hD2 := own_dec_le x2
                      have hTL : ((own_pre (own_id x0) (own_id x1)) ++ own_dec x2).length ≤ 25 := by rw [List.length_append, own_preL]; omega
                      refine uA 465 hx hby at_463 rfl rfl rfl ?_
                      have f74 := (((((((((((((((((((((((((((((((q6_1.ext E10).keep K11 (ninS (Nat.ne_of_lt (by omega)) nin0) (ninS (Nat.ne_of_lt (by omega)) nin0)).keep K12 (ninS (Nat.ne_of_lt (by omega)) nin0) (ninS (Nat.ne_of_lt (by omega)) nin0)).keep K13 (ninS (Nat.ne_of_lt (by omega)) nin0) (ninS (Nat.ne_of_lt (by omega)) nin0)).keep K14 (ninS (Nat.ne_of_lt (by omega)) nin0) (ninS (Nat.ne_of_lt (by omega)) nin0)).keep K15 (ninS (Nat.ne_of_lt (by omega)) nin0) (ninS (Nat.ne_of_lt (by omega)) nin0)).keep K16 (ninS (Nat.ne_of_lt (by omega)) nin0) (ninS (Nat.ne_of_lt (by omega)) nin0)).keep K17 (ninS (Nat.ne_of_lt (by omega)) nin0) (ninS (Nat.ne_of_lt (by omega)) nin0)).keep K18 (ninS (Nat.ne_of_lt (by omega)) nin0) (ninS (Nat.ne_of_lt (by omega)) nin0)).keep K19 (ninS (Nat.ne_of_lt (by omega)) nin0) (ninS (Nat.ne_of_lt (by omega)) nin0)).keep K20 (ninS (Nat.ne_of_lt (by omega)) nin0) (ninS (Nat.ne_of_lt (by omega)) nin0)).keep K21 (ninS (Nat.ne_of_lt (by omega)) nin0) (ninS (Nat.ne_of_lt (by omega)) nin0)).keep K23 nin0 nin0).keep K25 nin0 nin0).keep K27 nin0 nin0).keep K29 nin0 nin0).keep K31 nin0 nin0).keep K33 nin0 nin0).keep K35 nin0 nin0).keep K37 nin0 nin0).keep K39 nin0 nin0).keep K44 (ninS (Nat.ne_of_lt (by omega)) nin0) (ninS (Nat.ne_of_lt (by omega)) nin0)).keep K47 (ninS (Nat.ne_of_lt (by omega)) nin0) (ninS (Nat.ne_of_lt (by omega)) nin0)).keep K50 (ninS (Nat.ne_of_lt (by omega)) nin0) (ninS (Nat.ne_of_lt (by omega)) nin0)).keep K53 (ninS (Nat.ne_of_lt (by omega)) nin0) (ninS (Nat.ne_of_lt (by omega)) nin0)).keep K56 (ninS (Nat.ne_of_lt (by omega)) nin0) (ninS (Nat.ne_of_lt (by omega)) nin0)).keep K59 (ninS (Nat.ne_of_lt (by omega)) nin0) (ninS (Nat.ne_of_lt (by omega)) nin0)).keep K62 (ninS (Nat.ne_of_lt (by omega)) nin0) (ninS (Nat.ne_of_lt (by omega)) nin0)).keep K65 (ninS (Nat.ne_of_lt (by omega)) nin0) (ninS (Nat.ne_of_lt (by omega)) nin0)).keep K68 (ninS (Nat.ne_of_lt (by omega)) nin0) (ninS (Nat.ne_of_lt (by omega)) nin0)).keep K70 (ninS (Nat.ne_of_lt (by omega)) nin0) (ninS (Nat.ne_of_lt (by omega)) nin0))
                      refine ginfo fun _ _ O73 => ?_
                      refine gcallV (y := mn120) (z := mn120) hx (ow hw 203 rfl) (ow hw 80 rfl) (nfSel (ow hw 82 rfl)) (ow hw 82 rfl) (ow hw 81 rfl) (by decide) (fun hZ H hEL => own_payLen (W := 0) (own_wLen hw) (ow hw 5 rfl) Scs hzc O73 (N := (Int32.ofNat (((own_pre (own_id x0) (own_id x1)) ++ own_dec x2)).length)) f74 rfl (by decide) (by decide) hZ H hEL) 468 (argsL := []) (rest := []) f74.1 (lenOf own_pd119 rfl) rfl rfl (Nat.le_of_eq rfl) (by rw [hml]; rfl) (hb hby at_465) rfl (by decide) (by decide) ?_
                      rintro _ vm73 h73 C73 ⟨rfl, rfl⟩
                      have z73 := C73.2.1
                      refine gat1 ?_
                      refine uI 470 hx hby at_468 rfl rfl ?_
                      refine uYc 475 hx hby at_470 (teq rfl).1 (by decide) (by decide) ?_
                      refine uA 477 hx hby at_475 rfl rfl rfl ?_
                      refine uA 479 hx hby at_477 rfl rfl rfl ?_
                      refine uI 481 hx hby at_479 rfl rfl ?_
                      refine uKc 482 (0 : Int32) hx hby at_481 rfl rfl ?_
                      refine ginfo fun _ _ O75 => ?_
                      refine gcallS (y := mn727) hx (ow hw 204 rfl) (ow hw 205 rfl) (ow hw 2 rfl) (ow hw 206 rfl) (by decide) (fun hZ H hEL => Pay.of_met (W := 0) (own_same l Z a0 cx [] (r6) (t6) (b10) (k10) (((own_pre (own_id x0) (own_id x1)) ++ own_dec x2)) (0) vm73 h70 O75 f74 X72 hTL (by decide)) (ow hw 206 rfl) (ow hw 2 rfl) (by decide) (by decide) hZ H hEL) 485 (argsL := [(.ref r6), (.ref b10), (.int (Int32.ofNat ((own_pre (own_id x0) (own_id x1)) ++ own_dec x2).length)), (.int (0 : Int32))]) (rest := []) (lenOf own_pd733 rfl) rfl rfl (Nat.le_of_eq rfl) (by rw [hml]; rfl) (hb hby at_482) rfl (by decide) (by decide) ?_
                      rintro _ vm75 h75 C75 ⟨rfl, rfl⟩
                      have z75 := C75.2.1
                      refine gat1 ?_
                      refine uN 488 hx hby at_485 rfl ((if0 _ _).trans (feq (by decide)).1) ?_
                      refine uA 490 hx hby at_488 rfl rfl rfl ?_
                      refine uA 492 hx hby at_490 rfl rfl rfl ?_
                      refine uI 494 hx hby at_492 rfl rfl ?_
                      refine uKc 495 (1 : Int32) hx hby at_494 rfl rfl ?_
                      refine ginfo fun _ _ O76 => ?_
                      refine gcallS (y := mn727) hx (ow hw 204 rfl) (ow hw 205 rfl) (ow hw 2 rfl) (ow hw 206 rfl) (by decide) (fun hZ H hEL => Pay.of_met (W := 0) (own_same l Z a0 cx [] (r6) (t6) (b10) (k10) (((own_pre (own_id x0) (own_id x1)) ++ own_dec x2)) (1) vm75 h70 O76 f74 X72 hTL (by decide)) (ow hw 206 rfl) (ow hw 2 rfl) (by decide) (by decide) hZ H hEL) 498 (argsL := [(.ref r6), (.ref b10), (.int (Int32.ofNat ((own_pre (own_id x0) (own_id x1)) ++ own_dec x2).length)), (.int (1 : Int32))]) (rest := []) (lenOf own_pd733 rfl) rfl rfl (Nat.le_of_eq rfl) (by rw [hml]; rfl) (hb hby at_495) rfl (by decide) (by decide) ?_
                      rintro _ vm76 h76 C76 ⟨rfl, rfl⟩
                      have z76 := C76.2.1
                      refine gat1 ?_
                      refine uN 501 hx hby at_498 rfl ((if0 _ _).trans (feq (by decide)).1) ?_
                      refine uA 503 hx hby at_501 rfl rfl rfl ?_
                      refine uA 505 hx hby at_503 rfl rfl rfl ?_
                      refine uI 507 hx hby at_505 rfl rfl ?_
                      refine uKc 508 (2 : Int32) hx hby at_507 rfl rfl ?_
                      refine ginfo fun _ _ O77 => ?_
                      refine gcallS (y := mn727) hx (ow hw 204 rfl) (ow hw 205 rfl) (ow hw 2 rfl) (ow hw 206 rfl) (by decide) (fun hZ H hEL => Pay.of_met (W := 0) (own_same l Z a0 cx [] (r6) (t6) (b10) (k10) (((own_pre (own_id x0) (own_id x1)) ++ own_dec x2)) (2) vm76 h70 O77 f74 X72 hTL (by decide)) (ow hw 206 rfl) (ow hw 2 rfl) (by decide) (by decide) hZ H hEL) 511 (argsL := [(.ref r6), (.ref b10), (.int (Int32.ofNat ((own_pre (own_id x0) (own_id x1)) ++ own_dec x2).length)), (.int (2 : Int32))]) (rest := []) (lenOf own_pd733 rfl) rfl rfl (Nat.le_of_eq rfl) (by rw [hml]; rfl) (hb hby at_508) rfl (by decide) (by decide) ?_
                      rintro _ vm77 h77 C77 ⟨rfl, rfl⟩
                      have z77 := C77.2.1
                      refine gat1 ?_
                      refine uN 514 hx hby at_511 rfl ((if0 _ _).trans (feq (by decide)).1) ?_
                      refine uA 516 hx hby at_514 rfl rfl rfl ?_
                      refine uA 518 hx hby at_516 rfl rfl rfl ?_
                      refine uI 520 hx hby at_518 rfl rfl ?_
                      refine uKc 521 (3 : Int32) hx hby at_520 rfl rfl ?_
                      refine ginfo fun _ _ O78 => ?_
                      refine gcallS (y := mn727) hx (ow hw 204 rfl) (ow hw 205 rfl) (ow hw 2 rfl) (ow hw 206 rfl) (by decide) (fun hZ H hEL => Pay.of_met (W := 0) (own_same l Z a0 cx [] (r6) (t6) (b10) (k10) (((own_pre (own_id x0) (own_id x1)) ++ own_dec x2)) (3) vm77 h70 O78 f74 X72 hTL (by decide)) (ow hw 206 rfl) (ow hw 2 rfl) (by decide) (by decide) hZ H hEL) 524 (argsL := [(.ref r6), (.ref b10), (.int (Int32.ofNat ((own_pre (own_id x0) (own_id x1)) ++ own_dec x2).length)), (.int (3 : Int32))]) (rest := []) (lenOf own_pd733 rfl) rfl rfl (Nat.le_of_eq rfl) (by rw [hml]; rfl) (hb hby at_521) rfl (by decide) (by decide) ?_
                      rintro _ vm78 h78 C78 ⟨rfl, rfl⟩
                      have z78 := C78.2.1
                      refine gat1 ?_
                      refine uN 527 hx hby at_524 rfl ((if0 _ _).trans (feq (by decide)).1) ?_
                      refine uA 529 hx hby at_527 rfl rfl rfl ?_
                      refine uA 531 hx hby at_529 rfl rfl rfl ?_
                      refine uI 533 hx hby at_531 rfl rfl ?_
                      refine uKc 534 (4 : Int32) hx hby at_533 rfl rfl ?_
                      refine ginfo fun _ _ O79 => ?_
                      refine gcallS (y := mn727) hx (ow hw 204 rfl) (ow hw 205 rfl) (ow hw 2 rfl) (ow hw 206 rfl) (by decide) (fun hZ H hEL => Pay.of_met (W := 0) (own_same l Z a0 cx [] (r6) (t6) (b10) (k10) (((own_pre (own_id x0) (own_id x1)) ++ own_dec x2)) (4) vm78 h70 O79 f74 X72 hTL (by decide)) (ow hw 206 rfl) (ow hw 2 rfl) (by decide) (by decide) hZ H hEL) 537 (argsL := [(.ref r6), (.ref b10), (.int (Int32.ofNat ((own_pre (own_id x0) (own_id x1)) ++ own_dec x2).length)), (.int (4 : Int32))]) (rest := []) (lenOf own_pd733 rfl) rfl rfl (Nat.le_of_eq rfl) (by rw [hml]; rfl) (hb hby at_534) rfl (by decide) (by decide) ?_
                      rintro _ vm79 h79 C79 ⟨rfl, rfl⟩
                      have z79 := C79.2.1
                      refine gat1 ?_
                      refine uN 540 hx hby at_537 rfl ((if0 _ _).trans (feq (by decide)).1) ?_
                      refine uA 542 hx hby at_540 rfl rfl rfl ?_
                      refine uA 544 hx hby at_542 rfl rfl rfl ?_
                      refine uI 546 hx hby at_544 rfl rfl ?_
                      refine uKc 547 (5 : Int32) hx hby at_546 rfl rfl ?_
                      refine ginfo fun _ _ O80 => ?_
                      refine gcallS (y := mn727) hx (ow hw 204 rfl) (ow hw 205 rfl) (ow hw 2 rfl) (ow hw 206 rfl) (by decide) (fun hZ H hEL => Pay.of_met (W := 0) (own_same l Z a0 cx [] (r6) (t6) (b10) (k10) (((own_pre (own_id x0) (own_id x1)) ++ own_dec x2)) (5) vm79 h70 O80 f74 X72 hTL (by decide)) (ow hw 206 rfl) (ow hw 2 rfl) (by decide) (by decide) hZ H hEL) 550 (argsL := [(.ref r6), (.ref b10), (.int (Int32.ofNat ((own_pre (own_id x0) (own_id x1)) ++ own_dec x2).length)), (.int (5 : Int32))]) (rest := []) (lenOf own_pd733 rfl) rfl rfl (Nat.le_of_eq rfl) (by rw [hml]; rfl) (hb hby at_547) rfl (by decide) (by decide) ?_
                      rintro _ vm80 h80 C80 ⟨rfl, rfl⟩
                      have z80 := C80.2.1
                      refine gat1 ?_
                      refine uN 553 hx hby at_550 rfl ((if0 _ _).trans (feq (by decide)).1) ?_
                      refine uA 555 hx hby at_553 rfl rfl rfl ?_
                      refine uA 557 hx hby at_555 rfl rfl rfl ?_
                      refine uI 559 hx hby at_557 rfl rfl ?_
                      refine uKb 561 (6 : Int32) hx hby at_559 rfl rfl ?_
                      refine ginfo fun _ _ O81 => ?_
                      refine gcallS (y := mn727) hx (ow hw 204 rfl) (ow hw 205 rfl) (ow hw 2 rfl) (ow hw 206 rfl) (by decide) (fun hZ H hEL => Pay.of_met (W := 0) (own_same l Z a0 cx [] (r6) (t6) (b10) (k10) (((own_pre (own_id x0) (own_id x1)) ++ own_dec x2)) (6) vm80 h70 O81 f74 X72 hTL (by decide)) (ow hw 206 rfl) (ow hw 2 rfl) (by decide) (by decide) hZ H hEL) 564 (argsL := [(.ref r6), (.ref b10), (.int (Int32.ofNat ((own_pre (own_id x0) (own_id x1)) ++ own_dec x2).length)), (.int (6 : Int32))]) (rest := []) (lenOf own_pd733 rfl) rfl rfl (Nat.le_of_eq rfl) (by rw [hml]; rfl) (hb hby at_561) rfl (by decide) (by decide) ?_
                      rintro _ vm81 h81 C81 ⟨rfl, rfl⟩
                      have z81 := C81.2.1
                      refine gat1 ?_
                      refine uN 567 hx hby at_564 rfl ((if0 _ _).trans (feq (by decide)).1) ?_
                      refine uA 569 hx hby at_567 rfl rfl rfl ?_
                      refine uA 571 hx hby at_569 rfl rfl rfl ?_
                      refine uI 573 hx hby at_571 rfl rfl ?_
                      refine uKb 575 (7 : Int32) hx hby at_573 rfl rfl ?_
                      refine ginfo fun _ _ O82 => ?_
                      refine gcallS (y := mn727) hx (ow hw 204 rfl) (ow hw 205 rfl) (ow hw 2 rfl) (ow hw 206 rfl) (by decide) (fun hZ H hEL => Pay.of_met (W := 0) (own_same l Z a0 cx [] (r6) (t6) (b10) (k10) (((own_pre (own_id x0) (own_id x1)) ++ own_dec x2)) (7) vm81 h70 O82 f74 X72 hTL (by decide)) (ow hw 206 rfl) (ow hw 2 rfl) (by decide) (by decide) hZ H hEL) 578 (argsL := [(.ref r6), (.ref b10), (.int (Int32.ofNat ((own_pre (own_id x0) (own_id x1)) ++ own_dec x2).length)), (.int (7 : Int32))]) (rest := []) (lenOf own_pd733 rfl) rfl rfl (Nat.le_of_eq rfl) (by rw [hml]; rfl) (hb hby at_575) rfl (by decide) (by decide) ?_
                      rintro _ vm82 h82 C82 ⟨rfl, rfl⟩
                      have z82 := C82.2.1
                      refine gat1 ?_
                      refine uN 581 hx hby at_578 rfl ((if0 _ _).trans (feq (by decide)).1) ?_
                      refine uA 583 hx hby at_581 rfl rfl rfl ?_
                      refine uA 585 hx hby at_583 rfl rfl rfl ?_
                      refine uI 587 hx hby at_585 rfl rfl ?_
                      refine uKb 589 (8 : Int32) hx hby at_587 rfl rfl ?_
                      refine ginfo fun _ _ O83 => ?_
                      refine gcallS (y := mn727) hx (ow hw 204 rfl) (ow hw 205 rfl) (ow hw 2 rfl) (ow hw 206 rfl) (by decide) (fun hZ H hEL => Pay.of_met (W := 0) (own_same l Z a0 cx [] (r6) (t6) (b10) (k10) (((own_pre (own_id x0) (own_id x1)) ++ own_dec x2)) (8) vm82 h70 O83 f74 X72 hTL (by decide)) (ow hw 206 rfl) (ow hw 2 rfl) (by decide) (by decide) hZ H hEL) 592 (argsL := [(.ref r6), (.ref b10), (.int (Int32.ofNat ((own_pre (own_id x0) (own_id x1)) ++ own_dec x2).length)), (.int (8 : Int32))]) (rest := []) (lenOf own_pd733 rfl) rfl rfl (Nat.le_of_eq rfl) (by rw [hml]; rfl) (hb hby at_589) rfl (by decide) (by decide) ?_
                      rintro _ vm83 h83 C83 ⟨rfl, rfl⟩
                      have z83 := C83.2.1
                      refine gat1 ?_
                      refine uN 595 hx hby at_592 rfl ((if0 _ _).trans (feq (by decide)).1) ?_
                      refine uA 597 hx hby at_595 rfl rfl rfl ?_
                      refine uA 599 hx hby at_597 rfl rfl rfl ?_
                      refine uI 601 hx hby at_599 rfl rfl ?_
                      refine uKb 603 (9 : Int32) hx hby at_601 rfl rfl ?_
                      refine ginfo fun _ _ O84 => ?_
                      refine gcallS (y := mn727) hx (ow hw 204 rfl) (ow hw 205 rfl) (ow hw 2 rfl) (ow hw 206 rfl) (by decide) (fun hZ H hEL => Pay.of_met (W := 0) (own_same l Z a0 cx [] (r6) (t6) (b10) (k10) (((own_pre (own_id x0) (own_id x1)) ++ own_dec x2)) (9) vm83 h70 O84 f74 X72 hTL (by decide)) (ow hw 206 rfl) (ow hw 2 rfl) (by decide) (by decide) hZ H hEL) 606 (argsL := [(.ref r6), (.ref b10), (.int (Int32.ofNat ((own_pre (own_id x0) (own_id x1)) ++ own_dec x2).length)), (.int (9 : Int32))]) (rest := []) (lenOf own_pd733 rfl) rfl rfl (Nat.le_of_eq rfl) (by rw [hml]; rfl) (hb hby at_603) rfl (by decide) (by decide) ?_
                      rintro _ vm84 h84 C84 ⟨rfl, rfl⟩
                      have z84 := C84.2.1
                      refine gat1 ?_
                      refine uN 609 hx hby at_606 rfl ((if0 _ _).trans (feq (by decide)).1) ?_
                      refine uA 611 hx hby at_609 rfl rfl rfl ?_
                      refine uA 613 hx hby at_611 rfl rfl rfl ?_
                      refine uI 615 hx hby at_613 rfl rfl ?_
                      refine uKb 617 (10 : Int32) hx hby at_615 rfl rfl ?_
                      refine ginfo fun _ _ O85 => ?_
                      refine gcallS (y := mn727) hx (ow hw 204 rfl) (ow hw 205 rfl) (ow hw 2 rfl) (ow hw 206 rfl) (by decide) (fun hZ H hEL => Pay.of_met (W := 0) (own_same l Z a0 cx [] (r6) (t6) (b10) (k10) (((own_pre (own_id x0) (own_id x1)) ++ own_dec x2)) (10) vm84 h70 O85 f74 X72 hTL (by decide)) (ow hw 206 rfl) (ow hw 2 rfl) (by decide) (by decide) hZ H hEL) 620 (argsL := [(.ref r6), (.ref b10), (.int (Int32.ofNat ((own_pre (own_id x0) (own_id x1)) ++ own_dec x2).length)), (.int (10 : Int32))]) (rest := []) (lenOf own_pd733 rfl) rfl rfl (Nat.le_of_eq rfl) (by rw [hml]; rfl) (hb hby at_617) rfl (by decide) (by decide) ?_
                      rintro _ vm85 h85 C85 ⟨rfl, rfl⟩
                      have z85 := C85.2.1
                      refine gat1 ?_
                      refine uN 623 hx hby at_620 rfl ((if0 _ _).trans (feq (by decide)).1) ?_
                      refine uA 625 hx hby at_623 rfl rfl rfl ?_
                      refine uA 627 hx hby at_625 rfl rfl rfl ?_
                      refine uI 629 hx hby at_627 rfl rfl ?_
                      refine uKb 631 (11 : Int32) hx hby at_629 rfl rfl ?_
                      refine ginfo fun _ _ O86 => ?_
                      refine gcallS (y := mn727) hx (ow hw 204 rfl) (ow hw 205 rfl) (ow hw 2 rfl) (ow hw 206 rfl) (by decide) (fun hZ H hEL => Pay.of_met (W := 0) (own_same l Z a0 cx [] (r6) (t6) (b10) (k10) (((own_pre (own_id x0) (own_id x1)) ++ own_dec x2)) (11) vm85 h70 O86 f74 X72 hTL (by decide)) (ow hw 206 rfl) (ow hw 2 rfl) (by decide) (by decide) hZ H hEL) 634 (argsL := [(.ref r6), (.ref b10), (.int (Int32.ofNat ((own_pre (own_id x0) (own_id x1)) ++ own_dec x2).length)), (.int (11 : Int32))]) (rest := []) (lenOf own_pd733 rfl) rfl rfl (Nat.le_of_eq rfl) (by rw [hml]; rfl) (hb hby at_631) rfl (by decide) (by decide) ?_
                      rintro _ vm86 h86 C86 ⟨rfl, rfl⟩
                      have z86 := C86.2.1
                      refine gat1 ?_
                      refine uN 637 hx hby at_634 rfl ((if0 _ _).trans (feq (by decide)).1) ?_
                      refine uA 639 hx hby at_637 rfl rfl rfl ?_
                      refine uA 641 hx hby at_639 rfl rfl rfl ?_
                      refine uI 643 hx hby at_641 rfl rfl ?_
                      refine uKb 645 (12 : Int32) hx hby at_643 rfl rfl ?_
                      refine ginfo fun _ _ O87 => ?_
                      refine gcallS (y := mn727) hx (ow hw 204 rfl) (ow hw 205 rfl) (ow hw 2 rfl) (ow hw 206 rfl) (by decide) (fun hZ H hEL => Pay.of_met (W := 0) (own_same l Z a0 cx [] (r6) (t6) (b10) (k10) (((own_pre (own_id x0) (own_id x1)) ++ own_dec x2)) (12) vm86 h70 O87 f74 X72 hTL (by decide)) (ow hw 206 rfl) (ow hw 2 rfl) (by decide) (by decide) hZ H hEL) 648 (argsL := [(.ref r6), (.ref b10), (.int (Int32.ofNat ((own_pre (own_id x0) (own_id x1)) ++ own_dec x2).length)), (.int (12 : Int32))]) (rest := []) (lenOf own_pd733 rfl) rfl rfl (Nat.le_of_eq rfl) (by rw [hml]; rfl) (hb hby at_645) rfl (by decide) (by decide) ?_
                      rintro _ vm87 h87 C87 ⟨rfl, rfl⟩
                      have z87 := C87.2.1
                      refine gat1 ?_
                      refine uN 651 hx hby at_648 rfl ((if0 _ _).trans (feq (by decide)).1) ?_
                      refine uA 653 hx hby at_651 rfl rfl rfl ?_
                      refine uA 655 hx hby at_653 rfl rfl rfl ?_
                      refine uI 657 hx hby at_655 rfl rfl ?_
                      refine uKb 659 (13 : Int32) hx hby at_657 rfl rfl ?_
                      refine ginfo fun _ _ O88 => ?_
                      refine gcallS (y := mn727) hx (ow hw 204 rfl) (ow hw 205 rfl) (ow hw 2 rfl) (ow hw 206 rfl) (by decide) (fun hZ H hEL => Pay.of_met (W := 0) (own_same l Z a0 cx [] (r6) (t6) (b10) (k10) (((own_pre (own_id x0) (own_id x1)) ++ own_dec x2)) (13) vm87 h70 O88 f74 X72 hTL (by decide)) (ow hw 206 rfl) (ow hw 2 rfl) (by decide) (by decide) hZ H hEL) 662 (argsL := [(.ref r6), (.ref b10), (.int (Int32.ofNat ((own_pre (own_id x0) (own_id x1)) ++ own_dec x2).length)), (.int (13 : Int32))]) (rest := []) (lenOf own_pd733 rfl) rfl rfl (Nat.le_of_eq rfl) (by rw [hml]; rfl) (hb hby at_659) rfl (by decide) (by decide) ?_
                      rintro _ vm88 h88 C88 ⟨rfl, rfl⟩
                      have z88 := C88.2.1
                      refine gat1 ?_
                      refine uN 665 hx hby at_662 rfl ((if0 _ _).trans (feq (by decide)).1) ?_
                      refine uA 667 hx hby at_665 rfl rfl rfl ?_
                      refine uA 669 hx hby at_667 rfl rfl rfl ?_
                      refine uI 671 hx hby at_669 rfl rfl ?_
                      refine uKb 673 (14 : Int32) hx hby at_671 rfl rfl ?_
                      refine ginfo fun _ _ O89 => ?_
                      refine gcallS (y := mn727) hx (ow hw 204 rfl) (ow hw 205 rfl) (ow hw 2 rfl) (ow hw 206 rfl) (by decide) (fun hZ H hEL => Pay.of_met (W := 0) (own_same l Z a0 cx [] (r6) (t6) (b10) (k10) (((own_pre (own_id x0) (own_id x1)) ++ own_dec x2)) (14) vm88 h70 O89 f74 X72 hTL (by decide)) (ow hw 206 rfl) (ow hw 2 rfl) (by decide) (by decide) hZ H hEL) 676 (argsL := [(.ref r6), (.ref b10), (.int (Int32.ofNat ((own_pre (own_id x0) (own_id x1)) ++ own_dec x2).length)), (.int (14 : Int32))]) (rest := []) (lenOf own_pd733 rfl) rfl rfl (Nat.le_of_eq rfl) (by rw [hml]; rfl) (hb hby at_673) rfl (by decide) (by decide) ?_
                      rintro _ vm89 h89 C89 ⟨rfl, rfl⟩
                      have z89 := C89.2.1
                      refine gat1 ?_
                      refine uN 679 hx hby at_676 rfl ((if0 _ _).trans (feq (by decide)).1) ?_
                      refine uA 681 hx hby at_679 rfl rfl rfl ?_
                      refine uA 683 hx hby at_681 rfl rfl rfl ?_
                      refine uI 685 hx hby at_683 rfl rfl ?_
                      refine uKb 687 (15 : Int32) hx hby at_685 rfl rfl ?_
                      refine ginfo fun _ _ O90 => ?_
                      refine gcallS (y := mn727) hx (ow hw 204 rfl) (ow hw 205 rfl) (ow hw 2 rfl) (ow hw 206 rfl) (by decide) (fun hZ H hEL => Pay.of_met (W := 0) (own_same l Z a0 cx [] (r6) (t6) (b10) (k10) (((own_pre (own_id x0) (own_id x1)) ++ own_dec x2)) (15) vm89 h70 O90 f74 X72 hTL (by decide)) (ow hw 206 rfl) (ow hw 2 rfl) (by decide) (by decide) hZ H hEL) 690 (argsL := [(.ref r6), (.ref b10), (.int (Int32.ofNat ((own_pre (own_id x0) (own_id x1)) ++ own_dec x2).length)), (.int (15 : Int32))]) (rest := []) (lenOf own_pd733 rfl) rfl rfl (Nat.le_of_eq rfl) (by rw [hml]; rfl) (hb hby at_687) rfl (by decide) (by decide) ?_
                      rintro _ vm90 h90 C90 ⟨rfl, rfl⟩
                      have z90 := C90.2.1
                      refine gat1 ?_
                      refine uN 693 hx hby at_690 rfl ((if0 _ _).trans (feq (by decide)).1) ?_
                      refine uA 695 hx hby at_693 rfl rfl rfl ?_
                      refine uA 697 hx hby at_695 rfl rfl rfl ?_
                      refine uI 699 hx hby at_697 rfl rfl ?_
                      refine uKb 701 (16 : Int32) hx hby at_699 rfl rfl ?_
                      refine ginfo fun _ _ O91 => ?_
                      refine gcallS (y := mn727) hx (ow hw 204 rfl) (ow hw 205 rfl) (ow hw 2 rfl) (ow hw 206 rfl) (by decide) (fun hZ H hEL => Pay.of_met (W := 0) (own_same l Z a0 cx [] (r6) (t6) (b10) (k10) (((own_pre (own_id x0) (own_id x1)) ++ own_dec x2)) (16) vm90 h70 O91 f74 X72 hTL (by decide)) (ow hw 206 rfl) (ow hw 2 rfl) (by decide) (by decide) hZ H hEL) 704 (argsL := [(.ref r6), (.ref b10), (.int (Int32.ofNat ((own_pre (own_id x0) (own_id x1)) ++ own_dec x2).length)), (.int (16 : Int32))]) (rest := []) (lenOf own_pd733 rfl) rfl rfl (Nat.le_of_eq rfl) (by rw [hml]; rfl) (hb hby at_701) rfl (by decide) (by decide) ?_
                      rintro _ vm91 h91 C91 ⟨rfl, rfl⟩
                      have z91 := C91.2.1
                      refine gat1 ?_
                      refine uN 707 hx hby at_704 rfl ((if0 _ _).trans (feq (by decide)).1) ?_
                      refine uA 709 hx hby at_707 rfl rfl rfl ?_
                      refine uA 711 hx hby at_709 rfl rfl rfl ?_
                      refine uI 713 hx hby at_711 rfl rfl ?_
                      refine uKb 715 (17 : Int32) hx hby at_713 rfl rfl ?_
                      refine ginfo fun _ _ O92 => ?_
                      refine gcallS (y := mn727) hx (ow hw 204 rfl) (ow hw 205 rfl) (ow hw 2 rfl) (ow hw 206 rfl) (by decide) (fun hZ H hEL => Pay.of_met (W := 0) (own_same l Z a0 cx [] (r6) (t6) (b10) (k10) (((own_pre (own_id x0) (own_id x1)) ++ own_dec x2)) (17) vm91 h70 O92 f74 X72 hTL (by decide)) (ow hw 206 rfl) (ow hw 2 rfl) (by decide) (by decide) hZ H hEL) 718 (argsL := [(.ref r6), (.ref b10), (.int (Int32.ofNat ((own_pre (own_id x0) (own_id x1)) ++ own_dec x2).length)), (.int (17 : Int32))]) (rest := []) (lenOf own_pd733 rfl) rfl rfl (Nat.le_of_eq rfl) (by rw [hml]; rfl) (hb hby at_715) rfl (by decide) (by decide) ?_
                      rintro _ vm92 h92 C92 ⟨rfl, rfl⟩
                      have z92 := C92.2.1
                      refine gat1 ?_
                      refine uN 721 hx hby at_718 rfl ((if0 _ _).trans (feq (by decide)).1) ?_
                      refine uA 723 hx hby at_721 rfl rfl rfl ?_
                      refine uA 725 hx hby at_723 rfl rfl rfl ?_
                      refine uI 727 hx hby at_725 rfl rfl ?_
                      refine uKb 729 (18 : Int32) hx hby at_727 rfl rfl ?_
                      refine ginfo fun _ _ O93 => ?_
                      refine gcallS (y := mn727) hx (ow hw 204 rfl) (ow hw 205 rfl) (ow hw 2 rfl) (ow hw 206 rfl) (by decide) (fun hZ H hEL => Pay.of_met (W := 0) (own_same l Z a0 cx [] (r6) (t6) (b10) (k10) (((own_pre (own_id x0) (own_id x1)) ++ own_dec x2)) (18) vm92 h70 O93 f74 X72 hTL (by decide)) (ow hw 206 rfl) (ow hw 2 rfl) (by decide) (by decide) hZ H hEL) 732 (argsL := [(.ref r6), (.ref b10), (.int (Int32.ofNat ((own_pre (own_id x0) (own_id x1)) ++ own_dec x2).length)), (.int (18 : Int32))]) (rest := []) (lenOf own_pd733 rfl) rfl rfl (Nat.le_of_eq rfl) (by rw [hml]; rfl) (hb hby at_729) rfl (by decide) (by decide) ?_
                      rintro _ vm93 h93 C93 ⟨rfl, rfl⟩
                      have z93 := C93.2.1
                      refine gat1 ?_
                      refine uN 735 hx hby at_732 rfl ((if0 _ _).trans (feq (by decide)).1) ?_
                      refine uA 737 hx hby at_735 rfl rfl rfl ?_
                      refine uA 739 hx hby at_737 rfl rfl rfl ?_
                      refine uI 741 hx hby at_739 rfl rfl ?_
                      refine uKb 743 (19 : Int32) hx hby at_741 rfl rfl ?_
                      refine ginfo fun _ _ O94 => ?_
                      refine gcallS (y := mn727) hx (ow hw 204 rfl) (ow hw 205 rfl) (ow hw 2 rfl) (ow hw 206 rfl) (by decide) (fun hZ H hEL => Pay.of_met (W := 0) (own_same l Z a0 cx [] (r6) (t6) (b10) (k10) (((own_pre (own_id x0) (own_id x1)) ++ own_dec x2)) (19) vm93 h70 O94 f74 X72 hTL (by decide)) (ow hw 206 rfl) (ow hw 2 rfl) (by decide) (by decide) hZ H hEL) 746 (argsL := [(.ref r6), (.ref b10), (.int (Int32.ofNat ((own_pre (own_id x0) (own_id x1)) ++ own_dec x2).length)), (.int (19 : Int32))]) (rest := []) (lenOf own_pd733 rfl) rfl rfl (Nat.le_of_eq rfl) (by rw [hml]; rfl) (hb hby at_743) rfl (by decide) (by decide) ?_
                      rintro _ vm94 h94 C94 ⟨rfl, rfl⟩
                      have z94 := C94.2.1
                      refine gat1 ?_
                      refine uN 749 hx hby at_746 rfl ((if0 _ _).trans (feq (by decide)).1) ?_
                      refine uA 751 hx hby at_749 rfl rfl rfl ?_
                      refine uA 753 hx hby at_751 rfl rfl rfl ?_
                      refine uI 755 hx hby at_753 rfl rfl ?_
                      refine uKb 757 (20 : Int32) hx hby at_755 rfl rfl ?_
                      refine ginfo fun _ _ O95 => ?_
                      refine gcallS (y := mn727) hx (ow hw 204 rfl) (ow hw 205 rfl) (ow hw 2 rfl) (ow hw 206 rfl) (by decide) (fun hZ H hEL => Pay.of_met (W := 0) (own_same l Z a0 cx [] (r6) (t6) (b10) (k10) (((own_pre (own_id x0) (own_id x1)) ++ own_dec x2)) (20) vm94 h70 O95 f74 X72 hTL (by decide)) (ow hw 206 rfl) (ow hw 2 rfl) (by decide) (by decide) hZ H hEL) 760 (argsL := [(.ref r6), (.ref b10), (.int (Int32.ofNat ((own_pre (own_id x0) (own_id x1)) ++ own_dec x2).length)), (.int (20 : Int32))]) (rest := []) (lenOf own_pd733 rfl) rfl rfl (Nat.le_of_eq rfl) (by rw [hml]; rfl) (hb hby at_757) rfl (by decide) (by decide) ?_
                      rintro _ vm95 h95 C95 ⟨rfl, rfl⟩
                      have z95 := C95.2.1
                      refine gat1 ?_
                      refine uN 763 hx hby at_760 rfl ((if0 _ _).trans (feq (by decide)).1) ?_
                      refine uA 765 hx hby at_763 rfl rfl rfl ?_
                      refine uA 767 hx hby at_765 rfl rfl rfl ?_
                      refine uI 769 hx hby at_767 rfl rfl ?_
                      refine uKb 771 (21 : Int32) hx hby at_769 rfl rfl ?_
                      refine ginfo fun _ _ O96 => ?_
                      refine gcallS (y := mn727) hx (ow hw 204 rfl) (ow hw 205 rfl) (ow hw 2 rfl) (ow hw 206 rfl) (by decide) (fun hZ H hEL => Pay.of_met (W := 0) (own_same l Z a0 cx [] (r6) (t6) (b10) (k10) (((own_pre (own_id x0) (own_id x1)) ++ own_dec x2)) (21) vm95 h70 O96 f74 X72 hTL (by decide)) (ow hw 206 rfl) (ow hw 2 rfl) (by decide) (by decide) hZ H hEL) 774 (argsL := [(.ref r6), (.ref b10), (.int (Int32.ofNat ((own_pre (own_id x0) (own_id x1)) ++ own_dec x2).length)), (.int (21 : Int32))]) (rest := []) (lenOf own_pd733 rfl) rfl rfl (Nat.le_of_eq rfl) (by rw [hml]; rfl) (hb hby at_771) rfl (by decide) (by decide) ?_
                      rintro _ vm96 h96 C96 ⟨rfl, rfl⟩
                      have z96 := C96.2.1
                      refine gat1 ?_
                      refine uN 777 hx hby at_774 rfl ((if0 _ _).trans (feq (by decide)).1) ?_
                      refine uA 779 hx hby at_777 rfl rfl rfl ?_
                      refine uA 781 hx hby at_779 rfl rfl rfl ?_
                      refine uI 783 hx hby at_781 rfl rfl ?_
                      refine uKb 785 (22 : Int32) hx hby at_783 rfl rfl ?_
                      refine ginfo fun _ _ O97 => ?_
                      refine gcallS (y := mn727) hx (ow hw 204 rfl) (ow hw 205 rfl) (ow hw 2 rfl) (ow hw 206 rfl) (by decide) (fun hZ H hEL => Pay.of_met (W := 0) (own_same l Z a0 cx [] (r6) (t6) (b10) (k10) (((own_pre (own_id x0) (own_id x1)) ++ own_dec x2)) (22) vm96 h70 O97 f74 X72 hTL (by decide)) (ow hw 206 rfl) (ow hw 2 rfl) (by decide) (by decide) hZ H hEL) 788 (argsL := [(.ref r6), (.ref b10), (.int (Int32.ofNat ((own_pre (own_id x0) (own_id x1)) ++ own_dec x2).length)), (.int (22 : Int32))]) (rest := []) (lenOf own_pd733 rfl) rfl rfl (Nat.le_of_eq rfl) (by rw [hml]; rfl) (hb hby at_785) rfl (by decide) (by decide) ?_
                      rintro _ vm97 h97 C97 ⟨rfl, rfl⟩
                      have z97 := C97.2.1
                      refine gat1 ?_
                      refine uN 791 hx hby at_788 rfl ((if0 _ _).trans (feq (by decide)).1) ?_
                      refine uA 793 hx hby at_791 rfl rfl rfl ?_
                      refine uA 795 hx hby at_793 rfl rfl rfl ?_
                      refine uI 797 hx hby at_795 rfl rfl ?_
                      refine uKb 799 (23 : Int32) hx hby at_797 rfl rfl ?_
                      refine ginfo fun _ _ O98 => ?_
                      refine gcallS (y := mn727) hx (ow hw 204 rfl) (ow hw 205 rfl) (ow hw 2 rfl) (ow hw 206 rfl) (by decide) (fun hZ H hEL => Pay.of_met (W := 0) (own_same l Z a0 cx [] (r6) (t6) (b10) (k10) (((own_pre (own_id x0) (own_id x1)) ++ own_dec x2)) (23) vm97 h70 O98 f74 X72 hTL (by decide)) (ow hw 206 rfl) (ow hw 2 rfl) (by decide) (by decide) hZ H hEL) 802 (argsL := [(.ref r6), (.ref b10), (.int (Int32.ofNat ((own_pre (own_id x0) (own_id x1)) ++ own_dec x2).length)), (.int (23 : Int32))]) (rest := []) (lenOf own_pd733 rfl) rfl rfl (Nat.le_of_eq rfl) (by rw [hml]; rfl) (hb hby at_799) rfl (by decide) (by decide) ?_
                      rintro _ vm98 h98 C98 ⟨rfl, rfl⟩
                      have z98 := C98.2.1
                      refine gat1 ?_
                      refine uN 805 hx hby at_802 rfl ((if0 _ _).trans (feq (by decide)).1) ?_
                      refine uA 807 hx hby at_805 rfl rfl rfl ?_
                      refine uA 809 hx hby at_807 rfl rfl rfl ?_
                      refine uI 811 hx hby at_809 rfl rfl ?_
                      refine uKb 813 (24 : Int32) hx hby at_811 rfl rfl ?_
                      refine ginfo fun _ _ O99 => ?_
                      refine gcallS (y := mn727) hx (ow hw 204 rfl) (ow hw 205 rfl) (ow hw 2 rfl) (ow hw 206 rfl) (by decide) (fun hZ H hEL => Pay.of_met (W := 0) (own_same l Z a0 cx [] (r6) (t6) (b10) (k10) (((own_pre (own_id x0) (own_id x1)) ++ own_dec x2)) (24) vm98 h70 O99 f74 X72 hTL (by decide)) (ow hw 206 rfl) (ow hw 2 rfl) (by decide) (by decide) hZ H hEL) 816 (argsL := [(.ref r6), (.ref b10), (.int (Int32.ofNat ((own_pre (own_id x0) (own_id x1)) ++ own_dec x2).length)), (.int (24 : Int32))]) (rest := []) (lenOf own_pd733 rfl) rfl rfl (Nat.le_of_eq rfl) (by rw [hml]; rfl) (hb hby at_813) rfl (by decide) (by decide) ?_
                      rintro _ vm99 h99 C99 ⟨rfl, rfl⟩
                      have z99 := C99.2.1
                      refine gat1 ?_
                      refine uN 819 hx hby at_816 rfl ((if0 _ _).trans (feq (by decide)).1) ?_
                      refine uKc 820 (1 : Int32) hx hby at_819 rfl rfl ?_
                      refine uG 824 hx hby at_820 (by decide) (by decide) ?_
                      exact gretN (t := .boolean) hx hret (by simp) (hb hby at_824) (by decide) (by decide) (fun vq Cq => ⟨rfl, (((((((((((((((((((((((((((((((((((((Keep.refl h0 []).trans K1 all0).trans K2 all0).ext E3).trans K4 (allS (Or.inr (by omega)) all0)).trans K6 all0).ext E10).trans K11 (allS (Or.inr (by omega)) all0)).trans K12 (allS (Or.inr (by omega)) all0)).trans K13 (allS (Or.inr (by omega)) all0)).trans K14 (allS (Or.inr (by omega)) all0)).trans K15 (allS (Or.inr (by omega)) all0)).trans K16 (allS (Or.inr (by omega)) all0)).trans K17 (allS (Or.inr (by omega)) all0)).trans K18 (allS (Or.inr (by omega)) all0)).trans K19 (allS (Or.inr (by omega)) all0)).trans K20 (allS (Or.inr (by omega)) all0)).trans K21 (allS (Or.inr (by omega)) all0)).trans K23 all0).trans K25 all0).trans K27 all0).trans K29 all0).trans K31 all0).trans K33 all0).trans K35 all0).trans K37 all0).trans K39 all0).trans K44 (allS (Or.inr (by omega)) all0)).trans K47 (allS (Or.inr (by omega)) all0)).trans K50 (allS (Or.inr (by omega)) all0)).trans K53 (allS (Or.inr (by omega)) all0)).trans K56 (allS (Or.inr (by omega)) all0)).trans K59 (allS (Or.inr (by omega)) all0)).trans K62 (allS (Or.inr (by omega)) all0)).trans K65 (allS (Or.inr (by omega)) all0)).trans K68 (allS (Or.inr (by omega)) all0)).trans K70 (allS (Or.inr (by omega)) all0))⟩)
                    · intro J39
                      refine gs (mkF m 280 #[vi x0, vi x1, vi x2, vr r1, vr r2, vr b3, vr r6, vr b10, vi (Int32.ofNat ((own_pre (own_id x0) (own_id x1)) ++ own_sl x2).length), .val (.long (Int64.ofNat (own_abs x2))), .second, vi (Int32.ofNat (own_nd 8 (own_abs x2)))] [(.long (Int64.ofNat (own_abs x2)))]) (fun _ _ A kq => XS.lload A hx rfl (hb hby at_278) rfl  kq) ?_
                      refine gldcJ hx (ow hw 199 rfl) 283 (hb hby at_280) rfl ?_
                      refine gs (mkF m 284 #[vi x0, vi x1, vi x2, vr r1, vr r2, vr b3, vr r6, vr b10, vi (Int32.ofNat ((own_pre (own_id x0) (own_id x1)) ++ own_sl x2).length), .val (.long (Int64.ofNat (own_abs x2))), .second, vi (Int32.ofNat (own_nd 8 (own_abs x2)))] [(.int (lcmpW (Int64.ofNat (own_abs x2)) (1000000000 : Int64)))]) (fun _ _ A kq => XS.lcmp A hx rfl (hb hby at_283) rfl kq) ?_
                      by_cases g : (lcmpW (Int64.ofNat (own_abs x2)) (1000000000 : Int64)) < (0 : Int32)
                      · refine uY 291 hx hby at_284 ((if0 _ _).trans (tlt g).1) (by decide) (by decide) ?_
                        refine ginfo fun _ Hq _ => ?_
                        exact gmono (by decide) (by decide) (J39 _ _ _ ⟨(Int32.ofNat (own_nd 8 (own_abs x2))), rfl, (Keep.refl h37 []), (CHr.refl Hq), (congrArg Int32.ofNat (if_pos ((own_lcj hle 1000000000 (by decide) (1000000000) (by decide)).mp g)).symm)⟩)
                      · refine uN 287 hx hby at_284 rfl ((if0 _ _).trans (flt g).1) ?_
                        refine uKb 289 (10 : Int32) hx hby at_287 rfl rfl ?_
                        refine uSI 291 #[vi x0, vi x1, vi x2, vr r1, vr r2, vr b3, vr r6, vr b10, vi (Int32.ofNat ((own_pre (own_id x0) (own_id x1)) ++ own_sl x2).length), .val (.long (Int64.ofNat (own_abs x2))), .second, vi (10 : Int32)] hx hby at_289 rfl rfl ?_
                        refine ginfo fun _ Hq _ => ?_
                        exact gmono (by decide) (by decide) (J39 _ _ _ ⟨(10 : Int32), rfl, (Keep.refl h37 []), (CHr.refl Hq), (congrArg Int32.ofNat (if_neg (fun z => g ((own_lcj hle 1000000000 (by decide) (1000000000) (by decide)).mpr z))).symm)⟩)
                  · intro J37
                    refine gs (mkF m 267 #[vi x0, vi x1, vi x2, vr r1, vr r2, vr b3, vr r6, vr b10, vi (Int32.ofNat ((own_pre (own_id x0) (own_id x1)) ++ own_sl x2).length), .val (.long (Int64.ofNat (own_abs x2))), .second, vi (Int32.ofNat (own_nd 7 (own_abs x2)))] [(.long (Int64.ofNat (own_abs x2)))]) (fun _ _ A kq => XS.lload A hx rfl (hb hby at_265) rfl  kq) ?_
                    refine gldcJ hx (ow hw 198 rfl) 270 (hb hby at_267) rfl ?_
                    refine gs (mkF m 271 #[vi x0, vi x1, vi x2, vr r1, vr r2, vr b3, vr r6, vr b10, vi (Int32.ofNat ((own_pre (own_id x0) (own_id x1)) ++ own_sl x2).length), .val (.long (Int64.ofNat (own_abs x2))), .second, vi (Int32.ofNat (own_nd 7 (own_abs x2)))] [(.int (lcmpW (Int64.ofNat (own_abs x2)) (100000000 : Int64)))]) (fun _ _ A kq => XS.lcmp A hx rfl (hb hby at_270) rfl kq) ?_
                    by_cases g : (lcmpW (Int64.ofNat (own_abs x2)) (100000000 : Int64)) < (0 : Int32)
                    · refine uY 278 hx hby at_271 ((if0 _ _).trans (tlt g).1) (by decide) (by decide) ?_
                      refine ginfo fun _ Hq _ => ?_
                      exact gmono (by decide) (by decide) (J37 _ _ _ ⟨(Int32.ofNat (own_nd 7 (own_abs x2))), rfl, (Keep.refl h35 []), (CHr.refl Hq), (congrArg Int32.ofNat (if_pos ((own_lcj hle 100000000 (by decide) (100000000) (by decide)).mp g)).symm)⟩)
                    · refine uN 274 hx hby at_271 rfl ((if0 _ _).trans (flt g).1) ?_
                      refine uKb 276 (9 : Int32) hx hby at_274 rfl rfl ?_
                      refine uSI 278 #[vi x0, vi x1, vi x2, vr r1, vr r2, vr b3, vr r6, vr b10, vi (Int32.ofNat ((own_pre (own_id x0) (own_id x1)) ++ own_sl x2).length), .val (.long (Int64.ofNat (own_abs x2))), .second, vi (9 : Int32)] hx hby at_276 rfl rfl ?_
                      refine ginfo fun _ Hq _ => ?_
                      exact gmono (by decide) (by decide) (J37 _ _ _ ⟨(9 : Int32), rfl, (Keep.refl h35 []), (CHr.refl Hq), (congrArg Int32.ofNat (if_neg (fun z => g ((own_lcj hle 100000000 (by decide) (100000000) (by decide)).mpr z))).symm)⟩)
                · intro J35
                  refine gs (mkF m 254 #[vi x0, vi x1, vi x2, vr r1, vr r2, vr b3, vr r6, vr b10, vi (Int32.ofNat ((own_pre (own_id x0) (own_id x1)) ++ own_sl x2).length), .val (.long (Int64.ofNat (own_abs x2))), .second, vi (Int32.ofNat (own_nd 6 (own_abs x2)))] [(.long (Int64.ofNat (own_abs x2)))]) (fun _ _ A kq => XS.lload A hx rfl (hb hby at_252) rfl  kq) ?_
                  refine gldcJ hx (ow hw 197 rfl) 257 (hb hby at_254) rfl ?_
                  refine gs (mkF m 258 #[vi x0, vi x1, vi x2, vr r1, vr r2, vr b3, vr r6, vr b10, vi (Int32.ofNat ((own_pre (own_id x0) (own_id x1)) ++ own_sl x2).length), .val (.long (Int64.ofNat (own_abs x2))), .second, vi (Int32.ofNat (own_nd 6 (own_abs x2)))] [(.int (lcmpW (Int64.ofNat (own_abs x2)) (10000000 : Int64)))]) (fun _ _ A kq => XS.lcmp A hx rfl (hb hby at_257) rfl kq) ?_
                  by_cases g : (lcmpW (Int64.ofNat (own_abs x2)) (10000000 : Int64)) < (0 : Int32)
                  · refine uY 265 hx hby at_258 ((if0 _ _).trans (tlt g).1) (by decide) (by decide) ?_
                    refine ginfo fun _ Hq _ => ?_
                    exact gmono (by decide) (by decide) (J35 _ _ _ ⟨(Int32.ofNat (own_nd 6 (own_abs x2))), rfl, (Keep.refl h33 []), (CHr.refl Hq), (congrArg Int32.ofNat (if_pos ((own_lcj hle 10000000 (by decide) (10000000) (by decide)).mp g)).symm)⟩)
                  · refine uN 261 hx hby at_258 rfl ((if0 _ _).trans (flt g).1) ?_
                    refine uKb 263 (8 : Int32) hx hby at_261 rfl rfl ?_
                    refine uSI 265 #[vi x0, vi x1, vi x2, vr r1, vr r2, vr b3, vr r6, vr b10, vi (Int32.ofNat ((own_pre (own_id x0) (own_id x1)) ++ own_sl x2).length), .val (.long (Int64.ofNat (own_abs x2))), .second, vi (8 : Int32)] hx hby at_263 rfl rfl ?_
                    refine ginfo fun _ Hq _ => ?_
                    exact gmono (by decide) (by decide) (J35 _ _ _ ⟨(8 : Int32), rfl, (Keep.refl h33 []), (CHr.refl Hq), (congrArg Int32.ofNat (if_neg (fun z => g ((own_lcj hle 10000000 (by decide) (10000000) (by decide)).mpr z))).symm)⟩)
              · intro J33
                refine gs (mkF m 241 #[vi x0, vi x1, vi x2, vr r1, vr r2, vr b3, vr r6, vr b10, vi (Int32.ofNat ((own_pre (own_id x0) (own_id x1)) ++ own_sl x2).length), .val (.long (Int64.ofNat (own_abs x2))), .second, vi (Int32.ofNat (own_nd 5 (own_abs x2)))] [(.long (Int64.ofNat (own_abs x2)))]) (fun _ _ A kq => XS.lload A hx rfl (hb hby at_239) rfl  kq) ?_
                refine gldcJ hx (ow hw 196 rfl) 244 (hb hby at_241) rfl ?_
                refine gs (mkF m 245 #[vi x0, vi x1, vi x2, vr r1, vr r2, vr b3, vr r6, vr b10, vi (Int32.ofNat ((own_pre (own_id x0) (own_id x1)) ++ own_sl x2).length), .val (.long (Int64.ofNat (own_abs x2))), .second, vi (Int32.ofNat (own_nd 5 (own_abs x2)))] [(.int (lcmpW (Int64.ofNat (own_abs x2)) (1000000 : Int64)))]) (fun _ _ A kq => XS.lcmp A hx rfl (hb hby at_244) rfl kq) ?_
                by_cases g : (lcmpW (Int64.ofNat (own_abs x2)) (1000000 : Int64)) < (0 : Int32)
                · refine uY 252 hx hby at_245 ((if0 _ _).trans (tlt g).1) (by decide) (by decide) ?_
                  refine ginfo fun _ Hq _ => ?_
                  exact gmono (by decide) (by decide) (J33 _ _ _ ⟨(Int32.ofNat (own_nd 5 (own_abs x2))), rfl, (Keep.refl h31 []), (CHr.refl Hq), (congrArg Int32.ofNat (if_pos ((own_lcj hle 1000000 (by decide) (1000000) (by decide)).mp g)).symm)⟩)
                · refine uN 248 hx hby at_245 rfl ((if0 _ _).trans (flt g).1) ?_
                  refine uKb 250 (7 : Int32) hx hby at_248 rfl rfl ?_
                  refine uSI 252 #[vi x0, vi x1, vi x2, vr r1, vr r2, vr b3, vr r6, vr b10, vi (Int32.ofNat ((own_pre (own_id x0) (own_id x1)) ++ own_sl x2).length), .val (.long (Int64.ofNat (own_abs x2))), .second, vi (7 : Int32)] hx hby at_250 rfl rfl ?_
                  refine ginfo fun _ Hq _ => ?_
                  exact gmono (by decide) (by decide) (J33 _ _ _ ⟨(7 : Int32), rfl, (Keep.refl h31 []), (CHr.refl Hq), (congrArg Int32.ofNat (if_neg (fun z => g ((own_lcj hle 1000000 (by decide) (1000000) (by decide)).mpr z))).symm)⟩)
            · intro J31
              refine gs (mkF m 228 #[vi x0, vi x1, vi x2, vr r1, vr r2, vr b3, vr r6, vr b10, vi (Int32.ofNat ((own_pre (own_id x0) (own_id x1)) ++ own_sl x2).length), .val (.long (Int64.ofNat (own_abs x2))), .second, vi (Int32.ofNat (own_nd 4 (own_abs x2)))] [(.long (Int64.ofNat (own_abs x2)))]) (fun _ _ A kq => XS.lload A hx rfl (hb hby at_226) rfl  kq) ?_
              refine gldcJ hx (ow hw 195 rfl) 231 (hb hby at_228) rfl ?_
              refine gs (mkF m 232 #[vi x0, vi x1, vi x2, vr r1, vr r2, vr b3, vr r6, vr b10, vi (Int32.ofNat ((own_pre (own_id x0) (own_id x1)) ++ own_sl x2).length), .val (.long (Int64.ofNat (own_abs x2))), .second, vi (Int32.ofNat (own_nd 4 (own_abs x2)))] [(.int (lcmpW (Int64.ofNat (own_abs x2)) (100000 : Int64)))]) (fun _ _ A kq => XS.lcmp A hx rfl (hb hby at_231) rfl kq) ?_
              by_cases g : (lcmpW (Int64.ofNat (own_abs x2)) (100000 : Int64)) < (0 : Int32)
              · refine uY 239 hx hby at_232 ((if0 _ _).trans (tlt g).1) (by decide) (by decide) ?_
                refine ginfo fun _ Hq _ => ?_
                exact gmono (by decide) (by decide) (J31 _ _ _ ⟨(Int32.ofNat (own_nd 4 (own_abs x2))), rfl, (Keep.refl h29 []), (CHr.refl Hq), (congrArg Int32.ofNat (if_pos ((own_lcj hle 100000 (by decide) (100000) (by decide)).mp g)).symm)⟩)
              · refine uN 235 hx hby at_232 rfl ((if0 _ _).trans (flt g).1) ?_
                refine uKb 237 (6 : Int32) hx hby at_235 rfl rfl ?_
                refine uSI 239 #[vi x0, vi x1, vi x2, vr r1, vr r2, vr b3, vr r6, vr b10, vi (Int32.ofNat ((own_pre (own_id x0) (own_id x1)) ++ own_sl x2).length), .val (.long (Int64.ofNat (own_abs x2))), .second, vi (6 : Int32)] hx hby at_237 rfl rfl ?_
                refine ginfo fun _ Hq _ => ?_
                exact gmono (by decide) (by decide) (J31 _ _ _ ⟨(6 : Int32), rfl, (Keep.refl h29 []), (CHr.refl Hq), (congrArg Int32.ofNat (if_neg (fun z => g ((own_lcj hle 100000 (by decide) (100000) (by decide)).mpr z))).symm)⟩)
          · intro J29
            refine gs (mkF m 216 #[vi x0, vi x1, vi x2, vr r1, vr r2, vr b3, vr r6, vr b10, vi (Int32.ofNat ((own_pre (own_id x0) (own_id x1)) ++ own_sl x2).length), .val (.long (Int64.ofNat (own_abs x2))), .second, vi (Int32.ofNat (own_nd 3 (own_abs x2)))] [(.long (Int64.ofNat (own_abs x2)))]) (fun _ _ A kq => XS.lload A hx rfl (hb hby at_214) rfl  kq) ?_
            refine gldcJ hx (ow hw 194 rfl) 219 (hb hby at_216) rfl ?_
            refine gs (mkF m 220 #[vi x0, vi x1, vi x2, vr r1, vr r2, vr b3, vr r6, vr b10, vi (Int32.ofNat ((own_pre (own_id x0) (own_id x1)) ++ own_sl x2).length), .val (.long (Int64.ofNat (own_abs x2))), .second, vi (Int32.ofNat (own_nd 3 (own_abs x2)))] [(.int (lcmpW (Int64.ofNat (own_abs x2)) (10000 : Int64)))]) (fun _ _ A kq => XS.lcmp A hx rfl (hb hby at_219) rfl kq) ?_
            by_cases g : (lcmpW (Int64.ofNat (own_abs x2)) (10000 : Int64)) < (0 : Int32)
            · refine uY 226 hx hby at_220 ((if0 _ _).trans (tlt g).1) (by decide) (by decide) ?_
              refine ginfo fun _ Hq _ => ?_
              exact gmono (by decide) (by decide) (J29 _ _ _ ⟨(Int32.ofNat (own_nd 3 (own_abs x2))), rfl, (Keep.refl h27 []), (CHr.refl Hq), (congrArg Int32.ofNat (if_pos ((own_lcj hle 10000 (by decide) (10000) (by decide)).mp g)).symm)⟩)
            · refine uN 223 hx hby at_220 rfl ((if0 _ _).trans (flt g).1) ?_
              refine uKc 224 (5 : Int32) hx hby at_223 rfl rfl ?_
              refine uSI 226 #[vi x0, vi x1, vi x2, vr r1, vr r2, vr b3, vr r6, vr b10, vi (Int32.ofNat ((own_pre (own_id x0) (own_id x1)) ++ own_sl x2).length), .val (.long (Int64.ofNat (own_abs x2))), .second, vi (5 : Int32)] hx hby at_224 rfl rfl ?_
              refine ginfo fun _ Hq _ => ?_
              exact gmono (by decide) (by decide) (J29 _ _ _ ⟨(5 : Int32), rfl, (Keep.refl h27 []), (CHr.refl Hq), (congrArg Int32.ofNat (if_neg (fun z => g ((own_lcj hle 10000 (by decide) (10000) (by decide)).mpr z))).symm)⟩)
        · intro J27
          refine gs (mkF m 204 #[vi x0, vi x1, vi x2, vr r1, vr r2, vr b3, vr r6, vr b10, vi (Int32.ofNat ((own_pre (own_id x0) (own_id x1)) ++ own_sl x2).length), .val (.long (Int64.ofNat (own_abs x2))), .second, vi (Int32.ofNat (own_nd 2 (own_abs x2)))] [(.long (Int64.ofNat (own_abs x2)))]) (fun _ _ A kq => XS.lload A hx rfl (hb hby at_202) rfl  kq) ?_
          refine gldcJ hx (ow hw 193 rfl) 207 (hb hby at_204) rfl ?_
          refine gs (mkF m 208 #[vi x0, vi x1, vi x2, vr r1, vr r2, vr b3, vr r6, vr b10, vi (Int32.ofNat ((own_pre (own_id x0) (own_id x1)) ++ own_sl x2).length), .val (.long (Int64.ofNat (own_abs x2))), .second, vi (Int32.ofNat (own_nd 2 (own_abs x2)))] [(.int (lcmpW (Int64.ofNat (own_abs x2)) (1000 : Int64)))]) (fun _ _ A kq => XS.lcmp A hx rfl (hb hby at_207) rfl kq) ?_
          by_cases g : (lcmpW (Int64.ofNat (own_abs x2)) (1000 : Int64)) < (0 : Int32)
          · refine uY 214 hx hby at_208 ((if0 _ _).trans (tlt g).1) (by decide) (by decide) ?_
            refine ginfo fun _ Hq _ => ?_
            exact gmono (by decide) (by decide) (J27 _ _ _ ⟨(Int32.ofNat (own_nd 2 (own_abs x2))), rfl, (Keep.refl h25 []), (CHr.refl Hq), (congrArg Int32.ofNat (if_pos ((own_lcj hle 1000 (by decide) (1000) (by decide)).mp g)).symm)⟩)
          · refine uN 211 hx hby at_208 rfl ((if0 _ _).trans (flt g).1) ?_
            refine uKc 212 (4 : Int32) hx hby at_211 rfl rfl ?_
            refine uSI 214 #[vi x0, vi x1, vi x2, vr r1, vr r2, vr b3, vr r6, vr b10, vi (Int32.ofNat ((own_pre (own_id x0) (own_id x1)) ++ own_sl x2).length), .val (.long (Int64.ofNat (own_abs x2))), .second, vi (4 : Int32)] hx hby at_212 rfl rfl ?_
            refine ginfo fun _ Hq _ => ?_
            exact gmono (by decide) (by decide) (J27 _ _ _ ⟨(4 : Int32), rfl, (Keep.refl h25 []), (CHr.refl Hq), (congrArg Int32.ofNat (if_neg (fun z => g ((own_lcj hle 1000 (by decide) (1000) (by decide)).mpr z))).symm)⟩)
      · intro J25
        refine gs (mkF m 192 #[vi x0, vi x1, vi x2, vr r1, vr r2, vr b3, vr r6, vr b10, vi (Int32.ofNat ((own_pre (own_id x0) (own_id x1)) ++ own_sl x2).length), .val (.long (Int64.ofNat (own_abs x2))), .second, vi (Int32.ofNat (own_nd 1 (own_abs x2)))] [(.long (Int64.ofNat (own_abs x2)))]) (fun _ _ A kq => XS.lload A hx rfl (hb hby at_190) rfl  kq) ?_
        refine gldcJ hx (ow hw 192 rfl) 195 (hb hby at_192) rfl ?_
        refine gs (mkF m 196 #[vi x0, vi x1, vi x2, vr r1, vr r2, vr b3, vr r6, vr b10, vi (Int32.ofNat ((own_pre (own_id x0) (own_id x1)) ++ own_sl x2).length), .val (.long (Int64.ofNat (own_abs x2))), .second, vi (Int32.ofNat (own_nd 1 (own_abs x2)))] [(.int (lcmpW (Int64.ofNat (own_abs x2)) (100 : Int64)))]) (fun _ _ A kq => XS.lcmp A hx rfl (hb hby at_195) rfl kq) ?_
        by_cases g : (lcmpW (Int64.ofNat (own_abs x2)) (100 : Int64)) < (0 : Int32)
        · refine uY 202 hx hby at_196 ((if0 _ _).trans (tlt g).1) (by decide) (by decide) ?_
          refine ginfo fun _ Hq _ => ?_
          exact gmono (by decide) (by decide) (J25 _ _ _ ⟨(Int32.ofNat (own_nd 1 (own_abs x2))), rfl, (Keep.refl h23 []), (CHr.refl Hq), (congrArg Int32.ofNat (if_pos ((own_lcj hle 100 (by decide) (100) (by decide)).mp g)).symm)⟩)
        · refine uN 199 hx hby at_196 rfl ((if0 _ _).trans (flt g).1) ?_
          refine uKc 200 (3 : Int32) hx hby at_199 rfl rfl ?_
          refine uSI 202 #[vi x0, vi x1, vi x2, vr r1, vr r2, vr b3, vr r6, vr b10, vi (Int32.ofNat ((own_pre (own_id x0) (own_id x1)) ++ own_sl x2).length), .val (.long (Int64.ofNat (own_abs x2))), .second, vi (3 : Int32)] hx hby at_200 rfl rfl ?_
          refine ginfo fun _ Hq _ => ?_
          exact gmono (by decide) (by decide) (J25 _ _ _ ⟨(3 : Int32), rfl, (Keep.refl h23 []), (CHr.refl Hq), (congrArg Int32.ofNat (if_neg (fun z => g ((own_lcj hle 100 (by decide) (100) (by decide)).mpr z))).symm)⟩)
    · intro J23
      refine gs (mkF m 180 #[vi x0, vi x1, vi x2, vr r1, vr r2, vr b3, vr r6, vr b10, vi (Int32.ofNat ((own_pre (own_id x0) (own_id x1)) ++ own_sl x2).length), .val (.long (Int64.ofNat (own_abs x2))), .second, vi (Int32.ofNat (own_nd 0 (own_abs x2)))] [(.long (Int64.ofNat (own_abs x2)))]) (fun _ _ A kq => XS.lload A hx rfl (hb hby at_178) rfl  kq) ?_
      refine gldcJ hx (ow hw 191 rfl) 183 (hb hby at_180) rfl ?_
      refine gs (mkF m 184 #[vi x0, vi x1, vi x2, vr r1, vr r2, vr b3, vr r6, vr b10, vi (Int32.ofNat ((own_pre (own_id x0) (own_id x1)) ++ own_sl x2).length), .val (.long (Int64.ofNat (own_abs x2))), .second, vi (Int32.ofNat (own_nd 0 (own_abs x2)))] [(.int (lcmpW (Int64.ofNat (own_abs x2)) (10 : Int64)))]) (fun _ _ A kq => XS.lcmp A hx rfl (hb hby at_183) rfl kq) ?_
      by_cases g : (lcmpW (Int64.ofNat (own_abs x2)) (10 : Int64)) < (0 : Int32)
      · refine uY 190 hx hby at_184 ((if0 _ _).trans (tlt g).1) (by decide) (by decide) ?_
        refine ginfo fun _ Hq _ => ?_
        exact gmono (by decide) (by decide) (J23 _ _ _ ⟨(Int32.ofNat (own_nd 0 (own_abs x2))), rfl, (Keep.refl h21 []), (CHr.refl Hq), (congrArg Int32.ofNat (if_pos ((own_lcj hle 10 (by decide) (10) (by decide)).mp g)).symm)⟩)
      · refine uN 187 hx hby at_184 rfl ((if0 _ _).trans (flt g).1) ?_
        refine uKc 188 (2 : Int32) hx hby at_187 rfl rfl ?_
        refine uSI 190 #[vi x0, vi x1, vi x2, vr r1, vr r2, vr b3, vr r6, vr b10, vi (Int32.ofNat ((own_pre (own_id x0) (own_id x1)) ++ own_sl x2).length), .val (.long (Int64.ofNat (own_abs x2))), .second, vi (2 : Int32)] hx hby at_188 rfl rfl ?_
        refine ginfo fun _ Hq _ => ?_
        exact gmono (by decide) (by decide) (J23 _ _ _ ⟨(2 : Int32), rfl, (Keep.refl h21 []), (CHr.refl Hq), (congrArg Int32.ofNat (if_neg (fun z => g ((own_lcj hle 10 (by decide) (10) (by decide)).mpr z))).symm)⟩)
  · intro J21
    refine gs (mkF m 154 #[vi x0, vi x1, vi x2, vr r1, vr r2, vr b3, vr r6, vr b10, vi (Int32.ofNat ((((((((((([] : List Int32) ++ (own_id x0)) ++ (own_id x1)) ++ [(58 : Int32)]) ++ [(112 : Int32)]) ++ [(101 : Int32)]) ++ [(114 : Int32)]) ++ [(109 : Int32)]) ++ [(105 : Int32)]) ++ [(116 : Int32)]) ++ [(58 : Int32)]).length), .val (.long (x2.toInt64)), .second, un] [(.long (x2.toInt64))]) (fun _ _ A kq => XS.lload A hx rfl (hb hby at_152) rfl  kq) ?_
    refine gs (mkF m 155 #[vi x0, vi x1, vi x2, vr r1, vr r2, vr b3, vr r6, vr b10, vi (Int32.ofNat ((((((((((([] : List Int32) ++ (own_id x0)) ++ (own_id x1)) ++ [(58 : Int32)]) ++ [(112 : Int32)]) ++ [(101 : Int32)]) ++ [(114 : Int32)]) ++ [(109 : Int32)]) ++ [(105 : Int32)]) ++ [(116 : Int32)]) ++ [(58 : Int32)]).length), .val (.long (x2.toInt64)), .second, un] [(.long (0 : Int64)), (.long (x2.toInt64))]) (fun _ _ A kq => XS.lconst A hx rfl (hb hby at_154) kq) ?_
    refine gs (mkF m 156 #[vi x0, vi x1, vi x2, vr r1, vr r2, vr b3, vr r6, vr b10, vi (Int32.ofNat ((((((((((([] : List Int32) ++ (own_id x0)) ++ (own_id x1)) ++ [(58 : Int32)]) ++ [(112 : Int32)]) ++ [(101 : Int32)]) ++ [(114 : Int32)]) ++ [(109 : Int32)]) ++ [(105 : Int32)]) ++ [(116 : Int32)]) ++ [(58 : Int32)]).length), .val (.long (x2.toInt64)), .second, un] [(.int (lcmpW (x2.toInt64) (0 : Int64)))]) (fun _ _ A kq => XS.lcmp A hx rfl (hb hby at_155) rfl kq) ?_
    by_cases g : (lcmpW (x2.toInt64) (0 : Int64)) < (0 : Int32)
    · refine uN 159 hx hby at_156 rfl ((if0 _ _).trans (tlt g).2.1) ?_
      refine uA 161 hx hby at_159 rfl rfl rfl ?_
      refine uI 163 hx hby at_161 rfl rfl ?_
      refine uKb 165 (45 : Int32) hx hby at_163 rfl rfl ?_
      refine ginfo fun _ _ O22 => ?_
      refine gcallS (y := mn639) hx (ow hw 188 rfl) (ow hw 189 rfl) (ow hw 2 rfl) (ow hw 190 rfl) (by decide) (fun hZ H hEL => Pay.of_met (W := 0) (own_put l Z a0 cx [] (b10) (k10) (((((((((((([] : List Int32) ++ (own_id x0)) ++ (own_id x1)) ++ [(58 : Int32)]) ++ [(112 : Int32)]) ++ [(101 : Int32)]) ++ [(114 : Int32)]) ++ [(109 : Int32)]) ++ [(105 : Int32)]) ++ [(116 : Int32)]) ++ [(58 : Int32)])) ((45 : Int32)) vm20 h20 O22 q20_0 n10 (by simp only [List.length_append, List.length_cons, List.length_nil]; omega) (by decide)) (ow hw 190 rfl) (ow hw 2 rfl) (by decide) (by decide) hZ H hEL) 168 (argsL := [(.ref b10), (.int (Int32.ofNat ((((((((((([] : List Int32) ++ (own_id x0)) ++ (own_id x1)) ++ [(58 : Int32)]) ++ [(112 : Int32)]) ++ [(101 : Int32)]) ++ [(114 : Int32)]) ++ [(109 : Int32)]) ++ [(105 : Int32)]) ++ [(116 : Int32)]) ++ [(58 : Int32)]).length)), (.int (45 : Int32))]) (rest := []) (lenOf own_pd731 rfl) rfl rfl (Nat.le_of_eq rfl) (by rw [hml]; rfl) (hb hby at_165) rfl (by decide) (by decide) ?_
      rintro _ vm22 h22 C22 ⟨rfl, K22, q22_0⟩
      have z22 := C22.2.1
      refine gat1 ?_
      refine uSI 170 #[vi x0, vi x1, vi x2, vr r1, vr r2, vr b3, vr r6, vr b10, vi (Int32.ofNat (((((((((((([] : List Int32) ++ (own_id x0)) ++ (own_id x1)) ++ [(58 : Int32)]) ++ [(112 : Int32)]) ++ [(101 : Int32)]) ++ [(114 : Int32)]) ++ [(109 : Int32)]) ++ [(105 : Int32)]) ++ [(116 : Int32)]) ++ [(58 : Int32)]) ++ [(45 : Int32)]).length), .val (.long (x2.toInt64)), .second, un] hx hby at_168 rfl rfl ?_
      refine gs (mkF m 172 #[vi x0, vi x1, vi x2, vr r1, vr r2, vr b3, vr r6, vr b10, vi (Int32.ofNat (((((((((((([] : List Int32) ++ (own_id x0)) ++ (own_id x1)) ++ [(58 : Int32)]) ++ [(112 : Int32)]) ++ [(101 : Int32)]) ++ [(114 : Int32)]) ++ [(109 : Int32)]) ++ [(105 : Int32)]) ++ [(116 : Int32)]) ++ [(58 : Int32)]) ++ [(45 : Int32)]).length), .val (.long (x2.toInt64)), .second, un] [(.long (x2.toInt64))]) (fun _ _ A kq => XS.lload A hx rfl (hb hby at_170) rfl  kq) ?_
      refine gs (mkF m 173 #[vi x0, vi x1, vi x2, vr r1, vr r2, vr b3, vr r6, vr b10, vi (Int32.ofNat (((((((((((([] : List Int32) ++ (own_id x0)) ++ (own_id x1)) ++ [(58 : Int32)]) ++ [(112 : Int32)]) ++ [(101 : Int32)]) ++ [(114 : Int32)]) ++ [(109 : Int32)]) ++ [(105 : Int32)]) ++ [(116 : Int32)]) ++ [(58 : Int32)]) ++ [(45 : Int32)]).length), .val (.long (x2.toInt64)), .second, un] [(.long (-(x2.toInt64)))]) (fun _ _ A kq => XS.lneg A hx rfl (hb hby at_172) rfl kq) ?_
      refine gs (mkF m 175 #[vi x0, vi x1, vi x2, vr r1, vr r2, vr b3, vr r6, vr b10, vi (Int32.ofNat (((((((((((([] : List Int32) ++ (own_id x0)) ++ (own_id x1)) ++ [(58 : Int32)]) ++ [(112 : Int32)]) ++ [(101 : Int32)]) ++ [(114 : Int32)]) ++ [(109 : Int32)]) ++ [(105 : Int32)]) ++ [(116 : Int32)]) ++ [(58 : Int32)]) ++ [(45 : Int32)]).length), .val (.long (-(x2.toInt64))), .second, un] []) (fun _ _ A kq => XS.lstore A hx rfl (hb hby at_173) rfl (l' := #[vi x0, vi x1, vi x2, vr r1, vr r2, vr b3, vr r6, vr b10, vi (Int32.ofNat (((((((((((([] : List Int32) ++ (own_id x0)) ++ (own_id x1)) ++ [(58 : Int32)]) ++ [(112 : Int32)]) ++ [(101 : Int32)]) ++ [(114 : Int32)]) ++ [(109 : Int32)]) ++ [(105 : Int32)]) ++ [(116 : Int32)]) ++ [(58 : Int32)]) ++ [(45 : Int32)]).length), .val (.long (-(x2.toInt64))), .second, un]) rfl kq) ?_
      exact gmono (by decide) (by decide) (J21 _ _ _ ⟨(((((((((((([] : List Int32) ++ (own_id x0)) ++ (own_id x1)) ++ [(58 : Int32)]) ++ [(112 : Int32)]) ++ [(101 : Int32)]) ++ [(114 : Int32)]) ++ [(109 : Int32)]) ++ [(105 : Int32)]) ++ [(116 : Int32)]) ++ [(58 : Int32)]) ++ [(45 : Int32)]), (Int32.ofNat (((((((((((([] : List Int32) ++ (own_id x0)) ++ (own_id x1)) ++ [(58 : Int32)]) ++ [(112 : Int32)]) ++ [(101 : Int32)]) ++ [(114 : Int32)]) ++ [(109 : Int32)]) ++ [(105 : Int32)]) ++ [(116 : Int32)]) ++ [(58 : Int32)]) ++ [(45 : Int32)]).length), (-(x2.toInt64)), rfl, ((Keep.refl h20 [b10]).trans K22 (allS (Or.inl (List.mem_of_getElem? (i := 0) rfl)) all0)), C22, q22_0, (own_e1 (own_jabs1 g).2), rfl, (own_jabs1 g).1⟩)
    · refine uY 175 hx hby at_156 ((if0 _ _).trans (flt g).2.1) (by decide) (by decide) ?_
      refine ginfo fun _ Hq _ => ?_
      exact gmono (by decide) (by decide) (J21 _ _ _ ⟨((((((((((([] : List Int32) ++ (own_id x0)) ++ (own_id x1)) ++ [(58 : Int32)]) ++ [(112 : Int32)]) ++ [(101 : Int32)]) ++ [(114 : Int32)]) ++ [(109 : Int32)]) ++ [(105 : Int32)]) ++ [(116 : Int32)]) ++ [(58 : Int32)]), (Int32.ofNat ((((((((((([] : List Int32) ++ (own_id x0)) ++ (own_id x1)) ++ [(58 : Int32)]) ++ [(112 : Int32)]) ++ [(101 : Int32)]) ++ [(114 : Int32)]) ++ [(109 : Int32)]) ++ [(105 : Int32)]) ++ [(116 : Int32)]) ++ [(58 : Int32)]).length), (x2.toInt64), rfl, (Keep.refl h20 [b10]), (CHr.refl Hq), q20_0, (own_e0 (own_jabs2 g).2), rfl, (own_jabs2 g).1⟩)
theorem comes_1 {Post : Tables → Env → Array Value → State → Outcome → State → Prop} (hpost : ∀ tb e args s v u, (limb_1_1.after args s (.returned v) u = true ∧ limb_1_2.after args s (.returned v) u = true ∧ True) → ReturnedEndW s (.returned v) u (Jvm.fieldLocs frame_1_writes args s ++ Jvm.arrayLocs frame_1_arrays args s ++ Jvm.staticLocs frame_1_statics s) 48 2496 → Post tb e args s (.returned v) u) :
    ArmFor flags0 classFile x code maxLocals ret World_1 tables_1 room_1 Calls_1 rest_1 Pre_1 Post := by
  intro l hfl _ _ p e ha hc hk s m args below hf hA hF happ hP
  obtain ⟨hcalls, hrest, hpre⟩ := hP
  obtain ⟨-, -, -, hnamed, -, -, -, hat⟩ := (Spec.applies_iff hf).mp happ
  obtain ⟨hg, hn⟩ := and_e (Cond.before_iff.mp (show (Jvm.Cond.and given_1 narrow_1).before args s = true from hpre))
  obtain ⟨gc, g0⟩ := and_e hg
  obtain ⟨ga0, g1⟩ := and_e g0
  obtain ⟨ga1, g2⟩ := and_e g1
  have ga2 := g2
  obtain ⟨w0, w1, w2, rfl⟩ : ∃ w0 w1 w2 : Value, args = #[w0, w1, w2] := by
    have hs : args.size = 3 := by simpa [Cond.value, given_1] using gc
    obtain ⟨L⟩ := args
    match L, hs with
    | [w0, w1, w2], _ => exact ⟨w0, w1, w2, rfl⟩
  have hw := fun d (hd : d ∈ tables_1) => atoms_spec (ws := Jvm.Cond.code x code maxLocals ret :: tables_1) hat d (List.mem_cons_of_mem _ hd)
  have hfit : Fit s := fun {y c} hc i hi => by
    obtain ⟨ha, rfl⟩ := Array.getElem?_eq_some_iff.mp hc
    have q := List.all_eq_true.mp ((Array.all_eq_true_iff_forall_mem.mp hF) _ (Array.getElem_mem ha)) i (List.mem_range.mpr hi)
    simpa [Array.getElem?_eq_getElem hi] using q
  obtain ⟨hsets, hown0⟩ := atoms_of _ (rest_1_c_eq ▸ (show rest_1_c.before _ s = true from hrest))
  obtain ⟨i0, ei0⟩ := is_v ga0
  obtain rfl : w0 = (.int i0) := Option.some.inj ei0
  obtain ⟨i1, ei1⟩ := is_v ga1
  obtain rfl : w1 = (.int i1) := Option.some.inj ei1
  obtain ⟨i2, ei2⟩ := is_v ga2
  obtain rfl : w2 = (.int i2) := Option.some.inj ei2
  obtain ⟨zc, eG⟩ := is_v (Cond.before_iff.mp (hsets _ (List.mem_of_getElem? (i := 1) rfl)))
  have Scs := Sta.start eG (Or.inl (hsets _ (List.mem_of_getElem? (i := 0) rfl)))
  have hcw := hsets _ (List.mem_of_getElem? (i := 2) rfl)
  have hzc : ¬ zc = 0 := by
    have q := not_v (Cond.before_iff.mp hcw)
    intro z
    have q2 := eq_i (x := .int zc) (y := .int 0) eG (Term.int_eval (0)) (by rw [z])
    rw [q2] at q; cases q
  obtain ⟨fm, eF, hfm⟩ := isR_v (Cond.before_iff.mp (hsets _ (List.mem_of_getElem? (i := 8) rfl)))
  have Sfm := Sta.start eF (Or.inl (hsets _ (List.mem_of_getElem? (i := 7) rfl)))
  have hEL : EW s _ consts_1 := (EW.cons (ow hw 33 rfl) (by decide +kernel) (EW.cons (ow hw 18 rfl) (by decide +kernel) EW.nil))
  have hCH : CHv s consts_1 s.vm s.heap := CHv.start hEL (fun p hp => hcalls.1 p hp) hcw (ow hw 19 rfl) (ow hw 5 rfl)
  obtain ⟨m0, n0⟩ := and_e hn
  obtain ⟨m1, n1⟩ := and_e n0
  obtain ⟨m2, n2⟩ := and_e n1
  obtain ⟨m3, n3⟩ := and_e n2
  obtain ⟨m4, n4⟩ := and_e n3
  obtain ⟨m5, n5⟩ := and_e n4
  obtain ⟨m6, n6⟩ := and_e n5
  obtain ⟨m7, n7⟩ := and_e n6
  obtain ⟨m8, n8⟩ := and_e n7
  obtain ⟨m9, n9⟩ := and_e n8
  obtain ⟨m10, n10⟩ := and_e n9
  obtain ⟨m11, n11⟩ := and_e n10
  obtain ⟨m12, n12⟩ := and_e n11
  obtain ⟨fe, efe⟩ := exa_v m0
  have Efe := Exa.start efe m0
  have Sfe := Sta.start efe (Or.inr ⟨ow hw 163 rfl, ow hw 164 rfl⟩)
  obtain ⟨ft, eft⟩ := exa_v m1
  have Fft := Fld.start ((fld_at efe).symm.trans eft)
  obtain ⟨tt, Sft⟩ := Str.start (cs := [(58 : Int32), (112 : Int32), (101 : Int32), (114 : Int32), (109 : Int32), (105 : Int32), (116 : Int32), (58 : Int32)]) hfit eft m1 m5 m2 m4 rfl (by decide) (bcons ⟨by decide, by decide⟩ (bcons ⟨by decide, by decide⟩ (bcons ⟨by decide, by decide⟩ (bcons ⟨by decide, by decide⟩ (bcons ⟨by decide, by decide⟩ (bcons ⟨by decide, by decide⟩ (bcons ⟨by decide, by decide⟩ (bcons ⟨by decide, by decide⟩ bnil)))))))) (fun tt cl et hc => ⟨elI et hc m6, elI et hc m7, elI et hc m8, elI et hc m9, elI et hc m10, elI et hc m11, elI et hc m12, elI et hc n12, trivial⟩)
  obtain ⟨dg_go, kg_go, e_go, V_go⟩ := own_tbl (F := fun r => 48 + r % 10) hfit (hsets _ (List.mem_of_getElem? (i := 12) rfl)) (Cond.before_iff.mp (hsets _ (List.mem_of_getElem? (i := 13) rfl))) (hsets _ (List.mem_of_getElem? (i := 14) rfl)) (fun r hr => by rw [← own_num_go r hr]; rfl) (ow hw 19 rfl)
  obtain ⟨dg_gt, kg_gt, e_gt, V_gt⟩ := own_tbl (F := fun r => 48 + r / 10) hfit (hsets _ (List.mem_of_getElem? (i := 17) rfl)) (Cond.before_iff.mp (hsets _ (List.mem_of_getElem? (i := 18) rfl))) (hsets _ (List.mem_of_getElem? (i := 19) rfl)) (fun r hr => by rw [← own_num_gt r hr]; rfl) (ow hw 19 rfl)
  have hI0 : (∃ dg_go dg_gt : Addr, ∃ kg_go kg_gt : ClassId, Sta s s.heap c3_ "DigitOnes" "[B" (.ref dg_go) ∧ Arv s s.heap dg_go kg_go .byte (100 : Int32) own_vO (.int 0) ∧ Sta s s.heap c3_ "DigitTens" "[B" (.ref dg_gt) ∧ Arv s s.heap dg_gt kg_gt .byte (100 : Int32) own_vT (.int 0)) := ⟨dg_go, dg_gt, kg_go, kg_gt, Sta.start e_go (Or.inl (hsets _ (List.mem_of_getElem? (i := 11) rfl))), V_go, Sta.start e_gt (Or.inl (hsets _ (List.mem_of_getElem? (i := 16) rfl))), V_gt⟩
  have cx : Ctx s _ := ⟨hw, hEL, ⟨zc, Scs, hzc⟩, ⟨fm, Sfm, hfm⟩, ⟨fe, ft, tt, Sfe, Efe, Fft, Sft⟩, hI0⟩
  obtain ⟨n, o, h1, h2, h3, _, L, rfl, ⟨N, ⟨rfl, -⟩⟩, hCq, hq⟩ := own_law l s _ cx tables_1 i0 i1 i2 s.vm s.heap ⟨Nat.le_refl _, fun _ _ q => q⟩ p e ha hc hk s m _ below hf ((Spec.applies_iff_loose hf).mp happ).1 ⟨rfl, State.Warmed39.refl s, rfl, CHr.refl hCH, State.Warmed39.of_rootvm (s := s) rfl (State.Warmed39.refl s)⟩ trivial
  refine ⟨n, _, h1, h2, h3, hpost _ _ _ _ _ _ ⟨Cond.after_iff.mpr rfl, Cond.after_iff.mpr (eq_i res_at (Term.int_eval (1)) rfl), trivial⟩ ⟨hq.1, hq.2.1, hq.2.2.1, (hq.2.2.2.sift fun y hy => Or.inr (N y hy)).mono (by decide) (by decide)⟩⟩
theorem main_1_1 : Claimed_1_1 := comes_1 fun _ _ _ _ _ _ h hF => ⟨h.1, hF⟩
theorem main_1_2 : Claimed_1_2 := comes_1 fun _ _ _ _ _ _ h hF => ⟨h.2.1, hF⟩
end Jvm.Pilot.@@N@@
namespace Jvm.Pilot.@@N@@
open Jvm Jvm.ClassFile Sem Op Lib Jvm.Free Jvm.Stand Jvm.Pilot.@@N@@.Jvm.D
/-! MADE BY PROGRAM (witnessworld.py) out of the Statement's table words and the real class files: 31 classes; the members and pool entries that the words name. The judged class is class 1, her method 7. -/
namespace start1
open Jvm.ClassFile
def u (s : String) : CpInfo := .utf8 (stringToUtf16 s)
/-- a pool by its gaps: so many unusable entries, then the entry; so many at the end -/
def gap : Nat → List CpInfo → List CpInfo
  | 0, r => r
  | n + 1, r => .unusable :: gap n r
def poolList (es : List (Nat × CpInfo)) (last : Nat) : List CpInfo := es.foldr (fun e r => gap e.1 (e.2 :: r)) (gap last [])
def pool (es : List (Nat × CpInfo)) (last : Nat) : Array CpInfo := ⟨poolList es last⟩
def fileOf (pool : Array CpInfo) (this : Nat) (attrs : Array Attribute := #[]) (ms : Array MethodInfo := #[]) (fl : Nat := 33) (sup : Nat := 0) (ifs : Array Nat := #[]) (fds : Array FieldInfo := #[]) : ClassFile where
  minorVersion := 0
  majorVersion := 65
  constantPool := pool
  accessFlags := fl
  thisClass := this
  superClass := sup
  interfaces := ifs
  fields := fds
  methods := ms
  attributes := attrs
def plain (name : String) (sup : Option ClassId) : Class where
  name := name
  kind := .ordinary
  loader := none
  accessFlags := 33
  super := sup
  interfaces := #[]
  cf := none
  fields := #[]
  methods := #[]
  instanceTypes := #[]
  staticTypes := #[]
  resolved := #[]
  callSites := []
  init := .initialized
  statics := none
  mirror := none

def pool0 : Array CpInfo := pool [(5, u "<init>"), (0, u "()V"), (1, .class_ 10), (1, u "java/lang/Object"), (85, u "clone"), (0, u "()Ljava/lang/Object;")] 26

def k0c0 : Code := { maxStack := 0, maxLocals := 1, code := object_method_1_code, exceptionTable := #[], attributes := #[] }
def k0m0 : Method := { name := "<init>", desc := "()V", sig := { parameters := [], returnType := none }, accessFlags := 1, code := some k0c0 }
def k0m1 : Method := { name := "clone", desc := "()Ljava/lang/Object;", sig := { parameters := [], returnType := some (.object "java/lang/Object") }, accessFlags := 260, code := none }
/-- java/lang/Object -/
def k0 : Class := { plain "java/lang/Object" none with
  accessFlags := 33
  interfaces := #[]
  cf := some (fileOf pool0 8 #[] #[{ accessFlags := 1, nameIndex := 5, descriptorIndex := 6, attributes := #[] }, { accessFlags := 260, nameIndex := 96, descriptorIndex := 97, attributes := #[] }] 33 0 #[] #[])
  fields := #[]
  methods := #[k0m0, k0m1]
  instanceTypes := #[]
  staticTypes := #[]
  resolved := Array.replicate 124 none
  statics := none }

def pool1 : Array CpInfo := pool [(2, .class_ 4), (1, u "java/lang/Object"), (0, u "<init>"), (0, u "()V"), (0, .class_ 8), (0, u "java/lang/String"), (0, .methodref 7 10), (0, .nameAndType 5 11), (0, u "([C)V"), (0, .methodref 13 14), (0, .class_ 15), (0, .nameAndType 16 17), (0, u "com/example/limentinus/limentinus/core/KeyLayoutPermitKeyPinLaw"), (0, u "ch"), (0, u "(II)C"), (0, .long 10), (1, .methodref 7 21), (0, .nameAndType 22 23), (0, u "charAt"), (0, u "(I)C"), (0, .methodref 13 25), (0, .nameAndType 26 27), (0, u "mk"), (0, u "(I)Ljava/lang/String;"), (0, .class_ 29), (0, u "com/example/limentinus/limentinus/core/KeyLayout"), (0, .methodref 28 31), (0, .nameAndType 5 32), (0, u "(Ljava/lang/String;)V"), (0, .methodref 28 34), (0, .nameAndType 35 36), (0, u "permitKey"), (0, u "(Ljava/lang/String;I)Ljava/lang/String;"), (0, .methodref 13 38), (0, .nameAndType 39 40), (0, u "part"), (0, u "([CII)I"), (0, .methodref 13 42), (0, .nameAndType 43 44), (0, u "put"), (0, u "([CIC)I"), (0, .long 100), (1, .long 1000), (1, .long 10000), (1, .long 100000), (1, .long 1000000), (1, .long 10000000), (1, .long 100000000), (1, .long 1000000000), (1, .methodref 13 62), (0, .nameAndType 63 64), (0, u "dig"), (0, u "([CIJJII)I"), (0, .methodref 7 66), (0, .nameAndType 67 68), (0, u "length"), (0, u "()I"), (0, .methodref 13 70), (0, .nameAndType 71 72), (0, u "same"), (0, u "(Ljava/lang/String;[CII)Z"), (3, u "law"), (0, u "(III)Z")] 4

def k1m0 : Method := { name := "<init>", desc := "()V", sig := { parameters := [], returnType := none }, accessFlags := 1, code := none }
def k1c1 : Code := { maxStack := 3, maxLocals := 2, code := method_2_code, exceptionTable := #[], attributes := #[] }
def k1m1 : Method := { name := "ch", desc := "(II)C", sig := { parameters := [.int, .int], returnType := some .char }, accessFlags := 10, code := some k1c1 }
def k1c2 : Code := { maxStack := 7, maxLocals := 2, code := method_3_code, exceptionTable := #[], attributes := #[] }
def k1m2 : Method := { name := "mk", desc := "(I)Ljava/lang/String;", sig := { parameters := [.int], returnType := some (.object "java/lang/String") }, accessFlags := 10, code := some k1c2 }
def k1c3 : Code := { maxStack := 4, maxLocals := 5, code := method_4_code, exceptionTable := #[], attributes := #[] }
def k1m3 : Method := { name := "part", desc := "([CII)I", sig := { parameters := [(.array .char), .int, .int], returnType := some .int }, accessFlags := 10, code := some k1c3 }
def k1c4 : Code := { maxStack := 3, maxLocals := 3, code := method_5_code, exceptionTable := #[], attributes := #[] }
def k1m4 : Method := { name := "put", desc := "([CIC)I", sig := { parameters := [(.array .char), .int, .char], returnType := some .int }, accessFlags := 10, code := some k1c4 }
def k1c5 : Code := { maxStack := 7, maxLocals := 8, code := method_6_code, exceptionTable := #[], attributes := #[] }
def k1m5 : Method := { name := "dig", desc := "([CIJJII)I", sig := { parameters := [(.array .char), .int, .long, .long, .int, .int], returnType := some .int }, accessFlags := 10, code := some k1c5 }
def k1c6 : Code := { maxStack := 3, maxLocals := 4, code := method_7_code, exceptionTable := #[], attributes := #[] }
def k1m6 : Method := { name := "same", desc := "(Ljava/lang/String;[CII)Z", sig := { parameters := [(.object "java/lang/String"), (.array .char), .int, .int], returnType := some .boolean }, accessFlags := 10, code := some k1c6 }
def k1c7 : Code := { maxStack := 8, maxLocals := 12, code := code, exceptionTable := #[], attributes := #[] }
def k1m7 : Method := { name := "law", desc := "(III)Z", sig := { parameters := [.int, .int, .int], returnType := some .boolean }, accessFlags := 9, code := some k1c7 }
/-- com/example/limentinus/limentinus/core/KeyLayoutPermitKeyPinLaw -/
def k1 : Class := { plain "com/example/limentinus/limentinus/core/KeyLayoutPermitKeyPinLaw" (some 0) with
  accessFlags := 49
  interfaces := #[]
  cf := some (fileOf pool1 13 #[] #[{ accessFlags := 1, nameIndex := 5, descriptorIndex := 6, attributes := #[] }, { accessFlags := 10, nameIndex := 16, descriptorIndex := 17, attributes := #[] }, { accessFlags := 10, nameIndex := 26, descriptorIndex := 27, attributes := #[] }, { accessFlags := 10, nameIndex := 39, descriptorIndex := 40, attributes := #[] }, { accessFlags := 10, nameIndex := 43, descriptorIndex := 44, attributes := #[] }, { accessFlags := 10, nameIndex := 63, descriptorIndex := 64, attributes := #[] }, { accessFlags := 10, nameIndex := 71, descriptorIndex := 72, attributes := #[] }, { accessFlags := 9, nameIndex := 76, descriptorIndex := 77, attributes := #[] }] 49 2 #[] #[])
  fields := #[]
  methods := #[k1m0, k1m1, k1m2, k1m3, k1m4, k1m5, k1m6, k1m7]
  instanceTypes := #[]
  staticTypes := #[]
  resolved := Array.replicate 82 none
  statics := none }

def pool2 : Array CpInfo := pool [(1, .class_ 2), (0, u "java/io/Serializable"), (0, .class_ 4), (0, u "java/lang/Object")] 2

/-- java/io/Serializable -/
def k2 : Class := { plain "java/io/Serializable" (some 0) with
  accessFlags := 1537
  interfaces := #[]
  cf := some (fileOf pool2 1 #[] #[] 1537 3 #[] #[])
  fields := #[]
  methods := #[]
  instanceTypes := #[]
  staticTypes := #[]
  resolved := Array.replicate 7 none
  statics := none }

def pool3 : Array CpInfo := pool [(1, .class_ 2), (0, u "java/lang/Comparable"), (0, .class_ 4), (0, u "java/lang/Object")] 7

/-- java/lang/Comparable -/
def k3 : Class := { plain "java/lang/Comparable" (some 0) with
  accessFlags := 1537
  interfaces := #[]
  cf := some (fileOf pool3 1 #[] #[] 1537 3 #[] #[])
  fields := #[]
  methods := #[]
  instanceTypes := #[]
  staticTypes := #[]
  resolved := Array.replicate 12 none
  statics := none }

def pool4 : Array CpInfo := pool [(2, .class_ 4), (1, u "java/lang/CharSequence"), (42, .class_ 48), (0, u "java/lang/CharSequence$1CodePointIterator"), (10, .class_ 60), (0, u "java/lang/CharSequence$1CharIterator"), (5, .class_ 67), (0, u "java/lang/Object")] 63

/-- java/lang/CharSequence -/
def k4 : Class := { plain "java/lang/CharSequence" (some 0) with
  accessFlags := 1537
  interfaces := #[]
  cf := some (fileOf pool4 2 #[.nestMembers #[47, 59]] #[] 1537 66 #[] #[])
  fields := #[]
  methods := #[]
  instanceTypes := #[]
  staticTypes := #[]
  resolved := Array.replicate 131 none
  statics := none }

def pool5 : Array CpInfo := pool [(1, .class_ 2), (0, u "java/lang/constant/Constable"), (0, .class_ 4), (0, u "java/lang/Object")] 6

/-- java/lang/constant/Constable -/
def k5 : Class := { plain "java/lang/constant/Constable" (some 0) with
  accessFlags := 1537
  interfaces := #[]
  cf := some (fileOf pool5 1 #[] #[] 1537 3 #[] #[])
  fields := #[]
  methods := #[]
  instanceTypes := #[]
  staticTypes := #[]
  resolved := Array.replicate 11 none
  statics := none }

def pool6 : Array CpInfo := pool [(1, .class_ 2), (0, u "java/lang/constant/ConstantDesc"), (0, .class_ 4), (0, u "java/lang/Object")] 32

/-- java/lang/constant/ConstantDesc -/
def k6 : Class := { plain "java/lang/constant/ConstantDesc" (some 0) with
  accessFlags := 1537
  interfaces := #[]
  cf := some (fileOf pool6 1 #[] #[] 1537 3 #[] #[])
  fields := #[]
  methods := #[]
  instanceTypes := #[]
  staticTypes := #[]
  resolved := Array.replicate 37 none
  statics := none }

def pool7 : Array CpInfo := pool [(1, .methodref 2 3), (0, .class_ 4), (0, .nameAndType 5 6), (0, u "java/lang/Object"), (0, u "<init>"), (0, u "()V"), (0, .string 8), (0, u ""), (0, .fieldref 10 11), (0, .class_ 12), (0, .nameAndType 13 14), (0, u "java/lang/String"), (0, u "value"), (0, u "[B"), (0, .fieldref 10 16), (0, .nameAndType 17 18), (0, u "coder"), (0, u "B"), (2, u "hash"), (0, u "I"), (2, u "hashIsZero"), (0, u "Z"), (0, .methodref 10 28), (0, .nameAndType 5 29), (0, u "([CIILjava/lang/Void;)V"), (8, .fieldref 10 39), (0, .nameAndType 40 26), (0, u "COMPACT_STRINGS"), (1, .class_ 44), (1, u "java/lang/StringUTF16"), (0, u "compress"), (1, .methodref 42 48), (0, .nameAndType 49 50), (0, u "coderFromArrayLen"), (0, u "([BI)B"), (3, .methodref 55 56), (0, .class_ 57), (0, .nameAndType 58 59), (0, u "java/util/Arrays"), (0, u "copyOfRange"), (0, u "([BII)[B"), (47, .class_ 109), (1, u "java/lang/StringLatin1"), (32, u "()Z"), (34, .methodref 42 178), (0, .nameAndType 45 179), (0, u "([CII)[B"), (13, .class_ 195), (1, u "java/lang/System"), (16, .methodref 193 213), (0, .nameAndType 214 215), (0, u "arraycopy"), (0, u "(Ljava/lang/Object;ILjava/lang/Object;II)V"), (118, u "()I"), (0, .methodref 10 336), (0, .nameAndType 17 337), (0, u "()B"), (2, u "()[B"), (22, u "([BI)C"), (27, u "(II)V"), (35, u "(I)C"), (61, .methodref 10 490), (0, .nameAndType 5 491), (0, u "(Ljava/lang/AbstractStringBuilder;Ljava/lang/Void;)V"), (0, .methodref 10 493), (0, .nameAndType 494 142), (0, u "isLatin1"), (0, .methodref 107 496), (0, .nameAndType 497 363), (0, u "charAt"), (3, u "checkIndex"), (4, .nameAndType 507 334), (0, u "length"), (24, u "getBytes"), (16, .methodref 550 506), (0, .class_ 551), (0, u "java/lang/AbstractStringBuilder"), (0, .methodref 550 553), (0, .nameAndType 554 340), (0, u "getValue"), (20, .class_ 576), (0, u "java/lang/CharSequence"), (22, u "CASE_INSENSITIVE_ORDER"), (0, u "Ljava/util/Comparator;"), (220, u "([BIB)V"), (188, u "([C)V"), (36, .methodref 550 493), (5, .fieldref 1054 1055), (0, .class_ 1056), (0, .nameAndType 1057 1058), (0, u "jdk/internal/util/Preconditions"), (0, u "SIOOBE_FORMATTER"), (0, u "Ljava/util/function/BiFunction;"), (0, .methodref 1054 1060), (0, .nameAndType 501 1061), (0, u "(IILjava/util/function/BiFunction;)I"), (39, u "serialPersistentFields"), (0, u "[Ljava/io/ObjectStreamField;"), (0, .class_ 1104), (0, u "java/lang/String$CaseInsensitiveComparator"), (1, .class_ 1107), (0, u "java/io/Serializable"), (0, .class_ 1109), (0, u "java/lang/Comparable"), (0, .class_ 1111), (0, u "java/lang/constant/Constable"), (0, .class_ 1113), (0, u "java/lang/constant/ConstantDesc"), (2, u "serialVersionUID"), (0, u "J"), (3, u "REPL"), (0, u "C"), (2, u "LATIN1"), (1, u "UTF16"), (105, u "(Ljava/lang/StringBuilder;)V")] 217

def k7m0 : Method := { name := "<init>", desc := "()V", sig := { parameters := [], returnType := none }, accessFlags := 1, code := none }
def k7c1 : Code := { maxStack := 5, maxLocals := 2, code := jdk_42_method_3_code, exceptionTable := #[], attributes := #[] }
def k7m1 : Method := { name := "<init>", desc := "([C)V", sig := { parameters := [(.array .char)], returnType := none }, accessFlags := 1, code := some k7c1 }
def k7c2 : Code := { maxStack := 3, maxLocals := 2, code := jdk_42_method_53_code, exceptionTable := #[], attributes := #[] }
def k7m2 : Method := { name := "<init>", desc := "(Ljava/lang/StringBuilder;)V", sig := { parameters := [(.object "java/lang/StringBuilder")], returnType := none }, accessFlags := 1, code := some k7c2 }
def k7c3 : Code := { maxStack := 2, maxLocals := 1, code := jdk_42_method_54_code, exceptionTable := #[], attributes := #[] }
def k7m3 : Method := { name := "length", desc := "()I", sig := { parameters := [], returnType := some .int }, accessFlags := 1, code := some k7c3 }
def k7c4 : Code := { maxStack := 2, maxLocals := 2, code := jdk_42_method_56_code, exceptionTable := #[], attributes := #[] }
def k7m4 : Method := { name := "charAt", desc := "(I)C", sig := { parameters := [.int], returnType := some .char }, accessFlags := 1, code := some k7c4 }
def k7c5 : Code := { maxStack := 5, maxLocals := 4, code := jdk_42_method_147_code, exceptionTable := #[], attributes := #[] }
def k7m5 : Method := { name := "getBytes", desc := "([BIB)V", sig := { parameters := [(.array .byte), .int, .byte], returnType := none }, accessFlags := 0, code := some k7c5 }
def k7c6 : Code := { maxStack := 4, maxLocals := 6, code := jdk_42_method_149_code, exceptionTable := #[], attributes := #[] }
def k7m6 : Method := { name := "<init>", desc := "([CIILjava/lang/Void;)V", sig := { parameters := [(.array .char), .int, .int, (.object "java/lang/Void")], returnType := none }, accessFlags := 2, code := some k7c6 }
def k7c7 : Code := { maxStack := 5, maxLocals := 5, code := jdk_42_method_150_code, exceptionTable := #[], attributes := #[] }
def k7m7 : Method := { name := "<init>", desc := "(Ljava/lang/AbstractStringBuilder;Ljava/lang/Void;)V", sig := { parameters := [(.object "java/lang/AbstractStringBuilder"), (.object "java/lang/Void")], returnType := none }, accessFlags := 0, code := some k7c7 }
def k7c8 : Code := { maxStack := 1, maxLocals := 1, code := jdk_42_method_152_code, exceptionTable := #[], attributes := #[] }
def k7m8 : Method := { name := "coder", desc := "()B", sig := { parameters := [], returnType := some .byte }, accessFlags := 0, code := some k7c8 }
def k7c9 : Code := { maxStack := 1, maxLocals := 1, code := jdk_42_method_154_code, exceptionTable := #[], attributes := #[] }
def k7m9 : Method := { name := "isLatin1", desc := "()Z", sig := { parameters := [], returnType := some .boolean }, accessFlags := 0, code := some k7c9 }
def k7c10 : Code := { maxStack := 3, maxLocals := 2, code := jdk_42_method_155_code, exceptionTable := #[], attributes := #[] }
def k7m10 : Method := { name := "checkIndex", desc := "(II)V", sig := { parameters := [.int, .int], returnType := none }, accessFlags := 8, code := some k7c10 }
/-- java/lang/String -/
def k7 : Class := { plain "java/lang/String" (some 0) with
  accessFlags := 49
  interfaces := #[2, 3, 4, 5, 6]
  cf := some (fileOf pool7 10 #[.nestMembers #[1103]] #[{ accessFlags := 1, nameIndex := 5, descriptorIndex := 6, attributes := #[] }, { accessFlags := 1, nameIndex := 5, descriptorIndex := 1010, attributes := #[] }, { accessFlags := 1, nameIndex := 5, descriptorIndex := 1233, attributes := #[] }, { accessFlags := 1, nameIndex := 507, descriptorIndex := 334, attributes := #[] }, { accessFlags := 1, nameIndex := 497, descriptorIndex := 427, attributes := #[] }, { accessFlags := 0, nameIndex := 532, descriptorIndex := 821, attributes := #[] }, { accessFlags := 2, nameIndex := 5, descriptorIndex := 29, attributes := #[] }, { accessFlags := 0, nameIndex := 5, descriptorIndex := 491, attributes := #[] }, { accessFlags := 0, nameIndex := 17, descriptorIndex := 337, attributes := #[] }, { accessFlags := 0, nameIndex := 494, descriptorIndex := 142, attributes := #[] }, { accessFlags := 8, nameIndex := 501, descriptorIndex := 391, attributes := #[] }] 49 2 #[1106, 1108, 575, 1110, 1112] #[{ accessFlags := 18, nameIndex := 13, descriptorIndex := 14, attributes := #[] }, { accessFlags := 18, nameIndex := 17, descriptorIndex := 18, attributes := #[] }, { accessFlags := 2, nameIndex := 21, descriptorIndex := 22, attributes := #[] }, { accessFlags := 2, nameIndex := 25, descriptorIndex := 26, attributes := #[] }, { accessFlags := 26, nameIndex := 1116, descriptorIndex := 1117, attributes := #[] }, { accessFlags := 24, nameIndex := 40, descriptorIndex := 26, attributes := #[] }, { accessFlags := 26, nameIndex := 1101, descriptorIndex := 1102, attributes := #[] }, { accessFlags := 26, nameIndex := 1121, descriptorIndex := 1122, attributes := #[] }, { accessFlags := 25, nameIndex := 599, descriptorIndex := 600, attributes := #[] }, { accessFlags := 24, nameIndex := 1125, descriptorIndex := 18, attributes := #[] }, { accessFlags := 24, nameIndex := 1127, descriptorIndex := 18, attributes := #[] }])
  fields := #[{ name := "value", type := (.array .byte), accessFlags := 18, slot := 0, constantValue := 0 }, { name := "coder", type := .byte, accessFlags := 18, slot := 1, constantValue := 0 }, { name := "hash", type := .int, accessFlags := 2, slot := 2, constantValue := 0 }, { name := "hashIsZero", type := .boolean, accessFlags := 2, slot := 3, constantValue := 0 }, { name := "serialVersionUID", type := .long, accessFlags := 26, slot := 0, constantValue := 0 }, { name := "COMPACT_STRINGS", type := .boolean, accessFlags := 24, slot := 1, constantValue := 0 }, { name := "serialPersistentFields", type := (.array (.object "java/io/ObjectStreamField")), accessFlags := 26, slot := 2, constantValue := 0 }, { name := "REPL", type := .char, accessFlags := 26, slot := 3, constantValue := 0 }, { name := "CASE_INSENSITIVE_ORDER", type := (.object "java/util/Comparator"), accessFlags := 25, slot := 4, constantValue := 0 }, { name := "LATIN1", type := .byte, accessFlags := 24, slot := 5, constantValue := 0 }, { name := "UTF16", type := .byte, accessFlags := 24, slot := 6, constantValue := 0 }]
  methods := #[k7m0, k7m1, k7m2, k7m3, k7m4, k7m5, k7m6, k7m7, k7m8, k7m9, k7m10]
  instanceTypes := #[(.array .byte), .byte, .int, .boolean]
  staticTypes := #[.long, .boolean, (.array (.object "java/io/ObjectStreamField")), .char, (.object "java/util/Comparator"), .byte, .byte]
  resolved := Array.replicate 1451 none
  statics := some 0 }

def pool8 : Array CpInfo := pool [(1, .methodref 2 3), (0, .class_ 4), (0, .nameAndType 5 6), (0, u "java/lang/Object"), (0, u "<init>"), (0, u "()V"), (0, .string 8), (0, u "prefix"), (0, .methodref 10 11), (0, .class_ 12), (0, .nameAndType 13 14), (0, u "java/util/Objects"), (0, u "requireNonNull"), (0, u "(Ljava/lang/Object;Ljava/lang/String;)Ljava/lang/Object;"), (0, .class_ 16), (0, u "java/lang/String"), (0, .fieldref 18 19), (0, .class_ 20), (0, .nameAndType 8 21), (0, u "com/example/limentinus/limentinus/core/KeyLayout"), (0, u "Ljava/lang/String;"), (0, .class_ 23), (0, u "java/lang/StringBuilder"), (0, .methodref 22 3), (0, .methodref 22 26), (0, .nameAndType 27 28), (0, u "append"), (0, u "(Ljava/lang/String;)Ljava/lang/StringBuilder;"), (0, .methodref 22 30), (0, .nameAndType 31 32), (0, u "toString"), (0, u "()Ljava/lang/String;"), (0, .methodref 18 34), (0, .nameAndType 35 36), (0, u "key"), (0, u "(Ljava/lang/String;)Ljava/lang/String;"), (1, .class_ 40), (1, u "com/example/limentinus/limentinus/core/KeyLayout$Suffix"), (1, u "Lcom/example/limentinus/limentinus/core/KeyLayout$Suffix;"), (0, .fieldref 38 44), (0, .nameAndType 45 21), (0, u "text"), (0, .fieldref 38 47), (0, .nameAndType 48 42), (0, u "PERMIT"), (0, .methodref 22 50), (0, .nameAndType 27 51), (0, u "(I)Ljava/lang/StringBuilder;"), (43, u "(Ljava/lang/String;)V"), (3, u "permitKey"), (0, u "(Ljava/lang/String;I)Ljava/lang/String;")] 9

def k8c0 : Code := { maxStack := 3, maxLocals := 2, code := prog_19_method_1_code, exceptionTable := #[], attributes := #[] }
def k8m0 : Method := { name := "<init>", desc := "(Ljava/lang/String;)V", sig := { parameters := [(.object "java/lang/String")], returnType := none }, accessFlags := 0, code := some k8c0 }
def k8c1 : Code := { maxStack := 2, maxLocals := 2, code := prog_19_method_2_code, exceptionTable := #[], attributes := #[] }
def k8m1 : Method := { name := "key", desc := "(Ljava/lang/String;)Ljava/lang/String;", sig := { parameters := [(.object "java/lang/String")], returnType := some (.object "java/lang/String") }, accessFlags := 0, code := some k8c1 }
def k8c2 : Code := { maxStack := 3, maxLocals := 3, code := prog_19_method_4_code, exceptionTable := #[], attributes := #[] }
def k8m2 : Method := { name := "permitKey", desc := "(Ljava/lang/String;I)Ljava/lang/String;", sig := { parameters := [(.object "java/lang/String"), .int], returnType := some (.object "java/lang/String") }, accessFlags := 0, code := some k8c2 }
/-- com/example/limentinus/limentinus/core/KeyLayout -/
def k8 : Class := { plain "com/example/limentinus/limentinus/core/KeyLayout" (some 0) with
  accessFlags := 32
  interfaces := #[]
  cf := some (fileOf pool8 18 #[.nestMembers #[38]] #[{ accessFlags := 0, nameIndex := 5, descriptorIndex := 95, attributes := #[] }, { accessFlags := 0, nameIndex := 35, descriptorIndex := 36, attributes := #[] }, { accessFlags := 0, nameIndex := 99, descriptorIndex := 100, attributes := #[] }] 32 2 #[] #[{ accessFlags := 18, nameIndex := 8, descriptorIndex := 21, attributes := #[] }])
  fields := #[{ name := "prefix", type := (.object "java/lang/String"), accessFlags := 18, slot := 0, constantValue := 0 }]
  methods := #[k8m0, k8m1, k8m2]
  instanceTypes := #[(.object "java/lang/String")]
  staticTypes := #[]
  resolved := (List.replicate 43 none ++ [some (Resolved.field 17 2)] ++ List.replicate 66 none).toArray
  statics := none }

def pool9 : Array CpInfo := pool [(2, .class_ 4), (1, u "java/lang/Object"), (0, u "<init>"), (0, u "()V"), (35, .class_ 44), (1, u "java/util/Objects"), (0, u "requireNonNull"), (48, u "(Ljava/lang/Object;Ljava/lang/String;)Ljava/lang/Object;")] 89

def k9m0 : Method := { name := "<init>", desc := "()V", sig := { parameters := [], returnType := none }, accessFlags := 2, code := none }
def k9c1 : Code := { maxStack := 3, maxLocals := 2, code := jdk_31_method_11_code, exceptionTable := #[], attributes := #[] }
def k9m1 : Method := { name := "requireNonNull", desc := "(Ljava/lang/Object;Ljava/lang/String;)Ljava/lang/Object;", sig := { parameters := [(.object "java/lang/Object"), (.object "java/lang/String")], returnType := some (.object "java/lang/Object") }, accessFlags := 9, code := some k9c1 }
/-- java/util/Objects -/
def k9 : Class := { plain "java/util/Objects" (some 0) with
  accessFlags := 49
  interfaces := #[]
  cf := some (fileOf pool9 42 #[] #[{ accessFlags := 2, nameIndex := 5, descriptorIndex := 6, attributes := #[] }, { accessFlags := 9, nameIndex := 45, descriptorIndex := 94, attributes := #[] }] 49 2 #[] #[])
  fields := #[]
  methods := #[k9m0, k9m1]
  instanceTypes := #[]
  staticTypes := #[]
  resolved := Array.replicate 184 none
  statics := none }

def pool10 : Array CpInfo := pool [(1, .class_ 2), (0, u "java/lang/Appendable"), (0, .class_ 4), (0, u "java/lang/Object")] 9

/-- java/lang/Appendable -/
def k10 : Class := { plain "java/lang/Appendable" (some 0) with
  accessFlags := 1537
  interfaces := #[]
  cf := some (fileOf pool10 1 #[] #[] 1537 3 #[] #[])
  fields := #[]
  methods := #[]
  instanceTypes := #[]
  staticTypes := #[]
  resolved := Array.replicate 14 none
  statics := none }

def pool11 : Array CpInfo := pool [(1, .class_ 2), (0, u "java/lang/String"), (0, .methodref 4 5), (0, .class_ 6), (0, .nameAndType 7 8), (0, u "java/lang/Object"), (0, u "<init>"), (0, u "()V"), (1, .class_ 12), (1, u "java/lang/AbstractStringBuilder"), (0, u "EMPTYVALUE"), (0, u "[B"), (0, .fieldref 10 16), (0, .nameAndType 17 14), (0, u "value"), (0, .fieldref 1 19), (0, .nameAndType 20 21), (0, u "COMPACT_STRINGS"), (0, u "Z"), (0, .fieldref 10 23), (0, .nameAndType 24 25), (0, u "coder"), (0, u "B"), (6, .methodref 1 33), (0, .nameAndType 34 35), (0, u "length"), (0, u "()I"), (0, .class_ 37), (0, u "java/lang/Integer"), (1, .integer 2147483647), (0, .methodref 1 41), (0, .nameAndType 24 42), (0, u "()B"), (2, u "append"), (0, u "(Ljava/lang/String;)Ljava/lang/AbstractStringBuilder;"), (1, .class_ 49), (0, u "java/lang/CharSequence"), (19, u "(Ljava/lang/String;)V"), (5, u "maybeLatin1"), (3, .fieldref 10 80), (0, .nameAndType 81 82), (0, u "count"), (0, u "I"), (0, .methodref 10 84), (0, .nameAndType 85 86), (0, u "isLatin1"), (0, u "()Z"), (13, .methodref 10 101), (0, .nameAndType 102 103), (0, u "ensureCapacityInternal"), (0, u "(I)V"), (0, .methodref 10 105), (0, .nameAndType 106 107), (0, u "newCapacity"), (0, u "(I)I"), (0, .methodref 109 110), (0, .class_ 111), (0, .nameAndType 112 113), (0, u "java/util/Arrays"), (0, u "copyOf"), (0, u "([BI)[B"), (0, .methodref 115 116), (0, .class_ 117), (0, .nameAndType 118 119), (0, u "jdk/internal/util/ArraysSupport"), (0, u "newLength"), (0, u "(III)I"), (68, u "getChars"), (19, .methodref 10 209), (0, .nameAndType 210 211), (0, u "putStringAt"), (0, u "(ILjava/lang/String;)V"), (5, u "inflateIfNeededFor"), (2, .nameAndType 221 222), (0, u "getBytes"), (0, u "([BIB)V"), (22, .methodref 36 246), (0, .nameAndType 247 107), (0, u "stringSize"), (0, .methodref 36 249), (0, .nameAndType 188 250), (0, u "(II[B)I"), (146, .methodref 10 398), (0, .nameAndType 217 69), (0, .methodref 1 220), (3, u "()[B"), (40, .class_ 445), (0, u "java/lang/Appendable"), (65, u "(I)Ljava/lang/AbstractStringBuilder;"), (40, u "getValue")] 56

def k11m0 : Method := { name := "<init>", desc := "()V", sig := { parameters := [], returnType := none }, accessFlags := 0, code := none }
def k11c1 : Code := { maxStack := 2, maxLocals := 2, code := jdk_68_method_2_code, exceptionTable := #[], attributes := #[] }
def k11m1 : Method := { name := "<init>", desc := "(I)V", sig := { parameters := [.int], returnType := none }, accessFlags := 0, code := some k11c1 }
def k11c2 : Code := { maxStack := 1, maxLocals := 1, code := jdk_68_method_6_code, exceptionTable := #[], attributes := #[] }
def k11m2 : Method := { name := "length", desc := "()I", sig := { parameters := [], returnType := some .int }, accessFlags := 1, code := some k11c2 }
def k11c3 : Code := { maxStack := 4, maxLocals := 3, code := jdk_68_method_9_code, exceptionTable := #[], attributes := #[] }
def k11m3 : Method := { name := "ensureCapacityInternal", desc := "(I)V", sig := { parameters := [.int], returnType := none }, accessFlags := 2, code := some k11c3 }
def k11c4 : Code := { maxStack := 5, maxLocals := 6, code := jdk_68_method_10_code, exceptionTable := #[], attributes := #[] }
def k11m4 : Method := { name := "newCapacity", desc := "(I)I", sig := { parameters := [.int], returnType := some .int }, accessFlags := 2, code := some k11c4 }
def k11c5 : Code := { maxStack := 3, maxLocals := 3, code := jdk_68_method_22_code, exceptionTable := #[], attributes := #[] }
def k11m5 : Method := { name := "append", desc := "(Ljava/lang/String;)Ljava/lang/AbstractStringBuilder;", sig := { parameters := [(.object "java/lang/String")], returnType := some (.object "java/lang/AbstractStringBuilder") }, accessFlags := 1, code := some k11c5 }
def k11c6 : Code := { maxStack := 4, maxLocals := 4, code := jdk_68_method_32_code, exceptionTable := #[], attributes := #[] }
def k11m6 : Method := { name := "append", desc := "(I)Ljava/lang/AbstractStringBuilder;", sig := { parameters := [.int], returnType := some (.object "java/lang/AbstractStringBuilder") }, accessFlags := 1, code := some k11c6 }
def k11c7 : Code := { maxStack := 1, maxLocals := 1, code := jdk_68_method_64_code, exceptionTable := #[], attributes := #[] }
def k11m7 : Method := { name := "getValue", desc := "()[B", sig := { parameters := [], returnType := some (.array .byte) }, accessFlags := 16, code := some k11c7 }
def k11c8 : Code := { maxStack := 1, maxLocals := 1, code := jdk_68_method_68_code, exceptionTable := #[], attributes := #[] }
def k11m8 : Method := { name := "isLatin1", desc := "()Z", sig := { parameters := [], returnType := some .boolean }, accessFlags := 16, code := some k11c8 }
def k11c9 : Code := { maxStack := 2, maxLocals := 2, code := jdk_68_method_71_code, exceptionTable := #[], attributes := #[] }
def k11m9 : Method := { name := "inflateIfNeededFor", desc := "(Ljava/lang/String;)V", sig := { parameters := [(.object "java/lang/String")], returnType := none }, accessFlags := 2, code := some k11c9 }
def k11c10 : Code := { maxStack := 4, maxLocals := 3, code := jdk_68_method_73_code, exceptionTable := #[], attributes := #[] }
def k11m10 : Method := { name := "putStringAt", desc := "(ILjava/lang/String;)V", sig := { parameters := [.int, (.object "java/lang/String")], returnType := none }, accessFlags := 2, code := some k11c10 }
/-- java/lang/AbstractStringBuilder -/
def k11 : Class := { plain "java/lang/AbstractStringBuilder" (some 0) with
  accessFlags := 1056
  interfaces := #[10, 4]
  cf := some (fileOf pool11 10 #[] #[{ accessFlags := 0, nameIndex := 7, descriptorIndex := 8, attributes := #[] }, { accessFlags := 0, nameIndex := 7, descriptorIndex := 103, attributes := #[] }, { accessFlags := 1, nameIndex := 34, descriptorIndex := 35, attributes := #[] }, { accessFlags := 2, nameIndex := 102, descriptorIndex := 103, attributes := #[] }, { accessFlags := 2, nameIndex := 106, descriptorIndex := 107, attributes := #[] }, { accessFlags := 1, nameIndex := 45, descriptorIndex := 46, attributes := #[] }, { accessFlags := 1, nameIndex := 45, descriptorIndex := 511, attributes := #[] }, { accessFlags := 16, nameIndex := 552, descriptorIndex := 403, attributes := #[] }, { accessFlags := 16, nameIndex := 85, descriptorIndex := 86, attributes := #[] }, { accessFlags := 2, nameIndex := 217, descriptorIndex := 69, attributes := #[] }, { accessFlags := 2, nameIndex := 210, descriptorIndex := 211, attributes := #[] }] 1056 4 #[444, 48] #[{ accessFlags := 0, nameIndex := 17, descriptorIndex := 14, attributes := #[] }, { accessFlags := 0, nameIndex := 24, descriptorIndex := 25, attributes := #[] }, { accessFlags := 0, nameIndex := 75, descriptorIndex := 21, attributes := #[] }, { accessFlags := 0, nameIndex := 81, descriptorIndex := 82, attributes := #[] }, { accessFlags := 26, nameIndex := 13, descriptorIndex := 14, attributes := #[] }])
  fields := #[{ name := "value", type := (.array .byte), accessFlags := 0, slot := 0, constantValue := 0 }, { name := "coder", type := .byte, accessFlags := 0, slot := 1, constantValue := 0 }, { name := "maybeLatin1", type := .boolean, accessFlags := 0, slot := 2, constantValue := 0 }, { name := "count", type := .int, accessFlags := 0, slot := 3, constantValue := 0 }, { name := "EMPTYVALUE", type := (.array .byte), accessFlags := 26, slot := 0, constantValue := 0 }]
  methods := #[k11m0, k11m1, k11m2, k11m3, k11m4, k11m5, k11m6, k11m7, k11m8, k11m9, k11m10]
  instanceTypes := #[(.array .byte), .byte, .boolean, .int]
  staticTypes := #[(.array .byte)]
  resolved := Array.replicate 609 none
  statics := none }

def pool12 : Array CpInfo := pool [(1, .methodref 2 3), (0, .class_ 4), (0, .nameAndType 5 6), (0, u "java/lang/AbstractStringBuilder"), (0, u "<init>"), (0, u "(I)V"), (11, .class_ 20), (1, u "java/lang/String"), (3, .class_ 26), (1, u "java/lang/StringBuilder"), (0, u "append"), (0, u "(Ljava/lang/String;)Ljava/lang/StringBuilder;"), (0, .methodref 2 30), (0, .nameAndType 27 31), (0, u "(Ljava/lang/String;)Ljava/lang/AbstractStringBuilder;"), (21, .methodref 2 54), (0, .nameAndType 27 55), (0, u "(I)Ljava/lang/AbstractStringBuilder;"), (81, .methodref 18 138), (0, .nameAndType 5 139), (0, u "(Ljava/lang/StringBuilder;)V"), (5, u "()V"), (10, u "()I"), (111, u "(I)Ljava/lang/StringBuilder;"), (74, .methodref 2 344), (0, .nameAndType 345 156), (0, u "length"), (3, .class_ 350), (0, u "java/lang/Appendable"), (0, .class_ 352), (0, u "java/io/Serializable"), (0, .class_ 354), (0, u "java/lang/Comparable"), (0, .class_ 356), (0, u "java/lang/CharSequence"), (0, u "serialVersionUID"), (0, u "J"), (40, u "toString"), (0, u "()Ljava/lang/String;")] 21

def k12c0 : Code := { maxStack := 2, maxLocals := 1, code := jdk_67_method_1_code, exceptionTable := #[], attributes := #[] }
def k12m0 : Method := { name := "<init>", desc := "()V", sig := { parameters := [], returnType := none }, accessFlags := 1, code := some k12c0 }
def k12c1 : Code := { maxStack := 2, maxLocals := 2, code := jdk_67_method_7_code, exceptionTable := #[], attributes := #[] }
def k12m1 : Method := { name := "append", desc := "(Ljava/lang/String;)Ljava/lang/StringBuilder;", sig := { parameters := [(.object "java/lang/String")], returnType := some (.object "java/lang/StringBuilder") }, accessFlags := 1, code := some k12c1 }
def k12c2 : Code := { maxStack := 2, maxLocals := 2, code := jdk_67_method_15_code, exceptionTable := #[], attributes := #[] }
def k12m2 : Method := { name := "append", desc := "(I)Ljava/lang/StringBuilder;", sig := { parameters := [.int], returnType := some (.object "java/lang/StringBuilder") }, accessFlags := 1, code := some k12c2 }
def k12c3 : Code := { maxStack := 3, maxLocals := 1, code := jdk_67_method_42_code, exceptionTable := #[], attributes := #[] }
def k12m3 : Method := { name := "toString", desc := "()Ljava/lang/String;", sig := { parameters := [], returnType := some (.object "java/lang/String") }, accessFlags := 1, code := some k12c3 }
def k12c4 : Code := { maxStack := 1, maxLocals := 1, code := jdk_67_method_93_code, exceptionTable := #[], attributes := #[] }
def k12m4 : Method := { name := "length", desc := "()I", sig := { parameters := [], returnType := some .int }, accessFlags := 4161, code := some k12c4 }
/-- java/lang/StringBuilder -/
def k12 : Class := { plain "java/lang/StringBuilder" (some 11) with
  accessFlags := 49
  interfaces := #[10, 2, 3, 4]
  cf := some (fileOf pool12 24 #[] #[{ accessFlags := 1, nameIndex := 5, descriptorIndex := 145, attributes := #[] }, { accessFlags := 1, nameIndex := 27, descriptorIndex := 28, attributes := #[] }, { accessFlags := 1, nameIndex := 27, descriptorIndex := 268, attributes := #[] }, { accessFlags := 1, nameIndex := 399, descriptorIndex := 400, attributes := #[] }, { accessFlags := 4161, nameIndex := 345, descriptorIndex := 156, attributes := #[] }] 49 2 #[349, 351, 353, 355] #[{ accessFlags := 24, nameIndex := 357, descriptorIndex := 358, attributes := #[] }])
  fields := #[{ name := "serialVersionUID", type := .long, accessFlags := 24, slot := 0, constantValue := 0 }]
  methods := #[k12m0, k12m1, k12m2, k12m3, k12m4]
  instanceTypes := #[(.array .byte), .byte, .boolean, .int]
  staticTypes := #[.long]
  resolved := Array.replicate 422 none
  statics := none }

def pool13 : Array CpInfo := pool [(2, .class_ 4), (1, u "java/lang/Object"), (0, u "<init>"), (0, u "()V"), (1, .class_ 10), (1, u "java/lang/System"), (0, u "allowSecurityManager"), (0, u "I"), (16, u "cons"), (0, u "Ljava/io/Console;"), (77, .class_ 110), (1, u "java/lang/System$CallersHolder"), (43, u "initialErrStream"), (0, u "Ljava/io/PrintStream;"), (19, u "security"), (0, u "Ljava/lang/SecurityManager;"), (31, .class_ 209), (0, u "java/lang/System$1"), (7, u "props"), (0, u "Ljava/util/Properties;"), (2, u "lineSeparator"), (0, u "Ljava/lang/String;"), (96, .class_ 321), (1, u "java/lang/System$LoggerFinder"), (5, .class_ 328), (0, u "java/lang/System$Logger"), (67, u "err"), (2, u "out"), (91, u "notSupportedJnuEncoding"), (15, u "in"), (17, u "initialIn"), (0, u "Ljava/io/InputStream;"), (35, u "bootLayer"), (0, u "Ljava/lang/ModuleLayer;"), (99, .class_ 664), (0, u "java/lang/System$2"), (9, u "NEVER"), (2, u "MAYBE"), (49, u "arraycopy"), (0, u "(Ljava/lang/Object;ILjava/lang/Object;II)V"), (72, .class_ 802), (0, u "java/lang/System$Logger$Level")] 31

def k13m0 : Method := { name := "<init>", desc := "()V", sig := { parameters := [], returnType := none }, accessFlags := 2, code := none }
def k13m1 : Method := { name := "arraycopy", desc := "(Ljava/lang/Object;ILjava/lang/Object;II)V", sig := { parameters := [(.object "java/lang/Object"), .int, (.object "java/lang/Object"), .int, .int], returnType := none }, accessFlags := 265, code := none }
/-- java/lang/System -/
def k13 : Class := { plain "java/lang/System" (some 0) with
  accessFlags := 49
  interfaces := #[]
  cf := some (fileOf pool13 8 #[.nestMembers #[319, 327, 801, 108, 663, 208]] #[{ accessFlags := 2, nameIndex := 5, descriptorIndex := 6, attributes := #[] }, { accessFlags := 265, nameIndex := 727, descriptorIndex := 728, attributes := #[] }] 49 2 #[] #[{ accessFlags := 25, nameIndex := 507, descriptorIndex := 526, attributes := #[] }, { accessFlags := 25, nameIndex := 399, descriptorIndex := 155, attributes := #[] }, { accessFlags := 25, nameIndex := 396, descriptorIndex := 155, attributes := #[] }, { accessFlags := 10, nameIndex := 525, descriptorIndex := 526, attributes := #[] }, { accessFlags := 26, nameIndex := 674, descriptorIndex := 12, attributes := #[] }, { accessFlags := 26, nameIndex := 677, descriptorIndex := 12, attributes := #[] }, { accessFlags := 10, nameIndex := 11, descriptorIndex := 12, attributes := #[] }, { accessFlags := 74, nameIndex := 175, descriptorIndex := 176, attributes := #[] }, { accessFlags := 10, nameIndex := 491, descriptorIndex := 222, attributes := #[] }, { accessFlags := 74, nameIndex := 29, descriptorIndex := 30, attributes := #[] }, { accessFlags := 74, nameIndex := 154, descriptorIndex := 155, attributes := #[] }, { accessFlags := 10, nameIndex := 217, descriptorIndex := 218, attributes := #[] }, { accessFlags := 10, nameIndex := 221, descriptorIndex := 222, attributes := #[] }, { accessFlags := 8, nameIndex := 562, descriptorIndex := 563, attributes := #[] }])
  fields := #[{ name := "in", type := (.object "java/io/InputStream"), accessFlags := 25, slot := 0, constantValue := 0 }, { name := "out", type := (.object "java/io/PrintStream"), accessFlags := 25, slot := 1, constantValue := 0 }, { name := "err", type := (.object "java/io/PrintStream"), accessFlags := 25, slot := 2, constantValue := 0 }, { name := "initialIn", type := (.object "java/io/InputStream"), accessFlags := 10, slot := 3, constantValue := 0 }, { name := "NEVER", type := .int, accessFlags := 26, slot := 4, constantValue := 0 }, { name := "MAYBE", type := .int, accessFlags := 26, slot := 5, constantValue := 0 }, { name := "allowSecurityManager", type := .int, accessFlags := 10, slot := 6, constantValue := 0 }, { name := "security", type := (.object "java/lang/SecurityManager"), accessFlags := 74, slot := 7, constantValue := 0 }, { name := "notSupportedJnuEncoding", type := (.object "java/lang/String"), accessFlags := 10, slot := 8, constantValue := 0 }, { name := "cons", type := (.object "java/io/Console"), accessFlags := 74, slot := 9, constantValue := 0 }, { name := "initialErrStream", type := (.object "java/io/PrintStream"), accessFlags := 74, slot := 10, constantValue := 0 }, { name := "props", type := (.object "java/util/Properties"), accessFlags := 10, slot := 11, constantValue := 0 }, { name := "lineSeparator", type := (.object "java/lang/String"), accessFlags := 10, slot := 12, constantValue := 0 }, { name := "bootLayer", type := (.object "java/lang/ModuleLayer"), accessFlags := 8, slot := 13, constantValue := 0 }]
  methods := #[k13m0, k13m1]
  instanceTypes := #[]
  staticTypes := #[(.object "java/io/InputStream"), (.object "java/io/PrintStream"), (.object "java/io/PrintStream"), (.object "java/io/InputStream"), .int, .int, .int, (.object "java/lang/SecurityManager"), (.object "java/lang/String"), (.object "java/io/Console"), (.object "java/io/PrintStream"), (.object "java/util/Properties"), (.object "java/lang/String"), (.object "java/lang/ModuleLayer")]
  resolved := Array.replicate 834 none
  statics := none }

def pool14 : Array CpInfo := pool [(2, .class_ 4), (1, u "java/lang/Object"), (0, u "<init>"), (0, u "()V"), (7, .class_ 16), (1, u "java/util/Arrays"), (57, .class_ 76), (1, u "java/util/Arrays$NaturalOrder"), (32, u "()Ljava/lang/Object;"), (3, .class_ 115), (1, u "java/util/Arrays$LegacyMergeSort"), (1, u "Z"), (10, .nameAndType 129 109), (0, u "clone"), (9, u "copyOfRange"), (10, .methodref 151 152), (0, .class_ 153), (0, .nameAndType 154 155), (0, u "java/lang/System"), (0, u "arraycopy"), (0, u "(Ljava/lang/Object;ILjava/lang/Object;II)V"), (146, u "copyOf"), (1, .methodref 305 306), (0, .class_ 307), (0, .nameAndType 308 309), (0, u "java/lang/Math"), (0, u "min"), (0, u "(II)I"), (0, .methodref 311 128), (0, .class_ 312), (0, u "[B"), (26, .methodref 14 340), (0, .nameAndType 341 342), (0, u "copyOfRangeByte"), (0, u "([BII)[B"), (0, .methodref 14 344), (0, .nameAndType 345 346), (0, u "checkLength"), (0, u "(II)V"), (28, .class_ 376), (0, u "java/util/Arrays$ArrayList"), (68, u "$assertionsDisabled"), (269, u "MIN_ARRAY_SORT_GRAN"), (0, u "I"), (2, u "INSERTIONSORT_THRESHOLD"), (149, u "([BI)[B"), (105, .class_ 976), (0, u "java/util/Arrays$ArrayItr")] 52

def k14m0 : Method := { name := "<init>", desc := "()V", sig := { parameters := [], returnType := none }, accessFlags := 2, code := none }
def k14c1 : Code := { maxStack := 6, maxLocals := 3, code := jdk_65_method_121_code, exceptionTable := #[], attributes := #[] }
def k14m1 : Method := { name := "copyOf", desc := "([BI)[B", sig := { parameters := [(.array .byte), .int], returnType := some (.array .byte) }, accessFlags := 9, code := some k14c1 }
def k14c2 : Code := { maxStack := 4, maxLocals := 2, code := jdk_65_method_131_code, exceptionTable := #[], attributes := #[] }
def k14m2 : Method := { name := "checkLength", desc := "(II)V", sig := { parameters := [.int, .int], returnType := none }, accessFlags := 10, code := some k14c2 }
def k14c3 : Code := { maxStack := 3, maxLocals := 3, code := jdk_65_method_132_code, exceptionTable := #[], attributes := #[] }
def k14m3 : Method := { name := "copyOfRange", desc := "([BII)[B", sig := { parameters := [(.array .byte), .int, .int], returnType := some (.array .byte) }, accessFlags := 9, code := some k14c3 }
def k14c4 : Code := { maxStack := 6, maxLocals := 5, code := jdk_65_method_133_code, exceptionTable := #[], attributes := #[] }
def k14m4 : Method := { name := "copyOfRangeByte", desc := "([BII)[B", sig := { parameters := [(.array .byte), .int, .int], returnType := some (.array .byte) }, accessFlags := 10, code := some k14c4 }
/-- java/util/Arrays -/
def k14 : Class := { plain "java/util/Arrays" (some 0) with
  accessFlags := 49
  interfaces := #[]
  cf := some (fileOf pool14 14 #[.nestMembers #[975, 375, 113, 74]] #[{ accessFlags := 2, nameIndex := 5, descriptorIndex := 6, attributes := #[] }, { accessFlags := 9, nameIndex := 302, descriptorIndex := 869, attributes := #[] }, { accessFlags := 10, nameIndex := 345, descriptorIndex := 346, attributes := #[] }, { accessFlags := 9, nameIndex := 139, descriptorIndex := 342, attributes := #[] }, { accessFlags := 10, nameIndex := 341, descriptorIndex := 342, attributes := #[] }] 49 2 #[] #[{ accessFlags := 26, nameIndex := 715, descriptorIndex := 716, attributes := #[] }, { accessFlags := 26, nameIndex := 719, descriptorIndex := 716, attributes := #[] }, { accessFlags := 4120, nameIndex := 445, descriptorIndex := 117, attributes := #[] }])
  fields := #[{ name := "MIN_ARRAY_SORT_GRAN", type := .int, accessFlags := 26, slot := 0, constantValue := 0 }, { name := "INSERTIONSORT_THRESHOLD", type := .int, accessFlags := 26, slot := 1, constantValue := 0 }, { name := "$assertionsDisabled", type := .boolean, accessFlags := 4120, slot := 2, constantValue := 0 }]
  methods := #[k14m0, k14m1, k14m2, k14m3, k14m4]
  instanceTypes := #[]
  staticTypes := #[.int, .int, .boolean]
  resolved := Array.replicate 1029 none
  statics := none }

def pool15 : Array CpInfo := pool [(1, .class_ 2), (0, u "java/lang/Math"), (1, .class_ 6), (1, u "java/lang/Object"), (0, u "<init>"), (0, u "()V"), (89, .class_ 100), (1, u "java/lang/Math$RandomNumberGeneratorHolder"), (71, u "negativeZeroFloatBits"), (0, u "J"), (2, u "negativeZeroDoubleBits"), (21, u "max"), (2, u "min"), (43, u "$assertionsDisabled"), (0, u "Z"), (88, u "(II)I"), (2, u "twoToTheDoubleScaleDown"), (0, u "D"), (4, u "twoToTheDoubleScaleUp"), (9, u "E"), (3, u "PI"), (2, u "TAU"), (2, u "DEGREES_TO_RADIANS"), (0, u "RADIANS_TO_DEGREES")] 94

def k15m0 : Method := { name := "<init>", desc := "()V", sig := { parameters := [], returnType := none }, accessFlags := 2, code := none }
def k15c1 : Code := { maxStack := 2, maxLocals := 2, code := jdk_29_method_65_code, exceptionTable := #[], attributes := #[] }
def k15m1 : Method := { name := "max", desc := "(II)I", sig := { parameters := [.int, .int], returnType := some .int }, accessFlags := 9, code := some k15c1 }
def k15c2 : Code := { maxStack := 2, maxLocals := 2, code := jdk_29_method_69_code, exceptionTable := #[], attributes := #[] }
def k15m2 : Method := { name := "min", desc := "(II)I", sig := { parameters := [.int, .int], returnType := some .int }, accessFlags := 9, code := some k15c2 }
/-- java/lang/Math -/
def k15 : Class := { plain "java/lang/Math" (some 0) with
  accessFlags := 49
  interfaces := #[]
  cf := some (fileOf pool15 1 #[.nestMembers #[98]] #[{ accessFlags := 2, nameIndex := 7, descriptorIndex := 8, attributes := #[] }, { accessFlags := 9, nameIndex := 198, descriptorIndex := 335, attributes := #[] }, { accessFlags := 9, nameIndex := 201, descriptorIndex := 335, attributes := #[] }] 49 4 #[] #[{ accessFlags := 25, nameIndex := 354, descriptorIndex := 339, attributes := #[] }, { accessFlags := 25, nameIndex := 358, descriptorIndex := 339, attributes := #[] }, { accessFlags := 25, nameIndex := 361, descriptorIndex := 339, attributes := #[] }, { accessFlags := 26, nameIndex := 364, descriptorIndex := 339, attributes := #[] }, { accessFlags := 26, nameIndex := 365, descriptorIndex := 339, attributes := #[] }, { accessFlags := 26, nameIndex := 172, descriptorIndex := 173, attributes := #[] }, { accessFlags := 26, nameIndex := 176, descriptorIndex := 173, attributes := #[] }, { accessFlags := 8, nameIndex := 344, descriptorIndex := 339, attributes := #[] }, { accessFlags := 8, nameIndex := 338, descriptorIndex := 339, attributes := #[] }, { accessFlags := 4120, nameIndex := 245, descriptorIndex := 246, attributes := #[] }])
  fields := #[{ name := "E", type := .double, accessFlags := 25, slot := 0, constantValue := 0 }, { name := "PI", type := .double, accessFlags := 25, slot := 1, constantValue := 0 }, { name := "TAU", type := .double, accessFlags := 25, slot := 2, constantValue := 0 }, { name := "DEGREES_TO_RADIANS", type := .double, accessFlags := 26, slot := 3, constantValue := 0 }, { name := "RADIANS_TO_DEGREES", type := .double, accessFlags := 26, slot := 4, constantValue := 0 }, { name := "negativeZeroFloatBits", type := .long, accessFlags := 26, slot := 5, constantValue := 0 }, { name := "negativeZeroDoubleBits", type := .long, accessFlags := 26, slot := 6, constantValue := 0 }, { name := "twoToTheDoubleScaleUp", type := .double, accessFlags := 8, slot := 7, constantValue := 0 }, { name := "twoToTheDoubleScaleDown", type := .double, accessFlags := 8, slot := 8, constantValue := 0 }, { name := "$assertionsDisabled", type := .boolean, accessFlags := 4120, slot := 9, constantValue := 0 }]
  methods := #[k15m0, k15m1, k15m2]
  instanceTypes := #[]
  staticTypes := #[.double, .double, .double, .double, .double, .long, .long, .double, .double, .boolean]
  resolved := Array.replicate 460 none
  statics := none }

def pool16 : Array CpInfo := pool [(2, .class_ 4), (1, u "java/lang/Enum"), (0, u "name"), (0, u "Ljava/lang/String;"), (2, u "ordinal"), (0, u "I"), (1, .class_ 14), (1, u "java/lang/Object"), (4, u "hash"), (86, .class_ 108), (1, u "java/lang/Enum$EnumDesc"), (2, .class_ 112), (0, u "java/lang/constant/Constable"), (0, .class_ 114), (0, u "java/lang/Comparable"), (0, .class_ 116), (0, u "java/io/Serializable")] 87

/-- java/lang/Enum -/
def k16 : Class := { plain "java/lang/Enum" (some 0) with
  accessFlags := 1057
  interfaces := #[5, 3, 2]
  cf := some (fileOf pool16 2 #[.nestMembers #[106]] #[] 1057 12 #[111, 113, 115] #[{ accessFlags := 18, nameIndex := 5, descriptorIndex := 6, attributes := #[] }, { accessFlags := 18, nameIndex := 9, descriptorIndex := 10, attributes := #[] }, { accessFlags := 2, nameIndex := 19, descriptorIndex := 10, attributes := #[] }])
  fields := #[{ name := "name", type := (.object "java/lang/String"), accessFlags := 18, slot := 0, constantValue := 0 }, { name := "ordinal", type := .int, accessFlags := 18, slot := 1, constantValue := 0 }, { name := "hash", type := .int, accessFlags := 2, slot := 2, constantValue := 0 }]
  methods := #[]
  instanceTypes := #[(.object "java/lang/String"), .int, .int]
  staticTypes := #[]
  resolved := Array.replicate 204 none
  statics := none }

def pool17 : Array CpInfo := pool [(1, .class_ 2), (0, u "com/example/limentinus/limentinus/core/KeyLayout$Suffix"), (2, u "FENCE"), (0, u "Lcom/example/limentinus/limentinus/core/KeyLayout$Suffix;"), (2, u "PERMIT"), (2, u "$VALUES"), (0, u "[Lcom/example/limentinus/limentinus/core/KeyLayout$Suffix;"), (6, .class_ 22), (1, u "java/lang/Enum"), (8, u "text"), (0, u "Ljava/lang/String;"), (31, u "ending"), (0, u "Ljava/util/regex/Pattern;"), (6, u "described"), (28, .class_ 102), (0, u "com/example/limentinus/limentinus/core/KeyLayout")] 2

/-- com/example/limentinus/limentinus/core/KeyLayout$Suffix -/
def k17 : Class := { plain "com/example/limentinus/limentinus/core/KeyLayout$Suffix" (some 16) with
  accessFlags := 16432
  interfaces := #[]
  cf := some (fileOf pool17 1 #[.nestHost 101] #[] 16432 20 #[] #[{ accessFlags := 16409, nameIndex := 5, descriptorIndex := 6, attributes := #[] }, { accessFlags := 16409, nameIndex := 9, descriptorIndex := 6, attributes := #[] }, { accessFlags := 18, nameIndex := 31, descriptorIndex := 32, attributes := #[] }, { accessFlags := 18, nameIndex := 64, descriptorIndex := 65, attributes := #[] }, { accessFlags := 18, nameIndex := 72, descriptorIndex := 32, attributes := #[] }, { accessFlags := 4122, nameIndex := 12, descriptorIndex := 13, attributes := #[] }])
  fields := #[{ name := "FENCE", type := (.object "com/example/limentinus/limentinus/core/KeyLayout$Suffix"), accessFlags := 16409, slot := 0, constantValue := 0 }, { name := "PERMIT", type := (.object "com/example/limentinus/limentinus/core/KeyLayout$Suffix"), accessFlags := 16409, slot := 1, constantValue := 0 }, { name := "text", type := (.object "java/lang/String"), accessFlags := 18, slot := 3, constantValue := 0 }, { name := "ending", type := (.object "java/util/regex/Pattern"), accessFlags := 18, slot := 4, constantValue := 0 }, { name := "described", type := (.object "java/lang/String"), accessFlags := 18, slot := 5, constantValue := 0 }, { name := "$VALUES", type := (.array (.object "com/example/limentinus/limentinus/core/KeyLayout$Suffix")), accessFlags := 4122, slot := 2, constantValue := 0 }]
  methods := #[]
  instanceTypes := #[(.object "java/lang/String"), .int, .int, (.object "java/lang/String"), (.object "java/util/regex/Pattern"), (.object "java/lang/String")]
  staticTypes := #[(.object "com/example/limentinus/limentinus/core/KeyLayout$Suffix"), (.object "com/example/limentinus/limentinus/core/KeyLayout$Suffix"), (.array (.object "com/example/limentinus/limentinus/core/KeyLayout$Suffix"))]
  resolved := Array.replicate 105 none
  statics := some 1 }

def pool18 : Array CpInfo := pool [(2, .class_ 4), (1, u "java/lang/Object"), (0, u "<init>"), (0, u "()V"), (1, .class_ 10), (1, u "java/lang/Number"), (2, .class_ 14), (0, u "java/io/Serializable"), (0, u "serialVersionUID"), (0, u "J")] 20

def k18m0 : Method := { name := "<init>", desc := "()V", sig := { parameters := [], returnType := none }, accessFlags := 1, code := none }
/-- java/lang/Number -/
def k18 : Class := { plain "java/lang/Number" (some 0) with
  accessFlags := 1057
  interfaces := #[2]
  cf := some (fileOf pool18 8 #[] #[{ accessFlags := 1, nameIndex := 5, descriptorIndex := 6, attributes := #[] }] 1057 2 #[13] #[{ accessFlags := 26, nameIndex := 15, descriptorIndex := 16, attributes := #[] }])
  fields := #[{ name := "serialVersionUID", type := .long, accessFlags := 26, slot := 0, constantValue := 0 }]
  methods := #[k18m0]
  instanceTypes := #[]
  staticTypes := #[.long]
  resolved := Array.replicate 37 none
  statics := none }

def pool19 : Array CpInfo := pool [(1, .class_ 2), (0, u "java/lang/Integer"), (16, u "digits"), (0, u "[C"), (33, u "(I)I"), (19, u "stringSize"), (2, u "getChars"), (0, u "(II[B)I"), (4, .fieldref 1 84), (0, .nameAndType 85 86), (0, u "DigitOnes"), (0, u "[B"), (0, .fieldref 1 88), (0, .nameAndType 89 86), (0, u "DigitTens"), (99, .class_ 190), (0, u "java/lang/Integer$IntegerCache"), (3, u "I"), (8, .class_ 204), (0, u "java/lang/Number"), (2, u "value"), (94, u "TYPE"), (0, u "Ljava/lang/Class;"), (0, .class_ 305), (0, u "java/lang/Comparable"), (0, .class_ 307), (0, u "java/lang/constant/Constable"), (0, .class_ 309), (0, u "java/lang/constant/ConstantDesc"), (0, u "MIN_VALUE"), (1, u "MAX_VALUE"), (3, u "SIZE"), (1, u "BYTES"), (1, u "serialVersionUID"), (0, u "J")] 131

def k19c0 : Code := { maxStack := 4, maxLocals := 7, code := jdk_33_method_12_code, exceptionTable := #[], attributes := #[] }
def k19m0 : Method := { name := "getChars", desc := "(II[B)I", sig := { parameters := [.int, .int, (.array .byte)], returnType := some .int }, accessFlags := 8, code := some k19c0 }
def k19c1 : Code := { maxStack := 2, maxLocals := 4, code := jdk_33_method_13_code, exceptionTable := #[], attributes := #[] }
def k19m1 : Method := { name := "stringSize", desc := "(I)I", sig := { parameters := [.int], returnType := some .int }, accessFlags := 8, code := some k19c1 }
/-- java/lang/Integer -/
def k19 : Class := { plain "java/lang/Integer" (some 18) with
  accessFlags := 49
  interfaces := #[3, 5, 6]
  cf := some (fileOf pool19 1 #[.nestMembers #[189]] #[{ accessFlags := 8, nameIndex := 77, descriptorIndex := 78, attributes := #[] }, { accessFlags := 8, nameIndex := 74, descriptorIndex := 54, attributes := #[] }] 49 203 #[304, 306, 308] #[{ accessFlags := 25, nameIndex := 310, descriptorIndex := 194, attributes := #[] }, { accessFlags := 25, nameIndex := 312, descriptorIndex := 194, attributes := #[] }, { accessFlags := 25, nameIndex := 302, descriptorIndex := 303, attributes := #[] }, { accessFlags := 24, nameIndex := 19, descriptorIndex := 20, attributes := #[] }, { accessFlags := 24, nameIndex := 89, descriptorIndex := 86, attributes := #[] }, { accessFlags := 24, nameIndex := 85, descriptorIndex := 86, attributes := #[] }, { accessFlags := 18, nameIndex := 207, descriptorIndex := 194, attributes := #[] }, { accessFlags := 25, nameIndex := 316, descriptorIndex := 194, attributes := #[] }, { accessFlags := 25, nameIndex := 318, descriptorIndex := 194, attributes := #[] }, { accessFlags := 26, nameIndex := 320, descriptorIndex := 321, attributes := #[] }])
  fields := #[{ name := "MIN_VALUE", type := .int, accessFlags := 25, slot := 0, constantValue := 0 }, { name := "MAX_VALUE", type := .int, accessFlags := 25, slot := 1, constantValue := 0 }, { name := "TYPE", type := (.object "java/lang/Class"), accessFlags := 25, slot := 2, constantValue := 0 }, { name := "digits", type := (.array .char), accessFlags := 24, slot := 3, constantValue := 0 }, { name := "DigitTens", type := (.array .byte), accessFlags := 24, slot := 4, constantValue := 0 }, { name := "DigitOnes", type := (.array .byte), accessFlags := 24, slot := 5, constantValue := 0 }, { name := "value", type := .int, accessFlags := 18, slot := 0, constantValue := 0 }, { name := "SIZE", type := .int, accessFlags := 25, slot := 6, constantValue := 0 }, { name := "BYTES", type := .int, accessFlags := 25, slot := 7, constantValue := 0 }, { name := "serialVersionUID", type := .long, accessFlags := 26, slot := 8, constantValue := 0 }]
  methods := #[k19m0, k19m1]
  instanceTypes := #[.int]
  staticTypes := #[.int, .int, (.object "java/lang/Class"), (.array .char), (.array .byte), (.array .byte), .int, .int, .long]
  resolved := Array.replicate 453 none
  statics := some 2 }

def pool20 : Array CpInfo := pool [(1, .class_ 2), (0, u "java/lang/String"), (1, .class_ 6), (1, u "java/lang/Object"), (0, u "<init>"), (0, u "()V"), (0, .methodref 1 10), (0, .nameAndType 11 12), (0, u "checkIndex"), (0, u "(II)V"), (1, .class_ 16), (1, u "java/lang/StringLatin1"), (36, u "([BI)C"), (67, u "$assertionsDisabled"), (0, u "Z"), (98, .class_ 223), (1, u "java/lang/StringLatin1$LinesSpliterator"), (28, u "charAt"), (137, .class_ 391), (0, u "java/lang/StringLatin1$CharsSpliterator")] 3

def k20m0 : Method := { name := "<init>", desc := "()V", sig := { parameters := [], returnType := none }, accessFlags := 0, code := none }
def k20c1 : Code := { maxStack := 2, maxLocals := 2, code := jdk_43_method_2_code, exceptionTable := #[], attributes := #[] }
def k20m1 : Method := { name := "charAt", desc := "([BI)C", sig := { parameters := [(.array .byte), .int], returnType := some .char }, accessFlags := 9, code := some k20c1 }
/-- java/lang/StringLatin1 -/
def k20 : Class := { plain "java/lang/StringLatin1" (some 0) with
  accessFlags := 48
  interfaces := #[]
  cf := some (fileOf pool20 14 #[.nestMembers #[390, 221]] #[{ accessFlags := 0, nameIndex := 7, descriptorIndex := 8, attributes := #[] }, { accessFlags := 9, nameIndex := 252, descriptorIndex := 53, attributes := #[] }] 48 4 #[] #[{ accessFlags := 4120, nameIndex := 121, descriptorIndex := 122, attributes := #[] }])
  fields := #[{ name := "$assertionsDisabled", type := .boolean, accessFlags := 4120, slot := 0, constantValue := 0 }]
  methods := #[k20m0, k20m1]
  instanceTypes := #[]
  staticTypes := #[.boolean]
  resolved := Array.replicate 395 none
  statics := none }

def pool21 : Array CpInfo := pool [(2, .class_ 4), (1, u "java/lang/Object"), (0, u "<init>"), (0, u "()V"), (17, .class_ 26), (1, u "jdk/internal/util/Preconditions"), (6, u "checkIndex"), (21, .class_ 56), (0, u "jdk/internal/util/Preconditions$4"), (57, .class_ 115), (0, u "jdk/internal/util/Preconditions$1"), (7, u "SIOOBE_FORMATTER"), (0, u "Ljava/util/function/BiFunction;"), (0, .class_ 126), (0, u "jdk/internal/util/Preconditions$2"), (3, u "AIOOBE_FORMATTER"), (0, .class_ 132), (0, u "jdk/internal/util/Preconditions$3"), (3, u "IOOBE_FORMATTER"), (41, u "(IILjava/util/function/BiFunction;)I")] 15

def k21m0 : Method := { name := "<init>", desc := "()V", sig := { parameters := [], returnType := none }, accessFlags := 1, code := none }
def k21c1 : Code := { maxStack := 3, maxLocals := 3, code := jdk_41_method_11_code, exceptionTable := #[], attributes := #[] }
def k21m1 : Method := { name := "checkIndex", desc := "(IILjava/util/function/BiFunction;)I", sig := { parameters := [.int, .int, (.object "java/util/function/BiFunction")], returnType := some .int }, accessFlags := 9, code := some k21c1 }
/-- jdk/internal/util/Preconditions -/
def k21 : Class := { plain "jdk/internal/util/Preconditions" (some 0) with
  accessFlags := 33
  interfaces := #[]
  cf := some (fileOf pool21 24 #[.nestMembers #[55, 131, 125, 114]] #[{ accessFlags := 1, nameIndex := 5, descriptorIndex := 6, attributes := #[] }, { accessFlags := 9, nameIndex := 33, descriptorIndex := 178, attributes := #[] }] 33 2 #[] #[{ accessFlags := 25, nameIndex := 123, descriptorIndex := 124, attributes := #[] }, { accessFlags := 25, nameIndex := 130, descriptorIndex := 124, attributes := #[] }, { accessFlags := 25, nameIndex := 136, descriptorIndex := 124, attributes := #[] }])
  fields := #[{ name := "SIOOBE_FORMATTER", type := (.object "java/util/function/BiFunction"), accessFlags := 25, slot := 0, constantValue := 0 }, { name := "AIOOBE_FORMATTER", type := (.object "java/util/function/BiFunction"), accessFlags := 25, slot := 1, constantValue := 0 }, { name := "IOOBE_FORMATTER", type := (.object "java/util/function/BiFunction"), accessFlags := 25, slot := 2, constantValue := 0 }]
  methods := #[k21m0, k21m1]
  instanceTypes := #[]
  staticTypes := #[(.object "java/util/function/BiFunction"), (.object "java/util/function/BiFunction"), (.object "java/util/function/BiFunction")]
  resolved := Array.replicate 194 none
  statics := some 3 }

def pool22 : Array CpInfo := pool [(6, .class_ 8), (1, u "java/lang/Object"), (0, u "<init>"), (0, u "()V"), (1, .class_ 14), (1, u "java/lang/StringUTF16"), (31, u "$assertionsDisabled"), (0, u "Z"), (13, u "HI_BYTE_SHIFT"), (0, u "I"), (2, u "LO_BYTE_SHIFT"), (49, .methodref 12 116), (0, .nameAndType 117 118), (0, u "compress"), (0, u "([CI[BII)I"), (3, u "([CII)[B"), (138, u "coderFromArrayLen"), (0, u "([BI)B"), (106, .class_ 371), (1, u "java/lang/StringUTF16$LinesSpliterator"), (58, u "MAX_LENGTH"), (196, .class_ 628), (0, u "java/lang/StringUTF16$CodePointsSpliterator"), (0, .class_ 630), (0, u "java/lang/StringUTF16$CharsSpliterator")] 4

def k22m0 : Method := { name := "<init>", desc := "()V", sig := { parameters := [], returnType := none }, accessFlags := 0, code := none }
def k22c1 : Code := { maxStack := 2, maxLocals := 2, code := jdk_52_method_15_code, exceptionTable := #[], attributes := #[] }
def k22m1 : Method := { name := "coderFromArrayLen", desc := "([BI)B", sig := { parameters := [(.array .byte), .int], returnType := some .byte }, accessFlags := 8, code := some k22c1 }
def k22c2 : Code := { maxStack := 5, maxLocals := 6, code := jdk_52_method_16_code, exceptionTable := #[], attributes := #[] }
def k22m2 : Method := { name := "compress", desc := "([CII)[B", sig := { parameters := [(.array .char), .int, .int], returnType := some (.array .byte) }, accessFlags := 9, code := some k22c2 }
def k22c3 : Code := { maxStack := 3, maxLocals := 7, code := jdk_52_method_21_code, exceptionTable := #[], attributes := #[] }
def k22m3 : Method := { name := "compress", desc := "([CI[BII)I", sig := { parameters := [(.array .char), .int, (.array .byte), .int, .int], returnType := some .int }, accessFlags := 9, code := some k22c3 }
/-- java/lang/StringUTF16 -/
def k22 : Class := { plain "java/lang/StringUTF16" (some 0) with
  accessFlags := 48
  interfaces := #[]
  cf := some (fileOf pool22 12 #[.nestMembers #[627, 629, 369]] #[{ accessFlags := 0, nameIndex := 9, descriptorIndex := 10, attributes := #[] }, { accessFlags := 8, nameIndex := 261, descriptorIndex := 262, attributes := #[] }, { accessFlags := 9, nameIndex := 117, descriptorIndex := 122, attributes := #[] }, { accessFlags := 9, nameIndex := 117, descriptorIndex := 118, attributes := #[] }] 48 6 #[] #[{ accessFlags := 26, nameIndex := 61, descriptorIndex := 62, attributes := #[] }, { accessFlags := 26, nameIndex := 65, descriptorIndex := 62, attributes := #[] }, { accessFlags := 24, nameIndex := 430, descriptorIndex := 62, attributes := #[] }, { accessFlags := 4120, nameIndex := 46, descriptorIndex := 47, attributes := #[] }])
  fields := #[{ name := "HI_BYTE_SHIFT", type := .int, accessFlags := 26, slot := 0, constantValue := 0 }, { name := "LO_BYTE_SHIFT", type := .int, accessFlags := 26, slot := 1, constantValue := 0 }, { name := "MAX_LENGTH", type := .int, accessFlags := 24, slot := 2, constantValue := 0 }, { name := "$assertionsDisabled", type := .boolean, accessFlags := 4120, slot := 3, constantValue := 0 }]
  methods := #[k22m0, k22m1, k22m2, k22m3]
  instanceTypes := #[]
  staticTypes := #[.int, .int, .int, .boolean]
  resolved := Array.replicate 635 none
  statics := none }

def pool23 : Array CpInfo := pool [(9, u "<init>"), (6, .class_ 18), (1, u "java/lang/Object"), (0, u "()V"), (1, .class_ 23), (1, u "jdk/internal/util/ArraysSupport"), (0, u "LOG2_ARRAY_LONG_INDEX_SCALE"), (0, u "I"), (2, u "U"), (0, u "Ljdk/internal/misc/Unsafe;"), (8, u "BIG_ENDIAN"), (0, u "Z"), (8, u "LOG2_BYTE_BIT_SIZE"), (4, u "LOG2_ARRAY_INT_INDEX_SCALE"), (54, u "JLA"), (0, u "Ljdk/internal/access/JavaLangAccess;"), (11, u "LOG2_ARRAY_BOOLEAN_INDEX_SCALE"), (9, u "LOG2_ARRAY_BYTE_INDEX_SCALE"), (5, u "LOG2_ARRAY_CHAR_INDEX_SCALE"), (5, u "LOG2_ARRAY_SHORT_INDEX_SCALE"), (18, u "LOG2_ARRAY_FLOAT_INDEX_SCALE"), (24, u "LOG2_ARRAY_DOUBLE_INDEX_SCALE"), (6, .methodref 195 196), (0, .class_ 197), (0, .nameAndType 198 199), (0, u "java/lang/Math"), (0, u "max"), (0, u "(II)I"), (0, .integer 2147483639), (76, u "T_BOOLEAN"), (2, u "T_CHAR"), (1, u "T_FLOAT"), (1, u "T_DOUBLE"), (1, u "T_BYTE"), (1, u "T_SHORT"), (1, u "T_INT"), (1, u "T_LONG"), (1, u "SOFT_MAX_ARRAY_LENGTH"), (56, u "newLength"), (0, u "(III)I")] 25

def k23m0 : Method := { name := "<init>", desc := "()V", sig := { parameters := [], returnType := none }, accessFlags := 2, code := none }
def k23c1 : Code := { maxStack := 3, maxLocals := 4, code := jdk_48_method_27_code, exceptionTable := #[], attributes := #[] }
def k23m1 : Method := { name := "newLength", desc := "(III)I", sig := { parameters := [.int, .int, .int], returnType := some .int }, accessFlags := 9, code := some k23c1 }
/-- jdk/internal/util/ArraysSupport -/
def k23 : Class := { plain "jdk/internal/util/ArraysSupport" (some 0) with
  accessFlags := 33
  interfaces := #[]
  cf := some (fileOf pool23 21 #[] #[{ accessFlags := 2, nameIndex := 9, descriptorIndex := 19, attributes := #[] }, { accessFlags := 9, nameIndex := 351, descriptorIndex := 352, attributes := #[] }] 33 16 #[] #[{ accessFlags := 24, nameIndex := 28, descriptorIndex := 29, attributes := #[] }, { accessFlags := 26, nameIndex := 38, descriptorIndex := 39, attributes := #[] }, { accessFlags := 25, nameIndex := 121, descriptorIndex := 25, attributes := #[] }, { accessFlags := 25, nameIndex := 131, descriptorIndex := 25, attributes := #[] }, { accessFlags := 25, nameIndex := 137, descriptorIndex := 25, attributes := #[] }, { accessFlags := 25, nameIndex := 143, descriptorIndex := 25, attributes := #[] }, { accessFlags := 25, nameIndex := 53, descriptorIndex := 25, attributes := #[] }, { accessFlags := 25, nameIndex := 24, descriptorIndex := 25, attributes := #[] }, { accessFlags := 25, nameIndex := 162, descriptorIndex := 25, attributes := #[] }, { accessFlags := 25, nameIndex := 187, descriptorIndex := 25, attributes := #[] }, { accessFlags := 26, nameIndex := 48, descriptorIndex := 25, attributes := #[] }, { accessFlags := 25, nameIndex := 277, descriptorIndex := 25, attributes := #[] }, { accessFlags := 25, nameIndex := 280, descriptorIndex := 25, attributes := #[] }, { accessFlags := 25, nameIndex := 282, descriptorIndex := 25, attributes := #[] }, { accessFlags := 25, nameIndex := 284, descriptorIndex := 25, attributes := #[] }, { accessFlags := 25, nameIndex := 286, descriptorIndex := 25, attributes := #[] }, { accessFlags := 25, nameIndex := 288, descriptorIndex := 25, attributes := #[] }, { accessFlags := 25, nameIndex := 290, descriptorIndex := 25, attributes := #[] }, { accessFlags := 25, nameIndex := 292, descriptorIndex := 25, attributes := #[] }, { accessFlags := 26, nameIndex := 108, descriptorIndex := 109, attributes := #[] }, { accessFlags := 25, nameIndex := 294, descriptorIndex := 25, attributes := #[] }])
  fields := #[{ name := "U", type := (.object "jdk/internal/misc/Unsafe"), accessFlags := 24, slot := 0, constantValue := 0 }, { name := "BIG_ENDIAN", type := .boolean, accessFlags := 26, slot := 1, constantValue := 0 }, { name := "LOG2_ARRAY_BOOLEAN_INDEX_SCALE", type := .int, accessFlags := 25, slot := 2, constantValue := 0 }, { name := "LOG2_ARRAY_BYTE_INDEX_SCALE", type := .int, accessFlags := 25, slot := 3, constantValue := 0 }, { name := "LOG2_ARRAY_CHAR_INDEX_SCALE", type := .int, accessFlags := 25, slot := 4, constantValue := 0 }, { name := "LOG2_ARRAY_SHORT_INDEX_SCALE", type := .int, accessFlags := 25, slot := 5, constantValue := 0 }, { name := "LOG2_ARRAY_INT_INDEX_SCALE", type := .int, accessFlags := 25, slot := 6, constantValue := 0 }, { name := "LOG2_ARRAY_LONG_INDEX_SCALE", type := .int, accessFlags := 25, slot := 7, constantValue := 0 }, { name := "LOG2_ARRAY_FLOAT_INDEX_SCALE", type := .int, accessFlags := 25, slot := 8, constantValue := 0 }, { name := "LOG2_ARRAY_DOUBLE_INDEX_SCALE", type := .int, accessFlags := 25, slot := 9, constantValue := 0 }, { name := "LOG2_BYTE_BIT_SIZE", type := .int, accessFlags := 26, slot := 10, constantValue := 0 }, { name := "T_BOOLEAN", type := .int, accessFlags := 25, slot := 11, constantValue := 0 }, { name := "T_CHAR", type := .int, accessFlags := 25, slot := 12, constantValue := 0 }, { name := "T_FLOAT", type := .int, accessFlags := 25, slot := 13, constantValue := 0 }, { name := "T_DOUBLE", type := .int, accessFlags := 25, slot := 14, constantValue := 0 }, { name := "T_BYTE", type := .int, accessFlags := 25, slot := 15, constantValue := 0 }, { name := "T_SHORT", type := .int, accessFlags := 25, slot := 16, constantValue := 0 }, { name := "T_INT", type := .int, accessFlags := 25, slot := 17, constantValue := 0 }, { name := "T_LONG", type := .int, accessFlags := 25, slot := 18, constantValue := 0 }, { name := "JLA", type := (.object "jdk/internal/access/JavaLangAccess"), accessFlags := 26, slot := 19, constantValue := 0 }, { name := "SOFT_MAX_ARRAY_LENGTH", type := .int, accessFlags := 25, slot := 20, constantValue := 0 }]
  methods := #[k23m0, k23m1]
  instanceTypes := #[]
  staticTypes := #[(.object "jdk/internal/misc/Unsafe"), .boolean, .int, .int, .int, .int, .int, .int, .int, .int, .int, .int, .int, .int, .int, .int, .int, .int, .int, (.object "jdk/internal/access/JavaLangAccess"), .int]
  resolved := Array.replicate 378 none
  statics := none }

def pool24 : Array CpInfo := pool [(1, .class_ 2), (0, u "java/lang/Cloneable"), (0, .class_ 4), (0, u "java/lang/Object")] 2

/-- java/lang/Cloneable -/
def k24 : Class := { plain "java/lang/Cloneable" (some 0) with
  accessFlags := 1537
  interfaces := #[]
  cf := some (fileOf pool24 1 #[] #[] 1537 3 #[] #[])
  fields := #[]
  methods := #[]
  instanceTypes := #[]
  staticTypes := #[]
  resolved := Array.replicate 7 none
  statics := none }

/-- the primitive byte -/
def k25 : Class := { plain "byte" none with kind := .primitive 'B', accessFlags := 0x411 }
/-- [B -/
def k26 : Class := { plain "[B" (some 0) with kind := .array 25 .byte, interfaces := #[24, 2], accessFlags := 1041 }

/-- the primitive char -/
def k27 : Class := { plain "char" none with kind := .primitive 'C', accessFlags := 0x411 }
/-- [C -/
def k28 : Class := { plain "[C" (some 0) with kind := .array 27 .char, interfaces := #[24, 2], accessFlags := 1041 }

/-- the primitive int -/
def k29 : Class := { plain "int" none with kind := .primitive 'I', accessFlags := 0x411 }
/-- [I -/
def k30 : Class := { plain "[I" (some 0) with kind := .array 29 .int, interfaces := #[24, 2], accessFlags := 1041 }

def heap : Heap := #[{ cls := 7, slots := #[.long 0, .int 1, .null, .int 0, .null, .int 0, .int 0], vm := .statics 7 },
  { cls := 17, slots := #[.null, .ref 4, .null], vm := .statics 17 },
  { cls := 19, slots := #[.int 0, .int 0, .null, .null, .ref 8, .ref 7, .int 0, .int 0, .long 0], vm := .statics 19 },
  { cls := 21, slots := #[.null, .null, .null], vm := .statics 21 },
  { cls := 17, slots := #[.null, .int 0, .int 0, .ref 5, .null, .null], vm := .none },
  { cls := 7, slots := #[.ref 6, .int 0, .int 0, .int 0], vm := .none },
  { cls := 26, slots := #[.int 58, .int 112, .int 101, .int 114, .int 109, .int 105, .int 116, .int 58], vm := .none },
  { cls := 26, slots := #[.int 48, .int 49, .int 50, .int 51, .int 52, .int 53, .int 54, .int 55, .int 56, .int 57, .int 48, .int 49, .int 50, .int 51, .int 52, .int 53, .int 54, .int 55, .int 56, .int 57, .int 48, .int 49, .int 50, .int 51, .int 52, .int 53, .int 54, .int 55, .int 56, .int 57, .int 48, .int 49, .int 50, .int 51, .int 52, .int 53, .int 54, .int 55, .int 56, .int 57, .int 48, .int 49, .int 50, .int 51, .int 52, .int 53, .int 54, .int 55, .int 56, .int 57, .int 48, .int 49, .int 50, .int 51, .int 52, .int 53, .int 54, .int 55, .int 56, .int 57, .int 48, .int 49, .int 50, .int 51, .int 52, .int 53, .int 54, .int 55, .int 56, .int 57, .int 48, .int 49, .int 50, .int 51, .int 52, .int 53, .int 54, .int 55, .int 56, .int 57, .int 48, .int 49, .int 50, .int 51, .int 52, .int 53, .int 54, .int 55, .int 56, .int 57, .int 48, .int 49, .int 50, .int 51, .int 52, .int 53, .int 54, .int 55, .int 56, .int 57], vm := .none },
  { cls := 26, slots := #[.int 48, .int 48, .int 48, .int 48, .int 48, .int 48, .int 48, .int 48, .int 48, .int 48, .int 49, .int 49, .int 49, .int 49, .int 49, .int 49, .int 49, .int 49, .int 49, .int 49, .int 50, .int 50, .int 50, .int 50, .int 50, .int 50, .int 50, .int 50, .int 50, .int 50, .int 51, .int 51, .int 51, .int 51, .int 51, .int 51, .int 51, .int 51, .int 51, .int 51, .int 52, .int 52, .int 52, .int 52, .int 52, .int 52, .int 52, .int 52, .int 52, .int 52, .int 53, .int 53, .int 53, .int 53, .int 53, .int 53, .int 53, .int 53, .int 53, .int 53, .int 54, .int 54, .int 54, .int 54, .int 54, .int 54, .int 54, .int 54, .int 54, .int 54, .int 55, .int 55, .int 55, .int 55, .int 55, .int 55, .int 55, .int 55, .int 55, .int 55, .int 56, .int 56, .int 56, .int 56, .int 56, .int 56, .int 56, .int 56, .int 56, .int 56, .int 57, .int 57, .int 57, .int 57, .int 57, .int 57, .int 57, .int 57, .int 57, .int 57], vm := .none }]
def classes : Array Class := #[k0, k1, k2, k3, k4, k5, k6, k7, k8, k9, k10, k11, k12, k13, k14, k15, k16, k17, k18, k19, k20, k21, k22, k23, k24, k25, k26, k27, k28, k29, k30]
def interned : List (Array UInt16 × Addr) := []
def slotsUsed : Nat := 240
def theMethod : MethodId := ⟨1, 7⟩
def args0 : Array Value := #[.int 16777281, .int 16777282, .int 5]
def aboutOver (below : List Frame) : State where
  vm := { classes := classes, interned := interned.toArray }
  heap := heap
  slotsUsed := slotsUsed
  threads := #[{ frames := .invoking theMethod args0 :: below }]
def below0 : List Frame := [.native { method := ⟨0, 0⟩, args := #[] }]
def about1 : State := aboutOver below0
def p0 : Program := .bare "" "" ""
def e0 : Env := launch0.env 0 0 0
theorem w_frames : about1.frames = Frame.invoking theMethod args0 :: below0 := rfl
set_option maxRecDepth 65536 in
theorem w_args : argsFit about1.vm theMethod args0 = true := by decide +kernel
set_option maxRecDepth 65536 in
theorem w_heap : heapFits about1 = true := by decide +kernel
set_option maxRecDepth 65536 in
theorem w_runnable : about1.curStatus? = some .runnable := by decide +kernel
set_option maxRecDepth 65536 in
theorem w_alone : about1.alone = true := by decide +kernel
set_option maxRecDepth 65536 in
theorem w_named : about1.methodNamed? x = some theMethod := by decide +kernel
set_option maxRecDepth 65536 in
theorem w_hears : about1.hears theMethod below0 = true := by decide +kernel
set_option maxRecDepth 65536 in
theorem w_ripe : about1.ripe theMethod args0 below0 = true := by decide +kernel
theorem w_running : about1.status = .running := rfl
set_option maxRecDepth 65536 in
theorem w_room : about1.hasRoom e0.platform room_1 = true :=
  launch0.hasRoom_least _ room_1 (by decide +kernel) (by decide +kernel) (by decide +kernel) (by decide +kernel) (by decide +kernel) (by decide +kernel)
theorem allAtoms_all (ts : List Jvm.Cond) (a : Array Jvm.Value) (st : Jvm.State) : (allAtoms ts).before a st = ts.all (fun c => c.before a st) := by
  induction ts with
  | nil => rfl
  | cons c t ih =>
    show (Jvm.Cond.and c (allAtoms t)).before a st = _
    rw [Jvm.Cond.before_and, ih, List.all_cons]
def words1 : List Jvm.Cond := Jvm.Cond.code x code maxLocals ret :: tables_1
/-- a 'code' word, met by the world's own term for the bytes: nothing is compared byte by byte -/
theorem code_word {y : MethodName} {bytes : ByteArray} {mx : Nat} {rt : Option FieldType} {a : Array Value} {s : State} {m : MethodId} {meth : Method} {c : Code} (h1 : s.methodNamed? y = some m) (h2 : s.vm.method? m = some meth) (h3 : meth.code = some c) (h4 : c.code = bytes)
    (h5 : (c.maxLocals == mx && c.exceptionTable.isEmpty && decide (c.maxStack ≤ mostOperands) && decide (meth.sig.returnType = rt) && !meth.locks && decide (parseMethodDescriptor y.desc = some meth.sig)) = true) : (Jvm.Cond.code y bytes mx rt).before a s = true := by
  simp only [Bool.and_eq_true, beq_iff_eq, Bool.not_eq_true', decide_eq_true_eq] at h5
  obtain ⟨⟨⟨⟨⟨g1, g2⟩, g3⟩, g4⟩, g5⟩, g6⟩ := h5
  simp [Cond.before, Cond.holds, Cond.value, h1, h2, h3, h4, g1, g2, g3, g4, g5, g6]
def isCode : Jvm.Cond → Bool
  | .code _ _ _ _ => true
  | _ => false
theorem all_split {L : List Jvm.Cond} {P : Jvm.Cond → Bool} (h1 : L.all (fun c => isCode c || P c) = true) (h2 : ∀ c ∈ L.filter isCode, P c = true) : L.all P = true := by
  refine List.all_eq_true.mpr fun c hc => ?_
  have h := List.all_eq_true.mp h1 c hc
  rcases Bool.eq_false_or_eq_true (isCode c) with hi | hi
  · exact h2 c (List.mem_filter.mpr ⟨hc, hi⟩)
  · simpa [hi] using h
set_option maxRecDepth 65536 in
theorem w_c0 : (Jvm.Cond.code x code maxLocals ret).before args0 about1 = true := code_word (m := ⟨1, 7⟩) (meth := k1m7) (c := k1c7) (by decide +kernel) rfl rfl rfl (by decide +kernel)
set_option maxRecDepth 65536 in
theorem w_c1 : (Jvm.Cond.code ({ cls := "com/example/limentinus/limentinus/core/KeyLayoutPermitKeyPinLaw", name := "mk", desc := "(I)Ljava/lang/String;" } : Jvm.MethodName) method_3_code (2 : Nat) (Option.some (Jvm.ClassFile.FieldType.object "java/lang/String"))).before args0 about1 = true := code_word (m := ⟨1, 2⟩) (meth := k1m2) (c := k1c2) (by decide +kernel) rfl rfl rfl (by decide +kernel)
set_option maxRecDepth 65536 in
theorem w_c2 : (Jvm.Cond.code ({ cls := "java/lang/String", name := "<init>", desc := "([C)V" } : Jvm.MethodName) jdk_42_method_3_code (2 : Nat) (Option.none : Option Jvm.ClassFile.FieldType)).before args0 about1 = true := code_word (m := ⟨7, 1⟩) (meth := k7m1) (c := k7c1) (by decide +kernel) rfl rfl rfl (by decide +kernel)
set_option maxRecDepth 65536 in
theorem w_c3 : (Jvm.Cond.code ({ cls := "java/lang/String", name := "<init>", desc := "([CIILjava/lang/Void;)V" } : Jvm.MethodName) jdk_42_method_149_code (6 : Nat) (Option.none : Option Jvm.ClassFile.FieldType)).before args0 about1 = true := code_word (m := ⟨7, 6⟩) (meth := k7m6) (c := k7c6) (by decide +kernel) rfl rfl rfl (by decide +kernel)
set_option maxRecDepth 65536 in
theorem w_c4 : (Jvm.Cond.code ({ cls := "java/lang/Object", name := "<init>", desc := "()V" } : Jvm.MethodName) object_method_1_code (1 : Nat) (Option.none : Option Jvm.ClassFile.FieldType)).before args0 about1 = true := code_word (m := ⟨0, 0⟩) (meth := k0m0) (c := k0c0) (by decide +kernel) rfl rfl rfl (by decide +kernel)
set_option maxRecDepth 65536 in
theorem w_c5 : (Jvm.Cond.code ({ cls := "com/example/limentinus/limentinus/core/KeyLayout", name := "<init>", desc := "(Ljava/lang/String;)V" } : Jvm.MethodName) prog_19_method_1_code (2 : Nat) (Option.none : Option Jvm.ClassFile.FieldType)).before args0 about1 = true := code_word (m := ⟨8, 0⟩) (meth := k8m0) (c := k8c0) (by decide +kernel) rfl rfl rfl (by decide +kernel)
set_option maxRecDepth 65536 in
theorem w_c6 : (Jvm.Cond.code ({ cls := "java/util/Objects", name := "requireNonNull", desc := "(Ljava/lang/Object;Ljava/lang/String;)Ljava/lang/Object;" } : Jvm.MethodName) jdk_31_method_11_code (2 : Nat) (Option.some (Jvm.ClassFile.FieldType.object "java/lang/Object"))).before args0 about1 = true := code_word (m := ⟨9, 1⟩) (meth := k9m1) (c := k9c1) (by decide +kernel) rfl rfl rfl (by decide +kernel)
set_option maxRecDepth 65536 in
theorem w_c7 : (Jvm.Cond.code ({ cls := "com/example/limentinus/limentinus/core/KeyLayout", name := "permitKey", desc := "(Ljava/lang/String;I)Ljava/lang/String;" } : Jvm.MethodName) prog_19_method_4_code (3 : Nat) (Option.some (Jvm.ClassFile.FieldType.object "java/lang/String"))).before args0 about1 = true := code_word (m := ⟨8, 2⟩) (meth := k8m2) (c := k8c2) (by decide +kernel) rfl rfl rfl (by decide +kernel)
set_option maxRecDepth 65536 in
theorem w_c8 : (Jvm.Cond.code ({ cls := "java/lang/StringBuilder", name := "<init>", desc := "()V" } : Jvm.MethodName) jdk_67_method_1_code (1 : Nat) (Option.none : Option Jvm.ClassFile.FieldType)).before args0 about1 = true := code_word (m := ⟨12, 0⟩) (meth := k12m0) (c := k12c0) (by decide +kernel) rfl rfl rfl (by decide +kernel)
set_option maxRecDepth 65536 in
theorem w_c9 : (Jvm.Cond.code ({ cls := "java/lang/AbstractStringBuilder", name := "<init>", desc := "(I)V" } : Jvm.MethodName) jdk_68_method_2_code (2 : Nat) (Option.none : Option Jvm.ClassFile.FieldType)).before args0 about1 = true := code_word (m := ⟨11, 1⟩) (meth := k11m1) (c := k11c1) (by decide +kernel) rfl rfl rfl (by decide +kernel)
set_option maxRecDepth 65536 in
theorem w_c10 : (Jvm.Cond.code ({ cls := "com/example/limentinus/limentinus/core/KeyLayout", name := "key", desc := "(Ljava/lang/String;)Ljava/lang/String;" } : Jvm.MethodName) prog_19_method_2_code (2 : Nat) (Option.some (Jvm.ClassFile.FieldType.object "java/lang/String"))).before args0 about1 = true := code_word (m := ⟨8, 1⟩) (meth := k8m1) (c := k8c1) (by decide +kernel) rfl rfl rfl (by decide +kernel)
set_option maxRecDepth 65536 in
theorem w_c11 : (Jvm.Cond.code ({ cls := "java/lang/StringBuilder", name := "append", desc := "(Ljava/lang/String;)Ljava/lang/StringBuilder;" } : Jvm.MethodName) jdk_67_method_7_code (2 : Nat) (Option.some (Jvm.ClassFile.FieldType.object "java/lang/StringBuilder"))).before args0 about1 = true := code_word (m := ⟨12, 1⟩) (meth := k12m1) (c := k12c1) (by decide +kernel) rfl rfl rfl (by decide +kernel)
set_option maxRecDepth 65536 in
theorem w_c12 : (Jvm.Cond.code ({ cls := "java/lang/AbstractStringBuilder", name := "append", desc := "(Ljava/lang/String;)Ljava/lang/AbstractStringBuilder;" } : Jvm.MethodName) jdk_68_method_22_code (3 : Nat) (Option.some (Jvm.ClassFile.FieldType.object "java/lang/AbstractStringBuilder"))).before args0 about1 = true := code_word (m := ⟨11, 5⟩) (meth := k11m5) (c := k11c5) (by decide +kernel) rfl rfl rfl (by decide +kernel)
set_option maxRecDepth 65536 in
theorem w_c13 : (Jvm.Cond.code ({ cls := "java/lang/String", name := "length", desc := "()I" } : Jvm.MethodName) jdk_42_method_54_code (1 : Nat) (Option.some Jvm.ClassFile.FieldType.int)).before args0 about1 = true := code_word (m := ⟨7, 3⟩) (meth := k7m3) (c := k7c3) (by decide +kernel) rfl rfl rfl (by decide +kernel)
set_option maxRecDepth 65536 in
theorem w_c14 : (Jvm.Cond.code ({ cls := "java/lang/String", name := "coder", desc := "()B" } : Jvm.MethodName) jdk_42_method_152_code (1 : Nat) (Option.some Jvm.ClassFile.FieldType.byte)).before args0 about1 = true := code_word (m := ⟨7, 8⟩) (meth := k7m8) (c := k7c8) (by decide +kernel) rfl rfl rfl (by decide +kernel)
set_option maxRecDepth 65536 in
theorem w_c15 : (Jvm.Cond.code ({ cls := "java/lang/AbstractStringBuilder", name := "ensureCapacityInternal", desc := "(I)V" } : Jvm.MethodName) jdk_68_method_9_code (3 : Nat) (Option.none : Option Jvm.ClassFile.FieldType)).before args0 about1 = true := code_word (m := ⟨11, 3⟩) (meth := k11m3) (c := k11c3) (by decide +kernel) rfl rfl rfl (by decide +kernel)
set_option maxRecDepth 65536 in
theorem w_c16 : (Jvm.Cond.code ({ cls := "java/lang/AbstractStringBuilder", name := "putStringAt", desc := "(ILjava/lang/String;)V" } : Jvm.MethodName) jdk_68_method_73_code (3 : Nat) (Option.none : Option Jvm.ClassFile.FieldType)).before args0 about1 = true := code_word (m := ⟨11, 10⟩) (meth := k11m10) (c := k11c10) (by decide +kernel) rfl rfl rfl (by decide +kernel)
set_option maxRecDepth 65536 in
theorem w_c17 : (Jvm.Cond.code ({ cls := "java/lang/AbstractStringBuilder", name := "inflateIfNeededFor", desc := "(Ljava/lang/String;)V" } : Jvm.MethodName) jdk_68_method_71_code (2 : Nat) (Option.none : Option Jvm.ClassFile.FieldType)).before args0 about1 = true := code_word (m := ⟨11, 9⟩) (meth := k11m9) (c := k11c9) (by decide +kernel) rfl rfl rfl (by decide +kernel)
set_option maxRecDepth 65536 in
theorem w_c18 : (Jvm.Cond.code ({ cls := "java/lang/String", name := "getBytes", desc := "([BIB)V" } : Jvm.MethodName) jdk_42_method_147_code (4 : Nat) (Option.none : Option Jvm.ClassFile.FieldType)).before args0 about1 = true := code_word (m := ⟨7, 5⟩) (meth := k7m5) (c := k7c5) (by decide +kernel) rfl rfl rfl (by decide +kernel)
set_option maxRecDepth 65536 in
theorem w_c19 : (Jvm.Cond.code ({ cls := "java/lang/StringBuilder", name := "toString", desc := "()Ljava/lang/String;" } : Jvm.MethodName) jdk_67_method_42_code (1 : Nat) (Option.some (Jvm.ClassFile.FieldType.object "java/lang/String"))).before args0 about1 = true := code_word (m := ⟨12, 3⟩) (meth := k12m3) (c := k12c3) (by decide +kernel) rfl rfl rfl (by decide +kernel)
set_option maxRecDepth 65536 in
theorem w_c20 : (Jvm.Cond.code ({ cls := "java/lang/String", name := "<init>", desc := "(Ljava/lang/StringBuilder;)V" } : Jvm.MethodName) jdk_42_method_53_code (2 : Nat) (Option.none : Option Jvm.ClassFile.FieldType)).before args0 about1 = true := code_word (m := ⟨7, 2⟩) (meth := k7m2) (c := k7c2) (by decide +kernel) rfl rfl rfl (by decide +kernel)
set_option maxRecDepth 65536 in
theorem w_c21 : (Jvm.Cond.code ({ cls := "java/lang/String", name := "<init>", desc := "(Ljava/lang/AbstractStringBuilder;Ljava/lang/Void;)V" } : Jvm.MethodName) jdk_42_method_150_code (5 : Nat) (Option.none : Option Jvm.ClassFile.FieldType)).before args0 about1 = true := code_word (m := ⟨7, 7⟩) (meth := k7m7) (c := k7c7) (by decide +kernel) rfl rfl rfl (by decide +kernel)
set_option maxRecDepth 65536 in
theorem w_c22 : (Jvm.Cond.code ({ cls := "java/lang/AbstractStringBuilder", name := "getValue", desc := "()[B" } : Jvm.MethodName) jdk_68_method_64_code (1 : Nat) (Option.some (Jvm.ClassFile.FieldType.array Jvm.ClassFile.FieldType.byte))).before args0 about1 = true := code_word (m := ⟨11, 7⟩) (meth := k11m7) (c := k11c7) (by decide +kernel) rfl rfl rfl (by decide +kernel)
set_option maxRecDepth 65536 in
theorem w_c23 : (Jvm.Cond.code ({ cls := "java/lang/StringBuilder", name := "length", desc := "()I" } : Jvm.MethodName) jdk_67_method_93_code (1 : Nat) (Option.some Jvm.ClassFile.FieldType.int)).before args0 about1 = true := code_word (m := ⟨12, 4⟩) (meth := k12m4) (c := k12c4) (by decide +kernel) rfl rfl rfl (by decide +kernel)
set_option maxRecDepth 65536 in
theorem w_c24 : (Jvm.Cond.code ({ cls := "java/lang/AbstractStringBuilder", name := "length", desc := "()I" } : Jvm.MethodName) jdk_68_method_6_code (1 : Nat) (Option.some Jvm.ClassFile.FieldType.int)).before args0 about1 = true := code_word (m := ⟨11, 2⟩) (meth := k11m2) (c := k11c2) (by decide +kernel) rfl rfl rfl (by decide +kernel)
set_option maxRecDepth 65536 in
theorem w_c25 : (Jvm.Cond.code ({ cls := "java/lang/AbstractStringBuilder", name := "isLatin1", desc := "()Z" } : Jvm.MethodName) jdk_68_method_68_code (1 : Nat) (Option.some Jvm.ClassFile.FieldType.boolean)).before args0 about1 = true := code_word (m := ⟨11, 8⟩) (meth := k11m8) (c := k11c8) (by decide +kernel) rfl rfl rfl (by decide +kernel)
set_option maxRecDepth 65536 in
theorem w_c26 : (Jvm.Cond.code ({ cls := "java/util/Arrays", name := "copyOfRange", desc := "([BII)[B" } : Jvm.MethodName) jdk_65_method_132_code (3 : Nat) (Option.some (Jvm.ClassFile.FieldType.array Jvm.ClassFile.FieldType.byte))).before args0 about1 = true := code_word (m := ⟨14, 3⟩) (meth := k14m3) (c := k14c3) (by decide +kernel) rfl rfl rfl (by decide +kernel)
set_option maxRecDepth 65536 in
theorem w_c27 : (Jvm.Cond.code ({ cls := "java/util/Arrays", name := "copyOfRangeByte", desc := "([BII)[B" } : Jvm.MethodName) jdk_65_method_133_code (5 : Nat) (Option.some (Jvm.ClassFile.FieldType.array Jvm.ClassFile.FieldType.byte))).before args0 about1 = true := code_word (m := ⟨14, 4⟩) (meth := k14m4) (c := k14c4) (by decide +kernel) rfl rfl rfl (by decide +kernel)
set_option maxRecDepth 65536 in
theorem w_c28 : (Jvm.Cond.code ({ cls := "java/util/Arrays", name := "checkLength", desc := "(II)V" } : Jvm.MethodName) jdk_65_method_131_code (2 : Nat) (Option.none : Option Jvm.ClassFile.FieldType)).before args0 about1 = true := code_word (m := ⟨14, 2⟩) (meth := k14m2) (c := k14c2) (by decide +kernel) rfl rfl rfl (by decide +kernel)
set_option maxRecDepth 65536 in
theorem w_c29 : (Jvm.Cond.code ({ cls := "java/lang/Math", name := "min", desc := "(II)I" } : Jvm.MethodName) jdk_29_method_69_code (2 : Nat) (Option.some Jvm.ClassFile.FieldType.int)).before args0 about1 = true := code_word (m := ⟨15, 2⟩) (meth := k15m2) (c := k15c2) (by decide +kernel) rfl rfl rfl (by decide +kernel)
set_option maxRecDepth 65536 in
theorem w_c30 : (Jvm.Cond.code ({ cls := "java/lang/StringBuilder", name := "append", desc := "(I)Ljava/lang/StringBuilder;" } : Jvm.MethodName) jdk_67_method_15_code (2 : Nat) (Option.some (Jvm.ClassFile.FieldType.object "java/lang/StringBuilder"))).before args0 about1 = true := code_word (m := ⟨12, 2⟩) (meth := k12m2) (c := k12c2) (by decide +kernel) rfl rfl rfl (by decide +kernel)
set_option maxRecDepth 65536 in
theorem w_c31 : (Jvm.Cond.code ({ cls := "java/lang/AbstractStringBuilder", name := "append", desc := "(I)Ljava/lang/AbstractStringBuilder;" } : Jvm.MethodName) jdk_68_method_32_code (4 : Nat) (Option.some (Jvm.ClassFile.FieldType.object "java/lang/AbstractStringBuilder"))).before args0 about1 = true := code_word (m := ⟨11, 6⟩) (meth := k11m6) (c := k11c6) (by decide +kernel) rfl rfl rfl (by decide +kernel)
set_option maxRecDepth 65536 in
theorem w_c32 : (Jvm.Cond.code ({ cls := "java/lang/Integer", name := "stringSize", desc := "(I)I" } : Jvm.MethodName) jdk_33_method_13_code (4 : Nat) (Option.some Jvm.ClassFile.FieldType.int)).before args0 about1 = true := code_word (m := ⟨19, 1⟩) (meth := k19m1) (c := k19c1) (by decide +kernel) rfl rfl rfl (by decide +kernel)
set_option maxRecDepth 65536 in
theorem w_c33 : (Jvm.Cond.code ({ cls := "java/lang/Integer", name := "getChars", desc := "(II[B)I" } : Jvm.MethodName) jdk_33_method_12_code (7 : Nat) (Option.some Jvm.ClassFile.FieldType.int)).before args0 about1 = true := code_word (m := ⟨19, 0⟩) (meth := k19m0) (c := k19c0) (by decide +kernel) rfl rfl rfl (by decide +kernel)
set_option maxRecDepth 65536 in
theorem w_c34 : (Jvm.Cond.code ({ cls := "com/example/limentinus/limentinus/core/KeyLayoutPermitKeyPinLaw", name := "part", desc := "([CII)I" } : Jvm.MethodName) method_4_code (5 : Nat) (Option.some Jvm.ClassFile.FieldType.int)).before args0 about1 = true := code_word (m := ⟨1, 3⟩) (meth := k1m3) (c := k1c3) (by decide +kernel) rfl rfl rfl (by decide +kernel)
set_option maxRecDepth 65536 in
theorem w_c35 : (Jvm.Cond.code ({ cls := "com/example/limentinus/limentinus/core/KeyLayoutPermitKeyPinLaw", name := "put", desc := "([CIC)I" } : Jvm.MethodName) method_5_code (3 : Nat) (Option.some Jvm.ClassFile.FieldType.int)).before args0 about1 = true := code_word (m := ⟨1, 4⟩) (meth := k1m4) (c := k1c4) (by decide +kernel) rfl rfl rfl (by decide +kernel)
set_option maxRecDepth 65536 in
theorem w_c36 : (Jvm.Cond.code ({ cls := "com/example/limentinus/limentinus/core/KeyLayoutPermitKeyPinLaw", name := "dig", desc := "([CIJJII)I" } : Jvm.MethodName) method_6_code (8 : Nat) (Option.some Jvm.ClassFile.FieldType.int)).before args0 about1 = true := code_word (m := ⟨1, 5⟩) (meth := k1m5) (c := k1c5) (by decide +kernel) rfl rfl rfl (by decide +kernel)
set_option maxRecDepth 65536 in
theorem w_c37 : (Jvm.Cond.code ({ cls := "com/example/limentinus/limentinus/core/KeyLayoutPermitKeyPinLaw", name := "same", desc := "(Ljava/lang/String;[CII)Z" } : Jvm.MethodName) method_7_code (4 : Nat) (Option.some Jvm.ClassFile.FieldType.boolean)).before args0 about1 = true := code_word (m := ⟨1, 6⟩) (meth := k1m6) (c := k1c6) (by decide +kernel) rfl rfl rfl (by decide +kernel)
set_option maxRecDepth 65536 in
theorem w_c38 : (Jvm.Cond.code ({ cls := "java/lang/String", name := "charAt", desc := "(I)C" } : Jvm.MethodName) jdk_42_method_56_code (2 : Nat) (Option.some Jvm.ClassFile.FieldType.char)).before args0 about1 = true := code_word (m := ⟨7, 4⟩) (meth := k7m4) (c := k7c4) (by decide +kernel) rfl rfl rfl (by decide +kernel)
set_option maxRecDepth 65536 in
theorem w_c39 : (Jvm.Cond.code ({ cls := "java/lang/String", name := "isLatin1", desc := "()Z" } : Jvm.MethodName) jdk_42_method_154_code (1 : Nat) (Option.some Jvm.ClassFile.FieldType.boolean)).before args0 about1 = true := code_word (m := ⟨7, 9⟩) (meth := k7m9) (c := k7c9) (by decide +kernel) rfl rfl rfl (by decide +kernel)
set_option maxRecDepth 65536 in
theorem w_c40 : (Jvm.Cond.code ({ cls := "java/lang/StringLatin1", name := "charAt", desc := "([BI)C" } : Jvm.MethodName) jdk_43_method_2_code (2 : Nat) (Option.some Jvm.ClassFile.FieldType.char)).before args0 about1 = true := code_word (m := ⟨20, 1⟩) (meth := k20m1) (c := k20c1) (by decide +kernel) rfl rfl rfl (by decide +kernel)
set_option maxRecDepth 65536 in
theorem w_c41 : (Jvm.Cond.code ({ cls := "java/lang/String", name := "checkIndex", desc := "(II)V" } : Jvm.MethodName) jdk_42_method_155_code (2 : Nat) (Option.none : Option Jvm.ClassFile.FieldType)).before args0 about1 = true := code_word (m := ⟨7, 10⟩) (meth := k7m10) (c := k7c10) (by decide +kernel) rfl rfl rfl (by decide +kernel)
set_option maxRecDepth 65536 in
theorem w_c42 : (Jvm.Cond.code ({ cls := "jdk/internal/util/Preconditions", name := "checkIndex", desc := "(IILjava/util/function/BiFunction;)I" } : Jvm.MethodName) jdk_41_method_11_code (3 : Nat) (Option.some Jvm.ClassFile.FieldType.int)).before args0 about1 = true := code_word (m := ⟨21, 1⟩) (meth := k21m1) (c := k21c1) (by decide +kernel) rfl rfl rfl (by decide +kernel)
set_option maxRecDepth 65536 in
theorem w_c43 : (Jvm.Cond.code ({ cls := "com/example/limentinus/limentinus/core/KeyLayoutPermitKeyPinLaw", name := "ch", desc := "(II)C" } : Jvm.MethodName) method_2_code (2 : Nat) (Option.some Jvm.ClassFile.FieldType.char)).before args0 about1 = true := code_word (m := ⟨1, 1⟩) (meth := k1m1) (c := k1c1) (by decide +kernel) rfl rfl rfl (by decide +kernel)
set_option maxRecDepth 65536 in
theorem w_c44 : (Jvm.Cond.code ({ cls := "java/lang/StringUTF16", name := "compress", desc := "([CII)[B" } : Jvm.MethodName) jdk_52_method_16_code (6 : Nat) (Option.some (Jvm.ClassFile.FieldType.array Jvm.ClassFile.FieldType.byte))).before args0 about1 = true := code_word (m := ⟨22, 2⟩) (meth := k22m2) (c := k22c2) (by decide +kernel) rfl rfl rfl (by decide +kernel)
set_option maxRecDepth 65536 in
theorem w_c45 : (Jvm.Cond.code ({ cls := "java/lang/StringUTF16", name := "compress", desc := "([CI[BII)I" } : Jvm.MethodName) jdk_52_method_21_code (7 : Nat) (Option.some Jvm.ClassFile.FieldType.int)).before args0 about1 = true := code_word (m := ⟨22, 3⟩) (meth := k22m3) (c := k22c3) (by decide +kernel) rfl rfl rfl (by decide +kernel)
set_option maxRecDepth 65536 in
theorem w_c46 : (Jvm.Cond.code ({ cls := "java/lang/StringUTF16", name := "coderFromArrayLen", desc := "([BI)B" } : Jvm.MethodName) jdk_52_method_15_code (2 : Nat) (Option.some Jvm.ClassFile.FieldType.byte)).before args0 about1 = true := code_word (m := ⟨22, 1⟩) (meth := k22m1) (c := k22c1) (by decide +kernel) rfl rfl rfl (by decide +kernel)
set_option maxRecDepth 65536 in
theorem w_c47 : (Jvm.Cond.code ({ cls := "java/lang/AbstractStringBuilder", name := "newCapacity", desc := "(I)I" } : Jvm.MethodName) jdk_68_method_10_code (6 : Nat) (Option.some Jvm.ClassFile.FieldType.int)).before args0 about1 = true := code_word (m := ⟨11, 4⟩) (meth := k11m4) (c := k11c4) (by decide +kernel) rfl rfl rfl (by decide +kernel)
set_option maxRecDepth 65536 in
theorem w_c48 : (Jvm.Cond.code ({ cls := "jdk/internal/util/ArraysSupport", name := "newLength", desc := "(III)I" } : Jvm.MethodName) jdk_48_method_27_code (4 : Nat) (Option.some Jvm.ClassFile.FieldType.int)).before args0 about1 = true := code_word (m := ⟨23, 1⟩) (meth := k23m1) (c := k23c1) (by decide +kernel) rfl rfl rfl (by decide +kernel)
set_option maxRecDepth 65536 in
theorem w_c49 : (Jvm.Cond.code ({ cls := "java/lang/Math", name := "max", desc := "(II)I" } : Jvm.MethodName) jdk_29_method_65_code (2 : Nat) (Option.some Jvm.ClassFile.FieldType.int)).before args0 about1 = true := code_word (m := ⟨15, 1⟩) (meth := k15m1) (c := k15c1) (by decide +kernel) rfl rfl rfl (by decide +kernel)
set_option maxRecDepth 65536 in
theorem w_c50 : (Jvm.Cond.code ({ cls := "java/util/Arrays", name := "copyOf", desc := "([BI)[B" } : Jvm.MethodName) jdk_65_method_121_code (3 : Nat) (Option.some (Jvm.ClassFile.FieldType.array Jvm.ClassFile.FieldType.byte))).before args0 about1 = true := code_word (m := ⟨14, 1⟩) (meth := k14m1) (c := k14c1) (by decide +kernel) rfl rfl rfl (by decide +kernel)
def codes1 : List Jvm.Cond := [Jvm.Cond.code x code maxLocals ret, Jvm.Cond.code ({ cls := "com/example/limentinus/limentinus/core/KeyLayoutPermitKeyPinLaw", name := "mk", desc := "(I)Ljava/lang/String;" } : Jvm.MethodName) method_3_code (2 : Nat) (Option.some (Jvm.ClassFile.FieldType.object "java/lang/String")), Jvm.Cond.code ({ cls := "java/lang/String", name := "<init>", desc := "([C)V" } : Jvm.MethodName) jdk_42_method_3_code (2 : Nat) (Option.none : Option Jvm.ClassFile.FieldType), Jvm.Cond.code ({ cls := "java/lang/String", name := "<init>", desc := "([CIILjava/lang/Void;)V" } : Jvm.MethodName) jdk_42_method_149_code (6 : Nat) (Option.none : Option Jvm.ClassFile.FieldType), Jvm.Cond.code ({ cls := "java/lang/Object", name := "<init>", desc := "()V" } : Jvm.MethodName) object_method_1_code (1 : Nat) (Option.none : Option Jvm.ClassFile.FieldType), Jvm.Cond.code ({ cls := "com/example/limentinus/limentinus/core/KeyLayout", name := "<init>", desc := "(Ljava/lang/String;)V" } : Jvm.MethodName) prog_19_method_1_code (2 : Nat) (Option.none : Option Jvm.ClassFile.FieldType), Jvm.Cond.code ({ cls := "java/util/Objects", name := "requireNonNull", desc := "(Ljava/lang/Object;Ljava/lang/String;)Ljava/lang/Object;" } : Jvm.MethodName) jdk_31_method_11_code (2 : Nat) (Option.some (Jvm.ClassFile.FieldType.object "java/lang/Object")), Jvm.Cond.code ({ cls := "com/example/limentinus/limentinus/core/KeyLayout", name := "permitKey", desc := "(Ljava/lang/String;I)Ljava/lang/String;" } : Jvm.MethodName) prog_19_method_4_code (3 : Nat) (Option.some (Jvm.ClassFile.FieldType.object "java/lang/String")), Jvm.Cond.code ({ cls := "java/lang/StringBuilder", name := "<init>", desc := "()V" } : Jvm.MethodName) jdk_67_method_1_code (1 : Nat) (Option.none : Option Jvm.ClassFile.FieldType), Jvm.Cond.code ({ cls := "java/lang/AbstractStringBuilder", name := "<init>", desc := "(I)V" } : Jvm.MethodName) jdk_68_method_2_code (2 : Nat) (Option.none : Option Jvm.ClassFile.FieldType), Jvm.Cond.code ({ cls := "com/example/limentinus/limentinus/core/KeyLayout", name := "key", desc := "(Ljava/lang/String;)Ljava/lang/String;" } : Jvm.MethodName) prog_19_method_2_code (2 : Nat) (Option.some (Jvm.ClassFile.FieldType.object "java/lang/String")), Jvm.Cond.code ({ cls := "java/lang/StringBuilder", name := "append", desc := "(Ljava/lang/String;)Ljava/lang/StringBuilder;" } : Jvm.MethodName) jdk_67_method_7_code (2 : Nat) (Option.some (Jvm.ClassFile.FieldType.object "java/lang/StringBuilder")), Jvm.Cond.code ({ cls := "java/lang/AbstractStringBuilder", name := "append", desc := "(Ljava/lang/String;)Ljava/lang/AbstractStringBuilder;" } : Jvm.MethodName) jdk_68_method_22_code (3 : Nat) (Option.some (Jvm.ClassFile.FieldType.object "java/lang/AbstractStringBuilder")), Jvm.Cond.code ({ cls := "java/lang/String", name := "length", desc := "()I" } : Jvm.MethodName) jdk_42_method_54_code (1 : Nat) (Option.some Jvm.ClassFile.FieldType.int), Jvm.Cond.code ({ cls := "java/lang/String", name := "coder", desc := "()B" } : Jvm.MethodName) jdk_42_method_152_code (1 : Nat) (Option.some Jvm.ClassFile.FieldType.byte), Jvm.Cond.code ({ cls := "java/lang/AbstractStringBuilder", name := "ensureCapacityInternal", desc := "(I)V" } : Jvm.MethodName) jdk_68_method_9_code (3 : Nat) (Option.none : Option Jvm.ClassFile.FieldType), Jvm.Cond.code ({ cls := "java/lang/AbstractStringBuilder", name := "putStringAt", desc := "(ILjava/lang/String;)V" } : Jvm.MethodName) jdk_68_method_73_code (3 : Nat) (Option.none : Option Jvm.ClassFile.FieldType), Jvm.Cond.code ({ cls := "java/lang/AbstractStringBuilder", name := "inflateIfNeededFor", desc := "(Ljava/lang/String;)V" } : Jvm.MethodName) jdk_68_method_71_code (2 : Nat) (Option.none : Option Jvm.ClassFile.FieldType), Jvm.Cond.code ({ cls := "java/lang/String", name := "getBytes", desc := "([BIB)V" } : Jvm.MethodName) jdk_42_method_147_code (4 : Nat) (Option.none : Option Jvm.ClassFile.FieldType), Jvm.Cond.code ({ cls := "java/lang/StringBuilder", name := "toString", desc := "()Ljava/lang/String;" } : Jvm.MethodName) jdk_67_method_42_code (1 : Nat) (Option.some (Jvm.ClassFile.FieldType.object "java/lang/String")), Jvm.Cond.code ({ cls := "java/lang/String", name := "<init>", desc := "(Ljava/lang/StringBuilder;)V" } : Jvm.MethodName) jdk_42_method_53_code (2 : Nat) (Option.none : Option Jvm.ClassFile.FieldType), Jvm.Cond.code ({ cls := "java/lang/String", name := "<init>", desc := "(Ljava/lang/AbstractStringBuilder;Ljava/lang/Void;)V" } : Jvm.MethodName) jdk_42_method_150_code (5 : Nat) (Option.none : Option Jvm.ClassFile.FieldType), Jvm.Cond.code ({ cls := "java/lang/AbstractStringBuilder", name := "getValue", desc := "()[B" } : Jvm.MethodName) jdk_68_method_64_code (1 : Nat) (Option.some (Jvm.ClassFile.FieldType.array Jvm.ClassFile.FieldType.byte)), Jvm.Cond.code ({ cls := "java/lang/StringBuilder", name := "length", desc := "()I" } : Jvm.MethodName) jdk_67_method_93_code (1 : Nat) (Option.some Jvm.ClassFile.FieldType.int), Jvm.Cond.code ({ cls := "java/lang/AbstractStringBuilder", name := "length", desc := "()I" } : Jvm.MethodName) jdk_68_method_6_code (1 : Nat) (Option.some Jvm.ClassFile.FieldType.int), Jvm.Cond.code ({ cls := "java/lang/AbstractStringBuilder", name := "isLatin1", desc := "()Z" } : Jvm.MethodName) jdk_68_method_68_code (1 : Nat) (Option.some Jvm.ClassFile.FieldType.boolean), Jvm.Cond.code ({ cls := "java/util/Arrays", name := "copyOfRange", desc := "([BII)[B" } : Jvm.MethodName) jdk_65_method_132_code (3 : Nat) (Option.some (Jvm.ClassFile.FieldType.array Jvm.ClassFile.FieldType.byte)), Jvm.Cond.code ({ cls := "java/util/Arrays", name := "copyOfRangeByte", desc := "([BII)[B" } : Jvm.MethodName) jdk_65_method_133_code (5 : Nat) (Option.some (Jvm.ClassFile.FieldType.array Jvm.ClassFile.FieldType.byte)), Jvm.Cond.code ({ cls := "java/util/Arrays", name := "checkLength", desc := "(II)V" } : Jvm.MethodName) jdk_65_method_131_code (2 : Nat) (Option.none : Option Jvm.ClassFile.FieldType), Jvm.Cond.code ({ cls := "java/lang/Math", name := "min", desc := "(II)I" } : Jvm.MethodName) jdk_29_method_69_code (2 : Nat) (Option.some Jvm.ClassFile.FieldType.int), Jvm.Cond.code ({ cls := "java/lang/StringBuilder", name := "append", desc := "(I)Ljava/lang/StringBuilder;" } : Jvm.MethodName) jdk_67_method_15_code (2 : Nat) (Option.some (Jvm.ClassFile.FieldType.object "java/lang/StringBuilder")), Jvm.Cond.code ({ cls := "java/lang/AbstractStringBuilder", name := "append", desc := "(I)Ljava/lang/AbstractStringBuilder;" } : Jvm.MethodName) jdk_68_method_32_code (4 : Nat) (Option.some (Jvm.ClassFile.FieldType.object "java/lang/AbstractStringBuilder")), Jvm.Cond.code ({ cls := "java/lang/Integer", name := "stringSize", desc := "(I)I" } : Jvm.MethodName) jdk_33_method_13_code (4 : Nat) (Option.some Jvm.ClassFile.FieldType.int), Jvm.Cond.code ({ cls := "java/lang/Integer", name := "getChars", desc := "(II[B)I" } : Jvm.MethodName) jdk_33_method_12_code (7 : Nat) (Option.some Jvm.ClassFile.FieldType.int), Jvm.Cond.code ({ cls := "com/example/limentinus/limentinus/core/KeyLayoutPermitKeyPinLaw", name := "part", desc := "([CII)I" } : Jvm.MethodName) method_4_code (5 : Nat) (Option.some Jvm.ClassFile.FieldType.int), Jvm.Cond.code ({ cls := "com/example/limentinus/limentinus/core/KeyLayoutPermitKeyPinLaw", name := "put", desc := "([CIC)I" } : Jvm.MethodName) method_5_code (3 : Nat) (Option.some Jvm.ClassFile.FieldType.int), Jvm.Cond.code ({ cls := "com/example/limentinus/limentinus/core/KeyLayoutPermitKeyPinLaw", name := "dig", desc := "([CIJJII)I" } : Jvm.MethodName) method_6_code (8 : Nat) (Option.some Jvm.ClassFile.FieldType.int), Jvm.Cond.code ({ cls := "com/example/limentinus/limentinus/core/KeyLayoutPermitKeyPinLaw", name := "same", desc := "(Ljava/lang/String;[CII)Z" } : Jvm.MethodName) method_7_code (4 : Nat) (Option.some Jvm.ClassFile.FieldType.boolean), Jvm.Cond.code ({ cls := "java/lang/String", name := "charAt", desc := "(I)C" } : Jvm.MethodName) jdk_42_method_56_code (2 : Nat) (Option.some Jvm.ClassFile.FieldType.char), Jvm.Cond.code ({ cls := "java/lang/String", name := "isLatin1", desc := "()Z" } : Jvm.MethodName) jdk_42_method_154_code (1 : Nat) (Option.some Jvm.ClassFile.FieldType.boolean), Jvm.Cond.code ({ cls := "java/lang/StringLatin1", name := "charAt", desc := "([BI)C" } : Jvm.MethodName) jdk_43_method_2_code (2 : Nat) (Option.some Jvm.ClassFile.FieldType.char), Jvm.Cond.code ({ cls := "java/lang/String", name := "checkIndex", desc := "(II)V" } : Jvm.MethodName) jdk_42_method_155_code (2 : Nat) (Option.none : Option Jvm.ClassFile.FieldType), Jvm.Cond.code ({ cls := "jdk/internal/util/Preconditions", name := "checkIndex", desc := "(IILjava/util/function/BiFunction;)I" } : Jvm.MethodName) jdk_41_method_11_code (3 : Nat) (Option.some Jvm.ClassFile.FieldType.int), Jvm.Cond.code ({ cls := "com/example/limentinus/limentinus/core/KeyLayoutPermitKeyPinLaw", name := "ch", desc := "(II)C" } : Jvm.MethodName) method_2_code (2 : Nat) (Option.some Jvm.ClassFile.FieldType.char), Jvm.Cond.code ({ cls := "java/lang/StringUTF16", name := "compress", desc := "([CII)[B" } : Jvm.MethodName) jdk_52_method_16_code (6 : Nat) (Option.some (Jvm.ClassFile.FieldType.array Jvm.ClassFile.FieldType.byte)), Jvm.Cond.code ({ cls := "java/lang/StringUTF16", name := "compress", desc := "([CI[BII)I" } : Jvm.MethodName) jdk_52_method_21_code (7 : Nat) (Option.some Jvm.ClassFile.FieldType.int), Jvm.Cond.code ({ cls := "java/lang/StringUTF16", name := "coderFromArrayLen", desc := "([BI)B" } : Jvm.MethodName) jdk_52_method_15_code (2 : Nat) (Option.some Jvm.ClassFile.FieldType.byte), Jvm.Cond.code ({ cls := "java/lang/AbstractStringBuilder", name := "newCapacity", desc := "(I)I" } : Jvm.MethodName) jdk_68_method_10_code (6 : Nat) (Option.some Jvm.ClassFile.FieldType.int), Jvm.Cond.code ({ cls := "jdk/internal/util/ArraysSupport", name := "newLength", desc := "(III)I" } : Jvm.MethodName) jdk_48_method_27_code (4 : Nat) (Option.some Jvm.ClassFile.FieldType.int), Jvm.Cond.code ({ cls := "java/lang/Math", name := "max", desc := "(II)I" } : Jvm.MethodName) jdk_29_method_65_code (2 : Nat) (Option.some Jvm.ClassFile.FieldType.int), Jvm.Cond.code ({ cls := "java/util/Arrays", name := "copyOf", desc := "([BI)[B" } : Jvm.MethodName) jdk_65_method_121_code (3 : Nat) (Option.some (Jvm.ClassFile.FieldType.array Jvm.ClassFile.FieldType.byte))]
set_option maxRecDepth 65536 in
theorem codes_eq : words1.filter isCode = codes1 := rfl
theorem w_codes : ∀ c ∈ words1.filter isCode, c.before args0 about1 = true := by
  rw [codes_eq]
  intro c hc
  simp only [codes1, List.mem_cons, List.not_mem_nil, or_false] at hc
  rcases hc with rfl | rfl | rfl | rfl | rfl | rfl | rfl | rfl | rfl | rfl | rfl | rfl | rfl | rfl | rfl | rfl | rfl | rfl | rfl | rfl | rfl | rfl | rfl | rfl | rfl | rfl | rfl | rfl | rfl | rfl | rfl | rfl | rfl | rfl | rfl | rfl | rfl | rfl | rfl | rfl | rfl | rfl | rfl | rfl | rfl | rfl | rfl | rfl | rfl | rfl | rfl
  · exact w_c0
  · exact w_c1
  · exact w_c2
  · exact w_c3
  · exact w_c4
  · exact w_c5
  · exact w_c6
  · exact w_c7
  · exact w_c8
  · exact w_c9
  · exact w_c10
  · exact w_c11
  · exact w_c12
  · exact w_c13
  · exact w_c14
  · exact w_c15
  · exact w_c16
  · exact w_c17
  · exact w_c18
  · exact w_c19
  · exact w_c20
  · exact w_c21
  · exact w_c22
  · exact w_c23
  · exact w_c24
  · exact w_c25
  · exact w_c26
  · exact w_c27
  · exact w_c28
  · exact w_c29
  · exact w_c30
  · exact w_c31
  · exact w_c32
  · exact w_c33
  · exact w_c34
  · exact w_c35
  · exact w_c36
  · exact w_c37
  · exact w_c38
  · exact w_c39
  · exact w_c40
  · exact w_c41
  · exact w_c42
  · exact w_c43
  · exact w_c44
  · exact w_c45
  · exact w_c46
  · exact w_c47
  · exact w_c48
  · exact w_c49
  · exact w_c50
set_option maxRecDepth 65536 in
theorem w_t1 : (words1.take 24).all (fun c => isCode c || c.before args0 about1) = true := by decide +kernel
set_option maxRecDepth 65536 in
theorem w_t2 : ((words1.drop 24).take 24).all (fun c => isCode c || c.before args0 about1) = true := by decide +kernel
set_option maxRecDepth 65536 in
theorem w_t3 : (((words1.drop 24).drop 24).take 24).all (fun c => isCode c || c.before args0 about1) = true := by decide +kernel
set_option maxRecDepth 65536 in
theorem w_t4 : ((((words1.drop 24).drop 24).drop 24).take 24).all (fun c => isCode c || c.before args0 about1) = true := by decide +kernel
set_option maxRecDepth 65536 in
theorem w_t5 : (((((words1.drop 24).drop 24).drop 24).drop 24).take 24).all (fun c => isCode c || c.before args0 about1) = true := by decide +kernel
set_option maxRecDepth 65536 in
theorem w_t6 : ((((((words1.drop 24).drop 24).drop 24).drop 24).drop 24).take 24).all (fun c => isCode c || c.before args0 about1) = true := by decide +kernel
set_option maxRecDepth 65536 in
theorem w_t7 : (((((((words1.drop 24).drop 24).drop 24).drop 24).drop 24).drop 24).take 24).all (fun c => isCode c || c.before args0 about1) = true := by decide +kernel
set_option maxRecDepth 65536 in
theorem w_t8 : ((((((((words1.drop 24).drop 24).drop 24).drop 24).drop 24).drop 24).drop 24).take 24).all (fun c => isCode c || c.before args0 about1) = true := by decide +kernel
set_option maxRecDepth 65536 in
theorem w_t9 : (((((((((words1.drop 24).drop 24).drop 24).drop 24).drop 24).drop 24).drop 24).drop 24).take 24).all (fun c => isCode c || c.before args0 about1) = true := by decide +kernel
set_option maxRecDepth 65536 in
theorem w_t10 : ((((((((((words1.drop 24).drop 24).drop 24).drop 24).drop 24).drop 24).drop 24).drop 24).drop 24).take 24).all (fun c => isCode c || c.before args0 about1) = true := by decide +kernel
set_option maxRecDepth 65536 in
theorem w_t11 : (((((((((((words1.drop 24).drop 24).drop 24).drop 24).drop 24).drop 24).drop 24).drop 24).drop 24).drop 24).take 24).all (fun c => isCode c || c.before args0 about1) = true := by decide +kernel
set_option maxRecDepth 65536 in
theorem w_t12 : (((((((((((words1.drop 24).drop 24).drop 24).drop 24).drop 24).drop 24).drop 24).drop 24).drop 24).drop 24).drop 24).all (fun c => isCode c || c.before args0 about1) = true := by decide +kernel
theorem w_tables : (allAtoms (Jvm.Cond.code x code maxLocals ret :: tables_1)).before args0 about1 = true := by
  rw [allAtoms_all]
  show words1.all (fun c => c.before args0 about1) = true
  refine all_split ?_ w_codes
  rw [← List.take_append_drop 24 words1, List.all_append, w_t1, ← List.take_append_drop 24 (words1.drop 24), List.all_append, w_t2, ← List.take_append_drop 24 ((words1.drop 24).drop 24), List.all_append, w_t3, ← List.take_append_drop 24 (((words1.drop 24).drop 24).drop 24), List.all_append, w_t4, ← List.take_append_drop 24 ((((words1.drop 24).drop 24).drop 24).drop 24), List.all_append, w_t5, ← List.take_append_drop 24 (((((words1.drop 24).drop 24).drop 24).drop 24).drop 24), List.all_append, w_t6, ← List.take_append_drop 24 ((((((words1.drop 24).drop 24).drop 24).drop 24).drop 24).drop 24), List.all_append, w_t7, ← List.take_append_drop 24 (((((((words1.drop 24).drop 24).drop 24).drop 24).drop 24).drop 24).drop 24), List.all_append, w_t8, ← List.take_append_drop 24 ((((((((words1.drop 24).drop 24).drop 24).drop 24).drop 24).drop 24).drop 24).drop 24), List.all_append, w_t9, ← List.take_append_drop 24 (((((((((words1.drop 24).drop 24).drop 24).drop 24).drop 24).drop 24).drop 24).drop 24).drop 24), List.all_append, w_t10, ← List.take_append_drop 24 ((((((((((words1.drop 24).drop 24).drop 24).drop 24).drop 24).drop 24).drop 24).drop 24).drop 24).drop 24), List.all_append, w_t11, w_t12]
  rfl
set_option maxRecDepth 65536 in
theorem w_rest : rest_1_c.before args0 about1 = true := by decide +kernel
set_option maxRecDepth 65536 in
theorem w_case : (Jvm.Cond.and given_1 narrow_1).before args0 about1 = true := by decide +kernel
set_option maxRecDepth 65536 in
theorem w_consts : constsHeld consts_1 about1 := Jvm.Lit.constsHeldB_iff.mp (by decide +kernel)
theorem w_applies : (headSpec (Jvm.Cond.code x code maxLocals ret :: tables_1) room_1).applies x e0.platform about1 = true :=
  (Spec.applies_iff w_frames).mpr ⟨w_running, w_runnable, w_alone, w_named, w_hears, w_ripe, w_room, w_tables⟩
theorem atStart : AtStart classFile x code maxLocals ret World_1 tables_1 room_1 Calls_1 rest_1 Pre_1 launch0 p0 e0 about1 theMethod args0 below0 :=
  ⟨lists_1, trivial, launch0.admits_env _ _ _, launch0.least_env, fairChoices_fair.cas, fairChoices_fair.clock, w_frames, w_args, w_heap, w_applies, ⟨w_consts, trivial⟩, w_rest, w_case⟩
end start1
theorem witness_1 : WitnessClaimed_1 := ⟨start1.p0, start1.e0, start1.about1, start1.theMethod, start1.args0, start1.below0, start1.atStart⟩
end Jvm.Pilot.@@N@@
