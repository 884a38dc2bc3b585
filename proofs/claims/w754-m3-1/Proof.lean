import JvmDerived
import JvmDerived.Pilot.@@N@@Statement
import JvmDerived.Pilot.@@N@@Code
set_option linter.unusedVariables false
set_option linter.unusedSimpArgs false
namespace Jvm.OwnKit
open Sem ClassFile Op Lib Bundle Jvm.Stand Jvm.Free Jvm.LawKit Jvm.RoadKit
section Kit
variable {p : Program} {l : Launch} {e : Env} {R : Room} {s : State} {m : MethodId} {args : Array Value} {below : List Frame} {meth : Method} {c : Code} {Z : State} {a0 : Array Value} {EL : List (String × Nat)} {own : String} {Q : Option Value → Vm → Heap → Prop} {vm : Vm} {h : Heap} {cells slots : Nat} {g : JFrame}
/-- the k-th word -/
theorem ow {L : List Jvm.Cond} (hw : ∀ d ∈ L, d.before a0 Z = true) (k : Nat) {d : Jvm.Cond} (q : L[k]? = some d) : d.before a0 Z = true := hw _ (List.mem_of_getElem? q)
abbrev vr (a : Addr) : Slot := .val (.ref a)
abbrev vi (x : Int32) : Slot := .val (.int x)
abbrev un : Slot := .unset
/-- a standing place of a walk that may have interned: tables vm, heap h, usage -/
def St (p : Program) (l : Launch) (e : Env) (R : Room) (s : State) (m : MethodId) (args : Array Value) (below : List Frame) (meth : Method) (c : Code) (Z : State) (a0 : Array Value) (EL : List (String × Nat)) (own : String) (vm : Vm) (T : State) (h : Heap) (cells slots : Nat) : Prop :=
  ∃ (locs : List Loc) (k0 : Nat), Stand p l e R (s.setVm vm) m args below meth c T locs cells slots ∧ T.heap = h ∧ Z.Warmed39 vm ∧ vm.findClass own = some m.cls ∧ s.Since vm k0 ∧ k0 ≤ h.size ∧ Fr Z.heap.size locs ∧ CHr Z EL s.vm s.heap vm h ∧ Ext Z.heap s.heap ∧ EW Z a0 EL ∧ p.tables.exec = Jvm.exec ∧ meth.locks = false
/-- from every such place with this frame the method ends as Q says -/
def Go (p : Program) (l : Launch) (e : Env) (R : Room) (s : State) (m : MethodId) (args : Array Value) (below : List Frame) (meth : Method) (c : Code) (Z : State) (a0 : Array Value) (EL : List (String × Nat)) (own : String) (Q : Option Value → Vm → Heap → Prop) (vm : Vm) (h : Heap) (cells slots : Nat) (g : JFrame) : Prop :=
  ∀ T, St p l e R s m args below meth c Z a0 EL own vm T h cells slots → ∃ s₂ o, Steps p.tables e below (T.setTop g) s₂ ∧ s₂.status = .running ∧ Ended s₂ below o ∧
    ∃ v L, o = .returned v ∧ (Fr Z.heap.size L ∧ Q v s₂.vm s₂.heap) ∧ CHr Z EL s.vm s.heap s₂.vm s₂.heap ∧ ReturnedEndW s o s₂ L R.cells R.slots
/-- a plain step -/
theorem gs (g' : JFrame) (st : ∀ T target, At T m c below → Steps p.tables e below (T.setTop g') target → Steps p.tables e below (T.setTop g) target)
    (k : Go p l e R s m args below meth c Z a0 EL own Q vm h cells slots g') : Go p l e R s m args below meth c Z a0 EL own Q vm h cells slots g := fun T X => by
  obtain ⟨s2, o, q1, q2⟩ := k T X
  obtain ⟨locs, k0, X', -⟩ := X
  exact ⟨s2, o, st _ _ X'.here q1, q2⟩
theorem gat (g' : JFrame) (q : g = g') (k : Go p l e R s m args below meth c Z a0 EL own Q vm h cells slots g') : Go p l e R s m args below meth c Z a0 EL own Q vm h cells slots g := q ▸ k
/-- a step that asks the standing place -/
theorem gx (g' : JFrame) (st : ∀ T locs, Stand p l e R (s.setVm vm) m args below meth c T locs cells slots → Z.Warmed39 vm → vm.findClass own = some m.cls → T.heap = h → ∀ target, Steps p.tables e below (T.setTop g') target → Steps p.tables e below (T.setTop g) target)
    (k : Go p l e R s m args below meth c Z a0 EL own Q vm h cells slots g') : Go p l e R s m args below meth c Z a0 EL own Q vm h cells slots g := fun T X => by
  obtain ⟨s2, o, q1, q2⟩ := k T X
  obtain ⟨locs, k0, X', eT, hZ, hown, -⟩ := X
  exact ⟨s2, o, st _ _ X' hZ hown eT _ q1, q2⟩
/-- a step to another state, the heap as it was -/
theorem gy (g' : JFrame) (st : ∀ T locs, Stand p l e R (s.setVm vm) m args below meth c T locs cells slots → Z.Warmed39 vm → vm.findClass own = some m.cls → T.heap = h → ∃ T', Stand p l e R (s.setVm vm) m args below meth c T' locs cells slots ∧ T'.heap = h ∧ ∀ target, Steps p.tables e below (T'.setTop g') target → Steps p.tables e below (T.setTop g) target)
    (k : Go p l e R s m args below meth c Z a0 EL own Q vm h cells slots g') : Go p l e R s m args below meth c Z a0 EL own Q vm h cells slots g := fun T X => by
  obtain ⟨locs, k0, X', eT, hZ, hown, r⟩ := X
  obtain ⟨T', X1, e1, s1⟩ := st T locs X' hZ hown eT
  obtain ⟨s2, o, q1, q2⟩ := k T' ⟨locs, k0, X1, e1, hZ, hown, r⟩
  exact ⟨s2, o, s1 _ q1, q2⟩
/-- what the standing place knows -/
theorem ginfo (k : Z.Warmed39 vm → CHv Z EL vm h → Ext Z.heap h → Go p l e R s m args below meth c Z a0 EL own Q vm h cells slots g) : Go p l e R s m args below meth c Z a0 EL own Q vm h cells slots g := fun T X => by
  have X0 := X
  obtain ⟨locs, k0, X', eT, hZ, hown, hS, hk, N, H, E0, r⟩ := X
  refine k hZ H.1 ⟨?_, ?_⟩ T X0
  · exact Nat.le_trans E0.1 H.2.1
  · intro b cl hcl
    have hb := (Array.getElem?_eq_some_iff.mp hcl).1
    obtain ⟨c', h1, h2, -, h4⟩ := X'.same.2.2.2.2.2 b cl (show s.heap[b]? = some cl from E0.2 b cl hcl)
    have hsl : c'.slots = cl.slots := Array.ext_getElem? fun i => h4 i fun hm => absurd (N _ hm) (Nat.not_le.mpr hb)
    have hcc : c' = cl := by rw [h2, hsl]
    have h1' : T.heap[b]? = some c' := h1
    rw [← eT, ← hcc]; exact h1'
/-- the heap grows at its end -/
theorem gnew {cells' slots' : Nat} {P : Heap → Prop} (g' : Heap → JFrame)
    (st : ∀ T locs, Stand p l e R (s.setVm vm) m args below meth c T locs cells slots → Z.Warmed39 vm → vm.findClass own = some m.cls → T.heap = h → ∃ T' h', Stand p l e R (s.setVm vm) m args below meth c T' locs cells' slots' ∧ T'.heap = h' ∧ Ext h h' ∧ P h' ∧ ∀ target, Steps p.tables e below (T'.setTop (g' h')) target → Steps p.tables e below (T.setTop g) target)
    (k : ∀ h', Ext h h' → CHr Z EL vm h vm h' → P h' → Z.heap.size ≤ h.size → Safe Z EL vm h' h.size → Go p l e R s m args below meth c Z a0 EL own Q vm h' cells' slots' (g' h')) : Go p l e R s m args below meth c Z a0 EL own Q vm h cells slots g := fun T X => by
  obtain ⟨locs, k0, X', eT, hZ, hown, hS, hk, N, H, E0, r⟩ := X
  obtain ⟨T', h', X1, e1, E, hP, s1⟩ := st T locs X' hZ hown eT
  obtain ⟨s2, o, q1, q2⟩ := k h' E (CHr.ext E H.1) hP (Nat.le_trans E0.1 H.2.1) (Safe.ext E H.1 (Safe.new (Nat.le_refl _))) T' ⟨locs, k0, X1, e1, hZ, hown, hS, Nat.le_trans hk E.1, N, H.trans (CHr.ext E H.1), E0, r⟩
  exact ⟨s2, o, s1 _ q1, q2⟩
/-- one place is written -/
theorem gwr (g' : JFrame) {a : Addr} {sl : Nat} {v : Value} (ha : Z.heap.size ≤ a) (hs : Z.vm.Alike vm → Safe Z EL vm h a)
    (st : ∀ T locs, Stand p l e R (s.setVm vm) m args below meth c T locs cells slots → Z.Warmed39 vm → vm.findClass own = some m.cls → T.heap = h → ∃ T' h', Stand p l e R (s.setVm vm) m args below meth c T' (locs ++ [⟨a, sl⟩]) cells slots ∧ T'.heap = h' ∧ Wr h h' a sl v ∧ ∀ target, Steps p.tables e below (T'.setTop g') target → Steps p.tables e below (T.setTop g) target)
    (k : ∀ h', Wr h h' a sl v → CHr Z EL vm h vm h' → Go p l e R s m args below meth c Z a0 EL own Q vm h' cells slots g') : Go p l e R s m args below meth c Z a0 EL own Q vm h cells slots g := fun T X => by
  obtain ⟨locs, k0, X', eT, hZ, hown, hS, hk, N, H, E0, r⟩ := X
  obtain ⟨T', h', X1, e1, W, s1⟩ := st T locs X' hZ hown eT
  obtain ⟨s2, o, q1, q2⟩ := k h' W (CHr.wr W (hs hZ.alike) H.1) T' ⟨_, k0, X1, e1, hZ, hown, hS, by rw [W.size]; exact hk, Fr.snoc X1 N ha, H.trans (CHr.wr W (hs hZ.alike) H.1), E0, r⟩
  exact ⟨s2, o, s1 _ q1, q2⟩
/-- the end -/
theorem gret {v : Option Value} (hv : meth.sig.returnType = none → v = none) (hc : cells ≤ R.cells) (hs : slots ≤ R.slots)
    (st : ∀ T locs fs, Stand p l e R (s.setVm vm) m args below meth c T locs cells slots → (∀ (f : JFrame) (acts : List Action), f.method = m → f.locked = none → f.entered = [] → (doReturn e (T.setTop f) acts v).1 = T.setFrames fs) → Steps p.tables e below (T.setTop g) (T.setFrames fs))
    (hq : ∀ vm', CHr Z EL vm h vm' h → Q v vm' h) : Go p l e R s m args below meth c Z a0 EL own Q vm h cells slots g := fun T X => by
  obtain ⟨locs, k0, X', eT, hZ, hown, hS, hk, N, H, E0, hw, hx, hlk⟩ := X
  obtain ⟨fs, hr, hrun, hend, hW⟩ := X'.leaveW hS (by rw [eT]; exact hk) hv hlk
  have C1 : CHr Z EL vm h T.vm h := CHv.at X' hZ hw H.1
  refine ⟨_, _, st T locs fs X' hr, hrun, hend, v, locs, rfl, ⟨N, ?_⟩, ?_, ?_⟩
  · show Q v T.vm T.heap
    rw [eT]; exact hq _ C1
  · show CHr Z EL s.vm s.heap T.vm T.heap
    rw [eT]; exact H.trans C1
  · exact ⟨hW.1, hW.2.1, hW.2.2.1, hW.2.2.2.mono hc hs⟩
theorem gretI {pc : Nat} {Ls : Array Slot} {z : Int32} {rest : List Value} (hx : p.tables.exec = Jvm.exec) (hret : meth.sig.returnType = some .int) (hd : decode c.code pc = .ok (.ireturn, 1)) (hc : cells ≤ R.cells) (hs : slots ≤ R.slots)
    (hq : ∀ vm', CHr Z EL vm h vm' h → Q (some (.int z)) vm' h) : Go p l e R s m args below meth c Z a0 EL own Q vm h cells slots (mkF m pc Ls (.int z :: rest)) :=
  gret (v := some (.int z)) (fun q => by rw [hret] at q; cases q) hc hs (fun T locs fs X hr => retOut X hx hret rfl (Or.inl ⟨rfl, Or.inl rfl, z, rfl⟩) hd hr) hq
theorem gretN {t : FieldType} {pc : Nat} {Ls : Array Slot} {z : Int32} {rest : List Value} (hx : p.tables.exec = Jvm.exec) (hret : meth.sig.returnType = some t) (ht : t = .boolean ∨ t = .byte ∨ t = .char ∨ t = .short) (hd : decode c.code pc = .ok (.ireturn, 1)) (hc : cells ≤ R.cells) (hs : slots ≤ R.slots)
    (hq : ∀ vm', CHr Z EL vm h vm' h → Q (some (.int (nar t z))) vm' h) : Go p l e R s m args below meth c Z a0 EL own Q vm h cells slots (mkF m pc Ls (.int z :: rest)) :=
  gret (v := some (.int (nar t z))) (fun q => by rw [hret] at q; cases q) hc hs (fun T locs fs X hr => retN X hx hret ht hd hr) hq
theorem gretA {t : FieldType} {pc : Nat} {Ls : Array Slot} {v : Value} {rest : List Value} (hx : p.tables.exec = Jvm.exec) (hret : meth.sig.returnType = some t) (ht : t.isReference = true) (hv : v.isRef = true) (hd : decode c.code pc = .ok (.areturn, 1)) (hc : cells ≤ R.cells) (hs : slots ≤ R.slots)
    (hq : ∀ vm', CHr Z EL vm h vm' h → Q (some v) vm' h) : Go p l e R s m args below meth c Z a0 EL own Q vm h cells slots (mkF m pc Ls (v :: rest)) :=
  gret (v := some v) (fun q => by rw [hret] at q; cases q) hc hs (fun T locs fs X hr => retOut X hx hret (by cases t <;> first | (cases ht; done) | (cases v <;> first | rfl | (cases hv; done))) (Or.inr (Or.inr (Or.inr (Or.inr ⟨rfl, ht, hv⟩)))) hd hr) hq
theorem gretV {pc : Nat} {Ls : Array Slot} (hx : p.tables.exec = Jvm.exec) (hret : meth.sig.returnType = none) (hd : decode c.code pc = .ok (.return_, 1)) (hc : cells ≤ R.cells) (hs : slots ≤ R.slots)
    (hq : ∀ vm', CHr Z EL vm h vm' h → Q none vm' h) : Go p l e R s m args below meth c Z a0 EL own Q vm h cells slots (mkF m pc Ls []) :=
  gret (v := none) (fun _ => rfl) hc hs (fun T locs fs X hr => X.returnOut hx hret hd hr) hq
/-! contracts -/
def Met (l : Launch) (y : MethodName) (bytes : ByteArray) (maxL : Nat) (ret : Option FieldType) (ws : List Jvm.Cond) (rm : Room) (Z : State) (EL : List (String × Nat)) (vm0 : Vm) (h0 : Heap) (as' : Array Value) (Q : Option Value → Vm → Heap → Prop) : Prop :=
  MetFree l y (head1 (Jvm.Cond.code y bytes maxL ret :: ws) rm) (fun a U => a = as' ∧ Z.Warmed39 U.vm ∧ U.heap = h0 ∧ CHr Z EL vm0 h0 U.vm h0 ∧ (Z.setVm vm0).Warmed39 U.vm) (fun _ _ _ _ _ => True)
    (fun _ U o U' => ∃ v L, o = .returned v ∧ (Fr Z.heap.size L ∧ Q v U'.vm U'.heap) ∧ CHr Z EL U.vm U.heap U'.vm U'.heap ∧ ReturnedEndW U o U' L rm.cells rm.slots)
theorem Met.of_walk {y : MethodName} {bytes : ByteArray} {maxL : Nat} {ret : Option FieldType} {ws : List Jvm.Cond} {rm : Room} {vm0 : Vm} {h0 : Heap} {as' : Array Value} (L0 : Array Slot) (hpn : plainFor y = true) (X00 : Ext Z.heap h0) (hEL : EW Z a0 EL)
    (hef : ∀ m, entryFrame m as' maxL = mkF m 0 L0 [])
    (walk : ∀ (p : Program) (e : Env) (s : State) (m : MethodId) (below : List Frame) (meth : Method) (c : Code) (vm : Vm), p.tables.exec = Jvm.exec → c.code = bytes → c.maxLocals = maxL → meth.sig.returnType = ret → meth.name = y.name → CHr Z EL vm0 h0 vm h0 → (Z.setVm vm0).Warmed39 vm →
      Go p l e rm s m as' below meth c Z a0 EL y.cls Q vm h0 0 0 (mkF m 0 L0 [])) : Met l y bytes maxL ret ws rm Z EL vm0 h0 as' Q := by
  refine MetFree.of_bodySF hpn hisR ?_
  intro p e s m args below meth c s₁ Bd hml0 hP hK
  obtain ⟨rfl, hZ, hh, hC, hW0⟩ := hP
  have X0 : Stand p l e rm s m args below meth c s₁ [] 0 0 := Stand.of_body Bd
  have e0 : s₁.heap = h0 := by rw [← hh, Bd.state]; rfl
  obtain ⟨s2, o, q1, q2⟩ := walk p e s m below meth c s.vm Bd.exec Bd.bytes hml0 Bd.returns (name_of_methodNamed Bd.named Bd.method).1 hC hW0 s₁
    ⟨[], 0, X0, e0, hZ, findClass_of_methodNamed Bd.named, (State.WarmedH.refl s).since 0, Nat.zero_le _, Fr.nil _, by rw [hh]; exact CHr.refl hC.1, by rw [hh]; exact X00, hEL, Bd.exec, Bd.notSynchronized⟩
  exact ⟨s2, o, by rw [hef]; exact q1, q2⟩
def Pay (l : Launch) (R : Room) (p : Program) (e : Env) (below : List Frame) (s : State) (args : Array Value) (Z : State) (EL : List (String × Nat)) (vm : Vm) (h : Heap) (y : MethodName) (len W : Nat) (as' : Array Value) (rc rs : Nat) (Q : Option Value → Vm → Heap → Prop) : Prop :=
  BackS l R p e below (s.setVm vm) args y len W (fun A a => a = as' ∧ A.U.heap = h ∧ A.cells + rc ≤ R.cells ∧ A.slots + rs ≤ R.slots)
    (fun A _ v B => ∃ L, (Fr Z.heap.size L ∧ Q v B.U.vm B.U.heap) ∧ B.locs = A.locs ++ L ∧ B.cells = A.cells + rc ∧ B.slots = A.slots + rs ∧ CHr Z EL vm h B.U.vm B.U.heap)
theorem Pay.of_met {y : MethodName} {bytes : ByteArray} {maxL : Nat} {ret : Option FieldType} {rm : Room} {len W : Nat} {as' : Array Value} (hM : Met l y bytes maxL ret [] rm Z EL vm h as' Q)
    (wc : (Jvm.Cond.code y bytes maxL ret).before a0 Z = true) (wz : (Jvm.Cond.initialized y.cls).before a0 Z = true) (hf : rm.frames + 1 ≤ R.frames) (hl : W + (maxL + 11) + rm.locals ≤ R.locals) (hZ : Z.Warmed39 vm) (H : CHv Z EL vm h) (hEL : EW Z a0 EL) :
    Pay l R p e below s args Z EL vm h y len W as' rm.cells rm.slots Q :=
  BackS.of_freeW (bytes := bytes) (maxL := maxL) (ret := ret) (E := fun _ first o t L k n => k = rm.cells ∧ n = rm.slots ∧ (∃ v, o = .returned v ∧ (Fr Z.heap.size L ∧ Q v t.vm t.heap)) ∧ CHr Z EL first.vm first.heap t.vm t.heap) hM hf hl
    (fun m meth c A a Y hp => have hU : Z.Warmed39 A.U.vm := wtrans (s := s.setVm vm) hZ Y.warmed
      ⟨by show (Jvm.Cond.and _ .tt).before a A.U = true; rw [Cond.before_and, mv hU wc]; rfl, mv hU wc, mv hU wz, hp.2.2.1, hp.2.2.2⟩)
    (fun m meth c A a g mk Y hp => ⟨hp.1, wtrans (s := s.setVm vm) hZ Y.warmed, hp.2.1, (show CHr Z EL vm h A.U.vm h from CHv.at Y hZ hEL H), State.Warmed39.of_rootvm (s := s.setVm vm) rfl (show (s.setVm vm).Warmed39 A.U.vm from Y.warmed.wide)⟩) (fun _ _ _ _ _ _ _ _ _ => trivial)
    (fun _ _ _ _ ⟨v, L, h1, h2, h3, h4⟩ => ⟨L, _, _, h4, rfl, rfl, ⟨v, h1, h2⟩, h3⟩)
    (fun m meth c A a g mk v t L k n Y hp _ _ ⟨e1, e2, ⟨v', e3, e4⟩, e5⟩ => by
      cases e3; subst e1 e2
      refine ⟨L, e4, rfl, rfl, rfl, (CHv.at Y hZ hEL H).trans ?_⟩
      rw [← hp.2.1]; exact e5)
theorem Pay.of_back {y : MethodName} {len W : Nat} {as' : Array Value} {rc rs : Nat} {Q0 : Option Value → Heap → List Loc → Prop}
    (hK : Back l R p e below (s.setVm vm) args y len W (fun A a => a = as' ∧ A.U.heap = h ∧ A.cells + rc ≤ R.cells ∧ A.slots + rs ≤ R.slots) (fun A _ v B => ∃ L, Q0 v B.U.heap L ∧ B.locs = A.locs ++ L ∧ B.cells = A.cells + rc ∧ B.slots = A.slots + rs))
    (hZ : Z.Warmed39 vm) (H : CHv Z EL vm h) (hEL : EW Z a0 EL)
    (hq : ∀ v h' L, Q0 v h' L → Fr Z.heap.size L ∧ (∃ ws, Keep h h' ws ∧ ∀ x ∈ ws, Safe Z EL vm h x) ∧ ∀ vm', CHr Z EL vm h vm' h' → Q v vm' h') : Pay l R p e below s args Z EL vm h y len W as' rc rs Q := by
  intro m meth c A g ig mk a X hg hsize hdg hW hn hp
  obtain ⟨v, B, X', ⟨L, q0, q1, q2, q3⟩, hsteps⟩ := hK m meth c A g ig mk a X hg hsize hdg hW hn hp
  obtain ⟨hF, ⟨ws, K, hs⟩, hQ⟩ := hq _ _ _ q0
  have C1 : CHr Z EL vm h vm B.U.heap := CHr.keep K hs H
  have C2 : CHr Z EL vm h B.U.vm B.U.heap := C1.trans (CHv.at X' hZ hEL C1.1)
  exact ⟨v, B, X'.retabled X'.warmed.wide, X'.warmed.since _, by rw [hp.2.1]; exact K.1, ⟨L, ⟨hF, hQ _ C2⟩, q1, q2, q3, C2⟩, hsteps⟩
theorem Pay.mono {y : MethodName} {len W rc rs : Nat} {as' : Array Value} {Q' : Option Value → Vm → Heap → Prop} (hP : Pay l R p e below s args Z EL vm h y len W as' rc rs Q) (hq : ∀ v vm' h', Q v vm' h' → Q' v vm' h') : Pay l R p e below s args Z EL vm h y len W as' rc rs Q' := by
  intro m meth c A g ig mk a X hg hsize hdg hW hn hp
  obtain ⟨v, B, X', h1, h2, ⟨L, ⟨q1, q2⟩, r⟩, st⟩ := hP m meth c A g ig mk a X hg hsize hdg hW hn hp
  exact ⟨v, B, X', h1, h2, ⟨L, ⟨q1, hq _ _ _ q2⟩, r⟩, st⟩
/-- behind any call -/
theorem gback {y : MethodName} {rc rs : Nat} {as' : Array Value} {Q' : Option Value → Vm → Heap → Prop} {rest : List Value} {pc' : Nat} {L : Array Slot}
    (st : ∀ T locs, Stand p l e R (s.setVm vm) m args below meth c T locs cells slots → Z.Warmed39 vm → vm.findClass own = some m.cls → T.heap = h → CHv Z EL vm h → EW Z a0 EL →
      ∃ (v : Option Value) (vm₁ : Vm) (B : Pt), (s.setVm vm).WarmedH vm₁ ∧ Stand p l e R ((s.setVm vm).setVm B.U.vm) m args below meth c B.U B.locs B.cells B.slots ∧ (s.setVm vm).Since B.U.vm B.U.heap.size ∧ T.heap.size ≤ B.U.heap.size ∧
        (∃ L, (Fr Z.heap.size L ∧ Q' v B.U.vm B.U.heap) ∧ B.locs = locs ++ L ∧ B.cells = cells + rc ∧ B.slots = slots + rs ∧ CHr Z EL vm h B.U.vm B.U.heap) ∧ Steps p.tables e below (T.setTop g) (B.U.setTop (mkF m pc' L (v.toList ++ rest))))
    (k : ∀ v vm' h', CHr Z EL vm h vm' h' → Q' v vm' h' → Go p l e R s m args below meth c Z a0 EL own Q vm' h' (cells + rc) (slots + rs) (mkF m pc' L (v.toList ++ rest))) : Go p l e R s m args below meth c Z a0 EL own Q vm h cells slots g := fun T X => by
  obtain ⟨locs, k0, X', eT, hZ, hown, hS, hk, N, H, E0, hEL, hx, hlk⟩ := X
  obtain ⟨v, vm1, ⟨U, Lx, cx, sx⟩, hW1, X1, hS1, hgr, ⟨L1, ⟨hF, hQ⟩, hl, hc, hs, hC⟩, s1⟩ := st T locs X' hZ hown eT H.1 hEL
  dsimp only [Pt.U, Pt.locs, Pt.cells, Pt.slots] at X1 hS1 hgr hF hQ hl hc hs hC s1
  subst hl hc hs
  obtain ⟨s2, o, q1, q2⟩ := k v U.vm U.heap hC hQ U ⟨_, U.heap.size, X1, rfl, State.Warmed39.trans (t := s.setVm vm) hZ hS1.1, (hS1.1.alike.findClass _ _).trans hown, hS.trans hS1 (Nat.le_trans hk (by rw [← eT]; exact hgr)), Nat.le_refl _, Fr.app N hF, H.trans hC, E0, hEL, hx, hlk⟩
  exact ⟨s2, o, s1.trans q1, q2⟩
end Kit
end Jvm.OwnKit
namespace Jvm.OwnKit
open Sem ClassFile Op Lib Bundle Jvm.Stand Jvm.Free Jvm.LawKit Jvm.RoadKit
section Kit2
variable {p : Program} {l : Launch} {e : Env} {R : Room} {s : State} {m : MethodId} {args : Array Value} {below : List Frame} {meth : Method} {c : Code} {Z : State} {a0 : Array Value} {EL : List (String × Nat)} {own : String} {Q : Option Value → Vm → Heap → Prop} {vm : Vm} {h : Heap} {cells slots : Nat} {g : JFrame}
/-! calls -/
theorem gcallS {index : Nat} {y : MethodName} {bytes : ByteArray} {maxL : Nat} {ret : Option FieldType} (hx : p.tables.exec = Jvm.exec) (wl : (Cond.methodLink own index y).before a0 Z = true) (wst : (Cond.static y).before a0 Z = true) (wz : (Cond.initialized y.cls).before a0 Z = true) (wc : (Cond.code y bytes maxL ret).before a0 Z = true)
    (hy : y.cls ≠ "java/lang/invoke/MethodHandle" ∧ y.cls ≠ "java/lang/invoke/VarHandle") {W rc rs : Nat} {as' : Array Value} {Q' : Option Value → Vm → Heap → Prop} (hP : Z.Warmed39 vm → CHv Z EL vm h → EW Z a0 EL → Pay l R p e below s args Z EL vm h y 3 W as' rc rs Q')
    {pc : Nat} (pc' : Nat) {L : Array Slot} {S argsL rest : List Value} (hlen : ∀ sig, parseMethodDescriptor y.desc = some sig → argsL.length = sig.parameters.length) (has : argsL.toArray = as') (hstk : S = argsL.reverse ++ rest) (hW : (rest.map fun v => v.category).sum ≤ W) (hml : L.size = c.maxLocals)
    (hd : decode c.code pc = .ok (.invokestatic index, 3)) (hp : pc + 3 = pc') (hc : cells + rc ≤ R.cells) (hs : slots + rs ≤ R.slots)
    (k : ∀ v vm' h', CHr Z EL vm h vm' h' → Q' v vm' h' → Go p l e R s m args below meth c Z a0 EL own Q vm' h' (cells + rc) (slots + rs) (mkF m pc' L (v.toList ++ rest))) : Go p l e R s m args below meth c Z a0 EL own Q vm h cells slots (mkF m pc L S) :=
  gback (y := y) (as' := as') (fun T locs X hZ hown eT H hEL => by
    subst has hp hstk
    exact callSS (s := s.setVm vm) X hx hown (mvT hZ wl) (mvT hZ wst) (mvT hZ wz) (mvT hZ wc) hy (hP hZ H hEL) (g := mkF m pc L _) rfl hml hlen rfl (by show 2 * 0 + _ ≤ _; omega) hd (fun _ _ => ⟨rfl, eT, hc, hs⟩)) k
theorem gcallI {index : Nat} {y : MethodName} {bytes : ByteArray} {maxL : Nat} (hx : p.tables.exec = Jvm.exec) (hyi : y.name = "<init>") (wl : (Cond.methodLink own index y).before a0 Z = true) (wi : (Cond.instanceMethod y).before a0 Z = true) (wc : (Cond.code y bytes maxL none).before a0 Z = true)
    (hy : y.cls ≠ "java/lang/invoke/MethodHandle" ∧ y.cls ≠ "java/lang/invoke/VarHandle") {W rc rs : Nat} {as' : Array Value} {Q' : Option Value → Vm → Heap → Prop} (hP : Z.Warmed39 vm → CHv Z EL vm h → EW Z a0 EL → Pay l R p e below s args Z EL vm h y 3 W as' rc rs Q')
    {pc : Nat} (pc' : Nat) {L : Array Slot} {S argsL rest : List Value} {a : Addr} (hlen : ∀ sig, parseMethodDescriptor y.desc = some sig → argsL.length = sig.parameters.length) (has : (.ref a :: argsL).toArray = as') (hstk : S = argsL.reverse ++ .ref a :: rest) (hW : (rest.map fun v => v.category).sum ≤ W) (hml : L.size = c.maxLocals)
    (hd : decode c.code pc = .ok (.invokespecial index, 3)) (hp : pc + 3 = pc') (hc : cells + rc ≤ R.cells) (hs : slots + rs ≤ R.slots)
    (k : ∀ v vm' h', CHr Z EL vm h vm' h' → Q' v vm' h' → Go p l e R s m args below meth c Z a0 EL own Q vm' h' (cells + rc) (slots + rs) (mkF m pc' L (v.toList ++ rest))) : Go p l e R s m args below meth c Z a0 EL own Q vm h cells slots (mkF m pc L S) :=
  gback (y := y) (as' := as') (fun T locs X hZ hown eT H hEL => by
    subst has hp hstk
    exact X.specialBackS (s := s.setVm vm) hx hyi hown (mvT hZ wl) (mvT hZ wi) (mvT hZ wc) hy (hP hZ H hEL) (g := mkF m pc L _) rfl hml (Steps.refl _) hlen rfl (by show 2 * 0 + _ ≤ _; omega) hd (fun _ _ => ⟨rfl, eT, hc, hs⟩)) k
theorem gcallV {index : Nat} {C : String} {y z : MethodName} (hx : p.tables.exec = Jvm.exec) (wl : (Cond.methodLink own index y).before a0 Z = true) (wd : (Cond.declares y).before a0 Z = true) (nf : ∀ (U : State), Z.Warmed39 U.vm → NotFace U y) (wsel : (Cond.selects C y z).before a0 Z = true) (wi : (Cond.instanceMethod z).before a0 Z = true)
    (hy : y.cls ≠ "java/lang/invoke/MethodHandle" ∧ y.cls ≠ "java/lang/invoke/VarHandle") {W rc rs : Nat} {as' : Array Value} {Q' : Option Value → Vm → Heap → Prop} (hP : Z.Warmed39 vm → CHv Z EL vm h → EW Z a0 EL → Pay l R p e below s args Z EL vm h z 3 W as' rc rs Q')
    {pc : Nat} (pc' : Nat) {L : Array Slot} {S argsL rest : List Value} {a : Addr} (E : Exa Z h a C) (hlen : ∀ sig, parseMethodDescriptor y.desc = some sig → argsL.length = sig.parameters.length) (has : (.ref a :: argsL).toArray = as') (hstk : S = argsL.reverse ++ .ref a :: rest) (hW : (rest.map fun v => v.category).sum ≤ W) (hml : L.size = c.maxLocals)
    (hd : decode c.code pc = .ok (.invokevirtual index, 3)) (hp : pc + 3 = pc') (hc : cells + rc ≤ R.cells) (hs : slots + rs ≤ R.slots)
    (k : ∀ v vm' h', CHr Z EL vm h vm' h' → Q' v vm' h' → Go p l e R s m args below meth c Z a0 EL own Q vm' h' (cells + rc) (slots + rs) (mkF m pc' L (v.toList ++ rest))) : Go p l e R s m args below meth c Z a0 EL own Q vm h cells slots (mkF m pc L S) :=
  gback (y := z) (as' := as') (fun T locs X hZ hown eT H hEL => by
    subst has hp hstk
    obtain ⟨cB, kB, h1, h2, h3⟩ := isOf (s := s.setVm vm) hZ eT E
    exact X.virtualBackS (s := s.setVm vm) hx hown (mvT hZ wl) (mvT hZ wd) (nf _ hZ) (mvT hZ wsel) (mvT hZ wi) hy (hP hZ H hEL) h1 h3 (g := mkF m pc L _) rfl hml (Steps.refl _) hlen rfl (by show 2 * 0 + _ ≤ _; omega) hd (fun _ _ => ⟨rfl, eT, hc, hs⟩)) k
theorem nfSel {C : String} {y : MethodName} (w : (Cond.selects C y y).before a0 Z = true) : ∀ (U : State), Z.Warmed39 U.vm → NotFace U y := fun U hU => notFace_of_selects (args := #[]) (mvT hU w)
theorem nfSup {S : String} {y : MethodName} (w : (Cond.superclass y.cls S).before a0 Z = true) : ∀ (U : State), Z.Warmed39 U.vm → NotFace U y := fun U hU => nf_super (args := #[]) (mvT hU w)
theorem gcallF {index count : Nat} {C : String} {xi y : MethodName} (hx : p.tables.exec = Jvm.exec) (wl : (Cond.methodLink own index xi).before a0 Z = true) (wd : (Cond.declares xi).before a0 Z = true) (wf : ∀ (U : State) (aa : Array Value), Z.Warmed39 U.vm → (Cond.interfaceMethod xi.cls xi.cls xi.name xi.desc).before aa U = true) (wsel : (Cond.selects C xi y).before a0 Z = true) (wi : (Cond.instanceMethod y).before a0 Z = true)
    (wp : (Cond.publicMethod y).before a0 Z = true) (wu : (Cond.unhidden C xi.name xi.desc).before a0 Z = true) (wca : (Cond.castable C xi.cls).before a0 Z = true)
    (hy : xi.cls ≠ "java/lang/invoke/MethodHandle" ∧ xi.cls ≠ "java/lang/invoke/VarHandle") {W rc rs : Nat} {as' : Array Value} {Q' : Option Value → Vm → Heap → Prop} (hP : Z.Warmed39 vm → CHv Z EL vm h → EW Z a0 EL → Pay l R p e below s args Z EL vm h y 5 W as' rc rs Q')
    {pc : Nat} (pc' : Nat) {L : Array Slot} {S argsL rest : List Value} {a : Addr} (E : Exa Z h a C) (hlen : ∀ sig, parseMethodDescriptor xi.desc = some sig → argsL.length = sig.parameters.length) (has : (.ref a :: argsL).toArray = as') (hstk : S = argsL.reverse ++ .ref a :: rest) (hW : (rest.map fun v => v.category).sum ≤ W) (hml : L.size = c.maxLocals)
    (hd : decode c.code pc = .ok (.invokeinterface index count, 5)) (hp : pc + 5 = pc') (hc : cells + rc ≤ R.cells) (hs : slots + rs ≤ R.slots)
    (k : ∀ v vm' h', CHr Z EL vm h vm' h' → Q' v vm' h' → Go p l e R s m args below meth c Z a0 EL own Q vm' h' (cells + rc) (slots + rs) (mkF m pc' L (v.toList ++ rest))) : Go p l e R s m args below meth c Z a0 EL own Q vm h cells slots (mkF m pc L S) :=
  gback (y := y) (as' := as') (fun T locs X hZ hown eT H hEL => by
    subst has hp hstk
    obtain ⟨cB, kB, h1, h2, h3⟩ := isOf (s := s.setVm vm) hZ eT E
    exact X.interfaceBackS (s := s.setVm vm) hx hown (mvT hZ wl) (mvT hZ wd) (wf _ _ hZ) (mvT hZ wsel) (mvT hZ wi) (mvT hZ wp) (mvT hZ wu) (mvT hZ wca) hy (hP hZ H hEL) h1 h2 h3 (g := mkF m pc L _) rfl hml (Steps.refl _) hlen rfl (by show 2 * 0 + _ ≤ _; omega) hd (fun _ _ => ⟨rfl, eT, hc, hs⟩)) k
theorem gcallP {index : Nat} {y : MethodName} {bytes : ByteArray} {maxL : Nat} {ret : Option FieldType} (hx : p.tables.exec = Jvm.exec) (wl : (Cond.methodLink own index y).before a0 Z = true) (wi : (Cond.instanceMethod y).before a0 Z = true) (wsel : (Cond.selects y.cls y y).before a0 Z = true) (wp : (Cond.privateMethod y).before a0 Z = true) (wc : (Cond.code y bytes maxL ret).before a0 Z = true)
    (hy : y.cls ≠ "java/lang/invoke/MethodHandle" ∧ y.cls ≠ "java/lang/invoke/VarHandle") {W rc rs : Nat} {as' : Array Value} {Q' : Option Value → Vm → Heap → Prop} (hP : Z.Warmed39 vm → CHv Z EL vm h → EW Z a0 EL → Pay l R p e below s args Z EL vm h y 3 W as' rc rs Q')
    {pc : Nat} (pc' : Nat) {L : Array Slot} {S argsL rest : List Value} {a : Addr} {K : String} (E : Exa Z h a K) (hlen : ∀ sig, parseMethodDescriptor y.desc = some sig → argsL.length = sig.parameters.length) (has : (.ref a :: argsL).toArray = as') (hstk : S = argsL.reverse ++ .ref a :: rest) (hW : (rest.map fun v => v.category).sum ≤ W) (hml : L.size = c.maxLocals)
    (hd : decode c.code pc = .ok (.invokevirtual index, 3)) (hp : pc + 3 = pc') (hc : cells + rc ≤ R.cells) (hs : slots + rs ≤ R.slots)
    (k : ∀ v vm' h', CHr Z EL vm h vm' h' → Q' v vm' h' → Go p l e R s m args below meth c Z a0 EL own Q vm' h' (cells + rc) (slots + rs) (mkF m pc' L (v.toList ++ rest))) : Go p l e R s m args below meth c Z a0 EL own Q vm h cells slots (mkF m pc L S) :=
  gback (y := y) (as' := as') (fun T locs X hZ hown eT H hEL => by
    subst has hp hstk
    obtain ⟨cq, q1, q2⟩ := E.cell
    exact X.privateBackS (s := s.setVm vm) hx hown (mvT hZ wl) (mvT hZ wi) (mvT hZ wsel) (Cond.privateMethod_at (mvP (s := s.setVm vm) hZ wp (args := #[]))) (mvT hZ wc) hy (hP hZ H hEL) (g := mkF m pc L _) rfl hml (Steps.refl _) (by rw [eT]; exact q1) q2 hlen rfl (by show 2 * 0 + _ ≤ _; omega) hd (fun _ _ => ⟨rfl, eT, hc, hs⟩)) k
/-- Object.<init> -/
theorem ginitO {idx : Nat} (hx : p.tables.exec = Jvm.exec) (w1 : (Cond.methodLink own idx Lib.objectInit).before a0 Z = true) (w2 : (Cond.instanceMethod Lib.objectInit).before a0 Z = true) (w3 : (Cond.code Lib.objectInit ⟨#[0xb1]⟩ 1 none).before a0 Z = true)
    {pc : Nat} (pc' : Nat) {L : Array Slot} {rest : List Value} {a : Addr} {W : Nat} (hW : (rest.map fun v => v.category).sum ≤ W) (hml : L.size = c.maxLocals) (hd : decode c.code pc = .ok (.invokespecial idx, 3)) (hp : pc + 3 = pc') (hf : 1 ≤ R.frames) (hl : W + 12 ≤ R.locals)
    (k : Go p l e R s m args below meth c Z a0 EL own Q vm h cells slots (mkF m pc' L rest)) : Go p l e R s m args below meth c Z a0 EL own Q vm h cells slots (mkF m pc L (.ref a :: rest)) :=
  gy _ (fun T locs X hZ hown eT => by
    subst hp
    exact initO (s := s.setVm vm) X hx hZ hown w1 w2 w3 eT (g := mkF m pc L (.ref a :: rest)) rfl hml rfl hd hf (W := W) (by show 2 * 0 + _ ≤ _; omega) hl) k
/-! fields -/
theorem ggetF {R0 O n d host : String} {index : Nat} (hx : p.tables.exec = Jvm.exec) (w : (Cond.fieldLink own index R0 n d).before a0 Z = true ∨ (Cond.fieldLinkNest own index R0 n d host).before a0 Z = true) (via : Via Z R0 O n d) {a : Addr} {v : Value} (F : Fld Z h a O n d v)
    {pc : Nat} (pc' : Nat) {L : Array Slot} {rest : List Value} (hd : decode c.code pc = .ok (.getfield index, 3)) (hp : pc + 3 = pc')
    (k : Go p l e R s m args below meth c Z a0 EL own Q vm h cells slots (mkF m pc' L (v :: rest))) : Go p l e R s m args below meth c Z a0 EL own Q vm h cells slots (mkF m pc L (.ref a :: rest)) :=
  gy _ (fun T locs X hZ hown eT => by
    subst hp
    exact getF (s := s.setVm vm) X hx hZ hown (host := host) w via eT F (g := mkF m pc L (.ref a :: rest)) rfl rfl hd) k
theorem ggetS {R0 O n d host : String} {index : Nat} (hx : p.tables.exec = Jvm.exec) (w : (Cond.fieldLink own index R0 n d).before a0 Z = true ∨ (Cond.fieldLinkNest own index R0 n d host).before a0 Z = true) (via : Via Z R0 O n d) {v : Value} (F : Sta Z Z.heap O n d v)
    {pc : Nat} (pc' : Nat) {L : Array Slot} {S : List Value} (hd : decode c.code pc = .ok (.getstatic index, 3)) (hp : pc + 3 = pc')
    (k : Go p l e R s m args below meth c Z a0 EL own Q vm h cells slots (mkF m pc' L (v :: S))) : Go p l e R s m args below meth c Z a0 EL own Q vm h cells slots (mkF m pc L S) :=
  ginfo fun _ _ E => gy _ (fun T locs X hZ hown eT => by
    subst hp
    exact getS2 (s := s.setVm vm) X hx hZ hown (host := host) w via eT (F.ext E) (g := mkF m pc L S) rfl hd) k
theorem gputF {R0 O n d host C : String} {index kk : Nat} {ty : FieldType} (hx : p.tables.exec = Jvm.exec) (w : (Cond.fieldLink own index R0 n d).before a0 Z = true ∨ (Cond.fieldLinkNest own index R0 n d host).before a0 Z = true) (via : Via Z R0 O n d) {a : Addr} {v old : Value} (F : Fld Z h a O n d old) (E : Exa Z h a C)
    (Lw : (Cond.lays C O n d).before a0 Z = true ∨ ((Cond.laysFinal C O n d).before a0 Z = true ∧ own = O ∧ meth.name = "<init>")) (wi : (Cond.instantiable C kk).before a0 Z = true) (hty : parseFieldDescriptor d = some ty) (hn : narrow ty v = v) (hf : fits ty v = true) (ha : Z.heap.size ≤ a) (hs : Z.vm.Alike vm → Safe Z EL vm h a)
    {pc : Nat} (pc' : Nat) {L : Array Slot} {rest : List Value} (hd : decode c.code pc = .ok (.putfield index, 3)) (hp : pc + 3 = pc')
    (k : ∀ h', Wr h h' a (Jvm.RoadKit.slotOf Z O n d) v → CHr Z EL vm h vm h' → Go p l e R s m args below meth c Z a0 EL own Q vm h' cells slots (mkF m pc' L rest)) : Go p l e R s m args below meth c Z a0 EL own Q vm h cells slots (mkF m pc L (v :: .ref a :: rest)) :=
  gwr _ ha hs (fun T locs X hZ hown eT => by
    subst hp
    exact putF (s := s.setVm vm) X hx hZ hown (host := host) w via eT F E Lw wi hty hn hf (g := mkF m pc L (v :: .ref a :: rest)) rfl rfl hd) k
/-! objects and arrays are made -/
theorem gnewO {C : String} {index n : Nat} (hx : p.tables.exec = Jvm.exec) (w : (Cond.classLink own index C).before a0 Z = true) (wi : (Cond.instantiable C n).before a0 Z = true) (wz : (Cond.initialized C).before a0 Z = true)
    {pc : Nat} (pc' : Nat) {L : Array Slot} {S : List Value} (hd : decode c.code pc = .ok (.new index, 3)) (hp : pc + 3 = pc') (hc : cells + 1 ≤ R.cells) (hl : slots + n ≤ R.slots)
    (k : ∀ (b : Addr) (h' : Heap), h.size = b → Ext h h' → CHr Z EL vm h vm h' → Exa Z h' b C → (∀ {O nm d : String} {ty : FieldType}, Laid Z a0 C O nm d → parseFieldDescriptor d = some ty → Fld Z h' b O nm d (defaultValue ty)) → Z.heap.size ≤ b → Safe Z EL vm h' b → Go p l e R s m args below meth c Z a0 EL own Q vm h' (cells + 1) (slots + n) (mkF m pc' L (.ref b :: S))) :
    Go p l e R s m args below meth c Z a0 EL own Q vm h cells slots (mkF m pc L S) :=
  gnew (P := fun h' => Exa Z h' h.size C ∧ ∀ (O nm d : String) (ty : FieldType), Laid Z a0 C O nm d → parseFieldDescriptor d = some ty → Fld Z h' h.size O nm d (defaultValue ty)) (fun _ => mkF m pc' L (.ref h.size :: S))
    (fun T locs X hZ hown eT => by
      subst hp
      obtain ⟨T', h', X', e', E, A, D, -, st⟩ := newO (s := s.setVm vm) X hx hZ hown w wi wz eT (g := mkF m pc L S) rfl hd hc hl
      exact ⟨T', h', X', e', E, ⟨A, fun _ _ _ _ q r => D q r⟩, st⟩)
    (fun h' E hC hP hz hs => k _ h' rfl E hC hP.1 (fun q r => hP.2 _ _ _ _ q r) hz hs)
theorem gnewP {aty : ArrayType} (hx : p.tables.exec = Jvm.exec) (w : (Cond.arrayClass (newarray.typeOf aty)).before a0 Z = true) {n : Int32} (hn : ¬ n < 0) {cap : Nat} (hcap : n.toNatClampNeg ≤ cap) (hb : cap * 8 ≤ 536870912)
    {pc : Nat} (pc' : Nat) {L : Array Slot} {S : List Value} (hd : decode c.code pc = .ok (.newarray aty, 2)) (hp : pc + 2 = pc') (hc : cells + 1 ≤ R.cells) (hl : slots + cap ≤ R.slots)
    (k : ∀ (b : Addr) (h' : Heap) (cA : ClassId), h.size = b → Ext h h' → CHr Z EL vm h vm h' → Arv Z h' b cA (newarray.typeOf aty) n [] (defaultValue (newarray.typeOf aty)) → Z.heap.size ≤ b → Safe Z EL vm h' b → Go p l e R s m args below meth c Z a0 EL own Q vm h' (cells + 1) (slots + cap) (mkF m pc' L (.ref b :: S))) :
    Go p l e R s m args below meth c Z a0 EL own Q vm h cells slots (mkF m pc L (.int n :: S)) :=
  gnew (P := fun h' => ∃ cA, Arv Z h' h.size cA (newarray.typeOf aty) n [] (defaultValue (newarray.typeOf aty))) (fun _ => mkF m pc' L (.ref h.size :: S))
    (fun T locs X hZ hown eT => by
      subst hp
      obtain ⟨T', h', cA, X', e', E, A, st⟩ := newP (s := s.setVm vm) X hx hZ w eT (g := mkF m pc L (.int n :: S)) rfl hd rfl hn hcap hb hc hl
      exact ⟨T', h', X', e', E, ⟨cA, Arv.new A hn⟩, st⟩)
    (fun h' E hC hP hz hs => by obtain ⟨cA, V⟩ := hP; exact k _ h' cA rfl E hC V hz hs)
theorem gnewR {C : String} {index : Nat} (hx : p.tables.exec = Jvm.exec) (w1 : (Cond.classLink own index C).before a0 Z = true) (w2 : (Cond.arrayOver (.object C)).before a0 Z = true) {n : Int32} (hn : ¬ n < 0) {cap : Nat} (hcap : n.toNatClampNeg ≤ cap) (hb : cap * 8 ≤ 536870912) {ad : String} (had : "[" ++ (FieldType.object C).toString = ad)
    {pc : Nat} (pc' : Nat) {L : Array Slot} {S : List Value} (hd : decode c.code pc = .ok (.anewarray index, 3)) (hp : pc + 3 = pc') (hc : cells + 1 ≤ R.cells) (hl : slots + cap ≤ R.slots)
    (k : ∀ (b : Addr) (h' : Heap) (cA : ClassId), h.size = b → Ext h h' → CHr Z EL vm h vm h' → Arv Z h' b cA (.object C) n [] .null → Exa Z h' b ad → Ovr Z cA C → Z.heap.size ≤ b → Safe Z EL vm h' b → Go p l e R s m args below meth c Z a0 EL own Q vm h' (cells + 1) (slots + cap) (mkF m pc' L (.ref b :: S))) :
    Go p l e R s m args below meth c Z a0 EL own Q vm h cells slots (mkF m pc L (.int n :: S)) :=
  gnew (P := fun h' => ∃ cA, Arv Z h' h.size cA (.object C) n [] .null ∧ Exa Z h' h.size ad ∧ Ovr Z cA C) (fun _ => mkF m pc' L (.ref h.size :: S))
    (fun T locs X hZ hown eT => by
      subst hp
      obtain ⟨T', h', cA, X', e', E, A, X1, O, st⟩ := newRE (s := s.setVm vm) X hx hZ hown w1 w2 eT (g := mkF m pc L (.int n :: S)) rfl hd rfl hn hcap hb hc hl had
      exact ⟨T', h', X', e', E, ⟨cA, Arv.new A hn, X1, O⟩, st⟩)
    (fun h' E hC hP hz hs => by obtain ⟨cA, V, X1, O⟩ := hP; exact k _ h' cA rfl E hC V X1 O hz hs)
/-! arrays are written and read -/
theorem gstC {a : Addr} {kc : ClassId} {n : Int32} {vs : List Value} {d : Value} {j x y : Int32} {i : Nat} (hx : p.tables.exec = Jvm.exec) (F : Arv Z h a kc .char n vs d) (hin : ¬ j < 0 ∧ j < n) (hj : j.toNatClampNeg = i) (hi : i < vs.length) (hy : nar .char x = y) (ha : Z.heap.size ≤ a)
    {pc : Nat} (pc' : Nat) {L : Array Slot} {rest : List Value} (hd : decode c.code pc = .ok (.castore, 1)) (hp : pc + 1 = pc')
    (k : ∀ h', Wr h h' a i (.int y) → CHr Z EL vm h vm h' → Arv Z h' a kc .char n (vs.set i (.int y)) d → Go p l e R s m args below meth c Z a0 EL own Q vm h' cells slots (mkF m pc' L rest)) : Go p l e R s m args below meth c Z a0 EL own Q vm h cells slots (mkF m pc L (.int x :: .int j :: .ref a :: rest)) := by
  subst hy hj hp
  obtain ⟨cl, Ar, q1, q2, q3, q4, q5⟩ := F
  exact gwr _ ha (fun al => Safe.arr al Ar (by decide)) (fun T locs X hZ hown eT => stC (s := s.setVm vm) X hx hZ eT Ar (j := j) (inb_of q2 hin) (g := mkF m pc L (.int x :: .int j :: .ref a :: rest)) rfl rfl hd) fun h' W hC => k h' W hC (Arv.set Ar q1 q2 q3 q4 q5 (fits_nar_char _) W _ rfl hi)
theorem gstR {a : Addr} {kc : ClassId} {C : String} {n : Int32} {vs : List Value} {d v : Value} {j : Int32} {i : Nat} (hx : p.tables.exec = Jvm.exec) (F : Arv Z h a kc (.object C) n vs d) (hin : ¬ j < 0 ∧ j < n) (hj : j.toNatClampNeg = i) (hi : i < vs.length) (S : Sto Z h a v) (hv : v.isRef = true) (ha : Z.heap.size ≤ a)
    {pc : Nat} (pc' : Nat) {L : Array Slot} {rest : List Value} (hd : decode c.code pc = .ok (.aastore, 1)) (hp : pc + 1 = pc')
    (k : ∀ h', Wr h h' a i v → CHr Z EL vm h vm h' → Arv Z h' a kc (.object C) n (vs.set i v) d → Go p l e R s m args below meth c Z a0 EL own Q vm h' cells slots (mkF m pc' L rest)) : Go p l e R s m args below meth c Z a0 EL own Q vm h cells slots (mkF m pc L (v :: .int j :: .ref a :: rest)) := by
  subst hj hp
  obtain ⟨cl, Ar, q1, q2, q3, q4, q5⟩ := F
  exact gwr _ ha (fun al => Safe.arr al Ar nofun) (fun T locs X hZ hown eT => stR (s := s.setVm vm) X hx hZ eT Ar (j := j) (inb_of q2 hin) rfl S (g := mkF m pc L (v :: .int j :: .ref a :: rest)) rfl rfl hd) fun h' W hC => k h' W hC (Arv.set Ar q1 q2 q3 q4 q5 (by cases v <;> first | rfl | (cases hv; done)) W _ rfl hi)
theorem gldR {a : Addr} {kc : ClassId} {C : String} {n : Int32} {vs : List Value} {d v : Value} {j : Int32} {i : Nat} (hx : p.tables.exec = Jvm.exec) (F : Arv Z h a kc (.object C) n vs d) (hin : ¬ j < 0 ∧ j < n) (hj : j.toNatClampNeg = i) (hv : vs.getD i d = v)
    {pc : Nat} (pc' : Nat) {L : Array Slot} {rest : List Value} (hd : decode c.code pc = .ok (.aaload, 1)) (hp : pc + 1 = pc')
    (k : Go p l e R s m args below meth c Z a0 EL own Q vm h cells slots (mkF m pc' L (v :: rest))) : Go p l e R s m args below meth c Z a0 EL own Q vm h cells slots (mkF m pc L (.int j :: .ref a :: rest)) := by
  subst hj hp
  obtain ⟨cl, Ar, q1, q2, q3, q4, q5⟩ := F
  exact gx _ (fun T locs X hZ hown eT => X.aaload (s := s.setVm vm) hx (by rw [eT]; exact Ar.1) (State.isArrayOf_alike hZ.alike Ar.2.1) rfl Ar.2.2 (inb_of q2 hin) (q4.at (inb_of q2 hin) hv) (g := mkF m pc L (.int j :: .ref a :: rest)) rfl rfl hd) k
theorem glen {a : Addr} {kc : ClassId} {ty : FieldType} {n : Int32} {vs : List Value} {d : Value} (hx : p.tables.exec = Jvm.exec) (F : Arv Z h a kc ty n vs d)
    {pc : Nat} (pc' : Nat) {L : Array Slot} {rest : List Value} (hd : decode c.code pc = .ok (.arraylength, 1)) (hp : pc + 1 = pc')
    (k : Go p l e R s m args below meth c Z a0 EL own Q vm h cells slots (mkF m pc' L (.int n :: rest))) : Go p l e R s m args below meth c Z a0 EL own Q vm h cells slots (mkF m pc L (.ref a :: rest)) := by
  subst hp
  obtain ⟨cl, Ar, q1, q2, q3, q4, q5⟩ := F
  exact gx _ (fun T locs X hZ hown eT t kk => X.arraylength (s := s.setVm vm) hx (by rw [eT]; exact Ar.1) (State.isArrayOf_alike hZ.alike Ar.2.1) (g := mkF m pc L (.ref a :: rest)) rfl rfl hd t (by rw [len_of q2 q3]; exact kk)) k
/-! casts, constants -/
theorem gcast {K : String} {index : Nat} (hx : p.tables.exec = Jvm.exec) (w : (Cond.classLink own index K).before a0 Z = true) {a : Addr} (F : Ins Z h a K true) {pc : Nat} (pc' : Nat) {L : Array Slot} {rest : List Value} (hd : decode c.code pc = .ok (.checkcast index, 3)) (hp : pc + 3 = pc')
    (k : Go p l e R s m args below meth c Z a0 EL own Q vm h cells slots (mkF m pc' L (.ref a :: rest))) : Go p l e R s m args below meth c Z a0 EL own Q vm h cells slots (mkF m pc L (.ref a :: rest)) :=
  gy _ (fun T locs X hZ hown eT => by
    subst hp
    exact castY (s := s.setVm vm) X hx hZ hown w eT F (g := mkF m pc L (.ref a :: rest)) rfl rfl hd) k
theorem ginstY {K : String} {index : Nat} (hx : p.tables.exec = Jvm.exec) (w : (Cond.classLink own index K).before a0 Z = true) {a : Addr} (F : Ins Z h a K true) {pc : Nat} (pc' : Nat) {L : Array Slot} {rest : List Value} (hd : decode c.code pc = .ok (.instanceof index, 3)) (hp : pc + 3 = pc')
    (k : Go p l e R s m args below meth c Z a0 EL own Q vm h cells slots (mkF m pc' L (.int 1 :: rest))) : Go p l e R s m args below meth c Z a0 EL own Q vm h cells slots (mkF m pc L (.ref a :: rest)) :=
  gy _ (fun T locs X hZ hown eT => by
    subst hp
    exact instY (s := s.setVm vm) X hx hZ hown w eT F (g := mkF m pc L (.ref a :: rest)) rfl rfl hd) k
theorem ginstN {K C : String} {index : Nat} (hx : p.tables.exec = Jvm.exec) (w : (Cond.classLink own index K).before a0 Z = true) {a : Addr} (E : Exa Z h a C) (F : ∃ c t, Z.vm.findClass C = some c ∧ Z.vm.findClass K = some t ∧ Z.vm.assignable c t = false) {pc : Nat} (pc' : Nat) {L : Array Slot} {rest : List Value} (hd : decode c.code pc = .ok (.instanceof index, 3)) (hp : pc + 3 = pc')
    (k : Go p l e R s m args below meth c Z a0 EL own Q vm h cells slots (mkF m pc' L (.int 0 :: rest))) : Go p l e R s m args below meth c Z a0 EL own Q vm h cells slots (mkF m pc L (.ref a :: rest)) :=
  gy _ (fun T locs X hZ hown eT => by
    subst hp
    exact instNo (s := s.setVm vm) X hx hZ hown w eT E F (g := mkF m pc L (.ref a :: rest)) rfl rfl hd) k
/-- ldc of a String constant of EL, read -/
theorem gldcR {index : Nat} {text : String} (hx : p.tables.exec = Jvm.exec) (w : (Cond.stringLink own index text).before a0 Z = true) (wS : ∀ a ∈ Bundle.stringAtoms, a.before a0 Z = true) (hmem : (own, index) ∈ EL) {n : Nat} (hn : 4 * text.toList.length ≤ n) (hbig : n ≤ 536870912)
    {vs : List Value} {z : Int32} (ht : (∀ c ∈ text.toList, c.toNat < 256) ∧ text.toList.map (fun c => Value.int (Jvm.Lit.byteI c.toNat.toUInt16)) = vs) (hz : ¬ z < 0) (hlz : z.toNatClampNeg = vs.length)
    {pc : Nat} (pc' : Nat) {L : Array Slot} {S : List Value} (hd : decode c.code pc = .ok (.ldc index, 2)) (hp : pc + 2 = pc') (hc : cells + 2 ≤ R.cells) (hl : slots + (n + 4) ≤ R.slots)
    (k : ∀ (a b : Addr) (kb : ClassId) (vm' : Vm) (h' : Heap), Ext h h' → CHr Z EL vm h vm' h' → Exa Z h' a "java/lang/String" → Fld Z h' a "java/lang/String" "coder" "B" (.int 0) → Fld Z h' a "java/lang/String" "value" "[B" (.ref b) → Arv Z h' b kb .byte z vs (.int 0) → (∀ x, Safe Z EL vm' h' x → x ≠ a ∧ x ≠ b) →
      Go p l e R s m args below meth c Z a0 EL own Q vm' h' (cells + 2) (slots + (n + 4)) (mkF m pc' L (.ref a :: S))) : Go p l e R s m args below meth c Z a0 EL own Q vm h cells slots (mkF m pc L S) := fun T X => by
  subst hp
  obtain ⟨locs, k0, X', eT, hZ, hown, hS, hk, N, H, E0, hEL, hx', hlk⟩ := X
  obtain ⟨a, T', h', k1, b, kb, X1, e1, E, hS1, hk1, hZ1, ho1, F1, F2, F3, F4, -, -, hC, -, F5, st⟩ := ldcCH X' hx hZ hown w wS eT hS hk hEL hmem H.1 ht hz hlz (g := mkF m pc L S) rfl hd hn hbig hc hl
  obtain ⟨s2, o, q1, q2⟩ := k a b kb T'.vm h' E hC F1 F2 F3 F4 F5 T' ⟨locs, k1, X1, e1, hZ1, ho1, hS1, hk1, N, H.trans hC, E0, hEL, hx', hlk⟩
  exact ⟨s2, o, st _ q1, q2⟩
end Kit2
end Jvm.OwnKit
namespace Jvm.OwnKit
open Sem ClassFile Op Lib Bundle Jvm.Stand Jvm.Free Jvm.LawKit Jvm.RoadKit
section Kit3
variable {p : Program} {l : Launch} {e : Env} {R : Room} {s : State} {m : MethodId} {args : Array Value} {below : List Frame} {meth : Method} {c : Code} {Z : State} {a0 : Array Value} {EL : List (String × Nat)} {own : String} {Q : Option Value → Vm → Heap → Prop} {vm : Vm} {h h' : Heap} {cells slots : Nat} {g : JFrame}
theorem gi2c {x y : Int32} (hx : p.tables.exec = Jvm.exec) (hy : x.toUInt32.toUInt16.toUInt32.toInt32 = y) {pc : Nat} (pc' : Nat) {L : Array Slot} {rest : List Value} (hd : decode c.code pc = .ok (.i2c, 1)) (hp : pc + 1 = pc')
    (k : Go p l e R s m args below meth c Z a0 EL own Q vm h cells slots (mkF m pc' L (.int y :: rest))) : Go p l e R s m args below meth c Z a0 EL own Q vm h cells slots (mkF m pc L (.int x :: rest)) := by
  subst hy hp
  exact gs _ (fun _ _ A k => XS.i2c A hx rfl hd rfl k) k
theorem narC (x : Int32) : nar .char (x &&& 255) = x &&& 255 := i2c_mask x
/-- a char of 0 to 255 -/
def B8 (c : Int32) : Prop := ¬ c < 0 ∧ ¬ (255 : Int32) < c
theorem b255 (x : Int32) : B8 (x &&& 255) := by
  have h := c_mask x 255 8 (by decide) (by decide)
  have e1 : (0 : Int32).toInt = 0 := rfl
  have e2 : (255 : Int32).toInt = 255 := rfl
  refine ⟨?_, ?_⟩
  · rw [Int32.lt_iff_toInt_lt, h, e1]; omega
  · rw [Int32.lt_iff_toInt_lt, h, e2]; omega
theorem bnil : ∀ c ∈ ([] : List Int32), B8 c := fun _ q => nomatch q
theorem bcons {a : Int32} {L : List Int32} (q : B8 a) (r : ∀ c ∈ L, B8 c) : ∀ c ∈ a :: L, B8 c := fun c z => (List.mem_cons.mp z).elim (fun u => u ▸ q) (r c)
/-- an ordinary Latin-1 String and its bytes -/
def Str (Z : State) (h : Heap) (a t : Addr) (cs : List Int32) : Prop := Exa Z h a "java/lang/String" ∧ Fld Z h a "java/lang/String" "coder" "B" (.int 0) ∧ Fld Z h a "java/lang/String" "value" "[B" (.ref t) ∧
  (∃ kb, Arv Z h t kb .byte (Int32.ofNat cs.length) ((cs.map fun c => c.toInt8.toInt32).map Value.int) (.int 0)) ∧ (∀ c ∈ cs, B8 c) ∧ cs.length ≤ 4000
variable {a t o : Addr} {cs : List Int32} {ws : List Addr} {sl : Nat} {v : Value}
theorem Str.ext (F : Str Z h a t cs) (E : Ext h h') : Str Z h' a t cs := by
  obtain ⟨f1, f2, f3, ⟨kb, f4⟩, f5⟩ := F
  exact ⟨f1.ext E, f2.ext E, f3.ext E, ⟨kb, f4.ext E⟩, f5⟩
theorem Str.keep (F : Str Z h a t cs) (K : Keep h h' ws) (q : a ∉ ws) (r : t ∉ ws) : Str Z h' a t cs := by
  obtain ⟨f1, f2, f3, ⟨kb, f4⟩, f5⟩ := F
  exact ⟨f1.keep K, f2.keep K q, f3.keep K q, ⟨kb, f4.keep K r⟩, f5⟩
theorem Str.other (F : Str Z h a t cs) (W : Wr h h' o sl v) (q : a ≠ o) (r : t ≠ o) : Str Z h' a t cs := by
  obtain ⟨f1, f2, f3, ⟨kb, f4⟩, f5⟩ := F
  exact ⟨f1.wr W, f2.other W (Or.inl q), f3.other W (Or.inl q), ⟨kb, f4.other W r⟩, f5⟩
theorem Str.tlt (F : Str Z h a t cs) : t < h.size := by
  obtain ⟨f1, f2, f3, ⟨kb, f4⟩, f5⟩ := F
  exact f4.lt
theorem Str.neq {b u : Addr} {ds : List Int32} (F : Str Z h a t cs) (G : Str Z h b u ds) (q : cs ≠ ds) : a ≠ b := fun e => by
  subst e
  obtain ⟨-, -, f3, ⟨kb, A, f4, -, f6, -, f8, -⟩, f9, f10⟩ := F
  obtain ⟨-, -, g3, ⟨kb', A', g4, -, g6, -, g8, -⟩, g9, g10⟩ := G
  have e1 : t = u := by
    obtain ⟨cell, cf, k, i, f, h1, h2, -, -, -, -, h7⟩ := f3
    obtain ⟨cell', cf', k', i', f', h1', h2', -, -, -, -, h7'⟩ := g3
    cases h1.symm.trans h1'
    cases h2.symm.trans h2'
    have := Option.some.inj (h7.symm.trans h7')
    cases this; rfl
  subst e1
  cases f4.1.symm.trans g4.1
  have e2 : cs.length = ds.length := by
    rw [f6] at g6
    have r : ∀ n : Nat, n ≤ 4000 → (Int32.ofNat n).toNatClampNeg = n := fun n hn => by
      have := (back32 (n := Int32.ofNat n) (by rw [Int32.lt_iff_toInt_lt, Int32.toInt_ofNat_of_lt (by omega)]; simp)).1
      rw [Int32.toNatClampNeg, Int32.toInt_ofNat_of_lt (by omega)]; rfl
    rw [r _ f10, r _ g10] at g6; exact g6
  apply q
  apply List.ext_getElem e2
  intro i h1 h2
  have sz : i < A.slots.size := by
    rw [f6, Int32.toNatClampNeg, Int32.toInt_ofNat_of_lt (by omega)]; exact h1
  have w1 := f8 i sz
  have w2 := g8 i sz
  rw [w1] at w2
  have w3 := Option.some.inj w2
  simp only [List.map_map, List.getD_eq_getElem?_getD, List.getElem?_map, List.getElem?_eq_getElem h1, List.getElem?_eq_getElem h2, Option.map_some, Option.getD_some, Function.comp] at w3
  have w4 := Value.int.inj w3
  have b1 := f9 _ (List.getElem_mem h1)
  have b2 := g9 _ (List.getElem_mem h2)
  generalize cs[i] = x at *
  generalize ds[i] = y at *
  obtain ⟨b1a, b1b⟩ := b1
  obtain ⟨b2a, b2b⟩ := b2
  have c1 := c_i2b x
  have c2 := c_i2b y
  rw [w4] at c1
  rw [Int32.lt_iff_toInt_lt] at b1a b1b b2a b2b
  have e0 : (0 : Int32).toInt = 0 := rfl
  have e255 : (255 : Int32).toInt = 255 := rfl
  rw [e0] at b1a b2a
  rw [e255] at b1b b2b
  apply Int32.toInt_inj.mp
  omega
theorem Str.lit {kb : ClassId} {z : Int32} {vs : List Value} (E : Exa Z h a "java/lang/String") (C : Fld Z h a "java/lang/String" "coder" "B" (.int 0)) (V : Fld Z h a "java/lang/String" "value" "[B" (.ref t)) (A : Arv Z h t kb .byte z vs (.int 0)) (hb : ∀ c ∈ cs, ¬ c < 0 ∧ ¬ (255 : Int32) < c)
    (hz : z = Int32.ofNat cs.length) (hv : vs = (cs.map fun c => c.toInt8.toInt32).map Value.int) (hl : cs.length ≤ 4000) : Str Z h a t cs := ⟨E, C, V, ⟨kb, by rw [← hz, ← hv]; exact A⟩, hb, hl⟩
theorem Arv.sto {kc : ClassId} {C : String} {n : Int32} {vs : List Value} {d : Value} {y : Addr} (F : Arv Z h a kc (.object C) n vs d) (O : Ovr Z kc C) (I : Ins Z h y C true) : Sto Z h a (.ref y) := by
  obtain ⟨cl, Ar, q1, -⟩ := F
  exact Sto.ofV Ar q1 O I
end Kit3
end Jvm.OwnKit
namespace Jvm.OwnKit
open Sem ClassFile Op Lib Bundle Jvm.Stand Jvm.Free Jvm.LawKit Jvm.RoadKit
section Kit4
variable {p : Program} {l : Launch} {e : Env} {R : Room} {s : State} {m : MethodId} {args : Array Value} {below : List Frame} {meth : Method} {c : Code} {Z : State} {a0 : Array Value} {EL : List (String × Nat)} {own : String} {Q : Option Value → Vm → Heap → Prop} {vm : Vm} {h h' : Heap} {cells slots : Nat} {g : JFrame}
/-- C's chain of superclasses doesn't meet an instantiable K -/
theorem NSroot {O K : String} {n : Nat} (w : (Cond.noSuperclass O).before a0 Z = true) (wk : (Cond.instantiable K n).before a0 Z = true) (hn : O ≠ K) : NS Z O K := by
  obtain ⟨c, k, h1, h2, h3, -, -⟩ := Cond.noSuperclass_spec w
  obtain ⟨t, k', g1, g2, g3, g4, -⟩ := Cond.instantiable_spec wk
  have ne := ids_ne h1 g1 hn
  refine ⟨c, t, h1, g1, fun fuel => ?_⟩
  cases fuel with
  | zero => rfl
  | succ f => simp [Vm.isSubclassAux, ne, h2, h3]
theorem NSno {C S K : String} {n : Nat} (w : (Cond.superclass C S).before a0 Z = true) (wk : (Cond.instantiable K n).before a0 Z = true) (nn : NS Z C K) (hn : C ≠ K) : ∃ c t, Z.vm.findClass C = some c ∧ Z.vm.findClass K = some t ∧ Z.vm.assignable c t = false := by
  obtain ⟨c, t, h0, g0, n3⟩ := nn
  obtain ⟨p, k, kp, h1, h2, h3, h4, h5, -, h7⟩ := Cond.superclass_spec h0 w
  obtain ⟨t', k', g1, g2, g3, g4, -⟩ := Cond.instantiable_spec wk
  cases g0.symm.trans g1
  have ne := ids_ne h0 g0 hn
  have g5 : k'.isInterface = false := by cases hq : k'.isInterface <;> simp [hq] at g4 ⊢
  refine ⟨c, t, h0, g0, ?_⟩
  show Z.vm.assignableAux (255 + 1) c t = false
  simp [Vm.assignableAux, ne, h2, g2, h5, g3, g5, Vm.isSubclass, n3]
variable {b : Addr} {cs : List Int32} {ws : List Addr} {sl : Nat} {v : Value} {o : Addr}
/-! out of the case's words -/
theorem staI {C n d : String} {y : Int32} (w : (Cond.eq (Term.static C n d) (Term.int y)).before args s = true) (wi : (Cond.initializedFor C n d).before args s = true) : Sta s s.heap C n d (.int y) := by
  have w := Cond.before_iff.mp w
  obtain ⟨x, y', e1, e2, k1, k2⟩ := cmp_v (Or.inl w)
  cases (Option.some.inj e2 : Value.int y = y')
  obtain ⟨z, rfl⟩ := k2
  have e3 : z = y := by
    generalize Term.static C n d = t at *
    simpa [Cond.value, Term.eval, e1] using w
  subst e3
  exact Sta.start e1 (Or.inl wi)
theorem eqI {t : Term} {x y : Int32} {idx : List Nat} (h1 : t.eval args s none idx s = some (.int x)) (h2 : (Cond.eq t (Term.int y)).value args s none s idx = some true) : x = y := by simpa [Cond.value, Term.eval, h1] using h2
theorem lenlt {t : Term} {v : Value} {aa : Addr} {cl : Cell} (h : (Term.length t).eval args s none [] s = some v) (ht : t.eval args s none [] s = some (.ref aa)) (hA : s.arrayAt? aa = some cl) : cl.slots.size < 2 ^ 31 := by
  apply Decidable.byContradiction
  intro hb
  simp [Term.eval, ht, hA, hb] at h
theorem lenI {t : Term} {n : Int32} {aa : Addr} {cl : Cell} (w : (Cond.eq (Term.length t) (Term.int n)).value args s none s [] = some true) (ht : t.eval args s none [] s = some (.ref aa)) (hA : s.arrayAt? aa = some cl) : cl.slots.size < 2 ^ 31 ∧ cl.slots.size.toInt32 = n := by
  obtain ⟨x, y, f1, f2, -, -⟩ := cmp_v (Or.inl w)
  have hb := lenlt f1 ht hA
  exact ⟨hb, eqI (len_f ht hA hb) w⟩
theorem fldI {t : Term} {aa : Addr} {C n d : String} {y : Int32} (ht : t.eval args s none [] s = some (.ref aa)) (w : (Cond.eq (Term.field t C n d) (Term.int y)).value args s none s [] = some true) : Fld s s.heap aa C n d (.int y) := by
  obtain ⟨x, y', e1, e2, k1, k2⟩ := cmp_v (Or.inl w)
  cases (Option.some.inj e2 : Value.int y = y')
  obtain ⟨z, rfl⟩ := k2
  have := eqI e1 w
  subst this
  exact Fld.start ((fld_at ht).symm.trans e1)
theorem Str.start {t : Term} {cs : List Int32} {n : Int32} {aa : Addr} (hf : Fit s) (ev : t.eval args s none [] s = some (.ref aa)) (wE : (Cond.exactly t "java/lang/String").value args s none s [] = some true) (wC : (Cond.eq (Term.field t "java/lang/String" "coder" "B") (Term.int 0)).value args s none s [] = some true)
    (wA : (Cond.arrayOf (Term.field t "java/lang/String" "value" "[B") .byte).value args s none s [] = some true) (wL : (Cond.eq (Term.length (Term.field t "java/lang/String" "value" "[B")) (Term.int n)).value args s none s [] = some true) (hn : n = Int32.ofNat cs.length) (hl : cs.length ≤ 4000) (hb : ∀ c ∈ cs, B8 c)
    (H : ∀ (tt : Addr) (cl : Cell), (Term.field t "java/lang/String" "value" "[B").eval args s none [] s = some (.ref tt) → s.heap[tt]? = some cl → HasL cl 0 ((cs.map fun c => c.toInt8.toInt32).map Value.int)) : ∃ tt, Str s s.heap aa tt cs := by
  obtain ⟨tt, et⟩ := arr_v wA
  obtain ⟨cl, Ar⟩ := Arr.start et wA
  have hA : s.arrayAt? tt = some cl := Ar.fin (Vm.Alike.refl _)
  obtain ⟨h1, h2⟩ := lenI wL et hA
  have hz : ¬ n < 0 := by rw [hn, Int32.lt_iff_toInt_lt, Int32.toInt_ofNat_of_lt (by omega)]; simp
  have hz2 : n.toNatClampNeg = cs.length := by rw [hn, Int32.toNatClampNeg, Int32.toInt_ofNat_of_lt (by omega)]; rfl
  refine ⟨tt, Exa.start ev wE, fldI ev wC, Fld.start ((fld_at ev).symm.trans et), ⟨cl.cls, ?_⟩, hb, hl⟩
  rw [← hn]
  exact Arv.start hf Ar h1 h2 hz (by rw [hz2]; simp) (H tt cl et Ar.1)
end Kit4
end Jvm.OwnKit
namespace Jvm.OwnKit
open Sem ClassFile Op Lib Bundle Jvm.Stand Jvm.Free Jvm.LawKit Jvm.RoadKit
section Kit5
variable {p : Program} {l : Launch} {e : Env} {R : Room} {s : State} {m : MethodId} {args : Array Value} {below : List Frame} {meth : Method} {c : Code} {Z : State} {a0 : Array Value} {EL : List (String × Nat)} {own : String} {Q : Option Value → Vm → Heap → Prop} {vm : Vm} {h h' : Heap} {cells slots : Nat} {g : JFrame}
/-! arrays of bytes are copied -/
theorem tn {n : Nat} (h : n < 2147483648) : (Int32.ofNat n).toNatClampNeg = n := by rw [Int32.toNatClampNeg, Int32.toInt_ofNat_of_lt (by omega)]; rfl
theorem nn0 {n : Nat} (h : n < 2147483648) : ¬ Int32.ofNat n < 0 := by rw [Int32.lt_iff_toInt_lt, Int32.toInt_ofNat_of_lt (by omega)]; simp
theorem range_get (vs : List Value) (dv : Value) (i n : Nat) (hn : i + n ≤ vs.length) : (vs.drop i).take n = (List.range n).map fun t => vs.getD (i + t) dv := by
  apply List.ext_getElem
  · simp; omega
  · intro t h1 h2
    simp at h1 h2
    simp [List.getD_eq_getElem?_getD, List.getElem?_eq_getElem (show i + t < vs.length by omega)]
/-! a StringBuilder of Latin-1 signs -/
variable {b v t o : Addr} {cap : Nat} {cs ds : List Int32} {ws : List Addr} {sl : Nat} {w : Value}
end Kit5
end Jvm.OwnKit
namespace Jvm.OwnKit
open Sem ClassFile Op Lib Bundle Jvm.Stand Jvm.Free Jvm.LawKit Jvm.RoadKit
section Kit6
variable {p : Program} {l : Launch} {e : Env} {R : Room} {s : State} {m : MethodId} {args : Array Value} {below : List Frame} {meth : Method} {c : Code} {Z : State} {a0 : Array Value} {EL : List (String × Nat)} {own : String} {Q : Option Value → Vm → Heap → Prop} {vm : Vm} {h h' : Heap} {cells slots : Nat} {g : JFrame}
/-- a private method reached by invokevirtual, the word 'selects' at the receiver's class -/
theorem gldcM {C : String} {index : Nat} {mr : Addr} (hx : p.tables.exec = Jvm.exec) (w : (Cond.classLink own index C).before a0 Z = true) (M : Mir Z C mr) {pc : Nat} (pc' : Nat) {L : Array Slot} {S : List Value} (hd : decode c.code pc = .ok (.ldc index, 2)) (hp : pc + 2 = pc')
    (k : Go p l e R s m args below meth c Z a0 EL own Q vm h cells slots (mkF m pc' L (.ref mr :: S))) : Go p l e R s m args below meth c Z a0 EL own Q vm h cells slots (mkF m pc L S) :=
  gy _ (fun T locs X hZ hown eT => by
    subst hp
    obtain ⟨cc, kc, m1, m2, m3, -⟩ := M
    obtain ⟨k', q, ek⟩ := hZ.alike.2.2 _ _ m2
    have f1 : vm.findClass C = some cc := by rw [hZ.alike.findClass]; exact m1
    have f3 : k'.mirror = some mr := by rw [ek]; exact m3
    have hev : (Term.mirror C).eval args (s.setVm vm) none [] (s.setVm vm) = some (.ref mr) := by simp [Term.eval, f1, q, f3]
    obtain ⟨vm', X', st⟩ := X.ldcMirror hx hown (mv (s := s.setVm vm) hZ w) hev (g := mkF m pc L S) rfl hd
    exact ⟨_, X', eT, st⟩) k
theorem ggcls {C : String} {index : Nat} {mr a : Addr} (hx : p.tables.exec = Jvm.exec) (w1 : (Cond.methodLink own index ⟨"java/lang/Object", "getClass", "()Ljava/lang/Class;"⟩).before a0 Z = true) (w2 : (Cond.declares ⟨"java/lang/Object", "getClass", "()Ljava/lang/Class;"⟩).before a0 Z = true) (w3 : (Cond.noSuperclass "java/lang/Object").before a0 Z = true) (w4 : (Cond.selects C ⟨"java/lang/Object", "getClass", "()Ljava/lang/Class;"⟩ ⟨"java/lang/Object", "getClass", "()Ljava/lang/Class;"⟩).before a0 Z = true)
    (w5 : (Cond.instanceMethod ⟨"java/lang/Object", "getClass", "()Ljava/lang/Class;"⟩).before a0 Z = true) (w6 : (Cond.native ⟨"java/lang/Object", "getClass", "()Ljava/lang/Class;"⟩).before a0 Z = true) (E : Exa Z h a C) (M : Mir Z C mr)
    {pc : Nat} (pc' : Nat) {L : Array Slot} {rest : List Value} {W : Nat} (hW : (rest.map fun v => v.category).sum ≤ W) (hml : L.size = c.maxLocals) (hd : decode c.code pc = .ok (.invokevirtual index, 3)) (hp : pc + 3 = pc') (hf : 1 ≤ R.frames) (hlo : W + (nativeFrameWords "java/lang/Object" "getClass" 1 + 11) ≤ R.locals)
    (k : Go p l e R s m args below meth c Z a0 EL own Q vm h cells slots (mkF m pc' L (.ref mr :: rest))) : Go p l e R s m args below meth c Z a0 EL own Q vm h cells slots (mkF m pc L (.ref a :: rest)) :=
  gy _ (fun T locs X hZ hown eT => by
    subst hp
    exact gcls (s := s.setVm vm) X hx hZ hown w1 w2 w3 w4 w5 w6 eT E M (g := mkF m pc L (.ref a :: rest)) rfl hml rfl hd hf (W := W) (by show 2 * 0 + _ ≤ _; omega) hlo) k
theorem gcopyR {index : Nat} (hx : p.tables.exec = Jvm.exec) (w1 : (Cond.methodLink own index Jvm.Stand.acN).before a0 Z = true) (w2 : (Cond.native Jvm.Stand.acN).before a0 Z = true) (w3 : (Cond.static Jvm.Stand.acN).before a0 Z = true) (w4 : (Cond.initialized "java/lang/System").before a0 Z = true)
    {Ca Cb : String} {a b : Addr} {ka kb : ClassId} {z z' sp dp nn : Int32} {vs vd : List Value} {dv dd : Value} (i j n N M : Nat) (A : Arv Z h a ka (.object Ca) z vs dv) (B : Arv Z h b kb (.object Cb) z' vd dd) (hsp : sp = Int32.ofNat i) (hdp : dp = Int32.ofNat j) (hnn : nn = Int32.ofNat n) (hz : z = Int32.ofNat N) (hz' : z' = Int32.ofNat M)
    (hN : N < 2147483648) (hM : M < 2147483648) (h4 : i + n ≤ N) (h5 : j + n ≤ M) (hvs : vs.length = N) (hvd : vd.length = M) (hsto : StoL Z h b ((vs.drop i).take n)) (ge : Z.heap.size ≤ b) (hs : Z.vm.Alike vm → Safe Z EL vm h b)
    {pc : Nat} (pc' : Nat) {L : Array Slot} {rest : List Value} {W : Nat} (hW : (rest.map fun v => v.category).sum ≤ W) (hml : L.size = c.maxLocals) (hd : decode c.code pc = .ok (.invokestatic index, 3)) (hp : pc + 3 = pc') (hf : 1 ≤ R.frames) (hlo : W + 18 ≤ R.locals)
    (k : ∀ h', Keep h h' [b] → CHr Z EL vm h vm h' → Arv Z h' b kb (.object Cb) z' (vd.take j ++ (vs.drop i).take n ++ vd.drop (j + n)) dd → Go p l e R s m args below meth c Z a0 EL own Q vm h' cells slots (mkF m pc' L rest)) :
    Go p l e R s m args below meth c Z a0 EL own Q vm h cells slots (mkF m pc L (.int nn :: .int dp :: .ref b :: .int sp :: .ref a :: rest)) := fun T X => by
  subst hp hsp hdp hnn hz hz'
  obtain ⟨locs, k0, X', eT, hZ, hown, hS, hk, N0, H, E0, hEL, hx', hlk⟩ := X
  have ti : (Int32.ofNat i).toNatClampNeg = i := tn (by omega)
  have tj : (Int32.ofNat j).toNatClampNeg = j := tn (by omega)
  have tnn : (Int32.ofNat n).toNatClampNeg = n := tn (by omega)
  obtain ⟨T', h', L', X1, e1, F1, K1, V1, st⟩ := cpA (s := s.setVm vm) X' hx hZ hown w1 w2 w3 w4 eT A B (Or.inr ⟨rfl, rfl, hsto⟩) (nn0 (by omega)) (nn0 (by omega)) (nn0 (by omega)) (by rw [ti, tnn, tn hN]; exact h4) (by rw [tj, tnn, tn hM]; exact h5) (us := (vs.drop i).take n) (by rw [ti, tnn]; exact range_get vs dv i n (by omega)) (by rw [tj, tnn]; omega) N0 ge
    (g := mkF m pc L (.int (Int32.ofNat n) :: .int (Int32.ofNat j) :: .ref b :: .int (Int32.ofNat i) :: .ref a :: rest)) rfl hml rfl hd hf (W := W) (by show 2 * 0 + _ ≤ _; omega) (by show W + (7 + 11) ≤ _; omega)
  rw [tj, tnn] at V1
  have C1 : CHr Z EL vm h vm h' := CHr.keep K1 (allS (hs hZ.alike) all0) H.1
  obtain ⟨s2, o, q1, q2⟩ := k h' K1 C1 V1 T' ⟨L', k0, X1, e1, hZ, hown, hS, Nat.le_trans hk K1.1, F1, H.trans C1, E0, hEL, hx', hlk⟩
  exact ⟨s2, o, st _ q1, q2⟩
theorem gcallIN {index : Nat} {host : String} {y : MethodName} {bytes : ByteArray} {maxL : Nat} (hx : p.tables.exec = Jvm.exec) (hyi : y.name = "<init>") (wl : (Cond.methodLinkNest own index y host).before a0 Z = true) (wi : (Cond.instanceMethod y).before a0 Z = true) (wc : (Cond.code y bytes maxL none).before a0 Z = true)
    (hy : y.cls ≠ "java/lang/invoke/MethodHandle" ∧ y.cls ≠ "java/lang/invoke/VarHandle") {W rc rs : Nat} {as' : Array Value} {Q' : Option Value → Vm → Heap → Prop} (hP : Z.Warmed39 vm → CHv Z EL vm h → EW Z a0 EL → Pay l R p e below s args Z EL vm h y 3 W as' rc rs Q')
    {pc : Nat} (pc' : Nat) {L : Array Slot} {S argsL rest : List Value} {a : Addr} (hlen : ∀ sig, parseMethodDescriptor y.desc = some sig → argsL.length = sig.parameters.length) (has : (.ref a :: argsL).toArray = as') (hstk : S = argsL.reverse ++ .ref a :: rest) (hW : (rest.map fun v => v.category).sum ≤ W) (hml : L.size = c.maxLocals)
    (hd : decode c.code pc = .ok (.invokespecial index, 3)) (hp : pc + 3 = pc') (hc : cells + rc ≤ R.cells) (hs : slots + rs ≤ R.slots)
    (k : ∀ v vm' h', CHr Z EL vm h vm' h' → Q' v vm' h' → Go p l e R s m args below meth c Z a0 EL own Q vm' h' (cells + rc) (slots + rs) (mkF m pc' L (v.toList ++ rest))) : Go p l e R s m args below meth c Z a0 EL own Q vm h cells slots (mkF m pc L S) :=
  gback (y := y) (as' := as') (fun T locs X hZ hown eT H hEL => by
    subst has hp hstk
    exact X.specialBackNestS (s := s.setVm vm) hx hyi hown (Cond.methodLinkNest_wide hZ wl :) (mvT hZ wi) (mvT hZ wc) hy (hP hZ H hEL) (g := mkF m pc L _) rfl hml (Steps.refl _) hlen rfl (by show 2 * 0 + _ ≤ _; omega) hd (fun _ _ => ⟨rfl, eT, hc, hs⟩)) k
end Kit6
end Jvm.OwnKit
namespace Jvm.OwnKit
open Sem ClassFile Op Lib Bundle Jvm.Stand Jvm.Free Jvm.LawKit Jvm.RoadKit
section Kit7
variable {p : Program} {l : Launch} {e : Env} {R : Room} {s : State} {m : MethodId} {args : Array Value} {below : List Frame} {meth : Method} {c : Code} {Z : State} {a0 : Array Value} {EL : List (String × Nat)} {own : String} {Q : Option Value → Vm → Heap → Prop} {vm : Vm} {h h' : Heap} {cells slots : Nat} {g : JFrame}
/-- a private method reached by invokevirtual, the word 'selects' at the receiver's class -/
theorem gbackW {y : MethodName} {rc rs : Nat} {as' : Array Value} {Q' : Option Value → Vm → Heap → Prop} {rest : List Value} {pc' : Nat} {L : Array Slot}
    (st : ∀ T locs, Stand p l e R (s.setVm vm) m args below meth c T locs cells slots → Z.Warmed39 vm → vm.findClass own = some m.cls → T.heap = h → CHv Z EL vm h → EW Z a0 EL →
      ∃ (v : Option Value) (vm₁ : Vm) (B : Pt), (s.setVm vm).WarmedH vm₁ ∧ Stand p l e R ((s.setVm vm).setVm B.U.vm) m args below meth c B.U B.locs B.cells B.slots ∧ (s.setVm vm).Since B.U.vm B.U.heap.size ∧ T.heap.size ≤ B.U.heap.size ∧
        (∃ L, (Fr Z.heap.size L ∧ Q' v B.U.vm B.U.heap) ∧ B.locs = locs ++ L ∧ B.cells = cells + rc ∧ B.slots = slots + rs ∧ CHr Z EL vm h B.U.vm B.U.heap) ∧ Steps p.tables e below (T.setTop g) (B.U.setTop (mkF m pc' L (v.toList ++ rest))))
    (k : ∀ v vm' h', (Z.setVm vm).Warmed39 vm' → CHr Z EL vm h vm' h' → Q' v vm' h' → Go p l e R s m args below meth c Z a0 EL own Q vm' h' (cells + rc) (slots + rs) (mkF m pc' L (v.toList ++ rest))) : Go p l e R s m args below meth c Z a0 EL own Q vm h cells slots g := fun T X => by
  obtain ⟨locs, k0, X', eT, hZ, hown, hS, hk, N, H, E0, hEL, hx, hlk⟩ := X
  obtain ⟨v, vm1, ⟨U, Lx, cx, sx⟩, hW1, X1, hS1, hgr, ⟨L1, ⟨hF, hQ⟩, hl, hc, hs, hC⟩, s1⟩ := st T locs X' hZ hown eT H.1 hEL
  dsimp only [Pt.U, Pt.locs, Pt.cells, Pt.slots] at X1 hS1 hgr hF hQ hl hc hs hC s1
  subst hl hc hs
  obtain ⟨s2, o, q1, q2⟩ := k v U.vm U.heap (State.Warmed39.of_rootvm (s := s.setVm vm) rfl hS1.1) hC hQ U ⟨_, U.heap.size, X1, rfl, State.Warmed39.trans (t := s.setVm vm) hZ hS1.1, (hS1.1.alike.findClass _ _).trans hown, hS.trans hS1 (Nat.le_trans hk (by rw [← eT]; exact hgr)), Nat.le_refl _, Fr.app N hF, H.trans hC, E0, hEL, hx, hlk⟩
  exact ⟨s2, o, s1.trans q1, q2⟩
theorem gcallIW {index : Nat} {y : MethodName} {bytes : ByteArray} {maxL : Nat} (hx : p.tables.exec = Jvm.exec) (hyi : y.name = "<init>") (wl : (Cond.methodLink own index y).before a0 Z = true) (wi : (Cond.instanceMethod y).before a0 Z = true) (wc : (Cond.code y bytes maxL none).before a0 Z = true)
    (hy : y.cls ≠ "java/lang/invoke/MethodHandle" ∧ y.cls ≠ "java/lang/invoke/VarHandle") {W rc rs : Nat} {as' : Array Value} {Q' : Option Value → Vm → Heap → Prop} (hP : Z.Warmed39 vm → CHv Z EL vm h → EW Z a0 EL → Pay l R p e below s args Z EL vm h y 3 W as' rc rs Q')
    {pc : Nat} (pc' : Nat) {L : Array Slot} {S argsL rest : List Value} {a : Addr} (hlen : ∀ sig, parseMethodDescriptor y.desc = some sig → argsL.length = sig.parameters.length) (has : (.ref a :: argsL).toArray = as') (hstk : S = argsL.reverse ++ .ref a :: rest) (hW : (rest.map fun v => v.category).sum ≤ W) (hml : L.size = c.maxLocals)
    (hd : decode c.code pc = .ok (.invokespecial index, 3)) (hp : pc + 3 = pc') (hc : cells + rc ≤ R.cells) (hs : slots + rs ≤ R.slots)
    (k : ∀ v vm' h', (Z.setVm vm).Warmed39 vm' → CHr Z EL vm h vm' h' → Q' v vm' h' → Go p l e R s m args below meth c Z a0 EL own Q vm' h' (cells + rc) (slots + rs) (mkF m pc' L (v.toList ++ rest))) : Go p l e R s m args below meth c Z a0 EL own Q vm h cells slots (mkF m pc L S) :=
  gbackW (y := y) (as' := as') (fun T locs X hZ hown eT H hEL => by
    subst has hp hstk
    exact X.specialBackS (s := s.setVm vm) hx hyi hown (mvT hZ wl) (mvT hZ wi) (mvT hZ wc) hy (hP hZ H hEL) (g := mkF m pc L _) rfl hml (Steps.refl _) hlen rfl (by show 2 * 0 + _ ≤ _; omega) hd (fun _ _ => ⟨rfl, eT, hc, hs⟩)) k
theorem gretW {v : Option Value} (hv : meth.sig.returnType = none → v = none) (hc : cells ≤ R.cells) (hs : slots ≤ R.slots)
    (st : ∀ T locs fs, Stand p l e R (s.setVm vm) m args below meth c T locs cells slots → (∀ (f : JFrame) (acts : List Action), f.method = m → f.locked = none → f.entered = [] → (doReturn e (T.setTop f) acts v).1 = T.setFrames fs) → Steps p.tables e below (T.setTop g) (T.setFrames fs))
    (hq : ∀ vm', (Z.setVm vm).Warmed39 vm' → CHr Z EL vm h vm' h → Q v vm' h) : Go p l e R s m args below meth c Z a0 EL own Q vm h cells slots g := fun T X => by
  obtain ⟨locs, k0, X', eT, hZ, hown, hS, hk, N, H, E0, hw, hx, hlk⟩ := X
  obtain ⟨fs, hr, hrun, hend, hW⟩ := X'.leaveW hS (by rw [eT]; exact hk) hv hlk
  have C1 : CHr Z EL vm h T.vm h := CHv.at X' hZ hw H.1
  refine ⟨_, _, st T locs fs X' hr, hrun, hend, v, locs, rfl, ⟨N, ?_⟩, ?_, ?_⟩
  · show Q v T.vm T.heap
    rw [eT]; exact hq _ (State.Warmed39.of_rootvm (s := s.setVm vm) rfl (show (s.setVm vm).Warmed39 T.vm from X'.warmed.wide)) C1
  · show CHr Z EL s.vm s.heap T.vm T.heap
    rw [eT]; exact H.trans C1
  · exact ⟨hW.1, hW.2.1, hW.2.2.1, hW.2.2.2.mono hc hs⟩
theorem gretAW {t : FieldType} {pc : Nat} {Ls : Array Slot} {v : Value} {rest : List Value} (hx : p.tables.exec = Jvm.exec) (hret : meth.sig.returnType = some t) (ht : t.isReference = true) (hv : v.isRef = true) (hd : decode c.code pc = .ok (.areturn, 1)) (hc : cells ≤ R.cells) (hs : slots ≤ R.slots)
    (hq : ∀ vm', (Z.setVm vm).Warmed39 vm' → CHr Z EL vm h vm' h → Q (some v) vm' h) : Go p l e R s m args below meth c Z a0 EL own Q vm h cells slots (mkF m pc Ls (v :: rest)) :=
  gretW (v := some v) (fun q => by rw [hret] at q; cases q) hc hs (fun T locs fs X hr => retOut X hx hret (by cases t <;> first | (cases ht; done) | (cases v <;> first | rfl | (cases hv; done))) (Or.inr (Or.inr (Or.inr (Or.inr ⟨rfl, ht, hv⟩)))) hd hr) hq
theorem gldcL {index : Nat} {text : String} (hx : p.tables.exec = Jvm.exec) (w : (Cond.stringLink own index text).before a0 Z = true) (wS : ∀ a ∈ Bundle.stringAtoms, a.before a0 Z = true) (hmem : (own, index) ∈ EL) {n : Nat} (hn : 4 * text.toList.length ≤ n) (hbig : n ≤ 536870912)
    {vs : List Value} {z : Int32} (ht : (∀ c ∈ text.toList, c.toNat < 256) ∧ text.toList.map (fun c => Value.int (Jvm.Lit.byteI c.toNat.toUInt16)) = vs) (hz : ¬ z < 0) (hlz : z.toNatClampNeg = vs.length)
    {pc : Nat} (pc' : Nat) {L : Array Slot} {S : List Value} (hd : decode c.code pc = .ok (.ldc index, 2)) (hp : pc + 2 = pc') (hc : cells + 2 ≤ R.cells) (hl : slots + (n + 4) ≤ R.slots)
    (k : ∀ (a b : Addr) (kb : ClassId) (vm' : Vm) (h' : Heap), Ext h h' → CHr Z EL vm h vm' h' → Exa Z h' a "java/lang/String" → Fld Z h' a "java/lang/String" "coder" "B" (.int 0) → Fld Z h' a "java/lang/String" "value" "[B" (.ref b) → Arv Z h' b kb .byte z vs (.int 0) → (∀ x, Safe Z EL vm' h' x → x ≠ a ∧ x ≠ b) → Lit (Z.setVm vm') own index a →
      Go p l e R s m args below meth c Z a0 EL own Q vm' h' (cells + 2) (slots + (n + 4)) (mkF m pc' L (.ref a :: S))) : Go p l e R s m args below meth c Z a0 EL own Q vm h cells slots (mkF m pc L S) := fun T X => by
  subst hp
  obtain ⟨locs, k0, X', eT, hZ, hown, hS, hk, N, H, E0, hEL, hx', hlk⟩ := X
  obtain ⟨a, T', h', k1, b, kb, X1, e1, E, hS1, hk1, hZ1, ho1, F1, F2, F3, F4, -, -, hC, FL, F5, st⟩ := ldcCH X' hx hZ hown w wS eT hS hk hEL hmem H.1 ht hz hlz (g := mkF m pc L S) rfl hd hn hbig hc hl
  obtain ⟨s2, o, q1, q2⟩ := k a b kb T'.vm h' E hC F1 F2 F3 F4 F5 FL T' ⟨locs, k1, X1, e1, hZ1, ho1, hS1, hk1, N, H.trans hC, E0, hEL, hx', hlk⟩
  exact ⟨s2, o, st _ q1, q2⟩
theorem gldcA {index : Nat} {text : String} {a : Addr} (hx : p.tables.exec = Jvm.exec) (w : (Cond.stringLink own index text).before a0 Z = true) (hL : Lit (Z.setVm vm) own index a) {pc : Nat} (pc' : Nat) {L : Array Slot} {S : List Value} (hd : decode c.code pc = .ok (.ldc index, 2)) (hp : pc + 2 = pc')
    (k : Go p l e R s m args below meth c Z a0 EL own Q vm h cells slots (mkF m pc' L (.ref a :: S))) : Go p l e R s m args below meth c Z a0 EL own Q vm h cells slots (mkF m pc L S) :=
  gx _ (fun T locs X hZ hown eT target hrest => by
    subst hp
    obtain ⟨k, cf, i, units, hk, hcf, hcp, -⟩ := Cond.stringLink_spec (s := Z.setVm vm) hown (Cond.stringLink_warmed39 hZ w)
    have hk0 : vm.classes[m.cls]? = some k := hk
    have hr : k.resolved[index]? = some (some (.string a)) := by
      have q : (Z.setVm vm).resolvedAt? own index = some (.string a) := hL
      have hown' : (Z.setVm vm).vm.findClass own = some m.cls := hown
      have hk' : (Z.setVm vm).vm.classes[m.cls]? = some k := hk
      simp only [State.resolvedAt?, hown', hk', Option.bind_eq_bind, Option.bind_some] at q
      cases hx : k.resolved[index]? with
      | none => simp [hx] at q
      | some y => simp only [hx, Option.join_some] at q; rw [q]
    obtain ⟨k', hk', he⟩ := X.warmed.alike.2.2 _ _ hk
    have hr' : k'.resolved[index]? = some (some (.string a)) := by
      rcases X.warmed.entry hk hk' index with h | ⟨h, -⟩
      · rw [h]; exact hr
      · rw [hr] at h; cases h
    jvm_step X.here [hx, (show decode c.code (mkF m pc L S).pc = _ from hd), ldc.wp_string (e := e) (s := T) (f := mkF m pc L S) X.here.top hk' (by rw [he]; exact hcf) hcp hr']
    exact hrest) k
end Kit7
end Jvm.OwnKit
namespace Jvm.OwnKit
open Sem ClassFile Op Lib Bundle Jvm.Stand Jvm.Free Jvm.LawKit Jvm.RoadKit
section Kit8
variable {p : Program} {l : Launch} {e : Env} {R : Room} {s : State} {m : MethodId} {args : Array Value} {below : List Frame} {meth : Method} {c : Code} {Z : State} {a0 : Array Value} {EL : List (String × Nat)} {own : String} {Q : Option Value → Vm → Heap → Prop} {vm : Vm} {h h' : Heap} {cells slots : Nat} {g : JFrame}
variable {bytes : ByteArray} {pc n : Nat} {nf : Fin 4} {L : Array Slot} {S : List Value} {v : Value} {z y : Int32} {i : Int}
theorem uA (pc' : Nat) (hx : p.tables.exec = Jvm.exec) (hby : c.code = bytes) (hd : decode bytes pc = .ok (.aload n, 2)) (hp : pc + 2 = pc') (hl : L[n]? = some (.val v)) (hv : v.isRef = true) (k : Go p l e R s m args below meth c Z a0 EL own Q vm h cells slots (mkF m pc' L (v :: S))) : Go p l e R s m args below meth c Z a0 EL own Q vm h cells slots (mkF m pc L S) := by
  subst hp
  exact gs _ (fun _ _ A kq => XS.aload A hx rfl (hb hby hd) hl hv kq) k
theorem uAN (pc' : Nat) (hx : p.tables.exec = Jvm.exec) (hby : c.code = bytes) (hd : decode bytes pc = .ok (.aload_n nf, 1)) (hp : pc + 1 = pc') (hl : L[nf.val]? = some (.val v)) (hv : v.isRef = true) (k : Go p l e R s m args below meth c Z a0 EL own Q vm h cells slots (mkF m pc' L (v :: S))) : Go p l e R s m args below meth c Z a0 EL own Q vm h cells slots (mkF m pc L S) := by
  subst hp
  exact gs _ (fun _ _ A kq => XS.aloadN A hx rfl (hb hby hd) hl hv kq) k
theorem uI (pc' : Nat) (hx : p.tables.exec = Jvm.exec) (hby : c.code = bytes) (hd : decode bytes pc = .ok (.iload n, 2)) (hp : pc + 2 = pc') (hl : L[n]? = some (.val (.int z))) (k : Go p l e R s m args below meth c Z a0 EL own Q vm h cells slots (mkF m pc' L (.int z :: S))) : Go p l e R s m args below meth c Z a0 EL own Q vm h cells slots (mkF m pc L S) := by
  subst hp
  exact gs _ (fun _ _ A kq => XS.iload A hx rfl (hb hby hd) hl kq) k
theorem uIN (pc' : Nat) (hx : p.tables.exec = Jvm.exec) (hby : c.code = bytes) (hd : decode bytes pc = .ok (.iload_n nf, 1)) (hp : pc + 1 = pc') (hl : L[nf.val]? = some (.val (.int z))) (k : Go p l e R s m args below meth c Z a0 EL own Q vm h cells slots (mkF m pc' L (.int z :: S))) : Go p l e R s m args below meth c Z a0 EL own Q vm h cells slots (mkF m pc L S) := by
  subst hp
  exact gs _ (fun _ _ A kq => XS.iloadN A hx rfl (hb hby hd) hl kq) k
theorem uD (pc' : Nat) (hx : p.tables.exec = Jvm.exec) (hby : c.code = bytes) (hd : decode bytes pc = .ok (.dup, 1)) (hp : pc + 1 = pc') (hc : v.category = 1) (k : Go p l e R s m args below meth c Z a0 EL own Q vm h cells slots (mkF m pc' L (v :: v :: S))) : Go p l e R s m args below meth c Z a0 EL own Q vm h cells slots (mkF m pc L (v :: S)) := by
  subst hp
  exact gs _ (fun _ _ A kq => XS.dup A hx rfl (hb hby hd) rfl hc kq) k
theorem uP (pc' : Nat) (hx : p.tables.exec = Jvm.exec) (hby : c.code = bytes) (hd : decode bytes pc = .ok (.pop, 1)) (hp : pc + 1 = pc') (hc : v.category = 1) (k : Go p l e R s m args below meth c Z a0 EL own Q vm h cells slots (mkF m pc' L S)) : Go p l e R s m args below meth c Z a0 EL own Q vm h cells slots (mkF m pc L (v :: S)) := by
  subst hp
  exact gs _ (fun _ _ A kq => XS.pop A hx rfl (hb hby hd) rfl hc kq) k
theorem uG (pc' : Nat) (hx : p.tables.exec = Jvm.exec) (hby : c.code = bytes) (hd : decode bytes pc = .ok (.goto i, 3)) (ho : 0 ≤ (pc : Int) + i) (hp : ((pc : Int) + i).toNat = pc') (k : Go p l e R s m args below meth c Z a0 EL own Q vm h cells slots (mkF m pc' L S)) : Go p l e R s m args below meth c Z a0 EL own Q vm h cells slots (mkF m pc L S) := gs _ (fun _ _ A kq => XS.goto A hx rfl (pc0 := pc) (pc' := pc') rfl (hb hby hd) ho hp kq) k
end Kit8
end Jvm.OwnKit
/- laws to paste: Road.backV (cut by pick.py; bodies as the Statement names them) -/
namespace Jvm.Pilot.@@N@@
namespace StrChars
open Jvm Sem ClassFile Op Lib Jvm.Stand Jvm.Free.XT Jvm.Free.ALB Jvm.Free.JM Jvm.Free
open Jvm.Lib.Cold (StaticIs)
/-- a char array whose places are chars -/
def Ch (a : Addr) (A : Cell) (U : State) : Prop := Arr .char a A U ∧ Typed .char A
theorem Ch.mv {a : Addr} {A : Cell} {U U' : State} (h : Ch a A U) (hal : U.vm.Alike U'.vm) (hh : U'.heap = U.heap) : Ch a A U' := ⟨h.1.mv hal hh, h.2⟩
theorem Ch.keep {a : Addr} {A : Cell} {U U' : State} (h : Ch a A U) (hal : U.vm.Alike U'.vm) (hk : U'.heap[a]? = some A) : Ch a A U' := ⟨h.1.keep hal hk, h.2⟩
/-- what place i of a char[]'s cell holds -/
def cv (A : Cell) (i : Nat) : Int32 := match A.slots[i]? with | some (.int x) => x | _ => 0
theorem Ch.get {a : Addr} {A : Cell} {U : State} (h : Ch a A U) {i : Nat} (hi : i < A.slots.size) : A.slots[i]? = some (.int (cv A i)) := by
  have e := Array.getElem?_eq_getElem hi
  have f := h.2 i _ e
  unfold cv; rw [e]
  generalize A.slots[i] = v at f
  cases v <;> simp [fits] at f ⊢
/-- the byte that i2b leaves of a char -/
def lo8 (x : Int32) : Int32 := x.toInt8.toInt32
theorem fits_lo8 (y : Int32) : fits .byte (.int (lo8 y)) = true := by
  have h1 := y.toInt8.le_toInt
  have h2 := y.toInt8.toInt_lt
  simp only [lo8, fits, Bool.and_eq_true, decide_eq_true_eq, Int32.le_iff_toInt_le, Int8.toInt_toInt32, show (-128 : Int32).toInt = -128 from by decide, show (127 : Int32).toInt = 127 from by decide]
  omega
/-- A' is A but that each place j of lo .. hi - 1 holds f j -/
def Laid (A A' : Cell) (lo hi : Nat) (f : Nat → Value) : Prop := A'.cls = A.cls ∧ A'.vm = A.vm ∧ A'.slots.size = A.slots.size ∧ ∀ i, A'.slots[i]? = if lo ≤ i ∧ i < hi then some (f i) else A.slots[i]?
theorem Laid.zero (A : Cell) (lo : Nat) (f : Nat → Value) : Laid A A lo (lo + 0) f := ⟨rfl, rfl, rfl, fun i => by rw [if_neg (by omega)]⟩
theorem Laid.step {A Ak : Cell} {lo k : Nat} {f : Nat → Value} {v : Value} (h : Laid A Ak lo k f) (hlo : lo ≤ k) (hk : k < Ak.slots.size) (hv : v = f k) : Laid A (Ak.setSlot k v) lo (k + 1) f := by
  refine ⟨h.1, h.2.1, by simpa [Cell.setSlot] using h.2.2.1, fun i => ?_⟩
  by_cases e : k = i
  · subst e; rw [Cell.slots_setSlot_self v hk, if_pos (by omega), hv]
  · rw [Cell.slots_setSlot_ne v e, h.2.2.2 i]
    by_cases q : lo ≤ i ∧ i < k
    · rw [if_pos q, if_pos (by omega)]
    · rw [if_neg q, if_neg (by omega)]
def U16 : String := "java/lang/StringUTF16"
namespace Cmp5
def yN : MethodName := ⟨"java/lang/StringUTF16", "compress", "([CI[BII)I"⟩
abbrev yB : ByteArray := jdk_52_method_21_code
theorem d0 : decode yB 0 = .ok (.iconst 0, 1) := by decide +kernel
theorem d1 : decode yB 1 = .ok (.istore 5, 2) := by decide +kernel
theorem d3 : decode yB 3 = .ok (.iload 5, 2) := by decide +kernel
theorem d5 : decode yB 5 = .ok (.iload 4, 2) := by decide +kernel
theorem d7 : decode yB 7 = .ok (.if_icmp (.ge) 37, 3) := by decide +kernel
theorem d10 : decode yB 10 = .ok (.aload_n 0, 1) := by decide +kernel
theorem d11 : decode yB 11 = .ok (.iload_n 1, 1) := by decide +kernel
theorem d12 : decode yB 12 = .ok (.caload, 1) := by decide +kernel
theorem d13 : decode yB 13 = .ok (.istore 6, 2) := by decide +kernel
theorem d15 : decode yB 15 = .ok (.iload 6, 2) := by decide +kernel
theorem d17 : decode yB 17 = .ok (.sipush 255, 3) := by decide +kernel
theorem d20 : decode yB 20 = .ok (.if_icmp (.le) 6, 3) := by decide +kernel
theorem d26 : decode yB 26 = .ok (.aload_n 2, 1) := by decide +kernel
theorem d27 : decode yB 27 = .ok (.iload_n 3, 1) := by decide +kernel
theorem d28 : decode yB 28 = .ok (.iload 6, 2) := by decide +kernel
theorem d30 : decode yB 30 = .ok (.i2b, 1) := by decide +kernel
theorem d31 : decode yB 31 = .ok (.bastore, 1) := by decide +kernel
theorem d32 : decode yB 32 = .ok (.iinc 1 1, 3) := by decide +kernel
theorem d35 : decode yB 35 = .ok (.iinc 3 1, 3) := by decide +kernel
theorem d38 : decode yB 38 = .ok (.iinc 5 1, 3) := by decide +kernel
theorem d41 : decode yB 41 = .ok (.goto (-38), 3) := by decide +kernel
theorem d44 : decode yB 44 = .ok (.iload 4, 2) := by decide +kernel
theorem d46 : decode yB 46 = .ok (.ireturn, 1) := by decide +kernel
def site : List Cond := []
def tab : Cond := tabOf yN yB 7 (some .int) site
def P (b : Addr) (A : Cell) (d : Addr) (B : Cell) (o q len : Nat) (args : Array Value) (s : State) : Prop := args = #[.ref b, .int (Int32.ofNat o), .ref d, .int (Int32.ofNat q), .int (Int32.ofNat len)] ∧ Ch b A s ∧ Arr .byte d B s ∧ b ≠ d ∧ o + len ≤ A.slots.size ∧ q + len ≤ B.slots.size ∧ ∀ i, i < len → ¬ 255 < cv A (o + i)
def E (b : Addr) (A : Cell) (d : Addr) (B : Cell) (o q len : Nat) (r : Option Value) (s u : State) : Prop := r = some (.int (Int32.ofNat len)) ∧ ∃ B', Put d B' s u ∧ Laid B B' q (q + len) (fun j => Value.int (lo8 (cv A (o + (j - q)))))
/-- no char of the range above 255: len; the places written hold each char's low byte -/
theorem law (l : Launch) (b : Addr) (A : Cell) (d : Addr) (B : Cell) (o q len : Nat) : Law l yN 5 5 0 0 yB 7 (some .int) site (P b A d B o q len) (E b A d B o q len) (copyLocs d q len) 0 0 := by
  refine Law.of_walk (plainFor_of_name (by decide +kernel)) (by decide +kernel) (by decide +kernel) (by decide) (fun _ _ h => by rw [h.1]; rfl) (fun _ U U' hal hh h => ⟨h.1, h.2.1.mv hal hh, h.2.2.1.mv hal hh, h.2.2.2⟩) (fun r U U' V V' h1 hal h2 h => ⟨h.1, h.2.elim fun B' q => ⟨B', q.1.mv h1 h2, q.2⟩⟩) ?_
  intro p e s m args below meth c s₁ X0 hexec hbytes hml hret hlk hnm hown hh0 W hP
  obtain ⟨rfl, hA, hB, hne, l1, l2, hp⟩ := hP
  have c1 : Steps p.tables e below (s₁.setTop (entryFrame m #[.ref b, .int (Int32.ofNat o), .ref d, .int (Int32.ofNat q), .int (Int32.ofNat len)] 7)) (s₁.setTop (mkF m 0 #[.val (.ref b), .val (.int (Int32.ofNat o)), .val (.ref d), .val (.int (Int32.ofNat q)), .val (.int (Int32.ofNat len)), .unset, .unset] [])) := entry rfl
  have hA0 := hA.1.mv X0.warmed.alike hh0
  have hB0 := hB.mv X0.warmed.alike hh0
  have a31 := hA.1.2.2.2
  have c2 : Steps p.tables e below (s₁.setTop (entryFrame m #[.ref b, .int (Int32.ofNat o), .ref d, .int (Int32.ofNat q), .int (Int32.ofNat len)] 7)) (s₁.setTop (mkF m 3 #[.val (.ref b), .val (.int (Int32.ofNat o)), .val (.ref d), .val (.int (Int32.ofNat q)), .val (.int (Int32.ofNat len)), .val (.int 0), .unset] [])) := c1.trans (by
    refine iconstV X0.here hexec rfl 0 (hb hbytes d0) (by decide) ?_
    refine XS.istore X0.here hexec rfl (hb hbytes d1) rfl rfl ?_
    exact Steps.refl _)
  have loop : ∀ (r i : Nat), i + r = len → ∀ (z : Slot), (z = .unset ∨ ∃ w, z = .val w ∧ w.category = 1) → ∀ (Tl : State) (Bk : Cell), Stand p l e { frames := 0, locals := 0, cells := 0, slots := 0 } s m #[.ref b, .int (Int32.ofNat o), .ref d, .int (Int32.ofNat q), .int (Int32.ofNat len)] below meth c Tl ([] ++ copyLocs d q i) 0 0 → Put d Bk s₁ Tl → Laid B Bk q (q + i) (fun j => Value.int (lo8 (cv A (o + (j - q))))) →
      Steps p.tables e below (s₁.setTop (entryFrame m #[.ref b, .int (Int32.ofNat o), .ref d, .int (Int32.ofNat q), .int (Int32.ofNat len)] 7)) (Tl.setTop (mkF m 3 #[.val (.ref b), .val (.int (Int32.ofNat (o + i))), .val (.ref d), .val (.int (Int32.ofNat (q + i))), .val (.int (Int32.ofNat len)), .val (.int (Int32.ofNat i)), z] [])) → ∃ (T' : State) (B' : Cell) (z' : Slot), Stand p l e { frames := 0, locals := 0, cells := 0, slots := 0 } s m #[.ref b, .int (Int32.ofNat o), .ref d, .int (Int32.ofNat q), .int (Int32.ofNat len)] below meth c T' ([] ++ copyLocs d q len) 0 0 ∧ Put d B' s₁ T' ∧ Laid B B' q (q + len) (fun j => Value.int (lo8 (cv A (o + (j - q))))) ∧
      Steps p.tables e below (s₁.setTop (entryFrame m #[.ref b, .int (Int32.ofNat o), .ref d, .int (Int32.ofNat q), .int (Int32.ofNat len)] 7)) (T'.setTop (mkF m 3 #[.val (.ref b), .val (.int (Int32.ofNat (o + len))), .val (.ref d), .val (.int (Int32.ofNat (q + len))), .val (.int (Int32.ofNat len)), .val (.int (Int32.ofNat len)), z'] [])) := by
    intro r
    induction r with
    | zero =>
      intro i hi z hz Tl Bk Xl pl fl cl
      have hil : i = len := by omega
      rw [hil] at Xl fl cl
      exact ⟨Tl, Bk, z, Xl, pl, fl, cl⟩
    | succ r ih =>
      intro i hi z hz Tl Bk Xl pl fl cl
      have all := X0.warmed.alike.symm.trans Xl.warmed.alike
      have hAl := hA0.keep all (pl.other hne hA0.1)
      have hBk := hB0.like all pl.1 fl.1 fl.2.1 fl.2.2.1
      have hlt : q + i < Bk.slots.size := by rw [fl.2.2.1]; omega
      have c3 : Steps p.tables e below (s₁.setTop (entryFrame m #[.ref b, .int (Int32.ofNat o), .ref d, .int (Int32.ofNat q), .int (Int32.ofNat len)] 7)) (Tl.setTop (mkF m 12 #[.val (.ref b), .val (.int (Int32.ofNat (o + i))), .val (.ref d), .val (.int (Int32.ofNat (q + i))), .val (.int (Int32.ofNat len)), .val (.int (Int32.ofNat i)), z] [.int (Int32.ofNat (o + i)), .ref b])) := cl.trans (by
        refine XS.iload Xl.here hexec rfl (hb hbytes d3) rfl ?_
        refine XS.iload Xl.here hexec rfl (hb hbytes d5) rfl ?_
        refine XS.icmpNo Xl.here hexec rfl (hb hbytes d7) rfl (ii_ge_f (lt32 (by omega) (by omega))) ?_
        refine XS.aloadN Xl.here hexec rfl (hb hbytes d10) rfl rfl ?_
        refine XS.iloadN Xl.here hexec rfl (hb hbytes d11) rfl ?_
        exact Steps.refl _)
      have c4 : Steps p.tables e below (s₁.setTop (entryFrame m #[.ref b, .int (Int32.ofNat o), .ref d, .int (Int32.ofNat q), .int (Int32.ofNat len)] 7)) (Tl.setTop (mkF m 13 #[.val (.ref b), .val (.int (Int32.ofNat (o + i))), .val (.ref d), .val (.int (Int32.ofNat (q + i))), .val (.int (Int32.ofNat len)), .val (.int (Int32.ofNat i)), z] [.int (cv A (o + i))])) := c3.trans (by
        refine Xl.aget hexec hAl rfl (hA.get (i := o + i) (by omega)) rfl rfl (hb hbytes d12) ?_
        exact Steps.refl _)
      have c5 : Steps p.tables e below (s₁.setTop (entryFrame m #[.ref b, .int (Int32.ofNat o), .ref d, .int (Int32.ofNat q), .int (Int32.ofNat len)] 7)) (Tl.setTop (mkF m 15 #[.val (.ref b), .val (.int (Int32.ofNat (o + i))), .val (.ref d), .val (.int (Int32.ofNat (q + i))), .val (.int (Int32.ofNat len)), .val (.int (Int32.ofNat i)), .val (.int (cv A (o + i)))] [])) := c4.trans (by
        refine XS.istoreS Xl.here hexec rfl (hb hbytes d13) rfl rfl hz ?_
        exact Steps.refl _)
      have c6 : Steps p.tables e below (s₁.setTop (entryFrame m #[.ref b, .int (Int32.ofNat o), .ref d, .int (Int32.ofNat q), .int (Int32.ofNat len)] 7)) (Tl.setTop (mkF m 31 #[.val (.ref b), .val (.int (Int32.ofNat (o + i))), .val (.ref d), .val (.int (Int32.ofNat (q + i))), .val (.int (Int32.ofNat len)), .val (.int (Int32.ofNat i)), .val (.int (cv A (o + i)))] [.int (lo8 (cv A (o + i))), .int (Int32.ofNat (q + i)), .ref d])) := c5.trans (by
        refine XS.iload Xl.here hexec rfl (hb hbytes d15) rfl ?_
        refine sipushV Xl.here hexec rfl 255 (hb hbytes d17) (by decide) ?_
        refine XS.icmpYes Xl.here hexec rfl (pc0 := 20) rfl (hb hbytes d20) rfl (ii_le_t (hp i (by omega))) (by decide) rfl ?_
        refine XS.aloadN Xl.here hexec rfl (hb hbytes d26) rfl rfl ?_
        refine XS.iloadN Xl.here hexec rfl (hb hbytes d27) rfl ?_
        refine XS.iload Xl.here hexec rfl (hb hbytes d28) rfl ?_
        refine i2b Xl.here hexec rfl (hb hbytes d30) rfl ?_
        exact Steps.refl _)
      obtain ⟨T7, X7, p7, st7⟩ := Xl.aput hexec hBk rfl hlt rfl (fits_lo8 (cv A (o + i))) (g := (mkF m 31 #[.val (.ref b), .val (.int (Int32.ofNat (o + i))), .val (.ref d), .val (.int (Int32.ofNat (q + i))), .val (.int (Int32.ofNat len)), .val (.int (Int32.ofNat i)), .val (.int (cv A (o + i)))] [.int (lo8 (cv A (o + i))), .int (Int32.ofNat (q + i)), .ref d])) rfl (rest := []) rfl (hb hbytes d31)
      have c8 : Steps p.tables e below (s₁.setTop (entryFrame m #[.ref b, .int (Int32.ofNat o), .ref d, .int (Int32.ofNat q), .int (Int32.ofNat len)] 7)) (T7.setTop (mkF m 32 #[.val (.ref b), .val (.int (Int32.ofNat (o + i))), .val (.ref d), .val (.int (Int32.ofNat (q + i))), .val (.int (Int32.ofNat len)), .val (.int (Int32.ofNat i)), .val (.int (cv A (o + i)))] [])) := c6.trans (st7 _ (Steps.refl _))
      have c9 : Steps p.tables e below (s₁.setTop (entryFrame m #[.ref b, .int (Int32.ofNat o), .ref d, .int (Int32.ofNat q), .int (Int32.ofNat len)] 7)) (T7.setTop (mkF m 3 #[.val (.ref b), .val (.int (Int32.ofNat (o + i) + 1)), .val (.ref d), .val (.int (Int32.ofNat (q + i) + 1)), .val (.int (Int32.ofNat len)), .val (.int (Int32.ofNat i + 1)), .val (.int (cv A (o + i)))] [])) := c8.trans (by
        refine iincV X7.here hexec rfl 1 (hb hbytes d32) (by decide) rfl rfl ?_
        refine iincV X7.here hexec rfl 1 (hb hbytes d35) (by decide) rfl rfl ?_
        refine iincV X7.here hexec rfl 1 (hb hbytes d38) (by decide) rfl rfl ?_
        refine XS.goto X7.here hexec rfl (pc0 := 41) rfl (hb hbytes d41) (by decide) rfl ?_
        exact Steps.refl _)
      have c10 : Steps p.tables e below (s₁.setTop (entryFrame m #[.ref b, .int (Int32.ofNat o), .ref d, .int (Int32.ofNat q), .int (Int32.ofNat len)] 7)) (T7.setTop (mkF m 3 #[.val (.ref b), .val (.int (Int32.ofNat (o + (i + 1)))), .val (.ref d), .val (.int (Int32.ofNat (q + (i + 1)))), .val (.int (Int32.ofNat len)), .val (.int (Int32.ofNat (i + 1))), .val (.int (cv A (o + i)))] [])) := by
        have := c9
        rw [succ32, succ32, succ32] at this
        exact this
      exact ih (i + 1) (by omega) _ (Or.inr ⟨_, rfl, rfl⟩) T7 _ (by rw [copyLocs_step, ← List.append_assoc]; exact X7) (pl.trans p7) (fl.step (by omega) hlt (by simp)) c10
  obtain ⟨T9, B9, z9, X9, p9, f9, g9⟩ := loop len 0 (by omega) .unset (Or.inl rfl) s₁ B (by simpa [copyLocs] using X0) ⟨hB0.1, fun _ _ => rfl, rfl⟩ (Laid.zero _ _ _) c2
  have c11 : Steps p.tables e below (s₁.setTop (entryFrame m #[.ref b, .int (Int32.ofNat o), .ref d, .int (Int32.ofNat q), .int (Int32.ofNat len)] 7)) (T9.setTop (mkF m 46 #[.val (.ref b), .val (.int (Int32.ofNat (o + len))), .val (.ref d), .val (.int (Int32.ofNat (q + len))), .val (.int (Int32.ofNat len)), .val (.int (Int32.ofNat len)), z9] [.int (Int32.ofNat len)])) := g9.trans (by
    refine XS.iload X9.here hexec rfl (hb hbytes d3) rfl ?_
    refine XS.iload X9.here hexec rfl (hb hbytes d5) rfl ?_
    refine XS.icmpYes X9.here hexec rfl (pc0 := 7) rfl (hb hbytes d7) rfl (ii_ge_t (nlt32 (by omega) (Nat.le_refl _))) (by decide) rfl ?_
    refine XS.iload X9.here hexec rfl (hb hbytes d44) rfl ?_
    exact Steps.refl _)
  exact ⟨T9, some (.int (Int32.ofNat len)), _, _, _, X9, by simp, rfl, rfl, (fun h => by cases h), ⟨rfl, B9, p9.from hh0, f9⟩, fun fs hl => c11.trans (X9.ireturnOut hexec hret rfl (Or.inl rfl) (hb hbytes d46) hl)⟩
end Cmp5
namespace Cmp3
def yN : MethodName := ⟨"java/lang/StringUTF16", "compress", "([CII)[B"⟩
abbrev yB : ByteArray := jdk_52_method_16_code
theorem d0 : decode yB 0 = .ok (.iload_n 2, 1) := by decide +kernel
theorem d1 : decode yB 1 = .ok (.newarray .byte, 2) := by decide +kernel
theorem d3 : decode yB 3 = .ok (.astore_n 3, 1) := by decide +kernel
theorem d4 : decode yB 4 = .ok (.aload_n 0, 1) := by decide +kernel
theorem d5 : decode yB 5 = .ok (.iload_n 1, 1) := by decide +kernel
theorem d6 : decode yB 6 = .ok (.aload_n 3, 1) := by decide +kernel
theorem d7 : decode yB 7 = .ok (.iconst 0, 1) := by decide +kernel
theorem d8 : decode yB 8 = .ok (.iload_n 2, 1) := by decide +kernel
theorem d9 : decode yB 9 = .ok (.invokestatic 115, 3) := by decide +kernel
theorem d12 : decode yB 12 = .ok (.istore 4, 2) := by decide +kernel
theorem d14 : decode yB 14 = .ok (.iload 4, 2) := by decide +kernel
theorem d16 : decode yB 16 = .ok (.iload_n 2, 1) := by decide +kernel
theorem d17 : decode yB 17 = .ok (.if_icmp (.eq) 40, 3) := by decide +kernel
theorem d57 : decode yB 57 = .ok (.aload_n 3, 1) := by decide +kernel
theorem d58 : decode yB 58 = .ok (.areturn, 1) := by decide +kernel
def site : List Cond := [.arrayClass .byte, Cmp5.tab] ++ staticW U16 115 Cmp5.yN
def tab : Cond := tabOf yN yB 6 (some (.array .byte)) site
def P (b : Addr) (A : Cell) (o len : Nat) (args : Array Value) (s : State) : Prop := args = #[.ref b, .int (Int32.ofNat o), .int (Int32.ofNat len)] ∧ Ch b A s ∧ o + len ≤ A.slots.size ∧ len ≤ 536870912 ∧ ∀ i, i < len → ¬ 255 < cv A (o + i)
def E (b : Addr) (A : Cell) (o len : Nat) (r : Option Value) (s u : State) : Prop := NewArr .byte "[B" len (fun j => .int (lo8 (cv A (o + j)))) r s u ∧ u.heap.size = s.heap.size + 1
/-- no char of the range above 255: a new byte[] of their low bytes -/
theorem law (l : Launch) (b : Addr) (A : Cell) (o len : Nat) : Law l yN 3 3 1 18 yB 6 (some (.array .byte)) site (P b A o len) (E b A o len) [] 1 len := by
  refine Law.of_walk (plainFor_of_name (by decide +kernel)) (by decide +kernel) (by decide +kernel) (by decide) (fun _ _ h => by rw [h.1]; rfl) (fun _ U U' hal hh h => ⟨h.1, h.2.1.mv hal hh, h.2.2⟩) (fun r U U' V V' h1 hal h2 h => ⟨NewArr.mv r U U' V V' h1 hal h2 h.1, by rw [h1, h2]; exact h.2⟩) ?_
  intro p e s m args below meth c s₁ X0 hexec hbytes hml hret hlk hnm hown hh0 W hP
  obtain ⟨rfl, hA, l1, l2, hp⟩ := hP
  have a31 := hA.1.2.2.2
  have c1 : Steps p.tables e below (s₁.setTop (entryFrame m #[.ref b, .int (Int32.ofNat o), .int (Int32.ofNat len)] 6)) (s₁.setTop (mkF m 0 #[.val (.ref b), .val (.int (Int32.ofNat o)), .val (.int (Int32.ofNat len)), .unset, .unset, .unset] [])) := entry rfl
  have c2 : Steps p.tables e below (s₁.setTop (entryFrame m #[.ref b, .int (Int32.ofNat o), .int (Int32.ofNat len)] 6)) (s₁.setTop (mkF m 1 #[.val (.ref b), .val (.int (Int32.ofNat o)), .val (.int (Int32.ofNat len)), .unset, .unset, .unset] [.int (Int32.ofNat len)])) := c1.trans (by
    refine XS.iloadN X0.here hexec rfl (hb hbytes d0) rfl ?_
    exact Steps.refl _)
  obtain ⟨T3, B3, X3, ba3, bs3, bv3, bh3, bf3, st3⟩ := X0.anew hexec (atype := .byte) (wk W (.arrayClass .byte)) rfl (by show len * 1 ≤ _; omega) (by omega) (g := (mkF m 1 #[.val (.ref b), .val (.int (Int32.ofNat o)), .val (.int (Int32.ofNat len)), .unset, .unset, .unset] [.int (Int32.ofNat len)])) rfl (hb hbytes d1) (rest := []) rfl (Nat.le_refl _) (by show 0 + len ≤ len; omega)
  rw [hh0] at ba3 st3
  have kp3 : XT.Kept s T3 := (XT.Kept.of_eq hh0).push bh3
  have hA3 := hA.keep X3.warmed.alike (kp3 _ _ hA.1.1)
  have hne : b ≠ s.heap.size := hA.1.ne
  have c4 : Steps p.tables e below (s₁.setTop (entryFrame m #[.ref b, .int (Int32.ofNat o), .int (Int32.ofNat len)] 6)) (T3.setTop (mkF m 3 #[.val (.ref b), .val (.int (Int32.ofNat o)), .val (.int (Int32.ofNat len)), .unset, .unset, .unset] [.ref s.heap.size])) := c2.trans (st3 _ (Steps.refl _))
  have c5 : Steps p.tables e below (s₁.setTop (entryFrame m #[.ref b, .int (Int32.ofNat o), .int (Int32.ofNat len)] 6)) (T3.setTop (mkF m 9 #[.val (.ref b), .val (.int (Int32.ofNat o)), .val (.int (Int32.ofNat len)), .val (.ref s.heap.size), .unset, .unset] [.int (Int32.ofNat len), .int 0, .ref s.heap.size, .int (Int32.ofNat o), .ref b])) := c4.trans (by
    refine XS.astoreN X3.here hexec rfl (hb hbytes d3) rfl rfl rfl ?_
    refine XS.aloadN X3.here hexec rfl (hb hbytes d4) rfl rfl ?_
    refine XS.iloadN X3.here hexec rfl (hb hbytes d5) rfl ?_
    refine XS.aloadN X3.here hexec rfl (hb hbytes d6) rfl rfl ?_
    refine iconstV X3.here hexec rfl 0 (hb hbytes d7) (by decide) ?_
    refine XS.iloadN X3.here hexec rfl (hb hbytes d8) rfl ?_
    exact Steps.refl _)
  obtain ⟨v6, T6, X6, E6, g6⟩ := X3.callS hexec (Cmp5.law l b A s.heap.size B3 o 0 len) hown (wks W (staticW U16 115 Cmp5.yN)) (wk W Cmp5.tab) (W := 0) (Nat.le_of_ble_eq_true rfl) (Nat.le_of_ble_eq_true rfl) (Nat.le_refl _) (by show 0 + len + 0 ≤ len; omega) (g := (mkF m 9 #[.val (.ref b), .val (.int (Int32.ofNat o)), .val (.int (Int32.ofNat len)), .val (.ref s.heap.size), .unset, .unset] [.int (Int32.ofNat len), .int (Int32.ofNat 0), .ref s.heap.size, .int (Int32.ofNat o), .ref b])) rfl (by rw [hml]; rfl) c5 (argsL := [.ref b, .int (Int32.ofNat o), .ref s.heap.size, .int (Int32.ofNat 0), .int (Int32.ofNat len)]) (rest := []) rfl rfl (by show 2 * 0 + 0 ≤ _; decide) (hb hbytes d9) (⟨rfl, hA3, ba3, hne, l1, by rw [bs3]; simp, hp⟩)
  obtain ⟨rfl, B6, p6, f6⟩ := E6
  have c7 : Steps p.tables e below (s₁.setTop (entryFrame m #[.ref b, .int (Int32.ofNat o), .int (Int32.ofNat len)] 6)) (T6.setTop (mkF m 12 #[.val (.ref b), .val (.int (Int32.ofNat o)), .val (.int (Int32.ofNat len)), .val (.ref s.heap.size), .unset, .unset] [.int (Int32.ofNat len)])) := g6
  have c8 : Steps p.tables e below (s₁.setTop (entryFrame m #[.ref b, .int (Int32.ofNat o), .int (Int32.ofNat len)] 6)) (T6.setTop (mkF m 58 #[.val (.ref b), .val (.int (Int32.ofNat o)), .val (.int (Int32.ofNat len)), .val (.ref s.heap.size), .val (.int (Int32.ofNat len)), .unset] [.ref s.heap.size])) := c7.trans (by
    refine XS.istore X6.here hexec rfl (hb hbytes d12) rfl rfl ?_
    refine XS.iload X6.here hexec rfl (hb hbytes d14) rfl ?_
    refine XS.iloadN X6.here hexec rfl (hb hbytes d16) rfl ?_
    refine XS.icmpYes X6.here hexec rfl (pc0 := 17) rfl (hb hbytes d17) rfl (ii_eq_t rfl) (by decide) rfl ?_
    refine XS.aloadN X6.here hexec rfl (hb hbytes d57) rfl rfl ?_
    exact Steps.refl _)
  have X8 := X6.wide (L' := []) (cells' := 1) (slots' := len) (fun x hx hlt => by
    simp only [List.nil_append, copyLocs, List.mem_map, List.mem_range] at hx
    obtain ⟨i, -, rfl⟩ := hx
    exact absurd hlt (Nat.lt_irrefl _)) (Nat.le_refl _) (by omega)
  exact ⟨T6, some (.ref s.heap.size), _, _, _, X8, rfl, rfl, rfl, (fun h => by cases h), ⟨⟨rfl, B6, ba3.like (X3.warmed.alike.symm.trans X6.warmed.alike) p6.1 f6.1 f6.2.1 f6.2.2.1, f6.2.1.trans bv3, by rw [X6.warmed.alike.findClass, f6.1]; exact bf3, by rw [f6.2.2.1, bs3]; simp, fun j hj => by rw [f6.2.2.2 j, if_pos (by omega)]; rfl, kp3.put p6 (Nat.le_refl _)⟩, by rw [p6.2.2, bh3, hh0]; simp⟩, fun fs hl => c8.trans (X8.areturnOut hexec rfl hret rfl (hb hbytes d58) hl)⟩
end Cmp3
namespace CodL
def yN : MethodName := ⟨"java/lang/StringUTF16", "coderFromArrayLen", "([BI)B"⟩
abbrev yB : ByteArray := jdk_52_method_15_code
theorem d0 : decode yB 0 = .ok (.iload_n 1, 1) := by decide +kernel
theorem d1 : decode yB 1 = .ok (.aload_n 0, 1) := by decide +kernel
theorem d2 : decode yB 2 = .ok (.arraylength, 1) := by decide +kernel
theorem d3 : decode yB 3 = .ok (.isub, 1) := by decide +kernel
theorem d4 : decode yB 4 = .ok (.bipush 31, 2) := by decide +kernel
theorem d6 : decode yB 6 = .ok (.iushr, 1) := by decide +kernel
theorem d7 : decode yB 7 = .ok (.i2b, 1) := by decide +kernel
theorem d8 : decode yB 8 = .ok (.ireturn, 1) := by decide +kernel
def site : List Cond := []
def tab : Cond := tabOf yN yB 2 (some .byte) site
def P (d : Addr) (B : Cell) (args : Array Value) (s : State) : Prop := args = #[.ref d, .int (Int32.ofNat B.slots.size)] ∧ Arr .byte d B s
def E (r : Option Value) (s u : State) : Prop := XT.PureE (some (.int 0)) r s u
/-- an array as long as the number of chars: LATIN1 -/
theorem law (l : Launch) (d : Addr) (B : Cell) : Law l yN 2 2 0 0 yB 2 (some .byte) site (P d B) E [] 0 0 := by
  refine Law.of_walk (plainFor_of_name (by decide +kernel)) (by decide +kernel) (by decide +kernel) (by decide) (fun _ _ h => by rw [h.1]; rfl) (fun _ U U' hal hh h => ⟨h.1, h.2.mv hal hh⟩) (fun r U U' V V' h1 hal h2 h => XT.PureE.mv r U U' V V' h1 hal h2 h) ?_
  intro p e s m args below meth c s₁ X0 hexec hbytes hml hret hlk hnm hown hh0 W hP
  obtain ⟨rfl, hB⟩ := hP
  have hB0 := hB.mv X0.warmed.alike hh0
  have c1 : Steps p.tables e below (s₁.setTop (entryFrame m #[.ref d, .int (Int32.ofNat B.slots.size)] 2)) (s₁.setTop (mkF m 0 #[.val (.ref d), .val (.int (Int32.ofNat B.slots.size))] [])) := entry rfl
  have c2 : Steps p.tables e below (s₁.setTop (entryFrame m #[.ref d, .int (Int32.ofNat B.slots.size)] 2)) (s₁.setTop (mkF m 2 #[.val (.ref d), .val (.int (Int32.ofNat B.slots.size))] [.ref d, .int (Int32.ofNat B.slots.size)])) := c1.trans (by
    refine XS.iloadN X0.here hexec rfl (hb hbytes d0) rfl ?_
    refine XS.aloadN X0.here hexec rfl (hb hbytes d1) rfl rfl ?_
    exact Steps.refl _)
  have c3 : Steps p.tables e below (s₁.setTop (entryFrame m #[.ref d, .int (Int32.ofNat B.slots.size)] 2)) (s₁.setTop (mkF m 8 #[.val (.ref d), .val (.int (Int32.ofNat B.slots.size))] [.int (lo8 (ushr (Int32.ofNat B.slots.size - Int32.ofNat B.slots.size) 31))])) := c2.trans (by
    refine X0.alen hexec hB0 rfl rfl (hb hbytes d2) ?_
    refine XS.isub X0.here hexec rfl (hb hbytes d3) rfl ?_
    refine bipushV X0.here hexec rfl 31 (hb hbytes d4) (by decide) ?_
    refine iushr X0.here hexec rfl (hb hbytes d6) rfl ?_
    refine i2b X0.here hexec rfl (hb hbytes d7) rfl ?_
    exact Steps.refl _)
  have e0 : lo8 (ushr (Int32.ofNat B.slots.size - Int32.ofNat B.slots.size) 31) = 0 := by rw [Int32.sub_self]; decide
  rw [e0] at c3
  exact ⟨s₁, some (.int 0), _, _, _, X0, rfl, rfl, rfl, (fun h => by cases h), ⟨rfl, hh0⟩, fun fs hl => c3.trans (X0.ireturnOut hexec hret rfl (Or.inr (Or.inr (Or.inl rfl))) (hb hbytes d8) hl)⟩
end CodL
/-- the String at a is Latin-1 over a new byte[] (the heap's one new cell): the low bytes of the len chars of A from o on; every cell but a is kept -/
def Got (a : Addr) (D : Cell) (fV fC : Field) (A : Cell) (o len : Nat) (r : Option Value) (s u : State) : Prop := r = none ∧ ∃ D' V : Cell, Blank "java/lang/String" a D' u ∧ Same D D' [fV.slot, fC.slot] ∧ D'.slots[fV.slot]? = some (.ref s.heap.size) ∧ D'.slots[fC.slot]? = some (.int 0) ∧ Arr .byte s.heap.size V u ∧ V.vm = .none ∧ u.vm.findClass "[B" = some V.cls ∧ V.slots.size = len ∧ (∀ j, j < len → V.slots[j]? = some (.int (lo8 (cv A (o + j))))) ∧ (∀ (y : Addr) (c : Cell), y ≠ a → s.heap[y]? = some c → u.heap[y]? = some c) ∧ u.heap.size = s.heap.size + 1
theorem Got.mv {a : Addr} {D A : Cell} {fV fC : Field} {o len : Nat} : ∀ r (U U' V V' : State), U'.heap = U.heap → V.vm.Alike V'.vm → V'.heap = V.heap → Got a D fV fC A o len r U V → Got a D fV fC A o len r U' V' :=
  fun r U U' V V' h1 hal h2 ⟨e0, D', X, a1, a2, a3, a4, a5, a6, a7, a8, a9, a10, a11⟩ => ⟨e0, D', X, a1.mv hal h2, a2, by rw [h1]; exact a3, a4, by rw [h1]; exact a5.mv hal h2, a6, by rw [hal.findClass]; exact a7, a8, a9, by rw [h1, h2]; exact a10, by rw [h1, h2]; exact a11⟩
namespace New4
def yN : MethodName := ⟨"java/lang/String", "<init>", "([CIILjava/lang/Void;)V"⟩
abbrev yB : ByteArray := jdk_42_method_149_code
theorem d0 : decode yB 0 = .ok (.aload_n 0, 1) := by decide +kernel
theorem d1 : decode yB 1 = .ok (.invokespecial 1, 3) := by decide +kernel
theorem d4 : decode yB 4 = .ok (.iload_n 3, 1) := by decide +kernel
theorem d5 : decode yB 5 = .ok (.ifCond (.ne) 22, 3) := by decide +kernel
theorem d27 : decode yB 27 = .ok (.getstatic 38, 3) := by decide +kernel
theorem d30 : decode yB 30 = .ok (.ifCond (.eq) 28, 3) := by decide +kernel
theorem d33 : decode yB 33 = .ok (.aload_n 1, 1) := by decide +kernel
theorem d34 : decode yB 34 = .ok (.iload_n 2, 1) := by decide +kernel
theorem d35 : decode yB 35 = .ok (.iload_n 3, 1) := by decide +kernel
theorem d36 : decode yB 36 = .ok (.invokestatic 177, 3) := by decide +kernel
theorem d39 : decode yB 39 = .ok (.astore 5, 2) := by decide +kernel
theorem d41 : decode yB 41 = .ok (.aload_n 0, 1) := by decide +kernel
theorem d42 : decode yB 42 = .ok (.aload 5, 2) := by decide +kernel
theorem d44 : decode yB 44 = .ok (.iload_n 3, 1) := by decide +kernel
theorem d45 : decode yB 45 = .ok (.invokestatic 47, 3) := by decide +kernel
theorem d48 : decode yB 48 = .ok (.putfield 15, 3) := by decide +kernel
theorem d51 : decode yB 51 = .ok (.aload_n 0, 1) := by decide +kernel
theorem d52 : decode yB 52 = .ok (.aload 5, 2) := by decide +kernel
theorem d54 : decode yB 54 = .ok (.putfield 9, 3) := by decide +kernel
theorem d57 : decode yB 57 = .ok (.return_, 1) := by decide +kernel
def site : List Cond := [.fieldLink "java/lang/String" 38 "java/lang/String" "COMPACT_STRINGS" "Z", Cmp3.tab, CodL.tab, .laysFinal "java/lang/String" "java/lang/String" "value" "[B", .fieldLink "java/lang/String" 9 "java/lang/String" "value" "[B", .laysFinal "java/lang/String" "java/lang/String" "coder" "B", .fieldLink "java/lang/String" 15 "java/lang/String" "coder" "B"] ++ objW "java/lang/String" 1 ++ staticW "java/lang/String" 177 Cmp3.yN ++ staticW "java/lang/String" 47 CodL.yN
def tab : Cond := tabOf yN yB 6 none site
def P (a : Addr) (D : Cell) (fV fC : Field) (b : Addr) (A : Cell) (z : Int32) (o len : Nat) (args : Array Value) (s : State) : Prop := args = #[.ref a, .ref b, .int (Int32.ofNat o), .int (Int32.ofNat len), .null] ∧ Blank "java/lang/String" a D s ∧ Found "java/lang/String" "value" "[B" fV s ∧ Found "java/lang/String" "coder" "B" fC s ∧ Ch b A s ∧ StaticIs s "java/lang/String" "COMPACT_STRINGS" "Z" (.int z) ∧ ¬ z = 0 ∧ 0 < len ∧ o + len ≤ A.slots.size ∧ len ≤ 536870912 ∧ ∀ i, i < len → ¬ 255 < cv A (o + i)
def E (a : Addr) (D : Cell) (fV fC : Field) (A : Cell) (o len : Nat) (r : Option Value) (s u : State) : Prop := Got a D fV fC A o len r s u
/-- len > 0, no char of the range above 255: a Latin-1 String of their low bytes -/
theorem law (l : Launch) (a : Addr) (D : Cell) (fV fC : Field) (b : Addr) (A : Cell) (z : Int32) (o len : Nat) : Law l yN 5 4 2 35 yB 6 none site (P a D fV fC b A z o len) (E a D fV fC A o len) [⟨a, fC.slot⟩, ⟨a, fV.slot⟩] 1 len := by
  refine Law.of_walk (plainFor_of_name (by decide +kernel)) (by decide +kernel) (by decide +kernel) (by decide) (fun _ _ h => by rw [h.1]; rfl) (fun _ U U' hal hh h => ⟨h.1, h.2.1.mv hal hh, h.2.2.1.al hal, h.2.2.2.1.al hal, h.2.2.2.2.1.mv hal hh, h.2.2.2.2.2.1.there hal hh, h.2.2.2.2.2.2⟩) (fun r U U' V V' h1 hal h2 h => Got.mv r U U' V V' h1 hal h2 h) ?_
  intro p e s m args below meth c s₁ X0 hexec hbytes hml hret hlk hnm hown hh0 W hP
  obtain ⟨rfl, hB, f1, f2, hA, s1, hz, l0, l1, l2, hp⟩ := hP
  have a31 := hA.1.2.2.2
  have c1 : Steps p.tables e below (s₁.setTop (entryFrame m #[.ref a, .ref b, .int (Int32.ofNat o), .int (Int32.ofNat len), .null] 6)) (s₁.setTop (mkF m 0 #[.val (.ref a), .val (.ref b), .val (.int (Int32.ofNat o)), .val (.int (Int32.ofNat len)), .val .null, .unset] [])) := entry rfl
  have c2 : Steps p.tables e below (s₁.setTop (entryFrame m #[.ref a, .ref b, .int (Int32.ofNat o), .int (Int32.ofNat len), .null] 6)) (s₁.setTop (mkF m 1 #[.val (.ref a), .val (.ref b), .val (.int (Int32.ofNat o)), .val (.int (Int32.ofNat len)), .val .null, .unset] [.ref a])) := c1.trans (by
    refine XS.aloadN X0.here hexec rfl (hb hbytes d0) rfl rfl ?_
    exact Steps.refl _)
  obtain ⟨T3, X3, q3, st3⟩ := X0.oinit hexec hown (wks W (objW "java/lang/String" 1)) (g := (mkF m 1 #[.val (.ref a), .val (.ref b), .val (.int (Int32.ofNat o)), .val (.int (Int32.ofNat len)), .val .null, .unset] [.ref a])) rfl (by rw [hml]; rfl) (rest := []) rfl (hb hbytes d1) (W := 0) (by show 2 * 0 + 0 ≤ _; decide) (Nat.le_of_ble_eq_true rfl) (Nat.le_of_ble_eq_true rfl)
  have hh3 := q3.trans hh0
  have c4 : Steps p.tables e below (s₁.setTop (entryFrame m #[.ref a, .ref b, .int (Int32.ofNat o), .int (Int32.ofNat len), .null] 6)) (T3.setTop (mkF m 27 #[.val (.ref a), .val (.ref b), .val (.int (Int32.ofNat o)), .val (.int (Int32.ofNat len)), .val .null, .unset] [])) := (c2.trans (st3 _ (Steps.refl _))).trans (by
    refine XS.iloadN X3.here hexec rfl (hb hbytes d4) rfl ?_
    refine XS.ifYes X3.here hexec rfl (pc0 := 5) rfl (hb hbytes d5) rfl (i0_ne_t (nz32 (by omega) l0)) (by decide) rfl ?_
    exact Steps.refl _)
  obtain ⟨T5, X5, q5, st5⟩ := X3.sget hexec hown (wk W (.fieldLink "java/lang/String" 38 "java/lang/String" "COMPACT_STRINGS" "Z")) s1 (fun _ _ h => by rw [hh3]; exact h) (g := (mkF m 27 #[.val (.ref a), .val (.ref b), .val (.int (Int32.ofNat o)), .val (.int (Int32.ofNat len)), .val .null, .unset] [])) rfl (hb hbytes d27)
  have hh5 := q5.trans hh3
  have c6 : Steps p.tables e below (s₁.setTop (entryFrame m #[.ref a, .ref b, .int (Int32.ofNat o), .int (Int32.ofNat len), .null] 6)) (T5.setTop (mkF m 30 #[.val (.ref a), .val (.ref b), .val (.int (Int32.ofNat o)), .val (.int (Int32.ofNat len)), .val .null, .unset] [.int z])) := c4.trans (st5 _ (Steps.refl _))
  have c7 : Steps p.tables e below (s₁.setTop (entryFrame m #[.ref a, .ref b, .int (Int32.ofNat o), .int (Int32.ofNat len), .null] 6)) (T5.setTop (mkF m 36 #[.val (.ref a), .val (.ref b), .val (.int (Int32.ofNat o)), .val (.int (Int32.ofNat len)), .val .null, .unset] [.int (Int32.ofNat len), .int (Int32.ofNat o), .ref b])) := c6.trans (by
    refine XS.ifNo X5.here hexec rfl (hb hbytes d30) rfl (i0_eq_f hz) ?_
    refine XS.aloadN X5.here hexec rfl (hb hbytes d33) rfl rfl ?_
    refine XS.iloadN X5.here hexec rfl (hb hbytes d34) rfl ?_
    refine XS.iloadN X5.here hexec rfl (hb hbytes d35) rfl ?_
    exact Steps.refl _)
  obtain ⟨v8, T8, X8, E8, g8⟩ := X5.callS hexec (Cmp3.law l b A o len) hown (wks W (staticW "java/lang/String" 177 Cmp3.yN)) (wk W Cmp3.tab) (W := 0) (Nat.le_of_ble_eq_true rfl) (Nat.le_of_ble_eq_true rfl) (Nat.le_refl _) (by show 0 + len ≤ len; omega) (g := (mkF m 36 #[.val (.ref a), .val (.ref b), .val (.int (Int32.ofNat o)), .val (.int (Int32.ofNat len)), .val .null, .unset] [.int (Int32.ofNat len), .int (Int32.ofNat o), .ref b])) rfl (by rw [hml]; rfl) c7 (argsL := [.ref b, .int (Int32.ofNat o), .int (Int32.ofNat len)]) (rest := []) rfl rfl (by show 2 * 0 + 0 ≤ _; decide) (hb hbytes d36) (⟨rfl, hA.mv X5.warmed.alike hh5, l1, l2, hp⟩)
  obtain ⟨e8, z8⟩ := E8
  obtain ⟨rfl, N, n1, n2, n3, n4, n5, n6⟩ := NewArr.mv _ T5 s _ _ hh5.symm (Vm.Alike.refl _) rfl e8
  rw [hh5] at z8
  have hB1 := hB.keep X8.warmed.alike (n6 _ _ hB.1)
  have hne : s.heap.size ≠ a := (Nat.ne_of_lt (Array.getElem?_eq_some_iff.mp hB.1).1).symm
  have c9 : Steps p.tables e below (s₁.setTop (entryFrame m #[.ref a, .ref b, .int (Int32.ofNat o), .int (Int32.ofNat len), .null] 6)) (T8.setTop (mkF m 39 #[.val (.ref a), .val (.ref b), .val (.int (Int32.ofNat o)), .val (.int (Int32.ofNat len)), .val .null, .unset] [.ref s.heap.size])) := g8
  have c10 : Steps p.tables e below (s₁.setTop (entryFrame m #[.ref a, .ref b, .int (Int32.ofNat o), .int (Int32.ofNat len), .null] 6)) (T8.setTop (mkF m 45 #[.val (.ref a), .val (.ref b), .val (.int (Int32.ofNat o)), .val (.int (Int32.ofNat len)), .val .null, .val (.ref s.heap.size)] [.int (Int32.ofNat N.slots.size), .ref s.heap.size, .ref a])) := by
    have hc : Steps p.tables e below (s₁.setTop (entryFrame m #[.ref a, .ref b, .int (Int32.ofNat o), .int (Int32.ofNat len), .null] 6)) (T8.setTop (mkF m 45 #[.val (.ref a), .val (.ref b), .val (.int (Int32.ofNat o)), .val (.int (Int32.ofNat len)), .val .null, .val (.ref s.heap.size)] [.int (Int32.ofNat len), .ref s.heap.size, .ref a])) := c9.trans (by
      refine XS.astore X8.here hexec rfl (hb hbytes d39) rfl rfl rfl ?_
      refine XS.aloadN X8.here hexec rfl (hb hbytes d41) rfl rfl ?_
      refine XS.aload X8.here hexec rfl (hb hbytes d42) rfl rfl ?_
      refine XS.iloadN X8.here hexec rfl (hb hbytes d44) rfl ?_
      exact Steps.refl _)
    rw [n4]; exact hc
  obtain ⟨v11, T11, X11, E11, g11⟩ := X8.callS hexec (CodL.law l s.heap.size N) hown (wks W (staticW "java/lang/String" 47 CodL.yN)) (wk W CodL.tab) (W := 1) (Nat.le_of_ble_eq_true rfl) (Nat.le_of_ble_eq_true rfl) (Nat.le_refl _) (by show 0 + len + 0 ≤ len; omega) (g := (mkF m 45 #[.val (.ref a), .val (.ref b), .val (.int (Int32.ofNat o)), .val (.int (Int32.ofNat len)), .val .null, .val (.ref s.heap.size)] [.int (Int32.ofNat N.slots.size), .ref s.heap.size, .ref a])) rfl (by rw [hml]; rfl) c10 (argsL := [.ref s.heap.size, .int (Int32.ofNat N.slots.size)]) (rest := [.ref a]) rfl rfl (by show 2 * 0 + (1 + 0) ≤ _; decide) (hb hbytes d45) (⟨rfl, n1⟩)
  obtain ⟨rfl, q11⟩ := E11
  have hB11 := hB1.mv (X8.warmed.alike.symm.trans X11.warmed.alike) q11
  have c12 : Steps p.tables e below (s₁.setTop (entryFrame m #[.ref a, .ref b, .int (Int32.ofNat o), .int (Int32.ofNat len), .null] 6)) (T11.setTop (mkF m 48 #[.val (.ref a), .val (.ref b), .val (.int (Int32.ofNat o)), .val (.int (Int32.ofNat len)), .val .null, .val (.ref s.heap.size)] [.int 0, .ref a])) := g11
  obtain ⟨T13, X13, p13, bl13, sl13, st13⟩ := X11.finit hexec hown (wk W (.fieldLink "java/lang/String" 15 "java/lang/String" "coder" "B")) (Or.inr ⟨_, (wk W (.laysFinal "java/lang/String" "java/lang/String" "coder" "B"))⟩) (Or.inl ⟨rfl, hnm⟩) f2 (Or.inl rfl) hB11 (t := .byte) (by decide +kernel) rfl (g := (mkF m 48 #[.val (.ref a), .val (.ref b), .val (.int (Int32.ofNat o)), .val (.int (Int32.ofNat len)), .val .null, .val (.ref s.heap.size)] [.int 0, .ref a])) rfl (rest := []) rfl (hb hbytes d48)
  have c14 : Steps p.tables e below (s₁.setTop (entryFrame m #[.ref a, .ref b, .int (Int32.ofNat o), .int (Int32.ofNat len), .null] 6)) (T13.setTop (mkF m 54 #[.val (.ref a), .val (.ref b), .val (.int (Int32.ofNat o)), .val (.int (Int32.ofNat len)), .val .null, .val (.ref s.heap.size)] [.ref s.heap.size, .ref a])) := (c12.trans (st13 _ (Steps.refl _))).trans (by
    refine XS.aloadN X13.here hexec rfl (hb hbytes d51) rfl rfl ?_
    refine XS.aload X13.here hexec rfl (hb hbytes d52) rfl rfl ?_
    exact Steps.refl _)
  obtain ⟨T15, X15, p15, bl15, sl15, st15⟩ := X13.finit hexec hown (wk W (.fieldLink "java/lang/String" 9 "java/lang/String" "value" "[B")) (Or.inr ⟨_, (wk W (.laysFinal "java/lang/String" "java/lang/String" "value" "[B"))⟩) (Or.inl ⟨rfl, hnm⟩) f1 (Or.inl rfl) bl13 (t := (.array .byte)) (by decide +kernel) rfl (g := (mkF m 54 #[.val (.ref a), .val (.ref b), .val (.int (Int32.ofNat o)), .val (.int (Int32.ofNat len)), .val .null, .val (.ref s.heap.size)] [.ref s.heap.size, .ref a])) rfl (rest := []) rfl (hb hbytes d54)
  have c16 : Steps p.tables e below (s₁.setTop (entryFrame m #[.ref a, .ref b, .int (Int32.ofNat o), .int (Int32.ofNat len), .null] 6)) (T15.setTop (mkF m 57 #[.val (.ref a), .val (.ref b), .val (.int (Int32.ofNat o)), .val (.int (Int32.ofNat len)), .val .null, .val (.ref s.heap.size)] [])) := c14.trans (st15 _ (Steps.refl _))
  have ap := apart (Or.inr ⟨_, (wk W (.laysFinal "java/lang/String" "java/lang/String" "value" "[B"))⟩) (Or.inr ⟨_, (wk W (.laysFinal "java/lang/String" "java/lang/String" "coder" "B"))⟩) f1 f2 (t₁ := .array .byte) (t₂ := .byte) (by decide +kernel) (by decide +kernel) (by decide)
  have al := X8.warmed.alike.symm.trans X15.warmed.alike
  have n7 : T11.heap[s.heap.size]? = some N := by rw [q11]; exact n1.1
  exact ⟨T15, none, _, _, _, X15, by simp, rfl, by omega, (fun _ => rfl), ⟨rfl, _, N, bl15, ((Same.refl D _).set _ (by simp)).set _ (by simp), sl15, (Cell.slots_setSlot_ne _ ap).trans sl13, n1.keep al (p15.other hne (p13.other hne n7)), n2, by rw [al.findClass]; exact n3, n4, n5, fun y c h1 h2 => p15.other h1 (p13.other h1 (by rw [q11]; exact n6 y c h2)), by rw [p15.2.2, p13.2.2, q11]; exact z8⟩, fun fs hl => c16.trans (X15.returnOut hexec hret (hb hbytes d57) hl)⟩
end New4
namespace New1
def yN : MethodName := ⟨"java/lang/String", "<init>", "([C)V"⟩
abbrev yB : ByteArray := jdk_42_method_3_code
theorem d0 : decode yB 0 = .ok (.aload_n 0, 1) := by decide +kernel
theorem d1 : decode yB 1 = .ok (.aload_n 1, 1) := by decide +kernel
theorem d2 : decode yB 2 = .ok (.iconst 0, 1) := by decide +kernel
theorem d3 : decode yB 3 = .ok (.aload_n 1, 1) := by decide +kernel
theorem d4 : decode yB 4 = .ok (.arraylength, 1) := by decide +kernel
theorem d5 : decode yB 5 = .ok (.aconst_null, 1) := by decide +kernel
theorem d6 : decode yB 6 = .ok (.invokespecial 27, 3) := by decide +kernel
theorem d9 : decode yB 9 = .ok (.return_, 1) := by decide +kernel
def site : List Cond := [New4.tab] ++ initW "java/lang/String" 27 New4.yN
def tab : Cond := tabOf yN yB 2 none site
def P (a : Addr) (D : Cell) (fV fC : Field) (b : Addr) (A : Cell) (z : Int32) (args : Array Value) (s : State) : Prop := args = #[.ref a, .ref b] ∧ Blank "java/lang/String" a D s ∧ Found "java/lang/String" "value" "[B" fV s ∧ Found "java/lang/String" "coder" "B" fC s ∧ Ch b A s ∧ StaticIs s "java/lang/String" "COMPACT_STRINGS" "Z" (.int z) ∧ ¬ z = 0 ∧ 0 < A.slots.size ∧ A.slots.size ≤ 536870912 ∧ ∀ i, i < A.slots.size → ¬ 255 < cv A i
def E (a : Addr) (D : Cell) (fV fC : Field) (A : Cell) (r : Option Value) (s u : State) : Prop := Got a D fV fC A 0 A.slots.size r s u
/-- new String(chars), not empty, no char above 255: a Latin-1 String of their low bytes -/
theorem law (l : Launch) (a : Addr) (D : Cell) (fV fC : Field) (b : Addr) (A : Cell) (z : Int32) : Law l yN 2 1 3 52 yB 2 none site (P a D fV fC b A z) (E a D fV fC A) [⟨a, fC.slot⟩, ⟨a, fV.slot⟩] 1 A.slots.size := by
  refine Law.of_walk (plainFor_of_name (by decide +kernel)) (by decide +kernel) (by decide +kernel) (by decide) (fun _ _ h => by rw [h.1]; rfl) (fun _ U U' hal hh h => ⟨h.1, h.2.1.mv hal hh, h.2.2.1.al hal, h.2.2.2.1.al hal, h.2.2.2.2.1.mv hal hh, h.2.2.2.2.2.1.there hal hh, h.2.2.2.2.2.2⟩) (fun r U U' V V' h1 hal h2 h => Got.mv r U U' V V' h1 hal h2 h) ?_
  intro p e s m args below meth c s₁ X0 hexec hbytes hml hret hlk hnm hown hh0 W hP
  obtain ⟨rfl, hB, f1, f2, hA, s1, hz, l0, l2, hp⟩ := hP
  have c1 : Steps p.tables e below (s₁.setTop (entryFrame m #[.ref a, .ref b] 2)) (s₁.setTop (mkF m 0 #[.val (.ref a), .val (.ref b)] [])) := entry rfl
  have c2 : Steps p.tables e below (s₁.setTop (entryFrame m #[.ref a, .ref b] 2)) (s₁.setTop (mkF m 6 #[.val (.ref a), .val (.ref b)] [.null, .int (Int32.ofNat A.slots.size), .int 0, .ref b, .ref a])) := c1.trans (by
    refine XS.aloadN X0.here hexec rfl (hb hbytes d0) rfl rfl ?_
    refine XS.aloadN X0.here hexec rfl (hb hbytes d1) rfl rfl ?_
    refine iconstV X0.here hexec rfl 0 (hb hbytes d2) (by decide) ?_
    refine XS.aloadN X0.here hexec rfl (hb hbytes d3) rfl rfl ?_
    refine X0.alen hexec (hA.1.mv X0.warmed.alike hh0) rfl rfl (hb hbytes d4) ?_
    refine XS.aconstNull X0.here hexec rfl (hb hbytes d5) ?_
    exact Steps.refl _)
  obtain ⟨v3, T3, X3, E3, g3⟩ := X0.callN hexec (New4.law l a D fV fC b A z 0 A.slots.size) rfl hown (wks W (initW "java/lang/String" 27 New4.yN)) (W New4.tab (by simp only [site, List.mem_cons, List.mem_append, true_or, or_true])) (W := 0) (Nat.le_of_ble_eq_true rfl) (Nat.le_of_ble_eq_true rfl) (Nat.le_refl _) (by show 0 + A.slots.size ≤ A.slots.size; omega) (g := (mkF m 6 #[.val (.ref a), .val (.ref b)] [.null, .int (Int32.ofNat A.slots.size), .int (Int32.ofNat 0), .ref b, .ref a])) rfl (by rw [hml]; rfl) c2 (argsL := [.ref b, .int (Int32.ofNat 0), .int (Int32.ofNat A.slots.size), .null]) (rest := []) rfl rfl (by show 2 * 0 + 0 ≤ _; decide) (hb hbytes d6) (⟨rfl, hB.mv X0.warmed.alike hh0, f1.al X0.warmed.alike, f2.al X0.warmed.alike, hA.mv X0.warmed.alike hh0, s1.there X0.warmed.alike hh0, hz, l0, by omega, l2, fun i hi => by rw [Nat.zero_add]; exact hp i hi⟩)
  have e0 := Got.mv _ s₁ s _ _ hh0.symm (Vm.Alike.refl _) rfl E3
  obtain rfl := e0.1
  have c4 : Steps p.tables e below (s₁.setTop (entryFrame m #[.ref a, .ref b] 2)) (T3.setTop (mkF m 9 #[.val (.ref a), .val (.ref b)] [])) := g3
  exact ⟨T3, none, _, _, _, X3, by simp, rfl, by omega, (fun _ => rfl), e0, fun fs hl => c4.trans (X3.returnOut hexec hret (hb hbytes d9) hl)⟩
theorem pays {l : Launch} {R : Room} {p : Program} {e : Env} {below : List Frame} {s : State} {sargs : Array Value} {len W : Nat} (a : Addr) (D : Cell) (fV fC : Field) (b : Addr) (A : Cell) (z : Int32) (htab : tab.before sargs s = true) (hfr : 4 ≤ R.frames) (hlo : W + 65 ≤ R.locals) :
    Back l R p e below s sargs yN len W (fun A₁ a₁ => A₁.cells + 1 ≤ R.cells ∧ A₁.slots + A.slots.size ≤ R.slots ∧ P a D fV fC b A z a₁ A₁.U) (fun A₁ _ v₁ B₁ => E a D fV fC A v₁ A₁.U B₁.U ∧ B₁.locs = A₁.locs ++ [⟨a, fC.slot⟩, ⟨a, fV.slot⟩] ∧ B₁.cells = A₁.cells + 1 ∧ B₁.slots = A₁.slots + A.slots.size) :=
  (law l a D fV fC b A z).pays htab hfr (by omega)
end New1
end StrChars
namespace StrChars.Road
open Jvm Sem ClassFile Op Lib Jvm.Stand Jvm.Free Jvm.Free.XT
open Jvm.Lib.Cold (StaticIs)
abbrev ST : String := "java/lang/String"
/-- every table word that New1's law asks, flat -/
abbrev words : List Jvm.Cond := [.code New1.yN New1.yB 2 none, .initialized ST, .methodLink ST 27 New4.yN, .instanceMethod New4.yN,
  .code New4.yN New4.yB 6 none, .fieldLink ST 38 ST "COMPACT_STRINGS" "Z", .laysFinal ST ST "value" "[B", .fieldLink ST 9 ST "value" "[B", .laysFinal ST ST "coder" "B", .fieldLink ST 15 ST "coder" "B",
  .methodLink ST 1 Lib.objectInit, .instanceMethod Lib.objectInit, .code Lib.objectInit ⟨#[0xb1]⟩ 1 none, .methodLink ST 177 Cmp3.yN, .static Cmp3.yN, .methodLink ST 47 CodL.yN, .static CodL.yN,
  .code Cmp3.yN Cmp3.yB 6 (some (.array .byte)), .initialized U16, .arrayClass .byte, .methodLink U16 115 Cmp5.yN, .static Cmp5.yN, .code Cmp5.yN Cmp5.yB 7 (some .int), .code CodL.yN CodL.yB 2 (some .byte)]
theorem tab_of {a : Array Value} {s : State} (h : ∀ w ∈ words, w.before a s = true) : New1.tab.before a s = true := by
  have h5 : Cmp5.tab.before a s = true := unparts (wk h (.code Cmp5.yN Cmp5.yB 7 (some .int))) (wks h (.initialized Cmp5.yN.cls :: Cmp5.site))
  have hc : CodL.tab.before a s = true := unparts (wk h (.code CodL.yN CodL.yB 2 (some .byte))) (wks h (.initialized CodL.yN.cls :: CodL.site))
  have q5 : ∀ w ∈ Cmp5.tab :: words, w.before a s = true := fun w hw => (List.mem_cons.mp hw).elim (fun e => e ▸ h5) (h w)
  have h3 : Cmp3.tab.before a s = true := unparts (wk q5 (.code Cmp3.yN Cmp3.yB 6 (some (.array .byte)))) (wks q5 (.initialized Cmp3.yN.cls :: Cmp3.site))
  have q3 : ∀ w ∈ Cmp3.tab :: CodL.tab :: words, w.before a s = true := fun w hw => (List.mem_cons.mp hw).elim (fun e => e ▸ h3) fun hw => (List.mem_cons.mp hw).elim (fun e => e ▸ hc) (h w)
  have h4 : New4.tab.before a s = true := unparts (wk q3 (.code New4.yN New4.yB 6 none)) (wks q3 (.initialized New4.yN.cls :: New4.site))
  have q4 : ∀ w ∈ New4.tab :: words, w.before a s = true := fun w hw => (List.mem_cons.mp hw).elim (fun e => e ▸ h4) (h w)
  exact unparts (wk q4 (.code New1.yN New1.yB 2 none)) (wks q4 (.initialized New1.yN.cls :: New1.site))
/-- the words ride from the start Z to the walk's own state -/
theorem moved {Z s : State} {a0 args : Array Value} (hZ : Z.Warmed39 s.vm) (hw : ∀ d ∈ words, d.before a0 Z = true) : ∀ d ∈ words, d.before args s = true := fun d hd => by
  have q := hw d hd
  have t : ∀ d ∈ words, d = .arrayClass .byte ∨ (d.onTables && d.keepsFace) = true := by decide +kernel
  rcases t d hd with rfl | t
  · exact RoadKit.mvA hZ q
  · exact RoadKit.mv hZ q t
/-- WHAT COMES BACK, over the tables of the start Z: h the heap at the call, h' behind it -/
def Q (Z : State) (x : Addr) (A : Cell) (h : Heap) (v : Option Value) (h' : Heap) (L : List Loc) : Prop := v = none ∧ (∀ y ∈ L, y.base = x) ∧ RoadKit.Keep h h' [x] ∧ h'.size = h.size + 1 ∧ RoadKit.Exa Z h' x ST ∧ RoadKit.Fld Z h' x ST "value" "[B" (.ref h.size) ∧ RoadKit.Fld Z h' x ST "coder" "B" (.int 0) ∧
  (∃ V : Cell, RoadKit.Arr Z h' h.size V .byte ∧ V.vm = .none ∧ Z.vm.findClass "[B" = some V.cls ∧ V.slots.size = A.slots.size ∧ ∀ j, j < A.slots.size → V.slots[j]? = some (.int (lo8 (cv A j)))) ∧
  ∀ (O n d : String) (w : Value), RoadKit.Fld Z h x O n d w → RoadKit.slotOf Z O n d ≠ RoadKit.slotOf Z ST "value" "[B" → RoadKit.slotOf Z O n d ≠ RoadKit.slotOf Z ST "coder" "B" → RoadKit.Fld Z h' x O n d w
/-- **new String(chars) AT A CALL, IN THE ROAD'S FORM**: for specialBack behind newO: x the fresh String, b the char[] with the cell A -/
theorem back {p : Program} {l : Launch} {e : Env} {R : Room} {s : State} {args : Array Value} {below : List Frame} {len W : Nat} {Z : State} {a0 : Array Value} {h : Heap} (hZ : Z.Warmed39 s.vm) (hw : ∀ d ∈ words, d.before a0 Z = true) {kI : Nat} (wi : (Jvm.Cond.instantiable ST kI).before a0 Z = true)
    {x b : Addr} {A : Cell} {z : Int32} {v0 c0 : Value} (E : RoadKit.Exa Z h x ST) (V : RoadKit.Fld Z h x ST "value" "[B" v0) (C : RoadKit.Fld Z h x ST "coder" "B" c0) (K : RoadKit.Arr Z h b A .char) (hty : Typed .char A) (S : RoadKit.Sta Z h ST "COMPACT_STRINGS" "Z" (.int z)) (hz : ¬ z = 0)
    (l0 : 0 < A.slots.size) (l2 : A.slots.size ≤ 536870912) (hp : ∀ i, i < A.slots.size → ¬ 255 < cv A i) (hfr : 4 ≤ R.frames) (hlo : W + 65 ≤ R.locals) :
    Back l R p e below s args New1.yN len W (fun P a => a = #[.ref x, .ref b] ∧ P.U.heap = h ∧ P.cells + 1 ≤ R.cells ∧ P.slots + A.slots.size ≤ R.slots)
      (fun P _ v B => ∃ L, Q Z x A h v B.U.heap L ∧ B.locs = P.locs ++ L ∧ B.cells = P.cells + 1 ∧ B.slots = P.slots + A.slots.size) := by
  intro m meth c P g ig mk a X hg hsize hdg hW hn hp'
  obtain ⟨rfl, rfl, r1, r2⟩ := hp'
  have al : Z.vm.Alike P.U.vm := hZ.alike.trans X.warmed.alike
  obtain ⟨D, cfV, kV, iV, fV, hD, gV, stV, knV, obV, asV, slV⟩ := id V
  obtain ⟨D', cfC, kC, iC, fC, hD', gC, stC, -, -, asC, slC⟩ := id C
  cases hD.symm.trans hD'
  obtain ⟨D2, kD, e1, e2, e3, e4, e5⟩ := id E
  cases hD.symm.trans e1
  obtain ⟨c2, k2, i1, i2, i3, -⟩ := Cond.instantiable_spec wi
  cases e2.symm.trans i1
  cases e3.symm.trans i2
  obtain ⟨kU, u1, u2⟩ := al.2.2 _ _ e3
  have hB : Blank ST x D P.U := ⟨hD, ⟨knV, fun q hq => by rw [hq] at obV; cases obV⟩, by rw [al.findClass]; exact e2, kU, u1, by rw [u2]; exact i3, by rw [u2]; exact e5 i3⟩
  have F1 : Found ST "value" "[B" fV P.U := ⟨SBG.found_only al ⟨cfV, kV, iV, gV⟩, stV⟩
  have F2 : Found ST "coder" "B" fC P.U := ⟨SBG.found_only al ⟨cfC, kC, iC, gC⟩, stC⟩
  have hA : Ch b A P.U := ⟨⟨K.1, State.isArrayOf_alike al K.2.1, K.2.2, by omega⟩, hty⟩
  have hS : StaticIs P.U ST "COMPACT_STRINGS" "Z" (.int z) := by
    obtain ⟨cfS, iS, kS, fS, st, cS, t1, t2, t3, t4, t5, t6, t7⟩ := S
    exact StaticIs.there (s := { Z with heap := P.U.heap }) ⟨cfS, iS, kS, fS, st, cS, t1, t2, t3, t4, t5, (fun q => by rw [q] at t6; cases t6), t7⟩ al rfl
  obtain ⟨v, B, X', ⟨⟨hv, E', V', q1, q2, q3, q4, q5, q6, q7, q8, q9, q10, q11⟩, hl, hc, hs⟩, st⟩ := New1.pays x D fV fC b A z (tab_of (moved hZ hw)) hfr hlo m meth c P g ig mk _ X hg hsize hdg hW hn ⟨r1, r2, rfl, hB, F1, F2, hA, hS, hz, l0, l2, hp⟩
  have al' : Z.vm.Alike B.U.vm := hZ.alike.trans X'.warmed.alike
  have hsz : E'.slots.size = D.slots.size := by
    obtain ⟨-, -, -, kB, w1, w2, w3⟩ := q1
    obtain ⟨kB', y1, y2⟩ := al'.2.2 _ _ e3
    rw [q2.2.1] at w1
    cases w1.symm.trans y1
    rw [w3, e5 i3, y2]
  refine ⟨v, B, X', ⟨_, ⟨hv, ?_, ⟨by omega, fun y cy hy hn' => q10 y cy (by simpa using hn') hy, fun y cy hy => ?_⟩, q11, ⟨E', _, q1.1, by rw [q2.2.1]; exact e2, by rw [q2.2.1]; exact e3, by rw [q2.1]; exact obV, fun _ => by rw [hsz]; exact e5 i3⟩,
    ⟨E', cfV, kV, iV, fV, q1.1, gV, stV, by rw [q2.1]; exact knV, by rw [q2.1]; exact obV, by rw [q2.2.1]; exact asV, q3⟩, ⟨E', cfC, kC, iC, fC, q1.1, gC, stC, by rw [q2.1]; exact knV, by rw [q2.1]; exact obV, by rw [q2.2.1]; exact asC, q4⟩,
    ⟨V', ⟨q5.1, State.isArrayOf_alike al'.symm q5.2.1, q5.2.2.1⟩, q6, by rw [← al'.findClass]; exact q7, q8, fun j hj => by have := q9 j hj; rwa [Nat.zero_add] at this⟩, fun O n d w F n1 n2 => ?_⟩, hl, hc, hs⟩, st⟩
  · intro y hy
    simp only [List.mem_cons, List.not_mem_nil, or_false] at hy
    rcases hy with rfl | rfl <;> rfl
  · by_cases q : y = x
    · subst q
      cases hD.symm.trans hy
      exact ⟨E', q1.1, q2.2.1, q2.1, hsz⟩
    · exact ⟨cy, q10 y cy q hy, rfl, rfl, rfl⟩
  · obtain ⟨D3, cf, k, i, f, g1, g2, g3, g4, g5, g6, g7⟩ := F
    cases hD.symm.trans g1
    simp only [RoadKit.slotOf, g2, gV, gC, Option.map_some, Option.getD_some] at n1 n2
    exact ⟨E', cf, k, i, f, q1.1, g2, g3, by rw [q2.1]; exact g4, by rw [q2.1]; exact g5, by rw [q2.2.1]; exact g6, by rw [q2.2.2 f.slot (by simp [n1, n2])]; exact g7⟩
end StrChars.Road
namespace StrChars.Road
open Jvm Sem ClassFile Op Lib Jvm.Stand Jvm.Free Jvm.Free.XT
/-- WHAT COMES BACK, the byte[] as a list of values -/
def QA (Z : State) (x : Addr) (zn : Int32) (cs : List Int32) (h : Heap) (v : Option Value) (h' : Heap) (L : List Loc) : Prop := v = none ∧ (∀ y ∈ L, y.base = x) ∧ RoadKit.Keep h h' [x] ∧ h'.size = h.size + 1 ∧ RoadKit.Exa Z h' x ST ∧ RoadKit.Fld Z h' x ST "value" "[B" (.ref h.size) ∧ RoadKit.Fld Z h' x ST "coder" "B" (.int 0) ∧
  (∃ kb, Z.vm.findClass "[B" = some kb ∧ RoadKit.Arv Z h' h.size kb .byte zn (cs.map fun c => .int (lo8 c)) (.int 0)) ∧
  ∀ (O n d : String) (w : Value), RoadKit.Fld Z h x O n d w → RoadKit.slotOf Z O n d ≠ RoadKit.slotOf Z ST "value" "[B" → RoadKit.slotOf Z O n d ≠ RoadKit.slotOf Z ST "coder" "B" → RoadKit.Fld Z h' x O n d w
/-- **new String(chars) AT A CALL, THE ARRAYS AS LISTS**: the char[] at b holds cs, not empty, no char above 255 -/
theorem backArv {p : Program} {l : Launch} {e : Env} {R : Room} {s : State} {args : Array Value} {below : List Frame} {len W : Nat} {Z : State} {a0 : Array Value} {h : Heap} (hZ : Z.Warmed39 s.vm) (hw : ∀ d ∈ words, d.before a0 Z = true) {kI : Nat} (wi : (Jvm.Cond.instantiable ST kI).before a0 Z = true)
    {x b : Addr} {k : ClassId} {zn z : Int32} {cs : List Int32} {dv v0 c0 : Value} (E : RoadKit.Exa Z h x ST) (V : RoadKit.Fld Z h x ST "value" "[B" v0) (C : RoadKit.Fld Z h x ST "coder" "B" c0) (K : RoadKit.Arv Z h b k .char zn (cs.map Value.int) dv) (S : RoadKit.Sta Z h ST "COMPACT_STRINGS" "Z" (.int z)) (hz : ¬ z = 0)
    (hlen : zn.toNatClampNeg = cs.length) (h0 : 0 < cs.length) (hbig : cs.length ≤ 536870912) (hall : ∀ c ∈ cs, ¬ 255 < c) (hfr : 4 ≤ R.frames) (hlo : W + 65 ≤ R.locals) :
    Back l R p e below s args New1.yN len W (fun P a => a = #[.ref x, .ref b] ∧ P.U.heap = h ∧ P.cells + 1 ≤ R.cells ∧ P.slots + cs.length ≤ R.slots)
      (fun P _ v B => ∃ L, QA Z x zn cs h v B.U.heap L ∧ B.locs = P.locs ++ L ∧ B.cells = P.cells + 1 ∧ B.slots = P.slots + cs.length) := by
  obtain ⟨A, K1, K2, K3, K4, K5, K6⟩ := K
  have e : A.slots.size = cs.length := K3.trans hlen
  have hat : ∀ (i : Nat) (hi : i < cs.length), A.slots[i]? = some (.int cs[i]) := fun i hi => by rw [K5 i (by omega)]; simp [List.getD_eq_getElem?_getD, hi]
  have hcv : ∀ (i : Nat) (hi : i < cs.length), cv A i = cs[i] := fun i hi => by unfold cv; rw [hat i hi]
  have hty : Typed .char A := fun i v hv => by
    have hi : i < A.slots.size := (Array.getElem?_eq_some_iff.mp hv).1
    have q := K5 i hi
    rw [hv] at q
    rw [Option.some.inj q]
    exact K6 i hi
  refine Back.mono (back hZ hw wi E V C K1 hty S hz (by omega) (by omega) (fun i hi => by rw [hcv i (by omega)]; exact hall _ (List.getElem_mem _)) hfr hlo) (fun P a hp => ⟨hp.1, hp.2.1, hp.2.2.1, by rw [e]; exact hp.2.2.2⟩) (fun P a v B hp hq => ?_)
  obtain ⟨L, ⟨q1, q2, q3, q4, q5, q6, q7, ⟨V', v1, v2, v3, v4, v5⟩, q9⟩, hl, hc, hs⟩ := hq
  refine ⟨L, ⟨q1, q2, q3, q4, q5, q6, q7, ⟨V'.cls, v3, V', v1, rfl, by rw [v4, e, hlen], K4, fun i hi => ?_, fun i hi => ?_⟩, q9⟩, hl, hc, by rw [hs, e]⟩
  · have hi' : i < cs.length := by omega
    rw [v5 i (by omega), hcv i hi']; simp [List.getD_eq_getElem?_getD, hi']
  · have hi' : i < cs.length := by omega
    simp only [List.getD_eq_getElem?_getD, List.getElem?_map, List.getElem?_eq_getElem hi', Option.map_some, Option.getD_some]
    exact fits_lo8 _
end StrChars.Road
namespace StrChars.Road
open Jvm Sem ClassFile Op Lib Jvm.Stand Jvm.Free Jvm.Free.XT
/-- WHAT COMES BACK, in the writer's own shape -/
def QV (Z : State) (x : Addr) (N : Int32) (bs : List Int32) (h : Heap) (n0 : Nat) (v : Option Value) (h' : Heap) (L : List Loc) : Prop := v = none ∧ RoadKit.Fr n0 L ∧ RoadKit.Keep h h' [x] ∧ RoadKit.Exa Z h' x ST ∧ RoadKit.Fld Z h' x ST "coder" "B" (.int 0) ∧
  ∃ (t : Addr) (kb : ClassId), n0 ≤ t ∧ h.size ≤ t ∧ ¬ t = x ∧ RoadKit.Fld Z h' x ST "value" "[B" (.ref t) ∧ RoadKit.Arv Z h' t kb .byte N (bs.map Value.int) (.int 0)
/-- **new String(chars) AT A CALL, FOR THE WRITER**: a char[] of n known ints, each 0 to 255 -/
theorem backV {p : Program} {l : Launch} {e : Env} {R : Room} {s : State} {args : Array Value} {below : List Frame} {len W : Nat} {Z : State} {a0 : Array Value} {h : Heap} (hZ : Z.Warmed39 s.vm) (hw : ∀ d ∈ words, d.before a0 Z = true) {kI : Nat} (wi : (Jvm.Cond.instantiable ST kI).before a0 Z = true)
    {x b : Addr} {kC : ClassId} {cs bs : List Int32} {d v0 c0 : Value} {z N : Int32} {n n0 : Nat} (hx0 : n0 ≤ x) (hh0 : n0 ≤ h.size) (E : RoadKit.Exa Z h x ST) (V : RoadKit.Fld Z h x ST "value" "[B" v0) (C : RoadKit.Fld Z h x ST "coder" "B" c0) (K : RoadKit.Arv Z h b kC .char N (cs.map Value.int) d) (S : RoadKit.Sta Z h ST "COMPACT_STRINGS" "Z" (.int z)) (hz : ¬ z = 0)
    (hn : cs.length = n) (hN : N = Int32.ofNat n) (l0 : 0 < n) (l2 : n ≤ 4000) (hp : ∀ c ∈ cs, ¬ c < 0 ∧ ¬ (255 : Int32) < c) (hb : bs = cs.map (fun c => c.toInt8.toInt32)) (hfr : 4 ≤ R.frames) (hlo : W + 65 ≤ R.locals) :
    Back l R p e below s args (⟨"java/lang/String", "<init>", "([C)V"⟩ : MethodName) len W (fun P a => a = #[.ref x, .ref b] ∧ P.U.heap = h ∧ P.cells + 1 ≤ R.cells ∧ P.slots + n ≤ R.slots)
      (fun P _ v B => ∃ L, QV Z x N bs h n0 v B.U.heap L ∧ B.locs = P.locs ++ L ∧ B.cells = P.cells + 1 ∧ B.slots = P.slots + n) := by
  subst hn hN hb
  refine Back.mono (backArv hZ hw wi E V C K S hz (n32 (by omega)) l0 (by omega) (fun c hc => (hp c hc).2) hfr hlo) (fun P a hp => hp) (fun P a v B hp hq => ?_)
  obtain ⟨L, ⟨q1, q2, q3, q4, q5, q6, q7, ⟨kb, v1, v2⟩, q9⟩, hl, hc, hs⟩ := hq
  exact ⟨L, ⟨q1, fun y hy => by rw [q2 y hy]; exact hx0, q3, q5, q7, h.size, kb, hh0, Nat.le_refl _, Nat.ne_of_gt E.lt, q6, by rw [List.map_map]; exact v2⟩, hl, hc, hs⟩
end StrChars.Road
end Jvm.Pilot.@@N@@
namespace Jvm.Pilot.@@N@@
open Jvm Jvm.ClassFile Sem Op Lib Jvm.Free Jvm.Stand Jvm.LawKit Jvm.RoadKit Bundle Jvm.Pilot.@@N@@.Jvm.D Jvm.OwnKit
section OwnStr
variable {p : Program} {l : Launch} {e : Env} {R : Room} {s : State} {args : Array Value} {below : List Frame} {Z : State} {a0 : Array Value} {EL : List (String × Nat)} {vm : Vm} {h : Heap} {len W : Nat}
theorem own_up {cs : List Int32} (h : ∀ c ∈ cs, B8 c) : ∀ c ∈ cs, ¬ c < 0 ∧ ¬ (65535 : Int32) < c := fun c hc => ⟨(h c hc).1, fun q => (h c hc).2 (by rw [Int32.lt_iff_toInt_lt] at q ⊢; have e1 : (65535 : Int32).toInt = 65535 := rfl; have e2 : (255 : Int32).toInt = 255 := rfl; omega)⟩
theorem own_payNew {zc : Int32} (hws : ∀ d ∈ StrChars.Road.words, d.before a0 Z = true) (wi : (Jvm.Cond.instantiable "java/lang/String" 4).before a0 Z = true) (Scs : Sta Z Z.heap "java/lang/String" "COMPACT_STRINGS" "Z" (.int zc)) (hzc : ¬ zc = 0) (O : Ext Z.heap h)
    {x b : Addr} {kC : ClassId} {cs : List Int32} {d v0 c0 : Value} {N : Int32} {n : Nat} (gx0 : Z.heap.size ≤ x) (E : Exa Z h x "java/lang/String") (V : Fld Z h x "java/lang/String" "value" "[B" v0) (C : Fld Z h x "java/lang/String" "coder" "B" c0) (K : Arv Z h b kC .char N (cs.map Value.int) d)
    (hn : cs.length = n) (hN : N = Int32.ofNat n) (l0 : 0 < n) (l2 : n ≤ 4000) (hp : ∀ c ∈ cs, B8 c) (Sf : Safe Z EL vm h x) (hfr : 4 ≤ R.frames) (hlo : W + 65 ≤ R.locals) (hZ : Z.Warmed39 vm) (H : CHv Z EL vm h) (hEL : EW Z a0 EL) :
    Pay l R p e below s args Z EL vm h (⟨"java/lang/String", "<init>", "([C)V"⟩ : MethodName) len W #[.ref x, .ref b] 1 n (fun v _ h' => ∃ (t : Addr), v = none ∧ Keep h h' [x] ∧ h.size ≤ t ∧ Str Z h' x t cs) := by
  have hx : x < h.size := E.lt
  refine Pay.of_back (a0 := a0) (Q0 := StrChars.Road.QV Z x N (cs.map fun c => c.toInt8.toInt32) h Z.heap.size) (StrChars.Road.backV (s := s.setVm vm) hZ hws (kI := 4) wi (cs := cs) (bs := cs.map fun c => c.toInt8.toInt32) (n := n) gx0 O.1 E V C K (Scs.ext O) hzc hn hN l0 l2 hp rfl hfr hlo) hZ H hEL ?_
  rintro v h' L ⟨rfl, q1, q2, q3, q4, t, kb, q5, q6, q7, q8, q9⟩
  exact ⟨q1, ⟨[x], q2, allS Sf all0⟩, fun vm' _ => ⟨t, rfl, q2, q6, q3, q4, q8, ⟨kb, by rw [hn, ← hN]; exact q9⟩, hp, by rw [hn]; exact l2⟩⟩
end OwnStr
end Jvm.Pilot.@@N@@
namespace Jvm.Pilot.@@N@@
set_option maxRecDepth 65536
set_option maxHeartbeats 40000000
open Jvm Jvm.ClassFile Sem Op Lib Jvm.Free Jvm.Stand Jvm.LawKit Jvm.RoadKit Bundle Jvm.Pilot.@@N@@.Jvm.D Jvm.OwnKit
def Ctx (Z : State) (a0 : Array Value) : Prop := (∀ d ∈ tables_1, d.before a0 Z = true) ∧ EW Z a0 consts_1 ∧ (∃ zc : Int32, Sta Z Z.heap "java/lang/String" "COMPACT_STRINGS" "Z" (.int zc) ∧ ¬ zc = 0) ∧ (∃ fm : Value, Sta Z Z.heap "jdk/internal/util/Preconditions" "SIOOBE_FORMATTER" "Ljava/util/function/BiFunction;" fm ∧ fm.isRef = true) ∧ (∃ dz el ee em mr : Addr, ∃ kd ke : ClassId, Sta Z Z.heap "java/util/ArrayList" "DEFAULTCAPACITY_EMPTY_ELEMENTDATA" "[Ljava/lang/Object;" (.ref dz) ∧ Exa Z Z.heap dz "[Ljava/lang/Object;" ∧ Arv Z Z.heap dz kd (.object "java/lang/Object") (0 : Int32) [] .null ∧ Sta Z Z.heap "java/util/ImmutableCollections" "EMPTY_LIST" "Ljava/util/ImmutableCollections$ListN;" (.ref el) ∧ Exa Z Z.heap el "java/util/ImmutableCollections$ListN" ∧ Fld Z Z.heap el "java/util/ImmutableCollections$ListN" "elements" "[Ljava/lang/Object;" (.ref ee) ∧ Arv Z Z.heap ee ke (.object "java/lang/Object") (0 : Int32) [] .null ∧ Fld Z Z.heap el "java/util/ImmutableCollections$ListN" "allowNulls" "Z" (.int (0 : Int32)) ∧ Sta Z Z.heap "java/util/ImmutableCollections" "EMPTY" "Ljava/lang/Object;" (.ref em) ∧ Exa Z Z.heap em "java/lang/Object" ∧ Mir Z "[Ljava/lang/Object;" mr ∧ Sta Z Z.heap "java/util/Collections$CopiesList" "$assertionsDisabled" "Z" (.int (1 : Int32)))
theorem own_SA {Z : State} {a0 : Array Value} (hw : ∀ d ∈ tables_1, d.before a0 Z = true) : ∀ a ∈ Bundle.stringAtoms, a.before a0 Z = true := fun d hd => hw d ((by decide +kernel : ∀ d ∈ Bundle.stringAtoms, d ∈ tables_1) d hd)
theorem own_wNew {Z : State} {a0 : Array Value} (hw : ∀ d ∈ tables_1, d.before a0 Z = true) : ∀ d ∈ StrChars.Road.words, d.before a0 Z = true := fun d hd => hw d ((by decide +kernel : ∀ d ∈ StrChars.Road.words, d ∈ tables_1) d hd)
abbrev c0_ : String := "Ljava/lang/Object;"
abbrev c1_ : String := "Ljava/lang/String;"
abbrev c2_ : String := "Ljava/util/List;"
abbrev c3_ : String := "[Ljava/lang/Object;"
abbrev c4_ : String := "allowNulls"
abbrev c5_ : String := "com/example/limentinus/limentinus/core/KeyScripts"
abbrev c6_ : String := "com/example/limentinus/limentinus/core/Quorum$Script"
abbrev c7_ : String := "elementData"
abbrev c8_ : String := "java/lang/Object"
abbrev c9_ : String := "java/lang/String"
abbrev c10_ : String := "java/util/AbstractList"
abbrev c11_ : String := "java/util/ArrayList"
abbrev c12_ : String := "java/util/Collections$CopiesList"
abbrev c13_ : String := "java/util/ImmutableCollections"
abbrev c14_ : String := "java/util/ImmutableCollections$List12"
abbrev c15_ : String := "java/util/ImmutableCollections$ListN"
abbrev c16_ : String := "java/util/List"
def OwnL (Z : State) (dz el ee em mr : Addr) (kd ke : ClassId) : Prop := Sta Z Z.heap c11_ "DEFAULTCAPACITY_EMPTY_ELEMENTDATA" c3_ (.ref dz) ∧ Exa Z Z.heap dz c3_ ∧ Arv Z Z.heap dz kd (.object c8_) (0 : Int32) [] .null ∧ Sta Z Z.heap c13_ "EMPTY_LIST" "Ljava/util/ImmutableCollections$ListN;" (.ref el) ∧ Exa Z Z.heap el c15_ ∧ Fld Z Z.heap el c15_ "elements" c3_ (.ref ee) ∧ Arv Z Z.heap ee ke (.object c8_) (0 : Int32) [] .null ∧ Fld Z Z.heap el c15_ c4_ "Z" (.int (0 : Int32)) ∧ Sta Z Z.heap c13_ "EMPTY" c0_ (.ref em) ∧ Exa Z Z.heap em c8_ ∧ Mir Z c3_ mr ∧ Sta Z Z.heap c12_ "$assertionsDisabled" "Z" (.int (1 : Int32))
theorem d0 : decode jdk_22_method_1_code 0 = .ok (.aload_n 0, 1) := by decide +kernel
theorem d1 : decode jdk_22_method_1_code 1 = .ok (.invokespecial 1, 3) := by decide +kernel
theorem d2 : decode jdk_22_method_1_code 4 = .ok (.return_, 1) := by decide +kernel
abbrev mn3 : MethodName := ⟨"java/util/AbstractCollection", "<init>", "()V"⟩
theorem own_pn4 : plainName "java/util/AbstractCollection" = true := by first | (simp [plainName, overriddenIn]; done) | decide +kernel
theorem own_abcinit (l : Launch) (Z : State) (a0 : Array Value) (cx : Ctx Z a0) (ws : List Jvm.Cond) (x : Addr) (vm0 : Vm) (h0 : Heap) (X00 : Ext Z.heap h0)  :
    Met l mn3 jdk_22_method_1_code 1 none ws ({ frames := 1, cells := 0, slots := 0, locals := 12 } : Room) Z consts_1 vm0 h0 #[(.ref x)] (fun rv vm h => rv = none ∧ h0 = h) := by
  obtain ⟨hw, hEL, ⟨zc, Scs, hzc⟩, ⟨fm, Sfm, hfm⟩, hL0⟩ := id cx
  have hSA := own_SA hw
  refine Met.of_walk (a0 := a0) #[vr x] (plainFor_of_name own_pn4) X00 hEL (fun m => by first | (simp [entryFrame, mkF, argsToLocals, Value.category]; done) | rfl) ?_
  intro p e s m below meth c vm hx hby hml hret hnm hC0 hW0
  refine uAN 1 hx hby d0 rfl rfl rfl ?_
  refine ginitO hx (ow hw 52 rfl) (ow hw 16 rfl) (ow hw 17 rfl) 4 (W := 0) (Nat.le_of_eq rfl) (by rw [hml]; rfl) (hb hby d1) rfl (by decide) (by decide) ?_
  exact gretV hx hret (hb hby d2) (by decide) (by decide) (fun vq Cq => ⟨rfl, rfl⟩)
theorem d5 : decode jdk_39_method_1_code 0 = .ok (.aload_n 0, 1) := by decide +kernel
theorem d6 : decode jdk_39_method_1_code 1 = .ok (.invokespecial 1, 3) := by decide +kernel
theorem own_pd7 : parseMethodDescriptor "()V" = some ⟨[], none⟩ := by decide +kernel
theorem d8 : decode jdk_39_method_1_code 4 = .ok (.aload_n 0, 1) := by decide +kernel
theorem d9 : decode jdk_39_method_1_code 5 = .ok (.iconst 0, 1) := by decide +kernel
theorem d10 : decode jdk_39_method_1_code 6 = .ok (.putfield 7, 3) := by decide +kernel
theorem d11 : decode jdk_39_method_1_code 9 = .ok (.return_, 1) := by decide +kernel
abbrev mn12 : MethodName := ⟨"java/util/AbstractList", "<init>", "()V"⟩
theorem own_pn13 : plainName "java/util/AbstractList" = true := by first | (simp [plainName, overriddenIn]; done) | decide +kernel
theorem own_ablinit (l : Launch) (Z : State) (a0 : Array Value) (cx : Ctx Z a0) (ws : List Jvm.Cond) (x : Addr) (mc : Int32) (u : Value) (vm0 : Vm) (h0 : Heap) (X00 : Ext Z.heap h0) (P0 : Exa Z h0 x c11_) (P1 : Fld Z h0 x c10_ "modCount" "I" (.int mc)) (P2 : Z.heap.size ≤ x) (P3 : Fld Z h0 x c11_ c7_ c3_ u) (P4 : Fld Z h0 x c11_ "size" "I" (.int (0 : Int32))) :
    Met l mn12 jdk_39_method_1_code 1 none ws ({ frames := 2, cells := 0, slots := 0, locals := 24 } : Room) Z consts_1 vm0 h0 #[(.ref x)] (fun rv vm h => rv = none ∧ Keep h0 h [x] ∧ Fld Z h x c10_ "modCount" "I" (.int (0 : Int32)) ∧ Fld Z h x c11_ c7_ c3_ u ∧ Fld Z h x c11_ "size" "I" (.int (0 : Int32))) := by
  obtain ⟨hw, hEL, ⟨zc, Scs, hzc⟩, ⟨fm, Sfm, hfm⟩, hL0⟩ := id cx
  have hSA := own_SA hw
  refine Met.of_walk (a0 := a0) #[vr x] (plainFor_of_name own_pn13) X00 hEL (fun m => by first | (simp [entryFrame, mkF, argsToLocals, Value.category]; done) | rfl) ?_
  intro p e s m below meth c vm hx hby hml hret hnm hC0 hW0
  have lt_x : h0.size > x := P0.lt
  refine uAN 1 hx hby d5 rfl rfl rfl ?_
  refine ginfo fun _ _ O1 => ?_
  refine gcallI (y := mn3) hx rfl (ow hw 46 rfl) (ow hw 47 rfl) (ow hw 51 rfl) (by decide) (fun hZ H hEL => Pay.of_met (W := 0) (own_abcinit l Z a0 cx [] (x) vm h0 O1 ) (ow hw 51 rfl) (ow hw 50 rfl) (by decide) (by decide) hZ H hEL) (a := x) 4 (argsL := []) (rest := []) (lenOf own_pd7 rfl) rfl rfl (Nat.le_of_eq rfl) (by rw [hml]; rfl) (hb hby d6) rfl (by decide) (by decide) ?_
  rintro _ vm1 h1 C1 ⟨rfl, rfl⟩
  have z1 := C1.2.1
  refine gat (mkF m 4 #[vr x] []) rfl ?_
  refine uAN 5 hx hby d8 rfl rfl rfl ?_
  refine gs (mkF m 6 #[vr x] [(.int (0 : Int32)), (.ref x)]) (fun _ _ A kq => XS.iconst A hx rfl (hb hby d9) kq) ?_
  refine gputF (host := "") hx (Or.inl (ow hw 53 rfl)) Via.refl P1 P0 (Or.inl (ow hw 54 rfl)) (ow hw 35 rfl) (ty := .int) (by decide) rfl rfl P2 (fun al => Safe.exa al P0 (by decide) (by decide)) 9 (hb hby d10) rfl ?_
  intro h2 W2 C2
  have z2 := C2.2.1
  have F2 := P1.same W2
  have f4 := (P3.other W2 (Or.inr (slot_ne (Or.inl (ow hw 57 rfl)) (Or.inl (ow hw 54 rfl)) (by decide) (t := (.array (.object c8_))) (t' := .int) (by decide) (by decide))))
  have f5 := (P4.other W2 (Or.inr (slot_ne (Or.inl (ow hw 72 rfl)) (Or.inl (ow hw 54 rfl)) (by decide) (t := .int) (t' := .int) (by decide) (by decide))))
  exact gretV hx hret (hb hby d11) (by decide) (by decide) (fun vq Cq => ⟨rfl, ((Keep.refl h0 [x]).wr W2 (Or.inl (List.mem_of_getElem? (i := 0) rfl))), F2, f4, f5⟩)
theorem d14 : decode jdk_38_method_2_code 0 = .ok (.aload_n 0, 1) := by decide +kernel
theorem d15 : decode jdk_38_method_2_code 1 = .ok (.invokespecial 1, 3) := by decide +kernel
theorem d16 : decode jdk_38_method_2_code 4 = .ok (.aload_n 0, 1) := by decide +kernel
theorem d17 : decode jdk_38_method_2_code 5 = .ok (.getstatic 39, 3) := by decide +kernel
theorem d18 : decode jdk_38_method_2_code 8 = .ok (.putfield 9, 3) := by decide +kernel
theorem d19 : decode jdk_38_method_2_code 11 = .ok (.return_, 1) := by decide +kernel
abbrev mn20 : MethodName := ⟨"java/util/ArrayList", "<init>", "()V"⟩
theorem own_pn21 : plainName "java/util/ArrayList" = true := by first | (simp [plainName, overriddenIn]; done) | decide +kernel
theorem own_alinit (l : Launch) (Z : State) (a0 : Array Value) (cx : Ctx Z a0) (ws : List Jvm.Cond) (x : Addr) (u : Value) (dz : Addr) (el : Addr) (ee : Addr) (em : Addr) (mr : Addr) (kd : ClassId) (ke : ClassId) (vm0 : Vm) (h0 : Heap) (X00 : Ext Z.heap h0) (P0 : Exa Z h0 x c11_) (P1 : Fld Z h0 x c10_ "modCount" "I" (.int (0 : Int32))) (P2 : Fld Z h0 x c11_ c7_ c3_ u) (P3 : Fld Z h0 x c11_ "size" "I" (.int (0 : Int32))) (P4 : Z.heap.size ≤ x) (hL : (OwnL Z dz el ee em mr kd ke)) :
    Met l mn20 jdk_38_method_2_code 1 none ws ({ frames := 3, cells := 0, slots := 0, locals := 36 } : Room) Z consts_1 vm0 h0 #[(.ref x)] (fun rv vm h => rv = none ∧ Keep h0 h [x] ∧ Fld Z h x c11_ c7_ c3_ (.ref dz) ∧ Fld Z h x c11_ "size" "I" (.int (0 : Int32)) ∧ Fld Z h x c10_ "modCount" "I" (.int (0 : Int32))) := by
  obtain ⟨hw, hEL, ⟨zc, Scs, hzc⟩, ⟨fm, Sfm, hfm⟩, hL0⟩ := id cx
  have hSA := own_SA hw
  refine Met.of_walk (a0 := a0) #[vr x] (plainFor_of_name own_pn21) X00 hEL (fun m => by first | (simp [entryFrame, mkF, argsToLocals, Value.category]; done) | rfl) ?_
  intro p e s m below meth c vm hx hby hml hret hnm hC0 hW0
  have lt_x : h0.size > x := P0.lt
  obtain ⟨Sdz, Edz, Vdz, Sel, Eel, Fee, Vee, Fan, Sem, Eem, Mmr, Sas⟩ := id hL
  refine uAN 1 hx hby d14 rfl rfl rfl ?_
  refine ginfo fun _ _ O1 => ?_
  refine gcallI (y := mn12) hx rfl (ow hw 40 rfl) (ow hw 41 rfl) (ow hw 45 rfl) (by decide) (fun hZ H hEL => Pay.of_met (W := 0) (own_ablinit l Z a0 cx [] (x) ((0 : Int32)) (u) vm h0 O1 P0 P1 P4 P2 P3) (ow hw 45 rfl) (ow hw 44 rfl) (by decide) (by decide) hZ H hEL) (a := x) 4 (argsL := []) (rest := []) (lenOf own_pd7 rfl) rfl rfl (Nat.le_of_eq rfl) (by rw [hml]; rfl) (hb hby d15) rfl (by decide) (by decide) ?_
  rintro _ vm1 h1 C1 ⟨rfl, K1, q1_0, q1_1, q1_2⟩
  have z1 := C1.2.1
  refine gat (mkF m 4 #[vr x] []) rfl ?_
  refine uAN 5 hx hby d16 rfl rfl rfl ?_
  refine ggetS (host := "") hx (Or.inl (ow hw 55 rfl)) Via.refl Sdz 8 (hb hby d17) rfl ?_
  have f2 := (P0.keep K1)
  refine gputF (host := "") hx (Or.inl (ow hw 56 rfl)) Via.refl q1_1 f2 (Or.inl (ow hw 57 rfl)) (ow hw 35 rfl) (ty := (.array (.object c8_))) (by decide) rfl rfl P4 (fun al => Safe.exa al f2 (by decide) (by decide)) 11 (hb hby d18) rfl ?_
  intro h3 W3 C3
  have z3 := C3.2.1
  have F3 := q1_1.same W3
  have f5 := (q1_2.other W3 (Or.inr (slot_ne (Or.inl (ow hw 72 rfl)) (Or.inl (ow hw 57 rfl)) (by decide) (t := .int) (t' := (.array (.object c8_))) (by decide) (by decide))))
  have f6 := (q1_0.other W3 (Or.inr (slot_ne (Or.inl (ow hw 54 rfl)) (Or.inl (ow hw 57 rfl)) (by decide) (t := .int) (t' := (.array (.object c8_))) (by decide) (by decide))))
  exact gretV hx hret (hb hby d19) (by decide) (by decide) (fun vq Cq => ⟨rfl, (((Keep.refl h0 [x]).trans K1 (allS (Or.inl (List.mem_of_getElem? (i := 0) rfl)) all0)).wr W3 (Or.inl (List.mem_of_getElem? (i := 0) rfl))), F3, f5, f6⟩)
theorem d22 : decode jdk_29_method_65_code 0 = .ok (.iload_n 0, 1) := by decide +kernel
theorem d23 : decode jdk_29_method_65_code 1 = .ok (.iload_n 1, 1) := by decide +kernel
theorem d24 : decode jdk_29_method_65_code 2 = .ok (.if_icmp .lt 7, 3) := by decide +kernel
theorem d25 : decode jdk_29_method_65_code 5 = .ok (.iload_n 0, 1) := by decide +kernel
theorem d26 : decode jdk_29_method_65_code 6 = .ok (.goto 4, 3) := by decide +kernel
theorem d27 : decode jdk_29_method_65_code 10 = .ok (.ireturn, 1) := by decide +kernel
abbrev mn28 : MethodName := ⟨"java/lang/Math", "max", "(II)I"⟩
theorem own_pn29 : plainFor mn28 = true := by first | decide +kernel | (simp [plainFor, plainName, overriddenIn]; done)
theorem own_max10 (l : Launch) (Z : State) (a0 : Array Value) (cx : Ctx Z a0) (ws : List Jvm.Cond)  (vm0 : Vm) (h0 : Heap) (X00 : Ext Z.heap h0)  :
    Met l mn28 jdk_29_method_65_code 2 (some .int) ws ({ frames := 0, cells := 0, slots := 0, locals := 0 } : Room) Z consts_1 vm0 h0 #[(.int (10 : Int32)), (.int (1 : Int32))] (fun rv vm h => rv = some (.int (10 : Int32)) ∧ h0 = h) := by
  obtain ⟨hw, hEL, ⟨zc, Scs, hzc⟩, ⟨fm, Sfm, hfm⟩, hL0⟩ := id cx
  have hSA := own_SA hw
  refine Met.of_walk (a0 := a0) #[vi (10 : Int32), vi (1 : Int32)] own_pn29 X00 hEL (fun m => by first | (simp [entryFrame, mkF, argsToLocals, Value.category]; done) | rfl) ?_
  intro p e s m below meth c vm hx hby hml hret hnm hC0 hW0
  refine uIN 1 hx hby d22 rfl rfl ?_
  refine uIN 2 hx hby d23 rfl rfl ?_
  refine gs (mkF m 5 #[vi (10 : Int32), vi (1 : Int32)] []) (fun _ _ A kq => XS.icmpNo A hx rfl (hb hby d24) rfl (flt (by decide)).1 kq) ?_
  refine uIN 6 hx hby d25 rfl rfl ?_
  refine uG 10 hx hby d26 (by decide) (by decide) ?_
  exact gretI hx hret (hb hby d27) (by decide) (by decide) (fun vq Cq => ⟨rfl, rfl⟩)
theorem d30 : decode jdk_38_method_6_code 0 = .ok (.aload_n 0, 1) := by decide +kernel
theorem d31 : decode jdk_38_method_6_code 1 = .ok (.getfield 9, 3) := by decide +kernel
theorem d32 : decode jdk_38_method_6_code 4 = .ok (.arraylength, 1) := by decide +kernel
theorem d33 : decode jdk_38_method_6_code 5 = .ok (.istore_n 2, 1) := by decide +kernel
theorem d34 : decode jdk_38_method_6_code 6 = .ok (.iload_n 2, 1) := by decide +kernel
theorem d35 : decode jdk_38_method_6_code 7 = .ok (.ifCond .gt 13, 3) := by decide +kernel
theorem d36 : decode jdk_38_method_6_code 10 = .ok (.aload_n 0, 1) := by decide +kernel
theorem d37 : decode jdk_38_method_6_code 11 = .ok (.getfield 9, 3) := by decide +kernel
theorem d38 : decode jdk_38_method_6_code 14 = .ok (.getstatic 39, 3) := by decide +kernel
theorem d39 : decode jdk_38_method_6_code 17 = .ok (.if_acmp .eq 28, 3) := by decide +kernel
theorem d40 : decode jdk_38_method_6_code 45 = .ok (.aload_n 0, 1) := by decide +kernel
theorem d41 : decode jdk_38_method_6_code 46 = .ok (.bipush 10, 2) := by decide +kernel
theorem d42 : decode jdk_38_method_6_code 48 = .ok (.iload_n 1, 1) := by decide +kernel
theorem d43 : decode jdk_38_method_6_code 49 = .ok (.invokestatic 79, 3) := by decide +kernel
theorem own_pd44 : parseMethodDescriptor "(II)I" = some ⟨[.int, .int], some .int⟩ := by decide +kernel
theorem d45 : decode jdk_38_method_6_code 52 = .ok (.anewarray 7, 3) := by decide +kernel
theorem d46 : decode jdk_38_method_6_code 55 = .ok (.dup_x1, 1) := by decide +kernel
theorem d47 : decode jdk_38_method_6_code 56 = .ok (.putfield 9, 3) := by decide +kernel
theorem d48 : decode jdk_38_method_6_code 59 = .ok (.areturn, 1) := by decide +kernel
abbrev mn49 : MethodName := ⟨"java/util/ArrayList", "grow", "(I)[Ljava/lang/Object;"⟩
theorem own_growI (l : Launch) (Z : State) (a0 : Array Value) (cx : Ctx Z a0) (ws : List Jvm.Cond) (x : Addr) (mc : Int32) (dz : Addr) (el : Addr) (ee : Addr) (em : Addr) (mr : Addr) (kd : ClassId) (ke : ClassId) (vm0 : Vm) (h0 : Heap) (X00 : Ext Z.heap h0) (P0 : Fld Z h0 x c10_ "modCount" "I" (.int mc)) (P1 : Exa Z h0 x c11_) (P2 : Fld Z h0 x c11_ c7_ c3_ (.ref dz)) (P3 : Fld Z h0 x c11_ "size" "I" (.int (0 : Int32))) (P4 : Z.heap.size ≤ x) (hL : (OwnL Z dz el ee em mr kd ke)) :
    Met l mn49 jdk_38_method_6_code 4 (some (.array (.object c8_))) ws ({ frames := 1, cells := 1, slots := 10, locals := 14 } : Room) Z consts_1 vm0 h0 #[(.ref x), (.int (1 : Int32))] (fun rv vm h => ∃ (d : Addr), ∃ (kc : ClassId), rv = some (.ref d) ∧ Keep h0 h [x] ∧ Fld Z h x c11_ c7_ c3_ (.ref d) ∧ Fld Z h x c11_ "size" "I" (.int (0 : Int32)) ∧ h0.size ≤ d ∧ Z.heap.size ≤ d ∧ Arv Z h d kc (.object c8_) (10 : Int32) [.null, .null, .null, .null, .null, .null, .null, .null, .null, .null] .null ∧ Exa Z h d c3_ ∧ (Ovr Z kc c8_) ∧ Fld Z h x c10_ "modCount" "I" (.int mc)) := by
  obtain ⟨hw, hEL, ⟨zc, Scs, hzc⟩, ⟨fm, Sfm, hfm⟩, hL0⟩ := id cx
  have hSA := own_SA hw
  refine Met.of_walk (a0 := a0) #[vr x, vi (1 : Int32), un, un] (plainFor_of_name own_pn21) X00 hEL (fun m => by first | (simp [entryFrame, mkF, argsToLocals, Value.category]; done) | rfl) ?_
  intro p e s m below meth c vm hx hby hml hret hnm hC0 hW0
  have lt_x : h0.size > x := P0.lt
  obtain ⟨Sdz, Edz, Vdz, Sel, Eel, Fee, Vee, Fan, Sem, Eem, Mmr, Sas⟩ := id hL
  refine ginfo fun _ _ OL1 => ?_
  have Vdz_1 := Vdz.ext OL1
  have lt_dz : h0.size > dz := Vdz_1.lt
  refine uAN 1 hx hby d30 rfl rfl rfl ?_
  refine ggetF (host := "") hx (Or.inl (ow hw 56 rfl)) Via.refl P2 4 (hb hby d31) rfl ?_
  refine glen hx Vdz_1 5 (hb hby d32) rfl ?_
  refine gs (mkF m 6 #[vr x, vi (1 : Int32), vi (0 : Int32), un] []) (fun _ _ A kq => XS.istoreN A hx rfl (hb hby d33) rfl (l' := #[vr x, vi (1 : Int32), vi (0 : Int32), un]) rfl kq) ?_
  refine uIN 7 hx hby d34 rfl rfl ?_
  refine gs (mkF m 10 #[vr x, vi (1 : Int32), vi (0 : Int32), un] []) (fun _ _ A kq => XS.ifNo A hx rfl (hb hby d35) rfl ((if0 _ _).trans (flt (by decide)).2.2.1) kq) ?_
  refine uAN 11 hx hby d36 rfl rfl rfl ?_
  refine ggetF (host := "") hx (Or.inl (ow hw 56 rfl)) Via.refl P2 14 (hb hby d37) rfl ?_
  refine ggetS (host := "") hx (Or.inl (ow hw 55 rfl)) Via.refl Sdz 17 (hb hby d38) rfl ?_
  refine gx (mkF m 45 #[vr x, vi (1 : Int32), vi (0 : Int32), un] []) (fun T locs X _ _ _ _ kq => Jvm.RoadKit.acmp (g := (mkF m 17 #[vr x, vi (1 : Int32), vi (0 : Int32), un] [(.ref dz), (.ref dz)])) X hx rfl rfl rfl (pc0 := 17) (pc' := 45) (same := true) rfl (hb hby d39) rfl (decide_eq_true rfl) (by decide) (by decide) kq) ?_
  refine uAN 46 hx hby d40 rfl rfl rfl ?_
  refine gs (mkF m 48 #[vr x, vi (1 : Int32), vi (0 : Int32), un] [(.int (10 : Int32)), (.ref x)]) (fun _ _ A kq => XS.bipush A hx rfl (hb hby d41) kq) ?_
  refine uIN 49 hx hby d42 rfl rfl ?_
  refine ginfo fun _ _ O2 => ?_
  refine gcallS (y := mn28) hx (ow hw 229 rfl) (ow hw 230 rfl) (ow hw 231 rfl) (ow hw 232 rfl) (by decide) (fun hZ H hEL => Pay.of_met (W := 1) (own_max10 l Z a0 cx []  vm h0 O2 ) (ow hw 232 rfl) (ow hw 231 rfl) (by decide) (by decide) hZ H hEL) 52 (argsL := [(.int (10 : Int32)), (.int (1 : Int32))]) (rest := [(.ref x)]) (lenOf own_pd44 rfl) rfl rfl (Nat.le_of_eq rfl) (by rw [hml]; rfl) (hb hby d43) rfl (by decide) (by decide) ?_
  rintro _ vm2 h2 C2 ⟨rfl, rfl⟩
  have z2 := C2.2.1
  refine gat (mkF m 52 #[vr x, vi (1 : Int32), vi (0 : Int32), un] [(.int (10 : Int32)), (.ref x)]) rfl ?_
  refine gnewR hx (ow hw 233 rfl) (ow hw 234 rfl) (n := (10 : Int32)) (by decide) (cap := 10) (by decide) (by decide) (ad := c3_) (by decide) 55 (hb hby d45) rfl (by decide) (by decide) ?_
  intro b3 h3 k3 g3 E3 C3 V3 A3 O3 n3 L3
  have z3 := C3.2.1
  have V3 : Arv Z h3 b3 k3 (.object c8_) (10 : Int32) [.null, .null, .null, .null, .null, .null, .null, .null, .null, .null] .null := V3.pad (pad_rep [] .null 10)
  have lt_b3 : h3.size > b3 := V3.lt
  refine gs (mkF m 56 #[vr x, vi (1 : Int32), vi (0 : Int32), un] [(.ref b3), (.ref x), (.ref b3)]) (fun _ _ A kq => XS.dupX1 A hx rfl (hb hby d46) rfl rfl rfl kq) ?_
  have f4 := (P2.ext E3)
  have f5 := (P1.ext E3)
  refine gputF (host := "") hx (Or.inl (ow hw 56 rfl)) Via.refl f4 f5 (Or.inl (ow hw 57 rfl)) (ow hw 35 rfl) (ty := (.array (.object c8_))) (by decide) rfl rfl P4 (fun al => Safe.exa al f5 (by decide) (by decide)) 59 (hb hby d47) rfl ?_
  intro h6 W6 C6
  have z6 := C6.2.1
  have F6 := f4.same W6
  have f8 := ((P3.ext E3).other W6 (Or.inr (slot_ne (Or.inl (ow hw 72 rfl)) (Or.inl (ow hw 57 rfl)) (by decide) (t := .int) (t' := (.array (.object c8_))) (by decide) (by decide))))
  have f9 := (V3.other W6 (Nat.ne_of_gt (by omega)))
  have f10 := (A3.wr W6)
  have f11 := ((P0.ext E3).other W6 (Or.inr (slot_ne (Or.inl (ow hw 54 rfl)) (Or.inl (ow hw 57 rfl)) (by decide) (t := .int) (t' := (.array (.object c8_))) (by decide) (by decide))))
  exact gretA hx hret rfl rfl (hb hby d48) (by decide) (by decide) (fun vq Cq => ⟨b3, k3, rfl, (((Keep.refl h0 [x]).ext E3).wr W6 (Or.inl (List.mem_of_getElem? (i := 0) rfl))), F6, f8, (by omega), n3, f9, f10, (by first | rfl | assumption | decide | omega), f11⟩)
theorem d50 : decode jdk_38_method_7_code 0 = .ok (.aload_n 0, 1) := by decide +kernel
theorem d51 : decode jdk_38_method_7_code 1 = .ok (.aload_n 0, 1) := by decide +kernel
theorem d52 : decode jdk_38_method_7_code 2 = .ok (.getfield 48, 3) := by decide +kernel
theorem d53 : decode jdk_38_method_7_code 5 = .ok (.iconst 1, 1) := by decide +kernel
theorem d54 : decode jdk_38_method_7_code 6 = .ok (.iadd, 1) := by decide +kernel
theorem d55 : decode jdk_38_method_7_code 7 = .ok (.invokevirtual 69, 3) := by decide +kernel
theorem own_pd56 : parseMethodDescriptor "(I)[Ljava/lang/Object;" = some ⟨[.int], some (.array (.object "java/lang/Object"))⟩ := by decide +kernel
theorem d57 : decode jdk_38_method_7_code 10 = .ok (.areturn, 1) := by decide +kernel
abbrev mn58 : MethodName := ⟨"java/util/ArrayList", "grow", "()[Ljava/lang/Object;"⟩
theorem own_grow (l : Launch) (Z : State) (a0 : Array Value) (cx : Ctx Z a0) (ws : List Jvm.Cond) (x : Addr) (mc : Int32) (dz : Addr) (el : Addr) (ee : Addr) (em : Addr) (mr : Addr) (kd : ClassId) (ke : ClassId) (vm0 : Vm) (h0 : Heap) (X00 : Ext Z.heap h0) (P0 : Fld Z h0 x c10_ "modCount" "I" (.int mc)) (P1 : Exa Z h0 x c11_) (P2 : Fld Z h0 x c11_ c7_ c3_ (.ref dz)) (P3 : Fld Z h0 x c11_ "size" "I" (.int (0 : Int32))) (P4 : Z.heap.size ≤ x) (hL : (OwnL Z dz el ee em mr kd ke)) :
    Met l mn58 jdk_38_method_7_code 1 (some (.array (.object c8_))) ws ({ frames := 2, cells := 1, slots := 10, locals := 29 } : Room) Z consts_1 vm0 h0 #[(.ref x)] (fun rv vm h => ∃ (d : Addr), ∃ (kc : ClassId), rv = some (.ref d) ∧ Keep h0 h [x] ∧ Fld Z h x c11_ c7_ c3_ (.ref d) ∧ Fld Z h x c11_ "size" "I" (.int (0 : Int32)) ∧ h0.size ≤ d ∧ Z.heap.size ≤ d ∧ Arv Z h d kc (.object c8_) (10 : Int32) [.null, .null, .null, .null, .null, .null, .null, .null, .null, .null] .null ∧ Exa Z h d c3_ ∧ (Ovr Z kc c8_) ∧ Fld Z h x c10_ "modCount" "I" (.int mc)) := by
  obtain ⟨hw, hEL, ⟨zc, Scs, hzc⟩, ⟨fm, Sfm, hfm⟩, hL0⟩ := id cx
  have hSA := own_SA hw
  refine Met.of_walk (a0 := a0) #[vr x] (plainFor_of_name own_pn21) X00 hEL (fun m => by first | (simp [entryFrame, mkF, argsToLocals, Value.category]; done) | rfl) ?_
  intro p e s m below meth c vm hx hby hml hret hnm hC0 hW0
  have lt_x : h0.size > x := P0.lt
  obtain ⟨Sdz, Edz, Vdz, Sel, Eel, Fee, Vee, Fan, Sem, Eem, Mmr, Sas⟩ := id hL
  refine uAN 1 hx hby d50 rfl rfl rfl ?_
  refine uAN 2 hx hby d51 rfl rfl rfl ?_
  refine ggetF (host := "") hx (Or.inl (ow hw 71 rfl)) Via.refl P3 5 (hb hby d52) rfl ?_
  refine gs (mkF m 6 #[vr x] [(.int (1 : Int32)), (.int (0 : Int32)), (.ref x)]) (fun _ _ A kq => XS.iconst A hx rfl (hb hby d53) kq) ?_
  refine gs (mkF m 7 #[vr x] [(.int (1 : Int32)), (.ref x)]) (fun _ _ A kq => XS.iadd A hx rfl (hb hby d54) rfl kq) ?_
  refine ginfo fun _ _ O1 => ?_
  refine gcallP (y := mn49) hx (ow hw 224 rfl) (ow hw 225 rfl) (ow hw 227 rfl) (ow hw 226 rfl) (ow hw 228 rfl) (by decide) (fun hZ H hEL => Pay.of_met (W := 0) (own_growI l Z a0 cx [] (x) (mc) (dz) (el) (ee) (em) (mr) (kd) (ke) vm h0 O1 P0 P1 P2 P3 P4 (by first | assumption | decide | omega)) (ow hw 228 rfl) (ow hw 36 rfl) (by decide) (by decide) hZ H hEL) 10 (argsL := [(.int (1 : Int32))]) (rest := []) P1 (lenOf own_pd56 rfl) rfl rfl (Nat.le_of_eq rfl) (by rw [hml]; rfl) (hb hby d55) rfl (by decide) (by decide) ?_
  rintro _ vm1 h1 C1 ⟨d1, kc1, rfl, K1, q1_0, q1_1, q1_2, q1_3, q1_4, q1_5, q1_6, q1_7⟩
  have z1 := C1.2.1
  have lt_d1 : h1.size > d1 := q1_4.lt
  refine gat (mkF m 10 #[vr x] [(.ref d1)]) rfl ?_
  exact gretA hx hret rfl rfl (hb hby d57) (by decide) (by decide) (fun vq Cq => ⟨d1, kc1, rfl, ((Keep.refl h0 [x]).trans K1 (allS (Or.inl (List.mem_of_getElem? (i := 0) rfl)) all0)), q1_0, q1_1, (by omega), q1_3, q1_4, q1_5, (by first | rfl | assumption | decide | omega), q1_7⟩)
theorem d59 : decode jdk_38_method_24_code 0 = .ok (.iload_n 3, 1) := by decide +kernel
theorem d60 : decode jdk_38_method_24_code 1 = .ok (.aload_n 2, 1) := by decide +kernel
theorem d61 : decode jdk_38_method_24_code 2 = .ok (.arraylength, 1) := by decide +kernel
theorem d62 : decode jdk_38_method_24_code 3 = .ok (.if_icmp .ne 8, 3) := by decide +kernel
theorem d63 : decode jdk_38_method_24_code 6 = .ok (.aload_n 0, 1) := by decide +kernel
theorem d64 : decode jdk_38_method_24_code 7 = .ok (.invokevirtual 129, 3) := by decide +kernel
theorem own_pd65 : parseMethodDescriptor "()[Ljava/lang/Object;" = some ⟨[], some (.array (.object "java/lang/Object"))⟩ := by decide +kernel
theorem d66 : decode jdk_38_method_24_code 10 = .ok (.astore_n 2, 1) := by decide +kernel
theorem d67 : decode jdk_38_method_24_code 11 = .ok (.aload_n 2, 1) := by decide +kernel
theorem d68 : decode jdk_38_method_24_code 12 = .ok (.iload_n 3, 1) := by decide +kernel
theorem d69 : decode jdk_38_method_24_code 13 = .ok (.aload_n 1, 1) := by decide +kernel
theorem d70 : decode jdk_38_method_24_code 14 = .ok (.aastore, 1) := by decide +kernel
theorem d71 : decode jdk_38_method_24_code 15 = .ok (.aload_n 0, 1) := by decide +kernel
theorem d72 : decode jdk_38_method_24_code 16 = .ok (.iload_n 3, 1) := by decide +kernel
theorem d73 : decode jdk_38_method_24_code 17 = .ok (.iconst 1, 1) := by decide +kernel
theorem d74 : decode jdk_38_method_24_code 18 = .ok (.iadd, 1) := by decide +kernel
theorem d75 : decode jdk_38_method_24_code 19 = .ok (.putfield 48, 3) := by decide +kernel
theorem d76 : decode jdk_38_method_24_code 22 = .ok (.return_, 1) := by decide +kernel
abbrev mn77 : MethodName := ⟨"java/util/ArrayList", "add", "(Ljava/lang/Object;[Ljava/lang/Object;I)V"⟩
theorem own_addh0 (l : Launch) (Z : State) (a0 : Array Value) (cx : Ctx Z a0) (ws : List Jvm.Cond) (x : Addr) (y : Addr) (mc : Int32) (dz : Addr) (el : Addr) (ee : Addr) (em : Addr) (mr : Addr) (kd : ClassId) (ke : ClassId) (vm0 : Vm) (h0 : Heap) (X00 : Ext Z.heap h0) (P0 : Exa Z h0 x c11_) (P1 : Fld Z h0 x c11_ c7_ c3_ (.ref dz)) (P2 : Fld Z h0 x c11_ "size" "I" (.int (0 : Int32))) (P3 : Z.heap.size ≤ x) (P4 : Exa Z h0 y c9_) (P5 : Fld Z h0 x c10_ "modCount" "I" (.int mc)) (hL : (OwnL Z dz el ee em mr kd ke)) :
    Met l mn77 jdk_38_method_24_code 4 none ws ({ frames := 3, cells := 1, slots := 10, locals := 41 } : Room) Z consts_1 vm0 h0 #[(.ref x), (.ref y), (.ref dz), (.int (0 : Int32))] (fun rv vm h => ∃ (d : Addr), ∃ (kc : ClassId), rv = none ∧ Keep h0 h [x] ∧ Fld Z h x c11_ c7_ c3_ (.ref d) ∧ Fld Z h x c11_ "size" "I" (.int (1 : Int32)) ∧ Arv Z h d kc (.object c8_) (10 : Int32) [(.ref y), .null, .null, .null, .null, .null, .null, .null, .null, .null] .null ∧ h0.size ≤ d ∧ Z.heap.size ≤ d ∧ Exa Z h d c3_ ∧ (Ovr Z kc c8_) ∧ Fld Z h x c10_ "modCount" "I" (.int mc)) := by
  obtain ⟨hw, hEL, ⟨zc, Scs, hzc⟩, ⟨fm, Sfm, hfm⟩, hL0⟩ := id cx
  have hSA := own_SA hw
  refine Met.of_walk (a0 := a0) #[vr x, vr y, vr dz, vi (0 : Int32)] (plainFor_of_name own_pn21) X00 hEL (fun m => by first | (simp [entryFrame, mkF, argsToLocals, Value.category]; done) | rfl) ?_
  intro p e s m below meth c vm hx hby hml hret hnm hC0 hW0
  have lt_x : h0.size > x := P0.lt
  have lt_y : h0.size > y := P4.lt
  obtain ⟨Sdz, Edz, Vdz, Sel, Eel, Fee, Vee, Fan, Sem, Eem, Mmr, Sas⟩ := id hL
  refine ginfo fun _ _ OL1 => ?_
  have Vdz_1 := Vdz.ext OL1
  have lt_dz : h0.size > dz := Vdz_1.lt
  refine uIN 1 hx hby d59 rfl rfl ?_
  refine uAN 2 hx hby d60 rfl rfl rfl ?_
  refine glen hx Vdz_1 3 (hb hby d61) rfl ?_
  refine gs (mkF m 6 #[vr x, vr y, vr dz, vi (0 : Int32)] []) (fun _ _ A kq => XS.icmpNo A hx rfl (hb hby d62) rfl (teq (by decide)).2 kq) ?_
  refine uAN 7 hx hby d63 rfl rfl rfl ?_
  refine ginfo fun _ _ O2 => ?_
  refine gcallP (y := mn58) hx (ow hw 219 rfl) (ow hw 220 rfl) (ow hw 222 rfl) (ow hw 221 rfl) (ow hw 223 rfl) (by decide) (fun hZ H hEL => Pay.of_met (W := 0) (own_grow l Z a0 cx [] (x) (mc) (dz) (el) (ee) (em) (mr) (kd) (ke) vm h0 O2 P5 P0 P1 P2 P3 (by first | assumption | decide | omega)) (ow hw 223 rfl) (ow hw 36 rfl) (by decide) (by decide) hZ H hEL) 10 (argsL := []) (rest := []) P0 (lenOf own_pd65 rfl) rfl rfl (Nat.le_of_eq rfl) (by rw [hml]; rfl) (hb hby d64) rfl (by decide) (by decide) ?_
  rintro _ vm2 h2 C2 ⟨d2, kc2, rfl, K2, q2_0, q2_1, q2_2, q2_3, q2_4, q2_5, q2_6, q2_7⟩
  have z2 := C2.2.1
  have lt_d2 : h2.size > d2 := q2_4.lt
  refine gat (mkF m 10 #[vr x, vr y, vr dz, vi (0 : Int32)] [(.ref d2)]) rfl ?_
  refine gs (mkF m 11 #[vr x, vr y, vr d2, vi (0 : Int32)] []) (fun _ _ A kq => XS.astoreN A hx rfl (hb hby d66) rfl rfl (l' := #[vr x, vr y, vr d2, vi (0 : Int32)]) rfl kq) ?_
  refine uAN 12 hx hby d67 rfl rfl rfl ?_
  refine uIN 13 hx hby d68 rfl rfl ?_
  refine uAN 14 hx hby d69 rfl rfl rfl ?_
  have f4 := (P4.keep K2)
  refine gstR hx q2_4 ⟨by decide, by decide⟩ (i := 0) rfl (Nat.le_of_ble_eq_true rfl) (Arv.sto q2_4 (by assumption) (Ins.of_exa f4 (ow hw 235 rfl))) rfl q2_3 15 (hb hby d70) rfl ?_
  intro h3 W3 C3 V3
  have z3 := C3.2.1
  replace V3 : Arv Z h3 d2 kc2 (.object c8_) (10 : Int32) [(.ref y), .null, .null, .null, .null, .null, .null, .null, .null, .null] .null := V3
  refine uAN 16 hx hby d71 rfl rfl rfl ?_
  refine uIN 17 hx hby d72 rfl rfl ?_
  refine gs (mkF m 18 #[vr x, vr y, vr d2, vi (0 : Int32)] [(.int (1 : Int32)), (.int (0 : Int32)), (.ref x)]) (fun _ _ A kq => XS.iconst A hx rfl (hb hby d73) kq) ?_
  refine gs (mkF m 19 #[vr x, vr y, vr d2, vi (0 : Int32)] [(.int (1 : Int32)), (.ref x)]) (fun _ _ A kq => XS.iadd A hx rfl (hb hby d74) rfl kq) ?_
  have f5 := (q2_1.other W3 (Or.inl (Nat.ne_of_lt (by omega))))
  have f6 := ((P0.keep K2).wr W3)
  refine gputF (host := "") hx (Or.inl (ow hw 71 rfl)) Via.refl f5 f6 (Or.inl (ow hw 72 rfl)) (ow hw 35 rfl) (ty := .int) (by decide) rfl rfl P3 (fun al => Safe.exa al f6 (by decide) (by decide)) 22 (hb hby d75) rfl ?_
  intro h7 W7 C7
  have z7 := C7.2.1
  have F7 := f5.same W7
  have f9 := ((q2_0.other W3 (Or.inl (Nat.ne_of_lt (by omega)))).other W7 (Or.inr (slot_ne (Or.inl (ow hw 57 rfl)) (Or.inl (ow hw 72 rfl)) (by decide) (t := (.array (.object c8_))) (t' := .int) (by decide) (by decide))))
  have f10 := (V3.other W7 (Nat.ne_of_gt (by omega)))
  have f11 := ((q2_5.wr W3).wr W7)
  have f12 := ((q2_7.other W3 (Or.inl (Nat.ne_of_lt (by omega)))).other W7 (Or.inr (slot_ne (Or.inl (ow hw 54 rfl)) (Or.inl (ow hw 72 rfl)) (by decide) (t := .int) (t' := .int) (by decide) (by decide))))
  exact gretV hx hret (hb hby d76) (by decide) (by decide) (fun vq Cq => ⟨d2, kc2, rfl, ((((Keep.refl h0 [x]).trans K2 (allS (Or.inl (List.mem_of_getElem? (i := 0) rfl)) all0)).wr W3 (Or.inr (by omega))).wr W7 (Or.inl (List.mem_of_getElem? (i := 0) rfl))), f9, F7, f10, (by omega), q2_3, f11, (by first | rfl | assumption | decide | omega), f12⟩)
theorem d78 : decode jdk_38_method_25_code 0 = .ok (.aload_n 0, 1) := by decide +kernel
theorem d79 : decode jdk_38_method_25_code 1 = .ok (.dup, 1) := by decide +kernel
theorem d80 : decode jdk_38_method_25_code 2 = .ok (.getfield 63, 3) := by decide +kernel
theorem d81 : decode jdk_38_method_25_code 5 = .ok (.iconst 1, 1) := by decide +kernel
theorem d82 : decode jdk_38_method_25_code 6 = .ok (.iadd, 1) := by decide +kernel
theorem d83 : decode jdk_38_method_25_code 7 = .ok (.putfield 63, 3) := by decide +kernel
theorem d84 : decode jdk_38_method_25_code 10 = .ok (.aload_n 0, 1) := by decide +kernel
theorem d85 : decode jdk_38_method_25_code 11 = .ok (.aload_n 1, 1) := by decide +kernel
theorem d86 : decode jdk_38_method_25_code 12 = .ok (.aload_n 0, 1) := by decide +kernel
theorem d87 : decode jdk_38_method_25_code 13 = .ok (.getfield 9, 3) := by decide +kernel
theorem d88 : decode jdk_38_method_25_code 16 = .ok (.aload_n 0, 1) := by decide +kernel
theorem d89 : decode jdk_38_method_25_code 17 = .ok (.getfield 48, 3) := by decide +kernel
theorem d90 : decode jdk_38_method_25_code 20 = .ok (.invokevirtual 131, 3) := by decide +kernel
theorem own_pd91 : parseMethodDescriptor "(Ljava/lang/Object;[Ljava/lang/Object;I)V" = some ⟨[(.object "java/lang/Object"), (.array (.object "java/lang/Object")), .int], none⟩ := by decide +kernel
theorem d92 : decode jdk_38_method_25_code 23 = .ok (.iconst 1, 1) := by decide +kernel
theorem d93 : decode jdk_38_method_25_code 24 = .ok (.ireturn, 1) := by decide +kernel
abbrev mn94 : MethodName := ⟨"java/util/ArrayList", "add", "(Ljava/lang/Object;)Z"⟩
theorem own_add0 (l : Launch) (Z : State) (a0 : Array Value) (cx : Ctx Z a0) (ws : List Jvm.Cond) (x : Addr) (y : Addr) (mc : Int32) (dz : Addr) (el : Addr) (ee : Addr) (em : Addr) (mr : Addr) (kd : ClassId) (ke : ClassId) (vm0 : Vm) (h0 : Heap) (X00 : Ext Z.heap h0) (P0 : Exa Z h0 x c11_) (P1 : Fld Z h0 x c11_ c7_ c3_ (.ref dz)) (P2 : Fld Z h0 x c11_ "size" "I" (.int (0 : Int32))) (P3 : Z.heap.size ≤ x) (P4 : Exa Z h0 y c9_) (P5 : Fld Z h0 x c10_ "modCount" "I" (.int mc)) (hL : (OwnL Z dz el ee em mr kd ke)) :
    Met l mn94 jdk_38_method_25_code 2 (some .boolean) ws ({ frames := 4, cells := 1, slots := 10, locals := 56 } : Room) Z consts_1 vm0 h0 #[(.ref x), (.ref y)] (fun rv vm h => ∃ (d : Addr), ∃ (kc : ClassId), rv = some (.int (1 : Int32)) ∧ Keep h0 h [x] ∧ Fld Z h x c11_ c7_ c3_ (.ref d) ∧ Fld Z h x c11_ "size" "I" (.int (1 : Int32)) ∧ Arv Z h d kc (.object c8_) (10 : Int32) [(.ref y), .null, .null, .null, .null, .null, .null, .null, .null, .null] .null ∧ h0.size ≤ d ∧ Z.heap.size ≤ d ∧ Exa Z h d c3_ ∧ (Ovr Z kc c8_) ∧ Fld Z h x c10_ "modCount" "I" (.int (mc + (1 : Int32)))) := by
  obtain ⟨hw, hEL, ⟨zc, Scs, hzc⟩, ⟨fm, Sfm, hfm⟩, hL0⟩ := id cx
  have hSA := own_SA hw
  refine Met.of_walk (a0 := a0) #[vr x, vr y] (plainFor_of_name own_pn21) X00 hEL (fun m => by first | (simp [entryFrame, mkF, argsToLocals, Value.category]; done) | rfl) ?_
  intro p e s m below meth c vm hx hby hml hret hnm hC0 hW0
  have lt_x : h0.size > x := P0.lt
  have lt_y : h0.size > y := P4.lt
  obtain ⟨Sdz, Edz, Vdz, Sel, Eel, Fee, Vee, Fan, Sem, Eem, Mmr, Sas⟩ := id hL
  refine uAN 1 hx hby d78 rfl rfl rfl ?_
  refine uD 2 hx hby d79 rfl rfl ?_
  refine ggetF (host := "") hx (Or.inl (ow hw 212 rfl)) (Via.of (ow hw 213 rfl)) P5 5 (hb hby d80) rfl ?_
  refine gs (mkF m 6 #[vr x, vr y] [(.int (1 : Int32)), (.int mc), (.ref x)]) (fun _ _ A kq => XS.iconst A hx rfl (hb hby d81) kq) ?_
  refine gs (mkF m 7 #[vr x, vr y] [(.int (mc + (1 : Int32))), (.ref x)]) (fun _ _ A kq => XS.iadd A hx rfl (hb hby d82) rfl kq) ?_
  refine gputF (host := "") hx (Or.inl (ow hw 212 rfl)) (Via.of (ow hw 213 rfl)) P5 P0 (Or.inl (ow hw 54 rfl)) (ow hw 35 rfl) (ty := .int) (by decide) rfl rfl P3 (fun al => Safe.exa al P0 (by decide) (by decide)) 10 (hb hby d83) rfl ?_
  intro h1 W1 C1
  have z1 := C1.2.1
  have F1 := P5.same W1
  refine uAN 11 hx hby d84 rfl rfl rfl ?_
  refine uAN 12 hx hby d85 rfl rfl rfl ?_
  refine uAN 13 hx hby d86 rfl rfl rfl ?_
  have f2 := (P1.other W1 (Or.inr (slot_ne (Or.inl (ow hw 57 rfl)) (Or.inl (ow hw 54 rfl)) (by decide) (t := (.array (.object c8_))) (t' := .int) (by decide) (by decide))))
  refine ggetF (host := "") hx (Or.inl (ow hw 56 rfl)) Via.refl f2 16 (hb hby d87) rfl ?_
  refine uAN 17 hx hby d88 rfl rfl rfl ?_
  have f3 := (P2.other W1 (Or.inr (slot_ne (Or.inl (ow hw 72 rfl)) (Or.inl (ow hw 54 rfl)) (by decide) (t := .int) (t' := .int) (by decide) (by decide))))
  refine ggetF (host := "") hx (Or.inl (ow hw 71 rfl)) Via.refl f3 20 (hb hby d89) rfl ?_
  have f5 := (P0.wr W1)
  have f6 := (P4.wr W1)
  refine ginfo fun _ _ O4 => ?_
  refine gcallP (y := mn77) hx (ow hw 214 rfl) (ow hw 215 rfl) (ow hw 217 rfl) (ow hw 216 rfl) (ow hw 218 rfl) (by decide) (fun hZ H hEL => Pay.of_met (W := 0) (own_addh0 l Z a0 cx [] (x) (y) ((mc + (1 : Int32))) (dz) (el) (ee) (em) (mr) (kd) (ke) vm h1 O4 f5 f2 f3 P3 f6 F1 (by first | assumption | decide | omega)) (ow hw 218 rfl) (ow hw 36 rfl) (by decide) (by decide) hZ H hEL) 23 (argsL := [(.ref y), (.ref dz), (.int (0 : Int32))]) (rest := []) f5 (lenOf own_pd91 rfl) rfl rfl (Nat.le_of_eq rfl) (by rw [hml]; rfl) (hb hby d90) rfl (by decide) (by decide) ?_
  rintro _ vm4 h4 C4 ⟨d4, kc4, rfl, K4, q4_0, q4_1, q4_2, q4_3, q4_4, q4_5, q4_6, q4_7⟩
  have z4 := C4.2.1
  have lt_d4 : h4.size > d4 := q4_2.lt
  refine gat (mkF m 23 #[vr x, vr y] []) rfl ?_
  refine gs (mkF m 24 #[vr x, vr y] [(.int (1 : Int32))]) (fun _ _ A kq => XS.iconst A hx rfl (hb hby d92) kq) ?_
  exact gretN (t := .boolean) hx hret (by simp) (hb hby d93) (by decide) (by decide) (fun vq Cq => ⟨d4, kc4, rfl, (((Keep.refl h0 [x]).wr W1 (Or.inl (List.mem_of_getElem? (i := 0) rfl))).trans K4 (allS (Or.inl (List.mem_of_getElem? (i := 0) rfl)) all0)), q4_0, q4_1, q4_2, (by omega), q4_4, q4_5, (by first | rfl | assumption | decide | omega), q4_7⟩)
theorem own_addh1 (l : Launch) (Z : State) (a0 : Array Value) (cx : Ctx Z a0) (ws : List Jvm.Cond) (x : Addr) (y : Addr) (d : Addr) (kc : ClassId) (s0_ : Addr) (mc : Int32) (dz : Addr) (el : Addr) (ee : Addr) (em : Addr) (mr : Addr) (kd : ClassId) (ke : ClassId) (vm0 : Vm) (h0 : Heap) (X00 : Ext Z.heap h0) (P0 : Exa Z h0 x c11_) (P1 : Fld Z h0 x c11_ c7_ c3_ (.ref d)) (P2 : Fld Z h0 x c11_ "size" "I" (.int (1 : Int32))) (P3 : Arv Z h0 d kc (.object c8_) (10 : Int32) [(.ref s0_), .null, .null, .null, .null, .null, .null, .null, .null, .null] .null) (P4 : Exa Z h0 d c3_) (hov : (Ovr Z kc c8_)) (P6 : Z.heap.size ≤ x) (P7 : Exa Z h0 y c9_) (P8 : Z.heap.size ≤ d) (P9 : Fld Z h0 x c10_ "modCount" "I" (.int mc)) (hL : (OwnL Z dz el ee em mr kd ke)) :
    Met l mn77 jdk_38_method_24_code 4 none ws ({ frames := 0, cells := 0, slots := 0, locals := 0 } : Room) Z consts_1 vm0 h0 #[(.ref x), (.ref y), (.ref d), (.int (1 : Int32))] (fun rv vm h => rv = none ∧ Keep h0 h [x, d] ∧ Fld Z h x c11_ c7_ c3_ (.ref d) ∧ Fld Z h x c11_ "size" "I" (.int (2 : Int32)) ∧ Arv Z h d kc (.object c8_) (10 : Int32) [(.ref s0_), (.ref y), .null, .null, .null, .null, .null, .null, .null, .null] .null ∧ Fld Z h x c10_ "modCount" "I" (.int mc)) := by
  obtain ⟨hw, hEL, ⟨zc, Scs, hzc⟩, ⟨fm, Sfm, hfm⟩, hL0⟩ := id cx
  have hSA := own_SA hw
  refine Met.of_walk (a0 := a0) #[vr x, vr y, vr d, vi (1 : Int32)] (plainFor_of_name own_pn21) X00 hEL (fun m => by first | (simp [entryFrame, mkF, argsToLocals, Value.category]; done) | rfl) ?_
  intro p e s m below meth c vm hx hby hml hret hnm hC0 hW0
  have lt_x : h0.size > x := P0.lt
  have lt_d : h0.size > d := P3.lt
  have lt_y : h0.size > y := P7.lt
  obtain ⟨Sdz, Edz, Vdz, Sel, Eel, Fee, Vee, Fan, Sem, Eem, Mmr, Sas⟩ := id hL
  refine uIN 1 hx hby d59 rfl rfl ?_
  refine uAN 2 hx hby d60 rfl rfl rfl ?_
  refine glen hx P3 3 (hb hby d61) rfl ?_
  refine gs (mkF m 11 #[vr x, vr y, vr d, vi (1 : Int32)] []) (fun _ _ A kq => XS.icmpYes A hx rfl (pc0 := 3) (pc' := 11) rfl (hb hby d62) rfl (feq (by decide)).2 (by decide) (by decide) kq) ?_
  refine uAN 12 hx hby d67 rfl rfl rfl ?_
  refine uIN 13 hx hby d68 rfl rfl ?_
  refine uAN 14 hx hby d69 rfl rfl rfl ?_
  refine gstR hx P3 ⟨by decide, by decide⟩ (i := 1) rfl (Nat.le_of_ble_eq_true rfl) (Arv.sto P3 hov (Ins.of_exa P7 (ow hw 235 rfl))) rfl P8 15 (hb hby d70) rfl ?_
  intro h1 W1 C1 V1
  have z1 := C1.2.1
  replace V1 : Arv Z h1 d kc (.object c8_) (10 : Int32) [(.ref s0_), (.ref y), .null, .null, .null, .null, .null, .null, .null, .null] .null := V1
  refine uAN 16 hx hby d71 rfl rfl rfl ?_
  refine uIN 17 hx hby d72 rfl rfl ?_
  refine gs (mkF m 18 #[vr x, vr y, vr d, vi (1 : Int32)] [(.int (1 : Int32)), (.int (1 : Int32)), (.ref x)]) (fun _ _ A kq => XS.iconst A hx rfl (hb hby d73) kq) ?_
  refine gs (mkF m 19 #[vr x, vr y, vr d, vi (1 : Int32)] [(.int (2 : Int32)), (.ref x)]) (fun _ _ A kq => XS.iadd A hx rfl (hb hby d74) rfl kq) ?_
  have f2 := (P0.wr W1)
  have f3 := (P4.wr W1)
  have f4 := (P2.other W1 (Or.inl (ne_exa f2 f3 (by decide))))
  refine gputF (host := "") hx (Or.inl (ow hw 71 rfl)) Via.refl f4 f2 (Or.inl (ow hw 72 rfl)) (ow hw 35 rfl) (ty := .int) (by decide) rfl rfl P6 (fun al => Safe.exa al f2 (by decide) (by decide)) 22 (hb hby d75) rfl ?_
  intro h5 W5 C5
  have z5 := C5.2.1
  have F5 := f4.same W5
  have f7 := (f2.wr W5)
  have f8 := (f3.wr W5)
  have f9 := ((P1.other W1 (Or.inl (ne_exa f7 f8 (by decide)))).other W5 (Or.inr (slot_ne (Or.inl (ow hw 57 rfl)) (Or.inl (ow hw 72 rfl)) (by decide) (t := (.array (.object c8_))) (t' := .int) (by decide) (by decide))))
  have f10 := (V1.other W5 (ne_exa f8 f7 (by decide)))
  have f11 := ((P9.other W1 (Or.inl (ne_exa f7 f8 (by decide)))).other W5 (Or.inr (slot_ne (Or.inl (ow hw 54 rfl)) (Or.inl (ow hw 72 rfl)) (by decide) (t := .int) (t' := .int) (by decide) (by decide))))
  exact gretV hx hret (hb hby d76) (by decide) (by decide) (fun vq Cq => ⟨rfl, (((Keep.refl h0 [x, d]).wr W1 (Or.inl (List.mem_of_getElem? (i := 1) rfl))).wr W5 (Or.inl (List.mem_of_getElem? (i := 0) rfl))), f9, F5, f10, f11⟩)
theorem own_add1 (l : Launch) (Z : State) (a0 : Array Value) (cx : Ctx Z a0) (ws : List Jvm.Cond) (x : Addr) (y : Addr) (d : Addr) (kc : ClassId) (s0_ : Addr) (mc : Int32) (dz : Addr) (el : Addr) (ee : Addr) (em : Addr) (mr : Addr) (kd : ClassId) (ke : ClassId) (vm0 : Vm) (h0 : Heap) (X00 : Ext Z.heap h0) (P0 : Exa Z h0 x c11_) (P1 : Fld Z h0 x c11_ c7_ c3_ (.ref d)) (P2 : Fld Z h0 x c11_ "size" "I" (.int (1 : Int32))) (P3 : Arv Z h0 d kc (.object c8_) (10 : Int32) [(.ref s0_), .null, .null, .null, .null, .null, .null, .null, .null, .null] .null) (P4 : Exa Z h0 d c3_) (hov : (Ovr Z kc c8_)) (P6 : Z.heap.size ≤ x) (P7 : Exa Z h0 y c9_) (P8 : Z.heap.size ≤ d) (P9 : Fld Z h0 x c10_ "modCount" "I" (.int mc)) (hL : (OwnL Z dz el ee em mr kd ke)) :
    Met l mn94 jdk_38_method_25_code 2 (some .boolean) ws ({ frames := 1, cells := 0, slots := 0, locals := 15 } : Room) Z consts_1 vm0 h0 #[(.ref x), (.ref y)] (fun rv vm h => rv = some (.int (1 : Int32)) ∧ Keep h0 h [x, d] ∧ Fld Z h x c11_ c7_ c3_ (.ref d) ∧ Fld Z h x c11_ "size" "I" (.int (2 : Int32)) ∧ Arv Z h d kc (.object c8_) (10 : Int32) [(.ref s0_), (.ref y), .null, .null, .null, .null, .null, .null, .null, .null] .null ∧ Fld Z h x c10_ "modCount" "I" (.int (mc + (1 : Int32)))) := by
  obtain ⟨hw, hEL, ⟨zc, Scs, hzc⟩, ⟨fm, Sfm, hfm⟩, hL0⟩ := id cx
  have hSA := own_SA hw
  refine Met.of_walk (a0 := a0) #[vr x, vr y] (plainFor_of_name own_pn21) X00 hEL (fun m => by first | (simp [entryFrame, mkF, argsToLocals, Value.category]; done) | rfl) ?_
  intro p e s m below meth c vm hx hby hml hret hnm hC0 hW0
  have lt_x : h0.size > x := P0.lt
  have lt_d : h0.size > d := P3.lt
  have lt_y : h0.size > y := P7.lt
  obtain ⟨Sdz, Edz, Vdz, Sel, Eel, Fee, Vee, Fan, Sem, Eem, Mmr, Sas⟩ := id hL
  refine uAN 1 hx hby d78 rfl rfl rfl ?_
  refine uD 2 hx hby d79 rfl rfl ?_
  refine ggetF (host := "") hx (Or.inl (ow hw 212 rfl)) (Via.of (ow hw 213 rfl)) P9 5 (hb hby d80) rfl ?_
  refine gs (mkF m 6 #[vr x, vr y] [(.int (1 : Int32)), (.int mc), (.ref x)]) (fun _ _ A kq => XS.iconst A hx rfl (hb hby d81) kq) ?_
  refine gs (mkF m 7 #[vr x, vr y] [(.int (mc + (1 : Int32))), (.ref x)]) (fun _ _ A kq => XS.iadd A hx rfl (hb hby d82) rfl kq) ?_
  refine gputF (host := "") hx (Or.inl (ow hw 212 rfl)) (Via.of (ow hw 213 rfl)) P9 P0 (Or.inl (ow hw 54 rfl)) (ow hw 35 rfl) (ty := .int) (by decide) rfl rfl P6 (fun al => Safe.exa al P0 (by decide) (by decide)) 10 (hb hby d83) rfl ?_
  intro h1 W1 C1
  have z1 := C1.2.1
  have F1 := P9.same W1
  refine uAN 11 hx hby d84 rfl rfl rfl ?_
  refine uAN 12 hx hby d85 rfl rfl rfl ?_
  refine uAN 13 hx hby d86 rfl rfl rfl ?_
  have f2 := (P1.other W1 (Or.inr (slot_ne (Or.inl (ow hw 57 rfl)) (Or.inl (ow hw 54 rfl)) (by decide) (t := (.array (.object c8_))) (t' := .int) (by decide) (by decide))))
  refine ggetF (host := "") hx (Or.inl (ow hw 56 rfl)) Via.refl f2 16 (hb hby d87) rfl ?_
  refine uAN 17 hx hby d88 rfl rfl rfl ?_
  have f3 := (P2.other W1 (Or.inr (slot_ne (Or.inl (ow hw 72 rfl)) (Or.inl (ow hw 54 rfl)) (by decide) (t := .int) (t' := .int) (by decide) (by decide))))
  refine ggetF (host := "") hx (Or.inl (ow hw 71 rfl)) Via.refl f3 20 (hb hby d89) rfl ?_
  have f5 := (P0.wr W1)
  have f6 := (P4.wr W1)
  have f7 := (P3.other W1 (ne_exa f6 f5 (by decide)))
  have f8 := (P7.wr W1)
  refine ginfo fun _ _ O4 => ?_
  refine gcallP (y := mn77) hx (ow hw 214 rfl) (ow hw 215 rfl) (ow hw 217 rfl) (ow hw 216 rfl) (ow hw 218 rfl) (by decide) (fun hZ H hEL => Pay.of_met (W := 0) (own_addh1 l Z a0 cx [] (x) (y) (d) (kc) (s0_) ((mc + (1 : Int32))) (dz) (el) (ee) (em) (mr) (kd) (ke) vm h1 O4 f5 f2 f3 f7 f6 (by first | assumption | decide | omega) P6 f8 P8 F1 (by first | assumption | decide | omega)) (ow hw 218 rfl) (ow hw 36 rfl) (by decide) (by decide) hZ H hEL) 23 (argsL := [(.ref y), (.ref d), (.int (1 : Int32))]) (rest := []) f5 (lenOf own_pd91 rfl) rfl rfl (Nat.le_of_eq rfl) (by rw [hml]; rfl) (hb hby d90) rfl (by decide) (by decide) ?_
  rintro _ vm4 h4 C4 ⟨rfl, K4, q4_0, q4_1, q4_2, q4_3⟩
  have z4 := C4.2.1
  refine gat (mkF m 23 #[vr x, vr y] []) rfl ?_
  refine gs (mkF m 24 #[vr x, vr y] [(.int (1 : Int32))]) (fun _ _ A kq => XS.iconst A hx rfl (hb hby d92) kq) ?_
  exact gretN (t := .boolean) hx hret (by simp) (hb hby d93) (by decide) (by decide) (fun vq Cq => ⟨rfl, (((Keep.refl h0 [x, d]).wr W1 (Or.inl (List.mem_of_getElem? (i := 0) rfl))).trans K4 (allS (Or.inl (List.mem_of_getElem? (i := 0) rfl)) (allS (Or.inl (List.mem_of_getElem? (i := 1) rfl)) all0))), q4_0, q4_1, q4_2, q4_3⟩)
theorem own_addh2 (l : Launch) (Z : State) (a0 : Array Value) (cx : Ctx Z a0) (ws : List Jvm.Cond) (x : Addr) (y : Addr) (d : Addr) (kc : ClassId) (s0_ : Addr) (s1_ : Addr) (mc : Int32) (dz : Addr) (el : Addr) (ee : Addr) (em : Addr) (mr : Addr) (kd : ClassId) (ke : ClassId) (vm0 : Vm) (h0 : Heap) (X00 : Ext Z.heap h0) (P0 : Exa Z h0 x c11_) (P1 : Fld Z h0 x c11_ c7_ c3_ (.ref d)) (P2 : Fld Z h0 x c11_ "size" "I" (.int (2 : Int32))) (P3 : Arv Z h0 d kc (.object c8_) (10 : Int32) [(.ref s0_), (.ref s1_), .null, .null, .null, .null, .null, .null, .null, .null] .null) (P4 : Exa Z h0 d c3_) (hov : (Ovr Z kc c8_)) (P6 : Z.heap.size ≤ x) (P7 : Exa Z h0 y c9_) (P8 : Z.heap.size ≤ d) (P9 : Fld Z h0 x c10_ "modCount" "I" (.int mc)) (hL : (OwnL Z dz el ee em mr kd ke)) :
    Met l mn77 jdk_38_method_24_code 4 none ws ({ frames := 0, cells := 0, slots := 0, locals := 0 } : Room) Z consts_1 vm0 h0 #[(.ref x), (.ref y), (.ref d), (.int (2 : Int32))] (fun rv vm h => rv = none ∧ Keep h0 h [x, d] ∧ Fld Z h x c11_ c7_ c3_ (.ref d) ∧ Fld Z h x c11_ "size" "I" (.int (3 : Int32)) ∧ Arv Z h d kc (.object c8_) (10 : Int32) [(.ref s0_), (.ref s1_), (.ref y), .null, .null, .null, .null, .null, .null, .null] .null ∧ Fld Z h x c10_ "modCount" "I" (.int mc)) := by
  obtain ⟨hw, hEL, ⟨zc, Scs, hzc⟩, ⟨fm, Sfm, hfm⟩, hL0⟩ := id cx
  have hSA := own_SA hw
  refine Met.of_walk (a0 := a0) #[vr x, vr y, vr d, vi (2 : Int32)] (plainFor_of_name own_pn21) X00 hEL (fun m => by first | (simp [entryFrame, mkF, argsToLocals, Value.category]; done) | rfl) ?_
  intro p e s m below meth c vm hx hby hml hret hnm hC0 hW0
  have lt_x : h0.size > x := P0.lt
  have lt_d : h0.size > d := P3.lt
  have lt_y : h0.size > y := P7.lt
  obtain ⟨Sdz, Edz, Vdz, Sel, Eel, Fee, Vee, Fan, Sem, Eem, Mmr, Sas⟩ := id hL
  refine uIN 1 hx hby d59 rfl rfl ?_
  refine uAN 2 hx hby d60 rfl rfl rfl ?_
  refine glen hx P3 3 (hb hby d61) rfl ?_
  refine gs (mkF m 11 #[vr x, vr y, vr d, vi (2 : Int32)] []) (fun _ _ A kq => XS.icmpYes A hx rfl (pc0 := 3) (pc' := 11) rfl (hb hby d62) rfl (feq (by decide)).2 (by decide) (by decide) kq) ?_
  refine uAN 12 hx hby d67 rfl rfl rfl ?_
  refine uIN 13 hx hby d68 rfl rfl ?_
  refine uAN 14 hx hby d69 rfl rfl rfl ?_
  refine gstR hx P3 ⟨by decide, by decide⟩ (i := 2) rfl (Nat.le_of_ble_eq_true rfl) (Arv.sto P3 hov (Ins.of_exa P7 (ow hw 235 rfl))) rfl P8 15 (hb hby d70) rfl ?_
  intro h1 W1 C1 V1
  have z1 := C1.2.1
  replace V1 : Arv Z h1 d kc (.object c8_) (10 : Int32) [(.ref s0_), (.ref s1_), (.ref y), .null, .null, .null, .null, .null, .null, .null] .null := V1
  refine uAN 16 hx hby d71 rfl rfl rfl ?_
  refine uIN 17 hx hby d72 rfl rfl ?_
  refine gs (mkF m 18 #[vr x, vr y, vr d, vi (2 : Int32)] [(.int (1 : Int32)), (.int (2 : Int32)), (.ref x)]) (fun _ _ A kq => XS.iconst A hx rfl (hb hby d73) kq) ?_
  refine gs (mkF m 19 #[vr x, vr y, vr d, vi (2 : Int32)] [(.int (3 : Int32)), (.ref x)]) (fun _ _ A kq => XS.iadd A hx rfl (hb hby d74) rfl kq) ?_
  have f2 := (P0.wr W1)
  have f3 := (P4.wr W1)
  have f4 := (P2.other W1 (Or.inl (ne_exa f2 f3 (by decide))))
  refine gputF (host := "") hx (Or.inl (ow hw 71 rfl)) Via.refl f4 f2 (Or.inl (ow hw 72 rfl)) (ow hw 35 rfl) (ty := .int) (by decide) rfl rfl P6 (fun al => Safe.exa al f2 (by decide) (by decide)) 22 (hb hby d75) rfl ?_
  intro h5 W5 C5
  have z5 := C5.2.1
  have F5 := f4.same W5
  have f7 := (f2.wr W5)
  have f8 := (f3.wr W5)
  have f9 := ((P1.other W1 (Or.inl (ne_exa f7 f8 (by decide)))).other W5 (Or.inr (slot_ne (Or.inl (ow hw 57 rfl)) (Or.inl (ow hw 72 rfl)) (by decide) (t := (.array (.object c8_))) (t' := .int) (by decide) (by decide))))
  have f10 := (V1.other W5 (ne_exa f8 f7 (by decide)))
  have f11 := ((P9.other W1 (Or.inl (ne_exa f7 f8 (by decide)))).other W5 (Or.inr (slot_ne (Or.inl (ow hw 54 rfl)) (Or.inl (ow hw 72 rfl)) (by decide) (t := .int) (t' := .int) (by decide) (by decide))))
  exact gretV hx hret (hb hby d76) (by decide) (by decide) (fun vq Cq => ⟨rfl, (((Keep.refl h0 [x, d]).wr W1 (Or.inl (List.mem_of_getElem? (i := 1) rfl))).wr W5 (Or.inl (List.mem_of_getElem? (i := 0) rfl))), f9, F5, f10, f11⟩)
theorem own_add2 (l : Launch) (Z : State) (a0 : Array Value) (cx : Ctx Z a0) (ws : List Jvm.Cond) (x : Addr) (y : Addr) (d : Addr) (kc : ClassId) (s0_ : Addr) (s1_ : Addr) (mc : Int32) (dz : Addr) (el : Addr) (ee : Addr) (em : Addr) (mr : Addr) (kd : ClassId) (ke : ClassId) (vm0 : Vm) (h0 : Heap) (X00 : Ext Z.heap h0) (P0 : Exa Z h0 x c11_) (P1 : Fld Z h0 x c11_ c7_ c3_ (.ref d)) (P2 : Fld Z h0 x c11_ "size" "I" (.int (2 : Int32))) (P3 : Arv Z h0 d kc (.object c8_) (10 : Int32) [(.ref s0_), (.ref s1_), .null, .null, .null, .null, .null, .null, .null, .null] .null) (P4 : Exa Z h0 d c3_) (hov : (Ovr Z kc c8_)) (P6 : Z.heap.size ≤ x) (P7 : Exa Z h0 y c9_) (P8 : Z.heap.size ≤ d) (P9 : Fld Z h0 x c10_ "modCount" "I" (.int mc)) (hL : (OwnL Z dz el ee em mr kd ke)) :
    Met l mn94 jdk_38_method_25_code 2 (some .boolean) ws ({ frames := 1, cells := 0, slots := 0, locals := 15 } : Room) Z consts_1 vm0 h0 #[(.ref x), (.ref y)] (fun rv vm h => rv = some (.int (1 : Int32)) ∧ Keep h0 h [x, d] ∧ Fld Z h x c11_ c7_ c3_ (.ref d) ∧ Fld Z h x c11_ "size" "I" (.int (3 : Int32)) ∧ Arv Z h d kc (.object c8_) (10 : Int32) [(.ref s0_), (.ref s1_), (.ref y), .null, .null, .null, .null, .null, .null, .null] .null ∧ Fld Z h x c10_ "modCount" "I" (.int (mc + (1 : Int32)))) := by
  obtain ⟨hw, hEL, ⟨zc, Scs, hzc⟩, ⟨fm, Sfm, hfm⟩, hL0⟩ := id cx
  have hSA := own_SA hw
  refine Met.of_walk (a0 := a0) #[vr x, vr y] (plainFor_of_name own_pn21) X00 hEL (fun m => by first | (simp [entryFrame, mkF, argsToLocals, Value.category]; done) | rfl) ?_
  intro p e s m below meth c vm hx hby hml hret hnm hC0 hW0
  have lt_x : h0.size > x := P0.lt
  have lt_d : h0.size > d := P3.lt
  have lt_y : h0.size > y := P7.lt
  obtain ⟨Sdz, Edz, Vdz, Sel, Eel, Fee, Vee, Fan, Sem, Eem, Mmr, Sas⟩ := id hL
  refine uAN 1 hx hby d78 rfl rfl rfl ?_
  refine uD 2 hx hby d79 rfl rfl ?_
  refine ggetF (host := "") hx (Or.inl (ow hw 212 rfl)) (Via.of (ow hw 213 rfl)) P9 5 (hb hby d80) rfl ?_
  refine gs (mkF m 6 #[vr x, vr y] [(.int (1 : Int32)), (.int mc), (.ref x)]) (fun _ _ A kq => XS.iconst A hx rfl (hb hby d81) kq) ?_
  refine gs (mkF m 7 #[vr x, vr y] [(.int (mc + (1 : Int32))), (.ref x)]) (fun _ _ A kq => XS.iadd A hx rfl (hb hby d82) rfl kq) ?_
  refine gputF (host := "") hx (Or.inl (ow hw 212 rfl)) (Via.of (ow hw 213 rfl)) P9 P0 (Or.inl (ow hw 54 rfl)) (ow hw 35 rfl) (ty := .int) (by decide) rfl rfl P6 (fun al => Safe.exa al P0 (by decide) (by decide)) 10 (hb hby d83) rfl ?_
  intro h1 W1 C1
  have z1 := C1.2.1
  have F1 := P9.same W1
  refine uAN 11 hx hby d84 rfl rfl rfl ?_
  refine uAN 12 hx hby d85 rfl rfl rfl ?_
  refine uAN 13 hx hby d86 rfl rfl rfl ?_
  have f2 := (P1.other W1 (Or.inr (slot_ne (Or.inl (ow hw 57 rfl)) (Or.inl (ow hw 54 rfl)) (by decide) (t := (.array (.object c8_))) (t' := .int) (by decide) (by decide))))
  refine ggetF (host := "") hx (Or.inl (ow hw 56 rfl)) Via.refl f2 16 (hb hby d87) rfl ?_
  refine uAN 17 hx hby d88 rfl rfl rfl ?_
  have f3 := (P2.other W1 (Or.inr (slot_ne (Or.inl (ow hw 72 rfl)) (Or.inl (ow hw 54 rfl)) (by decide) (t := .int) (t' := .int) (by decide) (by decide))))
  refine ggetF (host := "") hx (Or.inl (ow hw 71 rfl)) Via.refl f3 20 (hb hby d89) rfl ?_
  have f5 := (P0.wr W1)
  have f6 := (P4.wr W1)
  have f7 := (P3.other W1 (ne_exa f6 f5 (by decide)))
  have f8 := (P7.wr W1)
  refine ginfo fun _ _ O4 => ?_
  refine gcallP (y := mn77) hx (ow hw 214 rfl) (ow hw 215 rfl) (ow hw 217 rfl) (ow hw 216 rfl) (ow hw 218 rfl) (by decide) (fun hZ H hEL => Pay.of_met (W := 0) (own_addh2 l Z a0 cx [] (x) (y) (d) (kc) (s0_) (s1_) ((mc + (1 : Int32))) (dz) (el) (ee) (em) (mr) (kd) (ke) vm h1 O4 f5 f2 f3 f7 f6 (by first | assumption | decide | omega) P6 f8 P8 F1 (by first | assumption | decide | omega)) (ow hw 218 rfl) (ow hw 36 rfl) (by decide) (by decide) hZ H hEL) 23 (argsL := [(.ref y), (.ref d), (.int (2 : Int32))]) (rest := []) f5 (lenOf own_pd91 rfl) rfl rfl (Nat.le_of_eq rfl) (by rw [hml]; rfl) (hb hby d90) rfl (by decide) (by decide) ?_
  rintro _ vm4 h4 C4 ⟨rfl, K4, q4_0, q4_1, q4_2, q4_3⟩
  have z4 := C4.2.1
  refine gat (mkF m 23 #[vr x, vr y] []) rfl ?_
  refine gs (mkF m 24 #[vr x, vr y] [(.int (1 : Int32))]) (fun _ _ A kq => XS.iconst A hx rfl (hb hby d92) kq) ?_
  exact gretN (t := .boolean) hx hret (by simp) (hb hby d93) (by decide) (by decide) (fun vq Cq => ⟨rfl, (((Keep.refl h0 [x, d]).wr W1 (Or.inl (List.mem_of_getElem? (i := 0) rfl))).trans K4 (allS (Or.inl (List.mem_of_getElem? (i := 0) rfl)) (allS (Or.inl (List.mem_of_getElem? (i := 1) rfl)) all0))), q4_0, q4_1, q4_2, q4_3⟩)
theorem d95 : decode jdk_38_method_8_code 0 = .ok (.aload_n 0, 1) := by decide +kernel
theorem d96 : decode jdk_38_method_8_code 1 = .ok (.getfield 48, 3) := by decide +kernel
theorem d97 : decode jdk_38_method_8_code 4 = .ok (.ireturn, 1) := by decide +kernel
abbrev mn98 : MethodName := ⟨"java/util/ArrayList", "size", "()I"⟩
theorem own_alsize (l : Launch) (Z : State) (a0 : Array Value) (cx : Ctx Z a0) (ws : List Jvm.Cond) (x : Addr) (n : Int32) (vm0 : Vm) (h0 : Heap) (X00 : Ext Z.heap h0) (P0 : Fld Z h0 x c11_ "size" "I" (.int n)) :
    Met l mn98 jdk_38_method_8_code 1 (some .int) ws ({ frames := 0, cells := 0, slots := 0, locals := 0 } : Room) Z consts_1 vm0 h0 #[(.ref x)] (fun rv vm h => rv = some (.int n) ∧ h0 = h) := by
  obtain ⟨hw, hEL, ⟨zc, Scs, hzc⟩, ⟨fm, Sfm, hfm⟩, hL0⟩ := id cx
  have hSA := own_SA hw
  refine Met.of_walk (a0 := a0) #[vr x] (plainFor_of_name own_pn21) X00 hEL (fun m => by first | (simp [entryFrame, mkF, argsToLocals, Value.category]; done) | rfl) ?_
  intro p e s m below meth c vm hx hby hml hret hnm hC0 hW0
  have lt_x : h0.size > x := P0.lt
  refine uAN 1 hx hby d95 rfl rfl rfl ?_
  refine ggetF (host := "") hx (Or.inl (ow hw 71 rfl)) Via.refl P0 4 (hb hby d96) rfl ?_
  exact gretI hx hret (hb hby d97) (by decide) (by decide) (fun vq Cq => ⟨rfl, rfl⟩)
theorem d99 : decode jdk_38_method_9_code 0 = .ok (.aload_n 0, 1) := by decide +kernel
theorem d100 : decode jdk_38_method_9_code 1 = .ok (.getfield 48, 3) := by decide +kernel
theorem d101 : decode jdk_38_method_9_code 4 = .ok (.ifCond .ne 7, 3) := by decide +kernel
theorem d102 : decode jdk_38_method_9_code 7 = .ok (.iconst 1, 1) := by decide +kernel
theorem d103 : decode jdk_38_method_9_code 8 = .ok (.goto 4, 3) := by decide +kernel
theorem d104 : decode jdk_38_method_9_code 12 = .ok (.ireturn, 1) := by decide +kernel
abbrev mn105 : MethodName := ⟨"java/util/ArrayList", "isEmpty", "()Z"⟩
theorem own_alempty0 (l : Launch) (Z : State) (a0 : Array Value) (cx : Ctx Z a0) (ws : List Jvm.Cond) (x : Addr) (vm0 : Vm) (h0 : Heap) (X00 : Ext Z.heap h0) (P0 : Fld Z h0 x c11_ "size" "I" (.int (0 : Int32))) :
    Met l mn105 jdk_38_method_9_code 1 (some .boolean) ws ({ frames := 0, cells := 0, slots := 0, locals := 0 } : Room) Z consts_1 vm0 h0 #[(.ref x)] (fun rv vm h => rv = some (.int (1 : Int32)) ∧ h0 = h) := by
  obtain ⟨hw, hEL, ⟨zc, Scs, hzc⟩, ⟨fm, Sfm, hfm⟩, hL0⟩ := id cx
  have hSA := own_SA hw
  refine Met.of_walk (a0 := a0) #[vr x] (plainFor_of_name own_pn21) X00 hEL (fun m => by first | (simp [entryFrame, mkF, argsToLocals, Value.category]; done) | rfl) ?_
  intro p e s m below meth c vm hx hby hml hret hnm hC0 hW0
  have lt_x : h0.size > x := P0.lt
  refine uAN 1 hx hby d99 rfl rfl rfl ?_
  refine ggetF (host := "") hx (Or.inl (ow hw 71 rfl)) Via.refl P0 4 (hb hby d100) rfl ?_
  refine gs (mkF m 7 #[vr x] []) (fun _ _ A kq => XS.ifNo A hx rfl (hb hby d101) rfl ((if0 _ _).trans (teq (by decide)).2) kq) ?_
  refine gs (mkF m 8 #[vr x] [(.int (1 : Int32))]) (fun _ _ A kq => XS.iconst A hx rfl (hb hby d102) kq) ?_
  refine uG 12 hx hby d103 (by decide) (by decide) ?_
  exact gretN (t := .boolean) hx hret (by simp) (hb hby d104) (by decide) (by decide) (fun vq Cq => ⟨rfl, rfl⟩)
theorem d106 : decode jdk_38_method_9_code 11 = .ok (.iconst 0, 1) := by decide +kernel
theorem own_alempty1 (l : Launch) (Z : State) (a0 : Array Value) (cx : Ctx Z a0) (ws : List Jvm.Cond) (x : Addr) (vm0 : Vm) (h0 : Heap) (X00 : Ext Z.heap h0) (P0 : Fld Z h0 x c11_ "size" "I" (.int (1 : Int32))) :
    Met l mn105 jdk_38_method_9_code 1 (some .boolean) ws ({ frames := 0, cells := 0, slots := 0, locals := 0 } : Room) Z consts_1 vm0 h0 #[(.ref x)] (fun rv vm h => rv = some (.int (0 : Int32)) ∧ h0 = h) := by
  obtain ⟨hw, hEL, ⟨zc, Scs, hzc⟩, ⟨fm, Sfm, hfm⟩, hL0⟩ := id cx
  have hSA := own_SA hw
  refine Met.of_walk (a0 := a0) #[vr x] (plainFor_of_name own_pn21) X00 hEL (fun m => by first | (simp [entryFrame, mkF, argsToLocals, Value.category]; done) | rfl) ?_
  intro p e s m below meth c vm hx hby hml hret hnm hC0 hW0
  have lt_x : h0.size > x := P0.lt
  refine uAN 1 hx hby d99 rfl rfl rfl ?_
  refine ggetF (host := "") hx (Or.inl (ow hw 71 rfl)) Via.refl P0 4 (hb hby d100) rfl ?_
  refine gs (mkF m 11 #[vr x] []) (fun _ _ A kq => XS.ifYes A hx rfl (pc0 := 4) (pc' := 11) rfl (hb hby d101) rfl ((if0 _ _).trans (feq (by decide)).2) (by decide) (by decide) kq) ?_
  refine gs (mkF m 12 #[vr x] [(.int (0 : Int32))]) (fun _ _ A kq => XS.iconst A hx rfl (hb hby d106) kq) ?_
  exact gretN (t := .boolean) hx hret (by simp) (hb hby d104) (by decide) (by decide) (fun vq Cq => ⟨rfl, rfl⟩)
theorem own_alempty2 (l : Launch) (Z : State) (a0 : Array Value) (cx : Ctx Z a0) (ws : List Jvm.Cond) (x : Addr) (vm0 : Vm) (h0 : Heap) (X00 : Ext Z.heap h0) (P0 : Fld Z h0 x c11_ "size" "I" (.int (2 : Int32))) :
    Met l mn105 jdk_38_method_9_code 1 (some .boolean) ws ({ frames := 0, cells := 0, slots := 0, locals := 0 } : Room) Z consts_1 vm0 h0 #[(.ref x)] (fun rv vm h => rv = some (.int (0 : Int32)) ∧ h0 = h) := by
  obtain ⟨hw, hEL, ⟨zc, Scs, hzc⟩, ⟨fm, Sfm, hfm⟩, hL0⟩ := id cx
  have hSA := own_SA hw
  refine Met.of_walk (a0 := a0) #[vr x] (plainFor_of_name own_pn21) X00 hEL (fun m => by first | (simp [entryFrame, mkF, argsToLocals, Value.category]; done) | rfl) ?_
  intro p e s m below meth c vm hx hby hml hret hnm hC0 hW0
  have lt_x : h0.size > x := P0.lt
  refine uAN 1 hx hby d99 rfl rfl rfl ?_
  refine ggetF (host := "") hx (Or.inl (ow hw 71 rfl)) Via.refl P0 4 (hb hby d100) rfl ?_
  refine gs (mkF m 11 #[vr x] []) (fun _ _ A kq => XS.ifYes A hx rfl (pc0 := 4) (pc' := 11) rfl (hb hby d101) rfl ((if0 _ _).trans (feq (by decide)).2) (by decide) (by decide) kq) ?_
  refine gs (mkF m 12 #[vr x] [(.int (0 : Int32))]) (fun _ _ A kq => XS.iconst A hx rfl (hb hby d106) kq) ?_
  exact gretN (t := .boolean) hx hret (by simp) (hb hby d104) (by decide) (by decide) (fun vq Cq => ⟨rfl, rfl⟩)
theorem own_alempty3 (l : Launch) (Z : State) (a0 : Array Value) (cx : Ctx Z a0) (ws : List Jvm.Cond) (x : Addr) (vm0 : Vm) (h0 : Heap) (X00 : Ext Z.heap h0) (P0 : Fld Z h0 x c11_ "size" "I" (.int (3 : Int32))) :
    Met l mn105 jdk_38_method_9_code 1 (some .boolean) ws ({ frames := 0, cells := 0, slots := 0, locals := 0 } : Room) Z consts_1 vm0 h0 #[(.ref x)] (fun rv vm h => rv = some (.int (0 : Int32)) ∧ h0 = h) := by
  obtain ⟨hw, hEL, ⟨zc, Scs, hzc⟩, ⟨fm, Sfm, hfm⟩, hL0⟩ := id cx
  have hSA := own_SA hw
  refine Met.of_walk (a0 := a0) #[vr x] (plainFor_of_name own_pn21) X00 hEL (fun m => by first | (simp [entryFrame, mkF, argsToLocals, Value.category]; done) | rfl) ?_
  intro p e s m below meth c vm hx hby hml hret hnm hC0 hW0
  have lt_x : h0.size > x := P0.lt
  refine uAN 1 hx hby d99 rfl rfl rfl ?_
  refine ggetF (host := "") hx (Or.inl (ow hw 71 rfl)) Via.refl P0 4 (hb hby d100) rfl ?_
  refine gs (mkF m 11 #[vr x] []) (fun _ _ A kq => XS.ifYes A hx rfl (pc0 := 4) (pc' := 11) rfl (hb hby d101) rfl ((if0 _ _).trans (feq (by decide)).2) (by decide) (by decide) kq) ?_
  refine gs (mkF m 12 #[vr x] [(.int (0 : Int32))]) (fun _ _ A kq => XS.iconst A hx rfl (hb hby d106) kq) ?_
  exact gretN (t := .boolean) hx hret (by simp) (hb hby d104) (by decide) (by decide) (fun vq Cq => ⟨rfl, rfl⟩)
theorem d107 : decode jdk_40_method_36_code 0 = .ok (.getstatic 90, 3) := by decide +kernel
theorem d108 : decode jdk_40_method_36_code 3 = .ok (.areturn, 1) := by decide +kernel
abbrev mn109 : MethodName := ⟨"java/util/List", "of", "()Ljava/util/List;"⟩
theorem own_pn110 : plainName "java/util/List" = true := by first | (simp [plainName, overriddenIn]; done) | decide +kernel
theorem own_of0 (l : Launch) (Z : State) (a0 : Array Value) (cx : Ctx Z a0) (ws : List Jvm.Cond) (dz : Addr) (el : Addr) (ee : Addr) (em : Addr) (mr : Addr) (kd : ClassId) (ke : ClassId) (vm0 : Vm) (h0 : Heap) (X00 : Ext Z.heap h0) (hL : (OwnL Z dz el ee em mr kd ke)) :
    Met l mn109 jdk_40_method_36_code 0 (some (.object c16_)) ws ({ frames := 0, cells := 0, slots := 0, locals := 0 } : Room) Z consts_1 vm0 h0 #[] (fun rv vm h => rv = some (.ref el) ∧ h0 = h) := by
  obtain ⟨hw, hEL, ⟨zc, Scs, hzc⟩, ⟨fm, Sfm, hfm⟩, hL0⟩ := id cx
  have hSA := own_SA hw
  refine Met.of_walk (a0 := a0) #[] (plainFor_of_name own_pn110) X00 hEL (fun m => by first | (simp [entryFrame, mkF, argsToLocals, Value.category]; done) | rfl) ?_
  intro p e s m below meth c vm hx hby hml hret hnm hC0 hW0
  obtain ⟨Sdz, Edz, Vdz, Sel, Eel, Fee, Vee, Fan, Sem, Eem, Mmr, Sas⟩ := id hL
  refine ggetS (host := "") hx (Or.inl (ow hw 137 rfl)) Via.refl Sel 3 (hb hby d107) rfl ?_
  exact gretA hx hret rfl rfl (hb hby d108) (by decide) (by decide) (fun vq Cq => ⟨rfl, rfl⟩)
theorem d111 : decode jdk_31_method_10_code 0 = .ok (.aload_n 0, 1) := by decide +kernel
theorem d112 : decode jdk_31_method_10_code 1 = .ok (.ifnonnull 11, 3) := by decide +kernel
theorem d113 : decode jdk_31_method_10_code 12 = .ok (.aload_n 0, 1) := by decide +kernel
theorem d114 : decode jdk_31_method_10_code 13 = .ok (.areturn, 1) := by decide +kernel
abbrev mn115 : MethodName := ⟨"java/util/Objects", "requireNonNull", "(Ljava/lang/Object;)Ljava/lang/Object;"⟩
theorem own_pn116 : plainName "java/util/Objects" = true := by first | (simp [plainName, overriddenIn]; done) | decide +kernel
theorem own_rnn (l : Launch) (Z : State) (a0 : Array Value) (cx : Ctx Z a0) (ws : List Jvm.Cond) (x : Addr) (vm0 : Vm) (h0 : Heap) (X00 : Ext Z.heap h0)  :
    Met l mn115 jdk_31_method_10_code 1 (some (.object c8_)) ws ({ frames := 0, cells := 0, slots := 0, locals := 0 } : Room) Z consts_1 vm0 h0 #[(.ref x)] (fun rv vm h => rv = some (.ref x) ∧ h0 = h) := by
  obtain ⟨hw, hEL, ⟨zc, Scs, hzc⟩, ⟨fm, Sfm, hfm⟩, hL0⟩ := id cx
  have hSA := own_SA hw
  refine Met.of_walk (a0 := a0) #[vr x] (plainFor_of_name own_pn116) X00 hEL (fun m => by first | (simp [entryFrame, mkF, argsToLocals, Value.category]; done) | rfl) ?_
  intro p e s m below meth c vm hx hby hml hret hnm hC0 hW0
  refine uAN 1 hx hby d111 rfl rfl rfl ?_
  refine gs (mkF m 12 #[vr x] []) (fun _ _ A kq => XS.ifnonnullYes A hx rfl (pc0 := 1) (pc' := 12) rfl (hb hby d112) rfl (by decide) (by decide) kq) ?_
  refine uAN 13 hx hby d113 rfl rfl rfl ?_
  exact gretA hx hret rfl rfl (hb hby d114) (by decide) (by decide) (fun vq Cq => ⟨rfl, rfl⟩)
theorem d117 : decode jdk_47_method_1_code 0 = .ok (.aload_n 0, 1) := by decide +kernel
theorem d118 : decode jdk_47_method_1_code 1 = .ok (.invokespecial 1, 3) := by decide +kernel
theorem d119 : decode jdk_47_method_1_code 4 = .ok (.return_, 1) := by decide +kernel
abbrev mn120 : MethodName := ⟨"java/util/ImmutableCollections$AbstractImmutableCollection", "<init>", "()V"⟩
theorem own_pn121 : plainName "java/util/ImmutableCollections$AbstractImmutableCollection" = true := by first | (simp [plainName, overriddenIn]; done) | decide +kernel
theorem own_aicinit (l : Launch) (Z : State) (a0 : Array Value) (cx : Ctx Z a0) (ws : List Jvm.Cond) (x : Addr) (vm0 : Vm) (h0 : Heap) (X00 : Ext Z.heap h0)  :
    Met l mn120 jdk_47_method_1_code 1 none ws ({ frames := 2, cells := 0, slots := 0, locals := 24 } : Room) Z consts_1 vm0 h0 #[(.ref x)] (fun rv vm h => rv = none ∧ h0 = h) := by
  obtain ⟨hw, hEL, ⟨zc, Scs, hzc⟩, ⟨fm, Sfm, hfm⟩, hL0⟩ := id cx
  have hSA := own_SA hw
  refine Met.of_walk (a0 := a0) #[vr x] (plainFor_of_name own_pn121) X00 hEL (fun m => by first | (simp [entryFrame, mkF, argsToLocals, Value.category]; done) | rfl) ?_
  intro p e s m below meth c vm hx hby hml hret hnm hC0 hW0
  refine uAN 1 hx hby d117 rfl rfl rfl ?_
  refine ginfo fun _ _ O1 => ?_
  refine gcallI (y := mn3) hx rfl (ow hw 293 rfl) (ow hw 47 rfl) (ow hw 51 rfl) (by decide) (fun hZ H hEL => Pay.of_met (W := 0) (own_abcinit l Z a0 cx [] (x) vm h0 O1 ) (ow hw 51 rfl) (ow hw 50 rfl) (by decide) (by decide) hZ H hEL) (a := x) 4 (argsL := []) (rest := []) (lenOf own_pd7 rfl) rfl rfl (Nat.le_of_eq rfl) (by rw [hml]; rfl) (hb hby d118) rfl (by decide) (by decide) ?_
  rintro _ vm1 h1 C1 ⟨rfl, rfl⟩
  have z1 := C1.2.1
  refine gat (mkF m 4 #[vr x] []) rfl ?_
  exact gretV hx hret (hb hby d119) (by decide) (by decide) (fun vq Cq => ⟨rfl, rfl⟩)
theorem d122 : decode jdk_46_method_1_code 0 = .ok (.aload_n 0, 1) := by decide +kernel
theorem d123 : decode jdk_46_method_1_code 1 = .ok (.invokespecial 1, 3) := by decide +kernel
theorem d124 : decode jdk_46_method_1_code 4 = .ok (.return_, 1) := by decide +kernel
abbrev mn125 : MethodName := ⟨"java/util/ImmutableCollections$AbstractImmutableList", "<init>", "()V"⟩
theorem own_pn126 : plainName "java/util/ImmutableCollections$AbstractImmutableList" = true := by first | (simp [plainName, overriddenIn]; done) | decide +kernel
theorem own_ailinit (l : Launch) (Z : State) (a0 : Array Value) (cx : Ctx Z a0) (ws : List Jvm.Cond) (x : Addr) (vm0 : Vm) (h0 : Heap) (X00 : Ext Z.heap h0)  :
    Met l mn125 jdk_46_method_1_code 1 none ws ({ frames := 3, cells := 0, slots := 0, locals := 36 } : Room) Z consts_1 vm0 h0 #[(.ref x)] (fun rv vm h => rv = none ∧ h0 = h) := by
  obtain ⟨hw, hEL, ⟨zc, Scs, hzc⟩, ⟨fm, Sfm, hfm⟩, hL0⟩ := id cx
  have hSA := own_SA hw
  refine Met.of_walk (a0 := a0) #[vr x] (plainFor_of_name own_pn126) X00 hEL (fun m => by first | (simp [entryFrame, mkF, argsToLocals, Value.category]; done) | rfl) ?_
  intro p e s m below meth c vm hx hby hml hret hnm hC0 hW0
  refine uAN 1 hx hby d122 rfl rfl rfl ?_
  refine ginfo fun _ _ O1 => ?_
  refine gcallI (y := mn120) hx rfl (ow hw 287 rfl) (ow hw 288 rfl) (ow hw 292 rfl) (by decide) (fun hZ H hEL => Pay.of_met (W := 0) (own_aicinit l Z a0 cx [] (x) vm h0 O1 ) (ow hw 292 rfl) (ow hw 291 rfl) (by decide) (by decide) hZ H hEL) (a := x) 4 (argsL := []) (rest := []) (lenOf own_pd7 rfl) rfl rfl (Nat.le_of_eq rfl) (by rw [hml]; rfl) (hb hby d123) rfl (by decide) (by decide) ?_
  rintro _ vm1 h1 C1 ⟨rfl, rfl⟩
  have z1 := C1.2.1
  refine gat (mkF m 4 #[vr x] []) rfl ?_
  exact gretV hx hret (hb hby d124) (by decide) (by decide) (fun vq Cq => ⟨rfl, rfl⟩)
theorem d127 : decode jdk_44_method_1_code 0 = .ok (.aload_n 0, 1) := by decide +kernel
theorem d128 : decode jdk_44_method_1_code 1 = .ok (.invokespecial 1, 3) := by decide +kernel
theorem d129 : decode jdk_44_method_1_code 4 = .ok (.aload_n 0, 1) := by decide +kernel
theorem d130 : decode jdk_44_method_1_code 5 = .ok (.aload_n 1, 1) := by decide +kernel
theorem d131 : decode jdk_44_method_1_code 6 = .ok (.invokestatic 7, 3) := by decide +kernel
theorem own_pd132 : parseMethodDescriptor "(Ljava/lang/Object;)Ljava/lang/Object;" = some ⟨[(.object "java/lang/Object")], some (.object "java/lang/Object")⟩ := by decide +kernel
theorem d133 : decode jdk_44_method_1_code 9 = .ok (.putfield 13, 3) := by decide +kernel
theorem d134 : decode jdk_44_method_1_code 12 = .ok (.aload_n 0, 1) := by decide +kernel
theorem d135 : decode jdk_44_method_1_code 13 = .ok (.getstatic 19, 3) := by decide +kernel
theorem d136 : decode jdk_44_method_1_code 16 = .ok (.putfield 24, 3) := by decide +kernel
theorem d137 : decode jdk_44_method_1_code 19 = .ok (.return_, 1) := by decide +kernel
abbrev mn138 : MethodName := ⟨"java/util/ImmutableCollections$List12", "<init>", "(Ljava/lang/Object;)V"⟩
theorem own_pn139 : plainName "java/util/ImmutableCollections$List12" = true := by first | (simp [plainName, overriddenIn]; done) | decide +kernel
theorem own_l12a (l : Launch) (Z : State) (a0 : Array Value) (cx : Ctx Z a0) (ws : List Jvm.Cond) (x : Addr) (a : Addr) (u0 : Value) (u1 : Value) (dz : Addr) (el : Addr) (ee : Addr) (em : Addr) (mr : Addr) (kd : ClassId) (ke : ClassId) (vm0 : Vm) (h0 : Heap) (X00 : Ext Z.heap h0) (P0 : Exa Z h0 x c14_) (P1 : Fld Z h0 x c14_ "e0" c0_ u0) (P2 : Fld Z h0 x c14_ "e1" c0_ u1) (P3 : Z.heap.size ≤ x) (hL : (OwnL Z dz el ee em mr kd ke)) :
    Met l mn138 jdk_44_method_1_code 2 none ws ({ frames := 4, cells := 0, slots := 0, locals := 48 } : Room) Z consts_1 vm0 h0 #[(.ref x), (.ref a)] (fun rv vm h => rv = none ∧ Keep h0 h [x] ∧ Fld Z h x c14_ "e0" c0_ (.ref a) ∧ Fld Z h x c14_ "e1" c0_ (.ref em)) := by
  obtain ⟨hw, hEL, ⟨zc, Scs, hzc⟩, ⟨fm, Sfm, hfm⟩, hL0⟩ := id cx
  have hSA := own_SA hw
  refine Met.of_walk (a0 := a0) #[vr x, vr a] (plainFor_of_name own_pn139) X00 hEL (fun m => by first | (simp [entryFrame, mkF, argsToLocals, Value.category]; done) | rfl) ?_
  intro p e s m below meth c vm hx hby hml hret hnm hC0 hW0
  have lt_x : h0.size > x := P0.lt
  obtain ⟨Sdz, Edz, Vdz, Sel, Eel, Fee, Vee, Fan, Sem, Eem, Mmr, Sas⟩ := id hL
  refine uAN 1 hx hby d127 rfl rfl rfl ?_
  refine ginfo fun _ _ O1 => ?_
  refine gcallI (y := mn125) hx rfl (ow hw 323 rfl) (ow hw 282 rfl) (ow hw 286 rfl) (by decide) (fun hZ H hEL => Pay.of_met (W := 0) (own_ailinit l Z a0 cx [] (x) vm h0 O1 ) (ow hw 286 rfl) (ow hw 285 rfl) (by decide) (by decide) hZ H hEL) (a := x) 4 (argsL := []) (rest := []) (lenOf own_pd7 rfl) rfl rfl (Nat.le_of_eq rfl) (by rw [hml]; rfl) (hb hby d128) rfl (by decide) (by decide) ?_
  rintro _ vm1 h1 C1 ⟨rfl, rfl⟩
  have z1 := C1.2.1
  refine gat (mkF m 4 #[vr x, vr a] []) rfl ?_
  refine uAN 5 hx hby d129 rfl rfl rfl ?_
  refine uAN 6 hx hby d130 rfl rfl rfl ?_
  refine ginfo fun _ _ O2 => ?_
  refine gcallS (y := mn115) hx (ow hw 327 rfl) (ow hw 274 rfl) (ow hw 275 rfl) (ow hw 276 rfl) (by decide) (fun hZ H hEL => Pay.of_met (W := 1) (own_rnn l Z a0 cx [] (a) vm1 h0 O2 ) (ow hw 276 rfl) (ow hw 275 rfl) (by decide) (by decide) hZ H hEL) 9 (argsL := [(.ref a)]) (rest := [(.ref x)]) (lenOf own_pd132 rfl) rfl rfl (Nat.le_of_eq rfl) (by rw [hml]; rfl) (hb hby d131) rfl (by decide) (by decide) ?_
  rintro _ vm2 h2 C2 ⟨rfl, rfl⟩
  have z2 := C2.2.1
  refine gat (mkF m 9 #[vr x, vr a] [(.ref a), (.ref x)]) rfl ?_
  refine gputF (host := "") hx (Or.inl (ow hw 328 rfl)) Via.refl P1 P0 (Or.inr ⟨(ow hw 329 rfl), rfl, hnm⟩) (ow hw 317 rfl) (ty := (.object c8_)) (by decide) rfl rfl P3 (fun al => Safe.exa al P0 (by decide) (by decide)) 12 (hb hby d133) rfl ?_
  intro h3 W3 C3
  have z3 := C3.2.1
  have F3 := P1.same W3
  refine uAN 13 hx hby d134 rfl rfl rfl ?_
  refine ggetS (host := c13_) hx (Or.inr (ow hw 338 rfl)) Via.refl Sem 16 (hb hby d135) rfl ?_
  have f4 := (P2.other W3 (Or.inr (slot_ne (Or.inr (ow hw 331 rfl)) (Or.inr (ow hw 329 rfl)) (by decide) (t := (.object c8_)) (t' := (.object c8_)) (by decide) (by decide))))
  have f5 := (P0.wr W3)
  refine gputF (host := "") hx (Or.inl (ow hw 330 rfl)) Via.refl f4 f5 (Or.inr ⟨(ow hw 331 rfl), rfl, hnm⟩) (ow hw 317 rfl) (ty := (.object c8_)) (by decide) rfl rfl P3 (fun al => Safe.exa al f5 (by decide) (by decide)) 19 (hb hby d136) rfl ?_
  intro h6 W6 C6
  have z6 := C6.2.1
  have F6 := f4.same W6
  have f8 := (F3.other W6 (Or.inr (slot_ne (Or.inr (ow hw 329 rfl)) (Or.inr (ow hw 331 rfl)) (by decide) (t := (.object c8_)) (t' := (.object c8_)) (by decide) (by decide))))
  exact gretV hx hret (hb hby d137) (by decide) (by decide) (fun vq Cq => ⟨rfl, (((Keep.refl h0 [x]).wr W3 (Or.inl (List.mem_of_getElem? (i := 0) rfl))).wr W6 (Or.inl (List.mem_of_getElem? (i := 0) rfl))), f8, F6⟩)
theorem d140 : decode jdk_44_method_2_code 0 = .ok (.aload_n 0, 1) := by decide +kernel
theorem d141 : decode jdk_44_method_2_code 1 = .ok (.invokespecial 1, 3) := by decide +kernel
theorem d142 : decode jdk_44_method_2_code 4 = .ok (.aload_n 0, 1) := by decide +kernel
theorem d143 : decode jdk_44_method_2_code 5 = .ok (.aload_n 1, 1) := by decide +kernel
theorem d144 : decode jdk_44_method_2_code 6 = .ok (.invokestatic 7, 3) := by decide +kernel
theorem d145 : decode jdk_44_method_2_code 9 = .ok (.putfield 13, 3) := by decide +kernel
theorem d146 : decode jdk_44_method_2_code 12 = .ok (.aload_n 0, 1) := by decide +kernel
theorem d147 : decode jdk_44_method_2_code 13 = .ok (.aload_n 2, 1) := by decide +kernel
theorem d148 : decode jdk_44_method_2_code 14 = .ok (.invokestatic 7, 3) := by decide +kernel
theorem d149 : decode jdk_44_method_2_code 17 = .ok (.putfield 24, 3) := by decide +kernel
theorem d150 : decode jdk_44_method_2_code 20 = .ok (.return_, 1) := by decide +kernel
abbrev mn151 : MethodName := ⟨"java/util/ImmutableCollections$List12", "<init>", "(Ljava/lang/Object;Ljava/lang/Object;)V"⟩
theorem own_l12b (l : Launch) (Z : State) (a0 : Array Value) (cx : Ctx Z a0) (ws : List Jvm.Cond) (x : Addr) (a : Addr) (b : Addr) (u0 : Value) (u1 : Value) (vm0 : Vm) (h0 : Heap) (X00 : Ext Z.heap h0) (P0 : Exa Z h0 x c14_) (P1 : Fld Z h0 x c14_ "e0" c0_ u0) (P2 : Fld Z h0 x c14_ "e1" c0_ u1) (P3 : Z.heap.size ≤ x) :
    Met l mn151 jdk_44_method_2_code 3 none ws ({ frames := 4, cells := 0, slots := 0, locals := 48 } : Room) Z consts_1 vm0 h0 #[(.ref x), (.ref a), (.ref b)] (fun rv vm h => rv = none ∧ Keep h0 h [x] ∧ Fld Z h x c14_ "e0" c0_ (.ref a) ∧ Fld Z h x c14_ "e1" c0_ (.ref b)) := by
  obtain ⟨hw, hEL, ⟨zc, Scs, hzc⟩, ⟨fm, Sfm, hfm⟩, hL0⟩ := id cx
  have hSA := own_SA hw
  refine Met.of_walk (a0 := a0) #[vr x, vr a, vr b] (plainFor_of_name own_pn139) X00 hEL (fun m => by first | (simp [entryFrame, mkF, argsToLocals, Value.category]; done) | rfl) ?_
  intro p e s m below meth c vm hx hby hml hret hnm hC0 hW0
  have lt_x : h0.size > x := P0.lt
  refine uAN 1 hx hby d140 rfl rfl rfl ?_
  refine ginfo fun _ _ O1 => ?_
  refine gcallI (y := mn125) hx rfl (ow hw 323 rfl) (ow hw 282 rfl) (ow hw 286 rfl) (by decide) (fun hZ H hEL => Pay.of_met (W := 0) (own_ailinit l Z a0 cx [] (x) vm h0 O1 ) (ow hw 286 rfl) (ow hw 285 rfl) (by decide) (by decide) hZ H hEL) (a := x) 4 (argsL := []) (rest := []) (lenOf own_pd7 rfl) rfl rfl (Nat.le_of_eq rfl) (by rw [hml]; rfl) (hb hby d141) rfl (by decide) (by decide) ?_
  rintro _ vm1 h1 C1 ⟨rfl, rfl⟩
  have z1 := C1.2.1
  refine gat (mkF m 4 #[vr x, vr a, vr b] []) rfl ?_
  refine uAN 5 hx hby d142 rfl rfl rfl ?_
  refine uAN 6 hx hby d143 rfl rfl rfl ?_
  refine ginfo fun _ _ O2 => ?_
  refine gcallS (y := mn115) hx (ow hw 327 rfl) (ow hw 274 rfl) (ow hw 275 rfl) (ow hw 276 rfl) (by decide) (fun hZ H hEL => Pay.of_met (W := 1) (own_rnn l Z a0 cx [] (a) vm1 h0 O2 ) (ow hw 276 rfl) (ow hw 275 rfl) (by decide) (by decide) hZ H hEL) 9 (argsL := [(.ref a)]) (rest := [(.ref x)]) (lenOf own_pd132 rfl) rfl rfl (Nat.le_of_eq rfl) (by rw [hml]; rfl) (hb hby d144) rfl (by decide) (by decide) ?_
  rintro _ vm2 h2 C2 ⟨rfl, rfl⟩
  have z2 := C2.2.1
  refine gat (mkF m 9 #[vr x, vr a, vr b] [(.ref a), (.ref x)]) rfl ?_
  refine gputF (host := "") hx (Or.inl (ow hw 328 rfl)) Via.refl P1 P0 (Or.inr ⟨(ow hw 329 rfl), rfl, hnm⟩) (ow hw 317 rfl) (ty := (.object c8_)) (by decide) rfl rfl P3 (fun al => Safe.exa al P0 (by decide) (by decide)) 12 (hb hby d145) rfl ?_
  intro h3 W3 C3
  have z3 := C3.2.1
  have F3 := P1.same W3
  refine uAN 13 hx hby d146 rfl rfl rfl ?_
  refine uAN 14 hx hby d147 rfl rfl rfl ?_
  refine ginfo fun _ _ O4 => ?_
  refine gcallS (y := mn115) hx (ow hw 327 rfl) (ow hw 274 rfl) (ow hw 275 rfl) (ow hw 276 rfl) (by decide) (fun hZ H hEL => Pay.of_met (W := 1) (own_rnn l Z a0 cx [] (b) vm2 h3 O4 ) (ow hw 276 rfl) (ow hw 275 rfl) (by decide) (by decide) hZ H hEL) 17 (argsL := [(.ref b)]) (rest := [(.ref x)]) (lenOf own_pd132 rfl) rfl rfl (Nat.le_of_eq rfl) (by rw [hml]; rfl) (hb hby d148) rfl (by decide) (by decide) ?_
  rintro _ vm4 h4 C4 ⟨rfl, rfl⟩
  have z4 := C4.2.1
  refine gat (mkF m 17 #[vr x, vr a, vr b] [(.ref b), (.ref x)]) rfl ?_
  have f5 := (P2.other W3 (Or.inr (slot_ne (Or.inr (ow hw 331 rfl)) (Or.inr (ow hw 329 rfl)) (by decide) (t := (.object c8_)) (t' := (.object c8_)) (by decide) (by decide))))
  have f6 := (P0.wr W3)
  refine gputF (host := "") hx (Or.inl (ow hw 330 rfl)) Via.refl f5 f6 (Or.inr ⟨(ow hw 331 rfl), rfl, hnm⟩) (ow hw 317 rfl) (ty := (.object c8_)) (by decide) rfl rfl P3 (fun al => Safe.exa al f6 (by decide) (by decide)) 20 (hb hby d149) rfl ?_
  intro h7 W7 C7
  have z7 := C7.2.1
  have F7 := f5.same W7
  have f9 := (F3.other W7 (Or.inr (slot_ne (Or.inr (ow hw 329 rfl)) (Or.inr (ow hw 331 rfl)) (by decide) (t := (.object c8_)) (t' := (.object c8_)) (by decide) (by decide))))
  exact gretV hx hret (hb hby d150) (by decide) (by decide) (fun vq Cq => ⟨rfl, (((Keep.refl h0 [x]).wr W3 (Or.inl (List.mem_of_getElem? (i := 0) rfl))).wr W7 (Or.inl (List.mem_of_getElem? (i := 0) rfl))), f9, F7⟩)
theorem d152 : decode jdk_45_method_1_code 0 = .ok (.aload_n 0, 1) := by decide +kernel
theorem d153 : decode jdk_45_method_1_code 1 = .ok (.invokespecial 1, 3) := by decide +kernel
theorem d154 : decode jdk_45_method_1_code 4 = .ok (.aload_n 0, 1) := by decide +kernel
theorem d155 : decode jdk_45_method_1_code 5 = .ok (.aload_n 1, 1) := by decide +kernel
theorem d156 : decode jdk_45_method_1_code 6 = .ok (.putfield 7, 3) := by decide +kernel
theorem d157 : decode jdk_45_method_1_code 9 = .ok (.aload_n 0, 1) := by decide +kernel
theorem d158 : decode jdk_45_method_1_code 10 = .ok (.iload_n 2, 1) := by decide +kernel
theorem d159 : decode jdk_45_method_1_code 11 = .ok (.putfield 13, 3) := by decide +kernel
theorem d160 : decode jdk_45_method_1_code 14 = .ok (.return_, 1) := by decide +kernel
abbrev mn161 : MethodName := ⟨"java/util/ImmutableCollections$ListN", "<init>", "([Ljava/lang/Object;Z)V"⟩
theorem own_pn162 : plainName "java/util/ImmutableCollections$ListN" = true := by first | (simp [plainName, overriddenIn]; done) | decide +kernel
theorem own_lninit (l : Launch) (Z : State) (a0 : Array Value) (cx : Ctx Z a0) (ws : List Jvm.Cond) (x : Addr) (g : Addr) (u0 : Value) (u1 : Value) (vm0 : Vm) (h0 : Heap) (X00 : Ext Z.heap h0) (P0 : Exa Z h0 x c15_) (P1 : Fld Z h0 x c15_ "elements" c3_ u0) (P2 : Fld Z h0 x c15_ c4_ "Z" u1) (P3 : Z.heap.size ≤ x) :
    Met l mn161 jdk_45_method_1_code 3 none ws ({ frames := 4, cells := 0, slots := 0, locals := 48 } : Room) Z consts_1 vm0 h0 #[(.ref x), (.ref g), (.int (0 : Int32))] (fun rv vm h => rv = none ∧ Keep h0 h [x] ∧ Fld Z h x c15_ "elements" c3_ (.ref g)) := by
  obtain ⟨hw, hEL, ⟨zc, Scs, hzc⟩, ⟨fm, Sfm, hfm⟩, hL0⟩ := id cx
  have hSA := own_SA hw
  refine Met.of_walk (a0 := a0) #[vr x, vr g, vi (0 : Int32)] (plainFor_of_name own_pn162) X00 hEL (fun m => by first | (simp [entryFrame, mkF, argsToLocals, Value.category]; done) | rfl) ?_
  intro p e s m below meth c vm hx hby hml hret hnm hC0 hW0
  have lt_x : h0.size > x := P0.lt
  refine uAN 1 hx hby d152 rfl rfl rfl ?_
  refine ginfo fun _ _ O1 => ?_
  refine gcallI (y := mn125) hx rfl (ow hw 281 rfl) (ow hw 282 rfl) (ow hw 286 rfl) (by decide) (fun hZ H hEL => Pay.of_met (W := 0) (own_ailinit l Z a0 cx [] (x) vm h0 O1 ) (ow hw 286 rfl) (ow hw 285 rfl) (by decide) (by decide) hZ H hEL) (a := x) 4 (argsL := []) (rest := []) (lenOf own_pd7 rfl) rfl rfl (Nat.le_of_eq rfl) (by rw [hml]; rfl) (hb hby d153) rfl (by decide) (by decide) ?_
  rintro _ vm1 h1 C1 ⟨rfl, rfl⟩
  have z1 := C1.2.1
  refine gat (mkF m 4 #[vr x, vr g, vi (0 : Int32)] []) rfl ?_
  refine uAN 5 hx hby d154 rfl rfl rfl ?_
  refine uAN 6 hx hby d155 rfl rfl rfl ?_
  refine gputF (host := "") hx (Or.inl (ow hw 202 rfl)) Via.refl P1 P0 (Or.inr ⟨(ow hw 203 rfl), rfl, hnm⟩) (ow hw 277 rfl) (ty := (.array (.object c8_))) (by decide) rfl rfl P3 (fun al => Safe.exa al P0 (by decide) (by decide)) 9 (hb hby d156) rfl ?_
  intro h2 W2 C2
  have z2 := C2.2.1
  have F2 := P1.same W2
  refine uAN 10 hx hby d157 rfl rfl rfl ?_
  refine uIN 11 hx hby d158 rfl rfl ?_
  have f3 := (P2.other W2 (Or.inr (slot_ne (Or.inr (ow hw 167 rfl)) (Or.inr (ow hw 203 rfl)) (by decide) (t := .boolean) (t' := (.array (.object c8_))) (by decide) (by decide))))
  have f4 := (P0.wr W2)
  refine gputF (host := "") hx (Or.inl (ow hw 295 rfl)) Via.refl f3 f4 (Or.inr ⟨(ow hw 167 rfl), rfl, hnm⟩) (ow hw 277 rfl) (ty := .boolean) (by decide) rfl rfl P3 (fun al => Safe.exa al f4 (by decide) (by decide)) 14 (hb hby d159) rfl ?_
  intro h5 W5 C5
  have z5 := C5.2.1
  have F5 := f3.same W5
  have f7 := (F2.other W5 (Or.inr (slot_ne (Or.inr (ow hw 203 rfl)) (Or.inr (ow hw 167 rfl)) (by decide) (t := (.array (.object c8_))) (t' := .boolean) (by decide) (by decide))))
  exact gretV hx hret (hb hby d160) (by decide) (by decide) (fun vq Cq => ⟨rfl, (((Keep.refl h0 [x]).wr W2 (Or.inl (List.mem_of_getElem? (i := 0) rfl))).wr W5 (Or.inl (List.mem_of_getElem? (i := 0) rfl))), f7⟩)
theorem d163 : decode jdk_29_method_69_code 0 = .ok (.iload_n 0, 1) := by decide +kernel
theorem d164 : decode jdk_29_method_69_code 1 = .ok (.iload_n 1, 1) := by decide +kernel
theorem d165 : decode jdk_29_method_69_code 2 = .ok (.if_icmp .gt 7, 3) := by decide +kernel
theorem d166 : decode jdk_29_method_69_code 9 = .ok (.iload_n 1, 1) := by decide +kernel
theorem d167 : decode jdk_29_method_69_code 10 = .ok (.ireturn, 1) := by decide +kernel
abbrev mn168 : MethodName := ⟨"java/lang/Math", "min", "(II)I"⟩
theorem own_pn169 : plainFor mn168 = true := by first | decide +kernel | (simp [plainFor, plainName, overriddenIn]; done)
theorem own_min10_1 (l : Launch) (Z : State) (a0 : Array Value) (cx : Ctx Z a0) (ws : List Jvm.Cond)  (vm0 : Vm) (h0 : Heap) (X00 : Ext Z.heap h0)  :
    Met l mn168 jdk_29_method_69_code 2 (some .int) ws ({ frames := 0, cells := 0, slots := 0, locals := 0 } : Room) Z consts_1 vm0 h0 #[(.int (10 : Int32)), (.int (1 : Int32))] (fun rv vm h => rv = some (.int (1 : Int32)) ∧ h0 = h) := by
  obtain ⟨hw, hEL, ⟨zc, Scs, hzc⟩, ⟨fm, Sfm, hfm⟩, hL0⟩ := id cx
  have hSA := own_SA hw
  refine Met.of_walk (a0 := a0) #[vi (10 : Int32), vi (1 : Int32)] own_pn169 X00 hEL (fun m => by first | (simp [entryFrame, mkF, argsToLocals, Value.category]; done) | rfl) ?_
  intro p e s m below meth c vm hx hby hml hret hnm hC0 hW0
  refine uIN 1 hx hby d163 rfl rfl ?_
  refine uIN 2 hx hby d164 rfl rfl ?_
  refine gs (mkF m 9 #[vi (10 : Int32), vi (1 : Int32)] []) (fun _ _ A kq => XS.icmpYes A hx rfl (pc0 := 2) (pc' := 9) rfl (hb hby d165) rfl (tlt (by decide)).2.2.1 (by decide) (by decide) kq) ?_
  refine uIN 10 hx hby d166 rfl rfl ?_
  exact gretI hx hret (hb hby d167) (by decide) (by decide) (fun vq Cq => ⟨rfl, rfl⟩)
theorem d170 : decode jdk_65_method_120_code 0 = .ok (.aload_n 2, 1) := by decide +kernel
theorem d171 : decode jdk_65_method_120_code 1 = .ok (.ldc 110, 2) := by decide +kernel
theorem d172 : decode jdk_65_method_120_code 3 = .ok (.if_acmp .ne 10, 3) := by decide +kernel
theorem d173 : decode jdk_65_method_120_code 6 = .ok (.iload_n 1, 1) := by decide +kernel
theorem d174 : decode jdk_65_method_120_code 7 = .ok (.anewarray 2, 3) := by decide +kernel
theorem d175 : decode jdk_65_method_120_code 10 = .ok (.goto 14, 3) := by decide +kernel
theorem d176 : decode jdk_65_method_120_code 24 = .ok (.astore_n 3, 1) := by decide +kernel
theorem d177 : decode jdk_65_method_120_code 25 = .ok (.aload_n 0, 1) := by decide +kernel
theorem d178 : decode jdk_65_method_120_code 26 = .ok (.iconst 0, 1) := by decide +kernel
theorem d179 : decode jdk_65_method_120_code 27 = .ok (.aload_n 3, 1) := by decide +kernel
theorem d180 : decode jdk_65_method_120_code 28 = .ok (.iconst 0, 1) := by decide +kernel
theorem d181 : decode jdk_65_method_120_code 29 = .ok (.aload_n 0, 1) := by decide +kernel
theorem d182 : decode jdk_65_method_120_code 30 = .ok (.arraylength, 1) := by decide +kernel
theorem d183 : decode jdk_65_method_120_code 31 = .ok (.iload_n 1, 1) := by decide +kernel
theorem d184 : decode jdk_65_method_120_code 32 = .ok (.invokestatic 304, 3) := by decide +kernel
theorem d185 : decode jdk_65_method_120_code 35 = .ok (.invokestatic 150, 3) := by decide +kernel
theorem d186 : decode jdk_65_method_120_code 38 = .ok (.aload_n 3, 1) := by decide +kernel
theorem d187 : decode jdk_65_method_120_code 39 = .ok (.areturn, 1) := by decide +kernel
abbrev mn188 : MethodName := ⟨"java/util/Arrays", "copyOf", "([Ljava/lang/Object;ILjava/lang/Class;)[Ljava/lang/Object;"⟩
theorem own_pn189 : plainName "java/util/Arrays" = true := by first | (simp [plainName, overriddenIn]; done) | decide +kernel
theorem own_cp3_1 (l : Launch) (Z : State) (a0 : Array Value) (cx : Ctx Z a0) (ws : List Jvm.Cond) (d : Addr) (kc : ClassId) (s0_ : Addr) (dz : Addr) (el : Addr) (ee : Addr) (em : Addr) (mr : Addr) (kd : ClassId) (ke : ClassId) (vm0 : Vm) (h0 : Heap) (X00 : Ext Z.heap h0) (P0 : Arv Z h0 d kc (.object c8_) (10 : Int32) [(.ref s0_), .null, .null, .null, .null, .null, .null, .null, .null, .null] .null) (P1 : Exa Z h0 s0_ c9_) (hL : (OwnL Z dz el ee em mr kd ke)) :
    Met l mn188 jdk_65_method_120_code 4 (some (.array (.object c8_))) ws ({ frames := 1, cells := 1, slots := 1, locals := 18 } : Room) Z consts_1 vm0 h0 #[(.ref d), (.int (1 : Int32)), (.ref mr)] (fun rv vm h => ∃ (r : Addr), ∃ (kr : ClassId), rv = some (.ref r) ∧ Keep h0 h [] ∧ h0.size ≤ r ∧ Arv Z h r kr (.object c8_) (1 : Int32) [(.ref s0_)] .null) := by
  obtain ⟨hw, hEL, ⟨zc, Scs, hzc⟩, ⟨fm, Sfm, hfm⟩, hL0⟩ := id cx
  have hSA := own_SA hw
  refine Met.of_walk (a0 := a0) #[vr d, vi (1 : Int32), vr mr, un] (plainFor_of_name own_pn189) X00 hEL (fun m => by first | (simp [entryFrame, mkF, argsToLocals, Value.category]; done) | rfl) ?_
  intro p e s m below meth c vm hx hby hml hret hnm hC0 hW0
  have lt_d : h0.size > d := P0.lt
  have lt_s0_ : h0.size > s0_ := P1.lt
  obtain ⟨Sdz, Edz, Vdz, Sel, Eel, Fee, Vee, Fan, Sem, Eem, Mmr, Sas⟩ := id hL
  refine uAN 1 hx hby d170 rfl rfl rfl ?_
  refine gldcM hx (ow hw 257 rfl) Mmr 3 (hb hby d171) rfl ?_
  refine gx (mkF m 6 #[vr d, vi (1 : Int32), vr mr, un] []) (fun T locs X _ _ _ _ kq => Jvm.RoadKit.acmp (g := (mkF m 3 #[vr d, vi (1 : Int32), vr mr, un] [(.ref mr), (.ref mr)])) X hx rfl rfl rfl (pc0 := 3) (pc' := 6) (same := true) rfl (hb hby d172) rfl (decide_eq_true rfl) (by decide) (by decide) kq) ?_
  refine uIN 7 hx hby d173 rfl rfl ?_
  refine gnewR hx (ow hw 258 rfl) (ow hw 234 rfl) (n := (1 : Int32)) (by decide) (cap := 1) (by decide) (by decide) (ad := c3_) (by decide) 10 (hb hby d174) rfl (by decide) (by decide) ?_
  intro b2 h2 k2 g2 E2 C2 V2 A2 O2 n2 L2
  have z2 := C2.2.1
  have V2 : Arv Z h2 b2 k2 (.object c8_) (1 : Int32) [.null] .null := V2.pad (pad_rep [] .null 1)
  have lt_b2 : h2.size > b2 := V2.lt
  refine uG 24 hx hby d175 (by decide) (by decide) ?_
  refine gs (mkF m 25 #[vr d, vi (1 : Int32), vr mr, vr b2] []) (fun _ _ A kq => XS.astoreN A hx rfl (hb hby d176) rfl rfl (l' := #[vr d, vi (1 : Int32), vr mr, vr b2]) rfl kq) ?_
  refine uAN 26 hx hby d177 rfl rfl rfl ?_
  refine gs (mkF m 27 #[vr d, vi (1 : Int32), vr mr, vr b2] [(.int (0 : Int32)), (.ref d)]) (fun _ _ A kq => XS.iconst A hx rfl (hb hby d178) kq) ?_
  refine uAN 28 hx hby d179 rfl rfl rfl ?_
  refine gs (mkF m 29 #[vr d, vi (1 : Int32), vr mr, vr b2] [(.int (0 : Int32)), (.ref b2), (.int (0 : Int32)), (.ref d)]) (fun _ _ A kq => XS.iconst A hx rfl (hb hby d180) kq) ?_
  refine uAN 30 hx hby d181 rfl rfl rfl ?_
  have f3 := (P0.ext E2)
  refine glen hx f3 31 (hb hby d182) rfl ?_
  refine uIN 32 hx hby d183 rfl rfl ?_
  refine ginfo fun _ _ O4 => ?_
  refine gcallS (y := mn168) hx (ow hw 259 rfl) (ow hw 260 rfl) (ow hw 231 rfl) (ow hw 261 rfl) (by decide) (fun hZ H hEL => Pay.of_met (W := 4) (own_min10_1 l Z a0 cx []  vm h2 O4 ) (ow hw 261 rfl) (ow hw 231 rfl) (by decide) (by decide) hZ H hEL) 35 (argsL := [(.int (10 : Int32)), (.int (1 : Int32))]) (rest := [(.int (0 : Int32)), (.ref b2), (.int (0 : Int32)), (.ref d)]) (lenOf own_pd44 rfl) rfl rfl (Nat.le_of_eq rfl) (by rw [hml]; rfl) (hb hby d184) rfl (by decide) (by decide) ?_
  rintro _ vm4 h4 C4 ⟨rfl, rfl⟩
  have z4 := C4.2.1
  refine gat (mkF m 35 #[vr d, vi (1 : Int32), vr mr, vr b2] [(.int (1 : Int32)), (.int (0 : Int32)), (.ref b2), (.int (0 : Int32)), (.ref d)]) rfl ?_
  have f6 := (P1.ext E2)
  have f7 := (C4.safe (show h2.size > b2 by omega) L2)
  refine gcopyR hx (ow hw 262 rfl) (ow hw 265 rfl) (ow hw 263 rfl) (ow hw 264 rfl) (0) (0) (1) (10) (1) f3 V2 rfl rfl rfl rfl rfl (by decide) (by decide) (by decide) (by decide) rfl rfl (show StoL _ _ _ [(.ref s0_)] from ⟨Arv.sto V2 O2 (Ins.of_exa f6 (ow hw 235 rfl)), trivial⟩) n2 (fun _ => f7) 38 (W := 0) (Nat.le_of_eq rfl) (by rw [hml]; rfl) (hb hby d185) rfl (by decide) (by decide) ?_
  intro h5 K5 C5 V5
  have z5 := C5.2.1
  replace V5 : Arv Z h5 b2 k2 (.object c8_) (1 : Int32) [(.ref s0_)] .null := V5
  refine uAN 39 hx hby d186 rfl rfl rfl ?_
  exact gretA hx hret rfl rfl (hb hby d187) (by decide) (by decide) (fun vq Cq => ⟨b2, k2, rfl, (((Keep.refl h0 []).ext E2).trans K5 (allS (Or.inr (by omega)) all0)), (by omega), V5⟩)
theorem d190 : decode jdk_65_method_119_code 0 = .ok (.aload_n 0, 1) := by decide +kernel
theorem d191 : decode jdk_65_method_119_code 1 = .ok (.iload_n 1, 1) := by decide +kernel
theorem d192 : decode jdk_65_method_119_code 2 = .ok (.aload_n 0, 1) := by decide +kernel
theorem d193 : decode jdk_65_method_119_code 3 = .ok (.invokevirtual 86, 3) := by decide +kernel
theorem d194 : decode jdk_65_method_119_code 6 = .ok (.invokestatic 300, 3) := by decide +kernel
theorem own_pd195 : parseMethodDescriptor "([Ljava/lang/Object;ILjava/lang/Class;)[Ljava/lang/Object;" = some ⟨[(.array (.object "java/lang/Object")), .int, (.object "java/lang/Class")], some (.array (.object "java/lang/Object"))⟩ := by decide +kernel
theorem d196 : decode jdk_65_method_119_code 9 = .ok (.areturn, 1) := by decide +kernel
abbrev mn197 : MethodName := ⟨"java/util/Arrays", "copyOf", "([Ljava/lang/Object;I)[Ljava/lang/Object;"⟩
theorem own_cp2_1 (l : Launch) (Z : State) (a0 : Array Value) (cx : Ctx Z a0) (ws : List Jvm.Cond) (d : Addr) (kc : ClassId) (s0_ : Addr) (dz : Addr) (el : Addr) (ee : Addr) (em : Addr) (mr : Addr) (kd : ClassId) (ke : ClassId) (vm0 : Vm) (h0 : Heap) (X00 : Ext Z.heap h0) (P0 : Arv Z h0 d kc (.object c8_) (10 : Int32) [(.ref s0_), .null, .null, .null, .null, .null, .null, .null, .null, .null] .null) (P1 : Exa Z h0 d c3_) (P2 : Exa Z h0 s0_ c9_) (hL : (OwnL Z dz el ee em mr kd ke)) :
    Met l mn197 jdk_65_method_119_code 2 (some (.array (.object c8_))) ws ({ frames := 2, cells := 1, slots := 1, locals := 33 } : Room) Z consts_1 vm0 h0 #[(.ref d), (.int (1 : Int32))] (fun rv vm h => ∃ (r : Addr), ∃ (kr : ClassId), rv = some (.ref r) ∧ Keep h0 h [] ∧ h0.size ≤ r ∧ Arv Z h r kr (.object c8_) (1 : Int32) [(.ref s0_)] .null) := by
  obtain ⟨hw, hEL, ⟨zc, Scs, hzc⟩, ⟨fm, Sfm, hfm⟩, hL0⟩ := id cx
  have hSA := own_SA hw
  refine Met.of_walk (a0 := a0) #[vr d, vi (1 : Int32)] (plainFor_of_name own_pn189) X00 hEL (fun m => by first | (simp [entryFrame, mkF, argsToLocals, Value.category]; done) | rfl) ?_
  intro p e s m below meth c vm hx hby hml hret hnm hC0 hW0
  have lt_d : h0.size > d := P0.lt
  have lt_s0_ : h0.size > s0_ := P2.lt
  obtain ⟨Sdz, Edz, Vdz, Sel, Eel, Fee, Vee, Fan, Sem, Eem, Mmr, Sas⟩ := id hL
  refine uAN 1 hx hby d190 rfl rfl rfl ?_
  refine uIN 2 hx hby d191 rfl rfl ?_
  refine uAN 3 hx hby d192 rfl rfl rfl ?_
  refine ggcls hx (ow hw 248 rfl) (ow hw 249 rfl) (ow hw 123 rfl) (ow hw 251 rfl) (ow hw 250 rfl) (ow hw 252 rfl) P1 Mmr 6 (W := 2) (Nat.le_of_eq rfl) (by rw [hml]; rfl) (hb hby d193) rfl (by decide) (by decide) ?_
  refine ginfo fun _ _ O2 => ?_
  refine gcallS (y := mn188) hx (ow hw 254 rfl) (ow hw 255 rfl) (ow hw 246 rfl) (ow hw 256 rfl) (by decide) (fun hZ H hEL => Pay.of_met (W := 0) (own_cp3_1 l Z a0 cx [] (d) (kc) (s0_) (dz) (el) (ee) (em) (mr) (kd) (ke) vm h0 O2 P0 P2 (by first | assumption | decide | omega)) (ow hw 256 rfl) (ow hw 246 rfl) (by decide) (by decide) hZ H hEL) 9 (argsL := [(.ref d), (.int (1 : Int32)), (.ref mr)]) (rest := []) (lenOf own_pd195 rfl) rfl rfl (Nat.le_of_eq rfl) (by rw [hml]; rfl) (hb hby d194) rfl (by decide) (by decide) ?_
  rintro _ vm2 h2 C2 ⟨r2, kr2, rfl, K2, q2_0, q2_1⟩
  have z2 := C2.2.1
  have lt_r2 : h2.size > r2 := q2_1.lt
  refine gat (mkF m 9 #[vr d, vi (1 : Int32)] [(.ref r2)]) rfl ?_
  exact gretA hx hret rfl rfl (hb hby d196) (by decide) (by decide) (fun vq Cq => ⟨r2, kr2, rfl, ((Keep.refl h0 []).trans K2 all0), (by omega), q2_1⟩)
theorem d198 : decode jdk_38_method_16_code 0 = .ok (.aload_n 0, 1) := by decide +kernel
theorem d199 : decode jdk_38_method_16_code 1 = .ok (.getfield 9, 3) := by decide +kernel
theorem d200 : decode jdk_38_method_16_code 4 = .ok (.aload_n 0, 1) := by decide +kernel
theorem d201 : decode jdk_38_method_16_code 5 = .ok (.getfield 48, 3) := by decide +kernel
theorem d202 : decode jdk_38_method_16_code 8 = .ok (.invokestatic 66, 3) := by decide +kernel
theorem own_pd203 : parseMethodDescriptor "([Ljava/lang/Object;I)[Ljava/lang/Object;" = some ⟨[(.array (.object "java/lang/Object")), .int], some (.array (.object "java/lang/Object"))⟩ := by decide +kernel
theorem d204 : decode jdk_38_method_16_code 11 = .ok (.areturn, 1) := by decide +kernel
abbrev mn205 : MethodName := ⟨"java/util/ArrayList", "toArray", "()[Ljava/lang/Object;"⟩
theorem own_toarr1 (l : Launch) (Z : State) (a0 : Array Value) (cx : Ctx Z a0) (ws : List Jvm.Cond) (x : Addr) (d : Addr) (kc : ClassId) (s0_ : Addr) (dz : Addr) (el : Addr) (ee : Addr) (em : Addr) (mr : Addr) (kd : ClassId) (ke : ClassId) (vm0 : Vm) (h0 : Heap) (X00 : Ext Z.heap h0) (P0 : Exa Z h0 x c11_) (P1 : Fld Z h0 x c11_ c7_ c3_ (.ref d)) (P2 : Fld Z h0 x c11_ "size" "I" (.int (1 : Int32))) (P3 : Arv Z h0 d kc (.object c8_) (10 : Int32) [(.ref s0_), .null, .null, .null, .null, .null, .null, .null, .null, .null] .null) (P4 : Exa Z h0 d c3_) (hov : (Ovr Z kc c8_)) (P6 : Exa Z h0 s0_ c9_) (hL : (OwnL Z dz el ee em mr kd ke)) :
    Met l mn205 jdk_38_method_16_code 1 (some (.array (.object c8_))) ws ({ frames := 3, cells := 1, slots := 1, locals := 46 } : Room) Z consts_1 vm0 h0 #[(.ref x)] (fun rv vm h => ∃ (r : Addr), ∃ (kr : ClassId), rv = some (.ref r) ∧ Keep h0 h [] ∧ h0.size ≤ r ∧ Arv Z h r kr (.object c8_) (1 : Int32) [(.ref s0_)] .null) := by
  obtain ⟨hw, hEL, ⟨zc, Scs, hzc⟩, ⟨fm, Sfm, hfm⟩, hL0⟩ := id cx
  have hSA := own_SA hw
  refine Met.of_walk (a0 := a0) #[vr x] (plainFor_of_name own_pn21) X00 hEL (fun m => by first | (simp [entryFrame, mkF, argsToLocals, Value.category]; done) | rfl) ?_
  intro p e s m below meth c vm hx hby hml hret hnm hC0 hW0
  have lt_x : h0.size > x := P0.lt
  have lt_d : h0.size > d := P3.lt
  have lt_s0_ : h0.size > s0_ := P6.lt
  obtain ⟨Sdz, Edz, Vdz, Sel, Eel, Fee, Vee, Fan, Sem, Eem, Mmr, Sas⟩ := id hL
  refine uAN 1 hx hby d198 rfl rfl rfl ?_
  refine ggetF (host := "") hx (Or.inl (ow hw 56 rfl)) Via.refl P1 4 (hb hby d199) rfl ?_
  refine uAN 5 hx hby d200 rfl rfl rfl ?_
  refine ggetF (host := "") hx (Or.inl (ow hw 71 rfl)) Via.refl P2 8 (hb hby d201) rfl ?_
  refine ginfo fun _ _ O1 => ?_
  refine gcallS (y := mn197) hx (ow hw 244 rfl) (ow hw 245 rfl) (ow hw 246 rfl) (ow hw 247 rfl) (by decide) (fun hZ H hEL => Pay.of_met (W := 0) (own_cp2_1 l Z a0 cx [] (d) (kc) (s0_) (dz) (el) (ee) (em) (mr) (kd) (ke) vm h0 O1 P3 P4 P6 (by first | assumption | decide | omega)) (ow hw 247 rfl) (ow hw 246 rfl) (by decide) (by decide) hZ H hEL) 11 (argsL := [(.ref d), (.int (1 : Int32))]) (rest := []) (lenOf own_pd203 rfl) rfl rfl (Nat.le_of_eq rfl) (by rw [hml]; rfl) (hb hby d202) rfl (by decide) (by decide) ?_
  rintro _ vm1 h1 C1 ⟨r1, kr1, rfl, K1, q1_0, q1_1⟩
  have z1 := C1.2.1
  have lt_r1 : h1.size > r1 := q1_1.lt
  refine gat (mkF m 11 #[vr x] [(.ref r1)]) rfl ?_
  exact gretA hx hret rfl rfl (hb hby d204) (by decide) (by decide) (fun vq Cq => ⟨r1, kr1, rfl, ((Keep.refl h0 []).trans K1 all0), (by omega), q1_1⟩)
theorem d206 : decode jdk_40_method_47_code 0 = .ok (.aload_n 0, 1) := by decide +kernel
theorem d207 : decode jdk_40_method_47_code 1 = .ok (.arraylength, 1) := by decide +kernel
theorem d208 : decode jdk_40_method_47_code 2 = .ok (.tableswitch 57 0 2 #[26, 32, 43], 26) := by decide +kernel
theorem d209 : decode jdk_40_method_47_code 34 = .ok (.new 96, 3) := by decide +kernel
theorem d210 : decode jdk_40_method_47_code 37 = .ok (.dup, 1) := by decide +kernel
theorem d211 : decode jdk_40_method_47_code 38 = .ok (.aload_n 0, 1) := by decide +kernel
theorem d212 : decode jdk_40_method_47_code 39 = .ok (.iconst 0, 1) := by decide +kernel
theorem d213 : decode jdk_40_method_47_code 40 = .ok (.aaload, 1) := by decide +kernel
theorem d214 : decode jdk_40_method_47_code 41 = .ok (.invokespecial 98, 3) := by decide +kernel
theorem own_pd215 : parseMethodDescriptor "(Ljava/lang/Object;)V" = some ⟨[(.object "java/lang/Object")], none⟩ := by decide +kernel
theorem d216 : decode jdk_40_method_47_code 44 = .ok (.areturn, 1) := by decide +kernel
abbrev mn217 : MethodName := ⟨"java/util/List", "of", "([Ljava/lang/Object;)Ljava/util/List;"⟩
theorem own_of1 (l : Launch) (Z : State) (a0 : Array Value) (cx : Ctx Z a0) (ws : List Jvm.Cond) (a : Addr) (ka : ClassId) (s0_ : Addr) (dz : Addr) (el : Addr) (ee : Addr) (em : Addr) (mr : Addr) (kd : ClassId) (ke : ClassId) (vm0 : Vm) (h0 : Heap) (X00 : Ext Z.heap h0) (P0 : Arv Z h0 a ka (.object c8_) (1 : Int32) [(.ref s0_)] .null) (P1 : Exa Z h0 s0_ c9_) (hL : (OwnL Z dz el ee em mr kd ke)) :
    Met l mn217 jdk_40_method_47_code 2 (some (.object c16_)) ws ({ frames := 5, cells := 1, slots := 2, locals := 62 } : Room) Z consts_1 vm0 h0 #[(.ref a)] (fun rv vm h => ∃ (r : Addr), rv = some (.ref r) ∧ Keep h0 h [] ∧ h0.size ≤ r ∧ Exa Z h r c14_ ∧ Fld Z h r c14_ "e0" c0_ (.ref s0_) ∧ Fld Z h r c14_ "e1" c0_ (.ref em)) := by
  obtain ⟨hw, hEL, ⟨zc, Scs, hzc⟩, ⟨fm, Sfm, hfm⟩, hL0⟩ := id cx
  have hSA := own_SA hw
  refine Met.of_walk (a0 := a0) #[vr a, un] (plainFor_of_name own_pn110) X00 hEL (fun m => by first | (simp [entryFrame, mkF, argsToLocals, Value.category]; done) | rfl) ?_
  intro p e s m below meth c vm hx hby hml hret hnm hC0 hW0
  have lt_a : h0.size > a := P0.lt
  have lt_s0_ : h0.size > s0_ := P1.lt
  obtain ⟨Sdz, Edz, Vdz, Sel, Eel, Fee, Vee, Fan, Sem, Eem, Mmr, Sas⟩ := id hL
  refine uAN 1 hx hby d206 rfl rfl rfl ?_
  refine glen hx P0 2 (hb hby d207) rfl ?_
  refine gx (mkF m 34 #[vr a, un] []) (fun T locs X _ _ _ target kq => X.tableswitchIn hx (g := (mkF m 2 #[vr a, un] [(.int (1 : Int32))])) rfl rfl (hb hby d208) (by decide) (off := 32) rfl (show (0 : Int) ≤ ((2 : Nat) : Int) + 32 by decide) target kq) ?_
  refine gnewO hx (ow hw 316 rfl) (ow hw 317 rfl) (ow hw 318 rfl) 37 (hb hby d209) rfl (by decide) (by decide) ?_
  intro b1 h1 g1 E1 C1 A1 D1 n1 L1
  have z1 := C1.2.1
  have lt_b1 : h1.size > b1 := A1.lt
  have F1_e0 : Fld Z h1 b1 c14_ "e0" c0_ .null := D1 (Or.inr (ow hw 329 rfl)) (ty := (.object c8_)) (by decide)
  have F1_e1 : Fld Z h1 b1 c14_ "e1" c0_ .null := D1 (Or.inr (ow hw 331 rfl)) (ty := (.object c8_)) (by decide)
  refine uD 38 hx hby d210 rfl rfl ?_
  refine uAN 39 hx hby d211 rfl rfl rfl ?_
  refine gs (mkF m 40 #[vr a, un] [(.int (0 : Int32)), (.ref a), (.ref b1), (.ref b1)]) (fun _ _ A kq => XS.iconst A hx rfl (hb hby d212) kq) ?_
  have f2 := (P0.ext E1)
  refine gldR hx f2 ⟨by decide, by decide⟩ (i := 0) rfl (v := (.ref s0_)) rfl 41 (hb hby d213) rfl ?_
  refine ginfo fun _ _ O3 => ?_
  refine gcallI (y := mn138) hx rfl (ow hw 344 rfl) (ow hw 345 rfl) (ow hw 346 rfl) (by decide) (fun hZ H hEL => Pay.of_met (W := 1) (own_l12a l Z a0 cx [] (b1) (s0_) (.null) (.null) (dz) (el) (ee) (em) (mr) (kd) (ke) vm h1 O3 A1 F1_e0 F1_e1 n1 (by first | assumption | decide | omega)) (ow hw 346 rfl) (ow hw 318 rfl) (by decide) (by decide) hZ H hEL) (a := b1) 44 (argsL := [(.ref s0_)]) (rest := [(.ref b1)]) (lenOf own_pd215 rfl) rfl rfl (Nat.le_of_eq rfl) (by rw [hml]; rfl) (hb hby d214) rfl (by decide) (by decide) ?_
  rintro _ vm3 h3 C3 ⟨rfl, K3, q3_0, q3_1⟩
  have z3 := C3.2.1
  refine gat (mkF m 44 #[vr a, un] [(.ref b1)]) rfl ?_
  have f5 := (A1.keep K3)
  exact gretA hx hret rfl rfl (hb hby d216) (by decide) (by decide) (fun vq Cq => ⟨b1, rfl, (((Keep.refl h0 []).ext E1).trans K3 (allS (Or.inr (by omega)) all0)), (by omega), f5, q3_0, q3_1⟩)
theorem own_min10_2 (l : Launch) (Z : State) (a0 : Array Value) (cx : Ctx Z a0) (ws : List Jvm.Cond)  (vm0 : Vm) (h0 : Heap) (X00 : Ext Z.heap h0)  :
    Met l mn168 jdk_29_method_69_code 2 (some .int) ws ({ frames := 0, cells := 0, slots := 0, locals := 0 } : Room) Z consts_1 vm0 h0 #[(.int (10 : Int32)), (.int (2 : Int32))] (fun rv vm h => rv = some (.int (2 : Int32)) ∧ h0 = h) := by
  obtain ⟨hw, hEL, ⟨zc, Scs, hzc⟩, ⟨fm, Sfm, hfm⟩, hL0⟩ := id cx
  have hSA := own_SA hw
  refine Met.of_walk (a0 := a0) #[vi (10 : Int32), vi (2 : Int32)] own_pn169 X00 hEL (fun m => by first | (simp [entryFrame, mkF, argsToLocals, Value.category]; done) | rfl) ?_
  intro p e s m below meth c vm hx hby hml hret hnm hC0 hW0
  refine uIN 1 hx hby d163 rfl rfl ?_
  refine uIN 2 hx hby d164 rfl rfl ?_
  refine gs (mkF m 9 #[vi (10 : Int32), vi (2 : Int32)] []) (fun _ _ A kq => XS.icmpYes A hx rfl (pc0 := 2) (pc' := 9) rfl (hb hby d165) rfl (tlt (by decide)).2.2.1 (by decide) (by decide) kq) ?_
  refine uIN 10 hx hby d166 rfl rfl ?_
  exact gretI hx hret (hb hby d167) (by decide) (by decide) (fun vq Cq => ⟨rfl, rfl⟩)
theorem own_cp3_2 (l : Launch) (Z : State) (a0 : Array Value) (cx : Ctx Z a0) (ws : List Jvm.Cond) (d : Addr) (kc : ClassId) (s0_ : Addr) (s1_ : Addr) (dz : Addr) (el : Addr) (ee : Addr) (em : Addr) (mr : Addr) (kd : ClassId) (ke : ClassId) (vm0 : Vm) (h0 : Heap) (X00 : Ext Z.heap h0) (P0 : Arv Z h0 d kc (.object c8_) (10 : Int32) [(.ref s0_), (.ref s1_), .null, .null, .null, .null, .null, .null, .null, .null] .null) (P1 : Exa Z h0 s0_ c9_) (P2 : Exa Z h0 s1_ c9_) (hL : (OwnL Z dz el ee em mr kd ke)) :
    Met l mn188 jdk_65_method_120_code 4 (some (.array (.object c8_))) ws ({ frames := 1, cells := 1, slots := 2, locals := 18 } : Room) Z consts_1 vm0 h0 #[(.ref d), (.int (2 : Int32)), (.ref mr)] (fun rv vm h => ∃ (r : Addr), ∃ (kr : ClassId), rv = some (.ref r) ∧ Keep h0 h [] ∧ h0.size ≤ r ∧ Arv Z h r kr (.object c8_) (2 : Int32) [(.ref s0_), (.ref s1_)] .null) := by
  obtain ⟨hw, hEL, ⟨zc, Scs, hzc⟩, ⟨fm, Sfm, hfm⟩, hL0⟩ := id cx
  have hSA := own_SA hw
  refine Met.of_walk (a0 := a0) #[vr d, vi (2 : Int32), vr mr, un] (plainFor_of_name own_pn189) X00 hEL (fun m => by first | (simp [entryFrame, mkF, argsToLocals, Value.category]; done) | rfl) ?_
  intro p e s m below meth c vm hx hby hml hret hnm hC0 hW0
  have lt_d : h0.size > d := P0.lt
  have lt_s0_ : h0.size > s0_ := P1.lt
  have lt_s1_ : h0.size > s1_ := P2.lt
  obtain ⟨Sdz, Edz, Vdz, Sel, Eel, Fee, Vee, Fan, Sem, Eem, Mmr, Sas⟩ := id hL
  refine uAN 1 hx hby d170 rfl rfl rfl ?_
  refine gldcM hx (ow hw 257 rfl) Mmr 3 (hb hby d171) rfl ?_
  refine gx (mkF m 6 #[vr d, vi (2 : Int32), vr mr, un] []) (fun T locs X _ _ _ _ kq => Jvm.RoadKit.acmp (g := (mkF m 3 #[vr d, vi (2 : Int32), vr mr, un] [(.ref mr), (.ref mr)])) X hx rfl rfl rfl (pc0 := 3) (pc' := 6) (same := true) rfl (hb hby d172) rfl (decide_eq_true rfl) (by decide) (by decide) kq) ?_
  refine uIN 7 hx hby d173 rfl rfl ?_
  refine gnewR hx (ow hw 258 rfl) (ow hw 234 rfl) (n := (2 : Int32)) (by decide) (cap := 2) (by decide) (by decide) (ad := c3_) (by decide) 10 (hb hby d174) rfl (by decide) (by decide) ?_
  intro b2 h2 k2 g2 E2 C2 V2 A2 O2 n2 L2
  have z2 := C2.2.1
  have V2 : Arv Z h2 b2 k2 (.object c8_) (2 : Int32) [.null, .null] .null := V2.pad (pad_rep [] .null 2)
  have lt_b2 : h2.size > b2 := V2.lt
  refine uG 24 hx hby d175 (by decide) (by decide) ?_
  refine gs (mkF m 25 #[vr d, vi (2 : Int32), vr mr, vr b2] []) (fun _ _ A kq => XS.astoreN A hx rfl (hb hby d176) rfl rfl (l' := #[vr d, vi (2 : Int32), vr mr, vr b2]) rfl kq) ?_
  refine uAN 26 hx hby d177 rfl rfl rfl ?_
  refine gs (mkF m 27 #[vr d, vi (2 : Int32), vr mr, vr b2] [(.int (0 : Int32)), (.ref d)]) (fun _ _ A kq => XS.iconst A hx rfl (hb hby d178) kq) ?_
  refine uAN 28 hx hby d179 rfl rfl rfl ?_
  refine gs (mkF m 29 #[vr d, vi (2 : Int32), vr mr, vr b2] [(.int (0 : Int32)), (.ref b2), (.int (0 : Int32)), (.ref d)]) (fun _ _ A kq => XS.iconst A hx rfl (hb hby d180) kq) ?_
  refine uAN 30 hx hby d181 rfl rfl rfl ?_
  have f3 := (P0.ext E2)
  refine glen hx f3 31 (hb hby d182) rfl ?_
  refine uIN 32 hx hby d183 rfl rfl ?_
  refine ginfo fun _ _ O4 => ?_
  refine gcallS (y := mn168) hx (ow hw 259 rfl) (ow hw 260 rfl) (ow hw 231 rfl) (ow hw 261 rfl) (by decide) (fun hZ H hEL => Pay.of_met (W := 4) (own_min10_2 l Z a0 cx []  vm h2 O4 ) (ow hw 261 rfl) (ow hw 231 rfl) (by decide) (by decide) hZ H hEL) 35 (argsL := [(.int (10 : Int32)), (.int (2 : Int32))]) (rest := [(.int (0 : Int32)), (.ref b2), (.int (0 : Int32)), (.ref d)]) (lenOf own_pd44 rfl) rfl rfl (Nat.le_of_eq rfl) (by rw [hml]; rfl) (hb hby d184) rfl (by decide) (by decide) ?_
  rintro _ vm4 h4 C4 ⟨rfl, rfl⟩
  have z4 := C4.2.1
  refine gat (mkF m 35 #[vr d, vi (2 : Int32), vr mr, vr b2] [(.int (2 : Int32)), (.int (0 : Int32)), (.ref b2), (.int (0 : Int32)), (.ref d)]) rfl ?_
  have f6 := (P1.ext E2)
  have f7 := (P2.ext E2)
  have f8 := (C4.safe (show h2.size > b2 by omega) L2)
  refine gcopyR hx (ow hw 262 rfl) (ow hw 265 rfl) (ow hw 263 rfl) (ow hw 264 rfl) (0) (0) (2) (10) (2) f3 V2 rfl rfl rfl rfl rfl (by decide) (by decide) (by decide) (by decide) rfl rfl (show StoL _ _ _ [(.ref s0_), (.ref s1_)] from ⟨Arv.sto V2 O2 (Ins.of_exa f6 (ow hw 235 rfl)), Arv.sto V2 O2 (Ins.of_exa f7 (ow hw 235 rfl)), trivial⟩) n2 (fun _ => f8) 38 (W := 0) (Nat.le_of_eq rfl) (by rw [hml]; rfl) (hb hby d185) rfl (by decide) (by decide) ?_
  intro h5 K5 C5 V5
  have z5 := C5.2.1
  replace V5 : Arv Z h5 b2 k2 (.object c8_) (2 : Int32) [(.ref s0_), (.ref s1_)] .null := V5
  refine uAN 39 hx hby d186 rfl rfl rfl ?_
  exact gretA hx hret rfl rfl (hb hby d187) (by decide) (by decide) (fun vq Cq => ⟨b2, k2, rfl, (((Keep.refl h0 []).ext E2).trans K5 (allS (Or.inr (by omega)) all0)), (by omega), V5⟩)
theorem own_cp2_2 (l : Launch) (Z : State) (a0 : Array Value) (cx : Ctx Z a0) (ws : List Jvm.Cond) (d : Addr) (kc : ClassId) (s0_ : Addr) (s1_ : Addr) (dz : Addr) (el : Addr) (ee : Addr) (em : Addr) (mr : Addr) (kd : ClassId) (ke : ClassId) (vm0 : Vm) (h0 : Heap) (X00 : Ext Z.heap h0) (P0 : Arv Z h0 d kc (.object c8_) (10 : Int32) [(.ref s0_), (.ref s1_), .null, .null, .null, .null, .null, .null, .null, .null] .null) (P1 : Exa Z h0 d c3_) (P2 : Exa Z h0 s0_ c9_) (P3 : Exa Z h0 s1_ c9_) (hL : (OwnL Z dz el ee em mr kd ke)) :
    Met l mn197 jdk_65_method_119_code 2 (some (.array (.object c8_))) ws ({ frames := 2, cells := 1, slots := 2, locals := 33 } : Room) Z consts_1 vm0 h0 #[(.ref d), (.int (2 : Int32))] (fun rv vm h => ∃ (r : Addr), ∃ (kr : ClassId), rv = some (.ref r) ∧ Keep h0 h [] ∧ h0.size ≤ r ∧ Arv Z h r kr (.object c8_) (2 : Int32) [(.ref s0_), (.ref s1_)] .null) := by
  obtain ⟨hw, hEL, ⟨zc, Scs, hzc⟩, ⟨fm, Sfm, hfm⟩, hL0⟩ := id cx
  have hSA := own_SA hw
  refine Met.of_walk (a0 := a0) #[vr d, vi (2 : Int32)] (plainFor_of_name own_pn189) X00 hEL (fun m => by first | (simp [entryFrame, mkF, argsToLocals, Value.category]; done) | rfl) ?_
  intro p e s m below meth c vm hx hby hml hret hnm hC0 hW0
  have lt_d : h0.size > d := P0.lt
  have lt_s0_ : h0.size > s0_ := P2.lt
  have lt_s1_ : h0.size > s1_ := P3.lt
  obtain ⟨Sdz, Edz, Vdz, Sel, Eel, Fee, Vee, Fan, Sem, Eem, Mmr, Sas⟩ := id hL
  refine uAN 1 hx hby d190 rfl rfl rfl ?_
  refine uIN 2 hx hby d191 rfl rfl ?_
  refine uAN 3 hx hby d192 rfl rfl rfl ?_
  refine ggcls hx (ow hw 248 rfl) (ow hw 249 rfl) (ow hw 123 rfl) (ow hw 251 rfl) (ow hw 250 rfl) (ow hw 252 rfl) P1 Mmr 6 (W := 2) (Nat.le_of_eq rfl) (by rw [hml]; rfl) (hb hby d193) rfl (by decide) (by decide) ?_
  refine ginfo fun _ _ O2 => ?_
  refine gcallS (y := mn188) hx (ow hw 254 rfl) (ow hw 255 rfl) (ow hw 246 rfl) (ow hw 256 rfl) (by decide) (fun hZ H hEL => Pay.of_met (W := 0) (own_cp3_2 l Z a0 cx [] (d) (kc) (s0_) (s1_) (dz) (el) (ee) (em) (mr) (kd) (ke) vm h0 O2 P0 P2 P3 (by first | assumption | decide | omega)) (ow hw 256 rfl) (ow hw 246 rfl) (by decide) (by decide) hZ H hEL) 9 (argsL := [(.ref d), (.int (2 : Int32)), (.ref mr)]) (rest := []) (lenOf own_pd195 rfl) rfl rfl (Nat.le_of_eq rfl) (by rw [hml]; rfl) (hb hby d194) rfl (by decide) (by decide) ?_
  rintro _ vm2 h2 C2 ⟨r2, kr2, rfl, K2, q2_0, q2_1⟩
  have z2 := C2.2.1
  have lt_r2 : h2.size > r2 := q2_1.lt
  refine gat (mkF m 9 #[vr d, vi (2 : Int32)] [(.ref r2)]) rfl ?_
  exact gretA hx hret rfl rfl (hb hby d196) (by decide) (by decide) (fun vq Cq => ⟨r2, kr2, rfl, ((Keep.refl h0 []).trans K2 all0), (by omega), q2_1⟩)
theorem own_toarr2 (l : Launch) (Z : State) (a0 : Array Value) (cx : Ctx Z a0) (ws : List Jvm.Cond) (x : Addr) (d : Addr) (kc : ClassId) (s0_ : Addr) (s1_ : Addr) (dz : Addr) (el : Addr) (ee : Addr) (em : Addr) (mr : Addr) (kd : ClassId) (ke : ClassId) (vm0 : Vm) (h0 : Heap) (X00 : Ext Z.heap h0) (P0 : Exa Z h0 x c11_) (P1 : Fld Z h0 x c11_ c7_ c3_ (.ref d)) (P2 : Fld Z h0 x c11_ "size" "I" (.int (2 : Int32))) (P3 : Arv Z h0 d kc (.object c8_) (10 : Int32) [(.ref s0_), (.ref s1_), .null, .null, .null, .null, .null, .null, .null, .null] .null) (P4 : Exa Z h0 d c3_) (hov : (Ovr Z kc c8_)) (P6 : Exa Z h0 s0_ c9_) (P7 : Exa Z h0 s1_ c9_) (hL : (OwnL Z dz el ee em mr kd ke)) :
    Met l mn205 jdk_38_method_16_code 1 (some (.array (.object c8_))) ws ({ frames := 3, cells := 1, slots := 2, locals := 46 } : Room) Z consts_1 vm0 h0 #[(.ref x)] (fun rv vm h => ∃ (r : Addr), ∃ (kr : ClassId), rv = some (.ref r) ∧ Keep h0 h [] ∧ h0.size ≤ r ∧ Arv Z h r kr (.object c8_) (2 : Int32) [(.ref s0_), (.ref s1_)] .null) := by
  obtain ⟨hw, hEL, ⟨zc, Scs, hzc⟩, ⟨fm, Sfm, hfm⟩, hL0⟩ := id cx
  have hSA := own_SA hw
  refine Met.of_walk (a0 := a0) #[vr x] (plainFor_of_name own_pn21) X00 hEL (fun m => by first | (simp [entryFrame, mkF, argsToLocals, Value.category]; done) | rfl) ?_
  intro p e s m below meth c vm hx hby hml hret hnm hC0 hW0
  have lt_x : h0.size > x := P0.lt
  have lt_d : h0.size > d := P3.lt
  have lt_s0_ : h0.size > s0_ := P6.lt
  have lt_s1_ : h0.size > s1_ := P7.lt
  obtain ⟨Sdz, Edz, Vdz, Sel, Eel, Fee, Vee, Fan, Sem, Eem, Mmr, Sas⟩ := id hL
  refine uAN 1 hx hby d198 rfl rfl rfl ?_
  refine ggetF (host := "") hx (Or.inl (ow hw 56 rfl)) Via.refl P1 4 (hb hby d199) rfl ?_
  refine uAN 5 hx hby d200 rfl rfl rfl ?_
  refine ggetF (host := "") hx (Or.inl (ow hw 71 rfl)) Via.refl P2 8 (hb hby d201) rfl ?_
  refine ginfo fun _ _ O1 => ?_
  refine gcallS (y := mn197) hx (ow hw 244 rfl) (ow hw 245 rfl) (ow hw 246 rfl) (ow hw 247 rfl) (by decide) (fun hZ H hEL => Pay.of_met (W := 0) (own_cp2_2 l Z a0 cx [] (d) (kc) (s0_) (s1_) (dz) (el) (ee) (em) (mr) (kd) (ke) vm h0 O1 P3 P4 P6 P7 (by first | assumption | decide | omega)) (ow hw 247 rfl) (ow hw 246 rfl) (by decide) (by decide) hZ H hEL) 11 (argsL := [(.ref d), (.int (2 : Int32))]) (rest := []) (lenOf own_pd203 rfl) rfl rfl (Nat.le_of_eq rfl) (by rw [hml]; rfl) (hb hby d202) rfl (by decide) (by decide) ?_
  rintro _ vm1 h1 C1 ⟨r1, kr1, rfl, K1, q1_0, q1_1⟩
  have z1 := C1.2.1
  have lt_r1 : h1.size > r1 := q1_1.lt
  refine gat (mkF m 11 #[vr x] [(.ref r1)]) rfl ?_
  exact gretA hx hret rfl rfl (hb hby d204) (by decide) (by decide) (fun vq Cq => ⟨r1, kr1, rfl, ((Keep.refl h0 []).trans K1 all0), (by omega), q1_1⟩)
theorem d218 : decode jdk_40_method_47_code 45 = .ok (.new 96, 3) := by decide +kernel
theorem d219 : decode jdk_40_method_47_code 48 = .ok (.dup, 1) := by decide +kernel
theorem d220 : decode jdk_40_method_47_code 49 = .ok (.aload_n 0, 1) := by decide +kernel
theorem d221 : decode jdk_40_method_47_code 50 = .ok (.iconst 0, 1) := by decide +kernel
theorem d222 : decode jdk_40_method_47_code 51 = .ok (.aaload, 1) := by decide +kernel
theorem d223 : decode jdk_40_method_47_code 52 = .ok (.aload_n 0, 1) := by decide +kernel
theorem d224 : decode jdk_40_method_47_code 53 = .ok (.iconst 1, 1) := by decide +kernel
theorem d225 : decode jdk_40_method_47_code 54 = .ok (.aaload, 1) := by decide +kernel
theorem d226 : decode jdk_40_method_47_code 55 = .ok (.invokespecial 100, 3) := by decide +kernel
theorem own_pd227 : parseMethodDescriptor "(Ljava/lang/Object;Ljava/lang/Object;)V" = some ⟨[(.object "java/lang/Object"), (.object "java/lang/Object")], none⟩ := by decide +kernel
theorem d228 : decode jdk_40_method_47_code 58 = .ok (.areturn, 1) := by decide +kernel
theorem own_of2 (l : Launch) (Z : State) (a0 : Array Value) (cx : Ctx Z a0) (ws : List Jvm.Cond) (a : Addr) (ka : ClassId) (s0_ : Addr) (s1_ : Addr) (dz : Addr) (el : Addr) (ee : Addr) (em : Addr) (mr : Addr) (kd : ClassId) (ke : ClassId) (vm0 : Vm) (h0 : Heap) (X00 : Ext Z.heap h0) (P0 : Arv Z h0 a ka (.object c8_) (2 : Int32) [(.ref s0_), (.ref s1_)] .null) (P1 : Exa Z h0 s0_ c9_) (P2 : Exa Z h0 s1_ c9_) (hL : (OwnL Z dz el ee em mr kd ke)) :
    Met l mn217 jdk_40_method_47_code 2 (some (.object c16_)) ws ({ frames := 5, cells := 1, slots := 2, locals := 63 } : Room) Z consts_1 vm0 h0 #[(.ref a)] (fun rv vm h => ∃ (r : Addr), rv = some (.ref r) ∧ Keep h0 h [] ∧ h0.size ≤ r ∧ Exa Z h r c14_ ∧ Fld Z h r c14_ "e0" c0_ (.ref s0_) ∧ Fld Z h r c14_ "e1" c0_ (.ref s1_)) := by
  obtain ⟨hw, hEL, ⟨zc, Scs, hzc⟩, ⟨fm, Sfm, hfm⟩, hL0⟩ := id cx
  have hSA := own_SA hw
  refine Met.of_walk (a0 := a0) #[vr a, un] (plainFor_of_name own_pn110) X00 hEL (fun m => by first | (simp [entryFrame, mkF, argsToLocals, Value.category]; done) | rfl) ?_
  intro p e s m below meth c vm hx hby hml hret hnm hC0 hW0
  have lt_a : h0.size > a := P0.lt
  have lt_s0_ : h0.size > s0_ := P1.lt
  have lt_s1_ : h0.size > s1_ := P2.lt
  obtain ⟨Sdz, Edz, Vdz, Sel, Eel, Fee, Vee, Fan, Sem, Eem, Mmr, Sas⟩ := id hL
  refine uAN 1 hx hby d206 rfl rfl rfl ?_
  refine glen hx P0 2 (hb hby d207) rfl ?_
  refine gx (mkF m 45 #[vr a, un] []) (fun T locs X _ _ _ target kq => X.tableswitchIn hx (g := (mkF m 2 #[vr a, un] [(.int (2 : Int32))])) rfl rfl (hb hby d208) (by decide) (off := 43) rfl (show (0 : Int) ≤ ((2 : Nat) : Int) + 43 by decide) target kq) ?_
  refine gnewO hx (ow hw 316 rfl) (ow hw 317 rfl) (ow hw 318 rfl) 48 (hb hby d218) rfl (by decide) (by decide) ?_
  intro b1 h1 g1 E1 C1 A1 D1 n1 L1
  have z1 := C1.2.1
  have lt_b1 : h1.size > b1 := A1.lt
  have F1_e0 : Fld Z h1 b1 c14_ "e0" c0_ .null := D1 (Or.inr (ow hw 329 rfl)) (ty := (.object c8_)) (by decide)
  have F1_e1 : Fld Z h1 b1 c14_ "e1" c0_ .null := D1 (Or.inr (ow hw 331 rfl)) (ty := (.object c8_)) (by decide)
  refine uD 49 hx hby d219 rfl rfl ?_
  refine uAN 50 hx hby d220 rfl rfl rfl ?_
  refine gs (mkF m 51 #[vr a, un] [(.int (0 : Int32)), (.ref a), (.ref b1), (.ref b1)]) (fun _ _ A kq => XS.iconst A hx rfl (hb hby d221) kq) ?_
  have f2 := (P0.ext E1)
  refine gldR hx f2 ⟨by decide, by decide⟩ (i := 0) rfl (v := (.ref s0_)) rfl 52 (hb hby d222) rfl ?_
  refine uAN 53 hx hby d223 rfl rfl rfl ?_
  refine gs (mkF m 54 #[vr a, un] [(.int (1 : Int32)), (.ref a), (.ref s0_), (.ref b1), (.ref b1)]) (fun _ _ A kq => XS.iconst A hx rfl (hb hby d224) kq) ?_
  refine gldR hx f2 ⟨by decide, by decide⟩ (i := 1) rfl (v := (.ref s1_)) rfl 55 (hb hby d225) rfl ?_
  refine ginfo fun _ _ O3 => ?_
  refine gcallI (y := mn151) hx rfl (ow hw 319 rfl) (ow hw 320 rfl) (ow hw 322 rfl) (by decide) (fun hZ H hEL => Pay.of_met (W := 1) (own_l12b l Z a0 cx [] (b1) (s0_) (s1_) (.null) (.null) vm h1 O3 A1 F1_e0 F1_e1 n1) (ow hw 322 rfl) (ow hw 318 rfl) (by decide) (by decide) hZ H hEL) (a := b1) 58 (argsL := [(.ref s0_), (.ref s1_)]) (rest := [(.ref b1)]) (lenOf own_pd227 rfl) rfl rfl (Nat.le_of_eq rfl) (by rw [hml]; rfl) (hb hby d226) rfl (by decide) (by decide) ?_
  rintro _ vm3 h3 C3 ⟨rfl, K3, q3_0, q3_1⟩
  have z3 := C3.2.1
  refine gat (mkF m 58 #[vr a, un] [(.ref b1)]) rfl ?_
  have f5 := (A1.keep K3)
  exact gretA hx hret rfl rfl (hb hby d228) (by decide) (by decide) (fun vq Cq => ⟨b1, rfl, (((Keep.refl h0 []).ext E1).trans K3 (allS (Or.inr (by omega)) all0)), (by omega), f5, q3_0, q3_1⟩)
theorem own_min10_3 (l : Launch) (Z : State) (a0 : Array Value) (cx : Ctx Z a0) (ws : List Jvm.Cond)  (vm0 : Vm) (h0 : Heap) (X00 : Ext Z.heap h0)  :
    Met l mn168 jdk_29_method_69_code 2 (some .int) ws ({ frames := 0, cells := 0, slots := 0, locals := 0 } : Room) Z consts_1 vm0 h0 #[(.int (10 : Int32)), (.int (3 : Int32))] (fun rv vm h => rv = some (.int (3 : Int32)) ∧ h0 = h) := by
  obtain ⟨hw, hEL, ⟨zc, Scs, hzc⟩, ⟨fm, Sfm, hfm⟩, hL0⟩ := id cx
  have hSA := own_SA hw
  refine Met.of_walk (a0 := a0) #[vi (10 : Int32), vi (3 : Int32)] own_pn169 X00 hEL (fun m => by first | (simp [entryFrame, mkF, argsToLocals, Value.category]; done) | rfl) ?_
  intro p e s m below meth c vm hx hby hml hret hnm hC0 hW0
  refine uIN 1 hx hby d163 rfl rfl ?_
  refine uIN 2 hx hby d164 rfl rfl ?_
  refine gs (mkF m 9 #[vi (10 : Int32), vi (3 : Int32)] []) (fun _ _ A kq => XS.icmpYes A hx rfl (pc0 := 2) (pc' := 9) rfl (hb hby d165) rfl (tlt (by decide)).2.2.1 (by decide) (by decide) kq) ?_
  refine uIN 10 hx hby d166 rfl rfl ?_
  exact gretI hx hret (hb hby d167) (by decide) (by decide) (fun vq Cq => ⟨rfl, rfl⟩)
theorem own_cp3_3 (l : Launch) (Z : State) (a0 : Array Value) (cx : Ctx Z a0) (ws : List Jvm.Cond) (d : Addr) (kc : ClassId) (s0_ : Addr) (s1_ : Addr) (s2_ : Addr) (dz : Addr) (el : Addr) (ee : Addr) (em : Addr) (mr : Addr) (kd : ClassId) (ke : ClassId) (vm0 : Vm) (h0 : Heap) (X00 : Ext Z.heap h0) (P0 : Arv Z h0 d kc (.object c8_) (10 : Int32) [(.ref s0_), (.ref s1_), (.ref s2_), .null, .null, .null, .null, .null, .null, .null] .null) (P1 : Exa Z h0 s0_ c9_) (P2 : Exa Z h0 s1_ c9_) (P3 : Exa Z h0 s2_ c9_) (hL : (OwnL Z dz el ee em mr kd ke)) :
    Met l mn188 jdk_65_method_120_code 4 (some (.array (.object c8_))) ws ({ frames := 1, cells := 1, slots := 3, locals := 18 } : Room) Z consts_1 vm0 h0 #[(.ref d), (.int (3 : Int32)), (.ref mr)] (fun rv vm h => ∃ (r : Addr), ∃ (kr : ClassId), rv = some (.ref r) ∧ Keep h0 h [] ∧ h0.size ≤ r ∧ Arv Z h r kr (.object c8_) (3 : Int32) [(.ref s0_), (.ref s1_), (.ref s2_)] .null) := by
  obtain ⟨hw, hEL, ⟨zc, Scs, hzc⟩, ⟨fm, Sfm, hfm⟩, hL0⟩ := id cx
  have hSA := own_SA hw
  refine Met.of_walk (a0 := a0) #[vr d, vi (3 : Int32), vr mr, un] (plainFor_of_name own_pn189) X00 hEL (fun m => by first | (simp [entryFrame, mkF, argsToLocals, Value.category]; done) | rfl) ?_
  intro p e s m below meth c vm hx hby hml hret hnm hC0 hW0
  have lt_d : h0.size > d := P0.lt
  have lt_s0_ : h0.size > s0_ := P1.lt
  have lt_s1_ : h0.size > s1_ := P2.lt
  have lt_s2_ : h0.size > s2_ := P3.lt
  obtain ⟨Sdz, Edz, Vdz, Sel, Eel, Fee, Vee, Fan, Sem, Eem, Mmr, Sas⟩ := id hL
  refine uAN 1 hx hby d170 rfl rfl rfl ?_
  refine gldcM hx (ow hw 257 rfl) Mmr 3 (hb hby d171) rfl ?_
  refine gx (mkF m 6 #[vr d, vi (3 : Int32), vr mr, un] []) (fun T locs X _ _ _ _ kq => Jvm.RoadKit.acmp (g := (mkF m 3 #[vr d, vi (3 : Int32), vr mr, un] [(.ref mr), (.ref mr)])) X hx rfl rfl rfl (pc0 := 3) (pc' := 6) (same := true) rfl (hb hby d172) rfl (decide_eq_true rfl) (by decide) (by decide) kq) ?_
  refine uIN 7 hx hby d173 rfl rfl ?_
  refine gnewR hx (ow hw 258 rfl) (ow hw 234 rfl) (n := (3 : Int32)) (by decide) (cap := 3) (by decide) (by decide) (ad := c3_) (by decide) 10 (hb hby d174) rfl (by decide) (by decide) ?_
  intro b2 h2 k2 g2 E2 C2 V2 A2 O2 n2 L2
  have z2 := C2.2.1
  have V2 : Arv Z h2 b2 k2 (.object c8_) (3 : Int32) [.null, .null, .null] .null := V2.pad (pad_rep [] .null 3)
  have lt_b2 : h2.size > b2 := V2.lt
  refine uG 24 hx hby d175 (by decide) (by decide) ?_
  refine gs (mkF m 25 #[vr d, vi (3 : Int32), vr mr, vr b2] []) (fun _ _ A kq => XS.astoreN A hx rfl (hb hby d176) rfl rfl (l' := #[vr d, vi (3 : Int32), vr mr, vr b2]) rfl kq) ?_
  refine uAN 26 hx hby d177 rfl rfl rfl ?_
  refine gs (mkF m 27 #[vr d, vi (3 : Int32), vr mr, vr b2] [(.int (0 : Int32)), (.ref d)]) (fun _ _ A kq => XS.iconst A hx rfl (hb hby d178) kq) ?_
  refine uAN 28 hx hby d179 rfl rfl rfl ?_
  refine gs (mkF m 29 #[vr d, vi (3 : Int32), vr mr, vr b2] [(.int (0 : Int32)), (.ref b2), (.int (0 : Int32)), (.ref d)]) (fun _ _ A kq => XS.iconst A hx rfl (hb hby d180) kq) ?_
  refine uAN 30 hx hby d181 rfl rfl rfl ?_
  have f3 := (P0.ext E2)
  refine glen hx f3 31 (hb hby d182) rfl ?_
  refine uIN 32 hx hby d183 rfl rfl ?_
  refine ginfo fun _ _ O4 => ?_
  refine gcallS (y := mn168) hx (ow hw 259 rfl) (ow hw 260 rfl) (ow hw 231 rfl) (ow hw 261 rfl) (by decide) (fun hZ H hEL => Pay.of_met (W := 4) (own_min10_3 l Z a0 cx []  vm h2 O4 ) (ow hw 261 rfl) (ow hw 231 rfl) (by decide) (by decide) hZ H hEL) 35 (argsL := [(.int (10 : Int32)), (.int (3 : Int32))]) (rest := [(.int (0 : Int32)), (.ref b2), (.int (0 : Int32)), (.ref d)]) (lenOf own_pd44 rfl) rfl rfl (Nat.le_of_eq rfl) (by rw [hml]; rfl) (hb hby d184) rfl (by decide) (by decide) ?_
  rintro _ vm4 h4 C4 ⟨rfl, rfl⟩
  have z4 := C4.2.1
  refine gat (mkF m 35 #[vr d, vi (3 : Int32), vr mr, vr b2] [(.int (3 : Int32)), (.int (0 : Int32)), (.ref b2), (.int (0 : Int32)), (.ref d)]) rfl ?_
  have f6 := (P1.ext E2)
  have f7 := (P2.ext E2)
  have f8 := (P3.ext E2)
  have f9 := (C4.safe (show h2.size > b2 by omega) L2)
  refine gcopyR hx (ow hw 262 rfl) (ow hw 265 rfl) (ow hw 263 rfl) (ow hw 264 rfl) (0) (0) (3) (10) (3) f3 V2 rfl rfl rfl rfl rfl (by decide) (by decide) (by decide) (by decide) rfl rfl (show StoL _ _ _ [(.ref s0_), (.ref s1_), (.ref s2_)] from ⟨Arv.sto V2 O2 (Ins.of_exa f6 (ow hw 235 rfl)), Arv.sto V2 O2 (Ins.of_exa f7 (ow hw 235 rfl)), Arv.sto V2 O2 (Ins.of_exa f8 (ow hw 235 rfl)), trivial⟩) n2 (fun _ => f9) 38 (W := 0) (Nat.le_of_eq rfl) (by rw [hml]; rfl) (hb hby d185) rfl (by decide) (by decide) ?_
  intro h5 K5 C5 V5
  have z5 := C5.2.1
  replace V5 : Arv Z h5 b2 k2 (.object c8_) (3 : Int32) [(.ref s0_), (.ref s1_), (.ref s2_)] .null := V5
  refine uAN 39 hx hby d186 rfl rfl rfl ?_
  exact gretA hx hret rfl rfl (hb hby d187) (by decide) (by decide) (fun vq Cq => ⟨b2, k2, rfl, (((Keep.refl h0 []).ext E2).trans K5 (allS (Or.inr (by omega)) all0)), (by omega), V5⟩)
theorem own_cp2_3 (l : Launch) (Z : State) (a0 : Array Value) (cx : Ctx Z a0) (ws : List Jvm.Cond) (d : Addr) (kc : ClassId) (s0_ : Addr) (s1_ : Addr) (s2_ : Addr) (dz : Addr) (el : Addr) (ee : Addr) (em : Addr) (mr : Addr) (kd : ClassId) (ke : ClassId) (vm0 : Vm) (h0 : Heap) (X00 : Ext Z.heap h0) (P0 : Arv Z h0 d kc (.object c8_) (10 : Int32) [(.ref s0_), (.ref s1_), (.ref s2_), .null, .null, .null, .null, .null, .null, .null] .null) (P1 : Exa Z h0 d c3_) (P2 : Exa Z h0 s0_ c9_) (P3 : Exa Z h0 s1_ c9_) (P4 : Exa Z h0 s2_ c9_) (hL : (OwnL Z dz el ee em mr kd ke)) :
    Met l mn197 jdk_65_method_119_code 2 (some (.array (.object c8_))) ws ({ frames := 2, cells := 1, slots := 3, locals := 33 } : Room) Z consts_1 vm0 h0 #[(.ref d), (.int (3 : Int32))] (fun rv vm h => ∃ (r : Addr), ∃ (kr : ClassId), rv = some (.ref r) ∧ Keep h0 h [] ∧ h0.size ≤ r ∧ Arv Z h r kr (.object c8_) (3 : Int32) [(.ref s0_), (.ref s1_), (.ref s2_)] .null) := by
  obtain ⟨hw, hEL, ⟨zc, Scs, hzc⟩, ⟨fm, Sfm, hfm⟩, hL0⟩ := id cx
  have hSA := own_SA hw
  refine Met.of_walk (a0 := a0) #[vr d, vi (3 : Int32)] (plainFor_of_name own_pn189) X00 hEL (fun m => by first | (simp [entryFrame, mkF, argsToLocals, Value.category]; done) | rfl) ?_
  intro p e s m below meth c vm hx hby hml hret hnm hC0 hW0
  have lt_d : h0.size > d := P0.lt
  have lt_s0_ : h0.size > s0_ := P2.lt
  have lt_s1_ : h0.size > s1_ := P3.lt
  have lt_s2_ : h0.size > s2_ := P4.lt
  obtain ⟨Sdz, Edz, Vdz, Sel, Eel, Fee, Vee, Fan, Sem, Eem, Mmr, Sas⟩ := id hL
  refine uAN 1 hx hby d190 rfl rfl rfl ?_
  refine uIN 2 hx hby d191 rfl rfl ?_
  refine uAN 3 hx hby d192 rfl rfl rfl ?_
  refine ggcls hx (ow hw 248 rfl) (ow hw 249 rfl) (ow hw 123 rfl) (ow hw 251 rfl) (ow hw 250 rfl) (ow hw 252 rfl) P1 Mmr 6 (W := 2) (Nat.le_of_eq rfl) (by rw [hml]; rfl) (hb hby d193) rfl (by decide) (by decide) ?_
  refine ginfo fun _ _ O2 => ?_
  refine gcallS (y := mn188) hx (ow hw 254 rfl) (ow hw 255 rfl) (ow hw 246 rfl) (ow hw 256 rfl) (by decide) (fun hZ H hEL => Pay.of_met (W := 0) (own_cp3_3 l Z a0 cx [] (d) (kc) (s0_) (s1_) (s2_) (dz) (el) (ee) (em) (mr) (kd) (ke) vm h0 O2 P0 P2 P3 P4 (by first | assumption | decide | omega)) (ow hw 256 rfl) (ow hw 246 rfl) (by decide) (by decide) hZ H hEL) 9 (argsL := [(.ref d), (.int (3 : Int32)), (.ref mr)]) (rest := []) (lenOf own_pd195 rfl) rfl rfl (Nat.le_of_eq rfl) (by rw [hml]; rfl) (hb hby d194) rfl (by decide) (by decide) ?_
  rintro _ vm2 h2 C2 ⟨r2, kr2, rfl, K2, q2_0, q2_1⟩
  have z2 := C2.2.1
  have lt_r2 : h2.size > r2 := q2_1.lt
  refine gat (mkF m 9 #[vr d, vi (3 : Int32)] [(.ref r2)]) rfl ?_
  exact gretA hx hret rfl rfl (hb hby d196) (by decide) (by decide) (fun vq Cq => ⟨r2, kr2, rfl, ((Keep.refl h0 []).trans K2 all0), (by omega), q2_1⟩)
theorem own_toarr3 (l : Launch) (Z : State) (a0 : Array Value) (cx : Ctx Z a0) (ws : List Jvm.Cond) (x : Addr) (d : Addr) (kc : ClassId) (s0_ : Addr) (s1_ : Addr) (s2_ : Addr) (dz : Addr) (el : Addr) (ee : Addr) (em : Addr) (mr : Addr) (kd : ClassId) (ke : ClassId) (vm0 : Vm) (h0 : Heap) (X00 : Ext Z.heap h0) (P0 : Exa Z h0 x c11_) (P1 : Fld Z h0 x c11_ c7_ c3_ (.ref d)) (P2 : Fld Z h0 x c11_ "size" "I" (.int (3 : Int32))) (P3 : Arv Z h0 d kc (.object c8_) (10 : Int32) [(.ref s0_), (.ref s1_), (.ref s2_), .null, .null, .null, .null, .null, .null, .null] .null) (P4 : Exa Z h0 d c3_) (hov : (Ovr Z kc c8_)) (P6 : Exa Z h0 s0_ c9_) (P7 : Exa Z h0 s1_ c9_) (P8 : Exa Z h0 s2_ c9_) (hL : (OwnL Z dz el ee em mr kd ke)) :
    Met l mn205 jdk_38_method_16_code 1 (some (.array (.object c8_))) ws ({ frames := 3, cells := 1, slots := 3, locals := 46 } : Room) Z consts_1 vm0 h0 #[(.ref x)] (fun rv vm h => ∃ (r : Addr), ∃ (kr : ClassId), rv = some (.ref r) ∧ Keep h0 h [] ∧ h0.size ≤ r ∧ Arv Z h r kr (.object c8_) (3 : Int32) [(.ref s0_), (.ref s1_), (.ref s2_)] .null) := by
  obtain ⟨hw, hEL, ⟨zc, Scs, hzc⟩, ⟨fm, Sfm, hfm⟩, hL0⟩ := id cx
  have hSA := own_SA hw
  refine Met.of_walk (a0 := a0) #[vr x] (plainFor_of_name own_pn21) X00 hEL (fun m => by first | (simp [entryFrame, mkF, argsToLocals, Value.category]; done) | rfl) ?_
  intro p e s m below meth c vm hx hby hml hret hnm hC0 hW0
  have lt_x : h0.size > x := P0.lt
  have lt_d : h0.size > d := P3.lt
  have lt_s0_ : h0.size > s0_ := P6.lt
  have lt_s1_ : h0.size > s1_ := P7.lt
  have lt_s2_ : h0.size > s2_ := P8.lt
  obtain ⟨Sdz, Edz, Vdz, Sel, Eel, Fee, Vee, Fan, Sem, Eem, Mmr, Sas⟩ := id hL
  refine uAN 1 hx hby d198 rfl rfl rfl ?_
  refine ggetF (host := "") hx (Or.inl (ow hw 56 rfl)) Via.refl P1 4 (hb hby d199) rfl ?_
  refine uAN 5 hx hby d200 rfl rfl rfl ?_
  refine ggetF (host := "") hx (Or.inl (ow hw 71 rfl)) Via.refl P2 8 (hb hby d201) rfl ?_
  refine ginfo fun _ _ O1 => ?_
  refine gcallS (y := mn197) hx (ow hw 244 rfl) (ow hw 245 rfl) (ow hw 246 rfl) (ow hw 247 rfl) (by decide) (fun hZ H hEL => Pay.of_met (W := 0) (own_cp2_3 l Z a0 cx [] (d) (kc) (s0_) (s1_) (s2_) (dz) (el) (ee) (em) (mr) (kd) (ke) vm h0 O1 P3 P4 P6 P7 P8 (by first | assumption | decide | omega)) (ow hw 247 rfl) (ow hw 246 rfl) (by decide) (by decide) hZ H hEL) 11 (argsL := [(.ref d), (.int (3 : Int32))]) (rest := []) (lenOf own_pd203 rfl) rfl rfl (Nat.le_of_eq rfl) (by rw [hml]; rfl) (hb hby d202) rfl (by decide) (by decide) ?_
  rintro _ vm1 h1 C1 ⟨r1, kr1, rfl, K1, q1_0, q1_1⟩
  have z1 := C1.2.1
  have lt_r1 : h1.size > r1 := q1_1.lt
  refine gat (mkF m 11 #[vr x] [(.ref r1)]) rfl ?_
  exact gretA hx hret rfl rfl (hb hby d204) (by decide) (by decide) (fun vq Cq => ⟨r1, kr1, rfl, ((Keep.refl h0 []).trans K1 all0), (by omega), q1_1⟩)
theorem d229 : decode jdk_56_method_4_code 0 = .ok (.aload_n 0, 1) := by decide +kernel
theorem d230 : decode jdk_56_method_4_code 1 = .ok (.arraylength, 1) := by decide +kernel
theorem d231 : decode jdk_56_method_4_code 2 = .ok (.anewarray 2, 3) := by decide +kernel
theorem d232 : decode jdk_56_method_4_code 5 = .ok (.astore_n 1, 1) := by decide +kernel
theorem d233 : decode jdk_56_method_4_code 6 = .ok (.iconst 0, 1) := by decide +kernel
theorem d234 : decode jdk_56_method_4_code 7 = .ok (.istore_n 2, 1) := by decide +kernel
theorem d235 : decode jdk_56_method_4_code 8 = .ok (.iload_n 2, 1) := by decide +kernel
theorem d236 : decode jdk_56_method_4_code 9 = .ok (.aload_n 0, 1) := by decide +kernel
theorem d237 : decode jdk_56_method_4_code 10 = .ok (.arraylength, 1) := by decide +kernel
theorem d238 : decode jdk_56_method_4_code 11 = .ok (.if_icmp .ge 18, 3) := by decide +kernel
theorem d239 : decode jdk_56_method_4_code 14 = .ok (.aload_n 1, 1) := by decide +kernel
theorem d240 : decode jdk_56_method_4_code 15 = .ok (.iload_n 2, 1) := by decide +kernel
theorem d241 : decode jdk_56_method_4_code 16 = .ok (.aload_n 0, 1) := by decide +kernel
theorem d242 : decode jdk_56_method_4_code 17 = .ok (.iload_n 2, 1) := by decide +kernel
theorem d243 : decode jdk_56_method_4_code 18 = .ok (.aaload, 1) := by decide +kernel
theorem d244 : decode jdk_56_method_4_code 19 = .ok (.invokestatic 37, 3) := by decide +kernel
theorem d245 : decode jdk_56_method_4_code 22 = .ok (.aastore, 1) := by decide +kernel
theorem d246 : decode jdk_56_method_4_code 23 = .ok (.iinc 2 1, 3) := by decide +kernel
theorem d247 : decode jdk_56_method_4_code 26 = .ok (.goto (-18), 3) := by decide +kernel
theorem d248 : decode jdk_56_method_4_code 29 = .ok (.new 12, 3) := by decide +kernel
theorem d249 : decode jdk_56_method_4_code 32 = .ok (.dup, 1) := by decide +kernel
theorem d250 : decode jdk_56_method_4_code 33 = .ok (.aload_n 1, 1) := by decide +kernel
theorem d251 : decode jdk_56_method_4_code 34 = .ok (.iconst 0, 1) := by decide +kernel
theorem d252 : decode jdk_56_method_4_code 35 = .ok (.invokespecial 43, 3) := by decide +kernel
theorem own_pd253 : parseMethodDescriptor "([Ljava/lang/Object;Z)V" = some ⟨[(.array (.object "java/lang/Object")), .boolean], none⟩ := by decide +kernel
theorem d254 : decode jdk_56_method_4_code 38 = .ok (.areturn, 1) := by decide +kernel
abbrev mn255 : MethodName := ⟨"java/util/ImmutableCollections", "listFromArray", "([Ljava/lang/Object;)Ljava/util/List;"⟩
theorem own_pn256 : plainName "java/util/ImmutableCollections" = true := by first | (simp [plainName, overriddenIn]; done) | decide +kernel
theorem own_lfa3 (l : Launch) (Z : State) (a0 : Array Value) (cx : Ctx Z a0) (ws : List Jvm.Cond) (a : Addr) (ka : ClassId) (s0_ : Addr) (s1_ : Addr) (s2_ : Addr) (vm0 : Vm) (h0 : Heap) (X00 : Ext Z.heap h0) (P0 : Arv Z h0 a ka (.object c8_) (3 : Int32) [(.ref s0_), (.ref s1_), (.ref s2_)] .null) (P1 : Exa Z h0 s0_ c9_) (P2 : Exa Z h0 s1_ c9_) (P3 : Exa Z h0 s2_ c9_) :
    Met l mn255 jdk_56_method_4_code 3 (some (.object c16_)) ws ({ frames := 5, cells := 2, slots := 5, locals := 63 } : Room) Z consts_1 vm0 h0 #[(.ref a)] (fun rv vm h => ∃ (r : Addr), ∃ (g : Addr), ∃ (kg : ClassId), rv = some (.ref r) ∧ Keep h0 h [] ∧ h0.size ≤ r ∧ Exa Z h r c15_ ∧ Fld Z h r c15_ "elements" c3_ (.ref g) ∧ Arv Z h g kg (.object c8_) (3 : Int32) [(.ref s0_), (.ref s1_), (.ref s2_)] .null) := by
  obtain ⟨hw, hEL, ⟨zc, Scs, hzc⟩, ⟨fm, Sfm, hfm⟩, hL0⟩ := id cx
  have hSA := own_SA hw
  refine Met.of_walk (a0 := a0) #[vr a, un, un] (plainFor_of_name own_pn256) X00 hEL (fun m => by first | (simp [entryFrame, mkF, argsToLocals, Value.category]; done) | rfl) ?_
  intro p e s m below meth c vm hx hby hml hret hnm hC0 hW0
  have lt_a : h0.size > a := P0.lt
  have lt_s0_ : h0.size > s0_ := P1.lt
  have lt_s1_ : h0.size > s1_ := P2.lt
  have lt_s2_ : h0.size > s2_ := P3.lt
  refine uAN 1 hx hby d229 rfl rfl rfl ?_
  refine glen hx P0 2 (hb hby d230) rfl ?_
  refine gnewR hx (ow hw 272 rfl) (ow hw 234 rfl) (n := (3 : Int32)) (by decide) (cap := 3) (by decide) (by decide) (ad := c3_) (by decide) 5 (hb hby d231) rfl (by decide) (by decide) ?_
  intro b1 h1 k1 g1 E1 C1 V1 A1 O1 n1 L1
  have z1 := C1.2.1
  have V1 : Arv Z h1 b1 k1 (.object c8_) (3 : Int32) [.null, .null, .null] .null := V1.pad (pad_rep [] .null 3)
  have lt_b1 : h1.size > b1 := V1.lt
  refine gs (mkF m 6 #[vr a, vr b1, un] []) (fun _ _ A kq => XS.astoreN A hx rfl (hb hby d232) rfl rfl (l' := #[vr a, vr b1, un]) rfl kq) ?_
  refine gs (mkF m 7 #[vr a, vr b1, un] [(.int (0 : Int32))]) (fun _ _ A kq => XS.iconst A hx rfl (hb hby d233) kq) ?_
  refine gs (mkF m 8 #[vr a, vr b1, vi (0 : Int32)] []) (fun _ _ A kq => XS.istoreN A hx rfl (hb hby d234) rfl (l' := #[vr a, vr b1, vi (0 : Int32)]) rfl kq) ?_
  refine uIN 9 hx hby d235 rfl rfl ?_
  refine uAN 10 hx hby d236 rfl rfl rfl ?_
  have f2 := (P0.ext E1)
  refine glen hx f2 11 (hb hby d237) rfl ?_
  refine gs (mkF m 14 #[vr a, vr b1, vi (0 : Int32)] []) (fun _ _ A kq => XS.icmpNo A hx rfl (hb hby d238) rfl (tlt (by decide)).2.1 kq) ?_
  refine uAN 15 hx hby d239 rfl rfl rfl ?_
  refine uIN 16 hx hby d240 rfl rfl ?_
  refine uAN 17 hx hby d241 rfl rfl rfl ?_
  refine uIN 18 hx hby d242 rfl rfl ?_
  refine gldR hx f2 ⟨by decide, by decide⟩ (i := 0) rfl (v := (.ref s0_)) rfl 19 (hb hby d243) rfl ?_
  refine ginfo fun _ _ O3 => ?_
  refine gcallS (y := mn115) hx (ow hw 273 rfl) (ow hw 274 rfl) (ow hw 275 rfl) (ow hw 276 rfl) (by decide) (fun hZ H hEL => Pay.of_met (W := 2) (own_rnn l Z a0 cx [] (s0_) vm h1 O3 ) (ow hw 276 rfl) (ow hw 275 rfl) (by decide) (by decide) hZ H hEL) 22 (argsL := [(.ref s0_)]) (rest := [(.int (0 : Int32)), (.ref b1)]) (lenOf own_pd132 rfl) rfl rfl (Nat.le_of_eq rfl) (by rw [hml]; rfl) (hb hby d244) rfl (by decide) (by decide) ?_
  rintro _ vm3 h3 C3 ⟨rfl, rfl⟩
  have z3 := C3.2.1
  refine gat (mkF m 22 #[vr a, vr b1, vi (0 : Int32)] [(.ref s0_), (.int (0 : Int32)), (.ref b1)]) rfl ?_
  have f5 := (P1.ext E1)
  refine gstR hx V1 ⟨by decide, by decide⟩ (i := 0) rfl (Nat.le_of_ble_eq_true rfl) (Arv.sto V1 O1 (Ins.of_exa f5 (ow hw 235 rfl))) rfl n1 23 (hb hby d245) rfl ?_
  intro h4 W4 C4 V4
  have z4 := C4.2.1
  replace V4 : Arv Z h4 b1 k1 (.object c8_) (3 : Int32) [(.ref s0_), .null, .null] .null := V4
  refine gs (mkF m 26 #[vr a, vr b1, vi (1 : Int32)] []) (fun _ _ A kq => XS.iinc A hx rfl (hb hby d246) rfl (l' := #[vr a, vr b1, vi (1 : Int32)]) rfl kq) ?_
  refine uG 8 hx hby d247 (by decide) (by decide) ?_
  refine uIN 9 hx hby d235 rfl rfl ?_
  refine uAN 10 hx hby d236 rfl rfl rfl ?_
  have f6 := (f2.other W4 (Nat.ne_of_lt (by omega)))
  refine glen hx f6 11 (hb hby d237) rfl ?_
  refine gs (mkF m 14 #[vr a, vr b1, vi (1 : Int32)] []) (fun _ _ A kq => XS.icmpNo A hx rfl (hb hby d238) rfl (tlt (by decide)).2.1 kq) ?_
  refine uAN 15 hx hby d239 rfl rfl rfl ?_
  refine uIN 16 hx hby d240 rfl rfl ?_
  refine uAN 17 hx hby d241 rfl rfl rfl ?_
  refine uIN 18 hx hby d242 rfl rfl ?_
  refine gldR hx f6 ⟨by decide, by decide⟩ (i := 1) rfl (v := (.ref s1_)) rfl 19 (hb hby d243) rfl ?_
  refine ginfo fun _ _ O7 => ?_
  refine gcallS (y := mn115) hx (ow hw 273 rfl) (ow hw 274 rfl) (ow hw 275 rfl) (ow hw 276 rfl) (by decide) (fun hZ H hEL => Pay.of_met (W := 2) (own_rnn l Z a0 cx [] (s1_) vm3 h4 O7 ) (ow hw 276 rfl) (ow hw 275 rfl) (by decide) (by decide) hZ H hEL) 22 (argsL := [(.ref s1_)]) (rest := [(.int (1 : Int32)), (.ref b1)]) (lenOf own_pd132 rfl) rfl rfl (Nat.le_of_eq rfl) (by rw [hml]; rfl) (hb hby d244) rfl (by decide) (by decide) ?_
  rintro _ vm7 h7 C7 ⟨rfl, rfl⟩
  have z7 := C7.2.1
  refine gat (mkF m 22 #[vr a, vr b1, vi (1 : Int32)] [(.ref s1_), (.int (1 : Int32)), (.ref b1)]) rfl ?_
  have f9 := ((P2.ext E1).wr W4)
  refine gstR hx V4 ⟨by decide, by decide⟩ (i := 1) rfl (Nat.le_of_ble_eq_true rfl) (Arv.sto V4 O1 (Ins.of_exa f9 (ow hw 235 rfl))) rfl n1 23 (hb hby d245) rfl ?_
  intro h8 W8 C8 V8
  have z8 := C8.2.1
  replace V8 : Arv Z h8 b1 k1 (.object c8_) (3 : Int32) [(.ref s0_), (.ref s1_), .null] .null := V8
  refine gs (mkF m 26 #[vr a, vr b1, vi (2 : Int32)] []) (fun _ _ A kq => XS.iinc A hx rfl (hb hby d246) rfl (l' := #[vr a, vr b1, vi (2 : Int32)]) rfl kq) ?_
  refine uG 8 hx hby d247 (by decide) (by decide) ?_
  refine uIN 9 hx hby d235 rfl rfl ?_
  refine uAN 10 hx hby d236 rfl rfl rfl ?_
  have f10 := (f6.other W8 (Nat.ne_of_lt (by omega)))
  refine glen hx f10 11 (hb hby d237) rfl ?_
  refine gs (mkF m 14 #[vr a, vr b1, vi (2 : Int32)] []) (fun _ _ A kq => XS.icmpNo A hx rfl (hb hby d238) rfl (tlt (by decide)).2.1 kq) ?_
  refine uAN 15 hx hby d239 rfl rfl rfl ?_
  refine uIN 16 hx hby d240 rfl rfl ?_
  refine uAN 17 hx hby d241 rfl rfl rfl ?_
  refine uIN 18 hx hby d242 rfl rfl ?_
  refine gldR hx f10 ⟨by decide, by decide⟩ (i := 2) rfl (v := (.ref s2_)) rfl 19 (hb hby d243) rfl ?_
  refine ginfo fun _ _ O11 => ?_
  refine gcallS (y := mn115) hx (ow hw 273 rfl) (ow hw 274 rfl) (ow hw 275 rfl) (ow hw 276 rfl) (by decide) (fun hZ H hEL => Pay.of_met (W := 2) (own_rnn l Z a0 cx [] (s2_) vm7 h8 O11 ) (ow hw 276 rfl) (ow hw 275 rfl) (by decide) (by decide) hZ H hEL) 22 (argsL := [(.ref s2_)]) (rest := [(.int (2 : Int32)), (.ref b1)]) (lenOf own_pd132 rfl) rfl rfl (Nat.le_of_eq rfl) (by rw [hml]; rfl) (hb hby d244) rfl (by decide) (by decide) ?_
  rintro _ vm11 h11 C11 ⟨rfl, rfl⟩
  have z11 := C11.2.1
  refine gat (mkF m 22 #[vr a, vr b1, vi (2 : Int32)] [(.ref s2_), (.int (2 : Int32)), (.ref b1)]) rfl ?_
  have f13 := (((P3.ext E1).wr W4).wr W8)
  refine gstR hx V8 ⟨by decide, by decide⟩ (i := 2) rfl (Nat.le_of_ble_eq_true rfl) (Arv.sto V8 O1 (Ins.of_exa f13 (ow hw 235 rfl))) rfl n1 23 (hb hby d245) rfl ?_
  intro h12 W12 C12 V12
  have z12 := C12.2.1
  replace V12 : Arv Z h12 b1 k1 (.object c8_) (3 : Int32) [(.ref s0_), (.ref s1_), (.ref s2_)] .null := V12
  refine gs (mkF m 26 #[vr a, vr b1, vi (3 : Int32)] []) (fun _ _ A kq => XS.iinc A hx rfl (hb hby d246) rfl (l' := #[vr a, vr b1, vi (3 : Int32)]) rfl kq) ?_
  refine uG 8 hx hby d247 (by decide) (by decide) ?_
  refine uIN 9 hx hby d235 rfl rfl ?_
  refine uAN 10 hx hby d236 rfl rfl rfl ?_
  have f14 := (f10.other W12 (Nat.ne_of_lt (by omega)))
  refine glen hx f14 11 (hb hby d237) rfl ?_
  refine gs (mkF m 29 #[vr a, vr b1, vi (3 : Int32)] []) (fun _ _ A kq => XS.icmpYes A hx rfl (pc0 := 11) (pc' := 29) rfl (hb hby d238) rfl (flt (by decide)).2.1 (by decide) (by decide) kq) ?_
  refine gnewO hx (ow hw 124 rfl) (ow hw 277 rfl) (ow hw 200 rfl) 32 (hb hby d248) rfl (by decide) (by decide) ?_
  intro b15 h15 g15 E15 C15 A15 D15 n15 L15
  have z15 := C15.2.1
  have lt_b15 : h15.size > b15 := A15.lt
  have F15_allowNulls : Fld Z h15 b15 c15_ c4_ "Z" (.int (0 : Int32)) := D15 (Or.inr (ow hw 167 rfl)) (ty := .boolean) (by decide)
  have F15_elements : Fld Z h15 b15 c15_ "elements" c3_ .null := D15 (Or.inr (ow hw 203 rfl)) (ty := (.array (.object c8_))) (by decide)
  refine uD 33 hx hby d249 rfl rfl ?_
  refine uAN 34 hx hby d250 rfl rfl rfl ?_
  refine gs (mkF m 35 #[vr a, vr b1, vi (3 : Int32)] [(.int (0 : Int32)), (.ref b1), (.ref b15), (.ref b15)]) (fun _ _ A kq => XS.iconst A hx rfl (hb hby d251) kq) ?_
  refine ginfo fun _ _ O16 => ?_
  refine gcallIN (y := mn161) hx rfl (ow hw 278 rfl) (ow hw 279 rfl) (ow hw 280 rfl) (by decide) (fun hZ H hEL => Pay.of_met (W := 1) (own_lninit l Z a0 cx [] (b15) (b1) (.null) ((.int (0 : Int32))) vm11 h15 O16 A15 F15_elements F15_allowNulls n15) (ow hw 280 rfl) (ow hw 200 rfl) (by decide) (by decide) hZ H hEL) (a := b15) 38 (argsL := [(.ref b1), (.int (0 : Int32))]) (rest := [(.ref b15)]) (lenOf own_pd253 rfl) rfl rfl (Nat.le_of_eq rfl) (by rw [hml]; rfl) (hb hby d252) rfl (by decide) (by decide) ?_
  rintro _ vm16 h16 C16 ⟨rfl, K16, q16_0⟩
  have z16 := C16.2.1
  refine gat (mkF m 38 #[vr a, vr b1, vi (3 : Int32)] [(.ref b15)]) rfl ?_
  have f18 := (A15.keep K16)
  have f19 := ((V12.ext E15).keep K16 (ninS (Nat.ne_of_lt (by omega)) nin0))
  exact gretA hx hret rfl rfl (hb hby d254) (by decide) (by decide) (fun vq Cq => ⟨b15, b1, k1, rfl, (((((((Keep.refl h0 []).ext E1).wr W4 (Or.inr (by omega))).wr W8 (Or.inr (by omega))).wr W12 (Or.inr (by omega))).ext E15).trans K16 (allS (Or.inr (by omega)) all0)), (by omega), f18, q16_0, f19⟩)
theorem d257 : decode jdk_40_method_47_code 59 = .ok (.aload_n 0, 1) := by decide +kernel
theorem d258 : decode jdk_40_method_47_code 60 = .ok (.invokestatic 109, 3) := by decide +kernel
theorem own_pd259 : parseMethodDescriptor "([Ljava/lang/Object;)Ljava/util/List;" = some ⟨[(.array (.object "java/lang/Object"))], some (.object "java/util/List")⟩ := by decide +kernel
theorem d260 : decode jdk_40_method_47_code 63 = .ok (.areturn, 1) := by decide +kernel
theorem own_of3 (l : Launch) (Z : State) (a0 : Array Value) (cx : Ctx Z a0) (ws : List Jvm.Cond) (a : Addr) (ka : ClassId) (s0_ : Addr) (s1_ : Addr) (s2_ : Addr) (dz : Addr) (el : Addr) (ee : Addr) (em : Addr) (mr : Addr) (kd : ClassId) (ke : ClassId) (vm0 : Vm) (h0 : Heap) (X00 : Ext Z.heap h0) (P0 : Arv Z h0 a ka (.object c8_) (3 : Int32) [(.ref s0_), (.ref s1_), (.ref s2_)] .null) (P1 : Exa Z h0 s0_ c9_) (P2 : Exa Z h0 s1_ c9_) (P3 : Exa Z h0 s2_ c9_) (hL : (OwnL Z dz el ee em mr kd ke)) :
    Met l mn217 jdk_40_method_47_code 2 (some (.object c16_)) ws ({ frames := 6, cells := 2, slots := 5, locals := 77 } : Room) Z consts_1 vm0 h0 #[(.ref a)] (fun rv vm h => ∃ (r : Addr), ∃ (g : Addr), ∃ (kg : ClassId), rv = some (.ref r) ∧ Keep h0 h [] ∧ h0.size ≤ r ∧ Exa Z h r c15_ ∧ Fld Z h r c15_ "elements" c3_ (.ref g) ∧ Arv Z h g kg (.object c8_) (3 : Int32) [(.ref s0_), (.ref s1_), (.ref s2_)] .null) := by
  obtain ⟨hw, hEL, ⟨zc, Scs, hzc⟩, ⟨fm, Sfm, hfm⟩, hL0⟩ := id cx
  have hSA := own_SA hw
  refine Met.of_walk (a0 := a0) #[vr a, un] (plainFor_of_name own_pn110) X00 hEL (fun m => by first | (simp [entryFrame, mkF, argsToLocals, Value.category]; done) | rfl) ?_
  intro p e s m below meth c vm hx hby hml hret hnm hC0 hW0
  have lt_a : h0.size > a := P0.lt
  have lt_s0_ : h0.size > s0_ := P1.lt
  have lt_s1_ : h0.size > s1_ := P2.lt
  have lt_s2_ : h0.size > s2_ := P3.lt
  obtain ⟨Sdz, Edz, Vdz, Sel, Eel, Fee, Vee, Fan, Sem, Eem, Mmr, Sas⟩ := id hL
  refine uAN 1 hx hby d206 rfl rfl rfl ?_
  refine glen hx P0 2 (hb hby d207) rfl ?_
  refine gx (mkF m 59 #[vr a, un] []) (fun T locs X _ _ _ target kq => X.tableswitchOut hx (g := (mkF m 2 #[vr a, un] [(.int (3 : Int32))])) rfl rfl (hb hby d208) (by decide) (show (0 : Int) ≤ ((2 : Nat) : Int) + 57 by decide) target kq) ?_
  refine uAN 60 hx hby d257 rfl rfl rfl ?_
  refine ginfo fun _ _ O1 => ?_
  refine gcallS (y := mn255) hx (ow hw 269 rfl) (ow hw 270 rfl) (ow hw 117 rfl) (ow hw 271 rfl) (by decide) (fun hZ H hEL => Pay.of_met (W := 0) (own_lfa3 l Z a0 cx [] (a) (ka) (s0_) (s1_) (s2_) vm h0 O1 P0 P1 P2 P3) (ow hw 271 rfl) (ow hw 117 rfl) (by decide) (by decide) hZ H hEL) 63 (argsL := [(.ref a)]) (rest := []) (lenOf own_pd259 rfl) rfl rfl (Nat.le_of_eq rfl) (by rw [hml]; rfl) (hb hby d258) rfl (by decide) (by decide) ?_
  rintro _ vm1 h1 C1 ⟨r1, g1, kg1, rfl, K1, q1_0, q1_1, q1_2, q1_3⟩
  have z1 := C1.2.1
  have lt_r1 : h1.size > r1 := q1_1.lt
  have lt_g1 : h1.size > g1 := q1_3.lt
  refine gat (mkF m 63 #[vr a, un] [(.ref r1)]) rfl ?_
  exact gretA hx hret rfl rfl (hb hby d260) (by decide) (by decide) (fun vq Cq => ⟨r1, g1, kg1, rfl, ((Keep.refl h0 []).trans K1 all0), (by omega), q1_1, q1_2, q1_3⟩)
theorem d261 : decode jdk_56_method_3_code 0 = .ok (.aload_n 0, 1) := by decide +kernel
theorem d262 : decode jdk_56_method_3_code 1 = .ok (.instanceof 10, 3) := by decide +kernel
theorem d263 : decode jdk_56_method_3_code 4 = .ok (.ifCond .ne 22, 3) := by decide +kernel
theorem d264 : decode jdk_56_method_3_code 7 = .ok (.aload_n 0, 1) := by decide +kernel
theorem d265 : decode jdk_56_method_3_code 8 = .ok (.instanceof 12, 3) := by decide +kernel
theorem d266 : decode jdk_56_method_3_code 11 = .ok (.ifCond .eq 20, 3) := by decide +kernel
theorem d267 : decode jdk_56_method_3_code 31 = .ok (.aload_n 0, 1) := by decide +kernel
theorem d268 : decode jdk_56_method_3_code 32 = .ok (.invokeinterface 20 1, 5) := by decide +kernel
theorem own_pd269 : parseMethodDescriptor "()Z" = some ⟨[], some .boolean⟩ := by decide +kernel
abbrev mn270 : MethodName := ⟨"java/util/Collection", "isEmpty", "()Z"⟩
theorem d271 : decode jdk_56_method_3_code 37 = .ok (.ifCond .eq 7, 3) := by decide +kernel
theorem d272 : decode jdk_56_method_3_code 40 = .ok (.invokestatic 26, 3) := by decide +kernel
theorem own_pd273 : parseMethodDescriptor "()Ljava/util/List;" = some ⟨[], some (.object "java/util/List")⟩ := by decide +kernel
theorem d274 : decode jdk_56_method_3_code 43 = .ok (.areturn, 1) := by decide +kernel
abbrev mn275 : MethodName := ⟨"java/util/ImmutableCollections", "listCopy", "(Ljava/util/Collection;)Ljava/util/List;"⟩
theorem own_lc0 (l : Launch) (Z : State) (a0 : Array Value) (cx : Ctx Z a0) (ws : List Jvm.Cond) (x : Addr) (dz : Addr) (el : Addr) (ee : Addr) (em : Addr) (mr : Addr) (kd : ClassId) (ke : ClassId) (vm0 : Vm) (h0 : Heap) (X00 : Ext Z.heap h0) (P0 : Exa Z h0 x c11_) (P1 : Fld Z h0 x c11_ c7_ c3_ (.ref dz)) (P2 : Fld Z h0 x c11_ "size" "I" (.int (0 : Int32))) (hL : (OwnL Z dz el ee em mr kd ke)) :
    Met l mn275 jdk_56_method_3_code 2 (some (.object c16_)) ws ({ frames := 1, cells := 0, slots := 0, locals := 12 } : Room) Z consts_1 vm0 h0 #[(.ref x)] (fun rv vm h => rv = some (.ref el) ∧ Keep h0 h []) := by
  obtain ⟨hw, hEL, ⟨zc, Scs, hzc⟩, ⟨fm, Sfm, hfm⟩, hL0⟩ := id cx
  have hSA := own_SA hw
  refine Met.of_walk (a0 := a0) #[vr x, un] (plainFor_of_name own_pn256) X00 hEL (fun m => by first | (simp [entryFrame, mkF, argsToLocals, Value.category]; done) | rfl) ?_
  intro p e s m below meth c vm hx hby hml hret hnm hC0 hW0
  have lt_x : h0.size > x := P0.lt
  obtain ⟨Sdz, Edz, Vdz, Sel, Eel, Fee, Vee, Fan, Sem, Eem, Mmr, Sas⟩ := id hL
  refine uAN 1 hx hby d261 rfl rfl rfl ?_
  refine ginstN hx (ow hw 119 rfl) P0 (NSno (ow hw 120 rfl) (ow hw 317 rfl) (NS.step (ow hw 120 rfl) (NS.step (ow hw 121 rfl) (NS.step (ow hw 122 rfl) (NSroot (ow hw 123 rfl) (ow hw 317 rfl) (by decide)) (by decide)) (by decide)) (by decide)) (by decide)) 4 (hb hby d262) rfl ?_
  refine gs (mkF m 7 #[vr x, un] []) (fun _ _ A kq => XS.ifNo A hx rfl (hb hby d263) rfl ((if0 _ _).trans (teq (by decide)).2) kq) ?_
  refine uAN 8 hx hby d264 rfl rfl rfl ?_
  refine ginstN hx (ow hw 124 rfl) P0 (NSno (ow hw 120 rfl) (ow hw 277 rfl) (NS.step (ow hw 120 rfl) (NS.step (ow hw 121 rfl) (NS.step (ow hw 122 rfl) (NSroot (ow hw 123 rfl) (ow hw 277 rfl) (by decide)) (by decide)) (by decide)) (by decide)) (by decide)) 11 (hb hby d265) rfl ?_
  refine gs (mkF m 31 #[vr x, un] []) (fun _ _ A kq => XS.ifYes A hx rfl (pc0 := 11) (pc' := 31) rfl (hb hby d266) rfl ((if0 _ _).trans (teq (by decide)).1) (by decide) (by decide) kq) ?_
  refine uAN 32 hx hby d267 rfl rfl rfl ?_
  refine ginfo fun _ _ O1 => ?_
  refine gcallF (xi := mn270) (y := mn105) hx (ow hw 125 rfl) (ow hw 126 rfl) (fun _ _ hU => mvT hU (ow hw 127 rfl)) (ow hw 128 rfl) (ow hw 129 rfl) (ow hw 130 rfl) (ow hw 131 rfl) (ow hw 132 rfl) (by decide) (fun hZ H hEL => Pay.of_met (W := 0) (own_alempty0 l Z a0 cx [] (x) vm h0 O1 P2) (ow hw 133 rfl) (ow hw 36 rfl) (by decide) (by decide) hZ H hEL) 37 (argsL := []) (rest := []) P0 (lenOf own_pd269 rfl) rfl rfl (Nat.le_of_eq rfl) (by rw [hml]; rfl) (hb hby d268) rfl (by decide) (by decide) ?_
  rintro _ vm1 h1 C1 ⟨rfl, rfl⟩
  have z1 := C1.2.1
  refine gat (mkF m 37 #[vr x, un] [(.int (1 : Int32))]) rfl ?_
  refine gs (mkF m 40 #[vr x, un] []) (fun _ _ A kq => XS.ifNo A hx rfl (hb hby d271) rfl ((if0 _ _).trans (feq (by decide)).1) kq) ?_
  refine ginfo fun _ _ O2 => ?_
  refine gcallS (y := mn109) hx (ow hw 134 rfl) (ow hw 135 rfl) (ow hw 113 rfl) (ow hw 136 rfl) (by decide) (fun hZ H hEL => Pay.of_met (W := 0) (own_of0 l Z a0 cx [] (dz) (el) (ee) (em) (mr) (kd) (ke) vm1 h0 O2 (by first | assumption | decide | omega)) (ow hw 136 rfl) (ow hw 113 rfl) (by decide) (by decide) hZ H hEL) 43 (argsL := []) (rest := []) (lenOf own_pd273 rfl) rfl rfl (Nat.le_of_eq rfl) (by rw [hml]; rfl) (hb hby d272) rfl (by decide) (by decide) ?_
  rintro _ vm2 h2 C2 ⟨rfl, rfl⟩
  have z2 := C2.2.1
  refine gat (mkF m 43 #[vr x, un] [(.ref el)]) rfl ?_
  exact gretA hx hret rfl rfl (hb hby d274) (by decide) (by decide) (fun vq Cq => ⟨rfl, (Keep.refl h0 [])⟩)
theorem d276 : decode jdk_40_method_48_code 0 = .ok (.aload_n 0, 1) := by decide +kernel
theorem d277 : decode jdk_40_method_48_code 1 = .ok (.invokestatic 112, 3) := by decide +kernel
theorem own_pd278 : parseMethodDescriptor "(Ljava/util/Collection;)Ljava/util/List;" = some ⟨[(.object "java/util/Collection")], some (.object "java/util/List")⟩ := by decide +kernel
theorem d279 : decode jdk_40_method_48_code 4 = .ok (.areturn, 1) := by decide +kernel
abbrev mn280 : MethodName := ⟨"java/util/List", "copyOf", "(Ljava/util/Collection;)Ljava/util/List;"⟩
theorem own_copy0 (l : Launch) (Z : State) (a0 : Array Value) (cx : Ctx Z a0) (ws : List Jvm.Cond) (x : Addr) (dz : Addr) (el : Addr) (ee : Addr) (em : Addr) (mr : Addr) (kd : ClassId) (ke : ClassId) (vm0 : Vm) (h0 : Heap) (X00 : Ext Z.heap h0) (P0 : Exa Z h0 x c11_) (P1 : Fld Z h0 x c11_ c7_ c3_ (.ref dz)) (P2 : Fld Z h0 x c11_ "size" "I" (.int (0 : Int32))) (hL : (OwnL Z dz el ee em mr kd ke)) :
    Met l mn280 jdk_40_method_48_code 1 (some (.object c16_)) ws ({ frames := 2, cells := 0, slots := 0, locals := 25 } : Room) Z consts_1 vm0 h0 #[(.ref x)] (fun rv vm h => rv = some (.ref el) ∧ Keep h0 h []) := by
  obtain ⟨hw, hEL, ⟨zc, Scs, hzc⟩, ⟨fm, Sfm, hfm⟩, hL0⟩ := id cx
  have hSA := own_SA hw
  refine Met.of_walk (a0 := a0) #[vr x] (plainFor_of_name own_pn110) X00 hEL (fun m => by first | (simp [entryFrame, mkF, argsToLocals, Value.category]; done) | rfl) ?_
  intro p e s m below meth c vm hx hby hml hret hnm hC0 hW0
  have lt_x : h0.size > x := P0.lt
  obtain ⟨Sdz, Edz, Vdz, Sel, Eel, Fee, Vee, Fan, Sem, Eem, Mmr, Sas⟩ := id hL
  refine uAN 1 hx hby d276 rfl rfl rfl ?_
  refine ginfo fun _ _ O1 => ?_
  refine gcallS (y := mn275) hx (ow hw 115 rfl) (ow hw 116 rfl) (ow hw 117 rfl) (ow hw 118 rfl) (by decide) (fun hZ H hEL => Pay.of_met (W := 0) (own_lc0 l Z a0 cx [] (x) (dz) (el) (ee) (em) (mr) (kd) (ke) vm h0 O1 P0 P1 P2 (by first | assumption | decide | omega)) (ow hw 118 rfl) (ow hw 117 rfl) (by decide) (by decide) hZ H hEL) 4 (argsL := [(.ref x)]) (rest := []) (lenOf own_pd278 rfl) rfl rfl (Nat.le_of_eq rfl) (by rw [hml]; rfl) (hb hby d277) rfl (by decide) (by decide) ?_
  rintro _ vm1 h1 C1 ⟨rfl, K1⟩
  have z1 := C1.2.1
  refine gat (mkF m 4 #[vr x] [(.ref el)]) rfl ?_
  exact gretA hx hret rfl rfl (hb hby d279) (by decide) (by decide) (fun vq Cq => ⟨rfl, ((Keep.refl h0 []).trans K1 all0)⟩)
theorem d281 : decode jdk_45_method_3_code 0 = .ok (.aload_n 0, 1) := by decide +kernel
theorem d282 : decode jdk_45_method_3_code 1 = .ok (.getfield 7, 3) := by decide +kernel
theorem d283 : decode jdk_45_method_3_code 4 = .ok (.arraylength, 1) := by decide +kernel
theorem d284 : decode jdk_45_method_3_code 5 = .ok (.ireturn, 1) := by decide +kernel
abbrev mn285 : MethodName := ⟨"java/util/ImmutableCollections$ListN", "size", "()I"⟩
theorem own_lsize0 (l : Launch) (Z : State) (a0 : Array Value) (cx : Ctx Z a0) (ws : List Jvm.Cond) (dz : Addr) (el : Addr) (ee : Addr) (em : Addr) (mr : Addr) (kd : ClassId) (ke : ClassId) (vm0 : Vm) (h0 : Heap) (X00 : Ext Z.heap h0) (hL : (OwnL Z dz el ee em mr kd ke)) :
    Met l mn285 jdk_45_method_3_code 1 (some .int) ws ({ frames := 0, cells := 0, slots := 0, locals := 0 } : Room) Z consts_1 vm0 h0 #[(.ref el)] (fun rv vm h => rv = some (.int (0 : Int32)) ∧ h0 = h) := by
  obtain ⟨hw, hEL, ⟨zc, Scs, hzc⟩, ⟨fm, Sfm, hfm⟩, hL0⟩ := id cx
  have hSA := own_SA hw
  refine Met.of_walk (a0 := a0) #[vr el] (plainFor_of_name own_pn162) X00 hEL (fun m => by first | (simp [entryFrame, mkF, argsToLocals, Value.category]; done) | rfl) ?_
  intro p e s m below meth c vm hx hby hml hret hnm hC0 hW0
  obtain ⟨Sdz, Edz, Vdz, Sel, Eel, Fee, Vee, Fan, Sem, Eem, Mmr, Sas⟩ := id hL
  refine ginfo fun _ _ OL1 => ?_
  have Fee_1 := Fee.ext OL1
  have Vee_1 := Vee.ext OL1
  have lt_el : h0.size > el := Fee_1.lt
  have lt_ee : h0.size > ee := Vee_1.lt
  refine uAN 1 hx hby d281 rfl rfl rfl ?_
  refine ggetF (host := "") hx (Or.inl (ow hw 202 rfl)) Via.refl Fee_1 4 (hb hby d282) rfl ?_
  refine glen hx Vee_1 5 (hb hby d283) rfl ?_
  exact gretI hx hret (hb hby d284) (by decide) (by decide) (fun vq Cq => ⟨rfl, rfl⟩)
theorem d286 : decode jdk_56_method_3_code 44 = .ok (.aload_n 0, 1) := by decide +kernel
theorem d287 : decode jdk_56_method_3_code 45 = .ok (.invokeinterface 30 1, 5) := by decide +kernel
abbrev mn288 : MethodName := ⟨"java/util/Collection", "toArray", "()[Ljava/lang/Object;"⟩
theorem d289 : decode jdk_56_method_3_code 50 = .ok (.invokestatic 34, 3) := by decide +kernel
theorem d290 : decode jdk_56_method_3_code 53 = .ok (.areturn, 1) := by decide +kernel
theorem own_lc1 (l : Launch) (Z : State) (a0 : Array Value) (cx : Ctx Z a0) (ws : List Jvm.Cond) (x : Addr) (d : Addr) (kc : ClassId) (s0_ : Addr) (dz : Addr) (el : Addr) (ee : Addr) (em : Addr) (mr : Addr) (kd : ClassId) (ke : ClassId) (vm0 : Vm) (h0 : Heap) (X00 : Ext Z.heap h0) (P0 : Exa Z h0 x c11_) (P1 : Fld Z h0 x c11_ c7_ c3_ (.ref d)) (P2 : Fld Z h0 x c11_ "size" "I" (.int (1 : Int32))) (P3 : Arv Z h0 d kc (.object c8_) (10 : Int32) [(.ref s0_), .null, .null, .null, .null, .null, .null, .null, .null, .null] .null) (P4 : Exa Z h0 d c3_) (hov : (Ovr Z kc c8_)) (P6 : Exa Z h0 s0_ c9_) (hL : (OwnL Z dz el ee em mr kd ke)) :
    Met l mn275 jdk_56_method_3_code 2 (some (.object c16_)) ws ({ frames := 6, cells := 2, slots := 3, locals := 75 } : Room) Z consts_1 vm0 h0 #[(.ref x)] (fun rv vm h => ∃ (r : Addr), rv = some (.ref r) ∧ Keep h0 h [] ∧ h0.size ≤ r ∧ Exa Z h r c14_ ∧ Fld Z h r c14_ "e0" c0_ (.ref s0_) ∧ Fld Z h r c14_ "e1" c0_ (.ref em)) := by
  obtain ⟨hw, hEL, ⟨zc, Scs, hzc⟩, ⟨fm, Sfm, hfm⟩, hL0⟩ := id cx
  have hSA := own_SA hw
  refine Met.of_walk (a0 := a0) #[vr x, un] (plainFor_of_name own_pn256) X00 hEL (fun m => by first | (simp [entryFrame, mkF, argsToLocals, Value.category]; done) | rfl) ?_
  intro p e s m below meth c vm hx hby hml hret hnm hC0 hW0
  have lt_x : h0.size > x := P0.lt
  have lt_d : h0.size > d := P3.lt
  have lt_s0_ : h0.size > s0_ := P6.lt
  obtain ⟨Sdz, Edz, Vdz, Sel, Eel, Fee, Vee, Fan, Sem, Eem, Mmr, Sas⟩ := id hL
  refine uAN 1 hx hby d261 rfl rfl rfl ?_
  refine ginstN hx (ow hw 119 rfl) P0 (NSno (ow hw 120 rfl) (ow hw 317 rfl) (NS.step (ow hw 120 rfl) (NS.step (ow hw 121 rfl) (NS.step (ow hw 122 rfl) (NSroot (ow hw 123 rfl) (ow hw 317 rfl) (by decide)) (by decide)) (by decide)) (by decide)) (by decide)) 4 (hb hby d262) rfl ?_
  refine gs (mkF m 7 #[vr x, un] []) (fun _ _ A kq => XS.ifNo A hx rfl (hb hby d263) rfl ((if0 _ _).trans (teq (by decide)).2) kq) ?_
  refine uAN 8 hx hby d264 rfl rfl rfl ?_
  refine ginstN hx (ow hw 124 rfl) P0 (NSno (ow hw 120 rfl) (ow hw 277 rfl) (NS.step (ow hw 120 rfl) (NS.step (ow hw 121 rfl) (NS.step (ow hw 122 rfl) (NSroot (ow hw 123 rfl) (ow hw 277 rfl) (by decide)) (by decide)) (by decide)) (by decide)) (by decide)) 11 (hb hby d265) rfl ?_
  refine gs (mkF m 31 #[vr x, un] []) (fun _ _ A kq => XS.ifYes A hx rfl (pc0 := 11) (pc' := 31) rfl (hb hby d266) rfl ((if0 _ _).trans (teq (by decide)).1) (by decide) (by decide) kq) ?_
  refine uAN 32 hx hby d267 rfl rfl rfl ?_
  refine ginfo fun _ _ O1 => ?_
  refine gcallF (xi := mn270) (y := mn105) hx (ow hw 125 rfl) (ow hw 126 rfl) (fun _ _ hU => mvT hU (ow hw 127 rfl)) (ow hw 128 rfl) (ow hw 129 rfl) (ow hw 130 rfl) (ow hw 131 rfl) (ow hw 132 rfl) (by decide) (fun hZ H hEL => Pay.of_met (W := 0) (own_alempty1 l Z a0 cx [] (x) vm h0 O1 P2) (ow hw 133 rfl) (ow hw 36 rfl) (by decide) (by decide) hZ H hEL) 37 (argsL := []) (rest := []) P0 (lenOf own_pd269 rfl) rfl rfl (Nat.le_of_eq rfl) (by rw [hml]; rfl) (hb hby d268) rfl (by decide) (by decide) ?_
  rintro _ vm1 h1 C1 ⟨rfl, rfl⟩
  have z1 := C1.2.1
  refine gat (mkF m 37 #[vr x, un] [(.int (0 : Int32))]) rfl ?_
  refine gs (mkF m 44 #[vr x, un] []) (fun _ _ A kq => XS.ifYes A hx rfl (pc0 := 37) (pc' := 44) rfl (hb hby d271) rfl ((if0 _ _).trans (teq (by decide)).1) (by decide) (by decide) kq) ?_
  refine uAN 45 hx hby d286 rfl rfl rfl ?_
  refine ginfo fun _ _ O2 => ?_
  refine gcallF (xi := mn288) (y := mn205) hx (ow hw 236 rfl) (ow hw 237 rfl) (fun _ _ hU => mvT hU (ow hw 238 rfl)) (ow hw 239 rfl) (ow hw 240 rfl) (ow hw 241 rfl) (ow hw 242 rfl) (ow hw 132 rfl) (by decide) (fun hZ H hEL => Pay.of_met (W := 0) (own_toarr1 l Z a0 cx [] (x) (d) (kc) (s0_) (dz) (el) (ee) (em) (mr) (kd) (ke) vm1 h0 O2 P0 P1 P2 P3 P4 (by first | assumption | decide | omega) P6 (by first | assumption | decide | omega)) (ow hw 243 rfl) (ow hw 36 rfl) (by decide) (by decide) hZ H hEL) 50 (argsL := []) (rest := []) P0 (lenOf own_pd65 rfl) rfl rfl (Nat.le_of_eq rfl) (by rw [hml]; rfl) (hb hby d287) rfl (by decide) (by decide) ?_
  rintro _ vm2 h2 C2 ⟨r2, kr2, rfl, K2, q2_0, q2_1⟩
  have z2 := C2.2.1
  have lt_r2 : h2.size > r2 := q2_1.lt
  refine gat (mkF m 50 #[vr x, un] [(.ref r2)]) rfl ?_
  have f4 := (P6.keep K2)
  refine ginfo fun _ _ O3 => ?_
  refine gcallS (y := mn217) hx (ow hw 266 rfl) (ow hw 267 rfl) (ow hw 113 rfl) (ow hw 268 rfl) (by decide) (fun hZ H hEL => Pay.of_met (W := 0) (own_of1 l Z a0 cx [] (r2) (kr2) (s0_) (dz) (el) (ee) (em) (mr) (kd) (ke) vm2 h2 O3 q2_1 f4 (by first | assumption | decide | omega)) (ow hw 268 rfl) (ow hw 113 rfl) (by decide) (by decide) hZ H hEL) 53 (argsL := [(.ref r2)]) (rest := []) (lenOf own_pd259 rfl) rfl rfl (Nat.le_of_eq rfl) (by rw [hml]; rfl) (hb hby d289) rfl (by decide) (by decide) ?_
  rintro _ vm3 h3 C3 ⟨r3, rfl, K3, q3_0, q3_1, q3_2, q3_3⟩
  have z3 := C3.2.1
  have lt_r3 : h3.size > r3 := q3_1.lt
  refine gat (mkF m 53 #[vr x, un] [(.ref r3)]) rfl ?_
  exact gretA hx hret rfl rfl (hb hby d290) (by decide) (by decide) (fun vq Cq => ⟨r3, rfl, (((Keep.refl h0 []).trans K2 all0).trans K3 all0), (by omega), q3_1, q3_2, q3_3⟩)
theorem own_copy1 (l : Launch) (Z : State) (a0 : Array Value) (cx : Ctx Z a0) (ws : List Jvm.Cond) (x : Addr) (d : Addr) (kc : ClassId) (s0_ : Addr) (dz : Addr) (el : Addr) (ee : Addr) (em : Addr) (mr : Addr) (kd : ClassId) (ke : ClassId) (vm0 : Vm) (h0 : Heap) (X00 : Ext Z.heap h0) (P0 : Exa Z h0 x c11_) (P1 : Fld Z h0 x c11_ c7_ c3_ (.ref d)) (P2 : Fld Z h0 x c11_ "size" "I" (.int (1 : Int32))) (P3 : Arv Z h0 d kc (.object c8_) (10 : Int32) [(.ref s0_), .null, .null, .null, .null, .null, .null, .null, .null, .null] .null) (P4 : Exa Z h0 d c3_) (hov : (Ovr Z kc c8_)) (P6 : Exa Z h0 s0_ c9_) (hL : (OwnL Z dz el ee em mr kd ke)) :
    Met l mn280 jdk_40_method_48_code 1 (some (.object c16_)) ws ({ frames := 7, cells := 2, slots := 3, locals := 88 } : Room) Z consts_1 vm0 h0 #[(.ref x)] (fun rv vm h => ∃ (r : Addr), rv = some (.ref r) ∧ Keep h0 h [] ∧ h0.size ≤ r ∧ Exa Z h r c14_ ∧ Fld Z h r c14_ "e0" c0_ (.ref s0_) ∧ Fld Z h r c14_ "e1" c0_ (.ref em)) := by
  obtain ⟨hw, hEL, ⟨zc, Scs, hzc⟩, ⟨fm, Sfm, hfm⟩, hL0⟩ := id cx
  have hSA := own_SA hw
  refine Met.of_walk (a0 := a0) #[vr x] (plainFor_of_name own_pn110) X00 hEL (fun m => by first | (simp [entryFrame, mkF, argsToLocals, Value.category]; done) | rfl) ?_
  intro p e s m below meth c vm hx hby hml hret hnm hC0 hW0
  have lt_x : h0.size > x := P0.lt
  have lt_d : h0.size > d := P3.lt
  have lt_s0_ : h0.size > s0_ := P6.lt
  obtain ⟨Sdz, Edz, Vdz, Sel, Eel, Fee, Vee, Fan, Sem, Eem, Mmr, Sas⟩ := id hL
  refine uAN 1 hx hby d276 rfl rfl rfl ?_
  refine ginfo fun _ _ O1 => ?_
  refine gcallS (y := mn275) hx (ow hw 115 rfl) (ow hw 116 rfl) (ow hw 117 rfl) (ow hw 118 rfl) (by decide) (fun hZ H hEL => Pay.of_met (W := 0) (own_lc1 l Z a0 cx [] (x) (d) (kc) (s0_) (dz) (el) (ee) (em) (mr) (kd) (ke) vm h0 O1 P0 P1 P2 P3 P4 (by first | assumption | decide | omega) P6 (by first | assumption | decide | omega)) (ow hw 118 rfl) (ow hw 117 rfl) (by decide) (by decide) hZ H hEL) 4 (argsL := [(.ref x)]) (rest := []) (lenOf own_pd278 rfl) rfl rfl (Nat.le_of_eq rfl) (by rw [hml]; rfl) (hb hby d277) rfl (by decide) (by decide) ?_
  rintro _ vm1 h1 C1 ⟨r1, rfl, K1, q1_0, q1_1, q1_2, q1_3⟩
  have z1 := C1.2.1
  have lt_r1 : h1.size > r1 := q1_1.lt
  refine gat (mkF m 4 #[vr x] [(.ref r1)]) rfl ?_
  exact gretA hx hret rfl rfl (hb hby d279) (by decide) (by decide) (fun vq Cq => ⟨r1, rfl, ((Keep.refl h0 []).trans K1 all0), (by omega), q1_1, q1_2, q1_3⟩)
theorem d291 : decode jdk_44_method_3_code 0 = .ok (.aload_n 0, 1) := by decide +kernel
theorem d292 : decode jdk_44_method_3_code 1 = .ok (.getfield 24, 3) := by decide +kernel
theorem d293 : decode jdk_44_method_3_code 4 = .ok (.getstatic 19, 3) := by decide +kernel
theorem d294 : decode jdk_44_method_3_code 7 = .ok (.if_acmp .eq 7, 3) := by decide +kernel
theorem d295 : decode jdk_44_method_3_code 14 = .ok (.iconst 1, 1) := by decide +kernel
theorem d296 : decode jdk_44_method_3_code 15 = .ok (.ireturn, 1) := by decide +kernel
abbrev mn297 : MethodName := ⟨"java/util/ImmutableCollections$List12", "size", "()I"⟩
theorem own_lsize1 (l : Launch) (Z : State) (a0 : Array Value) (cx : Ctx Z a0) (ws : List Jvm.Cond) (r : Addr) (s0_ : Addr) (dz : Addr) (el : Addr) (ee : Addr) (em : Addr) (mr : Addr) (kd : ClassId) (ke : ClassId) (vm0 : Vm) (h0 : Heap) (X00 : Ext Z.heap h0) (P0 : Exa Z h0 r c14_) (P1 : Fld Z h0 r c14_ "e0" c0_ (.ref s0_)) (P2 : Fld Z h0 r c14_ "e1" c0_ (.ref em)) (P3 : Exa Z h0 s0_ c9_) (hL : (OwnL Z dz el ee em mr kd ke)) :
    Met l mn297 jdk_44_method_3_code 1 (some .int) ws ({ frames := 0, cells := 0, slots := 0, locals := 0 } : Room) Z consts_1 vm0 h0 #[(.ref r)] (fun rv vm h => rv = some (.int (1 : Int32)) ∧ h0 = h) := by
  obtain ⟨hw, hEL, ⟨zc, Scs, hzc⟩, ⟨fm, Sfm, hfm⟩, hL0⟩ := id cx
  have hSA := own_SA hw
  refine Met.of_walk (a0 := a0) #[vr r] (plainFor_of_name own_pn139) X00 hEL (fun m => by first | (simp [entryFrame, mkF, argsToLocals, Value.category]; done) | rfl) ?_
  intro p e s m below meth c vm hx hby hml hret hnm hC0 hW0
  have lt_r : h0.size > r := P0.lt
  have lt_s0_ : h0.size > s0_ := P3.lt
  obtain ⟨Sdz, Edz, Vdz, Sel, Eel, Fee, Vee, Fan, Sem, Eem, Mmr, Sas⟩ := id hL
  refine ginfo fun _ _ OL1 => ?_
  have Eem_1 := Eem.ext OL1
  have lt_em : h0.size > em := Eem_1.lt
  refine uAN 1 hx hby d291 rfl rfl rfl ?_
  refine ggetF (host := "") hx (Or.inl (ow hw 330 rfl)) Via.refl P2 4 (hb hby d292) rfl ?_
  refine ggetS (host := c13_) hx (Or.inr (ow hw 338 rfl)) Via.refl Sem 7 (hb hby d293) rfl ?_
  refine gx (mkF m 14 #[vr r] []) (fun T locs X _ _ _ _ kq => Jvm.RoadKit.acmp (g := (mkF m 7 #[vr r] [(.ref em), (.ref em)])) X hx rfl rfl rfl (pc0 := 7) (pc' := 14) (same := true) rfl (hb hby d294) rfl (decide_eq_true rfl) (by decide) (by decide) kq) ?_
  refine gs (mkF m 15 #[vr r] [(.int (1 : Int32))]) (fun _ _ A kq => XS.iconst A hx rfl (hb hby d295) kq) ?_
  exact gretI hx hret (hb hby d296) (by decide) (by decide) (fun vq Cq => ⟨rfl, rfl⟩)
theorem d298 : decode jdk_44_method_5_code 0 = .ok (.iload_n 1, 1) := by decide +kernel
theorem d299 : decode jdk_44_method_5_code 1 = .ok (.ifCond .ne 8, 3) := by decide +kernel
theorem d300 : decode jdk_44_method_5_code 4 = .ok (.aload_n 0, 1) := by decide +kernel
theorem d301 : decode jdk_44_method_5_code 5 = .ok (.getfield 13, 3) := by decide +kernel
theorem d302 : decode jdk_44_method_5_code 8 = .ok (.areturn, 1) := by decide +kernel
abbrev mn303 : MethodName := ⟨"java/util/ImmutableCollections$List12", "get", "(I)Ljava/lang/Object;"⟩
theorem own_lget1_0 (l : Launch) (Z : State) (a0 : Array Value) (cx : Ctx Z a0) (ws : List Jvm.Cond) (r : Addr) (s0_ : Addr) (dz : Addr) (el : Addr) (ee : Addr) (em : Addr) (mr : Addr) (kd : ClassId) (ke : ClassId) (vm0 : Vm) (h0 : Heap) (X00 : Ext Z.heap h0) (P0 : Exa Z h0 r c14_) (P1 : Fld Z h0 r c14_ "e0" c0_ (.ref s0_)) (P2 : Fld Z h0 r c14_ "e1" c0_ (.ref em)) (P3 : Exa Z h0 s0_ c9_) (hL : (OwnL Z dz el ee em mr kd ke)) :
    Met l mn303 jdk_44_method_5_code 2 (some (.object c8_)) ws ({ frames := 0, cells := 0, slots := 0, locals := 0 } : Room) Z consts_1 vm0 h0 #[(.ref r), (.int (0 : Int32))] (fun rv vm h => rv = some (.ref s0_) ∧ h0 = h) := by
  obtain ⟨hw, hEL, ⟨zc, Scs, hzc⟩, ⟨fm, Sfm, hfm⟩, hL0⟩ := id cx
  have hSA := own_SA hw
  refine Met.of_walk (a0 := a0) #[vr r, vi (0 : Int32)] (plainFor_of_name own_pn139) X00 hEL (fun m => by first | (simp [entryFrame, mkF, argsToLocals, Value.category]; done) | rfl) ?_
  intro p e s m below meth c vm hx hby hml hret hnm hC0 hW0
  have lt_r : h0.size > r := P0.lt
  have lt_s0_ : h0.size > s0_ := P3.lt
  obtain ⟨Sdz, Edz, Vdz, Sel, Eel, Fee, Vee, Fan, Sem, Eem, Mmr, Sas⟩ := id hL
  refine ginfo fun _ _ OL1 => ?_
  have Eem_1 := Eem.ext OL1
  have lt_em : h0.size > em := Eem_1.lt
  refine uIN 1 hx hby d298 rfl rfl ?_
  refine gs (mkF m 4 #[vr r, vi (0 : Int32)] []) (fun _ _ A kq => XS.ifNo A hx rfl (hb hby d299) rfl ((if0 _ _).trans (teq (by decide)).2) kq) ?_
  refine uAN 5 hx hby d300 rfl rfl rfl ?_
  refine ggetF (host := "") hx (Or.inl (ow hw 328 rfl)) Via.refl P1 8 (hb hby d301) rfl ?_
  exact gretA hx hret rfl rfl (hb hby d302) (by decide) (by decide) (fun vq Cq => ⟨rfl, rfl⟩)
theorem own_lc2 (l : Launch) (Z : State) (a0 : Array Value) (cx : Ctx Z a0) (ws : List Jvm.Cond) (x : Addr) (d : Addr) (kc : ClassId) (s0_ : Addr) (s1_ : Addr) (dz : Addr) (el : Addr) (ee : Addr) (em : Addr) (mr : Addr) (kd : ClassId) (ke : ClassId) (vm0 : Vm) (h0 : Heap) (X00 : Ext Z.heap h0) (P0 : Exa Z h0 x c11_) (P1 : Fld Z h0 x c11_ c7_ c3_ (.ref d)) (P2 : Fld Z h0 x c11_ "size" "I" (.int (2 : Int32))) (P3 : Arv Z h0 d kc (.object c8_) (10 : Int32) [(.ref s0_), (.ref s1_), .null, .null, .null, .null, .null, .null, .null, .null] .null) (P4 : Exa Z h0 d c3_) (hov : (Ovr Z kc c8_)) (P6 : Exa Z h0 s0_ c9_) (P7 : Exa Z h0 s1_ c9_) (hL : (OwnL Z dz el ee em mr kd ke)) :
    Met l mn275 jdk_56_method_3_code 2 (some (.object c16_)) ws ({ frames := 6, cells := 2, slots := 4, locals := 76 } : Room) Z consts_1 vm0 h0 #[(.ref x)] (fun rv vm h => ∃ (r : Addr), rv = some (.ref r) ∧ Keep h0 h [] ∧ h0.size ≤ r ∧ Exa Z h r c14_ ∧ Fld Z h r c14_ "e0" c0_ (.ref s0_) ∧ Fld Z h r c14_ "e1" c0_ (.ref s1_)) := by
  obtain ⟨hw, hEL, ⟨zc, Scs, hzc⟩, ⟨fm, Sfm, hfm⟩, hL0⟩ := id cx
  have hSA := own_SA hw
  refine Met.of_walk (a0 := a0) #[vr x, un] (plainFor_of_name own_pn256) X00 hEL (fun m => by first | (simp [entryFrame, mkF, argsToLocals, Value.category]; done) | rfl) ?_
  intro p e s m below meth c vm hx hby hml hret hnm hC0 hW0
  have lt_x : h0.size > x := P0.lt
  have lt_d : h0.size > d := P3.lt
  have lt_s0_ : h0.size > s0_ := P6.lt
  have lt_s1_ : h0.size > s1_ := P7.lt
  obtain ⟨Sdz, Edz, Vdz, Sel, Eel, Fee, Vee, Fan, Sem, Eem, Mmr, Sas⟩ := id hL
  refine uAN 1 hx hby d261 rfl rfl rfl ?_
  refine ginstN hx (ow hw 119 rfl) P0 (NSno (ow hw 120 rfl) (ow hw 317 rfl) (NS.step (ow hw 120 rfl) (NS.step (ow hw 121 rfl) (NS.step (ow hw 122 rfl) (NSroot (ow hw 123 rfl) (ow hw 317 rfl) (by decide)) (by decide)) (by decide)) (by decide)) (by decide)) 4 (hb hby d262) rfl ?_
  refine gs (mkF m 7 #[vr x, un] []) (fun _ _ A kq => XS.ifNo A hx rfl (hb hby d263) rfl ((if0 _ _).trans (teq (by decide)).2) kq) ?_
  refine uAN 8 hx hby d264 rfl rfl rfl ?_
  refine ginstN hx (ow hw 124 rfl) P0 (NSno (ow hw 120 rfl) (ow hw 277 rfl) (NS.step (ow hw 120 rfl) (NS.step (ow hw 121 rfl) (NS.step (ow hw 122 rfl) (NSroot (ow hw 123 rfl) (ow hw 277 rfl) (by decide)) (by decide)) (by decide)) (by decide)) (by decide)) 11 (hb hby d265) rfl ?_
  refine gs (mkF m 31 #[vr x, un] []) (fun _ _ A kq => XS.ifYes A hx rfl (pc0 := 11) (pc' := 31) rfl (hb hby d266) rfl ((if0 _ _).trans (teq (by decide)).1) (by decide) (by decide) kq) ?_
  refine uAN 32 hx hby d267 rfl rfl rfl ?_
  refine ginfo fun _ _ O1 => ?_
  refine gcallF (xi := mn270) (y := mn105) hx (ow hw 125 rfl) (ow hw 126 rfl) (fun _ _ hU => mvT hU (ow hw 127 rfl)) (ow hw 128 rfl) (ow hw 129 rfl) (ow hw 130 rfl) (ow hw 131 rfl) (ow hw 132 rfl) (by decide) (fun hZ H hEL => Pay.of_met (W := 0) (own_alempty2 l Z a0 cx [] (x) vm h0 O1 P2) (ow hw 133 rfl) (ow hw 36 rfl) (by decide) (by decide) hZ H hEL) 37 (argsL := []) (rest := []) P0 (lenOf own_pd269 rfl) rfl rfl (Nat.le_of_eq rfl) (by rw [hml]; rfl) (hb hby d268) rfl (by decide) (by decide) ?_
  rintro _ vm1 h1 C1 ⟨rfl, rfl⟩
  have z1 := C1.2.1
  refine gat (mkF m 37 #[vr x, un] [(.int (0 : Int32))]) rfl ?_
  refine gs (mkF m 44 #[vr x, un] []) (fun _ _ A kq => XS.ifYes A hx rfl (pc0 := 37) (pc' := 44) rfl (hb hby d271) rfl ((if0 _ _).trans (teq (by decide)).1) (by decide) (by decide) kq) ?_
  refine uAN 45 hx hby d286 rfl rfl rfl ?_
  refine ginfo fun _ _ O2 => ?_
  refine gcallF (xi := mn288) (y := mn205) hx (ow hw 236 rfl) (ow hw 237 rfl) (fun _ _ hU => mvT hU (ow hw 238 rfl)) (ow hw 239 rfl) (ow hw 240 rfl) (ow hw 241 rfl) (ow hw 242 rfl) (ow hw 132 rfl) (by decide) (fun hZ H hEL => Pay.of_met (W := 0) (own_toarr2 l Z a0 cx [] (x) (d) (kc) (s0_) (s1_) (dz) (el) (ee) (em) (mr) (kd) (ke) vm1 h0 O2 P0 P1 P2 P3 P4 (by first | assumption | decide | omega) P6 P7 (by first | assumption | decide | omega)) (ow hw 243 rfl) (ow hw 36 rfl) (by decide) (by decide) hZ H hEL) 50 (argsL := []) (rest := []) P0 (lenOf own_pd65 rfl) rfl rfl (Nat.le_of_eq rfl) (by rw [hml]; rfl) (hb hby d287) rfl (by decide) (by decide) ?_
  rintro _ vm2 h2 C2 ⟨r2, kr2, rfl, K2, q2_0, q2_1⟩
  have z2 := C2.2.1
  have lt_r2 : h2.size > r2 := q2_1.lt
  refine gat (mkF m 50 #[vr x, un] [(.ref r2)]) rfl ?_
  have f4 := (P6.keep K2)
  have f5 := (P7.keep K2)
  refine ginfo fun _ _ O3 => ?_
  refine gcallS (y := mn217) hx (ow hw 266 rfl) (ow hw 267 rfl) (ow hw 113 rfl) (ow hw 268 rfl) (by decide) (fun hZ H hEL => Pay.of_met (W := 0) (own_of2 l Z a0 cx [] (r2) (kr2) (s0_) (s1_) (dz) (el) (ee) (em) (mr) (kd) (ke) vm2 h2 O3 q2_1 f4 f5 (by first | assumption | decide | omega)) (ow hw 268 rfl) (ow hw 113 rfl) (by decide) (by decide) hZ H hEL) 53 (argsL := [(.ref r2)]) (rest := []) (lenOf own_pd259 rfl) rfl rfl (Nat.le_of_eq rfl) (by rw [hml]; rfl) (hb hby d289) rfl (by decide) (by decide) ?_
  rintro _ vm3 h3 C3 ⟨r3, rfl, K3, q3_0, q3_1, q3_2, q3_3⟩
  have z3 := C3.2.1
  have lt_r3 : h3.size > r3 := q3_1.lt
  refine gat (mkF m 53 #[vr x, un] [(.ref r3)]) rfl ?_
  exact gretA hx hret rfl rfl (hb hby d290) (by decide) (by decide) (fun vq Cq => ⟨r3, rfl, (((Keep.refl h0 []).trans K2 all0).trans K3 all0), (by omega), q3_1, q3_2, q3_3⟩)
theorem own_copy2 (l : Launch) (Z : State) (a0 : Array Value) (cx : Ctx Z a0) (ws : List Jvm.Cond) (x : Addr) (d : Addr) (kc : ClassId) (s0_ : Addr) (s1_ : Addr) (dz : Addr) (el : Addr) (ee : Addr) (em : Addr) (mr : Addr) (kd : ClassId) (ke : ClassId) (vm0 : Vm) (h0 : Heap) (X00 : Ext Z.heap h0) (P0 : Exa Z h0 x c11_) (P1 : Fld Z h0 x c11_ c7_ c3_ (.ref d)) (P2 : Fld Z h0 x c11_ "size" "I" (.int (2 : Int32))) (P3 : Arv Z h0 d kc (.object c8_) (10 : Int32) [(.ref s0_), (.ref s1_), .null, .null, .null, .null, .null, .null, .null, .null] .null) (P4 : Exa Z h0 d c3_) (hov : (Ovr Z kc c8_)) (P6 : Exa Z h0 s0_ c9_) (P7 : Exa Z h0 s1_ c9_) (hL : (OwnL Z dz el ee em mr kd ke)) :
    Met l mn280 jdk_40_method_48_code 1 (some (.object c16_)) ws ({ frames := 7, cells := 2, slots := 4, locals := 89 } : Room) Z consts_1 vm0 h0 #[(.ref x)] (fun rv vm h => ∃ (r : Addr), rv = some (.ref r) ∧ Keep h0 h [] ∧ h0.size ≤ r ∧ Exa Z h r c14_ ∧ Fld Z h r c14_ "e0" c0_ (.ref s0_) ∧ Fld Z h r c14_ "e1" c0_ (.ref s1_)) := by
  obtain ⟨hw, hEL, ⟨zc, Scs, hzc⟩, ⟨fm, Sfm, hfm⟩, hL0⟩ := id cx
  have hSA := own_SA hw
  refine Met.of_walk (a0 := a0) #[vr x] (plainFor_of_name own_pn110) X00 hEL (fun m => by first | (simp [entryFrame, mkF, argsToLocals, Value.category]; done) | rfl) ?_
  intro p e s m below meth c vm hx hby hml hret hnm hC0 hW0
  have lt_x : h0.size > x := P0.lt
  have lt_d : h0.size > d := P3.lt
  have lt_s0_ : h0.size > s0_ := P6.lt
  have lt_s1_ : h0.size > s1_ := P7.lt
  obtain ⟨Sdz, Edz, Vdz, Sel, Eel, Fee, Vee, Fan, Sem, Eem, Mmr, Sas⟩ := id hL
  refine uAN 1 hx hby d276 rfl rfl rfl ?_
  refine ginfo fun _ _ O1 => ?_
  refine gcallS (y := mn275) hx (ow hw 115 rfl) (ow hw 116 rfl) (ow hw 117 rfl) (ow hw 118 rfl) (by decide) (fun hZ H hEL => Pay.of_met (W := 0) (own_lc2 l Z a0 cx [] (x) (d) (kc) (s0_) (s1_) (dz) (el) (ee) (em) (mr) (kd) (ke) vm h0 O1 P0 P1 P2 P3 P4 (by first | assumption | decide | omega) P6 P7 (by first | assumption | decide | omega)) (ow hw 118 rfl) (ow hw 117 rfl) (by decide) (by decide) hZ H hEL) 4 (argsL := [(.ref x)]) (rest := []) (lenOf own_pd278 rfl) rfl rfl (Nat.le_of_eq rfl) (by rw [hml]; rfl) (hb hby d277) rfl (by decide) (by decide) ?_
  rintro _ vm1 h1 C1 ⟨r1, rfl, K1, q1_0, q1_1, q1_2, q1_3⟩
  have z1 := C1.2.1
  have lt_r1 : h1.size > r1 := q1_1.lt
  refine gat (mkF m 4 #[vr x] [(.ref r1)]) rfl ?_
  exact gretA hx hret rfl rfl (hb hby d279) (by decide) (by decide) (fun vq Cq => ⟨r1, rfl, ((Keep.refl h0 []).trans K1 all0), (by omega), q1_1, q1_2, q1_3⟩)
theorem d304 : decode jdk_44_method_3_code 10 = .ok (.iconst 2, 1) := by decide +kernel
theorem d305 : decode jdk_44_method_3_code 11 = .ok (.goto 4, 3) := by decide +kernel
theorem own_lsize2 (l : Launch) (Z : State) (a0 : Array Value) (cx : Ctx Z a0) (ws : List Jvm.Cond) (r : Addr) (s0_ : Addr) (s1_ : Addr) (dz : Addr) (el : Addr) (ee : Addr) (em : Addr) (mr : Addr) (kd : ClassId) (ke : ClassId) (vm0 : Vm) (h0 : Heap) (X00 : Ext Z.heap h0) (P0 : Exa Z h0 r c14_) (P1 : Fld Z h0 r c14_ "e0" c0_ (.ref s0_)) (P2 : Fld Z h0 r c14_ "e1" c0_ (.ref s1_)) (P3 : Exa Z h0 s0_ c9_) (P4 : Exa Z h0 s1_ c9_) (hL : (OwnL Z dz el ee em mr kd ke)) :
    Met l mn297 jdk_44_method_3_code 1 (some .int) ws ({ frames := 0, cells := 0, slots := 0, locals := 0 } : Room) Z consts_1 vm0 h0 #[(.ref r)] (fun rv vm h => rv = some (.int (2 : Int32)) ∧ h0 = h) := by
  obtain ⟨hw, hEL, ⟨zc, Scs, hzc⟩, ⟨fm, Sfm, hfm⟩, hL0⟩ := id cx
  have hSA := own_SA hw
  refine Met.of_walk (a0 := a0) #[vr r] (plainFor_of_name own_pn139) X00 hEL (fun m => by first | (simp [entryFrame, mkF, argsToLocals, Value.category]; done) | rfl) ?_
  intro p e s m below meth c vm hx hby hml hret hnm hC0 hW0
  have lt_r : h0.size > r := P0.lt
  have lt_s0_ : h0.size > s0_ := P3.lt
  have lt_s1_ : h0.size > s1_ := P4.lt
  obtain ⟨Sdz, Edz, Vdz, Sel, Eel, Fee, Vee, Fan, Sem, Eem, Mmr, Sas⟩ := id hL
  refine ginfo fun _ _ OL1 => ?_
  have Eem_1 := Eem.ext OL1
  have lt_em : h0.size > em := Eem_1.lt
  refine uAN 1 hx hby d291 rfl rfl rfl ?_
  refine ggetF (host := "") hx (Or.inl (ow hw 330 rfl)) Via.refl P2 4 (hb hby d292) rfl ?_
  refine ggetS (host := c13_) hx (Or.inr (ow hw 338 rfl)) Via.refl Sem 7 (hb hby d293) rfl ?_
  refine gx (mkF m 10 #[vr r] []) (fun T locs X _ _ _ _ kq => Jvm.RoadKit.acmp (g := (mkF m 7 #[vr r] [(.ref em), (.ref s1_)])) X hx rfl rfl rfl (pc0 := 7) (pc' := 10) (same := false) rfl (hb hby d294) rfl (decide_eq_false fun q => (ne_exa P4 Eem_1 (by decide)) (Value.ref.inj q)) (by decide) (by decide) kq) ?_
  refine gs (mkF m 11 #[vr r] [(.int (2 : Int32))]) (fun _ _ A kq => XS.iconst A hx rfl (hb hby d304) kq) ?_
  refine uG 15 hx hby d305 (by decide) (by decide) ?_
  exact gretI hx hret (hb hby d296) (by decide) (by decide) (fun vq Cq => ⟨rfl, rfl⟩)
theorem own_lget2_0 (l : Launch) (Z : State) (a0 : Array Value) (cx : Ctx Z a0) (ws : List Jvm.Cond) (r : Addr) (s0_ : Addr) (s1_ : Addr) (dz : Addr) (el : Addr) (ee : Addr) (em : Addr) (mr : Addr) (kd : ClassId) (ke : ClassId) (vm0 : Vm) (h0 : Heap) (X00 : Ext Z.heap h0) (P0 : Exa Z h0 r c14_) (P1 : Fld Z h0 r c14_ "e0" c0_ (.ref s0_)) (P2 : Fld Z h0 r c14_ "e1" c0_ (.ref s1_)) (P3 : Exa Z h0 s0_ c9_) (P4 : Exa Z h0 s1_ c9_) (hL : (OwnL Z dz el ee em mr kd ke)) :
    Met l mn303 jdk_44_method_5_code 2 (some (.object c8_)) ws ({ frames := 0, cells := 0, slots := 0, locals := 0 } : Room) Z consts_1 vm0 h0 #[(.ref r), (.int (0 : Int32))] (fun rv vm h => rv = some (.ref s0_) ∧ h0 = h) := by
  obtain ⟨hw, hEL, ⟨zc, Scs, hzc⟩, ⟨fm, Sfm, hfm⟩, hL0⟩ := id cx
  have hSA := own_SA hw
  refine Met.of_walk (a0 := a0) #[vr r, vi (0 : Int32)] (plainFor_of_name own_pn139) X00 hEL (fun m => by first | (simp [entryFrame, mkF, argsToLocals, Value.category]; done) | rfl) ?_
  intro p e s m below meth c vm hx hby hml hret hnm hC0 hW0
  have lt_r : h0.size > r := P0.lt
  have lt_s0_ : h0.size > s0_ := P3.lt
  have lt_s1_ : h0.size > s1_ := P4.lt
  obtain ⟨Sdz, Edz, Vdz, Sel, Eel, Fee, Vee, Fan, Sem, Eem, Mmr, Sas⟩ := id hL
  refine ginfo fun _ _ OL1 => ?_
  have Eem_1 := Eem.ext OL1
  have lt_em : h0.size > em := Eem_1.lt
  refine uIN 1 hx hby d298 rfl rfl ?_
  refine gs (mkF m 4 #[vr r, vi (0 : Int32)] []) (fun _ _ A kq => XS.ifNo A hx rfl (hb hby d299) rfl ((if0 _ _).trans (teq (by decide)).2) kq) ?_
  refine uAN 5 hx hby d300 rfl rfl rfl ?_
  refine ggetF (host := "") hx (Or.inl (ow hw 328 rfl)) Via.refl P1 8 (hb hby d301) rfl ?_
  exact gretA hx hret rfl rfl (hb hby d302) (by decide) (by decide) (fun vq Cq => ⟨rfl, rfl⟩)
theorem d306 : decode jdk_44_method_5_code 9 = .ok (.iload_n 1, 1) := by decide +kernel
theorem d307 : decode jdk_44_method_5_code 10 = .ok (.iconst 1, 1) := by decide +kernel
theorem d308 : decode jdk_44_method_5_code 11 = .ok (.if_icmp .ne 18, 3) := by decide +kernel
theorem d309 : decode jdk_44_method_5_code 14 = .ok (.aload_n 0, 1) := by decide +kernel
theorem d310 : decode jdk_44_method_5_code 15 = .ok (.getfield 24, 3) := by decide +kernel
theorem d311 : decode jdk_44_method_5_code 18 = .ok (.getstatic 19, 3) := by decide +kernel
theorem d312 : decode jdk_44_method_5_code 21 = .ok (.if_acmp .eq 8, 3) := by decide +kernel
theorem d313 : decode jdk_44_method_5_code 24 = .ok (.aload_n 0, 1) := by decide +kernel
theorem d314 : decode jdk_44_method_5_code 25 = .ok (.getfield 24, 3) := by decide +kernel
theorem d315 : decode jdk_44_method_5_code 28 = .ok (.areturn, 1) := by decide +kernel
theorem own_lget2_1 (l : Launch) (Z : State) (a0 : Array Value) (cx : Ctx Z a0) (ws : List Jvm.Cond) (r : Addr) (s0_ : Addr) (s1_ : Addr) (dz : Addr) (el : Addr) (ee : Addr) (em : Addr) (mr : Addr) (kd : ClassId) (ke : ClassId) (vm0 : Vm) (h0 : Heap) (X00 : Ext Z.heap h0) (P0 : Exa Z h0 r c14_) (P1 : Fld Z h0 r c14_ "e0" c0_ (.ref s0_)) (P2 : Fld Z h0 r c14_ "e1" c0_ (.ref s1_)) (P3 : Exa Z h0 s0_ c9_) (P4 : Exa Z h0 s1_ c9_) (hL : (OwnL Z dz el ee em mr kd ke)) :
    Met l mn303 jdk_44_method_5_code 2 (some (.object c8_)) ws ({ frames := 0, cells := 0, slots := 0, locals := 0 } : Room) Z consts_1 vm0 h0 #[(.ref r), (.int (1 : Int32))] (fun rv vm h => rv = some (.ref s1_) ∧ h0 = h) := by
  obtain ⟨hw, hEL, ⟨zc, Scs, hzc⟩, ⟨fm, Sfm, hfm⟩, hL0⟩ := id cx
  have hSA := own_SA hw
  refine Met.of_walk (a0 := a0) #[vr r, vi (1 : Int32)] (plainFor_of_name own_pn139) X00 hEL (fun m => by first | (simp [entryFrame, mkF, argsToLocals, Value.category]; done) | rfl) ?_
  intro p e s m below meth c vm hx hby hml hret hnm hC0 hW0
  have lt_r : h0.size > r := P0.lt
  have lt_s0_ : h0.size > s0_ := P3.lt
  have lt_s1_ : h0.size > s1_ := P4.lt
  obtain ⟨Sdz, Edz, Vdz, Sel, Eel, Fee, Vee, Fan, Sem, Eem, Mmr, Sas⟩ := id hL
  refine ginfo fun _ _ OL1 => ?_
  have Eem_1 := Eem.ext OL1
  have lt_em : h0.size > em := Eem_1.lt
  refine uIN 1 hx hby d298 rfl rfl ?_
  refine gs (mkF m 9 #[vr r, vi (1 : Int32)] []) (fun _ _ A kq => XS.ifYes A hx rfl (pc0 := 1) (pc' := 9) rfl (hb hby d299) rfl ((if0 _ _).trans (feq (by decide)).2) (by decide) (by decide) kq) ?_
  refine uIN 10 hx hby d306 rfl rfl ?_
  refine gs (mkF m 11 #[vr r, vi (1 : Int32)] [(.int (1 : Int32)), (.int (1 : Int32))]) (fun _ _ A kq => XS.iconst A hx rfl (hb hby d307) kq) ?_
  refine gs (mkF m 14 #[vr r, vi (1 : Int32)] []) (fun _ _ A kq => XS.icmpNo A hx rfl (hb hby d308) rfl (teq (by decide)).2 kq) ?_
  refine uAN 15 hx hby d309 rfl rfl rfl ?_
  refine ggetF (host := "") hx (Or.inl (ow hw 330 rfl)) Via.refl P2 18 (hb hby d310) rfl ?_
  refine ggetS (host := c13_) hx (Or.inr (ow hw 338 rfl)) Via.refl Sem 21 (hb hby d311) rfl ?_
  refine gx (mkF m 24 #[vr r, vi (1 : Int32)] []) (fun T locs X _ _ _ _ kq => Jvm.RoadKit.acmp (g := (mkF m 21 #[vr r, vi (1 : Int32)] [(.ref em), (.ref s1_)])) X hx rfl rfl rfl (pc0 := 21) (pc' := 24) (same := false) rfl (hb hby d312) rfl (decide_eq_false fun q => (ne_exa P4 Eem_1 (by decide)) (Value.ref.inj q)) (by decide) (by decide) kq) ?_
  refine uAN 25 hx hby d313 rfl rfl rfl ?_
  refine ggetF (host := "") hx (Or.inl (ow hw 330 rfl)) Via.refl P2 28 (hb hby d314) rfl ?_
  exact gretA hx hret rfl rfl (hb hby d315) (by decide) (by decide) (fun vq Cq => ⟨rfl, rfl⟩)
theorem own_lc3 (l : Launch) (Z : State) (a0 : Array Value) (cx : Ctx Z a0) (ws : List Jvm.Cond) (x : Addr) (d : Addr) (kc : ClassId) (s0_ : Addr) (s1_ : Addr) (s2_ : Addr) (dz : Addr) (el : Addr) (ee : Addr) (em : Addr) (mr : Addr) (kd : ClassId) (ke : ClassId) (vm0 : Vm) (h0 : Heap) (X00 : Ext Z.heap h0) (P0 : Exa Z h0 x c11_) (P1 : Fld Z h0 x c11_ c7_ c3_ (.ref d)) (P2 : Fld Z h0 x c11_ "size" "I" (.int (3 : Int32))) (P3 : Arv Z h0 d kc (.object c8_) (10 : Int32) [(.ref s0_), (.ref s1_), (.ref s2_), .null, .null, .null, .null, .null, .null, .null] .null) (P4 : Exa Z h0 d c3_) (hov : (Ovr Z kc c8_)) (P6 : Exa Z h0 s0_ c9_) (P7 : Exa Z h0 s1_ c9_) (P8 : Exa Z h0 s2_ c9_) (hL : (OwnL Z dz el ee em mr kd ke)) :
    Met l mn275 jdk_56_method_3_code 2 (some (.object c16_)) ws ({ frames := 7, cells := 3, slots := 8, locals := 90 } : Room) Z consts_1 vm0 h0 #[(.ref x)] (fun rv vm h => ∃ (r : Addr), ∃ (g : Addr), ∃ (kg : ClassId), rv = some (.ref r) ∧ Keep h0 h [] ∧ h0.size ≤ r ∧ Exa Z h r c15_ ∧ Fld Z h r c15_ "elements" c3_ (.ref g) ∧ Arv Z h g kg (.object c8_) (3 : Int32) [(.ref s0_), (.ref s1_), (.ref s2_)] .null) := by
  obtain ⟨hw, hEL, ⟨zc, Scs, hzc⟩, ⟨fm, Sfm, hfm⟩, hL0⟩ := id cx
  have hSA := own_SA hw
  refine Met.of_walk (a0 := a0) #[vr x, un] (plainFor_of_name own_pn256) X00 hEL (fun m => by first | (simp [entryFrame, mkF, argsToLocals, Value.category]; done) | rfl) ?_
  intro p e s m below meth c vm hx hby hml hret hnm hC0 hW0
  have lt_x : h0.size > x := P0.lt
  have lt_d : h0.size > d := P3.lt
  have lt_s0_ : h0.size > s0_ := P6.lt
  have lt_s1_ : h0.size > s1_ := P7.lt
  have lt_s2_ : h0.size > s2_ := P8.lt
  obtain ⟨Sdz, Edz, Vdz, Sel, Eel, Fee, Vee, Fan, Sem, Eem, Mmr, Sas⟩ := id hL
  refine uAN 1 hx hby d261 rfl rfl rfl ?_
  refine ginstN hx (ow hw 119 rfl) P0 (NSno (ow hw 120 rfl) (ow hw 317 rfl) (NS.step (ow hw 120 rfl) (NS.step (ow hw 121 rfl) (NS.step (ow hw 122 rfl) (NSroot (ow hw 123 rfl) (ow hw 317 rfl) (by decide)) (by decide)) (by decide)) (by decide)) (by decide)) 4 (hb hby d262) rfl ?_
  refine gs (mkF m 7 #[vr x, un] []) (fun _ _ A kq => XS.ifNo A hx rfl (hb hby d263) rfl ((if0 _ _).trans (teq (by decide)).2) kq) ?_
  refine uAN 8 hx hby d264 rfl rfl rfl ?_
  refine ginstN hx (ow hw 124 rfl) P0 (NSno (ow hw 120 rfl) (ow hw 277 rfl) (NS.step (ow hw 120 rfl) (NS.step (ow hw 121 rfl) (NS.step (ow hw 122 rfl) (NSroot (ow hw 123 rfl) (ow hw 277 rfl) (by decide)) (by decide)) (by decide)) (by decide)) (by decide)) 11 (hb hby d265) rfl ?_
  refine gs (mkF m 31 #[vr x, un] []) (fun _ _ A kq => XS.ifYes A hx rfl (pc0 := 11) (pc' := 31) rfl (hb hby d266) rfl ((if0 _ _).trans (teq (by decide)).1) (by decide) (by decide) kq) ?_
  refine uAN 32 hx hby d267 rfl rfl rfl ?_
  refine ginfo fun _ _ O1 => ?_
  refine gcallF (xi := mn270) (y := mn105) hx (ow hw 125 rfl) (ow hw 126 rfl) (fun _ _ hU => mvT hU (ow hw 127 rfl)) (ow hw 128 rfl) (ow hw 129 rfl) (ow hw 130 rfl) (ow hw 131 rfl) (ow hw 132 rfl) (by decide) (fun hZ H hEL => Pay.of_met (W := 0) (own_alempty3 l Z a0 cx [] (x) vm h0 O1 P2) (ow hw 133 rfl) (ow hw 36 rfl) (by decide) (by decide) hZ H hEL) 37 (argsL := []) (rest := []) P0 (lenOf own_pd269 rfl) rfl rfl (Nat.le_of_eq rfl) (by rw [hml]; rfl) (hb hby d268) rfl (by decide) (by decide) ?_
  rintro _ vm1 h1 C1 ⟨rfl, rfl⟩
  have z1 := C1.2.1
  refine gat (mkF m 37 #[vr x, un] [(.int (0 : Int32))]) rfl ?_
  refine gs (mkF m 44 #[vr x, un] []) (fun _ _ A kq => XS.ifYes A hx rfl (pc0 := 37) (pc' := 44) rfl (hb hby d271) rfl ((if0 _ _).trans (teq (by decide)).1) (by decide) (by decide) kq) ?_
  refine uAN 45 hx hby d286 rfl rfl rfl ?_
  refine ginfo fun _ _ O2 => ?_
  refine gcallF (xi := mn288) (y := mn205) hx (ow hw 236 rfl) (ow hw 237 rfl) (fun _ _ hU => mvT hU (ow hw 238 rfl)) (ow hw 239 rfl) (ow hw 240 rfl) (ow hw 241 rfl) (ow hw 242 rfl) (ow hw 132 rfl) (by decide) (fun hZ H hEL => Pay.of_met (W := 0) (own_toarr3 l Z a0 cx [] (x) (d) (kc) (s0_) (s1_) (s2_) (dz) (el) (ee) (em) (mr) (kd) (ke) vm1 h0 O2 P0 P1 P2 P3 P4 (by first | assumption | decide | omega) P6 P7 P8 (by first | assumption | decide | omega)) (ow hw 243 rfl) (ow hw 36 rfl) (by decide) (by decide) hZ H hEL) 50 (argsL := []) (rest := []) P0 (lenOf own_pd65 rfl) rfl rfl (Nat.le_of_eq rfl) (by rw [hml]; rfl) (hb hby d287) rfl (by decide) (by decide) ?_
  rintro _ vm2 h2 C2 ⟨r2, kr2, rfl, K2, q2_0, q2_1⟩
  have z2 := C2.2.1
  have lt_r2 : h2.size > r2 := q2_1.lt
  refine gat (mkF m 50 #[vr x, un] [(.ref r2)]) rfl ?_
  have f4 := (P6.keep K2)
  have f5 := (P7.keep K2)
  have f6 := (P8.keep K2)
  refine ginfo fun _ _ O3 => ?_
  refine gcallS (y := mn217) hx (ow hw 266 rfl) (ow hw 267 rfl) (ow hw 113 rfl) (ow hw 268 rfl) (by decide) (fun hZ H hEL => Pay.of_met (W := 0) (own_of3 l Z a0 cx [] (r2) (kr2) (s0_) (s1_) (s2_) (dz) (el) (ee) (em) (mr) (kd) (ke) vm2 h2 O3 q2_1 f4 f5 f6 (by first | assumption | decide | omega)) (ow hw 268 rfl) (ow hw 113 rfl) (by decide) (by decide) hZ H hEL) 53 (argsL := [(.ref r2)]) (rest := []) (lenOf own_pd259 rfl) rfl rfl (Nat.le_of_eq rfl) (by rw [hml]; rfl) (hb hby d289) rfl (by decide) (by decide) ?_
  rintro _ vm3 h3 C3 ⟨r3, g3, kg3, rfl, K3, q3_0, q3_1, q3_2, q3_3⟩
  have z3 := C3.2.1
  have lt_r3 : h3.size > r3 := q3_1.lt
  have lt_g3 : h3.size > g3 := q3_3.lt
  refine gat (mkF m 53 #[vr x, un] [(.ref r3)]) rfl ?_
  exact gretA hx hret rfl rfl (hb hby d290) (by decide) (by decide) (fun vq Cq => ⟨r3, g3, kg3, rfl, (((Keep.refl h0 []).trans K2 all0).trans K3 all0), (by omega), q3_1, q3_2, q3_3⟩)
theorem own_copy3 (l : Launch) (Z : State) (a0 : Array Value) (cx : Ctx Z a0) (ws : List Jvm.Cond) (x : Addr) (d : Addr) (kc : ClassId) (s0_ : Addr) (s1_ : Addr) (s2_ : Addr) (dz : Addr) (el : Addr) (ee : Addr) (em : Addr) (mr : Addr) (kd : ClassId) (ke : ClassId) (vm0 : Vm) (h0 : Heap) (X00 : Ext Z.heap h0) (P0 : Exa Z h0 x c11_) (P1 : Fld Z h0 x c11_ c7_ c3_ (.ref d)) (P2 : Fld Z h0 x c11_ "size" "I" (.int (3 : Int32))) (P3 : Arv Z h0 d kc (.object c8_) (10 : Int32) [(.ref s0_), (.ref s1_), (.ref s2_), .null, .null, .null, .null, .null, .null, .null] .null) (P4 : Exa Z h0 d c3_) (hov : (Ovr Z kc c8_)) (P6 : Exa Z h0 s0_ c9_) (P7 : Exa Z h0 s1_ c9_) (P8 : Exa Z h0 s2_ c9_) (hL : (OwnL Z dz el ee em mr kd ke)) :
    Met l mn280 jdk_40_method_48_code 1 (some (.object c16_)) ws ({ frames := 8, cells := 3, slots := 8, locals := 103 } : Room) Z consts_1 vm0 h0 #[(.ref x)] (fun rv vm h => ∃ (r : Addr), ∃ (g : Addr), ∃ (kg : ClassId), rv = some (.ref r) ∧ Keep h0 h [] ∧ h0.size ≤ r ∧ Exa Z h r c15_ ∧ Fld Z h r c15_ "elements" c3_ (.ref g) ∧ Arv Z h g kg (.object c8_) (3 : Int32) [(.ref s0_), (.ref s1_), (.ref s2_)] .null) := by
  obtain ⟨hw, hEL, ⟨zc, Scs, hzc⟩, ⟨fm, Sfm, hfm⟩, hL0⟩ := id cx
  have hSA := own_SA hw
  refine Met.of_walk (a0 := a0) #[vr x] (plainFor_of_name own_pn110) X00 hEL (fun m => by first | (simp [entryFrame, mkF, argsToLocals, Value.category]; done) | rfl) ?_
  intro p e s m below meth c vm hx hby hml hret hnm hC0 hW0
  have lt_x : h0.size > x := P0.lt
  have lt_d : h0.size > d := P3.lt
  have lt_s0_ : h0.size > s0_ := P6.lt
  have lt_s1_ : h0.size > s1_ := P7.lt
  have lt_s2_ : h0.size > s2_ := P8.lt
  obtain ⟨Sdz, Edz, Vdz, Sel, Eel, Fee, Vee, Fan, Sem, Eem, Mmr, Sas⟩ := id hL
  refine uAN 1 hx hby d276 rfl rfl rfl ?_
  refine ginfo fun _ _ O1 => ?_
  refine gcallS (y := mn275) hx (ow hw 115 rfl) (ow hw 116 rfl) (ow hw 117 rfl) (ow hw 118 rfl) (by decide) (fun hZ H hEL => Pay.of_met (W := 0) (own_lc3 l Z a0 cx [] (x) (d) (kc) (s0_) (s1_) (s2_) (dz) (el) (ee) (em) (mr) (kd) (ke) vm h0 O1 P0 P1 P2 P3 P4 (by first | assumption | decide | omega) P6 P7 P8 (by first | assumption | decide | omega)) (ow hw 118 rfl) (ow hw 117 rfl) (by decide) (by decide) hZ H hEL) 4 (argsL := [(.ref x)]) (rest := []) (lenOf own_pd278 rfl) rfl rfl (Nat.le_of_eq rfl) (by rw [hml]; rfl) (hb hby d277) rfl (by decide) (by decide) ?_
  rintro _ vm1 h1 C1 ⟨r1, g1, kg1, rfl, K1, q1_0, q1_1, q1_2, q1_3⟩
  have z1 := C1.2.1
  have lt_r1 : h1.size > r1 := q1_1.lt
  have lt_g1 : h1.size > g1 := q1_3.lt
  refine gat (mkF m 4 #[vr x] [(.ref r1)]) rfl ?_
  exact gretA hx hret rfl rfl (hb hby d279) (by decide) (by decide) (fun vq Cq => ⟨r1, g1, kg1, rfl, ((Keep.refl h0 []).trans K1 all0), (by omega), q1_1, q1_2, q1_3⟩)
theorem own_lsize3 (l : Launch) (Z : State) (a0 : Array Value) (cx : Ctx Z a0) (ws : List Jvm.Cond) (r : Addr) (g : Addr) (kg : ClassId) (s0_ : Addr) (s1_ : Addr) (s2_ : Addr) (vm0 : Vm) (h0 : Heap) (X00 : Ext Z.heap h0) (P0 : Exa Z h0 r c15_) (P1 : Fld Z h0 r c15_ "elements" c3_ (.ref g)) (P2 : Arv Z h0 g kg (.object c8_) (3 : Int32) [(.ref s0_), (.ref s1_), (.ref s2_)] .null) :
    Met l mn285 jdk_45_method_3_code 1 (some .int) ws ({ frames := 0, cells := 0, slots := 0, locals := 0 } : Room) Z consts_1 vm0 h0 #[(.ref r)] (fun rv vm h => rv = some (.int (3 : Int32)) ∧ h0 = h) := by
  obtain ⟨hw, hEL, ⟨zc, Scs, hzc⟩, ⟨fm, Sfm, hfm⟩, hL0⟩ := id cx
  have hSA := own_SA hw
  refine Met.of_walk (a0 := a0) #[vr r] (plainFor_of_name own_pn162) X00 hEL (fun m => by first | (simp [entryFrame, mkF, argsToLocals, Value.category]; done) | rfl) ?_
  intro p e s m below meth c vm hx hby hml hret hnm hC0 hW0
  have lt_r : h0.size > r := P0.lt
  have lt_g : h0.size > g := P2.lt
  refine uAN 1 hx hby d281 rfl rfl rfl ?_
  refine ggetF (host := "") hx (Or.inl (ow hw 202 rfl)) Via.refl P1 4 (hb hby d282) rfl ?_
  refine glen hx P2 5 (hb hby d283) rfl ?_
  exact gretI hx hret (hb hby d284) (by decide) (by decide) (fun vq Cq => ⟨rfl, rfl⟩)
theorem d316 : decode jdk_45_method_4_code 0 = .ok (.aload_n 0, 1) := by decide +kernel
theorem d317 : decode jdk_45_method_4_code 1 = .ok (.getfield 7, 3) := by decide +kernel
theorem d318 : decode jdk_45_method_4_code 4 = .ok (.iload_n 1, 1) := by decide +kernel
theorem d319 : decode jdk_45_method_4_code 5 = .ok (.aaload, 1) := by decide +kernel
theorem d320 : decode jdk_45_method_4_code 6 = .ok (.areturn, 1) := by decide +kernel
abbrev mn321 : MethodName := ⟨"java/util/ImmutableCollections$ListN", "get", "(I)Ljava/lang/Object;"⟩
theorem own_lget3_0 (l : Launch) (Z : State) (a0 : Array Value) (cx : Ctx Z a0) (ws : List Jvm.Cond) (r : Addr) (g : Addr) (kg : ClassId) (s0_ : Addr) (s1_ : Addr) (s2_ : Addr) (vm0 : Vm) (h0 : Heap) (X00 : Ext Z.heap h0) (P0 : Exa Z h0 r c15_) (P1 : Fld Z h0 r c15_ "elements" c3_ (.ref g)) (P2 : Arv Z h0 g kg (.object c8_) (3 : Int32) [(.ref s0_), (.ref s1_), (.ref s2_)] .null) :
    Met l mn321 jdk_45_method_4_code 2 (some (.object c8_)) ws ({ frames := 0, cells := 0, slots := 0, locals := 0 } : Room) Z consts_1 vm0 h0 #[(.ref r), (.int (0 : Int32))] (fun rv vm h => rv = some (.ref s0_) ∧ h0 = h) := by
  obtain ⟨hw, hEL, ⟨zc, Scs, hzc⟩, ⟨fm, Sfm, hfm⟩, hL0⟩ := id cx
  have hSA := own_SA hw
  refine Met.of_walk (a0 := a0) #[vr r, vi (0 : Int32)] (plainFor_of_name own_pn162) X00 hEL (fun m => by first | (simp [entryFrame, mkF, argsToLocals, Value.category]; done) | rfl) ?_
  intro p e s m below meth c vm hx hby hml hret hnm hC0 hW0
  have lt_r : h0.size > r := P0.lt
  have lt_g : h0.size > g := P2.lt
  refine uAN 1 hx hby d316 rfl rfl rfl ?_
  refine ggetF (host := "") hx (Or.inl (ow hw 202 rfl)) Via.refl P1 4 (hb hby d317) rfl ?_
  refine uIN 5 hx hby d318 rfl rfl ?_
  refine gldR hx P2 ⟨by decide, by decide⟩ (i := 0) rfl (v := (.ref s0_)) rfl 6 (hb hby d319) rfl ?_
  exact gretA hx hret rfl rfl (hb hby d320) (by decide) (by decide) (fun vq Cq => ⟨rfl, rfl⟩)
theorem own_lget3_1 (l : Launch) (Z : State) (a0 : Array Value) (cx : Ctx Z a0) (ws : List Jvm.Cond) (r : Addr) (g : Addr) (kg : ClassId) (s0_ : Addr) (s1_ : Addr) (s2_ : Addr) (vm0 : Vm) (h0 : Heap) (X00 : Ext Z.heap h0) (P0 : Exa Z h0 r c15_) (P1 : Fld Z h0 r c15_ "elements" c3_ (.ref g)) (P2 : Arv Z h0 g kg (.object c8_) (3 : Int32) [(.ref s0_), (.ref s1_), (.ref s2_)] .null) :
    Met l mn321 jdk_45_method_4_code 2 (some (.object c8_)) ws ({ frames := 0, cells := 0, slots := 0, locals := 0 } : Room) Z consts_1 vm0 h0 #[(.ref r), (.int (1 : Int32))] (fun rv vm h => rv = some (.ref s1_) ∧ h0 = h) := by
  obtain ⟨hw, hEL, ⟨zc, Scs, hzc⟩, ⟨fm, Sfm, hfm⟩, hL0⟩ := id cx
  have hSA := own_SA hw
  refine Met.of_walk (a0 := a0) #[vr r, vi (1 : Int32)] (plainFor_of_name own_pn162) X00 hEL (fun m => by first | (simp [entryFrame, mkF, argsToLocals, Value.category]; done) | rfl) ?_
  intro p e s m below meth c vm hx hby hml hret hnm hC0 hW0
  have lt_r : h0.size > r := P0.lt
  have lt_g : h0.size > g := P2.lt
  refine uAN 1 hx hby d316 rfl rfl rfl ?_
  refine ggetF (host := "") hx (Or.inl (ow hw 202 rfl)) Via.refl P1 4 (hb hby d317) rfl ?_
  refine uIN 5 hx hby d318 rfl rfl ?_
  refine gldR hx P2 ⟨by decide, by decide⟩ (i := 1) rfl (v := (.ref s1_)) rfl 6 (hb hby d319) rfl ?_
  exact gretA hx hret rfl rfl (hb hby d320) (by decide) (by decide) (fun vq Cq => ⟨rfl, rfl⟩)
theorem own_lget3_2 (l : Launch) (Z : State) (a0 : Array Value) (cx : Ctx Z a0) (ws : List Jvm.Cond) (r : Addr) (g : Addr) (kg : ClassId) (s0_ : Addr) (s1_ : Addr) (s2_ : Addr) (vm0 : Vm) (h0 : Heap) (X00 : Ext Z.heap h0) (P0 : Exa Z h0 r c15_) (P1 : Fld Z h0 r c15_ "elements" c3_ (.ref g)) (P2 : Arv Z h0 g kg (.object c8_) (3 : Int32) [(.ref s0_), (.ref s1_), (.ref s2_)] .null) :
    Met l mn321 jdk_45_method_4_code 2 (some (.object c8_)) ws ({ frames := 0, cells := 0, slots := 0, locals := 0 } : Room) Z consts_1 vm0 h0 #[(.ref r), (.int (2 : Int32))] (fun rv vm h => rv = some (.ref s2_) ∧ h0 = h) := by
  obtain ⟨hw, hEL, ⟨zc, Scs, hzc⟩, ⟨fm, Sfm, hfm⟩, hL0⟩ := id cx
  have hSA := own_SA hw
  refine Met.of_walk (a0 := a0) #[vr r, vi (2 : Int32)] (plainFor_of_name own_pn162) X00 hEL (fun m => by first | (simp [entryFrame, mkF, argsToLocals, Value.category]; done) | rfl) ?_
  intro p e s m below meth c vm hx hby hml hret hnm hC0 hW0
  have lt_r : h0.size > r := P0.lt
  have lt_g : h0.size > g := P2.lt
  refine uAN 1 hx hby d316 rfl rfl rfl ?_
  refine ggetF (host := "") hx (Or.inl (ow hw 202 rfl)) Via.refl P1 4 (hb hby d317) rfl ?_
  refine uIN 5 hx hby d318 rfl rfl ?_
  refine gldR hx P2 ⟨by decide, by decide⟩ (i := 2) rfl (v := (.ref s2_)) rfl 6 (hb hby d319) rfl ?_
  exact gretA hx hret rfl rfl (hb hby d320) (by decide) (by decide) (fun vq Cq => ⟨rfl, rfl⟩)
def own_rel : List Int32 := [(108 : Int32), (111 : Int32), (99 : Int32), (97 : Int32), (108 : Int32), (32 : Int32), (100 : Int32), (101 : Int32), (108 : Int32), (101 : Int32), (116 : Int32), (101 : Int32), (100 : Int32), (32 : Int32), (61 : Int32), (32 : Int32), (48 : Int32), (10 : Int32), (102 : Int32), (111 : Int32), (114 : Int32), (32 : Int32), (105 : Int32), (32 : Int32), (61 : Int32), (32 : Int32), (49 : Int32), (44 : Int32), (32 : Int32), (35 : Int32), (75 : Int32), (69 : Int32), (89 : Int32), (83 : Int32), (32 : Int32), (100 : Int32), (111 : Int32), (10 : Int32), (32 : Int32), (32 : Int32), (32 : Int32), (32 : Int32), (105 : Int32), (102 : Int32), (32 : Int32), (114 : Int32), (101 : Int32), (100 : Int32), (105 : Int32), (115 : Int32), (46 : Int32), (99 : Int32), (97 : Int32), (108 : Int32), (108 : Int32), (40 : Int32), (39 : Int32), (71 : Int32), (69 : Int32), (84 : Int32), (39 : Int32), (44 : Int32), (32 : Int32), (75 : Int32), (69 : Int32), (89 : Int32), (83 : Int32), (91 : Int32), (105 : Int32), (93 : Int32), (41 : Int32), (32 : Int32), (61 : Int32), (61 : Int32), (32 : Int32), (65 : Int32), (82 : Int32), (71 : Int32), (86 : Int32), (91 : Int32), (105 : Int32), (93 : Int32), (32 : Int32), (116 : Int32), (104 : Int32), (101 : Int32), (110 : Int32), (10 : Int32), (32 : Int32), (32 : Int32), (32 : Int32), (32 : Int32), (32 : Int32), (32 : Int32), (32 : Int32), (32 : Int32), (100 : Int32), (101 : Int32), (108 : Int32), (101 : Int32), (116 : Int32), (101 : Int32), (100 : Int32), (32 : Int32), (61 : Int32), (32 : Int32), (100 : Int32), (101 : Int32), (108 : Int32), (101 : Int32), (116 : Int32), (101 : Int32), (100 : Int32), (32 : Int32), (43 : Int32), (32 : Int32), (114 : Int32), (101 : Int32), (100 : Int32), (105 : Int32), (115 : Int32), (46 : Int32), (99 : Int32), (97 : Int32), (108 : Int32), (108 : Int32), (40 : Int32), (39 : Int32), (68 : Int32), (69 : Int32), (76 : Int32), (39 : Int32), (44 : Int32), (32 : Int32), (75 : Int32), (69 : Int32), (89 : Int32), (83 : Int32), (91 : Int32), (105 : Int32), (93 : Int32), (41 : Int32), (10 : Int32), (32 : Int32), (32 : Int32), (32 : Int32), (32 : Int32), (101 : Int32), (110 : Int32), (100 : Int32), (10 : Int32), (101 : Int32), (110 : Int32), (100 : Int32), (10 : Int32), (105 : Int32), (102 : Int32), (32 : Int32), (100 : Int32), (101 : Int32), (108 : Int32), (101 : Int32), (116 : Int32), (101 : Int32), (100 : Int32), (32 : Int32), (61 : Int32), (61 : Int32), (32 : Int32), (35 : Int32), (75 : Int32), (69 : Int32), (89 : Int32), (83 : Int32), (32 : Int32), (116 : Int32), (104 : Int32), (101 : Int32), (110 : Int32), (10 : Int32), (32 : Int32), (32 : Int32), (32 : Int32), (32 : Int32), (114 : Int32), (101 : Int32), (116 : Int32), (117 : Int32), (114 : Int32), (110 : Int32), (32 : Int32), (49 : Int32), (10 : Int32), (101 : Int32), (110 : Int32), (100 : Int32), (10 : Int32), (114 : Int32), (101 : Int32), (116 : Int32), (117 : Int32), (114 : Int32), (110 : Int32), (32 : Int32), (48 : Int32), (10 : Int32)]
def own_exi : List Int32 := [(108 : Int32), (111 : Int32), (99 : Int32), (97 : Int32), (108 : Int32), (32 : Int32), (101 : Int32), (120 : Int32), (105 : Int32), (115 : Int32), (116 : Int32), (105 : Int32), (110 : Int32), (103 : Int32), (32 : Int32), (61 : Int32), (32 : Int32), (123 : Int32), (125 : Int32), (10 : Int32), (102 : Int32), (111 : Int32), (114 : Int32), (32 : Int32), (105 : Int32), (32 : Int32), (61 : Int32), (32 : Int32), (49 : Int32), (44 : Int32), (32 : Int32), (35 : Int32), (75 : Int32), (69 : Int32), (89 : Int32), (83 : Int32), (32 : Int32), (100 : Int32), (111 : Int32), (10 : Int32), (32 : Int32), (32 : Int32), (32 : Int32), (32 : Int32), (105 : Int32), (102 : Int32), (32 : Int32), (114 : Int32), (101 : Int32), (100 : Int32), (105 : Int32), (115 : Int32), (46 : Int32), (99 : Int32), (97 : Int32), (108 : Int32), (108 : Int32), (40 : Int32), (39 : Int32), (69 : Int32), (88 : Int32), (73 : Int32), (83 : Int32), (84 : Int32), (83 : Int32), (39 : Int32), (44 : Int32), (32 : Int32), (75 : Int32), (69 : Int32), (89 : Int32), (83 : Int32), (91 : Int32), (105 : Int32), (93 : Int32), (41 : Int32), (32 : Int32), (61 : Int32), (61 : Int32), (32 : Int32), (49 : Int32), (32 : Int32), (116 : Int32), (104 : Int32), (101 : Int32), (110 : Int32), (10 : Int32), (32 : Int32), (32 : Int32), (32 : Int32), (32 : Int32), (32 : Int32), (32 : Int32), (32 : Int32), (32 : Int32), (101 : Int32), (120 : Int32), (105 : Int32), (115 : Int32), (116 : Int32), (105 : Int32), (110 : Int32), (103 : Int32), (91 : Int32), (35 : Int32), (101 : Int32), (120 : Int32), (105 : Int32), (115 : Int32), (116 : Int32), (105 : Int32), (110 : Int32), (103 : Int32), (32 : Int32), (43 : Int32), (32 : Int32), (49 : Int32), (93 : Int32), (32 : Int32), (61 : Int32), (32 : Int32), (105 : Int32), (10 : Int32), (32 : Int32), (32 : Int32), (32 : Int32), (32 : Int32), (101 : Int32), (110 : Int32), (100 : Int32), (10 : Int32), (101 : Int32), (110 : Int32), (100 : Int32), (10 : Int32), (114 : Int32), (101 : Int32), (116 : Int32), (117 : Int32), (114 : Int32), (110 : Int32), (32 : Int32), (101 : Int32), (120 : Int32), (105 : Int32), (115 : Int32), (116 : Int32), (105 : Int32), (110 : Int32), (103 : Int32), (10 : Int32)]
def own_relV : List Value := [Value.int (108 : Int32), Value.int (111 : Int32), Value.int (99 : Int32), Value.int (97 : Int32), Value.int (108 : Int32), Value.int (32 : Int32), Value.int (100 : Int32), Value.int (101 : Int32), Value.int (108 : Int32), Value.int (101 : Int32), Value.int (116 : Int32), Value.int (101 : Int32), Value.int (100 : Int32), Value.int (32 : Int32), Value.int (61 : Int32), Value.int (32 : Int32), Value.int (48 : Int32), Value.int (10 : Int32), Value.int (102 : Int32), Value.int (111 : Int32), Value.int (114 : Int32), Value.int (32 : Int32), Value.int (105 : Int32), Value.int (32 : Int32), Value.int (61 : Int32), Value.int (32 : Int32), Value.int (49 : Int32), Value.int (44 : Int32), Value.int (32 : Int32), Value.int (35 : Int32), Value.int (75 : Int32), Value.int (69 : Int32), Value.int (89 : Int32), Value.int (83 : Int32), Value.int (32 : Int32), Value.int (100 : Int32), Value.int (111 : Int32), Value.int (10 : Int32), Value.int (32 : Int32), Value.int (32 : Int32), Value.int (32 : Int32), Value.int (32 : Int32), Value.int (105 : Int32), Value.int (102 : Int32), Value.int (32 : Int32), Value.int (114 : Int32), Value.int (101 : Int32), Value.int (100 : Int32), Value.int (105 : Int32), Value.int (115 : Int32), Value.int (46 : Int32), Value.int (99 : Int32), Value.int (97 : Int32), Value.int (108 : Int32), Value.int (108 : Int32), Value.int (40 : Int32), Value.int (39 : Int32), Value.int (71 : Int32), Value.int (69 : Int32), Value.int (84 : Int32), Value.int (39 : Int32), Value.int (44 : Int32), Value.int (32 : Int32), Value.int (75 : Int32), Value.int (69 : Int32), Value.int (89 : Int32), Value.int (83 : Int32), Value.int (91 : Int32), Value.int (105 : Int32), Value.int (93 : Int32), Value.int (41 : Int32), Value.int (32 : Int32), Value.int (61 : Int32), Value.int (61 : Int32), Value.int (32 : Int32), Value.int (65 : Int32), Value.int (82 : Int32), Value.int (71 : Int32), Value.int (86 : Int32), Value.int (91 : Int32), Value.int (105 : Int32), Value.int (93 : Int32), Value.int (32 : Int32), Value.int (116 : Int32), Value.int (104 : Int32), Value.int (101 : Int32), Value.int (110 : Int32), Value.int (10 : Int32), Value.int (32 : Int32), Value.int (32 : Int32), Value.int (32 : Int32), Value.int (32 : Int32), Value.int (32 : Int32), Value.int (32 : Int32), Value.int (32 : Int32), Value.int (32 : Int32), Value.int (100 : Int32), Value.int (101 : Int32), Value.int (108 : Int32), Value.int (101 : Int32), Value.int (116 : Int32), Value.int (101 : Int32), Value.int (100 : Int32), Value.int (32 : Int32), Value.int (61 : Int32), Value.int (32 : Int32), Value.int (100 : Int32), Value.int (101 : Int32), Value.int (108 : Int32), Value.int (101 : Int32), Value.int (116 : Int32), Value.int (101 : Int32), Value.int (100 : Int32), Value.int (32 : Int32), Value.int (43 : Int32), Value.int (32 : Int32), Value.int (114 : Int32), Value.int (101 : Int32), Value.int (100 : Int32), Value.int (105 : Int32), Value.int (115 : Int32), Value.int (46 : Int32), Value.int (99 : Int32), Value.int (97 : Int32), Value.int (108 : Int32), Value.int (108 : Int32), Value.int (40 : Int32), Value.int (39 : Int32), Value.int (68 : Int32), Value.int (69 : Int32), Value.int (76 : Int32), Value.int (39 : Int32), Value.int (44 : Int32), Value.int (32 : Int32), Value.int (75 : Int32), Value.int (69 : Int32), Value.int (89 : Int32), Value.int (83 : Int32), Value.int (91 : Int32), Value.int (105 : Int32), Value.int (93 : Int32), Value.int (41 : Int32), Value.int (10 : Int32), Value.int (32 : Int32), Value.int (32 : Int32), Value.int (32 : Int32), Value.int (32 : Int32), Value.int (101 : Int32), Value.int (110 : Int32), Value.int (100 : Int32), Value.int (10 : Int32), Value.int (101 : Int32), Value.int (110 : Int32), Value.int (100 : Int32), Value.int (10 : Int32), Value.int (105 : Int32), Value.int (102 : Int32), Value.int (32 : Int32), Value.int (100 : Int32), Value.int (101 : Int32), Value.int (108 : Int32), Value.int (101 : Int32), Value.int (116 : Int32), Value.int (101 : Int32), Value.int (100 : Int32), Value.int (32 : Int32), Value.int (61 : Int32), Value.int (61 : Int32), Value.int (32 : Int32), Value.int (35 : Int32), Value.int (75 : Int32), Value.int (69 : Int32), Value.int (89 : Int32), Value.int (83 : Int32), Value.int (32 : Int32), Value.int (116 : Int32), Value.int (104 : Int32), Value.int (101 : Int32), Value.int (110 : Int32), Value.int (10 : Int32), Value.int (32 : Int32), Value.int (32 : Int32), Value.int (32 : Int32), Value.int (32 : Int32), Value.int (114 : Int32), Value.int (101 : Int32), Value.int (116 : Int32), Value.int (117 : Int32), Value.int (114 : Int32), Value.int (110 : Int32), Value.int (32 : Int32), Value.int (49 : Int32), Value.int (10 : Int32), Value.int (101 : Int32), Value.int (110 : Int32), Value.int (100 : Int32), Value.int (10 : Int32), Value.int (114 : Int32), Value.int (101 : Int32), Value.int (116 : Int32), Value.int (117 : Int32), Value.int (114 : Int32), Value.int (110 : Int32), Value.int (32 : Int32), Value.int (48 : Int32), Value.int (10 : Int32)]
def own_exiV : List Value := [Value.int (108 : Int32), Value.int (111 : Int32), Value.int (99 : Int32), Value.int (97 : Int32), Value.int (108 : Int32), Value.int (32 : Int32), Value.int (101 : Int32), Value.int (120 : Int32), Value.int (105 : Int32), Value.int (115 : Int32), Value.int (116 : Int32), Value.int (105 : Int32), Value.int (110 : Int32), Value.int (103 : Int32), Value.int (32 : Int32), Value.int (61 : Int32), Value.int (32 : Int32), Value.int (123 : Int32), Value.int (125 : Int32), Value.int (10 : Int32), Value.int (102 : Int32), Value.int (111 : Int32), Value.int (114 : Int32), Value.int (32 : Int32), Value.int (105 : Int32), Value.int (32 : Int32), Value.int (61 : Int32), Value.int (32 : Int32), Value.int (49 : Int32), Value.int (44 : Int32), Value.int (32 : Int32), Value.int (35 : Int32), Value.int (75 : Int32), Value.int (69 : Int32), Value.int (89 : Int32), Value.int (83 : Int32), Value.int (32 : Int32), Value.int (100 : Int32), Value.int (111 : Int32), Value.int (10 : Int32), Value.int (32 : Int32), Value.int (32 : Int32), Value.int (32 : Int32), Value.int (32 : Int32), Value.int (105 : Int32), Value.int (102 : Int32), Value.int (32 : Int32), Value.int (114 : Int32), Value.int (101 : Int32), Value.int (100 : Int32), Value.int (105 : Int32), Value.int (115 : Int32), Value.int (46 : Int32), Value.int (99 : Int32), Value.int (97 : Int32), Value.int (108 : Int32), Value.int (108 : Int32), Value.int (40 : Int32), Value.int (39 : Int32), Value.int (69 : Int32), Value.int (88 : Int32), Value.int (73 : Int32), Value.int (83 : Int32), Value.int (84 : Int32), Value.int (83 : Int32), Value.int (39 : Int32), Value.int (44 : Int32), Value.int (32 : Int32), Value.int (75 : Int32), Value.int (69 : Int32), Value.int (89 : Int32), Value.int (83 : Int32), Value.int (91 : Int32), Value.int (105 : Int32), Value.int (93 : Int32), Value.int (41 : Int32), Value.int (32 : Int32), Value.int (61 : Int32), Value.int (61 : Int32), Value.int (32 : Int32), Value.int (49 : Int32), Value.int (32 : Int32), Value.int (116 : Int32), Value.int (104 : Int32), Value.int (101 : Int32), Value.int (110 : Int32), Value.int (10 : Int32), Value.int (32 : Int32), Value.int (32 : Int32), Value.int (32 : Int32), Value.int (32 : Int32), Value.int (32 : Int32), Value.int (32 : Int32), Value.int (32 : Int32), Value.int (32 : Int32), Value.int (101 : Int32), Value.int (120 : Int32), Value.int (105 : Int32), Value.int (115 : Int32), Value.int (116 : Int32), Value.int (105 : Int32), Value.int (110 : Int32), Value.int (103 : Int32), Value.int (91 : Int32), Value.int (35 : Int32), Value.int (101 : Int32), Value.int (120 : Int32), Value.int (105 : Int32), Value.int (115 : Int32), Value.int (116 : Int32), Value.int (105 : Int32), Value.int (110 : Int32), Value.int (103 : Int32), Value.int (32 : Int32), Value.int (43 : Int32), Value.int (32 : Int32), Value.int (49 : Int32), Value.int (93 : Int32), Value.int (32 : Int32), Value.int (61 : Int32), Value.int (32 : Int32), Value.int (105 : Int32), Value.int (10 : Int32), Value.int (32 : Int32), Value.int (32 : Int32), Value.int (32 : Int32), Value.int (32 : Int32), Value.int (101 : Int32), Value.int (110 : Int32), Value.int (100 : Int32), Value.int (10 : Int32), Value.int (101 : Int32), Value.int (110 : Int32), Value.int (100 : Int32), Value.int (10 : Int32), Value.int (114 : Int32), Value.int (101 : Int32), Value.int (116 : Int32), Value.int (117 : Int32), Value.int (114 : Int32), Value.int (110 : Int32), Value.int (32 : Int32), Value.int (101 : Int32), Value.int (120 : Int32), Value.int (105 : Int32), Value.int (115 : Int32), Value.int (116 : Int32), Value.int (105 : Int32), Value.int (110 : Int32), Value.int (103 : Int32), Value.int (10 : Int32)]
theorem own_relne : ¬ own_rel = own_exi := fun q => absurd (List.cons.inj (List.cons.inj (List.cons.inj (List.cons.inj (List.cons.inj (List.cons.inj (List.cons.inj q).2).2).2).2).2).2).1 (by decide)
theorem d322 : decode jdk_42_method_66_code 0 = .ok (.aload_n 0, 1) := by decide +kernel
theorem d323 : decode jdk_42_method_66_code 1 = .ok (.aload_n 1, 1) := by decide +kernel
theorem d324 : decode jdk_42_method_66_code 2 = .ok (.if_acmp .ne 5, 3) := by decide +kernel
theorem d325 : decode jdk_42_method_66_code 5 = .ok (.iconst 1, 1) := by decide +kernel
theorem d326 : decode jdk_42_method_66_code 6 = .ok (.ireturn, 1) := by decide +kernel
abbrev mn327 : MethodName := ⟨"java/lang/String", "equals", "(Ljava/lang/Object;)Z"⟩
theorem own_pn328 : plainName "java/lang/String" = true := by first | (simp [plainName, overriddenIn]; done) | decide +kernel
theorem own_eqSame (l : Launch) (Z : State) (a0 : Array Value) (cx : Ctx Z a0) (ws : List Jvm.Cond) (x : Addr) (vm0 : Vm) (h0 : Heap) (X00 : Ext Z.heap h0)  :
    Met l mn327 jdk_42_method_66_code 3 (some .boolean) ws ({ frames := 0, cells := 0, slots := 0, locals := 0 } : Room) Z consts_1 vm0 h0 #[(.ref x), (.ref x)] (fun rv vm h => rv = some (.int (1 : Int32)) ∧ h0 = h) := by
  obtain ⟨hw, hEL, ⟨zc, Scs, hzc⟩, ⟨fm, Sfm, hfm⟩, hL0⟩ := id cx
  have hSA := own_SA hw
  refine Met.of_walk (a0 := a0) #[vr x, vr x, un] (plainFor_of_name own_pn328) X00 hEL (fun m => by first | (simp [entryFrame, mkF, argsToLocals, Value.category]; done) | rfl) ?_
  intro p e s m below meth c vm hx hby hml hret hnm hC0 hW0
  refine uAN 1 hx hby d322 rfl rfl rfl ?_
  refine uAN 2 hx hby d323 rfl rfl rfl ?_
  refine gx (mkF m 5 #[vr x, vr x, un] []) (fun T locs X _ _ _ _ kq => Jvm.RoadKit.acmp (g := (mkF m 2 #[vr x, vr x, un] [(.ref x), (.ref x)])) X hx rfl rfl rfl (pc0 := 2) (pc' := 5) (same := true) rfl (hb hby d324) rfl (decide_eq_true rfl) (by decide) (by decide) kq) ?_
  refine gs (mkF m 6 #[vr x, vr x, un] [(.int (1 : Int32))]) (fun _ _ A kq => XS.iconst A hx rfl (hb hby d325) kq) ?_
  exact gretN (t := .boolean) hx hret (by simp) (hb hby d326) (by decide) (by decide) (fun vq Cq => ⟨rfl, rfl⟩)
theorem d329 : decode jdk_43_method_13_code 0 = .ok (.aload_n 0, 1) := by decide +kernel
theorem d330 : decode jdk_43_method_13_code 1 = .ok (.arraylength, 1) := by decide +kernel
theorem d331 : decode jdk_43_method_13_code 2 = .ok (.aload_n 1, 1) := by decide +kernel
theorem d332 : decode jdk_43_method_13_code 3 = .ok (.arraylength, 1) := by decide +kernel
theorem d333 : decode jdk_43_method_13_code 4 = .ok (.if_icmp .ne 30, 3) := by decide +kernel
theorem d334 : decode jdk_43_method_13_code 34 = .ok (.iconst 0, 1) := by decide +kernel
theorem d335 : decode jdk_43_method_13_code 35 = .ok (.ireturn, 1) := by decide +kernel
abbrev mn336 : MethodName := ⟨"java/lang/StringLatin1", "equals", "([B[B)Z"⟩
theorem own_pn337 : plainName "java/lang/StringLatin1" = true := by first | (simp [plainName, overriddenIn]; done) | decide +kernel
theorem own_l1diff (l : Launch) (Z : State) (a0 : Array Value) (cx : Ctx Z a0) (ws : List Jvm.Cond) (x : Addr) (y : Addr) (ka : ClassId) (kb : ClassId) (va : List Value) (vb : List Value) (vm0 : Vm) (h0 : Heap) (X00 : Ext Z.heap h0) (P0 : Arv Z h0 x ka .byte (206 : Int32) va (.int (0 : Int32))) (P1 : Arv Z h0 y kb .byte (151 : Int32) vb (.int (0 : Int32))) :
    Met l mn336 jdk_43_method_13_code 3 (some .boolean) ws ({ frames := 0, cells := 0, slots := 0, locals := 0 } : Room) Z consts_1 vm0 h0 #[(.ref x), (.ref y)] (fun rv vm h => rv = some (.int (0 : Int32)) ∧ h0 = h) := by
  obtain ⟨hw, hEL, ⟨zc, Scs, hzc⟩, ⟨fm, Sfm, hfm⟩, hL0⟩ := id cx
  have hSA := own_SA hw
  refine Met.of_walk (a0 := a0) #[vr x, vr y, un] (plainFor_of_name own_pn337) X00 hEL (fun m => by first | (simp [entryFrame, mkF, argsToLocals, Value.category]; done) | rfl) ?_
  intro p e s m below meth c vm hx hby hml hret hnm hC0 hW0
  have lt_x : h0.size > x := P0.lt
  have lt_y : h0.size > y := P1.lt
  refine uAN 1 hx hby d329 rfl rfl rfl ?_
  refine glen hx P0 2 (hb hby d330) rfl ?_
  refine uAN 3 hx hby d331 rfl rfl rfl ?_
  refine glen hx P1 4 (hb hby d332) rfl ?_
  refine gs (mkF m 34 #[vr x, vr y, un] []) (fun _ _ A kq => XS.icmpYes A hx rfl (pc0 := 4) (pc' := 34) rfl (hb hby d333) rfl (feq (by decide)).2 (by decide) (by decide) kq) ?_
  refine gs (mkF m 35 #[vr x, vr y, un] [(.int (0 : Int32))]) (fun _ _ A kq => XS.iconst A hx rfl (hb hby d334) kq) ?_
  exact gretN (t := .boolean) hx hret (by simp) (hb hby d335) (by decide) (by decide) (fun vq Cq => ⟨rfl, rfl⟩)
theorem d338 : decode jdk_42_method_66_code 7 = .ok (.aload_n 1, 1) := by decide +kernel
theorem d339 : decode jdk_42_method_66_code 8 = .ok (.instanceof 10, 3) := by decide +kernel
theorem d340 : decode jdk_42_method_66_code 11 = .ok (.ifCond .eq 43, 3) := by decide +kernel
theorem d341 : decode jdk_42_method_66_code 14 = .ok (.aload_n 1, 1) := by decide +kernel
theorem d342 : decode jdk_42_method_66_code 15 = .ok (.checkcast 10, 3) := by decide +kernel
theorem d343 : decode jdk_42_method_66_code 18 = .ok (.astore_n 2, 1) := by decide +kernel
theorem d344 : decode jdk_42_method_66_code 19 = .ok (.getstatic 38, 3) := by decide +kernel
theorem d345 : decode jdk_42_method_66_code 22 = .ok (.ifCond .eq 14, 3) := by decide +kernel
theorem d346 : decode jdk_42_method_66_code 25 = .ok (.aload_n 0, 1) := by decide +kernel
theorem d347 : decode jdk_42_method_66_code 26 = .ok (.getfield 15, 3) := by decide +kernel
theorem d348 : decode jdk_42_method_66_code 29 = .ok (.aload_n 2, 1) := by decide +kernel
theorem d349 : decode jdk_42_method_66_code 30 = .ok (.getfield 15, 3) := by decide +kernel
theorem d350 : decode jdk_42_method_66_code 33 = .ok (.if_icmp .ne 21, 3) := by decide +kernel
theorem d351 : decode jdk_42_method_66_code 36 = .ok (.aload_n 0, 1) := by decide +kernel
theorem d352 : decode jdk_42_method_66_code 37 = .ok (.getfield 9, 3) := by decide +kernel
theorem d353 : decode jdk_42_method_66_code 40 = .ok (.aload_n 2, 1) := by decide +kernel
theorem d354 : decode jdk_42_method_66_code 41 = .ok (.getfield 9, 3) := by decide +kernel
theorem d355 : decode jdk_42_method_66_code 44 = .ok (.invokestatic 541, 3) := by decide +kernel
theorem own_pd356 : parseMethodDescriptor "([B[B)Z" = some ⟨[(.array .byte), (.array .byte)], some .boolean⟩ := by decide +kernel
theorem d357 : decode jdk_42_method_66_code 47 = .ok (.ifCond .eq 7, 3) := by decide +kernel
theorem d358 : decode jdk_42_method_66_code 54 = .ok (.iconst 0, 1) := by decide +kernel
theorem d359 : decode jdk_42_method_66_code 55 = .ok (.ireturn, 1) := by decide +kernel
theorem own_eqDiff (l : Launch) (Z : State) (a0 : Array Value) (cx : Ctx Z a0) (ws : List Jvm.Cond) (x : Addr) (y : Addr) (t1 : Addr) (t2 : Addr) (vm0 : Vm) (h0 : Heap) (X00 : Ext Z.heap h0) (P0 : Str Z h0 x t1 own_rel) (P1 : Str Z h0 y t2 own_exi) :
    Met l mn327 jdk_42_method_66_code 3 (some .boolean) ws ({ frames := 1, cells := 0, slots := 0, locals := 14 } : Room) Z consts_1 vm0 h0 #[(.ref x), (.ref y)] (fun rv vm h => rv = some (.int (0 : Int32)) ∧ h0 = h) := by
  obtain ⟨hw, hEL, ⟨zc, Scs, hzc⟩, ⟨fm, Sfm, hfm⟩, hL0⟩ := id cx
  have hSA := own_SA hw
  refine Met.of_walk (a0 := a0) #[vr x, vr y, un] (plainFor_of_name own_pn328) X00 hEL (fun m => by first | (simp [entryFrame, mkF, argsToLocals, Value.category]; done) | rfl) ?_
  intro p e s m below meth c vm hx hby hml hret hnm hC0 hW0
  have lt_x : h0.size > x := P0.1.lt
  have lt_t1 : h0.size > t1 := P0.tlt
  have lt_y : h0.size > y := P1.1.lt
  have lt_t2 : h0.size > t2 := P1.tlt
  obtain ⟨k_x, w_x⟩ := P0.2.2.2.1
  have v_x : Arv Z h0 t1 k_x .byte (206 : Int32) ((own_rel.map fun c => c.toInt8.toInt32).map Value.int) (.int (0 : Int32)) := w_x
  obtain ⟨k_y, w_y⟩ := P1.2.2.2.1
  have v_y : Arv Z h0 t2 k_y .byte (151 : Int32) ((own_exi.map fun c => c.toInt8.toInt32).map Value.int) (.int (0 : Int32)) := w_y
  refine uAN 1 hx hby d322 rfl rfl rfl ?_
  refine uAN 2 hx hby d323 rfl rfl rfl ?_
  refine gx (mkF m 7 #[vr x, vr y, un] []) (fun T locs X _ _ _ _ kq => Jvm.RoadKit.acmp (g := (mkF m 2 #[vr x, vr y, un] [(.ref y), (.ref x)])) X hx rfl rfl rfl (pc0 := 2) (pc' := 7) (same := false) rfl (hb hby d324) rfl (decide_eq_false fun q => (Str.neq P0 P1 own_relne) (Value.ref.inj q)) (by decide) (by decide) kq) ?_
  refine uAN 8 hx hby d338 rfl rfl rfl ?_
  refine ginstY hx (ow hw 180 rfl) (Ins.self P1.1) 11 (hb hby d339) rfl ?_
  refine gs (mkF m 14 #[vr x, vr y, un] []) (fun _ _ A kq => XS.ifNo A hx rfl (hb hby d340) rfl ((if0 _ _).trans (feq (by decide)).1) kq) ?_
  refine uAN 15 hx hby d341 rfl rfl rfl ?_
  refine gcast hx (ow hw 180 rfl) (Ins.self P1.1) 18 (hb hby d342) rfl ?_
  refine gs (mkF m 19 #[vr x, vr y, vr y] []) (fun _ _ A kq => XS.astoreN A hx rfl (hb hby d343) rfl rfl (l' := #[vr x, vr y, vr y]) rfl kq) ?_
  refine ggetS (host := "") hx (Or.inl (ow hw 18 rfl)) Via.refl Scs 22 (hb hby d344) rfl ?_
  refine gs (mkF m 25 #[vr x, vr y, vr y] []) (fun _ _ A kq => XS.ifNo A hx rfl (hb hby d345) rfl ((if0 _ _).trans (feq hzc).1) kq) ?_
  refine uAN 26 hx hby d346 rfl rfl rfl ?_
  refine ggetF (host := "") hx (Or.inl (ow hw 30 rfl)) Via.refl P0.2.1 29 (hb hby d347) rfl ?_
  refine uAN 30 hx hby d348 rfl rfl rfl ?_
  refine ggetF (host := "") hx (Or.inl (ow hw 30 rfl)) Via.refl P1.2.1 33 (hb hby d349) rfl ?_
  refine gs (mkF m 36 #[vr x, vr y, vr y] []) (fun _ _ A kq => XS.icmpNo A hx rfl (hb hby d350) rfl (teq (by decide)).2 kq) ?_
  refine uAN 37 hx hby d351 rfl rfl rfl ?_
  refine ggetF (host := "") hx (Or.inl (ow hw 32 rfl)) Via.refl P0.2.2.1 40 (hb hby d352) rfl ?_
  refine uAN 41 hx hby d353 rfl rfl rfl ?_
  refine ggetF (host := "") hx (Or.inl (ow hw 32 rfl)) Via.refl P1.2.2.1 44 (hb hby d354) rfl ?_
  refine ginfo fun _ _ O1 => ?_
  refine gcallS (y := mn336) hx (ow hw 181 rfl) (ow hw 182 rfl) (ow hw 183 rfl) (ow hw 184 rfl) (by decide) (fun hZ H hEL => Pay.of_met (W := 0) (own_l1diff l Z a0 cx [] (t1) (t2) (k_x) (k_y) (((own_rel.map fun c => c.toInt8.toInt32).map Value.int)) (((own_exi.map fun c => c.toInt8.toInt32).map Value.int)) vm h0 O1 v_x v_y) (ow hw 184 rfl) (ow hw 183 rfl) (by decide) (by decide) hZ H hEL) 47 (argsL := [(.ref t1), (.ref t2)]) (rest := []) (lenOf own_pd356 rfl) rfl rfl (Nat.le_of_eq rfl) (by rw [hml]; rfl) (hb hby d355) rfl (by decide) (by decide) ?_
  rintro _ vm1 h1 C1 ⟨rfl, rfl⟩
  have z1 := C1.2.1
  refine gat (mkF m 47 #[vr x, vr y, vr y] [(.int (0 : Int32))]) rfl ?_
  refine gs (mkF m 54 #[vr x, vr y, vr y] []) (fun _ _ A kq => XS.ifYes A hx rfl (pc0 := 47) (pc' := 54) rfl (hb hby d357) rfl ((if0 _ _).trans (teq (by decide)).1) (by decide) (by decide) kq) ?_
  refine gs (mkF m 55 #[vr x, vr y, vr y] [(.int (0 : Int32))]) (fun _ _ A kq => XS.iconst A hx rfl (hb hby d358) kq) ?_
  exact gretN (t := .boolean) hx hret (by simp) (hb hby d359) (by decide) (by decide) (fun vq Cq => ⟨rfl, rfl⟩)
theorem own_ablinitC (l : Launch) (Z : State) (a0 : Array Value) (cx : Ctx Z a0) (ws : List Jvm.Cond) (x : Addr) (mc : Int32) (u : Value) (vm0 : Vm) (h0 : Heap) (X00 : Ext Z.heap h0) (P0 : Exa Z h0 x c12_) (P1 : Fld Z h0 x c10_ "modCount" "I" (.int mc)) (P2 : Z.heap.size ≤ x) (P3 : Fld Z h0 x c12_ "n" "I" (.int (0 : Int32))) (P4 : Fld Z h0 x c12_ "element" c0_ u) :
    Met l mn12 jdk_39_method_1_code 1 none ws ({ frames := 2, cells := 0, slots := 0, locals := 24 } : Room) Z consts_1 vm0 h0 #[(.ref x)] (fun rv vm h => rv = none ∧ Keep h0 h [x] ∧ Fld Z h x c10_ "modCount" "I" (.int (0 : Int32)) ∧ Fld Z h x c12_ "n" "I" (.int (0 : Int32)) ∧ Fld Z h x c12_ "element" c0_ u) := by
  obtain ⟨hw, hEL, ⟨zc, Scs, hzc⟩, ⟨fm, Sfm, hfm⟩, hL0⟩ := id cx
  have hSA := own_SA hw
  refine Met.of_walk (a0 := a0) #[vr x] (plainFor_of_name own_pn13) X00 hEL (fun m => by first | (simp [entryFrame, mkF, argsToLocals, Value.category]; done) | rfl) ?_
  intro p e s m below meth c vm hx hby hml hret hnm hC0 hW0
  have lt_x : h0.size > x := P0.lt
  refine uAN 1 hx hby d5 rfl rfl rfl ?_
  refine ginfo fun _ _ O1 => ?_
  refine gcallI (y := mn3) hx rfl (ow hw 46 rfl) (ow hw 47 rfl) (ow hw 51 rfl) (by decide) (fun hZ H hEL => Pay.of_met (W := 0) (own_abcinit l Z a0 cx [] (x) vm h0 O1 ) (ow hw 51 rfl) (ow hw 50 rfl) (by decide) (by decide) hZ H hEL) (a := x) 4 (argsL := []) (rest := []) (lenOf own_pd7 rfl) rfl rfl (Nat.le_of_eq rfl) (by rw [hml]; rfl) (hb hby d6) rfl (by decide) (by decide) ?_
  rintro _ vm1 h1 C1 ⟨rfl, rfl⟩
  have z1 := C1.2.1
  refine gat (mkF m 4 #[vr x] []) rfl ?_
  refine uAN 5 hx hby d8 rfl rfl rfl ?_
  refine gs (mkF m 6 #[vr x] [(.int (0 : Int32)), (.ref x)]) (fun _ _ A kq => XS.iconst A hx rfl (hb hby d9) kq) ?_
  refine gputF (host := "") hx (Or.inl (ow hw 53 rfl)) Via.refl P1 P0 (Or.inl (ow hw 87 rfl)) (ow hw 78 rfl) (ty := .int) (by decide) rfl rfl P2 (fun al => Safe.exa al P0 (by decide) (by decide)) 9 (hb hby d10) rfl ?_
  intro h2 W2 C2
  have z2 := C2.2.1
  have F2 := P1.same W2
  have f4 := (P3.other W2 (Or.inr (slot_ne (Or.inr (ow hw 90 rfl)) (Or.inl (ow hw 87 rfl)) (by decide) (t := .int) (t' := .int) (by decide) (by decide))))
  have f5 := (P4.other W2 (Or.inr (slot_ne (Or.inr (ow hw 92 rfl)) (Or.inl (ow hw 87 rfl)) (by decide) (t := (.object c8_)) (t' := .int) (by decide) (by decide))))
  exact gretV hx hret (hb hby d11) (by decide) (by decide) (fun vq Cq => ⟨rfl, ((Keep.refl h0 [x]).wr W2 (Or.inl (List.mem_of_getElem? (i := 0) rfl))), F2, f4, f5⟩)
theorem d360 : decode method_2_code 0 = .ok (.iconst 2, 1) := by decide +kernel
theorem d361 : decode method_2_code 1 = .ok (.newarray .char, 2) := by decide +kernel
theorem d362 : decode method_2_code 3 = .ok (.dup, 1) := by decide +kernel
theorem d363 : decode method_2_code 4 = .ok (.iconst 0, 1) := by decide +kernel
theorem d364 : decode method_2_code 5 = .ok (.iload_n 0, 1) := by decide +kernel
theorem d365 : decode method_2_code 6 = .ok (.sipush 255, 3) := by decide +kernel
theorem d366 : decode method_2_code 9 = .ok (.iand, 1) := by decide +kernel
theorem d367 : decode method_2_code 10 = .ok (.i2c, 1) := by decide +kernel
theorem d368 : decode method_2_code 11 = .ok (.castore, 1) := by decide +kernel
theorem d369 : decode method_2_code 12 = .ok (.dup, 1) := by decide +kernel
theorem d370 : decode method_2_code 13 = .ok (.iconst 1, 1) := by decide +kernel
theorem d371 : decode method_2_code 14 = .ok (.iload_n 0, 1) := by decide +kernel
theorem d372 : decode method_2_code 15 = .ok (.bipush 8, 2) := by decide +kernel
theorem d373 : decode method_2_code 17 = .ok (.iushr, 1) := by decide +kernel
theorem d374 : decode method_2_code 18 = .ok (.sipush 255, 3) := by decide +kernel
theorem d375 : decode method_2_code 21 = .ok (.iand, 1) := by decide +kernel
theorem d376 : decode method_2_code 22 = .ok (.i2c, 1) := by decide +kernel
theorem d377 : decode method_2_code 23 = .ok (.castore, 1) := by decide +kernel
theorem d378 : decode method_2_code 24 = .ok (.astore_n 1, 1) := by decide +kernel
theorem d379 : decode method_2_code 25 = .ok (.new 7, 3) := by decide +kernel
theorem d380 : decode method_2_code 28 = .ok (.dup, 1) := by decide +kernel
theorem d381 : decode method_2_code 29 = .ok (.aload_n 1, 1) := by decide +kernel
theorem d382 : decode method_2_code 30 = .ok (.invokespecial 9, 3) := by decide +kernel
theorem own_pd383 : parseMethodDescriptor "([C)V" = some ⟨[(.array .char)], none⟩ := by decide +kernel
abbrev mn384 : MethodName := ⟨"java/lang/String", "<init>", "([C)V"⟩
theorem d385 : decode method_2_code 33 = .ok (.areturn, 1) := by decide +kernel
abbrev mn386 : MethodName := ⟨"com/example/limentinus/limentinus/core/KeyScriptsReleasePinLaw", "two", "(I)Ljava/lang/String;"⟩
theorem own_pn387 : plainName "com/example/limentinus/limentinus/core/KeyScriptsReleasePinLaw" = true := by first | (simp [plainName, overriddenIn]; done) | decide +kernel
theorem own_two (l : Launch) (Z : State) (a0 : Array Value) (cx : Ctx Z a0) (ws : List Jvm.Cond) (x : Int32) (vm0 : Vm) (h0 : Heap) (X00 : Ext Z.heap h0)  :
    Met l mn386 method_2_code 2 (some (.object c9_)) ws ({ frames := 4, cells := 3, slots := 8, locals := 66 } : Room) Z consts_1 vm0 h0 #[(.int x)] (fun rv vm h => ∃ (r : Addr), ∃ (t : Addr), ∃ (cs : List Int32), rv = some (.ref r) ∧ Keep h0 h [] ∧ h0.size ≤ r ∧ Str Z h r t cs) := by
  obtain ⟨hw, hEL, ⟨zc, Scs, hzc⟩, ⟨fm, Sfm, hfm⟩, hL0⟩ := id cx
  have hSA := own_SA hw
  refine Met.of_walk (a0 := a0) #[vi x, un] (plainFor_of_name own_pn387) X00 hEL (fun m => by first | (simp [entryFrame, mkF, argsToLocals, Value.category]; done) | rfl) ?_
  intro p e s m below meth c vm hx hby hml hret hnm hC0 hW0
  refine gs (mkF m 1 #[vi x, un] [(.int (2 : Int32))]) (fun _ _ A kq => XS.iconst A hx rfl (hb hby d360) kq) ?_
  refine gnewP hx (ow hw 4 rfl) (n := (2 : Int32)) (by decide) (cap := 2) (by decide) (by decide) 3 (hb hby d361) rfl (by decide) (by decide) ?_
  intro b1 h1 k1 g1 E1 C1 V1 n1 L1
  have z1 := C1.2.1
  have V1 : Arv Z h1 b1 k1 .char (2 : Int32) [(.int (0 : Int32)), (.int (0 : Int32))] (.int (0 : Int32)) := V1.pad (pad_rep [] (.int (0 : Int32)) 2)
  have lt_b1 : h1.size > b1 := V1.lt
  refine uD 4 hx hby d362 rfl rfl ?_
  refine gs (mkF m 5 #[vi x, un] [(.int (0 : Int32)), (.ref b1), (.ref b1)]) (fun _ _ A kq => XS.iconst A hx rfl (hb hby d363) kq) ?_
  refine uIN 6 hx hby d364 rfl rfl ?_
  refine gs (mkF m 9 #[vi x, un] [(.int (255 : Int32)), (.int x), (.int (0 : Int32)), (.ref b1), (.ref b1)]) (fun _ _ A kq => XS.sipush A hx rfl (hb hby d365) kq) ?_
  refine gs (mkF m 10 #[vi x, un] [(.int (x &&& (255 : Int32))), (.int (0 : Int32)), (.ref b1), (.ref b1)]) (fun _ _ A kq => XS.iand A hx rfl (hb hby d366) rfl kq) ?_
  refine gi2c hx (i2c_mask _) 11 (hb hby d367) rfl ?_
  refine gstC hx V1 ⟨by decide, by decide⟩ (i := 0) rfl (Nat.le_of_ble_eq_true rfl) (y := (x &&& (255 : Int32))) (narC _) n1 12 (hb hby d368) rfl ?_
  intro h2 W2 C2 V2
  have z2 := C2.2.1
  replace V2 : Arv Z h2 b1 k1 .char (2 : Int32) [(.int (x &&& (255 : Int32))), (.int (0 : Int32))] (.int (0 : Int32)) := V2
  refine uD 13 hx hby d369 rfl rfl ?_
  refine gs (mkF m 14 #[vi x, un] [(.int (1 : Int32)), (.ref b1), (.ref b1)]) (fun _ _ A kq => XS.iconst A hx rfl (hb hby d370) kq) ?_
  refine uIN 15 hx hby d371 rfl rfl ?_
  refine gs (mkF m 17 #[vi x, un] [(.int (8 : Int32)), (.int x), (.int (1 : Int32)), (.ref b1), (.ref b1)]) (fun _ _ A kq => XS.bipush A hx rfl (hb hby d372) kq) ?_
  refine gs (mkF m 18 #[vi x, un] [(.int ((x.toUInt32 >>> ((8 : Int32) &&& 31).toUInt32).toInt32)), (.int (1 : Int32)), (.ref b1), (.ref b1)]) (fun _ _ A kq => XS.iushr A hx rfl (hb hby d373) rfl kq) ?_
  refine gs (mkF m 21 #[vi x, un] [(.int (255 : Int32)), (.int ((x.toUInt32 >>> ((8 : Int32) &&& 31).toUInt32).toInt32)), (.int (1 : Int32)), (.ref b1), (.ref b1)]) (fun _ _ A kq => XS.sipush A hx rfl (hb hby d374) kq) ?_
  refine gs (mkF m 22 #[vi x, un] [(.int (((x.toUInt32 >>> ((8 : Int32) &&& 31).toUInt32).toInt32) &&& (255 : Int32))), (.int (1 : Int32)), (.ref b1), (.ref b1)]) (fun _ _ A kq => XS.iand A hx rfl (hb hby d375) rfl kq) ?_
  refine gi2c hx (i2c_mask _) 23 (hb hby d376) rfl ?_
  refine gstC hx V2 ⟨by decide, by decide⟩ (i := 1) rfl (Nat.le_of_ble_eq_true rfl) (y := (((x.toUInt32 >>> ((8 : Int32) &&& 31).toUInt32).toInt32) &&& (255 : Int32))) (narC _) n1 24 (hb hby d377) rfl ?_
  intro h3 W3 C3 V3
  have z3 := C3.2.1
  replace V3 : Arv Z h3 b1 k1 .char (2 : Int32) [(.int (x &&& (255 : Int32))), (.int (((x.toUInt32 >>> ((8 : Int32) &&& 31).toUInt32).toInt32) &&& (255 : Int32)))] (.int (0 : Int32)) := V3
  refine gs (mkF m 25 #[vi x, vr b1] []) (fun _ _ A kq => XS.astoreN A hx rfl (hb hby d378) rfl rfl (l' := #[vi x, vr b1]) rfl kq) ?_
  refine gnewO hx (ow hw 5 rfl) (ow hw 6 rfl) (ow hw 7 rfl) 28 (hb hby d379) rfl (by decide) (by decide) ?_
  intro b4 h4 g4 E4 C4 A4 D4 n4 L4
  have z4 := C4.2.1
  have lt_b4 : h4.size > b4 := A4.lt
  have F4_coder : Fld Z h4 b4 c9_ "coder" "B" (.int (0 : Int32)) := D4 (Or.inr (ow hw 31 rfl)) (ty := .byte) (by decide)
  have F4_value : Fld Z h4 b4 c9_ "value" "[B" .null := D4 (Or.inr (ow hw 33 rfl)) (ty := (.array .byte)) (by decide)
  refine uD 29 hx hby d380 rfl rfl ?_
  refine uAN 30 hx hby d381 rfl rfl rfl ?_
  have f6 := (V3.ext E4)
  refine ginfo fun _ _ O5 => ?_
  refine gcallI (y := mn384) hx rfl (ow hw 8 rfl) (ow hw 9 rfl) (ow hw 10 rfl) (by decide) (fun hZ H hEL => own_payNew (W := 1) (own_wNew hw) (ow hw 6 rfl) Scs hzc O5 (cs := [(x &&& (255 : Int32)), (((x.toUInt32 >>> ((8 : Int32) &&& 31).toUInt32).toInt32) &&& (255 : Int32))]) (n := 2) n4 A4 F4_value F4_coder f6 rfl rfl (by decide) (by decide) (bcons (b255 _) (bcons (b255 _) bnil)) L4 (by decide) (by decide) hZ H hEL) (a := b4) 33 (argsL := [(.ref b1)]) (rest := [(.ref b4)]) (lenOf own_pd383 rfl) rfl rfl (Nat.le_of_eq rfl) (by rw [hml]; rfl) (hb hby d382) rfl (by decide) (by decide) ?_
  rintro _ vm5 h5 C5 ⟨t5, rfl, K5, g5, S5⟩
  have z5 := C5.2.1
  have lt_t5 : h5.size > t5 := S5.tlt
  refine gat (mkF m 33 #[vi x, vr b1] [(.ref b4)]) rfl ?_
  exact gretA hx hret rfl rfl (hb hby d385) (by decide) (by decide) (fun vq Cq => ⟨b4, t5, [(x &&& (255 : Int32)), (((x.toUInt32 >>> ((8 : Int32) &&& 31).toUInt32).toInt32) &&& (255 : Int32))], rfl, ((((((Keep.refl h0 []).ext E1).wr W2 (Or.inr (by omega))).wr W3 (Or.inr (by omega))).ext E4).trans K5 (allS (Or.inr (by omega)) all0)), (by omega), S5⟩)
theorem d388 : decode jdk_30_method_1_code 0 = .ok (.aload_n 0, 1) := by decide +kernel
theorem d389 : decode jdk_30_method_1_code 1 = .ok (.invokespecial 1, 3) := by decide +kernel
theorem d390 : decode jdk_30_method_1_code 4 = .ok (.return_, 1) := by decide +kernel
abbrev mn391 : MethodName := ⟨"java/lang/Record", "<init>", "()V"⟩
theorem own_pn392 : plainName "java/lang/Record" = true := by first | (simp [plainName, overriddenIn]; done) | decide +kernel
theorem own_record (l : Launch) (Z : State) (a0 : Array Value) (cx : Ctx Z a0) (ws : List Jvm.Cond) (x : Addr) (vm0 : Vm) (h0 : Heap) (X00 : Ext Z.heap h0)  :
    Met l mn391 jdk_30_method_1_code 1 none ws ({ frames := 1, cells := 0, slots := 0, locals := 12 } : Room) Z consts_1 vm0 h0 #[(.ref x)] (fun rv vm h => rv = none ∧ h0 = h) := by
  obtain ⟨hw, hEL, ⟨zc, Scs, hzc⟩, ⟨fm, Sfm, hfm⟩, hL0⟩ := id cx
  have hSA := own_SA hw
  refine Met.of_walk (a0 := a0) #[vr x] (plainFor_of_name own_pn392) X00 hEL (fun m => by first | (simp [entryFrame, mkF, argsToLocals, Value.category]; done) | rfl) ?_
  intro p e s m below meth c vm hx hby hml hret hnm hC0 hW0
  refine uAN 1 hx hby d388 rfl rfl rfl ?_
  refine ginitO hx (ow hw 110 rfl) (ow hw 16 rfl) (ow hw 17 rfl) 4 (W := 0) (Nat.le_of_eq rfl) (by rw [hml]; rfl) (hb hby d389) rfl (by decide) (by decide) ?_
  exact gretV hx hret (hb hby d390) (by decide) (by decide) (fun vq Cq => ⟨rfl, rfl⟩)
theorem d393 : decode prog_31_method_5_code 0 = .ok (.aload_n 0, 1) := by decide +kernel
theorem d394 : decode prog_31_method_5_code 1 = .ok (.getfield 13, 3) := by decide +kernel
theorem d395 : decode prog_31_method_5_code 4 = .ok (.areturn, 1) := by decide +kernel
abbrev mn396 : MethodName := ⟨"com/example/limentinus/limentinus/core/Quorum$Script", "source", "()Ljava/lang/String;"⟩
theorem own_pn397 : plainName "com/example/limentinus/limentinus/core/Quorum$Script" = true := by first | (simp [plainName, overriddenIn]; done) | decide +kernel
theorem own_scsource (l : Launch) (Z : State) (a0 : Array Value) (cx : Ctx Z a0) (ws : List Jvm.Cond) (x : Addr) (y : Addr) (vm0 : Vm) (h0 : Heap) (X00 : Ext Z.heap h0) (P0 : Fld Z h0 x c6_ "source" c1_ (.ref y)) :
    Met l mn396 prog_31_method_5_code 1 (some (.object c9_)) ws ({ frames := 0, cells := 0, slots := 0, locals := 0 } : Room) Z consts_1 vm0 h0 #[(.ref x)] (fun rv vm h => rv = some (.ref y) ∧ h0 = h) := by
  obtain ⟨hw, hEL, ⟨zc, Scs, hzc⟩, ⟨fm, Sfm, hfm⟩, hL0⟩ := id cx
  have hSA := own_SA hw
  refine Met.of_walk (a0 := a0) #[vr x] (plainFor_of_name own_pn397) X00 hEL (fun m => by first | (simp [entryFrame, mkF, argsToLocals, Value.category]; done) | rfl) ?_
  intro p e s m below meth c vm hx hby hml hret hnm hC0 hW0
  have lt_x : h0.size > x := P0.lt
  refine uAN 1 hx hby d393 rfl rfl rfl ?_
  refine ggetF (host := "") hx (Or.inl (ow hw 150 rfl)) Via.refl P0 4 (hb hby d394) rfl ?_
  exact gretA hx hret rfl rfl (hb hby d395) (by decide) (by decide) (fun vq Cq => ⟨rfl, rfl⟩)
theorem d398 : decode prog_31_method_6_code 0 = .ok (.aload_n 0, 1) := by decide +kernel
theorem d399 : decode prog_31_method_6_code 1 = .ok (.getfield 19, 3) := by decide +kernel
theorem d400 : decode prog_31_method_6_code 4 = .ok (.areturn, 1) := by decide +kernel
abbrev mn401 : MethodName := ⟨"com/example/limentinus/limentinus/core/Quorum$Script", "keys", "()Ljava/util/List;"⟩
theorem own_sckeys (l : Launch) (Z : State) (a0 : Array Value) (cx : Ctx Z a0) (ws : List Jvm.Cond) (x : Addr) (y : Addr) (vm0 : Vm) (h0 : Heap) (X00 : Ext Z.heap h0) (P0 : Fld Z h0 x c6_ "keys" c2_ (.ref y)) :
    Met l mn401 prog_31_method_6_code 1 (some (.object c16_)) ws ({ frames := 0, cells := 0, slots := 0, locals := 0 } : Room) Z consts_1 vm0 h0 #[(.ref x)] (fun rv vm h => rv = some (.ref y) ∧ h0 = h) := by
  obtain ⟨hw, hEL, ⟨zc, Scs, hzc⟩, ⟨fm, Sfm, hfm⟩, hL0⟩ := id cx
  have hSA := own_SA hw
  refine Met.of_walk (a0 := a0) #[vr x] (plainFor_of_name own_pn397) X00 hEL (fun m => by first | (simp [entryFrame, mkF, argsToLocals, Value.category]; done) | rfl) ?_
  intro p e s m below meth c vm hx hby hml hret hnm hC0 hW0
  have lt_x : h0.size > x := P0.lt
  refine uAN 1 hx hby d398 rfl rfl rfl ?_
  refine ggetF (host := "") hx (Or.inl (ow hw 152 rfl)) Via.refl P0 4 (hb hby d399) rfl ?_
  exact gretA hx hret rfl rfl (hb hby d400) (by decide) (by decide) (fun vq Cq => ⟨rfl, rfl⟩)
theorem d402 : decode prog_31_method_7_code 0 = .ok (.aload_n 0, 1) := by decide +kernel
theorem d403 : decode prog_31_method_7_code 1 = .ok (.getfield 23, 3) := by decide +kernel
theorem d404 : decode prog_31_method_7_code 4 = .ok (.areturn, 1) := by decide +kernel
abbrev mn405 : MethodName := ⟨"com/example/limentinus/limentinus/core/Quorum$Script", "args", "()Ljava/util/List;"⟩
theorem own_scargs (l : Launch) (Z : State) (a0 : Array Value) (cx : Ctx Z a0) (ws : List Jvm.Cond) (x : Addr) (y : Addr) (vm0 : Vm) (h0 : Heap) (X00 : Ext Z.heap h0) (P0 : Fld Z h0 x c6_ "args" c2_ (.ref y)) :
    Met l mn405 prog_31_method_7_code 1 (some (.object c16_)) ws ({ frames := 0, cells := 0, slots := 0, locals := 0 } : Room) Z consts_1 vm0 h0 #[(.ref x)] (fun rv vm h => rv = some (.ref y) ∧ h0 = h) := by
  obtain ⟨hw, hEL, ⟨zc, Scs, hzc⟩, ⟨fm, Sfm, hfm⟩, hL0⟩ := id cx
  have hSA := own_SA hw
  refine Met.of_walk (a0 := a0) #[vr x] (plainFor_of_name own_pn397) X00 hEL (fun m => by first | (simp [entryFrame, mkF, argsToLocals, Value.category]; done) | rfl) ?_
  intro p e s m below meth c vm hx hby hml hret hnm hC0 hW0
  have lt_x : h0.size > x := P0.lt
  refine uAN 1 hx hby d402 rfl rfl rfl ?_
  refine ggetF (host := "") hx (Or.inl (ow hw 154 rfl)) Via.refl P0 4 (hb hby d403) rfl ?_
  exact gretA hx hret rfl rfl (hb hby d404) (by decide) (by decide) (fun vq Cq => ⟨rfl, rfl⟩)
theorem d406 : decode jdk_56_method_3_code 14 = .ok (.aload_n 0, 1) := by decide +kernel
theorem d407 : decode jdk_56_method_3_code 15 = .ok (.checkcast 12, 3) := by decide +kernel
theorem d408 : decode jdk_56_method_3_code 18 = .ok (.astore_n 1, 1) := by decide +kernel
theorem d409 : decode jdk_56_method_3_code 19 = .ok (.aload_n 1, 1) := by decide +kernel
theorem d410 : decode jdk_56_method_3_code 20 = .ok (.getfield 14, 3) := by decide +kernel
theorem d411 : decode jdk_56_method_3_code 23 = .ok (.ifCond .ne 8, 3) := by decide +kernel
theorem d412 : decode jdk_56_method_3_code 26 = .ok (.aload_n 0, 1) := by decide +kernel
theorem d413 : decode jdk_56_method_3_code 27 = .ok (.checkcast 18, 3) := by decide +kernel
theorem d414 : decode jdk_56_method_3_code 30 = .ok (.areturn, 1) := by decide +kernel
theorem own_lcE (l : Launch) (Z : State) (a0 : Array Value) (cx : Ctx Z a0) (ws : List Jvm.Cond) (dz : Addr) (el : Addr) (ee : Addr) (em : Addr) (mr : Addr) (kd : ClassId) (ke : ClassId) (vm0 : Vm) (h0 : Heap) (X00 : Ext Z.heap h0) (hL : (OwnL Z dz el ee em mr kd ke)) :
    Met l mn275 jdk_56_method_3_code 2 (some (.object c16_)) ws ({ frames := 0, cells := 0, slots := 0, locals := 0 } : Room) Z consts_1 vm0 h0 #[(.ref el)] (fun rv vm h => rv = some (.ref el) ∧ h0 = h) := by
  obtain ⟨hw, hEL, ⟨zc, Scs, hzc⟩, ⟨fm, Sfm, hfm⟩, hL0⟩ := id cx
  have hSA := own_SA hw
  refine Met.of_walk (a0 := a0) #[vr el, un] (plainFor_of_name own_pn256) X00 hEL (fun m => by first | (simp [entryFrame, mkF, argsToLocals, Value.category]; done) | rfl) ?_
  intro p e s m below meth c vm hx hby hml hret hnm hC0 hW0
  obtain ⟨Sdz, Edz, Vdz, Sel, Eel, Fee, Vee, Fan, Sem, Eem, Mmr, Sas⟩ := id hL
  refine ginfo fun _ _ OL1 => ?_
  have Eel_1 := Eel.ext OL1
  have Fan_1 := Fan.ext OL1
  have lt_el : h0.size > el := Eel_1.lt
  refine uAN 1 hx hby d261 rfl rfl rfl ?_
  refine ginstN hx (ow hw 119 rfl) Eel_1 (NSno (ow hw 162 rfl) (ow hw 317 rfl) (NS.step (ow hw 162 rfl) (NS.step (ow hw 163 rfl) (NS.step (ow hw 164 rfl) (NS.step (ow hw 122 rfl) (NSroot (ow hw 123 rfl) (ow hw 317 rfl) (by decide)) (by decide)) (by decide)) (by decide)) (by decide)) (by decide)) 4 (hb hby d262) rfl ?_
  refine gs (mkF m 7 #[vr el, un] []) (fun _ _ A kq => XS.ifNo A hx rfl (hb hby d263) rfl ((if0 _ _).trans (teq (by decide)).2) kq) ?_
  refine uAN 8 hx hby d264 rfl rfl rfl ?_
  refine ginstY hx (ow hw 124 rfl) (Ins.self Eel_1) 11 (hb hby d265) rfl ?_
  refine gs (mkF m 14 #[vr el, un] []) (fun _ _ A kq => XS.ifNo A hx rfl (hb hby d266) rfl ((if0 _ _).trans (feq (by decide)).1) kq) ?_
  refine uAN 15 hx hby d406 rfl rfl rfl ?_
  refine gcast hx (ow hw 124 rfl) (Ins.self Eel_1) 18 (hb hby d407) rfl ?_
  refine gs (mkF m 19 #[vr el, vr el] []) (fun _ _ A kq => XS.astoreN A hx rfl (hb hby d408) rfl rfl (l' := #[vr el, vr el]) rfl kq) ?_
  refine uAN 20 hx hby d409 rfl rfl rfl ?_
  refine ggetF (host := c13_) hx (Or.inr (ow hw 166 rfl)) Via.refl Fan_1 23 (hb hby d410) rfl ?_
  refine gs (mkF m 26 #[vr el, vr el] []) (fun _ _ A kq => XS.ifNo A hx rfl (hb hby d411) rfl ((if0 _ _).trans (teq (by decide)).2) kq) ?_
  refine uAN 27 hx hby d412 rfl rfl rfl ?_
  refine gcast hx (ow hw 168 rfl) (Ins.of_exa Eel_1 (ow hw 169 rfl)) 30 (hb hby d413) rfl ?_
  exact gretA hx hret rfl rfl (hb hby d414) (by decide) (by decide) (fun vq Cq => ⟨rfl, rfl⟩)
theorem own_coE (l : Launch) (Z : State) (a0 : Array Value) (cx : Ctx Z a0) (ws : List Jvm.Cond) (dz : Addr) (el : Addr) (ee : Addr) (em : Addr) (mr : Addr) (kd : ClassId) (ke : ClassId) (vm0 : Vm) (h0 : Heap) (X00 : Ext Z.heap h0) (hL : (OwnL Z dz el ee em mr kd ke)) :
    Met l mn280 jdk_40_method_48_code 1 (some (.object c16_)) ws ({ frames := 1, cells := 0, slots := 0, locals := 13 } : Room) Z consts_1 vm0 h0 #[(.ref el)] (fun rv vm h => rv = some (.ref el) ∧ h0 = h) := by
  obtain ⟨hw, hEL, ⟨zc, Scs, hzc⟩, ⟨fm, Sfm, hfm⟩, hL0⟩ := id cx
  have hSA := own_SA hw
  refine Met.of_walk (a0 := a0) #[vr el] (plainFor_of_name own_pn110) X00 hEL (fun m => by first | (simp [entryFrame, mkF, argsToLocals, Value.category]; done) | rfl) ?_
  intro p e s m below meth c vm hx hby hml hret hnm hC0 hW0
  obtain ⟨Sdz, Edz, Vdz, Sel, Eel, Fee, Vee, Fan, Sem, Eem, Mmr, Sas⟩ := id hL
  refine uAN 1 hx hby d276 rfl rfl rfl ?_
  refine ginfo fun _ _ O1 => ?_
  refine gcallS (y := mn275) hx (ow hw 115 rfl) (ow hw 116 rfl) (ow hw 117 rfl) (ow hw 118 rfl) (by decide) (fun hZ H hEL => Pay.of_met (W := 0) (own_lcE l Z a0 cx [] (dz) (el) (ee) (em) (mr) (kd) (ke) vm h0 O1 (by first | assumption | decide | omega)) (ow hw 118 rfl) (ow hw 117 rfl) (by decide) (by decide) hZ H hEL) 4 (argsL := [(.ref el)]) (rest := []) (lenOf own_pd278 rfl) rfl rfl (Nat.le_of_eq rfl) (by rw [hml]; rfl) (hb hby d277) rfl (by decide) (by decide) ?_
  rintro _ vm1 h1 C1 ⟨rfl, rfl⟩
  have z1 := C1.2.1
  refine gat (mkF m 4 #[vr el] [(.ref el)]) rfl ?_
  exact gretA hx hret rfl rfl (hb hby d279) (by decide) (by decide) (fun vq Cq => ⟨rfl, rfl⟩)
theorem d415 : decode jdk_2479_method_1_code 0 = .ok (.aload_n 0, 1) := by decide +kernel
theorem d416 : decode jdk_2479_method_1_code 1 = .ok (.invokespecial 1, 3) := by decide +kernel
theorem d417 : decode jdk_2479_method_1_code 4 = .ok (.getstatic 7, 3) := by decide +kernel
theorem d418 : decode jdk_2479_method_1_code 7 = .ok (.ifCond .ne 15, 3) := by decide +kernel
theorem d419 : decode jdk_2479_method_1_code 22 = .ok (.aload_n 0, 1) := by decide +kernel
theorem d420 : decode jdk_2479_method_1_code 23 = .ok (.iload_n 1, 1) := by decide +kernel
theorem d421 : decode jdk_2479_method_1_code 24 = .ok (.putfield 16, 3) := by decide +kernel
theorem d422 : decode jdk_2479_method_1_code 27 = .ok (.aload_n 0, 1) := by decide +kernel
theorem d423 : decode jdk_2479_method_1_code 28 = .ok (.aload_n 2, 1) := by decide +kernel
theorem d424 : decode jdk_2479_method_1_code 29 = .ok (.putfield 20, 3) := by decide +kernel
theorem d425 : decode jdk_2479_method_1_code 32 = .ok (.return_, 1) := by decide +kernel
abbrev mn426 : MethodName := ⟨"java/util/Collections$CopiesList", "<init>", "(ILjava/lang/Object;)V"⟩
theorem own_pn427 : plainName "java/util/Collections$CopiesList" = true := by first | (simp [plainName, overriddenIn]; done) | decide +kernel
theorem own_cplinit0 (l : Launch) (Z : State) (a0 : Array Value) (cx : Ctx Z a0) (ws : List Jvm.Cond) (x : Addr) (y : Addr) (u : Value) (dz : Addr) (el : Addr) (ee : Addr) (em : Addr) (mr : Addr) (kd : ClassId) (ke : ClassId) (vm0 : Vm) (h0 : Heap) (X00 : Ext Z.heap h0) (P0 : Exa Z h0 x c12_) (P1 : Fld Z h0 x c10_ "modCount" "I" (.int (0 : Int32))) (P2 : Fld Z h0 x c12_ "n" "I" (.int (0 : Int32))) (P3 : Fld Z h0 x c12_ "element" c0_ u) (P4 : Z.heap.size ≤ x) (hL : (OwnL Z dz el ee em mr kd ke)) :
    Met l mn426 jdk_2479_method_1_code 3 none ws ({ frames := 3, cells := 0, slots := 0, locals := 36 } : Room) Z consts_1 vm0 h0 #[(.ref x), (.int (0 : Int32)), (.ref y)] (fun rv vm h => rv = none ∧ Keep h0 h [x] ∧ Fld Z h x c12_ "n" "I" (.int (0 : Int32)) ∧ Fld Z h x c12_ "element" c0_ (.ref y)) := by
  obtain ⟨hw, hEL, ⟨zc, Scs, hzc⟩, ⟨fm, Sfm, hfm⟩, hL0⟩ := id cx
  have hSA := own_SA hw
  refine Met.of_walk (a0 := a0) #[vr x, vi (0 : Int32), vr y] (plainFor_of_name own_pn427) X00 hEL (fun m => by first | (simp [entryFrame, mkF, argsToLocals, Value.category]; done) | rfl) ?_
  intro p e s m below meth c vm hx hby hml hret hnm hC0 hW0
  have lt_x : h0.size > x := P0.lt
  obtain ⟨Sdz, Edz, Vdz, Sel, Eel, Fee, Vee, Fan, Sem, Eem, Mmr, Sas⟩ := id hL
  refine uAN 1 hx hby d415 rfl rfl rfl ?_
  refine ginfo fun _ _ O1 => ?_
  refine gcallI (y := mn12) hx rfl (ow hw 84 rfl) (ow hw 41 rfl) (ow hw 45 rfl) (by decide) (fun hZ H hEL => Pay.of_met (W := 0) (own_ablinitC l Z a0 cx [] (x) ((0 : Int32)) (u) vm h0 O1 P0 P1 P4 P2 P3) (ow hw 45 rfl) (ow hw 44 rfl) (by decide) (by decide) hZ H hEL) (a := x) 4 (argsL := []) (rest := []) (lenOf own_pd7 rfl) rfl rfl (Nat.le_of_eq rfl) (by rw [hml]; rfl) (hb hby d416) rfl (by decide) (by decide) ?_
  rintro _ vm1 h1 C1 ⟨rfl, K1, q1_0, q1_1, q1_2⟩
  have z1 := C1.2.1
  refine gat (mkF m 4 #[vr x, vi (0 : Int32), vr y] []) rfl ?_
  refine ggetS (host := "") hx (Or.inl (ow hw 88 rfl)) Via.refl Sas 7 (hb hby d417) rfl ?_
  refine gs (mkF m 22 #[vr x, vi (0 : Int32), vr y] []) (fun _ _ A kq => XS.ifYes A hx rfl (pc0 := 7) (pc' := 22) rfl (hb hby d418) rfl ((if0 _ _).trans (feq (by decide)).2) (by decide) (by decide) kq) ?_
  refine uAN 23 hx hby d419 rfl rfl rfl ?_
  refine uIN 24 hx hby d420 rfl rfl ?_
  have f2 := (P0.keep K1)
  refine gputF (host := "") hx (Or.inl (ow hw 89 rfl)) Via.refl q1_1 f2 (Or.inr ⟨(ow hw 90 rfl), rfl, hnm⟩) (ow hw 78 rfl) (ty := .int) (by decide) rfl rfl P4 (fun al => Safe.exa al f2 (by decide) (by decide)) 27 (hb hby d421) rfl ?_
  intro h3 W3 C3
  have z3 := C3.2.1
  have F3 := q1_1.same W3
  refine uAN 28 hx hby d422 rfl rfl rfl ?_
  refine uAN 29 hx hby d423 rfl rfl rfl ?_
  have f4 := (q1_2.other W3 (Or.inr (slot_ne (Or.inr (ow hw 92 rfl)) (Or.inr (ow hw 90 rfl)) (by decide) (t := (.object c8_)) (t' := .int) (by decide) (by decide))))
  have f5 := (f2.wr W3)
  refine gputF (host := "") hx (Or.inl (ow hw 91 rfl)) Via.refl f4 f5 (Or.inr ⟨(ow hw 92 rfl), rfl, hnm⟩) (ow hw 78 rfl) (ty := (.object c8_)) (by decide) rfl rfl P4 (fun al => Safe.exa al f5 (by decide) (by decide)) 32 (hb hby d424) rfl ?_
  intro h6 W6 C6
  have z6 := C6.2.1
  have F6 := f4.same W6
  have f8 := (F3.other W6 (Or.inr (slot_ne (Or.inr (ow hw 90 rfl)) (Or.inr (ow hw 92 rfl)) (by decide) (t := .int) (t' := (.object c8_)) (by decide) (by decide))))
  exact gretV hx hret (hb hby d425) (by decide) (by decide) (fun vq Cq => ⟨rfl, ((((Keep.refl h0 [x]).trans K1 (allS (Or.inl (List.mem_of_getElem? (i := 0) rfl)) all0)).wr W3 (Or.inl (List.mem_of_getElem? (i := 0) rfl))).wr W6 (Or.inl (List.mem_of_getElem? (i := 0) rfl))), f8, F6⟩)
theorem d428 : decode jdk_79_method_76_code 0 = .ok (.iload_n 0, 1) := by decide +kernel
theorem d429 : decode jdk_79_method_76_code 1 = .ok (.ifCond .ge 31, 3) := by decide +kernel
theorem d430 : decode jdk_79_method_76_code 32 = .ok (.new 417, 3) := by decide +kernel
theorem d431 : decode jdk_79_method_76_code 35 = .ok (.dup, 1) := by decide +kernel
theorem d432 : decode jdk_79_method_76_code 36 = .ok (.iload_n 0, 1) := by decide +kernel
theorem d433 : decode jdk_79_method_76_code 37 = .ok (.aload_n 1, 1) := by decide +kernel
theorem d434 : decode jdk_79_method_76_code 38 = .ok (.invokespecial 419, 3) := by decide +kernel
theorem own_pd435 : parseMethodDescriptor "(ILjava/lang/Object;)V" = some ⟨[.int, (.object "java/lang/Object")], none⟩ := by decide +kernel
theorem d436 : decode jdk_79_method_76_code 41 = .ok (.areturn, 1) := by decide +kernel
abbrev mn437 : MethodName := ⟨"java/util/Collections", "nCopies", "(ILjava/lang/Object;)Ljava/util/List;"⟩
theorem own_pn438 : plainName "java/util/Collections" = true := by first | (simp [plainName, overriddenIn]; done) | decide +kernel
theorem own_ncopies0 (l : Launch) (Z : State) (a0 : Array Value) (cx : Ctx Z a0) (ws : List Jvm.Cond) (y : Addr) (dz : Addr) (el : Addr) (ee : Addr) (em : Addr) (mr : Addr) (kd : ClassId) (ke : ClassId) (vm0 : Vm) (h0 : Heap) (X00 : Ext Z.heap h0) (hL : (OwnL Z dz el ee em mr kd ke)) :
    Met l mn437 jdk_79_method_76_code 2 (some (.object c16_)) ws ({ frames := 4, cells := 1, slots := 3, locals := 51 } : Room) Z consts_1 vm0 h0 #[(.int (0 : Int32)), (.ref y)] (fun rv vm h => ∃ (x : Addr), rv = some (.ref x) ∧ Keep h0 h [] ∧ h0.size ≤ x ∧ Exa Z h x c12_ ∧ Fld Z h x c12_ "n" "I" (.int (0 : Int32)) ∧ Fld Z h x c12_ "element" c0_ (.ref y)) := by
  obtain ⟨hw, hEL, ⟨zc, Scs, hzc⟩, ⟨fm, Sfm, hfm⟩, hL0⟩ := id cx
  have hSA := own_SA hw
  refine Met.of_walk (a0 := a0) #[vi (0 : Int32), vr y] (plainFor_of_name own_pn438) X00 hEL (fun m => by first | (simp [entryFrame, mkF, argsToLocals, Value.category]; done) | rfl) ?_
  intro p e s m below meth c vm hx hby hml hret hnm hC0 hW0
  obtain ⟨Sdz, Edz, Vdz, Sel, Eel, Fee, Vee, Fan, Sem, Eem, Mmr, Sas⟩ := id hL
  refine uIN 1 hx hby d428 rfl rfl ?_
  refine gs (mkF m 32 #[vi (0 : Int32), vr y] []) (fun _ _ A kq => XS.ifYes A hx rfl (pc0 := 1) (pc' := 32) rfl (hb hby d429) rfl ((if0 _ _).trans (flt (by decide)).2.1) (by decide) (by decide) kq) ?_
  refine gnewO hx (ow hw 77 rfl) (ow hw 78 rfl) (ow hw 79 rfl) 35 (hb hby d430) rfl (by decide) (by decide) ?_
  intro b1 h1 g1 E1 C1 A1 D1 n1 L1
  have z1 := C1.2.1
  have lt_b1 : h1.size > b1 := A1.lt
  have F1_modCount : Fld Z h1 b1 c10_ "modCount" "I" (.int (0 : Int32)) := D1 (Or.inl (ow hw 87 rfl)) (ty := .int) (by decide)
  have F1_n : Fld Z h1 b1 c12_ "n" "I" (.int (0 : Int32)) := D1 (Or.inr (ow hw 90 rfl)) (ty := .int) (by decide)
  have F1_element : Fld Z h1 b1 c12_ "element" c0_ .null := D1 (Or.inr (ow hw 92 rfl)) (ty := (.object c8_)) (by decide)
  refine uD 36 hx hby d431 rfl rfl ?_
  refine uIN 37 hx hby d432 rfl rfl ?_
  refine uAN 38 hx hby d433 rfl rfl rfl ?_
  refine ginfo fun _ _ O2 => ?_
  refine gcallI (y := mn426) hx rfl (ow hw 80 rfl) (ow hw 81 rfl) (ow hw 83 rfl) (by decide) (fun hZ H hEL => Pay.of_met (W := 1) (own_cplinit0 l Z a0 cx [] (b1) (y) (.null) (dz) (el) (ee) (em) (mr) (kd) (ke) vm h1 O2 A1 F1_modCount F1_n F1_element n1 (by first | assumption | decide | omega)) (ow hw 83 rfl) (ow hw 79 rfl) (by decide) (by decide) hZ H hEL) (a := b1) 41 (argsL := [(.int (0 : Int32)), (.ref y)]) (rest := [(.ref b1)]) (lenOf own_pd435 rfl) rfl rfl (Nat.le_of_eq rfl) (by rw [hml]; rfl) (hb hby d434) rfl (by decide) (by decide) ?_
  rintro _ vm2 h2 C2 ⟨rfl, K2, q2_0, q2_1⟩
  have z2 := C2.2.1
  refine gat (mkF m 41 #[vi (0 : Int32), vr y] [(.ref b1)]) rfl ?_
  have f4 := (A1.keep K2)
  exact gretA hx hret rfl rfl (hb hby d436) (by decide) (by decide) (fun vq Cq => ⟨b1, rfl, (((Keep.refl h0 []).ext E1).trans K2 (allS (Or.inr (by omega)) all0)), (by omega), f4, q2_0, q2_1⟩)
theorem d439 : decode jdk_2479_method_2_code 0 = .ok (.aload_n 0, 1) := by decide +kernel
theorem d440 : decode jdk_2479_method_2_code 1 = .ok (.getfield 16, 3) := by decide +kernel
theorem d441 : decode jdk_2479_method_2_code 4 = .ok (.ireturn, 1) := by decide +kernel
abbrev mn442 : MethodName := ⟨"java/util/Collections$CopiesList", "size", "()I"⟩
theorem own_cplsize0 (l : Launch) (Z : State) (a0 : Array Value) (cx : Ctx Z a0) (ws : List Jvm.Cond) (x : Addr) (vm0 : Vm) (h0 : Heap) (X00 : Ext Z.heap h0) (P0 : Fld Z h0 x c12_ "n" "I" (.int (0 : Int32))) :
    Met l mn442 jdk_2479_method_2_code 1 (some .int) ws ({ frames := 0, cells := 0, slots := 0, locals := 0 } : Room) Z consts_1 vm0 h0 #[(.ref x)] (fun rv vm h => rv = some (.int (0 : Int32)) ∧ h0 = h) := by
  obtain ⟨hw, hEL, ⟨zc, Scs, hzc⟩, ⟨fm, Sfm, hfm⟩, hL0⟩ := id cx
  have hSA := own_SA hw
  refine Met.of_walk (a0 := a0) #[vr x] (plainFor_of_name own_pn427) X00 hEL (fun m => by first | (simp [entryFrame, mkF, argsToLocals, Value.category]; done) | rfl) ?_
  intro p e s m below meth c vm hx hby hml hret hnm hC0 hW0
  have lt_x : h0.size > x := P0.lt
  refine uAN 1 hx hby d439 rfl rfl rfl ?_
  refine ggetF (host := "") hx (Or.inl (ow hw 89 rfl)) Via.refl P0 4 (hb hby d440) rfl ?_
  exact gretI hx hret (hb hby d441) (by decide) (by decide) (fun vq Cq => ⟨rfl, rfl⟩)
theorem d443 : decode jdk_22_method_4_code 0 = .ok (.aload_n 0, 1) := by decide +kernel
theorem d444 : decode jdk_22_method_4_code 1 = .ok (.invokevirtual 7, 3) := by decide +kernel
theorem own_pd445 : parseMethodDescriptor "()I" = some ⟨[], some .int⟩ := by decide +kernel
abbrev mn446 : MethodName := ⟨"java/util/AbstractCollection", "size", "()I"⟩
theorem d447 : decode jdk_22_method_4_code 4 = .ok (.ifCond .ne 7, 3) := by decide +kernel
theorem d448 : decode jdk_22_method_4_code 7 = .ok (.iconst 1, 1) := by decide +kernel
theorem d449 : decode jdk_22_method_4_code 8 = .ok (.goto 4, 3) := by decide +kernel
theorem d450 : decode jdk_22_method_4_code 12 = .ok (.ireturn, 1) := by decide +kernel
abbrev mn451 : MethodName := ⟨"java/util/AbstractCollection", "isEmpty", "()Z"⟩
theorem own_cplempty0 (l : Launch) (Z : State) (a0 : Array Value) (cx : Ctx Z a0) (ws : List Jvm.Cond) (x : Addr) (vm0 : Vm) (h0 : Heap) (X00 : Ext Z.heap h0) (P0 : Exa Z h0 x c12_) (P1 : Fld Z h0 x c12_ "n" "I" (.int (0 : Int32))) :
    Met l mn451 jdk_22_method_4_code 1 (some .boolean) ws ({ frames := 1, cells := 0, slots := 0, locals := 12 } : Room) Z consts_1 vm0 h0 #[(.ref x)] (fun rv vm h => rv = some (.int (1 : Int32)) ∧ h0 = h) := by
  obtain ⟨hw, hEL, ⟨zc, Scs, hzc⟩, ⟨fm, Sfm, hfm⟩, hL0⟩ := id cx
  have hSA := own_SA hw
  refine Met.of_walk (a0 := a0) #[vr x] (plainFor_of_name own_pn4) X00 hEL (fun m => by first | (simp [entryFrame, mkF, argsToLocals, Value.category]; done) | rfl) ?_
  intro p e s m below meth c vm hx hby hml hret hnm hC0 hW0
  have lt_x : h0.size > x := P0.lt
  refine uAN 1 hx hby d443 rfl rfl rfl ?_
  refine ginfo fun _ _ O1 => ?_
  refine gcallV (y := mn446) (z := mn442) hx (ow hw 145 rfl) (ow hw 146 rfl) (nfSup (ow hw 122 rfl)) (ow hw 147 rfl) (ow hw 148 rfl) (by decide) (fun hZ H hEL => Pay.of_met (W := 0) (own_cplsize0 l Z a0 cx [] (x) vm h0 O1 P1) (ow hw 149 rfl) (ow hw 79 rfl) (by decide) (by decide) hZ H hEL) 4 (argsL := []) (rest := []) P0 (lenOf own_pd445 rfl) rfl rfl (Nat.le_of_eq rfl) (by rw [hml]; rfl) (hb hby d444) rfl (by decide) (by decide) ?_
  rintro _ vm1 h1 C1 ⟨rfl, rfl⟩
  have z1 := C1.2.1
  refine gat (mkF m 4 #[vr x] [(.int (0 : Int32))]) rfl ?_
  refine gs (mkF m 7 #[vr x] []) (fun _ _ A kq => XS.ifNo A hx rfl (hb hby d447) rfl ((if0 _ _).trans (teq (by decide)).2) kq) ?_
  refine gs (mkF m 8 #[vr x] [(.int (1 : Int32))]) (fun _ _ A kq => XS.iconst A hx rfl (hb hby d448) kq) ?_
  refine uG 12 hx hby d449 (by decide) (by decide) ?_
  exact gretN (t := .boolean) hx hret (by simp) (hb hby d450) (by decide) (by decide) (fun vq Cq => ⟨rfl, rfl⟩)
theorem own_lcC0 (l : Launch) (Z : State) (a0 : Array Value) (cx : Ctx Z a0) (ws : List Jvm.Cond) (x : Addr) (y : Addr) (dz : Addr) (el : Addr) (ee : Addr) (em : Addr) (mr : Addr) (kd : ClassId) (ke : ClassId) (vm0 : Vm) (h0 : Heap) (X00 : Ext Z.heap h0) (P0 : Exa Z h0 x c12_) (P1 : Fld Z h0 x c12_ "n" "I" (.int (0 : Int32))) (P2 : Fld Z h0 x c12_ "element" c0_ (.ref y)) (P3 : Exa Z h0 y c9_) (hL : (OwnL Z dz el ee em mr kd ke)) :
    Met l mn275 jdk_56_method_3_code 2 (some (.object c16_)) ws ({ frames := 2, cells := 0, slots := 0, locals := 24 } : Room) Z consts_1 vm0 h0 #[(.ref x)] (fun rv vm h => rv = some (.ref el) ∧ Keep h0 h []) := by
  obtain ⟨hw, hEL, ⟨zc, Scs, hzc⟩, ⟨fm, Sfm, hfm⟩, hL0⟩ := id cx
  have hSA := own_SA hw
  refine Met.of_walk (a0 := a0) #[vr x, un] (plainFor_of_name own_pn256) X00 hEL (fun m => by first | (simp [entryFrame, mkF, argsToLocals, Value.category]; done) | rfl) ?_
  intro p e s m below meth c vm hx hby hml hret hnm hC0 hW0
  have lt_x : h0.size > x := P0.lt
  have lt_y : h0.size > y := P3.lt
  obtain ⟨Sdz, Edz, Vdz, Sel, Eel, Fee, Vee, Fan, Sem, Eem, Mmr, Sas⟩ := id hL
  refine uAN 1 hx hby d261 rfl rfl rfl ?_
  refine ginstN hx (ow hw 119 rfl) P0 (NSno (ow hw 138 rfl) (ow hw 317 rfl) (NS.step (ow hw 138 rfl) (NS.step (ow hw 121 rfl) (NS.step (ow hw 122 rfl) (NSroot (ow hw 123 rfl) (ow hw 317 rfl) (by decide)) (by decide)) (by decide)) (by decide)) (by decide)) 4 (hb hby d262) rfl ?_
  refine gs (mkF m 7 #[vr x, un] []) (fun _ _ A kq => XS.ifNo A hx rfl (hb hby d263) rfl ((if0 _ _).trans (teq (by decide)).2) kq) ?_
  refine uAN 8 hx hby d264 rfl rfl rfl ?_
  refine ginstN hx (ow hw 124 rfl) P0 (NSno (ow hw 138 rfl) (ow hw 277 rfl) (NS.step (ow hw 138 rfl) (NS.step (ow hw 121 rfl) (NS.step (ow hw 122 rfl) (NSroot (ow hw 123 rfl) (ow hw 277 rfl) (by decide)) (by decide)) (by decide)) (by decide)) (by decide)) 11 (hb hby d265) rfl ?_
  refine gs (mkF m 31 #[vr x, un] []) (fun _ _ A kq => XS.ifYes A hx rfl (pc0 := 11) (pc' := 31) rfl (hb hby d266) rfl ((if0 _ _).trans (teq (by decide)).1) (by decide) (by decide) kq) ?_
  refine uAN 32 hx hby d267 rfl rfl rfl ?_
  refine ginfo fun _ _ O1 => ?_
  refine gcallF (xi := mn270) (y := mn451) hx (ow hw 125 rfl) (ow hw 126 rfl) (fun _ _ hU => mvT hU (ow hw 127 rfl)) (ow hw 139 rfl) (ow hw 140 rfl) (ow hw 141 rfl) (ow hw 142 rfl) (ow hw 143 rfl) (by decide) (fun hZ H hEL => Pay.of_met (W := 0) (own_cplempty0 l Z a0 cx [] (x) vm h0 O1 P0 P1) (ow hw 144 rfl) (ow hw 50 rfl) (by decide) (by decide) hZ H hEL) 37 (argsL := []) (rest := []) P0 (lenOf own_pd269 rfl) rfl rfl (Nat.le_of_eq rfl) (by rw [hml]; rfl) (hb hby d268) rfl (by decide) (by decide) ?_
  rintro _ vm1 h1 C1 ⟨rfl, rfl⟩
  have z1 := C1.2.1
  refine gat (mkF m 37 #[vr x, un] [(.int (1 : Int32))]) rfl ?_
  refine gs (mkF m 40 #[vr x, un] []) (fun _ _ A kq => XS.ifNo A hx rfl (hb hby d271) rfl ((if0 _ _).trans (feq (by decide)).1) kq) ?_
  refine ginfo fun _ _ O2 => ?_
  refine gcallS (y := mn109) hx (ow hw 134 rfl) (ow hw 135 rfl) (ow hw 113 rfl) (ow hw 136 rfl) (by decide) (fun hZ H hEL => Pay.of_met (W := 0) (own_of0 l Z a0 cx [] (dz) (el) (ee) (em) (mr) (kd) (ke) vm1 h0 O2 (by first | assumption | decide | omega)) (ow hw 136 rfl) (ow hw 113 rfl) (by decide) (by decide) hZ H hEL) 43 (argsL := []) (rest := []) (lenOf own_pd273 rfl) rfl rfl (Nat.le_of_eq rfl) (by rw [hml]; rfl) (hb hby d272) rfl (by decide) (by decide) ?_
  rintro _ vm2 h2 C2 ⟨rfl, rfl⟩
  have z2 := C2.2.1
  refine gat (mkF m 43 #[vr x, un] [(.ref el)]) rfl ?_
  exact gretA hx hret rfl rfl (hb hby d274) (by decide) (by decide) (fun vq Cq => ⟨rfl, (Keep.refl h0 [])⟩)
theorem own_coC0 (l : Launch) (Z : State) (a0 : Array Value) (cx : Ctx Z a0) (ws : List Jvm.Cond) (x : Addr) (y : Addr) (dz : Addr) (el : Addr) (ee : Addr) (em : Addr) (mr : Addr) (kd : ClassId) (ke : ClassId) (vm0 : Vm) (h0 : Heap) (X00 : Ext Z.heap h0) (P0 : Exa Z h0 x c12_) (P1 : Fld Z h0 x c12_ "n" "I" (.int (0 : Int32))) (P2 : Fld Z h0 x c12_ "element" c0_ (.ref y)) (P3 : Exa Z h0 y c9_) (hL : (OwnL Z dz el ee em mr kd ke)) :
    Met l mn280 jdk_40_method_48_code 1 (some (.object c16_)) ws ({ frames := 3, cells := 0, slots := 0, locals := 37 } : Room) Z consts_1 vm0 h0 #[(.ref x)] (fun rv vm h => rv = some (.ref el) ∧ Keep h0 h []) := by
  obtain ⟨hw, hEL, ⟨zc, Scs, hzc⟩, ⟨fm, Sfm, hfm⟩, hL0⟩ := id cx
  have hSA := own_SA hw
  refine Met.of_walk (a0 := a0) #[vr x] (plainFor_of_name own_pn110) X00 hEL (fun m => by first | (simp [entryFrame, mkF, argsToLocals, Value.category]; done) | rfl) ?_
  intro p e s m below meth c vm hx hby hml hret hnm hC0 hW0
  have lt_x : h0.size > x := P0.lt
  have lt_y : h0.size > y := P3.lt
  obtain ⟨Sdz, Edz, Vdz, Sel, Eel, Fee, Vee, Fan, Sem, Eem, Mmr, Sas⟩ := id hL
  refine uAN 1 hx hby d276 rfl rfl rfl ?_
  refine ginfo fun _ _ O1 => ?_
  refine gcallS (y := mn275) hx (ow hw 115 rfl) (ow hw 116 rfl) (ow hw 117 rfl) (ow hw 118 rfl) (by decide) (fun hZ H hEL => Pay.of_met (W := 0) (own_lcC0 l Z a0 cx [] (x) (y) (dz) (el) (ee) (em) (mr) (kd) (ke) vm h0 O1 P0 P1 P2 P3 (by first | assumption | decide | omega)) (ow hw 118 rfl) (ow hw 117 rfl) (by decide) (by decide) hZ H hEL) 4 (argsL := [(.ref x)]) (rest := []) (lenOf own_pd278 rfl) rfl rfl (Nat.le_of_eq rfl) (by rw [hml]; rfl) (hb hby d277) rfl (by decide) (by decide) ?_
  rintro _ vm1 h1 C1 ⟨rfl, K1⟩
  have z1 := C1.2.1
  refine gat (mkF m 4 #[vr x] [(.ref el)]) rfl ?_
  exact gretA hx hret rfl rfl (hb hby d279) (by decide) (by decide) (fun vq Cq => ⟨rfl, ((Keep.refl h0 []).trans K1 all0)⟩)
theorem d452 : decode prog_31_method_1_code 0 = .ok (.aload_n 0, 1) := by decide +kernel
theorem d453 : decode prog_31_method_1_code 1 = .ok (.invokespecial 1, 3) := by decide +kernel
theorem d454 : decode prog_31_method_1_code 4 = .ok (.aload_n 2, 1) := by decide +kernel
theorem d455 : decode prog_31_method_1_code 5 = .ok (.invokestatic 7, 3) := by decide +kernel
theorem d456 : decode prog_31_method_1_code 8 = .ok (.astore_n 2, 1) := by decide +kernel
theorem d457 : decode prog_31_method_1_code 9 = .ok (.aload_n 3, 1) := by decide +kernel
theorem d458 : decode prog_31_method_1_code 10 = .ok (.invokestatic 7, 3) := by decide +kernel
theorem d459 : decode prog_31_method_1_code 13 = .ok (.astore_n 3, 1) := by decide +kernel
theorem d460 : decode prog_31_method_1_code 14 = .ok (.aload_n 0, 1) := by decide +kernel
theorem d461 : decode prog_31_method_1_code 15 = .ok (.aload_n 1, 1) := by decide +kernel
theorem d462 : decode prog_31_method_1_code 16 = .ok (.putfield 13, 3) := by decide +kernel
theorem d463 : decode prog_31_method_1_code 19 = .ok (.aload_n 0, 1) := by decide +kernel
theorem d464 : decode prog_31_method_1_code 20 = .ok (.aload_n 2, 1) := by decide +kernel
theorem d465 : decode prog_31_method_1_code 21 = .ok (.putfield 19, 3) := by decide +kernel
theorem d466 : decode prog_31_method_1_code 24 = .ok (.aload_n 0, 1) := by decide +kernel
theorem d467 : decode prog_31_method_1_code 25 = .ok (.aload_n 3, 1) := by decide +kernel
theorem d468 : decode prog_31_method_1_code 26 = .ok (.putfield 23, 3) := by decide +kernel
theorem d469 : decode prog_31_method_1_code 29 = .ok (.return_, 1) := by decide +kernel
abbrev mn470 : MethodName := ⟨"com/example/limentinus/limentinus/core/Quorum$Script", "<init>", "(Ljava/lang/String;Ljava/util/List;Ljava/util/List;)V"⟩
theorem own_scC0 (l : Launch) (Z : State) (a0 : Array Value) (cx : Ctx Z a0) (ws : List Jvm.Cond) (x : Addr) (sb : Addr) (u0 : Value) (u1 : Value) (u2 : Value) (kl : Addr) (al : Addr) (y : Addr) (dz : Addr) (el : Addr) (ee : Addr) (em : Addr) (mr : Addr) (kd : ClassId) (ke : ClassId) (vm0 : Vm) (h0 : Heap) (X00 : Ext Z.heap h0) (P0 : Exa Z h0 x c6_) (P1 : Fld Z h0 x c6_ "source" c1_ u0) (P2 : Fld Z h0 x c6_ "keys" c2_ u1) (P3 : Fld Z h0 x c6_ "args" c2_ u2) (P4 : Z.heap.size ≤ x) (P5 : Exa Z h0 kl c11_) (P6 : Fld Z h0 kl c11_ c7_ c3_ (.ref dz)) (P7 : Fld Z h0 kl c11_ "size" "I" (.int (0 : Int32))) (P8 : Exa Z h0 al c12_) (P9 : Fld Z h0 al c12_ "n" "I" (.int (0 : Int32))) (P10 : Fld Z h0 al c12_ "element" c0_ (.ref y)) (P11 : Exa Z h0 y c9_) (hL : (OwnL Z dz el ee em mr kd ke)) :
    Met l mn470 prog_31_method_1_code 4 none ws ({ frames := 4, cells := 0, slots := 0, locals := 49 } : Room) Z consts_1 vm0 h0 #[(.ref x), (.ref sb), (.ref kl), (.ref al)] (fun rv vm h => rv = none ∧ Keep h0 h [x] ∧ Fld Z h x c6_ "source" c1_ (.ref sb) ∧ Fld Z h x c6_ "keys" c2_ (.ref el) ∧ Fld Z h x c6_ "args" c2_ (.ref el)) := by
  obtain ⟨hw, hEL, ⟨zc, Scs, hzc⟩, ⟨fm, Sfm, hfm⟩, hL0⟩ := id cx
  have hSA := own_SA hw
  refine Met.of_walk (a0 := a0) #[vr x, vr sb, vr kl, vr al] (plainFor_of_name own_pn397) X00 hEL (fun m => by first | (simp [entryFrame, mkF, argsToLocals, Value.category]; done) | rfl) ?_
  intro p e s m below meth c vm hx hby hml hret hnm hC0 hW0
  have lt_x : h0.size > x := P0.lt
  have lt_kl : h0.size > kl := P5.lt
  have lt_al : h0.size > al := P8.lt
  have lt_y : h0.size > y := P11.lt
  obtain ⟨Sdz, Edz, Vdz, Sel, Eel, Fee, Vee, Fan, Sem, Eem, Mmr, Sas⟩ := id hL
  refine uAN 1 hx hby d452 rfl rfl rfl ?_
  refine ginfo fun _ _ O1 => ?_
  refine gcallI (y := mn391) hx rfl (ow hw 105 rfl) (ow hw 106 rfl) (ow hw 109 rfl) (by decide) (fun hZ H hEL => Pay.of_met (W := 0) (own_record l Z a0 cx [] (x) vm h0 O1 ) (ow hw 109 rfl) (ow hw 108 rfl) (by decide) (by decide) hZ H hEL) (a := x) 4 (argsL := []) (rest := []) (lenOf own_pd7 rfl) rfl rfl (Nat.le_of_eq rfl) (by rw [hml]; rfl) (hb hby d453) rfl (by decide) (by decide) ?_
  rintro _ vm1 h1 C1 ⟨rfl, rfl⟩
  have z1 := C1.2.1
  refine gat (mkF m 4 #[vr x, vr sb, vr kl, vr al] []) rfl ?_
  refine uAN 5 hx hby d454 rfl rfl rfl ?_
  refine ginfo fun _ _ O2 => ?_
  refine gcallS (y := mn280) hx (ow hw 111 rfl) (ow hw 112 rfl) (ow hw 113 rfl) (ow hw 114 rfl) (by decide) (fun hZ H hEL => Pay.of_met (W := 0) (own_copy0 l Z a0 cx [] (kl) (dz) (el) (ee) (em) (mr) (kd) (ke) vm1 h0 O2 P5 P6 P7 (by first | assumption | decide | omega)) (ow hw 114 rfl) (ow hw 113 rfl) (by decide) (by decide) hZ H hEL) 8 (argsL := [(.ref kl)]) (rest := []) (lenOf own_pd278 rfl) rfl rfl (Nat.le_of_eq rfl) (by rw [hml]; rfl) (hb hby d455) rfl (by decide) (by decide) ?_
  rintro _ vm2 h2 C2 ⟨rfl, K2⟩
  have z2 := C2.2.1
  refine gat (mkF m 8 #[vr x, vr sb, vr kl, vr al] [(.ref el)]) rfl ?_
  refine gs (mkF m 9 #[vr x, vr sb, vr el, vr al] []) (fun _ _ A kq => XS.astoreN A hx rfl (hb hby d456) rfl rfl (l' := #[vr x, vr sb, vr el, vr al]) rfl kq) ?_
  refine uAN 10 hx hby d457 rfl rfl rfl ?_
  have f4 := (P8.keep K2)
  have f5 := (P9.keep K2 nin0)
  have f6 := (P10.keep K2 nin0)
  have f7 := (P11.keep K2)
  refine ginfo fun _ _ O3 => ?_
  refine gcallS (y := mn280) hx (ow hw 111 rfl) (ow hw 112 rfl) (ow hw 113 rfl) (ow hw 114 rfl) (by decide) (fun hZ H hEL => Pay.of_met (W := 0) (own_coC0 l Z a0 cx [] (al) (y) (dz) (el) (ee) (em) (mr) (kd) (ke) vm2 h2 O3 f4 f5 f6 f7 (by first | assumption | decide | omega)) (ow hw 114 rfl) (ow hw 113 rfl) (by decide) (by decide) hZ H hEL) 13 (argsL := [(.ref al)]) (rest := []) (lenOf own_pd278 rfl) rfl rfl (Nat.le_of_eq rfl) (by rw [hml]; rfl) (hb hby d458) rfl (by decide) (by decide) ?_
  rintro _ vm3 h3 C3 ⟨rfl, K3⟩
  have z3 := C3.2.1
  refine gat (mkF m 13 #[vr x, vr sb, vr el, vr al] [(.ref el)]) rfl ?_
  refine gs (mkF m 14 #[vr x, vr sb, vr el, vr el] []) (fun _ _ A kq => XS.astoreN A hx rfl (hb hby d459) rfl rfl (l' := #[vr x, vr sb, vr el, vr el]) rfl kq) ?_
  refine uAN 15 hx hby d460 rfl rfl rfl ?_
  refine uAN 16 hx hby d461 rfl rfl rfl ?_
  have f8 := ((P1.keep K2 nin0).keep K3 nin0)
  have f9 := ((P0.keep K2).keep K3)
  refine gputF (host := "") hx (Or.inl (ow hw 150 rfl)) Via.refl f8 f9 (Or.inr ⟨(ow hw 151 rfl), rfl, hnm⟩) (ow hw 97 rfl) (ty := (.object c9_)) (by decide) rfl rfl P4 (fun al => Safe.exa al f9 (by decide) (by decide)) 19 (hb hby d462) rfl ?_
  intro h10 W10 C10
  have z10 := C10.2.1
  have F10 := f8.same W10
  refine uAN 20 hx hby d463 rfl rfl rfl ?_
  refine uAN 21 hx hby d464 rfl rfl rfl ?_
  have f11 := (((P2.keep K2 nin0).keep K3 nin0).other W10 (Or.inr (slot_ne (Or.inr (ow hw 153 rfl)) (Or.inr (ow hw 151 rfl)) (by decide) (t := (.object c16_)) (t' := (.object c9_)) (by decide) (by decide))))
  have f12 := (f9.wr W10)
  refine gputF (host := "") hx (Or.inl (ow hw 152 rfl)) Via.refl f11 f12 (Or.inr ⟨(ow hw 153 rfl), rfl, hnm⟩) (ow hw 97 rfl) (ty := (.object c16_)) (by decide) rfl rfl P4 (fun al => Safe.exa al f12 (by decide) (by decide)) 24 (hb hby d465) rfl ?_
  intro h13 W13 C13
  have z13 := C13.2.1
  have F13 := f11.same W13
  refine uAN 25 hx hby d466 rfl rfl rfl ?_
  refine uAN 26 hx hby d467 rfl rfl rfl ?_
  have f14 := ((((P3.keep K2 nin0).keep K3 nin0).other W10 (Or.inr (slot_ne (Or.inr (ow hw 155 rfl)) (Or.inr (ow hw 151 rfl)) (by decide) (t := (.object c16_)) (t' := (.object c9_)) (by decide) (by decide)))).other W13 (Or.inr (slot_ne (Or.inr (ow hw 155 rfl)) (Or.inr (ow hw 153 rfl)) (by decide) (t := (.object c16_)) (t' := (.object c16_)) (by decide) (by decide))))
  have f15 := (f12.wr W13)
  refine gputF (host := "") hx (Or.inl (ow hw 154 rfl)) Via.refl f14 f15 (Or.inr ⟨(ow hw 155 rfl), rfl, hnm⟩) (ow hw 97 rfl) (ty := (.object c16_)) (by decide) rfl rfl P4 (fun al => Safe.exa al f15 (by decide) (by decide)) 29 (hb hby d468) rfl ?_
  intro h16 W16 C16
  have z16 := C16.2.1
  have F16 := f14.same W16
  have f18 := ((F10.other W13 (Or.inr (slot_ne (Or.inr (ow hw 151 rfl)) (Or.inr (ow hw 153 rfl)) (by decide) (t := (.object c9_)) (t' := (.object c16_)) (by decide) (by decide)))).other W16 (Or.inr (slot_ne (Or.inr (ow hw 151 rfl)) (Or.inr (ow hw 155 rfl)) (by decide) (t := (.object c9_)) (t' := (.object c16_)) (by decide) (by decide))))
  have f19 := (F13.other W16 (Or.inr (slot_ne (Or.inr (ow hw 153 rfl)) (Or.inr (ow hw 155 rfl)) (by decide) (t := (.object c16_)) (t' := (.object c16_)) (by decide) (by decide))))
  exact gretV hx hret (hb hby d469) (by decide) (by decide) (fun vq Cq => ⟨rfl, ((((((Keep.refl h0 [x]).trans K2 all0).trans K3 all0).wr W10 (Or.inl (List.mem_of_getElem? (i := 0) rfl))).wr W13 (Or.inl (List.mem_of_getElem? (i := 0) rfl))).wr W16 (Or.inl (List.mem_of_getElem? (i := 0) rfl))), f18, f19, F16⟩)
theorem d471 : decode prog_21_method_4_code 0 = .ok (.new 7, 3) := by decide +kernel
theorem d472 : decode prog_21_method_4_code 3 = .ok (.dup, 1) := by decide +kernel
theorem d473 : decode prog_21_method_4_code 4 = .ok (.ldc 40, 2) := by decide +kernel
theorem d474 : decode prog_21_method_4_code 6 = .ok (.aload_n 0, 1) := by decide +kernel
theorem d475 : decode prog_21_method_4_code 7 = .ok (.aload_n 1, 1) := by decide +kernel
theorem d476 : decode prog_21_method_4_code 8 = .ok (.invokespecial 23, 3) := by decide +kernel
theorem own_pd477 : parseMethodDescriptor "(Ljava/lang/String;Ljava/util/List;Ljava/util/List;)V" = some ⟨[(.object "java/lang/String"), (.object "java/util/List"), (.object "java/util/List")], none⟩ := by decide +kernel
theorem d478 : decode prog_21_method_4_code 11 = .ok (.areturn, 1) := by decide +kernel
abbrev mn479 : MethodName := ⟨"com/example/limentinus/limentinus/core/KeyScripts", "release", "(Ljava/util/List;Ljava/util/List;)Lcom/example/limentinus/limentinus/core/Quorum$Script;"⟩
theorem own_pn480 : plainName "com/example/limentinus/limentinus/core/KeyScripts" = true := by first | (simp [plainName, overriddenIn]; done) | decide +kernel
theorem own_relC0 (l : Launch) (Z : State) (a0 : Array Value) (cx : Ctx Z a0) (ws : List Jvm.Cond) (kl : Addr) (al : Addr) (y : Addr) (dz : Addr) (el : Addr) (ee : Addr) (em : Addr) (mr : Addr) (kd : ClassId) (ke : ClassId) (vm0 : Vm) (h0 : Heap) (X00 : Ext Z.heap h0) (P0 : Exa Z h0 kl c11_) (P1 : Fld Z h0 kl c11_ c7_ c3_ (.ref dz)) (P2 : Fld Z h0 kl c11_ "size" "I" (.int (0 : Int32))) (P3 : Exa Z h0 al c12_) (P4 : Fld Z h0 al c12_ "n" "I" (.int (0 : Int32))) (P5 : Fld Z h0 al c12_ "element" c0_ (.ref y)) (P6 : Exa Z h0 y c9_) (hL : (OwnL Z dz el ee em mr kd ke)) :
    Met l mn479 prog_21_method_4_code 2 (some (.object c6_)) ws ({ frames := 5, cells := 3, slots := 831, locals := 65 } : Room) Z consts_1 vm0 h0 #[(.ref kl), (.ref al)] (fun rv vm h => ∃ (r : Addr), ∃ (sb : Addr), ∃ (tb : Addr), rv = some (.ref r) ∧ Keep h0 h [] ∧ Exa Z h r c6_ ∧ Str Z h sb tb own_rel ∧ Fld Z h r c6_ "source" c1_ (.ref sb) ∧ Fld Z h r c6_ "keys" c2_ (.ref el) ∧ Fld Z h r c6_ "args" c2_ (.ref el) ∧ Lit (Z.setVm vm) c5_ 40 sb) := by
  obtain ⟨hw, hEL, ⟨zc, Scs, hzc⟩, ⟨fm, Sfm, hfm⟩, hL0⟩ := id cx
  have hSA := own_SA hw
  refine Met.of_walk (a0 := a0) #[vr kl, vr al] (plainFor_of_name own_pn480) X00 hEL (fun m => by first | (simp [entryFrame, mkF, argsToLocals, Value.category]; done) | rfl) ?_
  intro p e s m below meth c vm hx hby hml hret hnm hC0 hW0
  have lt_kl : h0.size > kl := P0.lt
  have lt_al : h0.size > al := P3.lt
  have lt_y : h0.size > y := P6.lt
  obtain ⟨Sdz, Edz, Vdz, Sel, Eel, Fee, Vee, Fan, Sem, Eem, Mmr, Sas⟩ := id hL
  refine gnewO hx (ow hw 96 rfl) (ow hw 97 rfl) (ow hw 98 rfl) 3 (hb hby d471) rfl (by decide) (by decide) ?_
  intro b1 h1 g1 E1 C1 A1 D1 n1 L1
  have z1 := C1.2.1
  have lt_b1 : h1.size > b1 := A1.lt
  have F1_source : Fld Z h1 b1 c6_ "source" c1_ .null := D1 (Or.inr (ow hw 151 rfl)) (ty := (.object c9_)) (by decide)
  have F1_keys : Fld Z h1 b1 c6_ "keys" c2_ .null := D1 (Or.inr (ow hw 153 rfl)) (ty := (.object c16_)) (by decide)
  have F1_args : Fld Z h1 b1 c6_ "args" c2_ .null := D1 (Or.inr (ow hw 155 rfl)) (ty := (.object c16_)) (by decide)
  refine uD 4 hx hby d472 rfl rfl ?_
  refine gldcL hx (ow hw 99 rfl) hSA (by decide) (n := 824) (by decide) (by decide) (vs := own_relV) (z := (206 : Int32)) (by decide +kernel) (by decide) (by decide) 6 (hb hby d473) rfl (by decide) (by decide) ?_
  intro b2 t2 k2 vm2 h2 E2 C2 Q2a Q2b Q2c Q2d Q2e FL2
  have z2 := C2.2.1
  have S2 : Str Z h2 b2 t2 own_rel := Str.lit Q2a Q2b Q2c Q2d (by decide) rfl rfl (by decide)
  have lt_b2 : h2.size > b2 := S2.1.lt
  have lt_t2 : h2.size > t2 := S2.tlt
  have f3 := (C2.safe (show h1.size > b1 by omega) L1)
  have ne2_b1 := Q2e b1 f3
  refine uAN 7 hx hby d474 rfl rfl rfl ?_
  refine uAN 8 hx hby d475 rfl rfl rfl ?_
  have f5 := (A1.ext E2)
  have f6 := (F1_source.ext E2)
  have f7 := (F1_keys.ext E2)
  have f8 := (F1_args.ext E2)
  have f9 := ((P0.ext E1).ext E2)
  have f10 := ((P1.ext E1).ext E2)
  have f11 := ((P2.ext E1).ext E2)
  have f12 := ((P3.ext E1).ext E2)
  have f13 := ((P4.ext E1).ext E2)
  have f14 := ((P5.ext E1).ext E2)
  have f15 := ((P6.ext E1).ext E2)
  refine ginfo fun _ _ O4 => ?_
  refine gcallIW (y := mn470) hx rfl (ow hw 102 rfl) (ow hw 103 rfl) (ow hw 104 rfl) (by decide) (fun hZ H hEL => Pay.of_met (W := 1) (own_scC0 l Z a0 cx [] (b1) (b2) (.null) (.null) (.null) (kl) (al) (y) (dz) (el) (ee) (em) (mr) (kd) (ke) vm2 h2 O4 f5 f6 f7 f8 n1 f9 f10 f11 f12 f13 f14 f15 (by first | assumption | decide | omega)) (ow hw 104 rfl) (ow hw 98 rfl) (by decide) (by decide) hZ H hEL) (a := b1) 11 (argsL := [(.ref b2), (.ref kl), (.ref al)]) (rest := [(.ref b1)]) (lenOf own_pd477 rfl) rfl rfl (Nat.le_of_eq rfl) (by rw [hml]; rfl) (hb hby d476) rfl (by decide) (by decide) ?_
  rintro _ vm4 h4 WM4 C4 ⟨rfl, K4, q4_0, q4_1, q4_2⟩
  have z4 := C4.2.1
  refine gat (mkF m 11 #[vr kl, vr al] [(.ref b1)]) rfl ?_
  have f17 := (f5.keep K4)
  have f18 := (S2.keep K4 (ninS (Ne.symm ne2_b1.1) nin0) (ninS (Ne.symm ne2_b1.2) nin0))
  exact gretAW hx hret rfl rfl (hb hby d478) (by decide) (by decide) (fun vq Wq Cq => ⟨b1, b2, t2, rfl, ((((Keep.refl h0 []).ext E1).ext E2).trans K4 (allS (Or.inr (by omega)) all0)), f17, f18, q4_0, q4_1, q4_2, (State.resolvedAt?_warmed39 Wq (State.resolvedAt?_warmed39 WM4 FL2))⟩)
theorem d481 : decode prog_21_method_3_code 0 = .ok (.aload_n 0, 1) := by decide +kernel
theorem d482 : decode prog_21_method_3_code 1 = .ok (.aload_n 0, 1) := by decide +kernel
theorem d483 : decode prog_21_method_3_code 2 = .ok (.invokeinterface 26 1, 5) := by decide +kernel
abbrev mn484 : MethodName := ⟨"java/util/List", "size", "()I"⟩
theorem d485 : decode prog_21_method_3_code 7 = .ok (.aload_n 1, 1) := by decide +kernel
theorem d486 : decode prog_21_method_3_code 8 = .ok (.invokestatic 30, 3) := by decide +kernel
theorem own_pd487 : parseMethodDescriptor "(ILjava/lang/Object;)Ljava/util/List;" = some ⟨[.int, (.object "java/lang/Object")], some (.object "java/util/List")⟩ := by decide +kernel
theorem d488 : decode prog_21_method_3_code 11 = .ok (.invokestatic 36, 3) := by decide +kernel
theorem own_pd489 : parseMethodDescriptor "(Ljava/util/List;Ljava/util/List;)Lcom/example/limentinus/limentinus/core/Quorum$Script;" = some ⟨[(.object "java/util/List"), (.object "java/util/List")], some (.object "com/example/limentinus/limentinus/core/Quorum$Script")⟩ := by decide +kernel
theorem d490 : decode prog_21_method_3_code 14 = .ok (.areturn, 1) := by decide +kernel
abbrev mn491 : MethodName := ⟨"com/example/limentinus/limentinus/core/KeyScripts", "release", "(Ljava/util/List;Ljava/lang/String;)Lcom/example/limentinus/limentinus/core/Quorum$Script;"⟩
theorem own_rel1_0 (l : Launch) (Z : State) (a0 : Array Value) (cx : Ctx Z a0) (ws : List Jvm.Cond) (kl : Addr) (y : Addr) (dz : Addr) (el : Addr) (ee : Addr) (em : Addr) (mr : Addr) (kd : ClassId) (ke : ClassId) (vm0 : Vm) (h0 : Heap) (X00 : Ext Z.heap h0) (P0 : Exa Z h0 kl c11_) (P1 : Fld Z h0 kl c11_ c7_ c3_ (.ref dz)) (P2 : Fld Z h0 kl c11_ "size" "I" (.int (0 : Int32))) (P3 : Exa Z h0 y c9_) (hL : (OwnL Z dz el ee em mr kd ke)) :
    Met l mn491 prog_21_method_3_code 2 (some (.object c6_)) ws ({ frames := 6, cells := 4, slots := 834, locals := 78 } : Room) Z consts_1 vm0 h0 #[(.ref kl), (.ref y)] (fun rv vm h => ∃ (r : Addr), ∃ (sb : Addr), ∃ (tb : Addr), rv = some (.ref r) ∧ Keep h0 h [] ∧ Exa Z h r c6_ ∧ Str Z h sb tb own_rel ∧ Fld Z h r c6_ "source" c1_ (.ref sb) ∧ Fld Z h r c6_ "keys" c2_ (.ref el) ∧ Fld Z h r c6_ "args" c2_ (.ref el) ∧ Lit (Z.setVm vm) c5_ 40 sb) := by
  obtain ⟨hw, hEL, ⟨zc, Scs, hzc⟩, ⟨fm, Sfm, hfm⟩, hL0⟩ := id cx
  have hSA := own_SA hw
  refine Met.of_walk (a0 := a0) #[vr kl, vr y] (plainFor_of_name own_pn480) X00 hEL (fun m => by first | (simp [entryFrame, mkF, argsToLocals, Value.category]; done) | rfl) ?_
  intro p e s m below meth c vm hx hby hml hret hnm hC0 hW0
  have lt_kl : h0.size > kl := P0.lt
  have lt_y : h0.size > y := P3.lt
  obtain ⟨Sdz, Edz, Vdz, Sel, Eel, Fee, Vee, Fan, Sem, Eem, Mmr, Sas⟩ := id hL
  refine uAN 1 hx hby d481 rfl rfl rfl ?_
  refine uAN 2 hx hby d482 rfl rfl rfl ?_
  refine ginfo fun _ _ O1 => ?_
  refine gcallF (xi := mn484) (y := mn98) hx (ow hw 62 rfl) (ow hw 63 rfl) (fun _ _ hU => mvT hU (ow hw 64 rfl)) (ow hw 65 rfl) (ow hw 66 rfl) (ow hw 67 rfl) (ow hw 68 rfl) (ow hw 69 rfl) (by decide) (fun hZ H hEL => Pay.of_met (W := 1) (own_alsize l Z a0 cx [] (kl) ((0 : Int32)) vm h0 O1 P2) (ow hw 70 rfl) (ow hw 36 rfl) (by decide) (by decide) hZ H hEL) 7 (argsL := []) (rest := [(.ref kl)]) P0 (lenOf own_pd445 rfl) rfl rfl (Nat.le_of_eq rfl) (by rw [hml]; rfl) (hb hby d483) rfl (by decide) (by decide) ?_
  rintro _ vm1 h1 C1 ⟨rfl, rfl⟩
  have z1 := C1.2.1
  refine gat (mkF m 7 #[vr kl, vr y] [(.int (0 : Int32)), (.ref kl)]) rfl ?_
  refine uAN 8 hx hby d485 rfl rfl rfl ?_
  refine ginfo fun _ _ O2 => ?_
  refine gcallS (y := mn437) hx (ow hw 73 rfl) (ow hw 74 rfl) (ow hw 75 rfl) (ow hw 76 rfl) (by decide) (fun hZ H hEL => Pay.of_met (W := 1) (own_ncopies0 l Z a0 cx [] (y) (dz) (el) (ee) (em) (mr) (kd) (ke) vm1 h0 O2 (by first | assumption | decide | omega)) (ow hw 76 rfl) (ow hw 75 rfl) (by decide) (by decide) hZ H hEL) 11 (argsL := [(.int (0 : Int32)), (.ref y)]) (rest := [(.ref kl)]) (lenOf own_pd487 rfl) rfl rfl (Nat.le_of_eq rfl) (by rw [hml]; rfl) (hb hby d486) rfl (by decide) (by decide) ?_
  rintro _ vm2 h2 C2 ⟨x2, rfl, K2, q2_0, q2_1, q2_2, q2_3⟩
  have z2 := C2.2.1
  have lt_x2 : h2.size > x2 := q2_1.lt
  refine gat (mkF m 11 #[vr kl, vr y] [(.ref x2), (.ref kl)]) rfl ?_
  have f4 := (P0.keep K2)
  have f5 := (P1.keep K2 nin0)
  have f6 := (P2.keep K2 nin0)
  have f7 := (P3.keep K2)
  refine ginfo fun _ _ O3 => ?_
  refine gcallS (y := mn479) hx (ow hw 93 rfl) (ow hw 94 rfl) (ow hw 60 rfl) (ow hw 95 rfl) (by decide) (fun hZ H hEL => Pay.of_met (W := 0) (own_relC0 l Z a0 cx [] (kl) (x2) (y) (dz) (el) (ee) (em) (mr) (kd) (ke) vm2 h2 O3 f4 f5 f6 q2_1 q2_2 q2_3 f7 (by first | assumption | decide | omega)) (ow hw 95 rfl) (ow hw 60 rfl) (by decide) (by decide) hZ H hEL) 14 (argsL := [(.ref kl), (.ref x2)]) (rest := []) (lenOf own_pd489 rfl) rfl rfl (Nat.le_of_eq rfl) (by rw [hml]; rfl) (hb hby d488) rfl (by decide) (by decide) ?_
  rintro _ vm3 h3 C3 ⟨r3, sb3, tb3, rfl, K3, q3_0, q3_1, q3_2, q3_3, q3_4, q3_5⟩
  have z3 := C3.2.1
  have lt_r3 : h3.size > r3 := q3_0.lt
  have lt_sb3 : h3.size > sb3 := q3_1.1.lt
  have lt_tb3 : h3.size > tb3 := q3_1.tlt
  refine gat (mkF m 14 #[vr kl, vr y] [(.ref r3)]) rfl ?_
  exact gretAW hx hret rfl rfl (hb hby d490) (by decide) (by decide) (fun vq Wq Cq => ⟨r3, sb3, tb3, rfl, (((Keep.refl h0 []).trans K2 all0).trans K3 all0), q3_0, q3_1, q3_2, q3_3, q3_4, (State.resolvedAt?_warmed39 Wq q3_5)⟩)
theorem own_scA0 (l : Launch) (Z : State) (a0 : Array Value) (cx : Ctx Z a0) (ws : List Jvm.Cond) (x : Addr) (sb : Addr) (u0 : Value) (u1 : Value) (u2 : Value) (kl : Addr) (al : Addr) (dz : Addr) (el : Addr) (ee : Addr) (em : Addr) (mr : Addr) (kd : ClassId) (ke : ClassId) (vm0 : Vm) (h0 : Heap) (X00 : Ext Z.heap h0) (P0 : Exa Z h0 x c6_) (P1 : Fld Z h0 x c6_ "source" c1_ u0) (P2 : Fld Z h0 x c6_ "keys" c2_ u1) (P3 : Fld Z h0 x c6_ "args" c2_ u2) (P4 : Z.heap.size ≤ x) (P5 : Exa Z h0 kl c11_) (P6 : Fld Z h0 kl c11_ c7_ c3_ (.ref dz)) (P7 : Fld Z h0 kl c11_ "size" "I" (.int (0 : Int32))) (P8 : Exa Z h0 al c11_) (P9 : Fld Z h0 al c11_ c7_ c3_ (.ref dz)) (P10 : Fld Z h0 al c11_ "size" "I" (.int (0 : Int32))) (hL : (OwnL Z dz el ee em mr kd ke)) :
    Met l mn470 prog_31_method_1_code 4 none ws ({ frames := 3, cells := 0, slots := 0, locals := 37 } : Room) Z consts_1 vm0 h0 #[(.ref x), (.ref sb), (.ref kl), (.ref al)] (fun rv vm h => rv = none ∧ Keep h0 h [x] ∧ Fld Z h x c6_ "source" c1_ (.ref sb) ∧ Fld Z h x c6_ "keys" c2_ (.ref el) ∧ Fld Z h x c6_ "args" c2_ (.ref el)) := by
  obtain ⟨hw, hEL, ⟨zc, Scs, hzc⟩, ⟨fm, Sfm, hfm⟩, hL0⟩ := id cx
  have hSA := own_SA hw
  refine Met.of_walk (a0 := a0) #[vr x, vr sb, vr kl, vr al] (plainFor_of_name own_pn397) X00 hEL (fun m => by first | (simp [entryFrame, mkF, argsToLocals, Value.category]; done) | rfl) ?_
  intro p e s m below meth c vm hx hby hml hret hnm hC0 hW0
  have lt_x : h0.size > x := P0.lt
  have lt_kl : h0.size > kl := P5.lt
  have lt_al : h0.size > al := P8.lt
  obtain ⟨Sdz, Edz, Vdz, Sel, Eel, Fee, Vee, Fan, Sem, Eem, Mmr, Sas⟩ := id hL
  refine uAN 1 hx hby d452 rfl rfl rfl ?_
  refine ginfo fun _ _ O1 => ?_
  refine gcallI (y := mn391) hx rfl (ow hw 105 rfl) (ow hw 106 rfl) (ow hw 109 rfl) (by decide) (fun hZ H hEL => Pay.of_met (W := 0) (own_record l Z a0 cx [] (x) vm h0 O1 ) (ow hw 109 rfl) (ow hw 108 rfl) (by decide) (by decide) hZ H hEL) (a := x) 4 (argsL := []) (rest := []) (lenOf own_pd7 rfl) rfl rfl (Nat.le_of_eq rfl) (by rw [hml]; rfl) (hb hby d453) rfl (by decide) (by decide) ?_
  rintro _ vm1 h1 C1 ⟨rfl, rfl⟩
  have z1 := C1.2.1
  refine gat (mkF m 4 #[vr x, vr sb, vr kl, vr al] []) rfl ?_
  refine uAN 5 hx hby d454 rfl rfl rfl ?_
  refine ginfo fun _ _ O2 => ?_
  refine gcallS (y := mn280) hx (ow hw 111 rfl) (ow hw 112 rfl) (ow hw 113 rfl) (ow hw 114 rfl) (by decide) (fun hZ H hEL => Pay.of_met (W := 0) (own_copy0 l Z a0 cx [] (kl) (dz) (el) (ee) (em) (mr) (kd) (ke) vm1 h0 O2 P5 P6 P7 (by first | assumption | decide | omega)) (ow hw 114 rfl) (ow hw 113 rfl) (by decide) (by decide) hZ H hEL) 8 (argsL := [(.ref kl)]) (rest := []) (lenOf own_pd278 rfl) rfl rfl (Nat.le_of_eq rfl) (by rw [hml]; rfl) (hb hby d455) rfl (by decide) (by decide) ?_
  rintro _ vm2 h2 C2 ⟨rfl, K2⟩
  have z2 := C2.2.1
  refine gat (mkF m 8 #[vr x, vr sb, vr kl, vr al] [(.ref el)]) rfl ?_
  refine gs (mkF m 9 #[vr x, vr sb, vr el, vr al] []) (fun _ _ A kq => XS.astoreN A hx rfl (hb hby d456) rfl rfl (l' := #[vr x, vr sb, vr el, vr al]) rfl kq) ?_
  refine uAN 10 hx hby d457 rfl rfl rfl ?_
  have f4 := (P8.keep K2)
  have f5 := (P9.keep K2 nin0)
  have f6 := (P10.keep K2 nin0)
  refine ginfo fun _ _ O3 => ?_
  refine gcallS (y := mn280) hx (ow hw 111 rfl) (ow hw 112 rfl) (ow hw 113 rfl) (ow hw 114 rfl) (by decide) (fun hZ H hEL => Pay.of_met (W := 0) (own_copy0 l Z a0 cx [] (al) (dz) (el) (ee) (em) (mr) (kd) (ke) vm2 h2 O3 f4 f5 f6 (by first | assumption | decide | omega)) (ow hw 114 rfl) (ow hw 113 rfl) (by decide) (by decide) hZ H hEL) 13 (argsL := [(.ref al)]) (rest := []) (lenOf own_pd278 rfl) rfl rfl (Nat.le_of_eq rfl) (by rw [hml]; rfl) (hb hby d458) rfl (by decide) (by decide) ?_
  rintro _ vm3 h3 C3 ⟨rfl, K3⟩
  have z3 := C3.2.1
  refine gat (mkF m 13 #[vr x, vr sb, vr el, vr al] [(.ref el)]) rfl ?_
  refine gs (mkF m 14 #[vr x, vr sb, vr el, vr el] []) (fun _ _ A kq => XS.astoreN A hx rfl (hb hby d459) rfl rfl (l' := #[vr x, vr sb, vr el, vr el]) rfl kq) ?_
  refine uAN 15 hx hby d460 rfl rfl rfl ?_
  refine uAN 16 hx hby d461 rfl rfl rfl ?_
  have f7 := ((P1.keep K2 nin0).keep K3 nin0)
  have f8 := ((P0.keep K2).keep K3)
  refine gputF (host := "") hx (Or.inl (ow hw 150 rfl)) Via.refl f7 f8 (Or.inr ⟨(ow hw 151 rfl), rfl, hnm⟩) (ow hw 97 rfl) (ty := (.object c9_)) (by decide) rfl rfl P4 (fun al => Safe.exa al f8 (by decide) (by decide)) 19 (hb hby d462) rfl ?_
  intro h9 W9 C9
  have z9 := C9.2.1
  have F9 := f7.same W9
  refine uAN 20 hx hby d463 rfl rfl rfl ?_
  refine uAN 21 hx hby d464 rfl rfl rfl ?_
  have f10 := (((P2.keep K2 nin0).keep K3 nin0).other W9 (Or.inr (slot_ne (Or.inr (ow hw 153 rfl)) (Or.inr (ow hw 151 rfl)) (by decide) (t := (.object c16_)) (t' := (.object c9_)) (by decide) (by decide))))
  have f11 := (f8.wr W9)
  refine gputF (host := "") hx (Or.inl (ow hw 152 rfl)) Via.refl f10 f11 (Or.inr ⟨(ow hw 153 rfl), rfl, hnm⟩) (ow hw 97 rfl) (ty := (.object c16_)) (by decide) rfl rfl P4 (fun al => Safe.exa al f11 (by decide) (by decide)) 24 (hb hby d465) rfl ?_
  intro h12 W12 C12
  have z12 := C12.2.1
  have F12 := f10.same W12
  refine uAN 25 hx hby d466 rfl rfl rfl ?_
  refine uAN 26 hx hby d467 rfl rfl rfl ?_
  have f13 := ((((P3.keep K2 nin0).keep K3 nin0).other W9 (Or.inr (slot_ne (Or.inr (ow hw 155 rfl)) (Or.inr (ow hw 151 rfl)) (by decide) (t := (.object c16_)) (t' := (.object c9_)) (by decide) (by decide)))).other W12 (Or.inr (slot_ne (Or.inr (ow hw 155 rfl)) (Or.inr (ow hw 153 rfl)) (by decide) (t := (.object c16_)) (t' := (.object c16_)) (by decide) (by decide))))
  have f14 := (f11.wr W12)
  refine gputF (host := "") hx (Or.inl (ow hw 154 rfl)) Via.refl f13 f14 (Or.inr ⟨(ow hw 155 rfl), rfl, hnm⟩) (ow hw 97 rfl) (ty := (.object c16_)) (by decide) rfl rfl P4 (fun al => Safe.exa al f14 (by decide) (by decide)) 29 (hb hby d468) rfl ?_
  intro h15 W15 C15
  have z15 := C15.2.1
  have F15 := f13.same W15
  have f17 := ((F9.other W12 (Or.inr (slot_ne (Or.inr (ow hw 151 rfl)) (Or.inr (ow hw 153 rfl)) (by decide) (t := (.object c9_)) (t' := (.object c16_)) (by decide) (by decide)))).other W15 (Or.inr (slot_ne (Or.inr (ow hw 151 rfl)) (Or.inr (ow hw 155 rfl)) (by decide) (t := (.object c9_)) (t' := (.object c16_)) (by decide) (by decide))))
  have f18 := (F12.other W15 (Or.inr (slot_ne (Or.inr (ow hw 153 rfl)) (Or.inr (ow hw 155 rfl)) (by decide) (t := (.object c16_)) (t' := (.object c16_)) (by decide) (by decide))))
  exact gretV hx hret (hb hby d469) (by decide) (by decide) (fun vq Cq => ⟨rfl, ((((((Keep.refl h0 [x]).trans K2 all0).trans K3 all0).wr W9 (Or.inl (List.mem_of_getElem? (i := 0) rfl))).wr W12 (Or.inl (List.mem_of_getElem? (i := 0) rfl))).wr W15 (Or.inl (List.mem_of_getElem? (i := 0) rfl))), f17, f18, F15⟩)
theorem own_relA0 (l : Launch) (Z : State) (a0 : Array Value) (cx : Ctx Z a0) (ws : List Jvm.Cond) (sb : Addr) (tb : Addr) (kl : Addr) (al : Addr) (dz : Addr) (el : Addr) (ee : Addr) (em : Addr) (mr : Addr) (kd : ClassId) (ke : ClassId) (vm0 : Vm) (h0 : Heap) (X00 : Ext Z.heap h0) (P0 : Str Z h0 sb tb own_rel) (P1 : Lit (Z.setVm vm0) c5_ 40 sb) (P2 : Exa Z h0 kl c11_) (P3 : Fld Z h0 kl c11_ c7_ c3_ (.ref dz)) (P4 : Fld Z h0 kl c11_ "size" "I" (.int (0 : Int32))) (P5 : Exa Z h0 al c11_) (P6 : Fld Z h0 al c11_ c7_ c3_ (.ref dz)) (P7 : Fld Z h0 al c11_ "size" "I" (.int (0 : Int32))) (hL : (OwnL Z dz el ee em mr kd ke)) :
    Met l mn479 prog_21_method_4_code 2 (some (.object c6_)) ws ({ frames := 4, cells := 1, slots := 3, locals := 53 } : Room) Z consts_1 vm0 h0 #[(.ref kl), (.ref al)] (fun rv vm h => ∃ (r : Addr), rv = some (.ref r) ∧ Keep h0 h [] ∧ Exa Z h r c6_ ∧ Fld Z h r c6_ "source" c1_ (.ref sb) ∧ Fld Z h r c6_ "keys" c2_ (.ref el) ∧ Fld Z h r c6_ "args" c2_ (.ref el)) := by
  obtain ⟨hw, hEL, ⟨zc, Scs, hzc⟩, ⟨fm, Sfm, hfm⟩, hL0⟩ := id cx
  have hSA := own_SA hw
  refine Met.of_walk (a0 := a0) #[vr kl, vr al] (plainFor_of_name own_pn480) X00 hEL (fun m => by first | (simp [entryFrame, mkF, argsToLocals, Value.category]; done) | rfl) ?_
  intro p e s m below meth c vm hx hby hml hret hnm hC0 hW0
  have lt_sb : h0.size > sb := P0.1.lt
  have lt_tb : h0.size > tb := P0.tlt
  have lt_kl : h0.size > kl := P2.lt
  have lt_al : h0.size > al := P5.lt
  obtain ⟨Sdz, Edz, Vdz, Sel, Eel, Fee, Vee, Fan, Sem, Eem, Mmr, Sas⟩ := id hL
  refine gnewO hx (ow hw 96 rfl) (ow hw 97 rfl) (ow hw 98 rfl) 3 (hb hby d471) rfl (by decide) (by decide) ?_
  intro b1 h1 g1 E1 C1 A1 D1 n1 L1
  have z1 := C1.2.1
  have lt_b1 : h1.size > b1 := A1.lt
  have F1_source : Fld Z h1 b1 c6_ "source" c1_ .null := D1 (Or.inr (ow hw 151 rfl)) (ty := (.object c9_)) (by decide)
  have F1_keys : Fld Z h1 b1 c6_ "keys" c2_ .null := D1 (Or.inr (ow hw 153 rfl)) (ty := (.object c16_)) (by decide)
  have F1_args : Fld Z h1 b1 c6_ "args" c2_ .null := D1 (Or.inr (ow hw 155 rfl)) (ty := (.object c16_)) (by decide)
  refine uD 4 hx hby d472 rfl rfl ?_
  have LT : Lit (Z.setVm vm) c5_ 40 sb := State.resolvedAt?_warmed39 hW0 P1
  refine gldcA hx (ow hw 99 rfl) LT 6 (hb hby d473) rfl ?_
  refine uAN 7 hx hby d474 rfl rfl rfl ?_
  refine uAN 8 hx hby d475 rfl rfl rfl ?_
  have f4 := (P2.ext E1)
  have f5 := (P3.ext E1)
  have f6 := (P4.ext E1)
  have f7 := (P5.ext E1)
  have f8 := (P6.ext E1)
  have f9 := (P7.ext E1)
  refine ginfo fun _ _ O3 => ?_
  refine gcallI (y := mn470) hx rfl (ow hw 102 rfl) (ow hw 103 rfl) (ow hw 104 rfl) (by decide) (fun hZ H hEL => Pay.of_met (W := 1) (own_scA0 l Z a0 cx [] (b1) (sb) (.null) (.null) (.null) (kl) (al) (dz) (el) (ee) (em) (mr) (kd) (ke) vm h1 O3 A1 F1_source F1_keys F1_args n1 f4 f5 f6 f7 f8 f9 (by first | assumption | decide | omega)) (ow hw 104 rfl) (ow hw 98 rfl) (by decide) (by decide) hZ H hEL) (a := b1) 11 (argsL := [(.ref sb), (.ref kl), (.ref al)]) (rest := [(.ref b1)]) (lenOf own_pd477 rfl) rfl rfl (Nat.le_of_eq rfl) (by rw [hml]; rfl) (hb hby d476) rfl (by decide) (by decide) ?_
  rintro _ vm3 h3 C3 ⟨rfl, K3, q3_0, q3_1, q3_2⟩
  have z3 := C3.2.1
  refine gat (mkF m 11 #[vr kl, vr al] [(.ref b1)]) rfl ?_
  have f11 := (A1.keep K3)
  exact gretA hx hret rfl rfl (hb hby d478) (by decide) (by decide) (fun vq Cq => ⟨b1, rfl, (((Keep.refl h0 []).ext E1).trans K3 (allS (Or.inr (by omega)) all0)), f11, q3_0, q3_1, q3_2⟩)
theorem own_scE0 (l : Launch) (Z : State) (a0 : Array Value) (cx : Ctx Z a0) (ws : List Jvm.Cond) (x : Addr) (sb : Addr) (u0 : Value) (u1 : Value) (u2 : Value) (kl : Addr) (dz : Addr) (el : Addr) (ee : Addr) (em : Addr) (mr : Addr) (kd : ClassId) (ke : ClassId) (vm0 : Vm) (h0 : Heap) (X00 : Ext Z.heap h0) (P0 : Exa Z h0 x c6_) (P1 : Fld Z h0 x c6_ "source" c1_ u0) (P2 : Fld Z h0 x c6_ "keys" c2_ u1) (P3 : Fld Z h0 x c6_ "args" c2_ u2) (P4 : Z.heap.size ≤ x) (P5 : Exa Z h0 kl c11_) (P6 : Fld Z h0 kl c11_ c7_ c3_ (.ref dz)) (P7 : Fld Z h0 kl c11_ "size" "I" (.int (0 : Int32))) (hL : (OwnL Z dz el ee em mr kd ke)) :
    Met l mn470 prog_31_method_1_code 4 none ws ({ frames := 3, cells := 0, slots := 0, locals := 37 } : Room) Z consts_1 vm0 h0 #[(.ref x), (.ref sb), (.ref kl), (.ref el)] (fun rv vm h => rv = none ∧ Keep h0 h [x] ∧ Fld Z h x c6_ "source" c1_ (.ref sb) ∧ Fld Z h x c6_ "keys" c2_ (.ref el) ∧ Fld Z h x c6_ "args" c2_ (.ref el)) := by
  obtain ⟨hw, hEL, ⟨zc, Scs, hzc⟩, ⟨fm, Sfm, hfm⟩, hL0⟩ := id cx
  have hSA := own_SA hw
  refine Met.of_walk (a0 := a0) #[vr x, vr sb, vr kl, vr el] (plainFor_of_name own_pn397) X00 hEL (fun m => by first | (simp [entryFrame, mkF, argsToLocals, Value.category]; done) | rfl) ?_
  intro p e s m below meth c vm hx hby hml hret hnm hC0 hW0
  have lt_x : h0.size > x := P0.lt
  have lt_kl : h0.size > kl := P5.lt
  obtain ⟨Sdz, Edz, Vdz, Sel, Eel, Fee, Vee, Fan, Sem, Eem, Mmr, Sas⟩ := id hL
  refine uAN 1 hx hby d452 rfl rfl rfl ?_
  refine ginfo fun _ _ O1 => ?_
  refine gcallI (y := mn391) hx rfl (ow hw 105 rfl) (ow hw 106 rfl) (ow hw 109 rfl) (by decide) (fun hZ H hEL => Pay.of_met (W := 0) (own_record l Z a0 cx [] (x) vm h0 O1 ) (ow hw 109 rfl) (ow hw 108 rfl) (by decide) (by decide) hZ H hEL) (a := x) 4 (argsL := []) (rest := []) (lenOf own_pd7 rfl) rfl rfl (Nat.le_of_eq rfl) (by rw [hml]; rfl) (hb hby d453) rfl (by decide) (by decide) ?_
  rintro _ vm1 h1 C1 ⟨rfl, rfl⟩
  have z1 := C1.2.1
  refine gat (mkF m 4 #[vr x, vr sb, vr kl, vr el] []) rfl ?_
  refine uAN 5 hx hby d454 rfl rfl rfl ?_
  refine ginfo fun _ _ O2 => ?_
  refine gcallS (y := mn280) hx (ow hw 111 rfl) (ow hw 112 rfl) (ow hw 113 rfl) (ow hw 114 rfl) (by decide) (fun hZ H hEL => Pay.of_met (W := 0) (own_copy0 l Z a0 cx [] (kl) (dz) (el) (ee) (em) (mr) (kd) (ke) vm1 h0 O2 P5 P6 P7 (by first | assumption | decide | omega)) (ow hw 114 rfl) (ow hw 113 rfl) (by decide) (by decide) hZ H hEL) 8 (argsL := [(.ref kl)]) (rest := []) (lenOf own_pd278 rfl) rfl rfl (Nat.le_of_eq rfl) (by rw [hml]; rfl) (hb hby d455) rfl (by decide) (by decide) ?_
  rintro _ vm2 h2 C2 ⟨rfl, K2⟩
  have z2 := C2.2.1
  refine gat (mkF m 8 #[vr x, vr sb, vr kl, vr el] [(.ref el)]) rfl ?_
  refine gs (mkF m 9 #[vr x, vr sb, vr el, vr el] []) (fun _ _ A kq => XS.astoreN A hx rfl (hb hby d456) rfl rfl (l' := #[vr x, vr sb, vr el, vr el]) rfl kq) ?_
  refine uAN 10 hx hby d457 rfl rfl rfl ?_
  refine ginfo fun _ _ O3 => ?_
  refine gcallS (y := mn280) hx (ow hw 111 rfl) (ow hw 112 rfl) (ow hw 113 rfl) (ow hw 114 rfl) (by decide) (fun hZ H hEL => Pay.of_met (W := 0) (own_coE l Z a0 cx [] (dz) (el) (ee) (em) (mr) (kd) (ke) vm2 h2 O3 (by first | assumption | decide | omega)) (ow hw 114 rfl) (ow hw 113 rfl) (by decide) (by decide) hZ H hEL) 13 (argsL := [(.ref el)]) (rest := []) (lenOf own_pd278 rfl) rfl rfl (Nat.le_of_eq rfl) (by rw [hml]; rfl) (hb hby d458) rfl (by decide) (by decide) ?_
  rintro _ vm3 h3 C3 ⟨rfl, rfl⟩
  have z3 := C3.2.1
  refine gat (mkF m 13 #[vr x, vr sb, vr el, vr el] [(.ref el)]) rfl ?_
  refine gs (mkF m 14 #[vr x, vr sb, vr el, vr el] []) (fun _ _ A kq => XS.astoreN A hx rfl (hb hby d459) rfl rfl (l' := #[vr x, vr sb, vr el, vr el]) rfl kq) ?_
  refine uAN 15 hx hby d460 rfl rfl rfl ?_
  refine uAN 16 hx hby d461 rfl rfl rfl ?_
  have f4 := (P1.keep K2 nin0)
  have f5 := (P0.keep K2)
  refine gputF (host := "") hx (Or.inl (ow hw 150 rfl)) Via.refl f4 f5 (Or.inr ⟨(ow hw 151 rfl), rfl, hnm⟩) (ow hw 97 rfl) (ty := (.object c9_)) (by decide) rfl rfl P4 (fun al => Safe.exa al f5 (by decide) (by decide)) 19 (hb hby d462) rfl ?_
  intro h6 W6 C6
  have z6 := C6.2.1
  have F6 := f4.same W6
  refine uAN 20 hx hby d463 rfl rfl rfl ?_
  refine uAN 21 hx hby d464 rfl rfl rfl ?_
  have f7 := ((P2.keep K2 nin0).other W6 (Or.inr (slot_ne (Or.inr (ow hw 153 rfl)) (Or.inr (ow hw 151 rfl)) (by decide) (t := (.object c16_)) (t' := (.object c9_)) (by decide) (by decide))))
  have f8 := (f5.wr W6)
  refine gputF (host := "") hx (Or.inl (ow hw 152 rfl)) Via.refl f7 f8 (Or.inr ⟨(ow hw 153 rfl), rfl, hnm⟩) (ow hw 97 rfl) (ty := (.object c16_)) (by decide) rfl rfl P4 (fun al => Safe.exa al f8 (by decide) (by decide)) 24 (hb hby d465) rfl ?_
  intro h9 W9 C9
  have z9 := C9.2.1
  have F9 := f7.same W9
  refine uAN 25 hx hby d466 rfl rfl rfl ?_
  refine uAN 26 hx hby d467 rfl rfl rfl ?_
  have f10 := (((P3.keep K2 nin0).other W6 (Or.inr (slot_ne (Or.inr (ow hw 155 rfl)) (Or.inr (ow hw 151 rfl)) (by decide) (t := (.object c16_)) (t' := (.object c9_)) (by decide) (by decide)))).other W9 (Or.inr (slot_ne (Or.inr (ow hw 155 rfl)) (Or.inr (ow hw 153 rfl)) (by decide) (t := (.object c16_)) (t' := (.object c16_)) (by decide) (by decide))))
  have f11 := (f8.wr W9)
  refine gputF (host := "") hx (Or.inl (ow hw 154 rfl)) Via.refl f10 f11 (Or.inr ⟨(ow hw 155 rfl), rfl, hnm⟩) (ow hw 97 rfl) (ty := (.object c16_)) (by decide) rfl rfl P4 (fun al => Safe.exa al f11 (by decide) (by decide)) 29 (hb hby d468) rfl ?_
  intro h12 W12 C12
  have z12 := C12.2.1
  have F12 := f10.same W12
  have f14 := ((F6.other W9 (Or.inr (slot_ne (Or.inr (ow hw 151 rfl)) (Or.inr (ow hw 153 rfl)) (by decide) (t := (.object c9_)) (t' := (.object c16_)) (by decide) (by decide)))).other W12 (Or.inr (slot_ne (Or.inr (ow hw 151 rfl)) (Or.inr (ow hw 155 rfl)) (by decide) (t := (.object c9_)) (t' := (.object c16_)) (by decide) (by decide))))
  have f15 := (F9.other W12 (Or.inr (slot_ne (Or.inr (ow hw 153 rfl)) (Or.inr (ow hw 155 rfl)) (by decide) (t := (.object c16_)) (t' := (.object c16_)) (by decide) (by decide))))
  exact gretV hx hret (hb hby d469) (by decide) (by decide) (fun vq Cq => ⟨rfl, (((((Keep.refl h0 [x]).trans K2 all0).wr W6 (Or.inl (List.mem_of_getElem? (i := 0) rfl))).wr W9 (Or.inl (List.mem_of_getElem? (i := 0) rfl))).wr W12 (Or.inl (List.mem_of_getElem? (i := 0) rfl))), f14, f15, F12⟩)
theorem d492 : decode prog_21_method_6_code 0 = .ok (.new 7, 3) := by decide +kernel
theorem d493 : decode prog_21_method_6_code 3 = .ok (.dup, 1) := by decide +kernel
theorem d494 : decode prog_21_method_6_code 4 = .ok (.ldc 44, 2) := by decide +kernel
theorem d495 : decode prog_21_method_6_code 6 = .ok (.aload_n 0, 1) := by decide +kernel
theorem d496 : decode prog_21_method_6_code 7 = .ok (.invokestatic 46, 3) := by decide +kernel
theorem d497 : decode prog_21_method_6_code 10 = .ok (.invokespecial 23, 3) := by decide +kernel
theorem d498 : decode prog_21_method_6_code 13 = .ok (.areturn, 1) := by decide +kernel
abbrev mn499 : MethodName := ⟨"com/example/limentinus/limentinus/core/KeyScripts", "existing", "(Ljava/util/List;)Lcom/example/limentinus/limentinus/core/Quorum$Script;"⟩
theorem own_exi0 (l : Launch) (Z : State) (a0 : Array Value) (cx : Ctx Z a0) (ws : List Jvm.Cond) (kl : Addr) (dz : Addr) (el : Addr) (ee : Addr) (em : Addr) (mr : Addr) (kd : ClassId) (ke : ClassId) (vm0 : Vm) (h0 : Heap) (X00 : Ext Z.heap h0) (P0 : Exa Z h0 kl c11_) (P1 : Fld Z h0 kl c11_ c7_ c3_ (.ref dz)) (P2 : Fld Z h0 kl c11_ "size" "I" (.int (0 : Int32))) (hL : (OwnL Z dz el ee em mr kd ke)) :
    Met l mn499 prog_21_method_6_code 1 (some (.object c6_)) ws ({ frames := 4, cells := 3, slots := 611, locals := 53 } : Room) Z consts_1 vm0 h0 #[(.ref kl)] (fun rv vm h => ∃ (r : Addr), ∃ (sb : Addr), ∃ (tb : Addr), rv = some (.ref r) ∧ Keep h0 h [] ∧ Exa Z h r c6_ ∧ Str Z h sb tb own_exi ∧ Fld Z h r c6_ "source" c1_ (.ref sb) ∧ Fld Z h r c6_ "keys" c2_ (.ref el) ∧ Fld Z h r c6_ "args" c2_ (.ref el)) := by
  obtain ⟨hw, hEL, ⟨zc, Scs, hzc⟩, ⟨fm, Sfm, hfm⟩, hL0⟩ := id cx
  have hSA := own_SA hw
  refine Met.of_walk (a0 := a0) #[vr kl] (plainFor_of_name own_pn480) X00 hEL (fun m => by first | (simp [entryFrame, mkF, argsToLocals, Value.category]; done) | rfl) ?_
  intro p e s m below meth c vm hx hby hml hret hnm hC0 hW0
  have lt_kl : h0.size > kl := P0.lt
  obtain ⟨Sdz, Edz, Vdz, Sel, Eel, Fee, Vee, Fan, Sem, Eem, Mmr, Sas⟩ := id hL
  refine gnewO hx (ow hw 96 rfl) (ow hw 97 rfl) (ow hw 98 rfl) 3 (hb hby d492) rfl (by decide) (by decide) ?_
  intro b1 h1 g1 E1 C1 A1 D1 n1 L1
  have z1 := C1.2.1
  have lt_b1 : h1.size > b1 := A1.lt
  have F1_source : Fld Z h1 b1 c6_ "source" c1_ .null := D1 (Or.inr (ow hw 151 rfl)) (ty := (.object c9_)) (by decide)
  have F1_keys : Fld Z h1 b1 c6_ "keys" c2_ .null := D1 (Or.inr (ow hw 153 rfl)) (ty := (.object c16_)) (by decide)
  have F1_args : Fld Z h1 b1 c6_ "args" c2_ .null := D1 (Or.inr (ow hw 155 rfl)) (ty := (.object c16_)) (by decide)
  refine uD 4 hx hby d493 rfl rfl ?_
  refine gldcR hx (ow hw 160 rfl) hSA (by decide) (n := 604) (by decide) (by decide) (vs := own_exiV) (z := (151 : Int32)) (by decide +kernel) (by decide) (by decide) 6 (hb hby d494) rfl (by decide) (by decide) ?_
  intro b2 t2 k2 vm2 h2 E2 C2 Q2a Q2b Q2c Q2d Q2e
  have z2 := C2.2.1
  have S2 : Str Z h2 b2 t2 own_exi := Str.lit Q2a Q2b Q2c Q2d (by decide) rfl rfl (by decide)
  have lt_b2 : h2.size > b2 := S2.1.lt
  have lt_t2 : h2.size > t2 := S2.tlt
  have f3 := (C2.safe (show h1.size > b1 by omega) L1)
  have ne2_b1 := Q2e b1 f3
  refine uAN 7 hx hby d495 rfl rfl rfl ?_
  refine ginfo fun _ _ O4 => ?_
  refine gcallS (y := mn109) hx (ow hw 161 rfl) (ow hw 135 rfl) (ow hw 113 rfl) (ow hw 136 rfl) (by decide) (fun hZ H hEL => Pay.of_met (W := 4) (own_of0 l Z a0 cx [] (dz) (el) (ee) (em) (mr) (kd) (ke) vm2 h2 O4 (by first | assumption | decide | omega)) (ow hw 136 rfl) (ow hw 113 rfl) (by decide) (by decide) hZ H hEL) 10 (argsL := []) (rest := [(.ref kl), (.ref b2), (.ref b1), (.ref b1)]) (lenOf own_pd273 rfl) rfl rfl (Nat.le_of_eq rfl) (by rw [hml]; rfl) (hb hby d496) rfl (by decide) (by decide) ?_
  rintro _ vm4 h4 C4 ⟨rfl, rfl⟩
  have z4 := C4.2.1
  refine gat (mkF m 10 #[vr kl] [(.ref el), (.ref kl), (.ref b2), (.ref b1), (.ref b1)]) rfl ?_
  have f6 := (A1.ext E2)
  have f7 := (F1_source.ext E2)
  have f8 := (F1_keys.ext E2)
  have f9 := (F1_args.ext E2)
  have f10 := ((P0.ext E1).ext E2)
  have f11 := ((P1.ext E1).ext E2)
  have f12 := ((P2.ext E1).ext E2)
  refine ginfo fun _ _ O5 => ?_
  refine gcallI (y := mn470) hx rfl (ow hw 102 rfl) (ow hw 103 rfl) (ow hw 104 rfl) (by decide) (fun hZ H hEL => Pay.of_met (W := 1) (own_scE0 l Z a0 cx [] (b1) (b2) (.null) (.null) (.null) (kl) (dz) (el) (ee) (em) (mr) (kd) (ke) vm4 h2 O5 f6 f7 f8 f9 n1 f10 f11 f12 (by first | assumption | decide | omega)) (ow hw 104 rfl) (ow hw 98 rfl) (by decide) (by decide) hZ H hEL) (a := b1) 13 (argsL := [(.ref b2), (.ref kl), (.ref el)]) (rest := [(.ref b1)]) (lenOf own_pd477 rfl) rfl rfl (Nat.le_of_eq rfl) (by rw [hml]; rfl) (hb hby d497) rfl (by decide) (by decide) ?_
  rintro _ vm5 h5 C5 ⟨rfl, K5, q5_0, q5_1, q5_2⟩
  have z5 := C5.2.1
  refine gat (mkF m 13 #[vr kl] [(.ref b1)]) rfl ?_
  have f14 := (f6.keep K5)
  have f15 := (S2.keep K5 (ninS (Ne.symm ne2_b1.1) nin0) (ninS (Ne.symm ne2_b1.2) nin0))
  exact gretA hx hret rfl rfl (hb hby d498) (by decide) (by decide) (fun vq Cq => ⟨b1, b2, t2, rfl, ((((Keep.refl h0 []).ext E1).ext E2).trans K5 (allS (Or.inr (by omega)) all0)), f14, f15, q5_0, q5_1, q5_2⟩)
theorem own_cplinit1 (l : Launch) (Z : State) (a0 : Array Value) (cx : Ctx Z a0) (ws : List Jvm.Cond) (x : Addr) (y : Addr) (u : Value) (dz : Addr) (el : Addr) (ee : Addr) (em : Addr) (mr : Addr) (kd : ClassId) (ke : ClassId) (vm0 : Vm) (h0 : Heap) (X00 : Ext Z.heap h0) (P0 : Exa Z h0 x c12_) (P1 : Fld Z h0 x c10_ "modCount" "I" (.int (0 : Int32))) (P2 : Fld Z h0 x c12_ "n" "I" (.int (0 : Int32))) (P3 : Fld Z h0 x c12_ "element" c0_ u) (P4 : Z.heap.size ≤ x) (hL : (OwnL Z dz el ee em mr kd ke)) :
    Met l mn426 jdk_2479_method_1_code 3 none ws ({ frames := 3, cells := 0, slots := 0, locals := 36 } : Room) Z consts_1 vm0 h0 #[(.ref x), (.int (1 : Int32)), (.ref y)] (fun rv vm h => rv = none ∧ Keep h0 h [x] ∧ Fld Z h x c12_ "n" "I" (.int (1 : Int32)) ∧ Fld Z h x c12_ "element" c0_ (.ref y)) := by
  obtain ⟨hw, hEL, ⟨zc, Scs, hzc⟩, ⟨fm, Sfm, hfm⟩, hL0⟩ := id cx
  have hSA := own_SA hw
  refine Met.of_walk (a0 := a0) #[vr x, vi (1 : Int32), vr y] (plainFor_of_name own_pn427) X00 hEL (fun m => by first | (simp [entryFrame, mkF, argsToLocals, Value.category]; done) | rfl) ?_
  intro p e s m below meth c vm hx hby hml hret hnm hC0 hW0
  have lt_x : h0.size > x := P0.lt
  obtain ⟨Sdz, Edz, Vdz, Sel, Eel, Fee, Vee, Fan, Sem, Eem, Mmr, Sas⟩ := id hL
  refine uAN 1 hx hby d415 rfl rfl rfl ?_
  refine ginfo fun _ _ O1 => ?_
  refine gcallI (y := mn12) hx rfl (ow hw 84 rfl) (ow hw 41 rfl) (ow hw 45 rfl) (by decide) (fun hZ H hEL => Pay.of_met (W := 0) (own_ablinitC l Z a0 cx [] (x) ((0 : Int32)) (u) vm h0 O1 P0 P1 P4 P2 P3) (ow hw 45 rfl) (ow hw 44 rfl) (by decide) (by decide) hZ H hEL) (a := x) 4 (argsL := []) (rest := []) (lenOf own_pd7 rfl) rfl rfl (Nat.le_of_eq rfl) (by rw [hml]; rfl) (hb hby d416) rfl (by decide) (by decide) ?_
  rintro _ vm1 h1 C1 ⟨rfl, K1, q1_0, q1_1, q1_2⟩
  have z1 := C1.2.1
  refine gat (mkF m 4 #[vr x, vi (1 : Int32), vr y] []) rfl ?_
  refine ggetS (host := "") hx (Or.inl (ow hw 88 rfl)) Via.refl Sas 7 (hb hby d417) rfl ?_
  refine gs (mkF m 22 #[vr x, vi (1 : Int32), vr y] []) (fun _ _ A kq => XS.ifYes A hx rfl (pc0 := 7) (pc' := 22) rfl (hb hby d418) rfl ((if0 _ _).trans (feq (by decide)).2) (by decide) (by decide) kq) ?_
  refine uAN 23 hx hby d419 rfl rfl rfl ?_
  refine uIN 24 hx hby d420 rfl rfl ?_
  have f2 := (P0.keep K1)
  refine gputF (host := "") hx (Or.inl (ow hw 89 rfl)) Via.refl q1_1 f2 (Or.inr ⟨(ow hw 90 rfl), rfl, hnm⟩) (ow hw 78 rfl) (ty := .int) (by decide) rfl rfl P4 (fun al => Safe.exa al f2 (by decide) (by decide)) 27 (hb hby d421) rfl ?_
  intro h3 W3 C3
  have z3 := C3.2.1
  have F3 := q1_1.same W3
  refine uAN 28 hx hby d422 rfl rfl rfl ?_
  refine uAN 29 hx hby d423 rfl rfl rfl ?_
  have f4 := (q1_2.other W3 (Or.inr (slot_ne (Or.inr (ow hw 92 rfl)) (Or.inr (ow hw 90 rfl)) (by decide) (t := (.object c8_)) (t' := .int) (by decide) (by decide))))
  have f5 := (f2.wr W3)
  refine gputF (host := "") hx (Or.inl (ow hw 91 rfl)) Via.refl f4 f5 (Or.inr ⟨(ow hw 92 rfl), rfl, hnm⟩) (ow hw 78 rfl) (ty := (.object c8_)) (by decide) rfl rfl P4 (fun al => Safe.exa al f5 (by decide) (by decide)) 32 (hb hby d424) rfl ?_
  intro h6 W6 C6
  have z6 := C6.2.1
  have F6 := f4.same W6
  have f8 := (F3.other W6 (Or.inr (slot_ne (Or.inr (ow hw 90 rfl)) (Or.inr (ow hw 92 rfl)) (by decide) (t := .int) (t' := (.object c8_)) (by decide) (by decide))))
  exact gretV hx hret (hb hby d425) (by decide) (by decide) (fun vq Cq => ⟨rfl, ((((Keep.refl h0 [x]).trans K1 (allS (Or.inl (List.mem_of_getElem? (i := 0) rfl)) all0)).wr W3 (Or.inl (List.mem_of_getElem? (i := 0) rfl))).wr W6 (Or.inl (List.mem_of_getElem? (i := 0) rfl))), f8, F6⟩)
theorem own_ncopies1 (l : Launch) (Z : State) (a0 : Array Value) (cx : Ctx Z a0) (ws : List Jvm.Cond) (y : Addr) (dz : Addr) (el : Addr) (ee : Addr) (em : Addr) (mr : Addr) (kd : ClassId) (ke : ClassId) (vm0 : Vm) (h0 : Heap) (X00 : Ext Z.heap h0) (hL : (OwnL Z dz el ee em mr kd ke)) :
    Met l mn437 jdk_79_method_76_code 2 (some (.object c16_)) ws ({ frames := 4, cells := 1, slots := 3, locals := 51 } : Room) Z consts_1 vm0 h0 #[(.int (1 : Int32)), (.ref y)] (fun rv vm h => ∃ (x : Addr), rv = some (.ref x) ∧ Keep h0 h [] ∧ h0.size ≤ x ∧ Exa Z h x c12_ ∧ Fld Z h x c12_ "n" "I" (.int (1 : Int32)) ∧ Fld Z h x c12_ "element" c0_ (.ref y)) := by
  obtain ⟨hw, hEL, ⟨zc, Scs, hzc⟩, ⟨fm, Sfm, hfm⟩, hL0⟩ := id cx
  have hSA := own_SA hw
  refine Met.of_walk (a0 := a0) #[vi (1 : Int32), vr y] (plainFor_of_name own_pn438) X00 hEL (fun m => by first | (simp [entryFrame, mkF, argsToLocals, Value.category]; done) | rfl) ?_
  intro p e s m below meth c vm hx hby hml hret hnm hC0 hW0
  obtain ⟨Sdz, Edz, Vdz, Sel, Eel, Fee, Vee, Fan, Sem, Eem, Mmr, Sas⟩ := id hL
  refine uIN 1 hx hby d428 rfl rfl ?_
  refine gs (mkF m 32 #[vi (1 : Int32), vr y] []) (fun _ _ A kq => XS.ifYes A hx rfl (pc0 := 1) (pc' := 32) rfl (hb hby d429) rfl ((if0 _ _).trans (flt (by decide)).2.1) (by decide) (by decide) kq) ?_
  refine gnewO hx (ow hw 77 rfl) (ow hw 78 rfl) (ow hw 79 rfl) 35 (hb hby d430) rfl (by decide) (by decide) ?_
  intro b1 h1 g1 E1 C1 A1 D1 n1 L1
  have z1 := C1.2.1
  have lt_b1 : h1.size > b1 := A1.lt
  have F1_modCount : Fld Z h1 b1 c10_ "modCount" "I" (.int (0 : Int32)) := D1 (Or.inl (ow hw 87 rfl)) (ty := .int) (by decide)
  have F1_n : Fld Z h1 b1 c12_ "n" "I" (.int (0 : Int32)) := D1 (Or.inr (ow hw 90 rfl)) (ty := .int) (by decide)
  have F1_element : Fld Z h1 b1 c12_ "element" c0_ .null := D1 (Or.inr (ow hw 92 rfl)) (ty := (.object c8_)) (by decide)
  refine uD 36 hx hby d431 rfl rfl ?_
  refine uIN 37 hx hby d432 rfl rfl ?_
  refine uAN 38 hx hby d433 rfl rfl rfl ?_
  refine ginfo fun _ _ O2 => ?_
  refine gcallI (y := mn426) hx rfl (ow hw 80 rfl) (ow hw 81 rfl) (ow hw 83 rfl) (by decide) (fun hZ H hEL => Pay.of_met (W := 1) (own_cplinit1 l Z a0 cx [] (b1) (y) (.null) (dz) (el) (ee) (em) (mr) (kd) (ke) vm h1 O2 A1 F1_modCount F1_n F1_element n1 (by first | assumption | decide | omega)) (ow hw 83 rfl) (ow hw 79 rfl) (by decide) (by decide) hZ H hEL) (a := b1) 41 (argsL := [(.int (1 : Int32)), (.ref y)]) (rest := [(.ref b1)]) (lenOf own_pd435 rfl) rfl rfl (Nat.le_of_eq rfl) (by rw [hml]; rfl) (hb hby d434) rfl (by decide) (by decide) ?_
  rintro _ vm2 h2 C2 ⟨rfl, K2, q2_0, q2_1⟩
  have z2 := C2.2.1
  refine gat (mkF m 41 #[vi (1 : Int32), vr y] [(.ref b1)]) rfl ?_
  have f4 := (A1.keep K2)
  exact gretA hx hret rfl rfl (hb hby d436) (by decide) (by decide) (fun vq Cq => ⟨b1, rfl, (((Keep.refl h0 []).ext E1).trans K2 (allS (Or.inr (by omega)) all0)), (by omega), f4, q2_0, q2_1⟩)
theorem own_cplsize1 (l : Launch) (Z : State) (a0 : Array Value) (cx : Ctx Z a0) (ws : List Jvm.Cond) (x : Addr) (vm0 : Vm) (h0 : Heap) (X00 : Ext Z.heap h0) (P0 : Fld Z h0 x c12_ "n" "I" (.int (1 : Int32))) :
    Met l mn442 jdk_2479_method_2_code 1 (some .int) ws ({ frames := 0, cells := 0, slots := 0, locals := 0 } : Room) Z consts_1 vm0 h0 #[(.ref x)] (fun rv vm h => rv = some (.int (1 : Int32)) ∧ h0 = h) := by
  obtain ⟨hw, hEL, ⟨zc, Scs, hzc⟩, ⟨fm, Sfm, hfm⟩, hL0⟩ := id cx
  have hSA := own_SA hw
  refine Met.of_walk (a0 := a0) #[vr x] (plainFor_of_name own_pn427) X00 hEL (fun m => by first | (simp [entryFrame, mkF, argsToLocals, Value.category]; done) | rfl) ?_
  intro p e s m below meth c vm hx hby hml hret hnm hC0 hW0
  have lt_x : h0.size > x := P0.lt
  refine uAN 1 hx hby d439 rfl rfl rfl ?_
  refine ggetF (host := "") hx (Or.inl (ow hw 89 rfl)) Via.refl P0 4 (hb hby d440) rfl ?_
  exact gretI hx hret (hb hby d441) (by decide) (by decide) (fun vq Cq => ⟨rfl, rfl⟩)
theorem d500 : decode jdk_22_method_4_code 11 = .ok (.iconst 0, 1) := by decide +kernel
theorem own_cplempty1 (l : Launch) (Z : State) (a0 : Array Value) (cx : Ctx Z a0) (ws : List Jvm.Cond) (x : Addr) (vm0 : Vm) (h0 : Heap) (X00 : Ext Z.heap h0) (P0 : Exa Z h0 x c12_) (P1 : Fld Z h0 x c12_ "n" "I" (.int (1 : Int32))) :
    Met l mn451 jdk_22_method_4_code 1 (some .boolean) ws ({ frames := 1, cells := 0, slots := 0, locals := 12 } : Room) Z consts_1 vm0 h0 #[(.ref x)] (fun rv vm h => rv = some (.int (0 : Int32)) ∧ h0 = h) := by
  obtain ⟨hw, hEL, ⟨zc, Scs, hzc⟩, ⟨fm, Sfm, hfm⟩, hL0⟩ := id cx
  have hSA := own_SA hw
  refine Met.of_walk (a0 := a0) #[vr x] (plainFor_of_name own_pn4) X00 hEL (fun m => by first | (simp [entryFrame, mkF, argsToLocals, Value.category]; done) | rfl) ?_
  intro p e s m below meth c vm hx hby hml hret hnm hC0 hW0
  have lt_x : h0.size > x := P0.lt
  refine uAN 1 hx hby d443 rfl rfl rfl ?_
  refine ginfo fun _ _ O1 => ?_
  refine gcallV (y := mn446) (z := mn442) hx (ow hw 145 rfl) (ow hw 146 rfl) (nfSup (ow hw 122 rfl)) (ow hw 147 rfl) (ow hw 148 rfl) (by decide) (fun hZ H hEL => Pay.of_met (W := 0) (own_cplsize1 l Z a0 cx [] (x) vm h0 O1 P1) (ow hw 149 rfl) (ow hw 79 rfl) (by decide) (by decide) hZ H hEL) 4 (argsL := []) (rest := []) P0 (lenOf own_pd445 rfl) rfl rfl (Nat.le_of_eq rfl) (by rw [hml]; rfl) (hb hby d444) rfl (by decide) (by decide) ?_
  rintro _ vm1 h1 C1 ⟨rfl, rfl⟩
  have z1 := C1.2.1
  refine gat (mkF m 4 #[vr x] [(.int (1 : Int32))]) rfl ?_
  refine gs (mkF m 11 #[vr x] []) (fun _ _ A kq => XS.ifYes A hx rfl (pc0 := 4) (pc' := 11) rfl (hb hby d447) rfl ((if0 _ _).trans (feq (by decide)).2) (by decide) (by decide) kq) ?_
  refine gs (mkF m 12 #[vr x] [(.int (0 : Int32))]) (fun _ _ A kq => XS.iconst A hx rfl (hb hby d500) kq) ?_
  exact gretN (t := .boolean) hx hret (by simp) (hb hby d450) (by decide) (by decide) (fun vq Cq => ⟨rfl, rfl⟩)
theorem d501 : decode jdk_65_method_30_code 0 = .ok (.iload_n 1, 1) := by decide +kernel
theorem d502 : decode jdk_65_method_30_code 1 = .ok (.iload_n 2, 1) := by decide +kernel
theorem d503 : decode jdk_65_method_30_code 2 = .ok (.if_icmp .le 44, 3) := by decide +kernel
theorem d504 : decode jdk_65_method_30_code 46 = .ok (.iload_n 1, 1) := by decide +kernel
theorem d505 : decode jdk_65_method_30_code 47 = .ok (.ifCond .ge 12, 3) := by decide +kernel
theorem d506 : decode jdk_65_method_30_code 59 = .ok (.iload_n 2, 1) := by decide +kernel
theorem d507 : decode jdk_65_method_30_code 60 = .ok (.iload_n 0, 1) := by decide +kernel
theorem d508 : decode jdk_65_method_30_code 61 = .ok (.if_icmp .le 12, 3) := by decide +kernel
theorem d509 : decode jdk_65_method_30_code 73 = .ok (.return_, 1) := by decide +kernel
abbrev mn510 : MethodName := ⟨"java/util/Arrays", "rangeCheck", "(III)V"⟩
theorem own_rc1 (l : Launch) (Z : State) (a0 : Array Value) (cx : Ctx Z a0) (ws : List Jvm.Cond)  (vm0 : Vm) (h0 : Heap) (X00 : Ext Z.heap h0)  :
    Met l mn510 jdk_65_method_30_code 3 none ws ({ frames := 0, cells := 0, slots := 0, locals := 0 } : Room) Z consts_1 vm0 h0 #[(.int (1 : Int32)), (.int (0 : Int32)), (.int (1 : Int32))] (fun rv vm h => rv = none ∧ h0 = h) := by
  obtain ⟨hw, hEL, ⟨zc, Scs, hzc⟩, ⟨fm, Sfm, hfm⟩, hL0⟩ := id cx
  have hSA := own_SA hw
  refine Met.of_walk (a0 := a0) #[vi (1 : Int32), vi (0 : Int32), vi (1 : Int32)] (plainFor_of_name own_pn189) X00 hEL (fun m => by first | (simp [entryFrame, mkF, argsToLocals, Value.category]; done) | rfl) ?_
  intro p e s m below meth c vm hx hby hml hret hnm hC0 hW0
  refine uIN 1 hx hby d501 rfl rfl ?_
  refine uIN 2 hx hby d502 rfl rfl ?_
  refine gs (mkF m 46 #[vi (1 : Int32), vi (0 : Int32), vi (1 : Int32)] []) (fun _ _ A kq => XS.icmpYes A hx rfl (pc0 := 2) (pc' := 46) rfl (hb hby d503) rfl (flt (by decide)).2.2.2 (by decide) (by decide) kq) ?_
  refine uIN 47 hx hby d504 rfl rfl ?_
  refine gs (mkF m 59 #[vi (1 : Int32), vi (0 : Int32), vi (1 : Int32)] []) (fun _ _ A kq => XS.ifYes A hx rfl (pc0 := 47) (pc' := 59) rfl (hb hby d505) rfl ((if0 _ _).trans (flt (by decide)).2.1) (by decide) (by decide) kq) ?_
  refine uIN 60 hx hby d506 rfl rfl ?_
  refine uIN 61 hx hby d507 rfl rfl ?_
  refine gs (mkF m 73 #[vi (1 : Int32), vi (0 : Int32), vi (1 : Int32)] []) (fun _ _ A kq => XS.icmpYes A hx rfl (pc0 := 61) (pc' := 73) rfl (hb hby d508) rfl (flt (by decide)).2.2.2 (by decide) (by decide) kq) ?_
  exact gretV hx hret (hb hby d509) (by decide) (by decide) (fun vq Cq => ⟨rfl, rfl⟩)
theorem d511 : decode jdk_65_method_118_code 0 = .ok (.aload_n 0, 1) := by decide +kernel
theorem d512 : decode jdk_65_method_118_code 1 = .ok (.arraylength, 1) := by decide +kernel
theorem d513 : decode jdk_65_method_118_code 2 = .ok (.iload_n 1, 1) := by decide +kernel
theorem d514 : decode jdk_65_method_118_code 3 = .ok (.iload_n 2, 1) := by decide +kernel
theorem d515 : decode jdk_65_method_118_code 4 = .ok (.invokestatic 13, 3) := by decide +kernel
theorem own_pd516 : parseMethodDescriptor "(III)V" = some ⟨[.int, .int, .int], none⟩ := by decide +kernel
theorem d517 : decode jdk_65_method_118_code 7 = .ok (.iload_n 1, 1) := by decide +kernel
theorem d518 : decode jdk_65_method_118_code 8 = .ok (.istore 4, 2) := by decide +kernel
theorem d519 : decode jdk_65_method_118_code 10 = .ok (.iload 4, 2) := by decide +kernel
theorem d520 : decode jdk_65_method_118_code 12 = .ok (.iload_n 2, 1) := by decide +kernel
theorem d521 : decode jdk_65_method_118_code 13 = .ok (.if_icmp .ge 14, 3) := by decide +kernel
theorem d522 : decode jdk_65_method_118_code 16 = .ok (.aload_n 0, 1) := by decide +kernel
theorem d523 : decode jdk_65_method_118_code 17 = .ok (.iload 4, 2) := by decide +kernel
theorem d524 : decode jdk_65_method_118_code 19 = .ok (.aload_n 3, 1) := by decide +kernel
theorem d525 : decode jdk_65_method_118_code 20 = .ok (.aastore, 1) := by decide +kernel
theorem d526 : decode jdk_65_method_118_code 21 = .ok (.iinc 4 1, 3) := by decide +kernel
theorem d527 : decode jdk_65_method_118_code 24 = .ok (.goto (-14), 3) := by decide +kernel
theorem d528 : decode jdk_65_method_118_code 27 = .ok (.return_, 1) := by decide +kernel
abbrev mn529 : MethodName := ⟨"java/util/Arrays", "fill", "([Ljava/lang/Object;IILjava/lang/Object;)V"⟩
theorem own_fill1 (l : Launch) (Z : State) (a0 : Array Value) (cx : Ctx Z a0) (ws : List Jvm.Cond) (a : Addr) (ka : ClassId) (y : Addr) (vm0 : Vm) (h0 : Heap) (X00 : Ext Z.heap h0) (P0 : Arv Z h0 a ka (.object c8_) (1 : Int32) [.null] .null) (P1 : Z.heap.size ≤ a) (P2 : Exa Z h0 y c9_) (hov : (Ovr Z ka c8_)) :
    Met l mn529 jdk_65_method_118_code 5 none ws ({ frames := 1, cells := 0, slots := 0, locals := 14 } : Room) Z consts_1 vm0 h0 #[(.ref a), (.int (0 : Int32)), (.int (1 : Int32)), (.ref y)] (fun rv vm h => rv = none ∧ Keep h0 h [a] ∧ Arv Z h a ka (.object c8_) (1 : Int32) [(.ref y)] .null) := by
  obtain ⟨hw, hEL, ⟨zc, Scs, hzc⟩, ⟨fm, Sfm, hfm⟩, hL0⟩ := id cx
  have hSA := own_SA hw
  refine Met.of_walk (a0 := a0) #[vr a, vi (0 : Int32), vi (1 : Int32), vr y, un] (plainFor_of_name own_pn189) X00 hEL (fun m => by first | (simp [entryFrame, mkF, argsToLocals, Value.category]; done) | rfl) ?_
  intro p e s m below meth c vm hx hby hml hret hnm hC0 hW0
  have lt_a : h0.size > a := P0.lt
  have lt_y : h0.size > y := P2.lt
  refine uAN 1 hx hby d511 rfl rfl rfl ?_
  refine glen hx P0 2 (hb hby d512) rfl ?_
  refine uIN 3 hx hby d513 rfl rfl ?_
  refine uIN 4 hx hby d514 rfl rfl ?_
  refine ginfo fun _ _ O1 => ?_
  refine gcallS (y := mn510) hx (ow hw 305 rfl) (ow hw 306 rfl) (ow hw 246 rfl) (ow hw 307 rfl) (by decide) (fun hZ H hEL => Pay.of_met (W := 0) (own_rc1 l Z a0 cx []  vm h0 O1 ) (ow hw 307 rfl) (ow hw 246 rfl) (by decide) (by decide) hZ H hEL) 7 (argsL := [(.int (1 : Int32)), (.int (0 : Int32)), (.int (1 : Int32))]) (rest := []) (lenOf own_pd516 rfl) rfl rfl (Nat.le_of_eq rfl) (by rw [hml]; rfl) (hb hby d515) rfl (by decide) (by decide) ?_
  rintro _ vm1 h1 C1 ⟨rfl, rfl⟩
  have z1 := C1.2.1
  refine gat (mkF m 7 #[vr a, vi (0 : Int32), vi (1 : Int32), vr y, un] []) rfl ?_
  refine uIN 8 hx hby d517 rfl rfl ?_
  refine gs (mkF m 10 #[vr a, vi (0 : Int32), vi (1 : Int32), vr y, vi (0 : Int32)] []) (fun _ _ A kq => XS.istore A hx rfl (hb hby d518) rfl (l' := #[vr a, vi (0 : Int32), vi (1 : Int32), vr y, vi (0 : Int32)]) rfl kq) ?_
  refine uI 12 hx hby d519 rfl rfl ?_
  refine uIN 13 hx hby d520 rfl rfl ?_
  refine gs (mkF m 16 #[vr a, vi (0 : Int32), vi (1 : Int32), vr y, vi (0 : Int32)] []) (fun _ _ A kq => XS.icmpNo A hx rfl (hb hby d521) rfl (tlt (by decide)).2.1 kq) ?_
  refine uAN 17 hx hby d522 rfl rfl rfl ?_
  refine uI 19 hx hby d523 rfl rfl ?_
  refine uAN 20 hx hby d524 rfl rfl rfl ?_
  refine gstR hx P0 ⟨by decide, by decide⟩ (i := 0) rfl (Nat.le_of_ble_eq_true rfl) (Arv.sto P0 hov (Ins.of_exa P2 (ow hw 235 rfl))) rfl P1 21 (hb hby d525) rfl ?_
  intro h2 W2 C2 V2
  have z2 := C2.2.1
  replace V2 : Arv Z h2 a ka (.object c8_) (1 : Int32) [(.ref y)] .null := V2
  refine gs (mkF m 24 #[vr a, vi (0 : Int32), vi (1 : Int32), vr y, vi (1 : Int32)] []) (fun _ _ A kq => XS.iinc A hx rfl (hb hby d526) rfl (l' := #[vr a, vi (0 : Int32), vi (1 : Int32), vr y, vi (1 : Int32)]) rfl kq) ?_
  refine uG 10 hx hby d527 (by decide) (by decide) ?_
  refine uI 12 hx hby d519 rfl rfl ?_
  refine uIN 13 hx hby d520 rfl rfl ?_
  refine gs (mkF m 27 #[vr a, vi (0 : Int32), vi (1 : Int32), vr y, vi (1 : Int32)] []) (fun _ _ A kq => XS.icmpYes A hx rfl (pc0 := 13) (pc' := 27) rfl (hb hby d521) rfl (flt (by decide)).2.1 (by decide) (by decide) kq) ?_
  exact gretV hx hret (hb hby d528) (by decide) (by decide) (fun vq Cq => ⟨rfl, ((Keep.refl h0 [a]).wr W2 (Or.inl (List.mem_of_getElem? (i := 0) rfl))), V2⟩)
theorem d530 : decode jdk_2479_method_8_code 0 = .ok (.aload_n 0, 1) := by decide +kernel
theorem d531 : decode jdk_2479_method_8_code 1 = .ok (.getfield 16, 3) := by decide +kernel
theorem d532 : decode jdk_2479_method_8_code 4 = .ok (.anewarray 50, 3) := by decide +kernel
theorem d533 : decode jdk_2479_method_8_code 7 = .ok (.astore_n 1, 1) := by decide +kernel
theorem d534 : decode jdk_2479_method_8_code 8 = .ok (.aload_n 0, 1) := by decide +kernel
theorem d535 : decode jdk_2479_method_8_code 9 = .ok (.getfield 20, 3) := by decide +kernel
theorem d536 : decode jdk_2479_method_8_code 12 = .ok (.ifnull 16, 3) := by decide +kernel
theorem d537 : decode jdk_2479_method_8_code 15 = .ok (.aload_n 1, 1) := by decide +kernel
theorem d538 : decode jdk_2479_method_8_code 16 = .ok (.iconst 0, 1) := by decide +kernel
theorem d539 : decode jdk_2479_method_8_code 17 = .ok (.aload_n 0, 1) := by decide +kernel
theorem d540 : decode jdk_2479_method_8_code 18 = .ok (.getfield 16, 3) := by decide +kernel
theorem d541 : decode jdk_2479_method_8_code 21 = .ok (.aload_n 0, 1) := by decide +kernel
theorem d542 : decode jdk_2479_method_8_code 22 = .ok (.getfield 20, 3) := by decide +kernel
theorem d543 : decode jdk_2479_method_8_code 25 = .ok (.invokestatic 52, 3) := by decide +kernel
theorem own_pd544 : parseMethodDescriptor "([Ljava/lang/Object;IILjava/lang/Object;)V" = some ⟨[(.array (.object "java/lang/Object")), .int, .int, (.object "java/lang/Object")], none⟩ := by decide +kernel
theorem d545 : decode jdk_2479_method_8_code 28 = .ok (.aload_n 1, 1) := by decide +kernel
theorem d546 : decode jdk_2479_method_8_code 29 = .ok (.areturn, 1) := by decide +kernel
abbrev mn547 : MethodName := ⟨"java/util/Collections$CopiesList", "toArray", "()[Ljava/lang/Object;"⟩
theorem own_cpltoarr1 (l : Launch) (Z : State) (a0 : Array Value) (cx : Ctx Z a0) (ws : List Jvm.Cond) (x : Addr) (y : Addr) (dz : Addr) (el : Addr) (ee : Addr) (em : Addr) (mr : Addr) (kd : ClassId) (ke : ClassId) (vm0 : Vm) (h0 : Heap) (X00 : Ext Z.heap h0) (P0 : Exa Z h0 x c12_) (P1 : Fld Z h0 x c12_ "n" "I" (.int (1 : Int32))) (P2 : Fld Z h0 x c12_ "element" c0_ (.ref y)) (P3 : Exa Z h0 y c9_) (hL : (OwnL Z dz el ee em mr kd ke)) :
    Met l mn547 jdk_2479_method_8_code 2 (some (.array (.object c8_))) ws ({ frames := 2, cells := 1, slots := 1, locals := 30 } : Room) Z consts_1 vm0 h0 #[(.ref x)] (fun rv vm h => ∃ (a : Addr), ∃ (ka : ClassId), rv = some (.ref a) ∧ Keep h0 h [] ∧ h0.size ≤ a ∧ Arv Z h a ka (.object c8_) (1 : Int32) [(.ref y)] .null) := by
  obtain ⟨hw, hEL, ⟨zc, Scs, hzc⟩, ⟨fm, Sfm, hfm⟩, hL0⟩ := id cx
  have hSA := own_SA hw
  refine Met.of_walk (a0 := a0) #[vr x, un] (plainFor_of_name own_pn427) X00 hEL (fun m => by first | (simp [entryFrame, mkF, argsToLocals, Value.category]; done) | rfl) ?_
  intro p e s m below meth c vm hx hby hml hret hnm hC0 hW0
  have lt_x : h0.size > x := P0.lt
  have lt_y : h0.size > y := P3.lt
  obtain ⟨Sdz, Edz, Vdz, Sel, Eel, Fee, Vee, Fan, Sem, Eem, Mmr, Sas⟩ := id hL
  refine uAN 1 hx hby d530 rfl rfl rfl ?_
  refine ggetF (host := "") hx (Or.inl (ow hw 89 rfl)) Via.refl P1 4 (hb hby d531) rfl ?_
  refine gnewR hx (ow hw 301 rfl) (ow hw 234 rfl) (n := (1 : Int32)) (by decide) (cap := 1) (by decide) (by decide) (ad := c3_) (by decide) 7 (hb hby d532) rfl (by decide) (by decide) ?_
  intro b1 h1 k1 g1 E1 C1 V1 A1 O1 n1 L1
  have z1 := C1.2.1
  have V1 : Arv Z h1 b1 k1 (.object c8_) (1 : Int32) [.null] .null := V1.pad (pad_rep [] .null 1)
  have lt_b1 : h1.size > b1 := V1.lt
  refine gs (mkF m 8 #[vr x, vr b1] []) (fun _ _ A kq => XS.astoreN A hx rfl (hb hby d533) rfl rfl (l' := #[vr x, vr b1]) rfl kq) ?_
  refine uAN 9 hx hby d534 rfl rfl rfl ?_
  have f2 := (P2.ext E1)
  refine ggetF (host := "") hx (Or.inl (ow hw 91 rfl)) Via.refl f2 12 (hb hby d535) rfl ?_
  refine gs (mkF m 15 #[vr x, vr b1] []) (fun _ _ A kq => XS.ifnullNo A hx rfl (hb hby d536) rfl kq) ?_
  refine uAN 16 hx hby d537 rfl rfl rfl ?_
  refine gs (mkF m 17 #[vr x, vr b1] [(.int (0 : Int32)), (.ref b1)]) (fun _ _ A kq => XS.iconst A hx rfl (hb hby d538) kq) ?_
  refine uAN 18 hx hby d539 rfl rfl rfl ?_
  have f3 := (P1.ext E1)
  refine ggetF (host := "") hx (Or.inl (ow hw 89 rfl)) Via.refl f3 21 (hb hby d540) rfl ?_
  refine uAN 22 hx hby d541 rfl rfl rfl ?_
  refine ggetF (host := "") hx (Or.inl (ow hw 91 rfl)) Via.refl f2 25 (hb hby d542) rfl ?_
  have f5 := (P3.ext E1)
  refine ginfo fun _ _ O4 => ?_
  refine gcallS (y := mn529) hx (ow hw 302 rfl) (ow hw 303 rfl) (ow hw 246 rfl) (ow hw 304 rfl) (by decide) (fun hZ H hEL => Pay.of_met (W := 0) (own_fill1 l Z a0 cx [] (b1) (k1) (y) vm h1 O4 V1 n1 f5 (by first | assumption | decide | omega)) (ow hw 304 rfl) (ow hw 246 rfl) (by decide) (by decide) hZ H hEL) 28 (argsL := [(.ref b1), (.int (0 : Int32)), (.int (1 : Int32)), (.ref y)]) (rest := []) (lenOf own_pd544 rfl) rfl rfl (Nat.le_of_eq rfl) (by rw [hml]; rfl) (hb hby d543) rfl (by decide) (by decide) ?_
  rintro _ vm4 h4 C4 ⟨rfl, K4, q4_0⟩
  have z4 := C4.2.1
  refine gat (mkF m 28 #[vr x, vr b1] []) rfl ?_
  refine uAN 29 hx hby d545 rfl rfl rfl ?_
  exact gretA hx hret rfl rfl (hb hby d546) (by decide) (by decide) (fun vq Cq => ⟨b1, k1, rfl, (((Keep.refl h0 []).ext E1).trans K4 (allS (Or.inr (by omega)) all0)), (by omega), q4_0⟩)
theorem own_lcC1 (l : Launch) (Z : State) (a0 : Array Value) (cx : Ctx Z a0) (ws : List Jvm.Cond) (x : Addr) (y : Addr) (dz : Addr) (el : Addr) (ee : Addr) (em : Addr) (mr : Addr) (kd : ClassId) (ke : ClassId) (vm0 : Vm) (h0 : Heap) (X00 : Ext Z.heap h0) (P0 : Exa Z h0 x c12_) (P1 : Fld Z h0 x c12_ "n" "I" (.int (1 : Int32))) (P2 : Fld Z h0 x c12_ "element" c0_ (.ref y)) (P3 : Exa Z h0 y c9_) (hL : (OwnL Z dz el ee em mr kd ke)) :
    Met l mn275 jdk_56_method_3_code 2 (some (.object c16_)) ws ({ frames := 6, cells := 2, slots := 3, locals := 75 } : Room) Z consts_1 vm0 h0 #[(.ref x)] (fun rv vm h => ∃ (r : Addr), rv = some (.ref r) ∧ Keep h0 h [] ∧ h0.size ≤ r ∧ Exa Z h r c14_ ∧ Fld Z h r c14_ "e0" c0_ (.ref y) ∧ Fld Z h r c14_ "e1" c0_ (.ref em)) := by
  obtain ⟨hw, hEL, ⟨zc, Scs, hzc⟩, ⟨fm, Sfm, hfm⟩, hL0⟩ := id cx
  have hSA := own_SA hw
  refine Met.of_walk (a0 := a0) #[vr x, un] (plainFor_of_name own_pn256) X00 hEL (fun m => by first | (simp [entryFrame, mkF, argsToLocals, Value.category]; done) | rfl) ?_
  intro p e s m below meth c vm hx hby hml hret hnm hC0 hW0
  have lt_x : h0.size > x := P0.lt
  have lt_y : h0.size > y := P3.lt
  obtain ⟨Sdz, Edz, Vdz, Sel, Eel, Fee, Vee, Fan, Sem, Eem, Mmr, Sas⟩ := id hL
  refine uAN 1 hx hby d261 rfl rfl rfl ?_
  refine ginstN hx (ow hw 119 rfl) P0 (NSno (ow hw 138 rfl) (ow hw 317 rfl) (NS.step (ow hw 138 rfl) (NS.step (ow hw 121 rfl) (NS.step (ow hw 122 rfl) (NSroot (ow hw 123 rfl) (ow hw 317 rfl) (by decide)) (by decide)) (by decide)) (by decide)) (by decide)) 4 (hb hby d262) rfl ?_
  refine gs (mkF m 7 #[vr x, un] []) (fun _ _ A kq => XS.ifNo A hx rfl (hb hby d263) rfl ((if0 _ _).trans (teq (by decide)).2) kq) ?_
  refine uAN 8 hx hby d264 rfl rfl rfl ?_
  refine ginstN hx (ow hw 124 rfl) P0 (NSno (ow hw 138 rfl) (ow hw 277 rfl) (NS.step (ow hw 138 rfl) (NS.step (ow hw 121 rfl) (NS.step (ow hw 122 rfl) (NSroot (ow hw 123 rfl) (ow hw 277 rfl) (by decide)) (by decide)) (by decide)) (by decide)) (by decide)) 11 (hb hby d265) rfl ?_
  refine gs (mkF m 31 #[vr x, un] []) (fun _ _ A kq => XS.ifYes A hx rfl (pc0 := 11) (pc' := 31) rfl (hb hby d266) rfl ((if0 _ _).trans (teq (by decide)).1) (by decide) (by decide) kq) ?_
  refine uAN 32 hx hby d267 rfl rfl rfl ?_
  refine ginfo fun _ _ O1 => ?_
  refine gcallF (xi := mn270) (y := mn451) hx (ow hw 125 rfl) (ow hw 126 rfl) (fun _ _ hU => mvT hU (ow hw 127 rfl)) (ow hw 139 rfl) (ow hw 140 rfl) (ow hw 141 rfl) (ow hw 142 rfl) (ow hw 143 rfl) (by decide) (fun hZ H hEL => Pay.of_met (W := 0) (own_cplempty1 l Z a0 cx [] (x) vm h0 O1 P0 P1) (ow hw 144 rfl) (ow hw 50 rfl) (by decide) (by decide) hZ H hEL) 37 (argsL := []) (rest := []) P0 (lenOf own_pd269 rfl) rfl rfl (Nat.le_of_eq rfl) (by rw [hml]; rfl) (hb hby d268) rfl (by decide) (by decide) ?_
  rintro _ vm1 h1 C1 ⟨rfl, rfl⟩
  have z1 := C1.2.1
  refine gat (mkF m 37 #[vr x, un] [(.int (0 : Int32))]) rfl ?_
  refine gs (mkF m 44 #[vr x, un] []) (fun _ _ A kq => XS.ifYes A hx rfl (pc0 := 37) (pc' := 44) rfl (hb hby d271) rfl ((if0 _ _).trans (teq (by decide)).1) (by decide) (by decide) kq) ?_
  refine uAN 45 hx hby d286 rfl rfl rfl ?_
  refine ginfo fun _ _ O2 => ?_
  refine gcallF (xi := mn288) (y := mn547) hx (ow hw 236 rfl) (ow hw 237 rfl) (fun _ _ hU => mvT hU (ow hw 238 rfl)) (ow hw 296 rfl) (ow hw 297 rfl) (ow hw 298 rfl) (ow hw 299 rfl) (ow hw 143 rfl) (by decide) (fun hZ H hEL => Pay.of_met (W := 0) (own_cpltoarr1 l Z a0 cx [] (x) (y) (dz) (el) (ee) (em) (mr) (kd) (ke) vm1 h0 O2 P0 P1 P2 P3 (by first | assumption | decide | omega)) (ow hw 300 rfl) (ow hw 79 rfl) (by decide) (by decide) hZ H hEL) 50 (argsL := []) (rest := []) P0 (lenOf own_pd65 rfl) rfl rfl (Nat.le_of_eq rfl) (by rw [hml]; rfl) (hb hby d287) rfl (by decide) (by decide) ?_
  rintro _ vm2 h2 C2 ⟨a2, ka2, rfl, K2, q2_0, q2_1⟩
  have z2 := C2.2.1
  have lt_a2 : h2.size > a2 := q2_1.lt
  refine gat (mkF m 50 #[vr x, un] [(.ref a2)]) rfl ?_
  have f4 := (P3.keep K2)
  refine ginfo fun _ _ O3 => ?_
  refine gcallS (y := mn217) hx (ow hw 266 rfl) (ow hw 267 rfl) (ow hw 113 rfl) (ow hw 268 rfl) (by decide) (fun hZ H hEL => Pay.of_met (W := 0) (own_of1 l Z a0 cx [] (a2) (ka2) (y) (dz) (el) (ee) (em) (mr) (kd) (ke) vm2 h2 O3 q2_1 f4 (by first | assumption | decide | omega)) (ow hw 268 rfl) (ow hw 113 rfl) (by decide) (by decide) hZ H hEL) 53 (argsL := [(.ref a2)]) (rest := []) (lenOf own_pd259 rfl) rfl rfl (Nat.le_of_eq rfl) (by rw [hml]; rfl) (hb hby d289) rfl (by decide) (by decide) ?_
  rintro _ vm3 h3 C3 ⟨r3, rfl, K3, q3_0, q3_1, q3_2, q3_3⟩
  have z3 := C3.2.1
  have lt_r3 : h3.size > r3 := q3_1.lt
  refine gat (mkF m 53 #[vr x, un] [(.ref r3)]) rfl ?_
  exact gretA hx hret rfl rfl (hb hby d290) (by decide) (by decide) (fun vq Cq => ⟨r3, rfl, (((Keep.refl h0 []).trans K2 all0).trans K3 all0), (by omega), q3_1, q3_2, q3_3⟩)
theorem own_coC1 (l : Launch) (Z : State) (a0 : Array Value) (cx : Ctx Z a0) (ws : List Jvm.Cond) (x : Addr) (y : Addr) (dz : Addr) (el : Addr) (ee : Addr) (em : Addr) (mr : Addr) (kd : ClassId) (ke : ClassId) (vm0 : Vm) (h0 : Heap) (X00 : Ext Z.heap h0) (P0 : Exa Z h0 x c12_) (P1 : Fld Z h0 x c12_ "n" "I" (.int (1 : Int32))) (P2 : Fld Z h0 x c12_ "element" c0_ (.ref y)) (P3 : Exa Z h0 y c9_) (hL : (OwnL Z dz el ee em mr kd ke)) :
    Met l mn280 jdk_40_method_48_code 1 (some (.object c16_)) ws ({ frames := 7, cells := 2, slots := 3, locals := 88 } : Room) Z consts_1 vm0 h0 #[(.ref x)] (fun rv vm h => ∃ (r : Addr), rv = some (.ref r) ∧ Keep h0 h [] ∧ h0.size ≤ r ∧ Exa Z h r c14_ ∧ Fld Z h r c14_ "e0" c0_ (.ref y) ∧ Fld Z h r c14_ "e1" c0_ (.ref em)) := by
  obtain ⟨hw, hEL, ⟨zc, Scs, hzc⟩, ⟨fm, Sfm, hfm⟩, hL0⟩ := id cx
  have hSA := own_SA hw
  refine Met.of_walk (a0 := a0) #[vr x] (plainFor_of_name own_pn110) X00 hEL (fun m => by first | (simp [entryFrame, mkF, argsToLocals, Value.category]; done) | rfl) ?_
  intro p e s m below meth c vm hx hby hml hret hnm hC0 hW0
  have lt_x : h0.size > x := P0.lt
  have lt_y : h0.size > y := P3.lt
  obtain ⟨Sdz, Edz, Vdz, Sel, Eel, Fee, Vee, Fan, Sem, Eem, Mmr, Sas⟩ := id hL
  refine uAN 1 hx hby d276 rfl rfl rfl ?_
  refine ginfo fun _ _ O1 => ?_
  refine gcallS (y := mn275) hx (ow hw 115 rfl) (ow hw 116 rfl) (ow hw 117 rfl) (ow hw 118 rfl) (by decide) (fun hZ H hEL => Pay.of_met (W := 0) (own_lcC1 l Z a0 cx [] (x) (y) (dz) (el) (ee) (em) (mr) (kd) (ke) vm h0 O1 P0 P1 P2 P3 (by first | assumption | decide | omega)) (ow hw 118 rfl) (ow hw 117 rfl) (by decide) (by decide) hZ H hEL) 4 (argsL := [(.ref x)]) (rest := []) (lenOf own_pd278 rfl) rfl rfl (Nat.le_of_eq rfl) (by rw [hml]; rfl) (hb hby d277) rfl (by decide) (by decide) ?_
  rintro _ vm1 h1 C1 ⟨r1, rfl, K1, q1_0, q1_1, q1_2, q1_3⟩
  have z1 := C1.2.1
  have lt_r1 : h1.size > r1 := q1_1.lt
  refine gat (mkF m 4 #[vr x] [(.ref r1)]) rfl ?_
  exact gretA hx hret rfl rfl (hb hby d279) (by decide) (by decide) (fun vq Cq => ⟨r1, rfl, ((Keep.refl h0 []).trans K1 all0), (by omega), q1_1, q1_2, q1_3⟩)
theorem own_scC1 (l : Launch) (Z : State) (a0 : Array Value) (cx : Ctx Z a0) (ws : List Jvm.Cond) (x : Addr) (sb : Addr) (u0 : Value) (u1 : Value) (u2 : Value) (kl : Addr) (al : Addr) (y : Addr) (d1 : Addr) (k1 : ClassId) (s0_ : Addr) (dz : Addr) (el : Addr) (ee : Addr) (em : Addr) (mr : Addr) (kd : ClassId) (ke : ClassId) (vm0 : Vm) (h0 : Heap) (X00 : Ext Z.heap h0) (P0 : Exa Z h0 x c6_) (P1 : Fld Z h0 x c6_ "source" c1_ u0) (P2 : Fld Z h0 x c6_ "keys" c2_ u1) (P3 : Fld Z h0 x c6_ "args" c2_ u2) (P4 : Z.heap.size ≤ x) (P5 : Exa Z h0 kl c11_) (P6 : Fld Z h0 kl c11_ c7_ c3_ (.ref d1)) (P7 : Fld Z h0 kl c11_ "size" "I" (.int (1 : Int32))) (P8 : Arv Z h0 d1 k1 (.object c8_) (10 : Int32) [(.ref s0_), .null, .null, .null, .null, .null, .null, .null, .null, .null] .null) (P9 : Exa Z h0 d1 c3_) (hov : (Ovr Z k1 c8_)) (P11 : Exa Z h0 s0_ c9_) (P12 : Exa Z h0 al c12_) (P13 : Fld Z h0 al c12_ "n" "I" (.int (1 : Int32))) (P14 : Fld Z h0 al c12_ "element" c0_ (.ref y)) (P15 : Exa Z h0 y c9_) (hL : (OwnL Z dz el ee em mr kd ke)) :
    Met l mn470 prog_31_method_1_code 4 none ws ({ frames := 8, cells := 4, slots := 6, locals := 100 } : Room) Z consts_1 vm0 h0 #[(.ref x), (.ref sb), (.ref kl), (.ref al)] (fun rv vm h => ∃ (r1 : Addr), ∃ (r2 : Addr), rv = none ∧ Keep h0 h [x] ∧ Fld Z h x c6_ "source" c1_ (.ref sb) ∧ Fld Z h x c6_ "keys" c2_ (.ref r1) ∧ Fld Z h x c6_ "args" c2_ (.ref r2) ∧ Exa Z h r1 c14_ ∧ Fld Z h r1 c14_ "e0" c0_ (.ref s0_) ∧ Fld Z h r1 c14_ "e1" c0_ (.ref em) ∧ Exa Z h r2 c14_ ∧ Fld Z h r2 c14_ "e0" c0_ (.ref y) ∧ Fld Z h r2 c14_ "e1" c0_ (.ref em)) := by
  obtain ⟨hw, hEL, ⟨zc, Scs, hzc⟩, ⟨fm, Sfm, hfm⟩, hL0⟩ := id cx
  have hSA := own_SA hw
  refine Met.of_walk (a0 := a0) #[vr x, vr sb, vr kl, vr al] (plainFor_of_name own_pn397) X00 hEL (fun m => by first | (simp [entryFrame, mkF, argsToLocals, Value.category]; done) | rfl) ?_
  intro p e s m below meth c vm hx hby hml hret hnm hC0 hW0
  have lt_x : h0.size > x := P0.lt
  have lt_kl : h0.size > kl := P5.lt
  have lt_d1 : h0.size > d1 := P8.lt
  have lt_s0_ : h0.size > s0_ := P11.lt
  have lt_al : h0.size > al := P12.lt
  have lt_y : h0.size > y := P15.lt
  obtain ⟨Sdz, Edz, Vdz, Sel, Eel, Fee, Vee, Fan, Sem, Eem, Mmr, Sas⟩ := id hL
  refine uAN 1 hx hby d452 rfl rfl rfl ?_
  refine ginfo fun _ _ O1 => ?_
  refine gcallI (y := mn391) hx rfl (ow hw 105 rfl) (ow hw 106 rfl) (ow hw 109 rfl) (by decide) (fun hZ H hEL => Pay.of_met (W := 0) (own_record l Z a0 cx [] (x) vm h0 O1 ) (ow hw 109 rfl) (ow hw 108 rfl) (by decide) (by decide) hZ H hEL) (a := x) 4 (argsL := []) (rest := []) (lenOf own_pd7 rfl) rfl rfl (Nat.le_of_eq rfl) (by rw [hml]; rfl) (hb hby d453) rfl (by decide) (by decide) ?_
  rintro _ vm1 h1 C1 ⟨rfl, rfl⟩
  have z1 := C1.2.1
  refine gat (mkF m 4 #[vr x, vr sb, vr kl, vr al] []) rfl ?_
  refine uAN 5 hx hby d454 rfl rfl rfl ?_
  refine ginfo fun _ _ O2 => ?_
  refine gcallS (y := mn280) hx (ow hw 111 rfl) (ow hw 112 rfl) (ow hw 113 rfl) (ow hw 114 rfl) (by decide) (fun hZ H hEL => Pay.of_met (W := 0) (own_copy1 l Z a0 cx [] (kl) (d1) (k1) (s0_) (dz) (el) (ee) (em) (mr) (kd) (ke) vm1 h0 O2 P5 P6 P7 P8 P9 (by first | assumption | decide | omega) P11 (by first | assumption | decide | omega)) (ow hw 114 rfl) (ow hw 113 rfl) (by decide) (by decide) hZ H hEL) 8 (argsL := [(.ref kl)]) (rest := []) (lenOf own_pd278 rfl) rfl rfl (Nat.le_of_eq rfl) (by rw [hml]; rfl) (hb hby d455) rfl (by decide) (by decide) ?_
  rintro _ vm2 h2 C2 ⟨r2, rfl, K2, q2_0, q2_1, q2_2, q2_3⟩
  have z2 := C2.2.1
  have lt_r2 : h2.size > r2 := q2_1.lt
  refine gat (mkF m 8 #[vr x, vr sb, vr kl, vr al] [(.ref r2)]) rfl ?_
  refine gs (mkF m 9 #[vr x, vr sb, vr r2, vr al] []) (fun _ _ A kq => XS.astoreN A hx rfl (hb hby d456) rfl rfl (l' := #[vr x, vr sb, vr r2, vr al]) rfl kq) ?_
  refine uAN 10 hx hby d457 rfl rfl rfl ?_
  have f4 := (P12.keep K2)
  have f5 := (P13.keep K2 nin0)
  have f6 := (P14.keep K2 nin0)
  have f7 := (P15.keep K2)
  refine ginfo fun _ _ O3 => ?_
  refine gcallS (y := mn280) hx (ow hw 111 rfl) (ow hw 112 rfl) (ow hw 113 rfl) (ow hw 114 rfl) (by decide) (fun hZ H hEL => Pay.of_met (W := 0) (own_coC1 l Z a0 cx [] (al) (y) (dz) (el) (ee) (em) (mr) (kd) (ke) vm2 h2 O3 f4 f5 f6 f7 (by first | assumption | decide | omega)) (ow hw 114 rfl) (ow hw 113 rfl) (by decide) (by decide) hZ H hEL) 13 (argsL := [(.ref al)]) (rest := []) (lenOf own_pd278 rfl) rfl rfl (Nat.le_of_eq rfl) (by rw [hml]; rfl) (hb hby d458) rfl (by decide) (by decide) ?_
  rintro _ vm3 h3 C3 ⟨r3, rfl, K3, q3_0, q3_1, q3_2, q3_3⟩
  have z3 := C3.2.1
  have lt_r3 : h3.size > r3 := q3_1.lt
  refine gat (mkF m 13 #[vr x, vr sb, vr r2, vr al] [(.ref r3)]) rfl ?_
  refine gs (mkF m 14 #[vr x, vr sb, vr r2, vr r3] []) (fun _ _ A kq => XS.astoreN A hx rfl (hb hby d459) rfl rfl (l' := #[vr x, vr sb, vr r2, vr r3]) rfl kq) ?_
  refine uAN 15 hx hby d460 rfl rfl rfl ?_
  refine uAN 16 hx hby d461 rfl rfl rfl ?_
  have f8 := ((P1.keep K2 nin0).keep K3 nin0)
  have f9 := ((P0.keep K2).keep K3)
  refine gputF (host := "") hx (Or.inl (ow hw 150 rfl)) Via.refl f8 f9 (Or.inr ⟨(ow hw 151 rfl), rfl, hnm⟩) (ow hw 97 rfl) (ty := (.object c9_)) (by decide) rfl rfl P4 (fun al => Safe.exa al f9 (by decide) (by decide)) 19 (hb hby d462) rfl ?_
  intro h10 W10 C10
  have z10 := C10.2.1
  have F10 := f8.same W10
  refine uAN 20 hx hby d463 rfl rfl rfl ?_
  refine uAN 21 hx hby d464 rfl rfl rfl ?_
  have f11 := (((P2.keep K2 nin0).keep K3 nin0).other W10 (Or.inr (slot_ne (Or.inr (ow hw 153 rfl)) (Or.inr (ow hw 151 rfl)) (by decide) (t := (.object c16_)) (t' := (.object c9_)) (by decide) (by decide))))
  have f12 := (f9.wr W10)
  refine gputF (host := "") hx (Or.inl (ow hw 152 rfl)) Via.refl f11 f12 (Or.inr ⟨(ow hw 153 rfl), rfl, hnm⟩) (ow hw 97 rfl) (ty := (.object c16_)) (by decide) rfl rfl P4 (fun al => Safe.exa al f12 (by decide) (by decide)) 24 (hb hby d465) rfl ?_
  intro h13 W13 C13
  have z13 := C13.2.1
  have F13 := f11.same W13
  refine uAN 25 hx hby d466 rfl rfl rfl ?_
  refine uAN 26 hx hby d467 rfl rfl rfl ?_
  have f14 := ((((P3.keep K2 nin0).keep K3 nin0).other W10 (Or.inr (slot_ne (Or.inr (ow hw 155 rfl)) (Or.inr (ow hw 151 rfl)) (by decide) (t := (.object c16_)) (t' := (.object c9_)) (by decide) (by decide)))).other W13 (Or.inr (slot_ne (Or.inr (ow hw 155 rfl)) (Or.inr (ow hw 153 rfl)) (by decide) (t := (.object c16_)) (t' := (.object c16_)) (by decide) (by decide))))
  have f15 := (f12.wr W13)
  refine gputF (host := "") hx (Or.inl (ow hw 154 rfl)) Via.refl f14 f15 (Or.inr ⟨(ow hw 155 rfl), rfl, hnm⟩) (ow hw 97 rfl) (ty := (.object c16_)) (by decide) rfl rfl P4 (fun al => Safe.exa al f15 (by decide) (by decide)) 29 (hb hby d468) rfl ?_
  intro h16 W16 C16
  have z16 := C16.2.1
  have F16 := f14.same W16
  have f18 := ((F10.other W13 (Or.inr (slot_ne (Or.inr (ow hw 151 rfl)) (Or.inr (ow hw 153 rfl)) (by decide) (t := (.object c9_)) (t' := (.object c16_)) (by decide) (by decide)))).other W16 (Or.inr (slot_ne (Or.inr (ow hw 151 rfl)) (Or.inr (ow hw 155 rfl)) (by decide) (t := (.object c9_)) (t' := (.object c16_)) (by decide) (by decide))))
  have f19 := (F13.other W16 (Or.inr (slot_ne (Or.inr (ow hw 153 rfl)) (Or.inr (ow hw 155 rfl)) (by decide) (t := (.object c16_)) (t' := (.object c16_)) (by decide) (by decide))))
  have f20 := ((((q2_1.keep K3).wr W10).wr W13).wr W16)
  have f21 := ((((q2_2.keep K3 nin0).other W10 (Or.inl (Nat.ne_of_gt (by omega)))).other W13 (Or.inl (Nat.ne_of_gt (by omega)))).other W16 (Or.inl (Nat.ne_of_gt (by omega))))
  have f22 := ((((q2_3.keep K3 nin0).other W10 (Or.inl (Nat.ne_of_gt (by omega)))).other W13 (Or.inl (Nat.ne_of_gt (by omega)))).other W16 (Or.inl (Nat.ne_of_gt (by omega))))
  have f23 := (((q3_1.wr W10).wr W13).wr W16)
  have f24 := (((q3_2.other W10 (Or.inl (Nat.ne_of_gt (by omega)))).other W13 (Or.inl (Nat.ne_of_gt (by omega)))).other W16 (Or.inl (Nat.ne_of_gt (by omega))))
  have f25 := (((q3_3.other W10 (Or.inl (Nat.ne_of_gt (by omega)))).other W13 (Or.inl (Nat.ne_of_gt (by omega)))).other W16 (Or.inl (Nat.ne_of_gt (by omega))))
  exact gretV hx hret (hb hby d469) (by decide) (by decide) (fun vq Cq => ⟨r2, r3, rfl, ((((((Keep.refl h0 [x]).trans K2 all0).trans K3 all0).wr W10 (Or.inl (List.mem_of_getElem? (i := 0) rfl))).wr W13 (Or.inl (List.mem_of_getElem? (i := 0) rfl))).wr W16 (Or.inl (List.mem_of_getElem? (i := 0) rfl))), f18, f19, F16, f20, f21, f22, f23, f24, f25⟩)
theorem own_relC1 (l : Launch) (Z : State) (a0 : Array Value) (cx : Ctx Z a0) (ws : List Jvm.Cond) (kl : Addr) (al : Addr) (y : Addr) (d1 : Addr) (k1 : ClassId) (s0_ : Addr) (dz : Addr) (el : Addr) (ee : Addr) (em : Addr) (mr : Addr) (kd : ClassId) (ke : ClassId) (vm0 : Vm) (h0 : Heap) (X00 : Ext Z.heap h0) (P0 : Exa Z h0 kl c11_) (P1 : Fld Z h0 kl c11_ c7_ c3_ (.ref d1)) (P2 : Fld Z h0 kl c11_ "size" "I" (.int (1 : Int32))) (P3 : Arv Z h0 d1 k1 (.object c8_) (10 : Int32) [(.ref s0_), .null, .null, .null, .null, .null, .null, .null, .null, .null] .null) (P4 : Exa Z h0 d1 c3_) (hov : (Ovr Z k1 c8_)) (P6 : Exa Z h0 s0_ c9_) (P7 : Exa Z h0 al c12_) (P8 : Fld Z h0 al c12_ "n" "I" (.int (1 : Int32))) (P9 : Fld Z h0 al c12_ "element" c0_ (.ref y)) (P10 : Exa Z h0 y c9_) (hL : (OwnL Z dz el ee em mr kd ke)) :
    Met l mn479 prog_21_method_4_code 2 (some (.object c6_)) ws ({ frames := 9, cells := 7, slots := 837, locals := 116 } : Room) Z consts_1 vm0 h0 #[(.ref kl), (.ref al)] (fun rv vm h => ∃ (r : Addr), ∃ (sb : Addr), ∃ (tb : Addr), ∃ (r1 : Addr), ∃ (r2 : Addr), rv = some (.ref r) ∧ Keep h0 h [] ∧ Exa Z h r c6_ ∧ Str Z h sb tb own_rel ∧ Fld Z h r c6_ "source" c1_ (.ref sb) ∧ Fld Z h r c6_ "keys" c2_ (.ref r1) ∧ Fld Z h r c6_ "args" c2_ (.ref r2) ∧ Exa Z h r1 c14_ ∧ Fld Z h r1 c14_ "e0" c0_ (.ref s0_) ∧ Fld Z h r1 c14_ "e1" c0_ (.ref em) ∧ Exa Z h r2 c14_ ∧ Fld Z h r2 c14_ "e0" c0_ (.ref y) ∧ Fld Z h r2 c14_ "e1" c0_ (.ref em) ∧ Lit (Z.setVm vm) c5_ 40 sb) := by
  obtain ⟨hw, hEL, ⟨zc, Scs, hzc⟩, ⟨fm, Sfm, hfm⟩, hL0⟩ := id cx
  have hSA := own_SA hw
  refine Met.of_walk (a0 := a0) #[vr kl, vr al] (plainFor_of_name own_pn480) X00 hEL (fun m => by first | (simp [entryFrame, mkF, argsToLocals, Value.category]; done) | rfl) ?_
  intro p e s m below meth c vm hx hby hml hret hnm hC0 hW0
  have lt_kl : h0.size > kl := P0.lt
  have lt_d1 : h0.size > d1 := P3.lt
  have lt_s0_ : h0.size > s0_ := P6.lt
  have lt_al : h0.size > al := P7.lt
  have lt_y : h0.size > y := P10.lt
  obtain ⟨Sdz, Edz, Vdz, Sel, Eel, Fee, Vee, Fan, Sem, Eem, Mmr, Sas⟩ := id hL
  refine gnewO hx (ow hw 96 rfl) (ow hw 97 rfl) (ow hw 98 rfl) 3 (hb hby d471) rfl (by decide) (by decide) ?_
  intro b1 h1 g1 E1 C1 A1 D1 n1 L1
  have z1 := C1.2.1
  have lt_b1 : h1.size > b1 := A1.lt
  have F1_source : Fld Z h1 b1 c6_ "source" c1_ .null := D1 (Or.inr (ow hw 151 rfl)) (ty := (.object c9_)) (by decide)
  have F1_keys : Fld Z h1 b1 c6_ "keys" c2_ .null := D1 (Or.inr (ow hw 153 rfl)) (ty := (.object c16_)) (by decide)
  have F1_args : Fld Z h1 b1 c6_ "args" c2_ .null := D1 (Or.inr (ow hw 155 rfl)) (ty := (.object c16_)) (by decide)
  refine uD 4 hx hby d472 rfl rfl ?_
  refine gldcL hx (ow hw 99 rfl) hSA (by decide) (n := 824) (by decide) (by decide) (vs := own_relV) (z := (206 : Int32)) (by decide +kernel) (by decide) (by decide) 6 (hb hby d473) rfl (by decide) (by decide) ?_
  intro b2 t2 k2 vm2 h2 E2 C2 Q2a Q2b Q2c Q2d Q2e FL2
  have z2 := C2.2.1
  have S2 : Str Z h2 b2 t2 own_rel := Str.lit Q2a Q2b Q2c Q2d (by decide) rfl rfl (by decide)
  have lt_b2 : h2.size > b2 := S2.1.lt
  have lt_t2 : h2.size > t2 := S2.tlt
  have f3 := (C2.safe (show h1.size > b1 by omega) L1)
  have ne2_b1 := Q2e b1 f3
  refine uAN 7 hx hby d474 rfl rfl rfl ?_
  refine uAN 8 hx hby d475 rfl rfl rfl ?_
  have f5 := (A1.ext E2)
  have f6 := (F1_source.ext E2)
  have f7 := (F1_keys.ext E2)
  have f8 := (F1_args.ext E2)
  have f9 := ((P0.ext E1).ext E2)
  have f10 := ((P1.ext E1).ext E2)
  have f11 := ((P2.ext E1).ext E2)
  have f12 := ((P3.ext E1).ext E2)
  have f13 := ((P4.ext E1).ext E2)
  have f14 := ((P6.ext E1).ext E2)
  have f15 := ((P7.ext E1).ext E2)
  have f16 := ((P8.ext E1).ext E2)
  have f17 := ((P9.ext E1).ext E2)
  have f18 := ((P10.ext E1).ext E2)
  refine ginfo fun _ _ O4 => ?_
  refine gcallIW (y := mn470) hx rfl (ow hw 102 rfl) (ow hw 103 rfl) (ow hw 104 rfl) (by decide) (fun hZ H hEL => Pay.of_met (W := 1) (own_scC1 l Z a0 cx [] (b1) (b2) (.null) (.null) (.null) (kl) (al) (y) (d1) (k1) (s0_) (dz) (el) (ee) (em) (mr) (kd) (ke) vm2 h2 O4 f5 f6 f7 f8 n1 f9 f10 f11 f12 f13 (by first | assumption | decide | omega) f14 f15 f16 f17 f18 (by first | assumption | decide | omega)) (ow hw 104 rfl) (ow hw 98 rfl) (by decide) (by decide) hZ H hEL) (a := b1) 11 (argsL := [(.ref b2), (.ref kl), (.ref al)]) (rest := [(.ref b1)]) (lenOf own_pd477 rfl) rfl rfl (Nat.le_of_eq rfl) (by rw [hml]; rfl) (hb hby d476) rfl (by decide) (by decide) ?_
  rintro _ vm4 h4 WM4 C4 ⟨r14, r24, rfl, K4, q4_0, q4_1, q4_2, q4_3, q4_4, q4_5, q4_6, q4_7, q4_8⟩
  have z4 := C4.2.1
  have lt_r14 : h4.size > r14 := q4_3.lt
  have lt_r24 : h4.size > r24 := q4_6.lt
  refine gat (mkF m 11 #[vr kl, vr al] [(.ref b1)]) rfl ?_
  have f20 := (f5.keep K4)
  have f21 := (S2.keep K4 (ninS (Ne.symm ne2_b1.1) nin0) (ninS (Ne.symm ne2_b1.2) nin0))
  exact gretAW hx hret rfl rfl (hb hby d478) (by decide) (by decide) (fun vq Wq Cq => ⟨b1, b2, t2, r14, r24, rfl, ((((Keep.refl h0 []).ext E1).ext E2).trans K4 (allS (Or.inr (by omega)) all0)), f20, f21, q4_0, q4_1, q4_2, q4_3, q4_4, q4_5, q4_6, q4_7, q4_8, (State.resolvedAt?_warmed39 Wq (State.resolvedAt?_warmed39 WM4 FL2))⟩)
theorem own_rel1_1 (l : Launch) (Z : State) (a0 : Array Value) (cx : Ctx Z a0) (ws : List Jvm.Cond) (kl : Addr) (y : Addr) (d1 : Addr) (k1 : ClassId) (s0_ : Addr) (dz : Addr) (el : Addr) (ee : Addr) (em : Addr) (mr : Addr) (kd : ClassId) (ke : ClassId) (vm0 : Vm) (h0 : Heap) (X00 : Ext Z.heap h0) (P0 : Exa Z h0 kl c11_) (P1 : Fld Z h0 kl c11_ c7_ c3_ (.ref d1)) (P2 : Fld Z h0 kl c11_ "size" "I" (.int (1 : Int32))) (P3 : Arv Z h0 d1 k1 (.object c8_) (10 : Int32) [(.ref s0_), .null, .null, .null, .null, .null, .null, .null, .null, .null] .null) (P4 : Exa Z h0 d1 c3_) (hov : (Ovr Z k1 c8_)) (P6 : Exa Z h0 s0_ c9_) (P7 : Exa Z h0 y c9_) (hL : (OwnL Z dz el ee em mr kd ke)) :
    Met l mn491 prog_21_method_3_code 2 (some (.object c6_)) ws ({ frames := 10, cells := 8, slots := 840, locals := 129 } : Room) Z consts_1 vm0 h0 #[(.ref kl), (.ref y)] (fun rv vm h => ∃ (r : Addr), ∃ (sb : Addr), ∃ (tb : Addr), ∃ (r1 : Addr), ∃ (r2 : Addr), rv = some (.ref r) ∧ Keep h0 h [] ∧ Exa Z h r c6_ ∧ Str Z h sb tb own_rel ∧ Fld Z h r c6_ "source" c1_ (.ref sb) ∧ Fld Z h r c6_ "keys" c2_ (.ref r1) ∧ Fld Z h r c6_ "args" c2_ (.ref r2) ∧ Exa Z h r1 c14_ ∧ Fld Z h r1 c14_ "e0" c0_ (.ref s0_) ∧ Fld Z h r1 c14_ "e1" c0_ (.ref em) ∧ Exa Z h r2 c14_ ∧ Fld Z h r2 c14_ "e0" c0_ (.ref y) ∧ Fld Z h r2 c14_ "e1" c0_ (.ref em) ∧ Lit (Z.setVm vm) c5_ 40 sb) := by
  obtain ⟨hw, hEL, ⟨zc, Scs, hzc⟩, ⟨fm, Sfm, hfm⟩, hL0⟩ := id cx
  have hSA := own_SA hw
  refine Met.of_walk (a0 := a0) #[vr kl, vr y] (plainFor_of_name own_pn480) X00 hEL (fun m => by first | (simp [entryFrame, mkF, argsToLocals, Value.category]; done) | rfl) ?_
  intro p e s m below meth c vm hx hby hml hret hnm hC0 hW0
  have lt_kl : h0.size > kl := P0.lt
  have lt_d1 : h0.size > d1 := P3.lt
  have lt_s0_ : h0.size > s0_ := P6.lt
  have lt_y : h0.size > y := P7.lt
  obtain ⟨Sdz, Edz, Vdz, Sel, Eel, Fee, Vee, Fan, Sem, Eem, Mmr, Sas⟩ := id hL
  refine uAN 1 hx hby d481 rfl rfl rfl ?_
  refine uAN 2 hx hby d482 rfl rfl rfl ?_
  refine ginfo fun _ _ O1 => ?_
  refine gcallF (xi := mn484) (y := mn98) hx (ow hw 62 rfl) (ow hw 63 rfl) (fun _ _ hU => mvT hU (ow hw 64 rfl)) (ow hw 65 rfl) (ow hw 66 rfl) (ow hw 67 rfl) (ow hw 68 rfl) (ow hw 69 rfl) (by decide) (fun hZ H hEL => Pay.of_met (W := 1) (own_alsize l Z a0 cx [] (kl) ((1 : Int32)) vm h0 O1 P2) (ow hw 70 rfl) (ow hw 36 rfl) (by decide) (by decide) hZ H hEL) 7 (argsL := []) (rest := [(.ref kl)]) P0 (lenOf own_pd445 rfl) rfl rfl (Nat.le_of_eq rfl) (by rw [hml]; rfl) (hb hby d483) rfl (by decide) (by decide) ?_
  rintro _ vm1 h1 C1 ⟨rfl, rfl⟩
  have z1 := C1.2.1
  refine gat (mkF m 7 #[vr kl, vr y] [(.int (1 : Int32)), (.ref kl)]) rfl ?_
  refine uAN 8 hx hby d485 rfl rfl rfl ?_
  refine ginfo fun _ _ O2 => ?_
  refine gcallS (y := mn437) hx (ow hw 73 rfl) (ow hw 74 rfl) (ow hw 75 rfl) (ow hw 76 rfl) (by decide) (fun hZ H hEL => Pay.of_met (W := 1) (own_ncopies1 l Z a0 cx [] (y) (dz) (el) (ee) (em) (mr) (kd) (ke) vm1 h0 O2 (by first | assumption | decide | omega)) (ow hw 76 rfl) (ow hw 75 rfl) (by decide) (by decide) hZ H hEL) 11 (argsL := [(.int (1 : Int32)), (.ref y)]) (rest := [(.ref kl)]) (lenOf own_pd487 rfl) rfl rfl (Nat.le_of_eq rfl) (by rw [hml]; rfl) (hb hby d486) rfl (by decide) (by decide) ?_
  rintro _ vm2 h2 C2 ⟨x2, rfl, K2, q2_0, q2_1, q2_2, q2_3⟩
  have z2 := C2.2.1
  have lt_x2 : h2.size > x2 := q2_1.lt
  refine gat (mkF m 11 #[vr kl, vr y] [(.ref x2), (.ref kl)]) rfl ?_
  have f4 := (P0.keep K2)
  have f5 := (P1.keep K2 nin0)
  have f6 := (P2.keep K2 nin0)
  have f7 := (P3.keep K2 nin0)
  have f8 := (P4.keep K2)
  have f9 := (P6.keep K2)
  have f10 := (P7.keep K2)
  refine ginfo fun _ _ O3 => ?_
  refine gcallS (y := mn479) hx (ow hw 93 rfl) (ow hw 94 rfl) (ow hw 60 rfl) (ow hw 95 rfl) (by decide) (fun hZ H hEL => Pay.of_met (W := 0) (own_relC1 l Z a0 cx [] (kl) (x2) (y) (d1) (k1) (s0_) (dz) (el) (ee) (em) (mr) (kd) (ke) vm2 h2 O3 f4 f5 f6 f7 f8 (by first | assumption | decide | omega) f9 q2_1 q2_2 q2_3 f10 (by first | assumption | decide | omega)) (ow hw 95 rfl) (ow hw 60 rfl) (by decide) (by decide) hZ H hEL) 14 (argsL := [(.ref kl), (.ref x2)]) (rest := []) (lenOf own_pd489 rfl) rfl rfl (Nat.le_of_eq rfl) (by rw [hml]; rfl) (hb hby d488) rfl (by decide) (by decide) ?_
  rintro _ vm3 h3 C3 ⟨r3, sb3, tb3, r13, r23, rfl, K3, q3_0, q3_1, q3_2, q3_3, q3_4, q3_5, q3_6, q3_7, q3_8, q3_9, q3_10, q3_11⟩
  have z3 := C3.2.1
  have lt_r3 : h3.size > r3 := q3_0.lt
  have lt_sb3 : h3.size > sb3 := q3_1.1.lt
  have lt_tb3 : h3.size > tb3 := q3_1.tlt
  have lt_r13 : h3.size > r13 := q3_5.lt
  have lt_r23 : h3.size > r23 := q3_8.lt
  refine gat (mkF m 14 #[vr kl, vr y] [(.ref r3)]) rfl ?_
  exact gretAW hx hret rfl rfl (hb hby d490) (by decide) (by decide) (fun vq Wq Cq => ⟨r3, sb3, tb3, r13, r23, rfl, (((Keep.refl h0 []).trans K2 all0).trans K3 all0), q3_0, q3_1, q3_2, q3_3, q3_4, q3_5, q3_6, q3_7, q3_8, q3_9, q3_10, (State.resolvedAt?_warmed39 Wq q3_11)⟩)
theorem own_scA1 (l : Launch) (Z : State) (a0 : Array Value) (cx : Ctx Z a0) (ws : List Jvm.Cond) (x : Addr) (sb : Addr) (u0 : Value) (u1 : Value) (u2 : Value) (kl : Addr) (al : Addr) (y : Addr) (d1 : Addr) (k1 : ClassId) (d2 : Addr) (k2 : ClassId) (s0_ : Addr) (dz : Addr) (el : Addr) (ee : Addr) (em : Addr) (mr : Addr) (kd : ClassId) (ke : ClassId) (vm0 : Vm) (h0 : Heap) (X00 : Ext Z.heap h0) (P0 : Exa Z h0 x c6_) (P1 : Fld Z h0 x c6_ "source" c1_ u0) (P2 : Fld Z h0 x c6_ "keys" c2_ u1) (P3 : Fld Z h0 x c6_ "args" c2_ u2) (P4 : Z.heap.size ≤ x) (P5 : Exa Z h0 kl c11_) (P6 : Fld Z h0 kl c11_ c7_ c3_ (.ref d1)) (P7 : Fld Z h0 kl c11_ "size" "I" (.int (1 : Int32))) (P8 : Arv Z h0 d1 k1 (.object c8_) (10 : Int32) [(.ref s0_), .null, .null, .null, .null, .null, .null, .null, .null, .null] .null) (P9 : Exa Z h0 d1 c3_) (hov : (Ovr Z k1 c8_)) (P11 : Exa Z h0 s0_ c9_) (P12 : Exa Z h0 al c11_) (P13 : Fld Z h0 al c11_ c7_ c3_ (.ref d2)) (P14 : Fld Z h0 al c11_ "size" "I" (.int (1 : Int32))) (P15 : Arv Z h0 d2 k2 (.object c8_) (10 : Int32) [(.ref y), .null, .null, .null, .null, .null, .null, .null, .null, .null] .null) (P16 : Exa Z h0 d2 c3_) (hov2 : (Ovr Z k2 c8_)) (P18 : Exa Z h0 y c9_) (hL : (OwnL Z dz el ee em mr kd ke)) :
    Met l mn470 prog_31_method_1_code 4 none ws ({ frames := 8, cells := 4, slots := 6, locals := 100 } : Room) Z consts_1 vm0 h0 #[(.ref x), (.ref sb), (.ref kl), (.ref al)] (fun rv vm h => ∃ (r1 : Addr), ∃ (r2 : Addr), rv = none ∧ Keep h0 h [x] ∧ Fld Z h x c6_ "source" c1_ (.ref sb) ∧ Fld Z h x c6_ "keys" c2_ (.ref r1) ∧ Fld Z h x c6_ "args" c2_ (.ref r2) ∧ Exa Z h r1 c14_ ∧ Fld Z h r1 c14_ "e0" c0_ (.ref s0_) ∧ Fld Z h r1 c14_ "e1" c0_ (.ref em) ∧ Exa Z h r2 c14_ ∧ Fld Z h r2 c14_ "e0" c0_ (.ref y) ∧ Fld Z h r2 c14_ "e1" c0_ (.ref em)) := by
  obtain ⟨hw, hEL, ⟨zc, Scs, hzc⟩, ⟨fm, Sfm, hfm⟩, hL0⟩ := id cx
  have hSA := own_SA hw
  refine Met.of_walk (a0 := a0) #[vr x, vr sb, vr kl, vr al] (plainFor_of_name own_pn397) X00 hEL (fun m => by first | (simp [entryFrame, mkF, argsToLocals, Value.category]; done) | rfl) ?_
  intro p e s m below meth c vm hx hby hml hret hnm hC0 hW0
  have lt_x : h0.size > x := P0.lt
  have lt_kl : h0.size > kl := P5.lt
  have lt_d1 : h0.size > d1 := P8.lt
  have lt_s0_ : h0.size > s0_ := P11.lt
  have lt_al : h0.size > al := P12.lt
  have lt_d2 : h0.size > d2 := P15.lt
  have lt_y : h0.size > y := P18.lt
  obtain ⟨Sdz, Edz, Vdz, Sel, Eel, Fee, Vee, Fan, Sem, Eem, Mmr, Sas⟩ := id hL
  refine uAN 1 hx hby d452 rfl rfl rfl ?_
  refine ginfo fun _ _ O1 => ?_
  refine gcallI (y := mn391) hx rfl (ow hw 105 rfl) (ow hw 106 rfl) (ow hw 109 rfl) (by decide) (fun hZ H hEL => Pay.of_met (W := 0) (own_record l Z a0 cx [] (x) vm h0 O1 ) (ow hw 109 rfl) (ow hw 108 rfl) (by decide) (by decide) hZ H hEL) (a := x) 4 (argsL := []) (rest := []) (lenOf own_pd7 rfl) rfl rfl (Nat.le_of_eq rfl) (by rw [hml]; rfl) (hb hby d453) rfl (by decide) (by decide) ?_
  rintro _ vm1 h1 C1 ⟨rfl, rfl⟩
  have z1 := C1.2.1
  refine gat (mkF m 4 #[vr x, vr sb, vr kl, vr al] []) rfl ?_
  refine uAN 5 hx hby d454 rfl rfl rfl ?_
  refine ginfo fun _ _ O2 => ?_
  refine gcallS (y := mn280) hx (ow hw 111 rfl) (ow hw 112 rfl) (ow hw 113 rfl) (ow hw 114 rfl) (by decide) (fun hZ H hEL => Pay.of_met (W := 0) (own_copy1 l Z a0 cx [] (kl) (d1) (k1) (s0_) (dz) (el) (ee) (em) (mr) (kd) (ke) vm1 h0 O2 P5 P6 P7 P8 P9 (by first | assumption | decide | omega) P11 (by first | assumption | decide | omega)) (ow hw 114 rfl) (ow hw 113 rfl) (by decide) (by decide) hZ H hEL) 8 (argsL := [(.ref kl)]) (rest := []) (lenOf own_pd278 rfl) rfl rfl (Nat.le_of_eq rfl) (by rw [hml]; rfl) (hb hby d455) rfl (by decide) (by decide) ?_
  rintro _ vm2 h2 C2 ⟨r2, rfl, K2, q2_0, q2_1, q2_2, q2_3⟩
  have z2 := C2.2.1
  have lt_r2 : h2.size > r2 := q2_1.lt
  refine gat (mkF m 8 #[vr x, vr sb, vr kl, vr al] [(.ref r2)]) rfl ?_
  refine gs (mkF m 9 #[vr x, vr sb, vr r2, vr al] []) (fun _ _ A kq => XS.astoreN A hx rfl (hb hby d456) rfl rfl (l' := #[vr x, vr sb, vr r2, vr al]) rfl kq) ?_
  refine uAN 10 hx hby d457 rfl rfl rfl ?_
  have f4 := (P12.keep K2)
  have f5 := (P13.keep K2 nin0)
  have f6 := (P14.keep K2 nin0)
  have f7 := (P15.keep K2 nin0)
  have f8 := (P16.keep K2)
  have f9 := (P18.keep K2)
  refine ginfo fun _ _ O3 => ?_
  refine gcallS (y := mn280) hx (ow hw 111 rfl) (ow hw 112 rfl) (ow hw 113 rfl) (ow hw 114 rfl) (by decide) (fun hZ H hEL => Pay.of_met (W := 0) (own_copy1 l Z a0 cx [] (al) (d2) (k2) (y) (dz) (el) (ee) (em) (mr) (kd) (ke) vm2 h2 O3 f4 f5 f6 f7 f8 (by first | assumption | decide | omega) f9 (by first | assumption | decide | omega)) (ow hw 114 rfl) (ow hw 113 rfl) (by decide) (by decide) hZ H hEL) 13 (argsL := [(.ref al)]) (rest := []) (lenOf own_pd278 rfl) rfl rfl (Nat.le_of_eq rfl) (by rw [hml]; rfl) (hb hby d458) rfl (by decide) (by decide) ?_
  rintro _ vm3 h3 C3 ⟨r3, rfl, K3, q3_0, q3_1, q3_2, q3_3⟩
  have z3 := C3.2.1
  have lt_r3 : h3.size > r3 := q3_1.lt
  refine gat (mkF m 13 #[vr x, vr sb, vr r2, vr al] [(.ref r3)]) rfl ?_
  refine gs (mkF m 14 #[vr x, vr sb, vr r2, vr r3] []) (fun _ _ A kq => XS.astoreN A hx rfl (hb hby d459) rfl rfl (l' := #[vr x, vr sb, vr r2, vr r3]) rfl kq) ?_
  refine uAN 15 hx hby d460 rfl rfl rfl ?_
  refine uAN 16 hx hby d461 rfl rfl rfl ?_
  have f10 := ((P1.keep K2 nin0).keep K3 nin0)
  have f11 := ((P0.keep K2).keep K3)
  refine gputF (host := "") hx (Or.inl (ow hw 150 rfl)) Via.refl f10 f11 (Or.inr ⟨(ow hw 151 rfl), rfl, hnm⟩) (ow hw 97 rfl) (ty := (.object c9_)) (by decide) rfl rfl P4 (fun al => Safe.exa al f11 (by decide) (by decide)) 19 (hb hby d462) rfl ?_
  intro h12 W12 C12
  have z12 := C12.2.1
  have F12 := f10.same W12
  refine uAN 20 hx hby d463 rfl rfl rfl ?_
  refine uAN 21 hx hby d464 rfl rfl rfl ?_
  have f13 := (((P2.keep K2 nin0).keep K3 nin0).other W12 (Or.inr (slot_ne (Or.inr (ow hw 153 rfl)) (Or.inr (ow hw 151 rfl)) (by decide) (t := (.object c16_)) (t' := (.object c9_)) (by decide) (by decide))))
  have f14 := (f11.wr W12)
  refine gputF (host := "") hx (Or.inl (ow hw 152 rfl)) Via.refl f13 f14 (Or.inr ⟨(ow hw 153 rfl), rfl, hnm⟩) (ow hw 97 rfl) (ty := (.object c16_)) (by decide) rfl rfl P4 (fun al => Safe.exa al f14 (by decide) (by decide)) 24 (hb hby d465) rfl ?_
  intro h15 W15 C15
  have z15 := C15.2.1
  have F15 := f13.same W15
  refine uAN 25 hx hby d466 rfl rfl rfl ?_
  refine uAN 26 hx hby d467 rfl rfl rfl ?_
  have f16 := ((((P3.keep K2 nin0).keep K3 nin0).other W12 (Or.inr (slot_ne (Or.inr (ow hw 155 rfl)) (Or.inr (ow hw 151 rfl)) (by decide) (t := (.object c16_)) (t' := (.object c9_)) (by decide) (by decide)))).other W15 (Or.inr (slot_ne (Or.inr (ow hw 155 rfl)) (Or.inr (ow hw 153 rfl)) (by decide) (t := (.object c16_)) (t' := (.object c16_)) (by decide) (by decide))))
  have f17 := (f14.wr W15)
  refine gputF (host := "") hx (Or.inl (ow hw 154 rfl)) Via.refl f16 f17 (Or.inr ⟨(ow hw 155 rfl), rfl, hnm⟩) (ow hw 97 rfl) (ty := (.object c16_)) (by decide) rfl rfl P4 (fun al => Safe.exa al f17 (by decide) (by decide)) 29 (hb hby d468) rfl ?_
  intro h18 W18 C18
  have z18 := C18.2.1
  have F18 := f16.same W18
  have f20 := ((F12.other W15 (Or.inr (slot_ne (Or.inr (ow hw 151 rfl)) (Or.inr (ow hw 153 rfl)) (by decide) (t := (.object c9_)) (t' := (.object c16_)) (by decide) (by decide)))).other W18 (Or.inr (slot_ne (Or.inr (ow hw 151 rfl)) (Or.inr (ow hw 155 rfl)) (by decide) (t := (.object c9_)) (t' := (.object c16_)) (by decide) (by decide))))
  have f21 := (F15.other W18 (Or.inr (slot_ne (Or.inr (ow hw 153 rfl)) (Or.inr (ow hw 155 rfl)) (by decide) (t := (.object c16_)) (t' := (.object c16_)) (by decide) (by decide))))
  have f22 := ((((q2_1.keep K3).wr W12).wr W15).wr W18)
  have f23 := ((((q2_2.keep K3 nin0).other W12 (Or.inl (Nat.ne_of_gt (by omega)))).other W15 (Or.inl (Nat.ne_of_gt (by omega)))).other W18 (Or.inl (Nat.ne_of_gt (by omega))))
  have f24 := ((((q2_3.keep K3 nin0).other W12 (Or.inl (Nat.ne_of_gt (by omega)))).other W15 (Or.inl (Nat.ne_of_gt (by omega)))).other W18 (Or.inl (Nat.ne_of_gt (by omega))))
  have f25 := (((q3_1.wr W12).wr W15).wr W18)
  have f26 := (((q3_2.other W12 (Or.inl (Nat.ne_of_gt (by omega)))).other W15 (Or.inl (Nat.ne_of_gt (by omega)))).other W18 (Or.inl (Nat.ne_of_gt (by omega))))
  have f27 := (((q3_3.other W12 (Or.inl (Nat.ne_of_gt (by omega)))).other W15 (Or.inl (Nat.ne_of_gt (by omega)))).other W18 (Or.inl (Nat.ne_of_gt (by omega))))
  exact gretV hx hret (hb hby d469) (by decide) (by decide) (fun vq Cq => ⟨r2, r3, rfl, ((((((Keep.refl h0 [x]).trans K2 all0).trans K3 all0).wr W12 (Or.inl (List.mem_of_getElem? (i := 0) rfl))).wr W15 (Or.inl (List.mem_of_getElem? (i := 0) rfl))).wr W18 (Or.inl (List.mem_of_getElem? (i := 0) rfl))), f20, f21, F18, f22, f23, f24, f25, f26, f27⟩)
theorem own_relA1 (l : Launch) (Z : State) (a0 : Array Value) (cx : Ctx Z a0) (ws : List Jvm.Cond) (sb : Addr) (tb : Addr) (kl : Addr) (al : Addr) (y : Addr) (d1 : Addr) (k1 : ClassId) (d2 : Addr) (k2 : ClassId) (s0_ : Addr) (dz : Addr) (el : Addr) (ee : Addr) (em : Addr) (mr : Addr) (kd : ClassId) (ke : ClassId) (vm0 : Vm) (h0 : Heap) (X00 : Ext Z.heap h0) (P0 : Str Z h0 sb tb own_rel) (P1 : Lit (Z.setVm vm0) c5_ 40 sb) (P2 : Exa Z h0 kl c11_) (P3 : Fld Z h0 kl c11_ c7_ c3_ (.ref d1)) (P4 : Fld Z h0 kl c11_ "size" "I" (.int (1 : Int32))) (P5 : Arv Z h0 d1 k1 (.object c8_) (10 : Int32) [(.ref s0_), .null, .null, .null, .null, .null, .null, .null, .null, .null] .null) (P6 : Exa Z h0 d1 c3_) (hov : (Ovr Z k1 c8_)) (P8 : Exa Z h0 s0_ c9_) (P9 : Exa Z h0 al c11_) (P10 : Fld Z h0 al c11_ c7_ c3_ (.ref d2)) (P11 : Fld Z h0 al c11_ "size" "I" (.int (1 : Int32))) (P12 : Arv Z h0 d2 k2 (.object c8_) (10 : Int32) [(.ref y), .null, .null, .null, .null, .null, .null, .null, .null, .null] .null) (P13 : Exa Z h0 d2 c3_) (hov2 : (Ovr Z k2 c8_)) (P15 : Exa Z h0 y c9_) (hL : (OwnL Z dz el ee em mr kd ke)) :
    Met l mn479 prog_21_method_4_code 2 (some (.object c6_)) ws ({ frames := 9, cells := 5, slots := 9, locals := 116 } : Room) Z consts_1 vm0 h0 #[(.ref kl), (.ref al)] (fun rv vm h => ∃ (r : Addr), ∃ (r1 : Addr), ∃ (r2 : Addr), rv = some (.ref r) ∧ Keep h0 h [] ∧ Exa Z h r c6_ ∧ Fld Z h r c6_ "source" c1_ (.ref sb) ∧ Fld Z h r c6_ "keys" c2_ (.ref r1) ∧ Fld Z h r c6_ "args" c2_ (.ref r2) ∧ Exa Z h r1 c14_ ∧ Fld Z h r1 c14_ "e0" c0_ (.ref s0_) ∧ Fld Z h r1 c14_ "e1" c0_ (.ref em) ∧ Exa Z h r2 c14_ ∧ Fld Z h r2 c14_ "e0" c0_ (.ref y) ∧ Fld Z h r2 c14_ "e1" c0_ (.ref em)) := by
  obtain ⟨hw, hEL, ⟨zc, Scs, hzc⟩, ⟨fm, Sfm, hfm⟩, hL0⟩ := id cx
  have hSA := own_SA hw
  refine Met.of_walk (a0 := a0) #[vr kl, vr al] (plainFor_of_name own_pn480) X00 hEL (fun m => by first | (simp [entryFrame, mkF, argsToLocals, Value.category]; done) | rfl) ?_
  intro p e s m below meth c vm hx hby hml hret hnm hC0 hW0
  have lt_sb : h0.size > sb := P0.1.lt
  have lt_tb : h0.size > tb := P0.tlt
  have lt_kl : h0.size > kl := P2.lt
  have lt_d1 : h0.size > d1 := P5.lt
  have lt_s0_ : h0.size > s0_ := P8.lt
  have lt_al : h0.size > al := P9.lt
  have lt_d2 : h0.size > d2 := P12.lt
  have lt_y : h0.size > y := P15.lt
  obtain ⟨Sdz, Edz, Vdz, Sel, Eel, Fee, Vee, Fan, Sem, Eem, Mmr, Sas⟩ := id hL
  refine gnewO hx (ow hw 96 rfl) (ow hw 97 rfl) (ow hw 98 rfl) 3 (hb hby d471) rfl (by decide) (by decide) ?_
  intro b1 h1 g1 E1 C1 A1 D1 n1 L1
  have z1 := C1.2.1
  have lt_b1 : h1.size > b1 := A1.lt
  have F1_source : Fld Z h1 b1 c6_ "source" c1_ .null := D1 (Or.inr (ow hw 151 rfl)) (ty := (.object c9_)) (by decide)
  have F1_keys : Fld Z h1 b1 c6_ "keys" c2_ .null := D1 (Or.inr (ow hw 153 rfl)) (ty := (.object c16_)) (by decide)
  have F1_args : Fld Z h1 b1 c6_ "args" c2_ .null := D1 (Or.inr (ow hw 155 rfl)) (ty := (.object c16_)) (by decide)
  refine uD 4 hx hby d472 rfl rfl ?_
  have LT : Lit (Z.setVm vm) c5_ 40 sb := State.resolvedAt?_warmed39 hW0 P1
  refine gldcA hx (ow hw 99 rfl) LT 6 (hb hby d473) rfl ?_
  refine uAN 7 hx hby d474 rfl rfl rfl ?_
  refine uAN 8 hx hby d475 rfl rfl rfl ?_
  have f4 := (P2.ext E1)
  have f5 := (P3.ext E1)
  have f6 := (P4.ext E1)
  have f7 := (P5.ext E1)
  have f8 := (P6.ext E1)
  have f9 := (P8.ext E1)
  have f10 := (P9.ext E1)
  have f11 := (P10.ext E1)
  have f12 := (P11.ext E1)
  have f13 := (P12.ext E1)
  have f14 := (P13.ext E1)
  have f15 := (P15.ext E1)
  refine ginfo fun _ _ O3 => ?_
  refine gcallI (y := mn470) hx rfl (ow hw 102 rfl) (ow hw 103 rfl) (ow hw 104 rfl) (by decide) (fun hZ H hEL => Pay.of_met (W := 1) (own_scA1 l Z a0 cx [] (b1) (sb) (.null) (.null) (.null) (kl) (al) (y) (d1) (k1) (d2) (k2) (s0_) (dz) (el) (ee) (em) (mr) (kd) (ke) vm h1 O3 A1 F1_source F1_keys F1_args n1 f4 f5 f6 f7 f8 (by first | assumption | decide | omega) f9 f10 f11 f12 f13 f14 (by first | assumption | decide | omega) f15 (by first | assumption | decide | omega)) (ow hw 104 rfl) (ow hw 98 rfl) (by decide) (by decide) hZ H hEL) (a := b1) 11 (argsL := [(.ref sb), (.ref kl), (.ref al)]) (rest := [(.ref b1)]) (lenOf own_pd477 rfl) rfl rfl (Nat.le_of_eq rfl) (by rw [hml]; rfl) (hb hby d476) rfl (by decide) (by decide) ?_
  rintro _ vm3 h3 C3 ⟨r13, r23, rfl, K3, q3_0, q3_1, q3_2, q3_3, q3_4, q3_5, q3_6, q3_7, q3_8⟩
  have z3 := C3.2.1
  have lt_r13 : h3.size > r13 := q3_3.lt
  have lt_r23 : h3.size > r23 := q3_6.lt
  refine gat (mkF m 11 #[vr kl, vr al] [(.ref b1)]) rfl ?_
  have f17 := (A1.keep K3)
  exact gretA hx hret rfl rfl (hb hby d478) (by decide) (by decide) (fun vq Cq => ⟨b1, r13, r23, rfl, (((Keep.refl h0 []).ext E1).trans K3 (allS (Or.inr (by omega)) all0)), f17, q3_0, q3_1, q3_2, q3_3, q3_4, q3_5, q3_6, q3_7, q3_8⟩)
theorem own_scE1 (l : Launch) (Z : State) (a0 : Array Value) (cx : Ctx Z a0) (ws : List Jvm.Cond) (x : Addr) (sb : Addr) (u0 : Value) (u1 : Value) (u2 : Value) (kl : Addr) (d1 : Addr) (k1 : ClassId) (s0_ : Addr) (dz : Addr) (el : Addr) (ee : Addr) (em : Addr) (mr : Addr) (kd : ClassId) (ke : ClassId) (vm0 : Vm) (h0 : Heap) (X00 : Ext Z.heap h0) (P0 : Exa Z h0 x c6_) (P1 : Fld Z h0 x c6_ "source" c1_ u0) (P2 : Fld Z h0 x c6_ "keys" c2_ u1) (P3 : Fld Z h0 x c6_ "args" c2_ u2) (P4 : Z.heap.size ≤ x) (P5 : Exa Z h0 kl c11_) (P6 : Fld Z h0 kl c11_ c7_ c3_ (.ref d1)) (P7 : Fld Z h0 kl c11_ "size" "I" (.int (1 : Int32))) (P8 : Arv Z h0 d1 k1 (.object c8_) (10 : Int32) [(.ref s0_), .null, .null, .null, .null, .null, .null, .null, .null, .null] .null) (P9 : Exa Z h0 d1 c3_) (hov : (Ovr Z k1 c8_)) (P11 : Exa Z h0 s0_ c9_) (hL : (OwnL Z dz el ee em mr kd ke)) :
    Met l mn470 prog_31_method_1_code 4 none ws ({ frames := 8, cells := 2, slots := 3, locals := 100 } : Room) Z consts_1 vm0 h0 #[(.ref x), (.ref sb), (.ref kl), (.ref el)] (fun rv vm h => ∃ (r1 : Addr), rv = none ∧ Keep h0 h [x] ∧ Fld Z h x c6_ "source" c1_ (.ref sb) ∧ Fld Z h x c6_ "keys" c2_ (.ref r1) ∧ Fld Z h x c6_ "args" c2_ (.ref el) ∧ Exa Z h r1 c14_ ∧ Fld Z h r1 c14_ "e0" c0_ (.ref s0_) ∧ Fld Z h r1 c14_ "e1" c0_ (.ref em)) := by
  obtain ⟨hw, hEL, ⟨zc, Scs, hzc⟩, ⟨fm, Sfm, hfm⟩, hL0⟩ := id cx
  have hSA := own_SA hw
  refine Met.of_walk (a0 := a0) #[vr x, vr sb, vr kl, vr el] (plainFor_of_name own_pn397) X00 hEL (fun m => by first | (simp [entryFrame, mkF, argsToLocals, Value.category]; done) | rfl) ?_
  intro p e s m below meth c vm hx hby hml hret hnm hC0 hW0
  have lt_x : h0.size > x := P0.lt
  have lt_kl : h0.size > kl := P5.lt
  have lt_d1 : h0.size > d1 := P8.lt
  have lt_s0_ : h0.size > s0_ := P11.lt
  obtain ⟨Sdz, Edz, Vdz, Sel, Eel, Fee, Vee, Fan, Sem, Eem, Mmr, Sas⟩ := id hL
  refine uAN 1 hx hby d452 rfl rfl rfl ?_
  refine ginfo fun _ _ O1 => ?_
  refine gcallI (y := mn391) hx rfl (ow hw 105 rfl) (ow hw 106 rfl) (ow hw 109 rfl) (by decide) (fun hZ H hEL => Pay.of_met (W := 0) (own_record l Z a0 cx [] (x) vm h0 O1 ) (ow hw 109 rfl) (ow hw 108 rfl) (by decide) (by decide) hZ H hEL) (a := x) 4 (argsL := []) (rest := []) (lenOf own_pd7 rfl) rfl rfl (Nat.le_of_eq rfl) (by rw [hml]; rfl) (hb hby d453) rfl (by decide) (by decide) ?_
  rintro _ vm1 h1 C1 ⟨rfl, rfl⟩
  have z1 := C1.2.1
  refine gat (mkF m 4 #[vr x, vr sb, vr kl, vr el] []) rfl ?_
  refine uAN 5 hx hby d454 rfl rfl rfl ?_
  refine ginfo fun _ _ O2 => ?_
  refine gcallS (y := mn280) hx (ow hw 111 rfl) (ow hw 112 rfl) (ow hw 113 rfl) (ow hw 114 rfl) (by decide) (fun hZ H hEL => Pay.of_met (W := 0) (own_copy1 l Z a0 cx [] (kl) (d1) (k1) (s0_) (dz) (el) (ee) (em) (mr) (kd) (ke) vm1 h0 O2 P5 P6 P7 P8 P9 (by first | assumption | decide | omega) P11 (by first | assumption | decide | omega)) (ow hw 114 rfl) (ow hw 113 rfl) (by decide) (by decide) hZ H hEL) 8 (argsL := [(.ref kl)]) (rest := []) (lenOf own_pd278 rfl) rfl rfl (Nat.le_of_eq rfl) (by rw [hml]; rfl) (hb hby d455) rfl (by decide) (by decide) ?_
  rintro _ vm2 h2 C2 ⟨r2, rfl, K2, q2_0, q2_1, q2_2, q2_3⟩
  have z2 := C2.2.1
  have lt_r2 : h2.size > r2 := q2_1.lt
  refine gat (mkF m 8 #[vr x, vr sb, vr kl, vr el] [(.ref r2)]) rfl ?_
  refine gs (mkF m 9 #[vr x, vr sb, vr r2, vr el] []) (fun _ _ A kq => XS.astoreN A hx rfl (hb hby d456) rfl rfl (l' := #[vr x, vr sb, vr r2, vr el]) rfl kq) ?_
  refine uAN 10 hx hby d457 rfl rfl rfl ?_
  refine ginfo fun _ _ O3 => ?_
  refine gcallS (y := mn280) hx (ow hw 111 rfl) (ow hw 112 rfl) (ow hw 113 rfl) (ow hw 114 rfl) (by decide) (fun hZ H hEL => Pay.of_met (W := 0) (own_coE l Z a0 cx [] (dz) (el) (ee) (em) (mr) (kd) (ke) vm2 h2 O3 (by first | assumption | decide | omega)) (ow hw 114 rfl) (ow hw 113 rfl) (by decide) (by decide) hZ H hEL) 13 (argsL := [(.ref el)]) (rest := []) (lenOf own_pd278 rfl) rfl rfl (Nat.le_of_eq rfl) (by rw [hml]; rfl) (hb hby d458) rfl (by decide) (by decide) ?_
  rintro _ vm3 h3 C3 ⟨rfl, rfl⟩
  have z3 := C3.2.1
  refine gat (mkF m 13 #[vr x, vr sb, vr r2, vr el] [(.ref el)]) rfl ?_
  refine gs (mkF m 14 #[vr x, vr sb, vr r2, vr el] []) (fun _ _ A kq => XS.astoreN A hx rfl (hb hby d459) rfl rfl (l' := #[vr x, vr sb, vr r2, vr el]) rfl kq) ?_
  refine uAN 15 hx hby d460 rfl rfl rfl ?_
  refine uAN 16 hx hby d461 rfl rfl rfl ?_
  have f4 := (P1.keep K2 nin0)
  have f5 := (P0.keep K2)
  refine gputF (host := "") hx (Or.inl (ow hw 150 rfl)) Via.refl f4 f5 (Or.inr ⟨(ow hw 151 rfl), rfl, hnm⟩) (ow hw 97 rfl) (ty := (.object c9_)) (by decide) rfl rfl P4 (fun al => Safe.exa al f5 (by decide) (by decide)) 19 (hb hby d462) rfl ?_
  intro h6 W6 C6
  have z6 := C6.2.1
  have F6 := f4.same W6
  refine uAN 20 hx hby d463 rfl rfl rfl ?_
  refine uAN 21 hx hby d464 rfl rfl rfl ?_
  have f7 := ((P2.keep K2 nin0).other W6 (Or.inr (slot_ne (Or.inr (ow hw 153 rfl)) (Or.inr (ow hw 151 rfl)) (by decide) (t := (.object c16_)) (t' := (.object c9_)) (by decide) (by decide))))
  have f8 := (f5.wr W6)
  refine gputF (host := "") hx (Or.inl (ow hw 152 rfl)) Via.refl f7 f8 (Or.inr ⟨(ow hw 153 rfl), rfl, hnm⟩) (ow hw 97 rfl) (ty := (.object c16_)) (by decide) rfl rfl P4 (fun al => Safe.exa al f8 (by decide) (by decide)) 24 (hb hby d465) rfl ?_
  intro h9 W9 C9
  have z9 := C9.2.1
  have F9 := f7.same W9
  refine uAN 25 hx hby d466 rfl rfl rfl ?_
  refine uAN 26 hx hby d467 rfl rfl rfl ?_
  have f10 := (((P3.keep K2 nin0).other W6 (Or.inr (slot_ne (Or.inr (ow hw 155 rfl)) (Or.inr (ow hw 151 rfl)) (by decide) (t := (.object c16_)) (t' := (.object c9_)) (by decide) (by decide)))).other W9 (Or.inr (slot_ne (Or.inr (ow hw 155 rfl)) (Or.inr (ow hw 153 rfl)) (by decide) (t := (.object c16_)) (t' := (.object c16_)) (by decide) (by decide))))
  have f11 := (f8.wr W9)
  refine gputF (host := "") hx (Or.inl (ow hw 154 rfl)) Via.refl f10 f11 (Or.inr ⟨(ow hw 155 rfl), rfl, hnm⟩) (ow hw 97 rfl) (ty := (.object c16_)) (by decide) rfl rfl P4 (fun al => Safe.exa al f11 (by decide) (by decide)) 29 (hb hby d468) rfl ?_
  intro h12 W12 C12
  have z12 := C12.2.1
  have F12 := f10.same W12
  have f14 := ((F6.other W9 (Or.inr (slot_ne (Or.inr (ow hw 151 rfl)) (Or.inr (ow hw 153 rfl)) (by decide) (t := (.object c9_)) (t' := (.object c16_)) (by decide) (by decide)))).other W12 (Or.inr (slot_ne (Or.inr (ow hw 151 rfl)) (Or.inr (ow hw 155 rfl)) (by decide) (t := (.object c9_)) (t' := (.object c16_)) (by decide) (by decide))))
  have f15 := (F9.other W12 (Or.inr (slot_ne (Or.inr (ow hw 153 rfl)) (Or.inr (ow hw 155 rfl)) (by decide) (t := (.object c16_)) (t' := (.object c16_)) (by decide) (by decide))))
  have f16 := (((q2_1.wr W6).wr W9).wr W12)
  have f17 := (((q2_2.other W6 (Or.inl (Nat.ne_of_gt (by omega)))).other W9 (Or.inl (Nat.ne_of_gt (by omega)))).other W12 (Or.inl (Nat.ne_of_gt (by omega))))
  have f18 := (((q2_3.other W6 (Or.inl (Nat.ne_of_gt (by omega)))).other W9 (Or.inl (Nat.ne_of_gt (by omega)))).other W12 (Or.inl (Nat.ne_of_gt (by omega))))
  exact gretV hx hret (hb hby d469) (by decide) (by decide) (fun vq Cq => ⟨r2, rfl, (((((Keep.refl h0 [x]).trans K2 all0).wr W6 (Or.inl (List.mem_of_getElem? (i := 0) rfl))).wr W9 (Or.inl (List.mem_of_getElem? (i := 0) rfl))).wr W12 (Or.inl (List.mem_of_getElem? (i := 0) rfl))), f14, f15, F12, f16, f17, f18⟩)
theorem own_exi1 (l : Launch) (Z : State) (a0 : Array Value) (cx : Ctx Z a0) (ws : List Jvm.Cond) (kl : Addr) (d1 : Addr) (k1 : ClassId) (s0_ : Addr) (dz : Addr) (el : Addr) (ee : Addr) (em : Addr) (mr : Addr) (kd : ClassId) (ke : ClassId) (vm0 : Vm) (h0 : Heap) (X00 : Ext Z.heap h0) (P0 : Exa Z h0 kl c11_) (P1 : Fld Z h0 kl c11_ c7_ c3_ (.ref d1)) (P2 : Fld Z h0 kl c11_ "size" "I" (.int (1 : Int32))) (P3 : Arv Z h0 d1 k1 (.object c8_) (10 : Int32) [(.ref s0_), .null, .null, .null, .null, .null, .null, .null, .null, .null] .null) (P4 : Exa Z h0 d1 c3_) (hov : (Ovr Z k1 c8_)) (P6 : Exa Z h0 s0_ c9_) (hL : (OwnL Z dz el ee em mr kd ke)) :
    Met l mn499 prog_21_method_6_code 1 (some (.object c6_)) ws ({ frames := 9, cells := 5, slots := 614, locals := 116 } : Room) Z consts_1 vm0 h0 #[(.ref kl)] (fun rv vm h => ∃ (r : Addr), ∃ (sb : Addr), ∃ (tb : Addr), ∃ (r1 : Addr), rv = some (.ref r) ∧ Keep h0 h [] ∧ Exa Z h r c6_ ∧ Str Z h sb tb own_exi ∧ Fld Z h r c6_ "source" c1_ (.ref sb) ∧ Fld Z h r c6_ "keys" c2_ (.ref r1) ∧ Fld Z h r c6_ "args" c2_ (.ref el) ∧ Exa Z h r1 c14_ ∧ Fld Z h r1 c14_ "e0" c0_ (.ref s0_) ∧ Fld Z h r1 c14_ "e1" c0_ (.ref em)) := by
  obtain ⟨hw, hEL, ⟨zc, Scs, hzc⟩, ⟨fm, Sfm, hfm⟩, hL0⟩ := id cx
  have hSA := own_SA hw
  refine Met.of_walk (a0 := a0) #[vr kl] (plainFor_of_name own_pn480) X00 hEL (fun m => by first | (simp [entryFrame, mkF, argsToLocals, Value.category]; done) | rfl) ?_
  intro p e s m below meth c vm hx hby hml hret hnm hC0 hW0
  have lt_kl : h0.size > kl := P0.lt
  have lt_d1 : h0.size > d1 := P3.lt
  have lt_s0_ : h0.size > s0_ := P6.lt
  obtain ⟨Sdz, Edz, Vdz, Sel, Eel, Fee, Vee, Fan, Sem, Eem, Mmr, Sas⟩ := id hL
  refine gnewO hx (ow hw 96 rfl) (ow hw 97 rfl) (ow hw 98 rfl) 3 (hb hby d492) rfl (by decide) (by decide) ?_
  intro b1 h1 g1 E1 C1 A1 D1 n1 L1
  have z1 := C1.2.1
  have lt_b1 : h1.size > b1 := A1.lt
  have F1_source : Fld Z h1 b1 c6_ "source" c1_ .null := D1 (Or.inr (ow hw 151 rfl)) (ty := (.object c9_)) (by decide)
  have F1_keys : Fld Z h1 b1 c6_ "keys" c2_ .null := D1 (Or.inr (ow hw 153 rfl)) (ty := (.object c16_)) (by decide)
  have F1_args : Fld Z h1 b1 c6_ "args" c2_ .null := D1 (Or.inr (ow hw 155 rfl)) (ty := (.object c16_)) (by decide)
  refine uD 4 hx hby d493 rfl rfl ?_
  refine gldcR hx (ow hw 160 rfl) hSA (by decide) (n := 604) (by decide) (by decide) (vs := own_exiV) (z := (151 : Int32)) (by decide +kernel) (by decide) (by decide) 6 (hb hby d494) rfl (by decide) (by decide) ?_
  intro b2 t2 k2 vm2 h2 E2 C2 Q2a Q2b Q2c Q2d Q2e
  have z2 := C2.2.1
  have S2 : Str Z h2 b2 t2 own_exi := Str.lit Q2a Q2b Q2c Q2d (by decide) rfl rfl (by decide)
  have lt_b2 : h2.size > b2 := S2.1.lt
  have lt_t2 : h2.size > t2 := S2.tlt
  have f3 := (C2.safe (show h1.size > b1 by omega) L1)
  have ne2_b1 := Q2e b1 f3
  refine uAN 7 hx hby d495 rfl rfl rfl ?_
  refine ginfo fun _ _ O4 => ?_
  refine gcallS (y := mn109) hx (ow hw 161 rfl) (ow hw 135 rfl) (ow hw 113 rfl) (ow hw 136 rfl) (by decide) (fun hZ H hEL => Pay.of_met (W := 4) (own_of0 l Z a0 cx [] (dz) (el) (ee) (em) (mr) (kd) (ke) vm2 h2 O4 (by first | assumption | decide | omega)) (ow hw 136 rfl) (ow hw 113 rfl) (by decide) (by decide) hZ H hEL) 10 (argsL := []) (rest := [(.ref kl), (.ref b2), (.ref b1), (.ref b1)]) (lenOf own_pd273 rfl) rfl rfl (Nat.le_of_eq rfl) (by rw [hml]; rfl) (hb hby d496) rfl (by decide) (by decide) ?_
  rintro _ vm4 h4 C4 ⟨rfl, rfl⟩
  have z4 := C4.2.1
  refine gat (mkF m 10 #[vr kl] [(.ref el), (.ref kl), (.ref b2), (.ref b1), (.ref b1)]) rfl ?_
  have f6 := (A1.ext E2)
  have f7 := (F1_source.ext E2)
  have f8 := (F1_keys.ext E2)
  have f9 := (F1_args.ext E2)
  have f10 := ((P0.ext E1).ext E2)
  have f11 := ((P1.ext E1).ext E2)
  have f12 := ((P2.ext E1).ext E2)
  have f13 := ((P3.ext E1).ext E2)
  have f14 := ((P4.ext E1).ext E2)
  have f15 := ((P6.ext E1).ext E2)
  refine ginfo fun _ _ O5 => ?_
  refine gcallI (y := mn470) hx rfl (ow hw 102 rfl) (ow hw 103 rfl) (ow hw 104 rfl) (by decide) (fun hZ H hEL => Pay.of_met (W := 1) (own_scE1 l Z a0 cx [] (b1) (b2) (.null) (.null) (.null) (kl) (d1) (k1) (s0_) (dz) (el) (ee) (em) (mr) (kd) (ke) vm4 h2 O5 f6 f7 f8 f9 n1 f10 f11 f12 f13 f14 (by first | assumption | decide | omega) f15 (by first | assumption | decide | omega)) (ow hw 104 rfl) (ow hw 98 rfl) (by decide) (by decide) hZ H hEL) (a := b1) 13 (argsL := [(.ref b2), (.ref kl), (.ref el)]) (rest := [(.ref b1)]) (lenOf own_pd477 rfl) rfl rfl (Nat.le_of_eq rfl) (by rw [hml]; rfl) (hb hby d497) rfl (by decide) (by decide) ?_
  rintro _ vm5 h5 C5 ⟨r15, rfl, K5, q5_0, q5_1, q5_2, q5_3, q5_4, q5_5⟩
  have z5 := C5.2.1
  have lt_r15 : h5.size > r15 := q5_3.lt
  refine gat (mkF m 13 #[vr kl] [(.ref b1)]) rfl ?_
  have f17 := (f6.keep K5)
  have f18 := (S2.keep K5 (ninS (Ne.symm ne2_b1.1) nin0) (ninS (Ne.symm ne2_b1.2) nin0))
  exact gretA hx hret rfl rfl (hb hby d498) (by decide) (by decide) (fun vq Cq => ⟨b1, b2, t2, r15, rfl, ((((Keep.refl h0 []).ext E1).ext E2).trans K5 (allS (Or.inr (by omega)) all0)), f17, f18, q5_0, q5_1, q5_2, q5_3, q5_4, q5_5⟩)
theorem own_cplinit2 (l : Launch) (Z : State) (a0 : Array Value) (cx : Ctx Z a0) (ws : List Jvm.Cond) (x : Addr) (y : Addr) (u : Value) (dz : Addr) (el : Addr) (ee : Addr) (em : Addr) (mr : Addr) (kd : ClassId) (ke : ClassId) (vm0 : Vm) (h0 : Heap) (X00 : Ext Z.heap h0) (P0 : Exa Z h0 x c12_) (P1 : Fld Z h0 x c10_ "modCount" "I" (.int (0 : Int32))) (P2 : Fld Z h0 x c12_ "n" "I" (.int (0 : Int32))) (P3 : Fld Z h0 x c12_ "element" c0_ u) (P4 : Z.heap.size ≤ x) (hL : (OwnL Z dz el ee em mr kd ke)) :
    Met l mn426 jdk_2479_method_1_code 3 none ws ({ frames := 3, cells := 0, slots := 0, locals := 36 } : Room) Z consts_1 vm0 h0 #[(.ref x), (.int (2 : Int32)), (.ref y)] (fun rv vm h => rv = none ∧ Keep h0 h [x] ∧ Fld Z h x c12_ "n" "I" (.int (2 : Int32)) ∧ Fld Z h x c12_ "element" c0_ (.ref y)) := by
  obtain ⟨hw, hEL, ⟨zc, Scs, hzc⟩, ⟨fm, Sfm, hfm⟩, hL0⟩ := id cx
  have hSA := own_SA hw
  refine Met.of_walk (a0 := a0) #[vr x, vi (2 : Int32), vr y] (plainFor_of_name own_pn427) X00 hEL (fun m => by first | (simp [entryFrame, mkF, argsToLocals, Value.category]; done) | rfl) ?_
  intro p e s m below meth c vm hx hby hml hret hnm hC0 hW0
  have lt_x : h0.size > x := P0.lt
  obtain ⟨Sdz, Edz, Vdz, Sel, Eel, Fee, Vee, Fan, Sem, Eem, Mmr, Sas⟩ := id hL
  refine uAN 1 hx hby d415 rfl rfl rfl ?_
  refine ginfo fun _ _ O1 => ?_
  refine gcallI (y := mn12) hx rfl (ow hw 84 rfl) (ow hw 41 rfl) (ow hw 45 rfl) (by decide) (fun hZ H hEL => Pay.of_met (W := 0) (own_ablinitC l Z a0 cx [] (x) ((0 : Int32)) (u) vm h0 O1 P0 P1 P4 P2 P3) (ow hw 45 rfl) (ow hw 44 rfl) (by decide) (by decide) hZ H hEL) (a := x) 4 (argsL := []) (rest := []) (lenOf own_pd7 rfl) rfl rfl (Nat.le_of_eq rfl) (by rw [hml]; rfl) (hb hby d416) rfl (by decide) (by decide) ?_
  rintro _ vm1 h1 C1 ⟨rfl, K1, q1_0, q1_1, q1_2⟩
  have z1 := C1.2.1
  refine gat (mkF m 4 #[vr x, vi (2 : Int32), vr y] []) rfl ?_
  refine ggetS (host := "") hx (Or.inl (ow hw 88 rfl)) Via.refl Sas 7 (hb hby d417) rfl ?_
  refine gs (mkF m 22 #[vr x, vi (2 : Int32), vr y] []) (fun _ _ A kq => XS.ifYes A hx rfl (pc0 := 7) (pc' := 22) rfl (hb hby d418) rfl ((if0 _ _).trans (feq (by decide)).2) (by decide) (by decide) kq) ?_
  refine uAN 23 hx hby d419 rfl rfl rfl ?_
  refine uIN 24 hx hby d420 rfl rfl ?_
  have f2 := (P0.keep K1)
  refine gputF (host := "") hx (Or.inl (ow hw 89 rfl)) Via.refl q1_1 f2 (Or.inr ⟨(ow hw 90 rfl), rfl, hnm⟩) (ow hw 78 rfl) (ty := .int) (by decide) rfl rfl P4 (fun al => Safe.exa al f2 (by decide) (by decide)) 27 (hb hby d421) rfl ?_
  intro h3 W3 C3
  have z3 := C3.2.1
  have F3 := q1_1.same W3
  refine uAN 28 hx hby d422 rfl rfl rfl ?_
  refine uAN 29 hx hby d423 rfl rfl rfl ?_
  have f4 := (q1_2.other W3 (Or.inr (slot_ne (Or.inr (ow hw 92 rfl)) (Or.inr (ow hw 90 rfl)) (by decide) (t := (.object c8_)) (t' := .int) (by decide) (by decide))))
  have f5 := (f2.wr W3)
  refine gputF (host := "") hx (Or.inl (ow hw 91 rfl)) Via.refl f4 f5 (Or.inr ⟨(ow hw 92 rfl), rfl, hnm⟩) (ow hw 78 rfl) (ty := (.object c8_)) (by decide) rfl rfl P4 (fun al => Safe.exa al f5 (by decide) (by decide)) 32 (hb hby d424) rfl ?_
  intro h6 W6 C6
  have z6 := C6.2.1
  have F6 := f4.same W6
  have f8 := (F3.other W6 (Or.inr (slot_ne (Or.inr (ow hw 90 rfl)) (Or.inr (ow hw 92 rfl)) (by decide) (t := .int) (t' := (.object c8_)) (by decide) (by decide))))
  exact gretV hx hret (hb hby d425) (by decide) (by decide) (fun vq Cq => ⟨rfl, ((((Keep.refl h0 [x]).trans K1 (allS (Or.inl (List.mem_of_getElem? (i := 0) rfl)) all0)).wr W3 (Or.inl (List.mem_of_getElem? (i := 0) rfl))).wr W6 (Or.inl (List.mem_of_getElem? (i := 0) rfl))), f8, F6⟩)
theorem own_ncopies2 (l : Launch) (Z : State) (a0 : Array Value) (cx : Ctx Z a0) (ws : List Jvm.Cond) (y : Addr) (dz : Addr) (el : Addr) (ee : Addr) (em : Addr) (mr : Addr) (kd : ClassId) (ke : ClassId) (vm0 : Vm) (h0 : Heap) (X00 : Ext Z.heap h0) (hL : (OwnL Z dz el ee em mr kd ke)) :
    Met l mn437 jdk_79_method_76_code 2 (some (.object c16_)) ws ({ frames := 4, cells := 1, slots := 3, locals := 51 } : Room) Z consts_1 vm0 h0 #[(.int (2 : Int32)), (.ref y)] (fun rv vm h => ∃ (x : Addr), rv = some (.ref x) ∧ Keep h0 h [] ∧ h0.size ≤ x ∧ Exa Z h x c12_ ∧ Fld Z h x c12_ "n" "I" (.int (2 : Int32)) ∧ Fld Z h x c12_ "element" c0_ (.ref y)) := by
  obtain ⟨hw, hEL, ⟨zc, Scs, hzc⟩, ⟨fm, Sfm, hfm⟩, hL0⟩ := id cx
  have hSA := own_SA hw
  refine Met.of_walk (a0 := a0) #[vi (2 : Int32), vr y] (plainFor_of_name own_pn438) X00 hEL (fun m => by first | (simp [entryFrame, mkF, argsToLocals, Value.category]; done) | rfl) ?_
  intro p e s m below meth c vm hx hby hml hret hnm hC0 hW0
  obtain ⟨Sdz, Edz, Vdz, Sel, Eel, Fee, Vee, Fan, Sem, Eem, Mmr, Sas⟩ := id hL
  refine uIN 1 hx hby d428 rfl rfl ?_
  refine gs (mkF m 32 #[vi (2 : Int32), vr y] []) (fun _ _ A kq => XS.ifYes A hx rfl (pc0 := 1) (pc' := 32) rfl (hb hby d429) rfl ((if0 _ _).trans (flt (by decide)).2.1) (by decide) (by decide) kq) ?_
  refine gnewO hx (ow hw 77 rfl) (ow hw 78 rfl) (ow hw 79 rfl) 35 (hb hby d430) rfl (by decide) (by decide) ?_
  intro b1 h1 g1 E1 C1 A1 D1 n1 L1
  have z1 := C1.2.1
  have lt_b1 : h1.size > b1 := A1.lt
  have F1_modCount : Fld Z h1 b1 c10_ "modCount" "I" (.int (0 : Int32)) := D1 (Or.inl (ow hw 87 rfl)) (ty := .int) (by decide)
  have F1_n : Fld Z h1 b1 c12_ "n" "I" (.int (0 : Int32)) := D1 (Or.inr (ow hw 90 rfl)) (ty := .int) (by decide)
  have F1_element : Fld Z h1 b1 c12_ "element" c0_ .null := D1 (Or.inr (ow hw 92 rfl)) (ty := (.object c8_)) (by decide)
  refine uD 36 hx hby d431 rfl rfl ?_
  refine uIN 37 hx hby d432 rfl rfl ?_
  refine uAN 38 hx hby d433 rfl rfl rfl ?_
  refine ginfo fun _ _ O2 => ?_
  refine gcallI (y := mn426) hx rfl (ow hw 80 rfl) (ow hw 81 rfl) (ow hw 83 rfl) (by decide) (fun hZ H hEL => Pay.of_met (W := 1) (own_cplinit2 l Z a0 cx [] (b1) (y) (.null) (dz) (el) (ee) (em) (mr) (kd) (ke) vm h1 O2 A1 F1_modCount F1_n F1_element n1 (by first | assumption | decide | omega)) (ow hw 83 rfl) (ow hw 79 rfl) (by decide) (by decide) hZ H hEL) (a := b1) 41 (argsL := [(.int (2 : Int32)), (.ref y)]) (rest := [(.ref b1)]) (lenOf own_pd435 rfl) rfl rfl (Nat.le_of_eq rfl) (by rw [hml]; rfl) (hb hby d434) rfl (by decide) (by decide) ?_
  rintro _ vm2 h2 C2 ⟨rfl, K2, q2_0, q2_1⟩
  have z2 := C2.2.1
  refine gat (mkF m 41 #[vi (2 : Int32), vr y] [(.ref b1)]) rfl ?_
  have f4 := (A1.keep K2)
  exact gretA hx hret rfl rfl (hb hby d436) (by decide) (by decide) (fun vq Cq => ⟨b1, rfl, (((Keep.refl h0 []).ext E1).trans K2 (allS (Or.inr (by omega)) all0)), (by omega), f4, q2_0, q2_1⟩)
theorem own_cplsize2 (l : Launch) (Z : State) (a0 : Array Value) (cx : Ctx Z a0) (ws : List Jvm.Cond) (x : Addr) (vm0 : Vm) (h0 : Heap) (X00 : Ext Z.heap h0) (P0 : Fld Z h0 x c12_ "n" "I" (.int (2 : Int32))) :
    Met l mn442 jdk_2479_method_2_code 1 (some .int) ws ({ frames := 0, cells := 0, slots := 0, locals := 0 } : Room) Z consts_1 vm0 h0 #[(.ref x)] (fun rv vm h => rv = some (.int (2 : Int32)) ∧ h0 = h) := by
  obtain ⟨hw, hEL, ⟨zc, Scs, hzc⟩, ⟨fm, Sfm, hfm⟩, hL0⟩ := id cx
  have hSA := own_SA hw
  refine Met.of_walk (a0 := a0) #[vr x] (plainFor_of_name own_pn427) X00 hEL (fun m => by first | (simp [entryFrame, mkF, argsToLocals, Value.category]; done) | rfl) ?_
  intro p e s m below meth c vm hx hby hml hret hnm hC0 hW0
  have lt_x : h0.size > x := P0.lt
  refine uAN 1 hx hby d439 rfl rfl rfl ?_
  refine ggetF (host := "") hx (Or.inl (ow hw 89 rfl)) Via.refl P0 4 (hb hby d440) rfl ?_
  exact gretI hx hret (hb hby d441) (by decide) (by decide) (fun vq Cq => ⟨rfl, rfl⟩)
theorem own_cplempty2 (l : Launch) (Z : State) (a0 : Array Value) (cx : Ctx Z a0) (ws : List Jvm.Cond) (x : Addr) (vm0 : Vm) (h0 : Heap) (X00 : Ext Z.heap h0) (P0 : Exa Z h0 x c12_) (P1 : Fld Z h0 x c12_ "n" "I" (.int (2 : Int32))) :
    Met l mn451 jdk_22_method_4_code 1 (some .boolean) ws ({ frames := 1, cells := 0, slots := 0, locals := 12 } : Room) Z consts_1 vm0 h0 #[(.ref x)] (fun rv vm h => rv = some (.int (0 : Int32)) ∧ h0 = h) := by
  obtain ⟨hw, hEL, ⟨zc, Scs, hzc⟩, ⟨fm, Sfm, hfm⟩, hL0⟩ := id cx
  have hSA := own_SA hw
  refine Met.of_walk (a0 := a0) #[vr x] (plainFor_of_name own_pn4) X00 hEL (fun m => by first | (simp [entryFrame, mkF, argsToLocals, Value.category]; done) | rfl) ?_
  intro p e s m below meth c vm hx hby hml hret hnm hC0 hW0
  have lt_x : h0.size > x := P0.lt
  refine uAN 1 hx hby d443 rfl rfl rfl ?_
  refine ginfo fun _ _ O1 => ?_
  refine gcallV (y := mn446) (z := mn442) hx (ow hw 145 rfl) (ow hw 146 rfl) (nfSup (ow hw 122 rfl)) (ow hw 147 rfl) (ow hw 148 rfl) (by decide) (fun hZ H hEL => Pay.of_met (W := 0) (own_cplsize2 l Z a0 cx [] (x) vm h0 O1 P1) (ow hw 149 rfl) (ow hw 79 rfl) (by decide) (by decide) hZ H hEL) 4 (argsL := []) (rest := []) P0 (lenOf own_pd445 rfl) rfl rfl (Nat.le_of_eq rfl) (by rw [hml]; rfl) (hb hby d444) rfl (by decide) (by decide) ?_
  rintro _ vm1 h1 C1 ⟨rfl, rfl⟩
  have z1 := C1.2.1
  refine gat (mkF m 4 #[vr x] [(.int (2 : Int32))]) rfl ?_
  refine gs (mkF m 11 #[vr x] []) (fun _ _ A kq => XS.ifYes A hx rfl (pc0 := 4) (pc' := 11) rfl (hb hby d447) rfl ((if0 _ _).trans (feq (by decide)).2) (by decide) (by decide) kq) ?_
  refine gs (mkF m 12 #[vr x] [(.int (0 : Int32))]) (fun _ _ A kq => XS.iconst A hx rfl (hb hby d500) kq) ?_
  exact gretN (t := .boolean) hx hret (by simp) (hb hby d450) (by decide) (by decide) (fun vq Cq => ⟨rfl, rfl⟩)
theorem own_rc2 (l : Launch) (Z : State) (a0 : Array Value) (cx : Ctx Z a0) (ws : List Jvm.Cond)  (vm0 : Vm) (h0 : Heap) (X00 : Ext Z.heap h0)  :
    Met l mn510 jdk_65_method_30_code 3 none ws ({ frames := 0, cells := 0, slots := 0, locals := 0 } : Room) Z consts_1 vm0 h0 #[(.int (2 : Int32)), (.int (0 : Int32)), (.int (2 : Int32))] (fun rv vm h => rv = none ∧ h0 = h) := by
  obtain ⟨hw, hEL, ⟨zc, Scs, hzc⟩, ⟨fm, Sfm, hfm⟩, hL0⟩ := id cx
  have hSA := own_SA hw
  refine Met.of_walk (a0 := a0) #[vi (2 : Int32), vi (0 : Int32), vi (2 : Int32)] (plainFor_of_name own_pn189) X00 hEL (fun m => by first | (simp [entryFrame, mkF, argsToLocals, Value.category]; done) | rfl) ?_
  intro p e s m below meth c vm hx hby hml hret hnm hC0 hW0
  refine uIN 1 hx hby d501 rfl rfl ?_
  refine uIN 2 hx hby d502 rfl rfl ?_
  refine gs (mkF m 46 #[vi (2 : Int32), vi (0 : Int32), vi (2 : Int32)] []) (fun _ _ A kq => XS.icmpYes A hx rfl (pc0 := 2) (pc' := 46) rfl (hb hby d503) rfl (flt (by decide)).2.2.2 (by decide) (by decide) kq) ?_
  refine uIN 47 hx hby d504 rfl rfl ?_
  refine gs (mkF m 59 #[vi (2 : Int32), vi (0 : Int32), vi (2 : Int32)] []) (fun _ _ A kq => XS.ifYes A hx rfl (pc0 := 47) (pc' := 59) rfl (hb hby d505) rfl ((if0 _ _).trans (flt (by decide)).2.1) (by decide) (by decide) kq) ?_
  refine uIN 60 hx hby d506 rfl rfl ?_
  refine uIN 61 hx hby d507 rfl rfl ?_
  refine gs (mkF m 73 #[vi (2 : Int32), vi (0 : Int32), vi (2 : Int32)] []) (fun _ _ A kq => XS.icmpYes A hx rfl (pc0 := 61) (pc' := 73) rfl (hb hby d508) rfl (flt (by decide)).2.2.2 (by decide) (by decide) kq) ?_
  exact gretV hx hret (hb hby d509) (by decide) (by decide) (fun vq Cq => ⟨rfl, rfl⟩)
theorem own_fill2 (l : Launch) (Z : State) (a0 : Array Value) (cx : Ctx Z a0) (ws : List Jvm.Cond) (a : Addr) (ka : ClassId) (y : Addr) (vm0 : Vm) (h0 : Heap) (X00 : Ext Z.heap h0) (P0 : Arv Z h0 a ka (.object c8_) (2 : Int32) [.null, .null] .null) (P1 : Z.heap.size ≤ a) (P2 : Exa Z h0 y c9_) (hov : (Ovr Z ka c8_)) :
    Met l mn529 jdk_65_method_118_code 5 none ws ({ frames := 1, cells := 0, slots := 0, locals := 14 } : Room) Z consts_1 vm0 h0 #[(.ref a), (.int (0 : Int32)), (.int (2 : Int32)), (.ref y)] (fun rv vm h => rv = none ∧ Keep h0 h [a] ∧ Arv Z h a ka (.object c8_) (2 : Int32) [(.ref y), (.ref y)] .null) := by
  obtain ⟨hw, hEL, ⟨zc, Scs, hzc⟩, ⟨fm, Sfm, hfm⟩, hL0⟩ := id cx
  have hSA := own_SA hw
  refine Met.of_walk (a0 := a0) #[vr a, vi (0 : Int32), vi (2 : Int32), vr y, un] (plainFor_of_name own_pn189) X00 hEL (fun m => by first | (simp [entryFrame, mkF, argsToLocals, Value.category]; done) | rfl) ?_
  intro p e s m below meth c vm hx hby hml hret hnm hC0 hW0
  have lt_a : h0.size > a := P0.lt
  have lt_y : h0.size > y := P2.lt
  refine uAN 1 hx hby d511 rfl rfl rfl ?_
  refine glen hx P0 2 (hb hby d512) rfl ?_
  refine uIN 3 hx hby d513 rfl rfl ?_
  refine uIN 4 hx hby d514 rfl rfl ?_
  refine ginfo fun _ _ O1 => ?_
  refine gcallS (y := mn510) hx (ow hw 305 rfl) (ow hw 306 rfl) (ow hw 246 rfl) (ow hw 307 rfl) (by decide) (fun hZ H hEL => Pay.of_met (W := 0) (own_rc2 l Z a0 cx []  vm h0 O1 ) (ow hw 307 rfl) (ow hw 246 rfl) (by decide) (by decide) hZ H hEL) 7 (argsL := [(.int (2 : Int32)), (.int (0 : Int32)), (.int (2 : Int32))]) (rest := []) (lenOf own_pd516 rfl) rfl rfl (Nat.le_of_eq rfl) (by rw [hml]; rfl) (hb hby d515) rfl (by decide) (by decide) ?_
  rintro _ vm1 h1 C1 ⟨rfl, rfl⟩
  have z1 := C1.2.1
  refine gat (mkF m 7 #[vr a, vi (0 : Int32), vi (2 : Int32), vr y, un] []) rfl ?_
  refine uIN 8 hx hby d517 rfl rfl ?_
  refine gs (mkF m 10 #[vr a, vi (0 : Int32), vi (2 : Int32), vr y, vi (0 : Int32)] []) (fun _ _ A kq => XS.istore A hx rfl (hb hby d518) rfl (l' := #[vr a, vi (0 : Int32), vi (2 : Int32), vr y, vi (0 : Int32)]) rfl kq) ?_
  refine uI 12 hx hby d519 rfl rfl ?_
  refine uIN 13 hx hby d520 rfl rfl ?_
  refine gs (mkF m 16 #[vr a, vi (0 : Int32), vi (2 : Int32), vr y, vi (0 : Int32)] []) (fun _ _ A kq => XS.icmpNo A hx rfl (hb hby d521) rfl (tlt (by decide)).2.1 kq) ?_
  refine uAN 17 hx hby d522 rfl rfl rfl ?_
  refine uI 19 hx hby d523 rfl rfl ?_
  refine uAN 20 hx hby d524 rfl rfl rfl ?_
  refine gstR hx P0 ⟨by decide, by decide⟩ (i := 0) rfl (Nat.le_of_ble_eq_true rfl) (Arv.sto P0 hov (Ins.of_exa P2 (ow hw 235 rfl))) rfl P1 21 (hb hby d525) rfl ?_
  intro h2 W2 C2 V2
  have z2 := C2.2.1
  replace V2 : Arv Z h2 a ka (.object c8_) (2 : Int32) [(.ref y), .null] .null := V2
  refine gs (mkF m 24 #[vr a, vi (0 : Int32), vi (2 : Int32), vr y, vi (1 : Int32)] []) (fun _ _ A kq => XS.iinc A hx rfl (hb hby d526) rfl (l' := #[vr a, vi (0 : Int32), vi (2 : Int32), vr y, vi (1 : Int32)]) rfl kq) ?_
  refine uG 10 hx hby d527 (by decide) (by decide) ?_
  refine uI 12 hx hby d519 rfl rfl ?_
  refine uIN 13 hx hby d520 rfl rfl ?_
  refine gs (mkF m 16 #[vr a, vi (0 : Int32), vi (2 : Int32), vr y, vi (1 : Int32)] []) (fun _ _ A kq => XS.icmpNo A hx rfl (hb hby d521) rfl (tlt (by decide)).2.1 kq) ?_
  refine uAN 17 hx hby d522 rfl rfl rfl ?_
  refine uI 19 hx hby d523 rfl rfl ?_
  refine uAN 20 hx hby d524 rfl rfl rfl ?_
  have f4 := (P2.wr W2)
  refine gstR hx V2 ⟨by decide, by decide⟩ (i := 1) rfl (Nat.le_of_ble_eq_true rfl) (Arv.sto V2 hov (Ins.of_exa f4 (ow hw 235 rfl))) rfl P1 21 (hb hby d525) rfl ?_
  intro h3 W3 C3 V3
  have z3 := C3.2.1
  replace V3 : Arv Z h3 a ka (.object c8_) (2 : Int32) [(.ref y), (.ref y)] .null := V3
  refine gs (mkF m 24 #[vr a, vi (0 : Int32), vi (2 : Int32), vr y, vi (2 : Int32)] []) (fun _ _ A kq => XS.iinc A hx rfl (hb hby d526) rfl (l' := #[vr a, vi (0 : Int32), vi (2 : Int32), vr y, vi (2 : Int32)]) rfl kq) ?_
  refine uG 10 hx hby d527 (by decide) (by decide) ?_
  refine uI 12 hx hby d519 rfl rfl ?_
  refine uIN 13 hx hby d520 rfl rfl ?_
  refine gs (mkF m 27 #[vr a, vi (0 : Int32), vi (2 : Int32), vr y, vi (2 : Int32)] []) (fun _ _ A kq => XS.icmpYes A hx rfl (pc0 := 13) (pc' := 27) rfl (hb hby d521) rfl (flt (by decide)).2.1 (by decide) (by decide) kq) ?_
  exact gretV hx hret (hb hby d528) (by decide) (by decide) (fun vq Cq => ⟨rfl, (((Keep.refl h0 [a]).wr W2 (Or.inl (List.mem_of_getElem? (i := 0) rfl))).wr W3 (Or.inl (List.mem_of_getElem? (i := 0) rfl))), V3⟩)
theorem own_cpltoarr2 (l : Launch) (Z : State) (a0 : Array Value) (cx : Ctx Z a0) (ws : List Jvm.Cond) (x : Addr) (y : Addr) (dz : Addr) (el : Addr) (ee : Addr) (em : Addr) (mr : Addr) (kd : ClassId) (ke : ClassId) (vm0 : Vm) (h0 : Heap) (X00 : Ext Z.heap h0) (P0 : Exa Z h0 x c12_) (P1 : Fld Z h0 x c12_ "n" "I" (.int (2 : Int32))) (P2 : Fld Z h0 x c12_ "element" c0_ (.ref y)) (P3 : Exa Z h0 y c9_) (hL : (OwnL Z dz el ee em mr kd ke)) :
    Met l mn547 jdk_2479_method_8_code 2 (some (.array (.object c8_))) ws ({ frames := 2, cells := 1, slots := 2, locals := 30 } : Room) Z consts_1 vm0 h0 #[(.ref x)] (fun rv vm h => ∃ (a : Addr), ∃ (ka : ClassId), rv = some (.ref a) ∧ Keep h0 h [] ∧ h0.size ≤ a ∧ Arv Z h a ka (.object c8_) (2 : Int32) [(.ref y), (.ref y)] .null) := by
  obtain ⟨hw, hEL, ⟨zc, Scs, hzc⟩, ⟨fm, Sfm, hfm⟩, hL0⟩ := id cx
  have hSA := own_SA hw
  refine Met.of_walk (a0 := a0) #[vr x, un] (plainFor_of_name own_pn427) X00 hEL (fun m => by first | (simp [entryFrame, mkF, argsToLocals, Value.category]; done) | rfl) ?_
  intro p e s m below meth c vm hx hby hml hret hnm hC0 hW0
  have lt_x : h0.size > x := P0.lt
  have lt_y : h0.size > y := P3.lt
  obtain ⟨Sdz, Edz, Vdz, Sel, Eel, Fee, Vee, Fan, Sem, Eem, Mmr, Sas⟩ := id hL
  refine uAN 1 hx hby d530 rfl rfl rfl ?_
  refine ggetF (host := "") hx (Or.inl (ow hw 89 rfl)) Via.refl P1 4 (hb hby d531) rfl ?_
  refine gnewR hx (ow hw 301 rfl) (ow hw 234 rfl) (n := (2 : Int32)) (by decide) (cap := 2) (by decide) (by decide) (ad := c3_) (by decide) 7 (hb hby d532) rfl (by decide) (by decide) ?_
  intro b1 h1 k1 g1 E1 C1 V1 A1 O1 n1 L1
  have z1 := C1.2.1
  have V1 : Arv Z h1 b1 k1 (.object c8_) (2 : Int32) [.null, .null] .null := V1.pad (pad_rep [] .null 2)
  have lt_b1 : h1.size > b1 := V1.lt
  refine gs (mkF m 8 #[vr x, vr b1] []) (fun _ _ A kq => XS.astoreN A hx rfl (hb hby d533) rfl rfl (l' := #[vr x, vr b1]) rfl kq) ?_
  refine uAN 9 hx hby d534 rfl rfl rfl ?_
  have f2 := (P2.ext E1)
  refine ggetF (host := "") hx (Or.inl (ow hw 91 rfl)) Via.refl f2 12 (hb hby d535) rfl ?_
  refine gs (mkF m 15 #[vr x, vr b1] []) (fun _ _ A kq => XS.ifnullNo A hx rfl (hb hby d536) rfl kq) ?_
  refine uAN 16 hx hby d537 rfl rfl rfl ?_
  refine gs (mkF m 17 #[vr x, vr b1] [(.int (0 : Int32)), (.ref b1)]) (fun _ _ A kq => XS.iconst A hx rfl (hb hby d538) kq) ?_
  refine uAN 18 hx hby d539 rfl rfl rfl ?_
  have f3 := (P1.ext E1)
  refine ggetF (host := "") hx (Or.inl (ow hw 89 rfl)) Via.refl f3 21 (hb hby d540) rfl ?_
  refine uAN 22 hx hby d541 rfl rfl rfl ?_
  refine ggetF (host := "") hx (Or.inl (ow hw 91 rfl)) Via.refl f2 25 (hb hby d542) rfl ?_
  have f5 := (P3.ext E1)
  refine ginfo fun _ _ O4 => ?_
  refine gcallS (y := mn529) hx (ow hw 302 rfl) (ow hw 303 rfl) (ow hw 246 rfl) (ow hw 304 rfl) (by decide) (fun hZ H hEL => Pay.of_met (W := 0) (own_fill2 l Z a0 cx [] (b1) (k1) (y) vm h1 O4 V1 n1 f5 (by first | assumption | decide | omega)) (ow hw 304 rfl) (ow hw 246 rfl) (by decide) (by decide) hZ H hEL) 28 (argsL := [(.ref b1), (.int (0 : Int32)), (.int (2 : Int32)), (.ref y)]) (rest := []) (lenOf own_pd544 rfl) rfl rfl (Nat.le_of_eq rfl) (by rw [hml]; rfl) (hb hby d543) rfl (by decide) (by decide) ?_
  rintro _ vm4 h4 C4 ⟨rfl, K4, q4_0⟩
  have z4 := C4.2.1
  refine gat (mkF m 28 #[vr x, vr b1] []) rfl ?_
  refine uAN 29 hx hby d545 rfl rfl rfl ?_
  exact gretA hx hret rfl rfl (hb hby d546) (by decide) (by decide) (fun vq Cq => ⟨b1, k1, rfl, (((Keep.refl h0 []).ext E1).trans K4 (allS (Or.inr (by omega)) all0)), (by omega), q4_0⟩)
theorem own_lcC2 (l : Launch) (Z : State) (a0 : Array Value) (cx : Ctx Z a0) (ws : List Jvm.Cond) (x : Addr) (y : Addr) (dz : Addr) (el : Addr) (ee : Addr) (em : Addr) (mr : Addr) (kd : ClassId) (ke : ClassId) (vm0 : Vm) (h0 : Heap) (X00 : Ext Z.heap h0) (P0 : Exa Z h0 x c12_) (P1 : Fld Z h0 x c12_ "n" "I" (.int (2 : Int32))) (P2 : Fld Z h0 x c12_ "element" c0_ (.ref y)) (P3 : Exa Z h0 y c9_) (hL : (OwnL Z dz el ee em mr kd ke)) :
    Met l mn275 jdk_56_method_3_code 2 (some (.object c16_)) ws ({ frames := 6, cells := 2, slots := 4, locals := 76 } : Room) Z consts_1 vm0 h0 #[(.ref x)] (fun rv vm h => ∃ (r : Addr), rv = some (.ref r) ∧ Keep h0 h [] ∧ h0.size ≤ r ∧ Exa Z h r c14_ ∧ Fld Z h r c14_ "e0" c0_ (.ref y) ∧ Fld Z h r c14_ "e1" c0_ (.ref y)) := by
  obtain ⟨hw, hEL, ⟨zc, Scs, hzc⟩, ⟨fm, Sfm, hfm⟩, hL0⟩ := id cx
  have hSA := own_SA hw
  refine Met.of_walk (a0 := a0) #[vr x, un] (plainFor_of_name own_pn256) X00 hEL (fun m => by first | (simp [entryFrame, mkF, argsToLocals, Value.category]; done) | rfl) ?_
  intro p e s m below meth c vm hx hby hml hret hnm hC0 hW0
  have lt_x : h0.size > x := P0.lt
  have lt_y : h0.size > y := P3.lt
  obtain ⟨Sdz, Edz, Vdz, Sel, Eel, Fee, Vee, Fan, Sem, Eem, Mmr, Sas⟩ := id hL
  refine uAN 1 hx hby d261 rfl rfl rfl ?_
  refine ginstN hx (ow hw 119 rfl) P0 (NSno (ow hw 138 rfl) (ow hw 317 rfl) (NS.step (ow hw 138 rfl) (NS.step (ow hw 121 rfl) (NS.step (ow hw 122 rfl) (NSroot (ow hw 123 rfl) (ow hw 317 rfl) (by decide)) (by decide)) (by decide)) (by decide)) (by decide)) 4 (hb hby d262) rfl ?_
  refine gs (mkF m 7 #[vr x, un] []) (fun _ _ A kq => XS.ifNo A hx rfl (hb hby d263) rfl ((if0 _ _).trans (teq (by decide)).2) kq) ?_
  refine uAN 8 hx hby d264 rfl rfl rfl ?_
  refine ginstN hx (ow hw 124 rfl) P0 (NSno (ow hw 138 rfl) (ow hw 277 rfl) (NS.step (ow hw 138 rfl) (NS.step (ow hw 121 rfl) (NS.step (ow hw 122 rfl) (NSroot (ow hw 123 rfl) (ow hw 277 rfl) (by decide)) (by decide)) (by decide)) (by decide)) (by decide)) 11 (hb hby d265) rfl ?_
  refine gs (mkF m 31 #[vr x, un] []) (fun _ _ A kq => XS.ifYes A hx rfl (pc0 := 11) (pc' := 31) rfl (hb hby d266) rfl ((if0 _ _).trans (teq (by decide)).1) (by decide) (by decide) kq) ?_
  refine uAN 32 hx hby d267 rfl rfl rfl ?_
  refine ginfo fun _ _ O1 => ?_
  refine gcallF (xi := mn270) (y := mn451) hx (ow hw 125 rfl) (ow hw 126 rfl) (fun _ _ hU => mvT hU (ow hw 127 rfl)) (ow hw 139 rfl) (ow hw 140 rfl) (ow hw 141 rfl) (ow hw 142 rfl) (ow hw 143 rfl) (by decide) (fun hZ H hEL => Pay.of_met (W := 0) (own_cplempty2 l Z a0 cx [] (x) vm h0 O1 P0 P1) (ow hw 144 rfl) (ow hw 50 rfl) (by decide) (by decide) hZ H hEL) 37 (argsL := []) (rest := []) P0 (lenOf own_pd269 rfl) rfl rfl (Nat.le_of_eq rfl) (by rw [hml]; rfl) (hb hby d268) rfl (by decide) (by decide) ?_
  rintro _ vm1 h1 C1 ⟨rfl, rfl⟩
  have z1 := C1.2.1
  refine gat (mkF m 37 #[vr x, un] [(.int (0 : Int32))]) rfl ?_
  refine gs (mkF m 44 #[vr x, un] []) (fun _ _ A kq => XS.ifYes A hx rfl (pc0 := 37) (pc' := 44) rfl (hb hby d271) rfl ((if0 _ _).trans (teq (by decide)).1) (by decide) (by decide) kq) ?_
  refine uAN 45 hx hby d286 rfl rfl rfl ?_
  refine ginfo fun _ _ O2 => ?_
  refine gcallF (xi := mn288) (y := mn547) hx (ow hw 236 rfl) (ow hw 237 rfl) (fun _ _ hU => mvT hU (ow hw 238 rfl)) (ow hw 296 rfl) (ow hw 297 rfl) (ow hw 298 rfl) (ow hw 299 rfl) (ow hw 143 rfl) (by decide) (fun hZ H hEL => Pay.of_met (W := 0) (own_cpltoarr2 l Z a0 cx [] (x) (y) (dz) (el) (ee) (em) (mr) (kd) (ke) vm1 h0 O2 P0 P1 P2 P3 (by first | assumption | decide | omega)) (ow hw 300 rfl) (ow hw 79 rfl) (by decide) (by decide) hZ H hEL) 50 (argsL := []) (rest := []) P0 (lenOf own_pd65 rfl) rfl rfl (Nat.le_of_eq rfl) (by rw [hml]; rfl) (hb hby d287) rfl (by decide) (by decide) ?_
  rintro _ vm2 h2 C2 ⟨a2, ka2, rfl, K2, q2_0, q2_1⟩
  have z2 := C2.2.1
  have lt_a2 : h2.size > a2 := q2_1.lt
  refine gat (mkF m 50 #[vr x, un] [(.ref a2)]) rfl ?_
  have f4 := (P3.keep K2)
  refine ginfo fun _ _ O3 => ?_
  refine gcallS (y := mn217) hx (ow hw 266 rfl) (ow hw 267 rfl) (ow hw 113 rfl) (ow hw 268 rfl) (by decide) (fun hZ H hEL => Pay.of_met (W := 0) (own_of2 l Z a0 cx [] (a2) (ka2) (y) (y) (dz) (el) (ee) (em) (mr) (kd) (ke) vm2 h2 O3 q2_1 f4 f4 (by first | assumption | decide | omega)) (ow hw 268 rfl) (ow hw 113 rfl) (by decide) (by decide) hZ H hEL) 53 (argsL := [(.ref a2)]) (rest := []) (lenOf own_pd259 rfl) rfl rfl (Nat.le_of_eq rfl) (by rw [hml]; rfl) (hb hby d289) rfl (by decide) (by decide) ?_
  rintro _ vm3 h3 C3 ⟨r3, rfl, K3, q3_0, q3_1, q3_2, q3_3⟩
  have z3 := C3.2.1
  have lt_r3 : h3.size > r3 := q3_1.lt
  refine gat (mkF m 53 #[vr x, un] [(.ref r3)]) rfl ?_
  exact gretA hx hret rfl rfl (hb hby d290) (by decide) (by decide) (fun vq Cq => ⟨r3, rfl, (((Keep.refl h0 []).trans K2 all0).trans K3 all0), (by omega), q3_1, q3_2, q3_3⟩)
theorem own_coC2 (l : Launch) (Z : State) (a0 : Array Value) (cx : Ctx Z a0) (ws : List Jvm.Cond) (x : Addr) (y : Addr) (dz : Addr) (el : Addr) (ee : Addr) (em : Addr) (mr : Addr) (kd : ClassId) (ke : ClassId) (vm0 : Vm) (h0 : Heap) (X00 : Ext Z.heap h0) (P0 : Exa Z h0 x c12_) (P1 : Fld Z h0 x c12_ "n" "I" (.int (2 : Int32))) (P2 : Fld Z h0 x c12_ "element" c0_ (.ref y)) (P3 : Exa Z h0 y c9_) (hL : (OwnL Z dz el ee em mr kd ke)) :
    Met l mn280 jdk_40_method_48_code 1 (some (.object c16_)) ws ({ frames := 7, cells := 2, slots := 4, locals := 89 } : Room) Z consts_1 vm0 h0 #[(.ref x)] (fun rv vm h => ∃ (r : Addr), rv = some (.ref r) ∧ Keep h0 h [] ∧ h0.size ≤ r ∧ Exa Z h r c14_ ∧ Fld Z h r c14_ "e0" c0_ (.ref y) ∧ Fld Z h r c14_ "e1" c0_ (.ref y)) := by
  obtain ⟨hw, hEL, ⟨zc, Scs, hzc⟩, ⟨fm, Sfm, hfm⟩, hL0⟩ := id cx
  have hSA := own_SA hw
  refine Met.of_walk (a0 := a0) #[vr x] (plainFor_of_name own_pn110) X00 hEL (fun m => by first | (simp [entryFrame, mkF, argsToLocals, Value.category]; done) | rfl) ?_
  intro p e s m below meth c vm hx hby hml hret hnm hC0 hW0
  have lt_x : h0.size > x := P0.lt
  have lt_y : h0.size > y := P3.lt
  obtain ⟨Sdz, Edz, Vdz, Sel, Eel, Fee, Vee, Fan, Sem, Eem, Mmr, Sas⟩ := id hL
  refine uAN 1 hx hby d276 rfl rfl rfl ?_
  refine ginfo fun _ _ O1 => ?_
  refine gcallS (y := mn275) hx (ow hw 115 rfl) (ow hw 116 rfl) (ow hw 117 rfl) (ow hw 118 rfl) (by decide) (fun hZ H hEL => Pay.of_met (W := 0) (own_lcC2 l Z a0 cx [] (x) (y) (dz) (el) (ee) (em) (mr) (kd) (ke) vm h0 O1 P0 P1 P2 P3 (by first | assumption | decide | omega)) (ow hw 118 rfl) (ow hw 117 rfl) (by decide) (by decide) hZ H hEL) 4 (argsL := [(.ref x)]) (rest := []) (lenOf own_pd278 rfl) rfl rfl (Nat.le_of_eq rfl) (by rw [hml]; rfl) (hb hby d277) rfl (by decide) (by decide) ?_
  rintro _ vm1 h1 C1 ⟨r1, rfl, K1, q1_0, q1_1, q1_2, q1_3⟩
  have z1 := C1.2.1
  have lt_r1 : h1.size > r1 := q1_1.lt
  refine gat (mkF m 4 #[vr x] [(.ref r1)]) rfl ?_
  exact gretA hx hret rfl rfl (hb hby d279) (by decide) (by decide) (fun vq Cq => ⟨r1, rfl, ((Keep.refl h0 []).trans K1 all0), (by omega), q1_1, q1_2, q1_3⟩)
theorem own_scC2 (l : Launch) (Z : State) (a0 : Array Value) (cx : Ctx Z a0) (ws : List Jvm.Cond) (x : Addr) (sb : Addr) (u0 : Value) (u1 : Value) (u2 : Value) (kl : Addr) (al : Addr) (y : Addr) (d1 : Addr) (k1 : ClassId) (s0_ : Addr) (s1_ : Addr) (dz : Addr) (el : Addr) (ee : Addr) (em : Addr) (mr : Addr) (kd : ClassId) (ke : ClassId) (vm0 : Vm) (h0 : Heap) (X00 : Ext Z.heap h0) (P0 : Exa Z h0 x c6_) (P1 : Fld Z h0 x c6_ "source" c1_ u0) (P2 : Fld Z h0 x c6_ "keys" c2_ u1) (P3 : Fld Z h0 x c6_ "args" c2_ u2) (P4 : Z.heap.size ≤ x) (P5 : Exa Z h0 kl c11_) (P6 : Fld Z h0 kl c11_ c7_ c3_ (.ref d1)) (P7 : Fld Z h0 kl c11_ "size" "I" (.int (2 : Int32))) (P8 : Arv Z h0 d1 k1 (.object c8_) (10 : Int32) [(.ref s0_), (.ref s1_), .null, .null, .null, .null, .null, .null, .null, .null] .null) (P9 : Exa Z h0 d1 c3_) (hov : (Ovr Z k1 c8_)) (P11 : Exa Z h0 s0_ c9_) (P12 : Exa Z h0 s1_ c9_) (P13 : Exa Z h0 al c12_) (P14 : Fld Z h0 al c12_ "n" "I" (.int (2 : Int32))) (P15 : Fld Z h0 al c12_ "element" c0_ (.ref y)) (P16 : Exa Z h0 y c9_) (hL : (OwnL Z dz el ee em mr kd ke)) :
    Met l mn470 prog_31_method_1_code 4 none ws ({ frames := 8, cells := 4, slots := 8, locals := 101 } : Room) Z consts_1 vm0 h0 #[(.ref x), (.ref sb), (.ref kl), (.ref al)] (fun rv vm h => ∃ (r1 : Addr), ∃ (r2 : Addr), rv = none ∧ Keep h0 h [x] ∧ Fld Z h x c6_ "source" c1_ (.ref sb) ∧ Fld Z h x c6_ "keys" c2_ (.ref r1) ∧ Fld Z h x c6_ "args" c2_ (.ref r2) ∧ Exa Z h r1 c14_ ∧ Fld Z h r1 c14_ "e0" c0_ (.ref s0_) ∧ Fld Z h r1 c14_ "e1" c0_ (.ref s1_) ∧ Exa Z h r2 c14_ ∧ Fld Z h r2 c14_ "e0" c0_ (.ref y) ∧ Fld Z h r2 c14_ "e1" c0_ (.ref y)) := by
  obtain ⟨hw, hEL, ⟨zc, Scs, hzc⟩, ⟨fm, Sfm, hfm⟩, hL0⟩ := id cx
  have hSA := own_SA hw
  refine Met.of_walk (a0 := a0) #[vr x, vr sb, vr kl, vr al] (plainFor_of_name own_pn397) X00 hEL (fun m => by first | (simp [entryFrame, mkF, argsToLocals, Value.category]; done) | rfl) ?_
  intro p e s m below meth c vm hx hby hml hret hnm hC0 hW0
  have lt_x : h0.size > x := P0.lt
  have lt_kl : h0.size > kl := P5.lt
  have lt_d1 : h0.size > d1 := P8.lt
  have lt_s0_ : h0.size > s0_ := P11.lt
  have lt_s1_ : h0.size > s1_ := P12.lt
  have lt_al : h0.size > al := P13.lt
  have lt_y : h0.size > y := P16.lt
  obtain ⟨Sdz, Edz, Vdz, Sel, Eel, Fee, Vee, Fan, Sem, Eem, Mmr, Sas⟩ := id hL
  refine uAN 1 hx hby d452 rfl rfl rfl ?_
  refine ginfo fun _ _ O1 => ?_
  refine gcallI (y := mn391) hx rfl (ow hw 105 rfl) (ow hw 106 rfl) (ow hw 109 rfl) (by decide) (fun hZ H hEL => Pay.of_met (W := 0) (own_record l Z a0 cx [] (x) vm h0 O1 ) (ow hw 109 rfl) (ow hw 108 rfl) (by decide) (by decide) hZ H hEL) (a := x) 4 (argsL := []) (rest := []) (lenOf own_pd7 rfl) rfl rfl (Nat.le_of_eq rfl) (by rw [hml]; rfl) (hb hby d453) rfl (by decide) (by decide) ?_
  rintro _ vm1 h1 C1 ⟨rfl, rfl⟩
  have z1 := C1.2.1
  refine gat (mkF m 4 #[vr x, vr sb, vr kl, vr al] []) rfl ?_
  refine uAN 5 hx hby d454 rfl rfl rfl ?_
  refine ginfo fun _ _ O2 => ?_
  refine gcallS (y := mn280) hx (ow hw 111 rfl) (ow hw 112 rfl) (ow hw 113 rfl) (ow hw 114 rfl) (by decide) (fun hZ H hEL => Pay.of_met (W := 0) (own_copy2 l Z a0 cx [] (kl) (d1) (k1) (s0_) (s1_) (dz) (el) (ee) (em) (mr) (kd) (ke) vm1 h0 O2 P5 P6 P7 P8 P9 (by first | assumption | decide | omega) P11 P12 (by first | assumption | decide | omega)) (ow hw 114 rfl) (ow hw 113 rfl) (by decide) (by decide) hZ H hEL) 8 (argsL := [(.ref kl)]) (rest := []) (lenOf own_pd278 rfl) rfl rfl (Nat.le_of_eq rfl) (by rw [hml]; rfl) (hb hby d455) rfl (by decide) (by decide) ?_
  rintro _ vm2 h2 C2 ⟨r2, rfl, K2, q2_0, q2_1, q2_2, q2_3⟩
  have z2 := C2.2.1
  have lt_r2 : h2.size > r2 := q2_1.lt
  refine gat (mkF m 8 #[vr x, vr sb, vr kl, vr al] [(.ref r2)]) rfl ?_
  refine gs (mkF m 9 #[vr x, vr sb, vr r2, vr al] []) (fun _ _ A kq => XS.astoreN A hx rfl (hb hby d456) rfl rfl (l' := #[vr x, vr sb, vr r2, vr al]) rfl kq) ?_
  refine uAN 10 hx hby d457 rfl rfl rfl ?_
  have f4 := (P13.keep K2)
  have f5 := (P14.keep K2 nin0)
  have f6 := (P15.keep K2 nin0)
  have f7 := (P16.keep K2)
  refine ginfo fun _ _ O3 => ?_
  refine gcallS (y := mn280) hx (ow hw 111 rfl) (ow hw 112 rfl) (ow hw 113 rfl) (ow hw 114 rfl) (by decide) (fun hZ H hEL => Pay.of_met (W := 0) (own_coC2 l Z a0 cx [] (al) (y) (dz) (el) (ee) (em) (mr) (kd) (ke) vm2 h2 O3 f4 f5 f6 f7 (by first | assumption | decide | omega)) (ow hw 114 rfl) (ow hw 113 rfl) (by decide) (by decide) hZ H hEL) 13 (argsL := [(.ref al)]) (rest := []) (lenOf own_pd278 rfl) rfl rfl (Nat.le_of_eq rfl) (by rw [hml]; rfl) (hb hby d458) rfl (by decide) (by decide) ?_
  rintro _ vm3 h3 C3 ⟨r3, rfl, K3, q3_0, q3_1, q3_2, q3_3⟩
  have z3 := C3.2.1
  have lt_r3 : h3.size > r3 := q3_1.lt
  refine gat (mkF m 13 #[vr x, vr sb, vr r2, vr al] [(.ref r3)]) rfl ?_
  refine gs (mkF m 14 #[vr x, vr sb, vr r2, vr r3] []) (fun _ _ A kq => XS.astoreN A hx rfl (hb hby d459) rfl rfl (l' := #[vr x, vr sb, vr r2, vr r3]) rfl kq) ?_
  refine uAN 15 hx hby d460 rfl rfl rfl ?_
  refine uAN 16 hx hby d461 rfl rfl rfl ?_
  have f8 := ((P1.keep K2 nin0).keep K3 nin0)
  have f9 := ((P0.keep K2).keep K3)
  refine gputF (host := "") hx (Or.inl (ow hw 150 rfl)) Via.refl f8 f9 (Or.inr ⟨(ow hw 151 rfl), rfl, hnm⟩) (ow hw 97 rfl) (ty := (.object c9_)) (by decide) rfl rfl P4 (fun al => Safe.exa al f9 (by decide) (by decide)) 19 (hb hby d462) rfl ?_
  intro h10 W10 C10
  have z10 := C10.2.1
  have F10 := f8.same W10
  refine uAN 20 hx hby d463 rfl rfl rfl ?_
  refine uAN 21 hx hby d464 rfl rfl rfl ?_
  have f11 := (((P2.keep K2 nin0).keep K3 nin0).other W10 (Or.inr (slot_ne (Or.inr (ow hw 153 rfl)) (Or.inr (ow hw 151 rfl)) (by decide) (t := (.object c16_)) (t' := (.object c9_)) (by decide) (by decide))))
  have f12 := (f9.wr W10)
  refine gputF (host := "") hx (Or.inl (ow hw 152 rfl)) Via.refl f11 f12 (Or.inr ⟨(ow hw 153 rfl), rfl, hnm⟩) (ow hw 97 rfl) (ty := (.object c16_)) (by decide) rfl rfl P4 (fun al => Safe.exa al f12 (by decide) (by decide)) 24 (hb hby d465) rfl ?_
  intro h13 W13 C13
  have z13 := C13.2.1
  have F13 := f11.same W13
  refine uAN 25 hx hby d466 rfl rfl rfl ?_
  refine uAN 26 hx hby d467 rfl rfl rfl ?_
  have f14 := ((((P3.keep K2 nin0).keep K3 nin0).other W10 (Or.inr (slot_ne (Or.inr (ow hw 155 rfl)) (Or.inr (ow hw 151 rfl)) (by decide) (t := (.object c16_)) (t' := (.object c9_)) (by decide) (by decide)))).other W13 (Or.inr (slot_ne (Or.inr (ow hw 155 rfl)) (Or.inr (ow hw 153 rfl)) (by decide) (t := (.object c16_)) (t' := (.object c16_)) (by decide) (by decide))))
  have f15 := (f12.wr W13)
  refine gputF (host := "") hx (Or.inl (ow hw 154 rfl)) Via.refl f14 f15 (Or.inr ⟨(ow hw 155 rfl), rfl, hnm⟩) (ow hw 97 rfl) (ty := (.object c16_)) (by decide) rfl rfl P4 (fun al => Safe.exa al f15 (by decide) (by decide)) 29 (hb hby d468) rfl ?_
  intro h16 W16 C16
  have z16 := C16.2.1
  have F16 := f14.same W16
  have f18 := ((F10.other W13 (Or.inr (slot_ne (Or.inr (ow hw 151 rfl)) (Or.inr (ow hw 153 rfl)) (by decide) (t := (.object c9_)) (t' := (.object c16_)) (by decide) (by decide)))).other W16 (Or.inr (slot_ne (Or.inr (ow hw 151 rfl)) (Or.inr (ow hw 155 rfl)) (by decide) (t := (.object c9_)) (t' := (.object c16_)) (by decide) (by decide))))
  have f19 := (F13.other W16 (Or.inr (slot_ne (Or.inr (ow hw 153 rfl)) (Or.inr (ow hw 155 rfl)) (by decide) (t := (.object c16_)) (t' := (.object c16_)) (by decide) (by decide))))
  have f20 := ((((q2_1.keep K3).wr W10).wr W13).wr W16)
  have f21 := ((((q2_2.keep K3 nin0).other W10 (Or.inl (Nat.ne_of_gt (by omega)))).other W13 (Or.inl (Nat.ne_of_gt (by omega)))).other W16 (Or.inl (Nat.ne_of_gt (by omega))))
  have f22 := ((((q2_3.keep K3 nin0).other W10 (Or.inl (Nat.ne_of_gt (by omega)))).other W13 (Or.inl (Nat.ne_of_gt (by omega)))).other W16 (Or.inl (Nat.ne_of_gt (by omega))))
  have f23 := (((q3_1.wr W10).wr W13).wr W16)
  have f24 := (((q3_2.other W10 (Or.inl (Nat.ne_of_gt (by omega)))).other W13 (Or.inl (Nat.ne_of_gt (by omega)))).other W16 (Or.inl (Nat.ne_of_gt (by omega))))
  have f25 := (((q3_3.other W10 (Or.inl (Nat.ne_of_gt (by omega)))).other W13 (Or.inl (Nat.ne_of_gt (by omega)))).other W16 (Or.inl (Nat.ne_of_gt (by omega))))
  exact gretV hx hret (hb hby d469) (by decide) (by decide) (fun vq Cq => ⟨r2, r3, rfl, ((((((Keep.refl h0 [x]).trans K2 all0).trans K3 all0).wr W10 (Or.inl (List.mem_of_getElem? (i := 0) rfl))).wr W13 (Or.inl (List.mem_of_getElem? (i := 0) rfl))).wr W16 (Or.inl (List.mem_of_getElem? (i := 0) rfl))), f18, f19, F16, f20, f21, f22, f23, f24, f25⟩)
theorem own_relC2 (l : Launch) (Z : State) (a0 : Array Value) (cx : Ctx Z a0) (ws : List Jvm.Cond) (kl : Addr) (al : Addr) (y : Addr) (d1 : Addr) (k1 : ClassId) (s0_ : Addr) (s1_ : Addr) (dz : Addr) (el : Addr) (ee : Addr) (em : Addr) (mr : Addr) (kd : ClassId) (ke : ClassId) (vm0 : Vm) (h0 : Heap) (X00 : Ext Z.heap h0) (P0 : Exa Z h0 kl c11_) (P1 : Fld Z h0 kl c11_ c7_ c3_ (.ref d1)) (P2 : Fld Z h0 kl c11_ "size" "I" (.int (2 : Int32))) (P3 : Arv Z h0 d1 k1 (.object c8_) (10 : Int32) [(.ref s0_), (.ref s1_), .null, .null, .null, .null, .null, .null, .null, .null] .null) (P4 : Exa Z h0 d1 c3_) (hov : (Ovr Z k1 c8_)) (P6 : Exa Z h0 s0_ c9_) (P7 : Exa Z h0 s1_ c9_) (P8 : Exa Z h0 al c12_) (P9 : Fld Z h0 al c12_ "n" "I" (.int (2 : Int32))) (P10 : Fld Z h0 al c12_ "element" c0_ (.ref y)) (P11 : Exa Z h0 y c9_) (hL : (OwnL Z dz el ee em mr kd ke)) :
    Met l mn479 prog_21_method_4_code 2 (some (.object c6_)) ws ({ frames := 9, cells := 7, slots := 839, locals := 117 } : Room) Z consts_1 vm0 h0 #[(.ref kl), (.ref al)] (fun rv vm h => ∃ (r : Addr), ∃ (sb : Addr), ∃ (tb : Addr), ∃ (r1 : Addr), ∃ (r2 : Addr), rv = some (.ref r) ∧ Keep h0 h [] ∧ Exa Z h r c6_ ∧ Str Z h sb tb own_rel ∧ Fld Z h r c6_ "source" c1_ (.ref sb) ∧ Fld Z h r c6_ "keys" c2_ (.ref r1) ∧ Fld Z h r c6_ "args" c2_ (.ref r2) ∧ Exa Z h r1 c14_ ∧ Fld Z h r1 c14_ "e0" c0_ (.ref s0_) ∧ Fld Z h r1 c14_ "e1" c0_ (.ref s1_) ∧ Exa Z h r2 c14_ ∧ Fld Z h r2 c14_ "e0" c0_ (.ref y) ∧ Fld Z h r2 c14_ "e1" c0_ (.ref y) ∧ Lit (Z.setVm vm) c5_ 40 sb) := by
  obtain ⟨hw, hEL, ⟨zc, Scs, hzc⟩, ⟨fm, Sfm, hfm⟩, hL0⟩ := id cx
  have hSA := own_SA hw
  refine Met.of_walk (a0 := a0) #[vr kl, vr al] (plainFor_of_name own_pn480) X00 hEL (fun m => by first | (simp [entryFrame, mkF, argsToLocals, Value.category]; done) | rfl) ?_
  intro p e s m below meth c vm hx hby hml hret hnm hC0 hW0
  have lt_kl : h0.size > kl := P0.lt
  have lt_d1 : h0.size > d1 := P3.lt
  have lt_s0_ : h0.size > s0_ := P6.lt
  have lt_s1_ : h0.size > s1_ := P7.lt
  have lt_al : h0.size > al := P8.lt
  have lt_y : h0.size > y := P11.lt
  obtain ⟨Sdz, Edz, Vdz, Sel, Eel, Fee, Vee, Fan, Sem, Eem, Mmr, Sas⟩ := id hL
  refine gnewO hx (ow hw 96 rfl) (ow hw 97 rfl) (ow hw 98 rfl) 3 (hb hby d471) rfl (by decide) (by decide) ?_
  intro b1 h1 g1 E1 C1 A1 D1 n1 L1
  have z1 := C1.2.1
  have lt_b1 : h1.size > b1 := A1.lt
  have F1_source : Fld Z h1 b1 c6_ "source" c1_ .null := D1 (Or.inr (ow hw 151 rfl)) (ty := (.object c9_)) (by decide)
  have F1_keys : Fld Z h1 b1 c6_ "keys" c2_ .null := D1 (Or.inr (ow hw 153 rfl)) (ty := (.object c16_)) (by decide)
  have F1_args : Fld Z h1 b1 c6_ "args" c2_ .null := D1 (Or.inr (ow hw 155 rfl)) (ty := (.object c16_)) (by decide)
  refine uD 4 hx hby d472 rfl rfl ?_
  refine gldcL hx (ow hw 99 rfl) hSA (by decide) (n := 824) (by decide) (by decide) (vs := own_relV) (z := (206 : Int32)) (by decide +kernel) (by decide) (by decide) 6 (hb hby d473) rfl (by decide) (by decide) ?_
  intro b2 t2 k2 vm2 h2 E2 C2 Q2a Q2b Q2c Q2d Q2e FL2
  have z2 := C2.2.1
  have S2 : Str Z h2 b2 t2 own_rel := Str.lit Q2a Q2b Q2c Q2d (by decide) rfl rfl (by decide)
  have lt_b2 : h2.size > b2 := S2.1.lt
  have lt_t2 : h2.size > t2 := S2.tlt
  have f3 := (C2.safe (show h1.size > b1 by omega) L1)
  have ne2_b1 := Q2e b1 f3
  refine uAN 7 hx hby d474 rfl rfl rfl ?_
  refine uAN 8 hx hby d475 rfl rfl rfl ?_
  have f5 := (A1.ext E2)
  have f6 := (F1_source.ext E2)
  have f7 := (F1_keys.ext E2)
  have f8 := (F1_args.ext E2)
  have f9 := ((P0.ext E1).ext E2)
  have f10 := ((P1.ext E1).ext E2)
  have f11 := ((P2.ext E1).ext E2)
  have f12 := ((P3.ext E1).ext E2)
  have f13 := ((P4.ext E1).ext E2)
  have f14 := ((P6.ext E1).ext E2)
  have f15 := ((P7.ext E1).ext E2)
  have f16 := ((P8.ext E1).ext E2)
  have f17 := ((P9.ext E1).ext E2)
  have f18 := ((P10.ext E1).ext E2)
  have f19 := ((P11.ext E1).ext E2)
  refine ginfo fun _ _ O4 => ?_
  refine gcallIW (y := mn470) hx rfl (ow hw 102 rfl) (ow hw 103 rfl) (ow hw 104 rfl) (by decide) (fun hZ H hEL => Pay.of_met (W := 1) (own_scC2 l Z a0 cx [] (b1) (b2) (.null) (.null) (.null) (kl) (al) (y) (d1) (k1) (s0_) (s1_) (dz) (el) (ee) (em) (mr) (kd) (ke) vm2 h2 O4 f5 f6 f7 f8 n1 f9 f10 f11 f12 f13 (by first | assumption | decide | omega) f14 f15 f16 f17 f18 f19 (by first | assumption | decide | omega)) (ow hw 104 rfl) (ow hw 98 rfl) (by decide) (by decide) hZ H hEL) (a := b1) 11 (argsL := [(.ref b2), (.ref kl), (.ref al)]) (rest := [(.ref b1)]) (lenOf own_pd477 rfl) rfl rfl (Nat.le_of_eq rfl) (by rw [hml]; rfl) (hb hby d476) rfl (by decide) (by decide) ?_
  rintro _ vm4 h4 WM4 C4 ⟨r14, r24, rfl, K4, q4_0, q4_1, q4_2, q4_3, q4_4, q4_5, q4_6, q4_7, q4_8⟩
  have z4 := C4.2.1
  have lt_r14 : h4.size > r14 := q4_3.lt
  have lt_r24 : h4.size > r24 := q4_6.lt
  refine gat (mkF m 11 #[vr kl, vr al] [(.ref b1)]) rfl ?_
  have f21 := (f5.keep K4)
  have f22 := (S2.keep K4 (ninS (Ne.symm ne2_b1.1) nin0) (ninS (Ne.symm ne2_b1.2) nin0))
  exact gretAW hx hret rfl rfl (hb hby d478) (by decide) (by decide) (fun vq Wq Cq => ⟨b1, b2, t2, r14, r24, rfl, ((((Keep.refl h0 []).ext E1).ext E2).trans K4 (allS (Or.inr (by omega)) all0)), f21, f22, q4_0, q4_1, q4_2, q4_3, q4_4, q4_5, q4_6, q4_7, q4_8, (State.resolvedAt?_warmed39 Wq (State.resolvedAt?_warmed39 WM4 FL2))⟩)
theorem own_rel1_2 (l : Launch) (Z : State) (a0 : Array Value) (cx : Ctx Z a0) (ws : List Jvm.Cond) (kl : Addr) (y : Addr) (d1 : Addr) (k1 : ClassId) (s0_ : Addr) (s1_ : Addr) (dz : Addr) (el : Addr) (ee : Addr) (em : Addr) (mr : Addr) (kd : ClassId) (ke : ClassId) (vm0 : Vm) (h0 : Heap) (X00 : Ext Z.heap h0) (P0 : Exa Z h0 kl c11_) (P1 : Fld Z h0 kl c11_ c7_ c3_ (.ref d1)) (P2 : Fld Z h0 kl c11_ "size" "I" (.int (2 : Int32))) (P3 : Arv Z h0 d1 k1 (.object c8_) (10 : Int32) [(.ref s0_), (.ref s1_), .null, .null, .null, .null, .null, .null, .null, .null] .null) (P4 : Exa Z h0 d1 c3_) (hov : (Ovr Z k1 c8_)) (P6 : Exa Z h0 s0_ c9_) (P7 : Exa Z h0 s1_ c9_) (P8 : Exa Z h0 y c9_) (hL : (OwnL Z dz el ee em mr kd ke)) :
    Met l mn491 prog_21_method_3_code 2 (some (.object c6_)) ws ({ frames := 10, cells := 8, slots := 842, locals := 130 } : Room) Z consts_1 vm0 h0 #[(.ref kl), (.ref y)] (fun rv vm h => ∃ (r : Addr), ∃ (sb : Addr), ∃ (tb : Addr), ∃ (r1 : Addr), ∃ (r2 : Addr), rv = some (.ref r) ∧ Keep h0 h [] ∧ Exa Z h r c6_ ∧ Str Z h sb tb own_rel ∧ Fld Z h r c6_ "source" c1_ (.ref sb) ∧ Fld Z h r c6_ "keys" c2_ (.ref r1) ∧ Fld Z h r c6_ "args" c2_ (.ref r2) ∧ Exa Z h r1 c14_ ∧ Fld Z h r1 c14_ "e0" c0_ (.ref s0_) ∧ Fld Z h r1 c14_ "e1" c0_ (.ref s1_) ∧ Exa Z h r2 c14_ ∧ Fld Z h r2 c14_ "e0" c0_ (.ref y) ∧ Fld Z h r2 c14_ "e1" c0_ (.ref y) ∧ Lit (Z.setVm vm) c5_ 40 sb) := by
  obtain ⟨hw, hEL, ⟨zc, Scs, hzc⟩, ⟨fm, Sfm, hfm⟩, hL0⟩ := id cx
  have hSA := own_SA hw
  refine Met.of_walk (a0 := a0) #[vr kl, vr y] (plainFor_of_name own_pn480) X00 hEL (fun m => by first | (simp [entryFrame, mkF, argsToLocals, Value.category]; done) | rfl) ?_
  intro p e s m below meth c vm hx hby hml hret hnm hC0 hW0
  have lt_kl : h0.size > kl := P0.lt
  have lt_d1 : h0.size > d1 := P3.lt
  have lt_s0_ : h0.size > s0_ := P6.lt
  have lt_s1_ : h0.size > s1_ := P7.lt
  have lt_y : h0.size > y := P8.lt
  obtain ⟨Sdz, Edz, Vdz, Sel, Eel, Fee, Vee, Fan, Sem, Eem, Mmr, Sas⟩ := id hL
  refine uAN 1 hx hby d481 rfl rfl rfl ?_
  refine uAN 2 hx hby d482 rfl rfl rfl ?_
  refine ginfo fun _ _ O1 => ?_
  refine gcallF (xi := mn484) (y := mn98) hx (ow hw 62 rfl) (ow hw 63 rfl) (fun _ _ hU => mvT hU (ow hw 64 rfl)) (ow hw 65 rfl) (ow hw 66 rfl) (ow hw 67 rfl) (ow hw 68 rfl) (ow hw 69 rfl) (by decide) (fun hZ H hEL => Pay.of_met (W := 1) (own_alsize l Z a0 cx [] (kl) ((2 : Int32)) vm h0 O1 P2) (ow hw 70 rfl) (ow hw 36 rfl) (by decide) (by decide) hZ H hEL) 7 (argsL := []) (rest := [(.ref kl)]) P0 (lenOf own_pd445 rfl) rfl rfl (Nat.le_of_eq rfl) (by rw [hml]; rfl) (hb hby d483) rfl (by decide) (by decide) ?_
  rintro _ vm1 h1 C1 ⟨rfl, rfl⟩
  have z1 := C1.2.1
  refine gat (mkF m 7 #[vr kl, vr y] [(.int (2 : Int32)), (.ref kl)]) rfl ?_
  refine uAN 8 hx hby d485 rfl rfl rfl ?_
  refine ginfo fun _ _ O2 => ?_
  refine gcallS (y := mn437) hx (ow hw 73 rfl) (ow hw 74 rfl) (ow hw 75 rfl) (ow hw 76 rfl) (by decide) (fun hZ H hEL => Pay.of_met (W := 1) (own_ncopies2 l Z a0 cx [] (y) (dz) (el) (ee) (em) (mr) (kd) (ke) vm1 h0 O2 (by first | assumption | decide | omega)) (ow hw 76 rfl) (ow hw 75 rfl) (by decide) (by decide) hZ H hEL) 11 (argsL := [(.int (2 : Int32)), (.ref y)]) (rest := [(.ref kl)]) (lenOf own_pd487 rfl) rfl rfl (Nat.le_of_eq rfl) (by rw [hml]; rfl) (hb hby d486) rfl (by decide) (by decide) ?_
  rintro _ vm2 h2 C2 ⟨x2, rfl, K2, q2_0, q2_1, q2_2, q2_3⟩
  have z2 := C2.2.1
  have lt_x2 : h2.size > x2 := q2_1.lt
  refine gat (mkF m 11 #[vr kl, vr y] [(.ref x2), (.ref kl)]) rfl ?_
  have f4 := (P0.keep K2)
  have f5 := (P1.keep K2 nin0)
  have f6 := (P2.keep K2 nin0)
  have f7 := (P3.keep K2 nin0)
  have f8 := (P4.keep K2)
  have f9 := (P6.keep K2)
  have f10 := (P7.keep K2)
  have f11 := (P8.keep K2)
  refine ginfo fun _ _ O3 => ?_
  refine gcallS (y := mn479) hx (ow hw 93 rfl) (ow hw 94 rfl) (ow hw 60 rfl) (ow hw 95 rfl) (by decide) (fun hZ H hEL => Pay.of_met (W := 0) (own_relC2 l Z a0 cx [] (kl) (x2) (y) (d1) (k1) (s0_) (s1_) (dz) (el) (ee) (em) (mr) (kd) (ke) vm2 h2 O3 f4 f5 f6 f7 f8 (by first | assumption | decide | omega) f9 f10 q2_1 q2_2 q2_3 f11 (by first | assumption | decide | omega)) (ow hw 95 rfl) (ow hw 60 rfl) (by decide) (by decide) hZ H hEL) 14 (argsL := [(.ref kl), (.ref x2)]) (rest := []) (lenOf own_pd489 rfl) rfl rfl (Nat.le_of_eq rfl) (by rw [hml]; rfl) (hb hby d488) rfl (by decide) (by decide) ?_
  rintro _ vm3 h3 C3 ⟨r3, sb3, tb3, r13, r23, rfl, K3, q3_0, q3_1, q3_2, q3_3, q3_4, q3_5, q3_6, q3_7, q3_8, q3_9, q3_10, q3_11⟩
  have z3 := C3.2.1
  have lt_r3 : h3.size > r3 := q3_0.lt
  have lt_sb3 : h3.size > sb3 := q3_1.1.lt
  have lt_tb3 : h3.size > tb3 := q3_1.tlt
  have lt_r13 : h3.size > r13 := q3_5.lt
  have lt_r23 : h3.size > r23 := q3_8.lt
  refine gat (mkF m 14 #[vr kl, vr y] [(.ref r3)]) rfl ?_
  exact gretAW hx hret rfl rfl (hb hby d490) (by decide) (by decide) (fun vq Wq Cq => ⟨r3, sb3, tb3, r13, r23, rfl, (((Keep.refl h0 []).trans K2 all0).trans K3 all0), q3_0, q3_1, q3_2, q3_3, q3_4, q3_5, q3_6, q3_7, q3_8, q3_9, q3_10, (State.resolvedAt?_warmed39 Wq q3_11)⟩)
theorem own_scA2 (l : Launch) (Z : State) (a0 : Array Value) (cx : Ctx Z a0) (ws : List Jvm.Cond) (x : Addr) (sb : Addr) (u0 : Value) (u1 : Value) (u2 : Value) (kl : Addr) (al : Addr) (y : Addr) (d1 : Addr) (k1 : ClassId) (d2 : Addr) (k2 : ClassId) (s0_ : Addr) (s1_ : Addr) (dz : Addr) (el : Addr) (ee : Addr) (em : Addr) (mr : Addr) (kd : ClassId) (ke : ClassId) (vm0 : Vm) (h0 : Heap) (X00 : Ext Z.heap h0) (P0 : Exa Z h0 x c6_) (P1 : Fld Z h0 x c6_ "source" c1_ u0) (P2 : Fld Z h0 x c6_ "keys" c2_ u1) (P3 : Fld Z h0 x c6_ "args" c2_ u2) (P4 : Z.heap.size ≤ x) (P5 : Exa Z h0 kl c11_) (P6 : Fld Z h0 kl c11_ c7_ c3_ (.ref d1)) (P7 : Fld Z h0 kl c11_ "size" "I" (.int (2 : Int32))) (P8 : Arv Z h0 d1 k1 (.object c8_) (10 : Int32) [(.ref s0_), (.ref s1_), .null, .null, .null, .null, .null, .null, .null, .null] .null) (P9 : Exa Z h0 d1 c3_) (hov : (Ovr Z k1 c8_)) (P11 : Exa Z h0 s0_ c9_) (P12 : Exa Z h0 s1_ c9_) (P13 : Exa Z h0 al c11_) (P14 : Fld Z h0 al c11_ c7_ c3_ (.ref d2)) (P15 : Fld Z h0 al c11_ "size" "I" (.int (2 : Int32))) (P16 : Arv Z h0 d2 k2 (.object c8_) (10 : Int32) [(.ref y), (.ref y), .null, .null, .null, .null, .null, .null, .null, .null] .null) (P17 : Exa Z h0 d2 c3_) (hov2 : (Ovr Z k2 c8_)) (P19 : Exa Z h0 y c9_) (hL : (OwnL Z dz el ee em mr kd ke)) :
    Met l mn470 prog_31_method_1_code 4 none ws ({ frames := 8, cells := 4, slots := 8, locals := 101 } : Room) Z consts_1 vm0 h0 #[(.ref x), (.ref sb), (.ref kl), (.ref al)] (fun rv vm h => ∃ (r1 : Addr), ∃ (r2 : Addr), rv = none ∧ Keep h0 h [x] ∧ Fld Z h x c6_ "source" c1_ (.ref sb) ∧ Fld Z h x c6_ "keys" c2_ (.ref r1) ∧ Fld Z h x c6_ "args" c2_ (.ref r2) ∧ Exa Z h r1 c14_ ∧ Fld Z h r1 c14_ "e0" c0_ (.ref s0_) ∧ Fld Z h r1 c14_ "e1" c0_ (.ref s1_) ∧ Exa Z h r2 c14_ ∧ Fld Z h r2 c14_ "e0" c0_ (.ref y) ∧ Fld Z h r2 c14_ "e1" c0_ (.ref y)) := by
  obtain ⟨hw, hEL, ⟨zc, Scs, hzc⟩, ⟨fm, Sfm, hfm⟩, hL0⟩ := id cx
  have hSA := own_SA hw
  refine Met.of_walk (a0 := a0) #[vr x, vr sb, vr kl, vr al] (plainFor_of_name own_pn397) X00 hEL (fun m => by first | (simp [entryFrame, mkF, argsToLocals, Value.category]; done) | rfl) ?_
  intro p e s m below meth c vm hx hby hml hret hnm hC0 hW0
  have lt_x : h0.size > x := P0.lt
  have lt_kl : h0.size > kl := P5.lt
  have lt_d1 : h0.size > d1 := P8.lt
  have lt_s0_ : h0.size > s0_ := P11.lt
  have lt_s1_ : h0.size > s1_ := P12.lt
  have lt_al : h0.size > al := P13.lt
  have lt_d2 : h0.size > d2 := P16.lt
  have lt_y : h0.size > y := P19.lt
  obtain ⟨Sdz, Edz, Vdz, Sel, Eel, Fee, Vee, Fan, Sem, Eem, Mmr, Sas⟩ := id hL
  refine uAN 1 hx hby d452 rfl rfl rfl ?_
  refine ginfo fun _ _ O1 => ?_
  refine gcallI (y := mn391) hx rfl (ow hw 105 rfl) (ow hw 106 rfl) (ow hw 109 rfl) (by decide) (fun hZ H hEL => Pay.of_met (W := 0) (own_record l Z a0 cx [] (x) vm h0 O1 ) (ow hw 109 rfl) (ow hw 108 rfl) (by decide) (by decide) hZ H hEL) (a := x) 4 (argsL := []) (rest := []) (lenOf own_pd7 rfl) rfl rfl (Nat.le_of_eq rfl) (by rw [hml]; rfl) (hb hby d453) rfl (by decide) (by decide) ?_
  rintro _ vm1 h1 C1 ⟨rfl, rfl⟩
  have z1 := C1.2.1
  refine gat (mkF m 4 #[vr x, vr sb, vr kl, vr al] []) rfl ?_
  refine uAN 5 hx hby d454 rfl rfl rfl ?_
  refine ginfo fun _ _ O2 => ?_
  refine gcallS (y := mn280) hx (ow hw 111 rfl) (ow hw 112 rfl) (ow hw 113 rfl) (ow hw 114 rfl) (by decide) (fun hZ H hEL => Pay.of_met (W := 0) (own_copy2 l Z a0 cx [] (kl) (d1) (k1) (s0_) (s1_) (dz) (el) (ee) (em) (mr) (kd) (ke) vm1 h0 O2 P5 P6 P7 P8 P9 (by first | assumption | decide | omega) P11 P12 (by first | assumption | decide | omega)) (ow hw 114 rfl) (ow hw 113 rfl) (by decide) (by decide) hZ H hEL) 8 (argsL := [(.ref kl)]) (rest := []) (lenOf own_pd278 rfl) rfl rfl (Nat.le_of_eq rfl) (by rw [hml]; rfl) (hb hby d455) rfl (by decide) (by decide) ?_
  rintro _ vm2 h2 C2 ⟨r2, rfl, K2, q2_0, q2_1, q2_2, q2_3⟩
  have z2 := C2.2.1
  have lt_r2 : h2.size > r2 := q2_1.lt
  refine gat (mkF m 8 #[vr x, vr sb, vr kl, vr al] [(.ref r2)]) rfl ?_
  refine gs (mkF m 9 #[vr x, vr sb, vr r2, vr al] []) (fun _ _ A kq => XS.astoreN A hx rfl (hb hby d456) rfl rfl (l' := #[vr x, vr sb, vr r2, vr al]) rfl kq) ?_
  refine uAN 10 hx hby d457 rfl rfl rfl ?_
  have f4 := (P13.keep K2)
  have f5 := (P14.keep K2 nin0)
  have f6 := (P15.keep K2 nin0)
  have f7 := (P16.keep K2 nin0)
  have f8 := (P17.keep K2)
  have f9 := (P19.keep K2)
  refine ginfo fun _ _ O3 => ?_
  refine gcallS (y := mn280) hx (ow hw 111 rfl) (ow hw 112 rfl) (ow hw 113 rfl) (ow hw 114 rfl) (by decide) (fun hZ H hEL => Pay.of_met (W := 0) (own_copy2 l Z a0 cx [] (al) (d2) (k2) (y) (y) (dz) (el) (ee) (em) (mr) (kd) (ke) vm2 h2 O3 f4 f5 f6 f7 f8 (by first | assumption | decide | omega) f9 f9 (by first | assumption | decide | omega)) (ow hw 114 rfl) (ow hw 113 rfl) (by decide) (by decide) hZ H hEL) 13 (argsL := [(.ref al)]) (rest := []) (lenOf own_pd278 rfl) rfl rfl (Nat.le_of_eq rfl) (by rw [hml]; rfl) (hb hby d458) rfl (by decide) (by decide) ?_
  rintro _ vm3 h3 C3 ⟨r3, rfl, K3, q3_0, q3_1, q3_2, q3_3⟩
  have z3 := C3.2.1
  have lt_r3 : h3.size > r3 := q3_1.lt
  refine gat (mkF m 13 #[vr x, vr sb, vr r2, vr al] [(.ref r3)]) rfl ?_
  refine gs (mkF m 14 #[vr x, vr sb, vr r2, vr r3] []) (fun _ _ A kq => XS.astoreN A hx rfl (hb hby d459) rfl rfl (l' := #[vr x, vr sb, vr r2, vr r3]) rfl kq) ?_
  refine uAN 15 hx hby d460 rfl rfl rfl ?_
  refine uAN 16 hx hby d461 rfl rfl rfl ?_
  have f10 := ((P1.keep K2 nin0).keep K3 nin0)
  have f11 := ((P0.keep K2).keep K3)
  refine gputF (host := "") hx (Or.inl (ow hw 150 rfl)) Via.refl f10 f11 (Or.inr ⟨(ow hw 151 rfl), rfl, hnm⟩) (ow hw 97 rfl) (ty := (.object c9_)) (by decide) rfl rfl P4 (fun al => Safe.exa al f11 (by decide) (by decide)) 19 (hb hby d462) rfl ?_
  intro h12 W12 C12
  have z12 := C12.2.1
  have F12 := f10.same W12
  refine uAN 20 hx hby d463 rfl rfl rfl ?_
  refine uAN 21 hx hby d464 rfl rfl rfl ?_
  have f13 := (((P2.keep K2 nin0).keep K3 nin0).other W12 (Or.inr (slot_ne (Or.inr (ow hw 153 rfl)) (Or.inr (ow hw 151 rfl)) (by decide) (t := (.object c16_)) (t' := (.object c9_)) (by decide) (by decide))))
  have f14 := (f11.wr W12)
  refine gputF (host := "") hx (Or.inl (ow hw 152 rfl)) Via.refl f13 f14 (Or.inr ⟨(ow hw 153 rfl), rfl, hnm⟩) (ow hw 97 rfl) (ty := (.object c16_)) (by decide) rfl rfl P4 (fun al => Safe.exa al f14 (by decide) (by decide)) 24 (hb hby d465) rfl ?_
  intro h15 W15 C15
  have z15 := C15.2.1
  have F15 := f13.same W15
  refine uAN 25 hx hby d466 rfl rfl rfl ?_
  refine uAN 26 hx hby d467 rfl rfl rfl ?_
  have f16 := ((((P3.keep K2 nin0).keep K3 nin0).other W12 (Or.inr (slot_ne (Or.inr (ow hw 155 rfl)) (Or.inr (ow hw 151 rfl)) (by decide) (t := (.object c16_)) (t' := (.object c9_)) (by decide) (by decide)))).other W15 (Or.inr (slot_ne (Or.inr (ow hw 155 rfl)) (Or.inr (ow hw 153 rfl)) (by decide) (t := (.object c16_)) (t' := (.object c16_)) (by decide) (by decide))))
  have f17 := (f14.wr W15)
  refine gputF (host := "") hx (Or.inl (ow hw 154 rfl)) Via.refl f16 f17 (Or.inr ⟨(ow hw 155 rfl), rfl, hnm⟩) (ow hw 97 rfl) (ty := (.object c16_)) (by decide) rfl rfl P4 (fun al => Safe.exa al f17 (by decide) (by decide)) 29 (hb hby d468) rfl ?_
  intro h18 W18 C18
  have z18 := C18.2.1
  have F18 := f16.same W18
  have f20 := ((F12.other W15 (Or.inr (slot_ne (Or.inr (ow hw 151 rfl)) (Or.inr (ow hw 153 rfl)) (by decide) (t := (.object c9_)) (t' := (.object c16_)) (by decide) (by decide)))).other W18 (Or.inr (slot_ne (Or.inr (ow hw 151 rfl)) (Or.inr (ow hw 155 rfl)) (by decide) (t := (.object c9_)) (t' := (.object c16_)) (by decide) (by decide))))
  have f21 := (F15.other W18 (Or.inr (slot_ne (Or.inr (ow hw 153 rfl)) (Or.inr (ow hw 155 rfl)) (by decide) (t := (.object c16_)) (t' := (.object c16_)) (by decide) (by decide))))
  have f22 := ((((q2_1.keep K3).wr W12).wr W15).wr W18)
  have f23 := ((((q2_2.keep K3 nin0).other W12 (Or.inl (Nat.ne_of_gt (by omega)))).other W15 (Or.inl (Nat.ne_of_gt (by omega)))).other W18 (Or.inl (Nat.ne_of_gt (by omega))))
  have f24 := ((((q2_3.keep K3 nin0).other W12 (Or.inl (Nat.ne_of_gt (by omega)))).other W15 (Or.inl (Nat.ne_of_gt (by omega)))).other W18 (Or.inl (Nat.ne_of_gt (by omega))))
  have f25 := (((q3_1.wr W12).wr W15).wr W18)
  have f26 := (((q3_2.other W12 (Or.inl (Nat.ne_of_gt (by omega)))).other W15 (Or.inl (Nat.ne_of_gt (by omega)))).other W18 (Or.inl (Nat.ne_of_gt (by omega))))
  have f27 := (((q3_3.other W12 (Or.inl (Nat.ne_of_gt (by omega)))).other W15 (Or.inl (Nat.ne_of_gt (by omega)))).other W18 (Or.inl (Nat.ne_of_gt (by omega))))
  exact gretV hx hret (hb hby d469) (by decide) (by decide) (fun vq Cq => ⟨r2, r3, rfl, ((((((Keep.refl h0 [x]).trans K2 all0).trans K3 all0).wr W12 (Or.inl (List.mem_of_getElem? (i := 0) rfl))).wr W15 (Or.inl (List.mem_of_getElem? (i := 0) rfl))).wr W18 (Or.inl (List.mem_of_getElem? (i := 0) rfl))), f20, f21, F18, f22, f23, f24, f25, f26, f27⟩)
theorem own_relA2 (l : Launch) (Z : State) (a0 : Array Value) (cx : Ctx Z a0) (ws : List Jvm.Cond) (sb : Addr) (tb : Addr) (kl : Addr) (al : Addr) (y : Addr) (d1 : Addr) (k1 : ClassId) (d2 : Addr) (k2 : ClassId) (s0_ : Addr) (s1_ : Addr) (dz : Addr) (el : Addr) (ee : Addr) (em : Addr) (mr : Addr) (kd : ClassId) (ke : ClassId) (vm0 : Vm) (h0 : Heap) (X00 : Ext Z.heap h0) (P0 : Str Z h0 sb tb own_rel) (P1 : Lit (Z.setVm vm0) c5_ 40 sb) (P2 : Exa Z h0 kl c11_) (P3 : Fld Z h0 kl c11_ c7_ c3_ (.ref d1)) (P4 : Fld Z h0 kl c11_ "size" "I" (.int (2 : Int32))) (P5 : Arv Z h0 d1 k1 (.object c8_) (10 : Int32) [(.ref s0_), (.ref s1_), .null, .null, .null, .null, .null, .null, .null, .null] .null) (P6 : Exa Z h0 d1 c3_) (hov : (Ovr Z k1 c8_)) (P8 : Exa Z h0 s0_ c9_) (P9 : Exa Z h0 s1_ c9_) (P10 : Exa Z h0 al c11_) (P11 : Fld Z h0 al c11_ c7_ c3_ (.ref d2)) (P12 : Fld Z h0 al c11_ "size" "I" (.int (2 : Int32))) (P13 : Arv Z h0 d2 k2 (.object c8_) (10 : Int32) [(.ref y), (.ref y), .null, .null, .null, .null, .null, .null, .null, .null] .null) (P14 : Exa Z h0 d2 c3_) (hov2 : (Ovr Z k2 c8_)) (P16 : Exa Z h0 y c9_) (hL : (OwnL Z dz el ee em mr kd ke)) :
    Met l mn479 prog_21_method_4_code 2 (some (.object c6_)) ws ({ frames := 9, cells := 5, slots := 11, locals := 117 } : Room) Z consts_1 vm0 h0 #[(.ref kl), (.ref al)] (fun rv vm h => ∃ (r : Addr), ∃ (r1 : Addr), ∃ (r2 : Addr), rv = some (.ref r) ∧ Keep h0 h [] ∧ Exa Z h r c6_ ∧ Fld Z h r c6_ "source" c1_ (.ref sb) ∧ Fld Z h r c6_ "keys" c2_ (.ref r1) ∧ Fld Z h r c6_ "args" c2_ (.ref r2) ∧ Exa Z h r1 c14_ ∧ Fld Z h r1 c14_ "e0" c0_ (.ref s0_) ∧ Fld Z h r1 c14_ "e1" c0_ (.ref s1_) ∧ Exa Z h r2 c14_ ∧ Fld Z h r2 c14_ "e0" c0_ (.ref y) ∧ Fld Z h r2 c14_ "e1" c0_ (.ref y)) := by
  obtain ⟨hw, hEL, ⟨zc, Scs, hzc⟩, ⟨fm, Sfm, hfm⟩, hL0⟩ := id cx
  have hSA := own_SA hw
  refine Met.of_walk (a0 := a0) #[vr kl, vr al] (plainFor_of_name own_pn480) X00 hEL (fun m => by first | (simp [entryFrame, mkF, argsToLocals, Value.category]; done) | rfl) ?_
  intro p e s m below meth c vm hx hby hml hret hnm hC0 hW0
  have lt_sb : h0.size > sb := P0.1.lt
  have lt_tb : h0.size > tb := P0.tlt
  have lt_kl : h0.size > kl := P2.lt
  have lt_d1 : h0.size > d1 := P5.lt
  have lt_s0_ : h0.size > s0_ := P8.lt
  have lt_s1_ : h0.size > s1_ := P9.lt
  have lt_al : h0.size > al := P10.lt
  have lt_d2 : h0.size > d2 := P13.lt
  have lt_y : h0.size > y := P16.lt
  obtain ⟨Sdz, Edz, Vdz, Sel, Eel, Fee, Vee, Fan, Sem, Eem, Mmr, Sas⟩ := id hL
  refine gnewO hx (ow hw 96 rfl) (ow hw 97 rfl) (ow hw 98 rfl) 3 (hb hby d471) rfl (by decide) (by decide) ?_
  intro b1 h1 g1 E1 C1 A1 D1 n1 L1
  have z1 := C1.2.1
  have lt_b1 : h1.size > b1 := A1.lt
  have F1_source : Fld Z h1 b1 c6_ "source" c1_ .null := D1 (Or.inr (ow hw 151 rfl)) (ty := (.object c9_)) (by decide)
  have F1_keys : Fld Z h1 b1 c6_ "keys" c2_ .null := D1 (Or.inr (ow hw 153 rfl)) (ty := (.object c16_)) (by decide)
  have F1_args : Fld Z h1 b1 c6_ "args" c2_ .null := D1 (Or.inr (ow hw 155 rfl)) (ty := (.object c16_)) (by decide)
  refine uD 4 hx hby d472 rfl rfl ?_
  have LT : Lit (Z.setVm vm) c5_ 40 sb := State.resolvedAt?_warmed39 hW0 P1
  refine gldcA hx (ow hw 99 rfl) LT 6 (hb hby d473) rfl ?_
  refine uAN 7 hx hby d474 rfl rfl rfl ?_
  refine uAN 8 hx hby d475 rfl rfl rfl ?_
  have f4 := (P2.ext E1)
  have f5 := (P3.ext E1)
  have f6 := (P4.ext E1)
  have f7 := (P5.ext E1)
  have f8 := (P6.ext E1)
  have f9 := (P8.ext E1)
  have f10 := (P9.ext E1)
  have f11 := (P10.ext E1)
  have f12 := (P11.ext E1)
  have f13 := (P12.ext E1)
  have f14 := (P13.ext E1)
  have f15 := (P14.ext E1)
  have f16 := (P16.ext E1)
  refine ginfo fun _ _ O3 => ?_
  refine gcallI (y := mn470) hx rfl (ow hw 102 rfl) (ow hw 103 rfl) (ow hw 104 rfl) (by decide) (fun hZ H hEL => Pay.of_met (W := 1) (own_scA2 l Z a0 cx [] (b1) (sb) (.null) (.null) (.null) (kl) (al) (y) (d1) (k1) (d2) (k2) (s0_) (s1_) (dz) (el) (ee) (em) (mr) (kd) (ke) vm h1 O3 A1 F1_source F1_keys F1_args n1 f4 f5 f6 f7 f8 (by first | assumption | decide | omega) f9 f10 f11 f12 f13 f14 f15 (by first | assumption | decide | omega) f16 (by first | assumption | decide | omega)) (ow hw 104 rfl) (ow hw 98 rfl) (by decide) (by decide) hZ H hEL) (a := b1) 11 (argsL := [(.ref sb), (.ref kl), (.ref al)]) (rest := [(.ref b1)]) (lenOf own_pd477 rfl) rfl rfl (Nat.le_of_eq rfl) (by rw [hml]; rfl) (hb hby d476) rfl (by decide) (by decide) ?_
  rintro _ vm3 h3 C3 ⟨r13, r23, rfl, K3, q3_0, q3_1, q3_2, q3_3, q3_4, q3_5, q3_6, q3_7, q3_8⟩
  have z3 := C3.2.1
  have lt_r13 : h3.size > r13 := q3_3.lt
  have lt_r23 : h3.size > r23 := q3_6.lt
  refine gat (mkF m 11 #[vr kl, vr al] [(.ref b1)]) rfl ?_
  have f18 := (A1.keep K3)
  exact gretA hx hret rfl rfl (hb hby d478) (by decide) (by decide) (fun vq Cq => ⟨b1, r13, r23, rfl, (((Keep.refl h0 []).ext E1).trans K3 (allS (Or.inr (by omega)) all0)), f18, q3_0, q3_1, q3_2, q3_3, q3_4, q3_5, q3_6, q3_7, q3_8⟩)
theorem own_scE2 (l : Launch) (Z : State) (a0 : Array Value) (cx : Ctx Z a0) (ws : List Jvm.Cond) (x : Addr) (sb : Addr) (u0 : Value) (u1 : Value) (u2 : Value) (kl : Addr) (d1 : Addr) (k1 : ClassId) (s0_ : Addr) (s1_ : Addr) (dz : Addr) (el : Addr) (ee : Addr) (em : Addr) (mr : Addr) (kd : ClassId) (ke : ClassId) (vm0 : Vm) (h0 : Heap) (X00 : Ext Z.heap h0) (P0 : Exa Z h0 x c6_) (P1 : Fld Z h0 x c6_ "source" c1_ u0) (P2 : Fld Z h0 x c6_ "keys" c2_ u1) (P3 : Fld Z h0 x c6_ "args" c2_ u2) (P4 : Z.heap.size ≤ x) (P5 : Exa Z h0 kl c11_) (P6 : Fld Z h0 kl c11_ c7_ c3_ (.ref d1)) (P7 : Fld Z h0 kl c11_ "size" "I" (.int (2 : Int32))) (P8 : Arv Z h0 d1 k1 (.object c8_) (10 : Int32) [(.ref s0_), (.ref s1_), .null, .null, .null, .null, .null, .null, .null, .null] .null) (P9 : Exa Z h0 d1 c3_) (hov : (Ovr Z k1 c8_)) (P11 : Exa Z h0 s0_ c9_) (P12 : Exa Z h0 s1_ c9_) (hL : (OwnL Z dz el ee em mr kd ke)) :
    Met l mn470 prog_31_method_1_code 4 none ws ({ frames := 8, cells := 2, slots := 4, locals := 101 } : Room) Z consts_1 vm0 h0 #[(.ref x), (.ref sb), (.ref kl), (.ref el)] (fun rv vm h => ∃ (r1 : Addr), rv = none ∧ Keep h0 h [x] ∧ Fld Z h x c6_ "source" c1_ (.ref sb) ∧ Fld Z h x c6_ "keys" c2_ (.ref r1) ∧ Fld Z h x c6_ "args" c2_ (.ref el) ∧ Exa Z h r1 c14_ ∧ Fld Z h r1 c14_ "e0" c0_ (.ref s0_) ∧ Fld Z h r1 c14_ "e1" c0_ (.ref s1_)) := by
  obtain ⟨hw, hEL, ⟨zc, Scs, hzc⟩, ⟨fm, Sfm, hfm⟩, hL0⟩ := id cx
  have hSA := own_SA hw
  refine Met.of_walk (a0 := a0) #[vr x, vr sb, vr kl, vr el] (plainFor_of_name own_pn397) X00 hEL (fun m => by first | (simp [entryFrame, mkF, argsToLocals, Value.category]; done) | rfl) ?_
  intro p e s m below meth c vm hx hby hml hret hnm hC0 hW0
  have lt_x : h0.size > x := P0.lt
  have lt_kl : h0.size > kl := P5.lt
  have lt_d1 : h0.size > d1 := P8.lt
  have lt_s0_ : h0.size > s0_ := P11.lt
  have lt_s1_ : h0.size > s1_ := P12.lt
  obtain ⟨Sdz, Edz, Vdz, Sel, Eel, Fee, Vee, Fan, Sem, Eem, Mmr, Sas⟩ := id hL
  refine uAN 1 hx hby d452 rfl rfl rfl ?_
  refine ginfo fun _ _ O1 => ?_
  refine gcallI (y := mn391) hx rfl (ow hw 105 rfl) (ow hw 106 rfl) (ow hw 109 rfl) (by decide) (fun hZ H hEL => Pay.of_met (W := 0) (own_record l Z a0 cx [] (x) vm h0 O1 ) (ow hw 109 rfl) (ow hw 108 rfl) (by decide) (by decide) hZ H hEL) (a := x) 4 (argsL := []) (rest := []) (lenOf own_pd7 rfl) rfl rfl (Nat.le_of_eq rfl) (by rw [hml]; rfl) (hb hby d453) rfl (by decide) (by decide) ?_
  rintro _ vm1 h1 C1 ⟨rfl, rfl⟩
  have z1 := C1.2.1
  refine gat (mkF m 4 #[vr x, vr sb, vr kl, vr el] []) rfl ?_
  refine uAN 5 hx hby d454 rfl rfl rfl ?_
  refine ginfo fun _ _ O2 => ?_
  refine gcallS (y := mn280) hx (ow hw 111 rfl) (ow hw 112 rfl) (ow hw 113 rfl) (ow hw 114 rfl) (by decide) (fun hZ H hEL => Pay.of_met (W := 0) (own_copy2 l Z a0 cx [] (kl) (d1) (k1) (s0_) (s1_) (dz) (el) (ee) (em) (mr) (kd) (ke) vm1 h0 O2 P5 P6 P7 P8 P9 (by first | assumption | decide | omega) P11 P12 (by first | assumption | decide | omega)) (ow hw 114 rfl) (ow hw 113 rfl) (by decide) (by decide) hZ H hEL) 8 (argsL := [(.ref kl)]) (rest := []) (lenOf own_pd278 rfl) rfl rfl (Nat.le_of_eq rfl) (by rw [hml]; rfl) (hb hby d455) rfl (by decide) (by decide) ?_
  rintro _ vm2 h2 C2 ⟨r2, rfl, K2, q2_0, q2_1, q2_2, q2_3⟩
  have z2 := C2.2.1
  have lt_r2 : h2.size > r2 := q2_1.lt
  refine gat (mkF m 8 #[vr x, vr sb, vr kl, vr el] [(.ref r2)]) rfl ?_
  refine gs (mkF m 9 #[vr x, vr sb, vr r2, vr el] []) (fun _ _ A kq => XS.astoreN A hx rfl (hb hby d456) rfl rfl (l' := #[vr x, vr sb, vr r2, vr el]) rfl kq) ?_
  refine uAN 10 hx hby d457 rfl rfl rfl ?_
  refine ginfo fun _ _ O3 => ?_
  refine gcallS (y := mn280) hx (ow hw 111 rfl) (ow hw 112 rfl) (ow hw 113 rfl) (ow hw 114 rfl) (by decide) (fun hZ H hEL => Pay.of_met (W := 0) (own_coE l Z a0 cx [] (dz) (el) (ee) (em) (mr) (kd) (ke) vm2 h2 O3 (by first | assumption | decide | omega)) (ow hw 114 rfl) (ow hw 113 rfl) (by decide) (by decide) hZ H hEL) 13 (argsL := [(.ref el)]) (rest := []) (lenOf own_pd278 rfl) rfl rfl (Nat.le_of_eq rfl) (by rw [hml]; rfl) (hb hby d458) rfl (by decide) (by decide) ?_
  rintro _ vm3 h3 C3 ⟨rfl, rfl⟩
  have z3 := C3.2.1
  refine gat (mkF m 13 #[vr x, vr sb, vr r2, vr el] [(.ref el)]) rfl ?_
  refine gs (mkF m 14 #[vr x, vr sb, vr r2, vr el] []) (fun _ _ A kq => XS.astoreN A hx rfl (hb hby d459) rfl rfl (l' := #[vr x, vr sb, vr r2, vr el]) rfl kq) ?_
  refine uAN 15 hx hby d460 rfl rfl rfl ?_
  refine uAN 16 hx hby d461 rfl rfl rfl ?_
  have f4 := (P1.keep K2 nin0)
  have f5 := (P0.keep K2)
  refine gputF (host := "") hx (Or.inl (ow hw 150 rfl)) Via.refl f4 f5 (Or.inr ⟨(ow hw 151 rfl), rfl, hnm⟩) (ow hw 97 rfl) (ty := (.object c9_)) (by decide) rfl rfl P4 (fun al => Safe.exa al f5 (by decide) (by decide)) 19 (hb hby d462) rfl ?_
  intro h6 W6 C6
  have z6 := C6.2.1
  have F6 := f4.same W6
  refine uAN 20 hx hby d463 rfl rfl rfl ?_
  refine uAN 21 hx hby d464 rfl rfl rfl ?_
  have f7 := ((P2.keep K2 nin0).other W6 (Or.inr (slot_ne (Or.inr (ow hw 153 rfl)) (Or.inr (ow hw 151 rfl)) (by decide) (t := (.object c16_)) (t' := (.object c9_)) (by decide) (by decide))))
  have f8 := (f5.wr W6)
  refine gputF (host := "") hx (Or.inl (ow hw 152 rfl)) Via.refl f7 f8 (Or.inr ⟨(ow hw 153 rfl), rfl, hnm⟩) (ow hw 97 rfl) (ty := (.object c16_)) (by decide) rfl rfl P4 (fun al => Safe.exa al f8 (by decide) (by decide)) 24 (hb hby d465) rfl ?_
  intro h9 W9 C9
  have z9 := C9.2.1
  have F9 := f7.same W9
  refine uAN 25 hx hby d466 rfl rfl rfl ?_
  refine uAN 26 hx hby d467 rfl rfl rfl ?_
  have f10 := (((P3.keep K2 nin0).other W6 (Or.inr (slot_ne (Or.inr (ow hw 155 rfl)) (Or.inr (ow hw 151 rfl)) (by decide) (t := (.object c16_)) (t' := (.object c9_)) (by decide) (by decide)))).other W9 (Or.inr (slot_ne (Or.inr (ow hw 155 rfl)) (Or.inr (ow hw 153 rfl)) (by decide) (t := (.object c16_)) (t' := (.object c16_)) (by decide) (by decide))))
  have f11 := (f8.wr W9)
  refine gputF (host := "") hx (Or.inl (ow hw 154 rfl)) Via.refl f10 f11 (Or.inr ⟨(ow hw 155 rfl), rfl, hnm⟩) (ow hw 97 rfl) (ty := (.object c16_)) (by decide) rfl rfl P4 (fun al => Safe.exa al f11 (by decide) (by decide)) 29 (hb hby d468) rfl ?_
  intro h12 W12 C12
  have z12 := C12.2.1
  have F12 := f10.same W12
  have f14 := ((F6.other W9 (Or.inr (slot_ne (Or.inr (ow hw 151 rfl)) (Or.inr (ow hw 153 rfl)) (by decide) (t := (.object c9_)) (t' := (.object c16_)) (by decide) (by decide)))).other W12 (Or.inr (slot_ne (Or.inr (ow hw 151 rfl)) (Or.inr (ow hw 155 rfl)) (by decide) (t := (.object c9_)) (t' := (.object c16_)) (by decide) (by decide))))
  have f15 := (F9.other W12 (Or.inr (slot_ne (Or.inr (ow hw 153 rfl)) (Or.inr (ow hw 155 rfl)) (by decide) (t := (.object c16_)) (t' := (.object c16_)) (by decide) (by decide))))
  have f16 := (((q2_1.wr W6).wr W9).wr W12)
  have f17 := (((q2_2.other W6 (Or.inl (Nat.ne_of_gt (by omega)))).other W9 (Or.inl (Nat.ne_of_gt (by omega)))).other W12 (Or.inl (Nat.ne_of_gt (by omega))))
  have f18 := (((q2_3.other W6 (Or.inl (Nat.ne_of_gt (by omega)))).other W9 (Or.inl (Nat.ne_of_gt (by omega)))).other W12 (Or.inl (Nat.ne_of_gt (by omega))))
  exact gretV hx hret (hb hby d469) (by decide) (by decide) (fun vq Cq => ⟨r2, rfl, (((((Keep.refl h0 [x]).trans K2 all0).wr W6 (Or.inl (List.mem_of_getElem? (i := 0) rfl))).wr W9 (Or.inl (List.mem_of_getElem? (i := 0) rfl))).wr W12 (Or.inl (List.mem_of_getElem? (i := 0) rfl))), f14, f15, F12, f16, f17, f18⟩)
theorem own_exi2 (l : Launch) (Z : State) (a0 : Array Value) (cx : Ctx Z a0) (ws : List Jvm.Cond) (kl : Addr) (d1 : Addr) (k1 : ClassId) (s0_ : Addr) (s1_ : Addr) (dz : Addr) (el : Addr) (ee : Addr) (em : Addr) (mr : Addr) (kd : ClassId) (ke : ClassId) (vm0 : Vm) (h0 : Heap) (X00 : Ext Z.heap h0) (P0 : Exa Z h0 kl c11_) (P1 : Fld Z h0 kl c11_ c7_ c3_ (.ref d1)) (P2 : Fld Z h0 kl c11_ "size" "I" (.int (2 : Int32))) (P3 : Arv Z h0 d1 k1 (.object c8_) (10 : Int32) [(.ref s0_), (.ref s1_), .null, .null, .null, .null, .null, .null, .null, .null] .null) (P4 : Exa Z h0 d1 c3_) (hov : (Ovr Z k1 c8_)) (P6 : Exa Z h0 s0_ c9_) (P7 : Exa Z h0 s1_ c9_) (hL : (OwnL Z dz el ee em mr kd ke)) :
    Met l mn499 prog_21_method_6_code 1 (some (.object c6_)) ws ({ frames := 9, cells := 5, slots := 615, locals := 117 } : Room) Z consts_1 vm0 h0 #[(.ref kl)] (fun rv vm h => ∃ (r : Addr), ∃ (sb : Addr), ∃ (tb : Addr), ∃ (r1 : Addr), rv = some (.ref r) ∧ Keep h0 h [] ∧ Exa Z h r c6_ ∧ Str Z h sb tb own_exi ∧ Fld Z h r c6_ "source" c1_ (.ref sb) ∧ Fld Z h r c6_ "keys" c2_ (.ref r1) ∧ Fld Z h r c6_ "args" c2_ (.ref el) ∧ Exa Z h r1 c14_ ∧ Fld Z h r1 c14_ "e0" c0_ (.ref s0_) ∧ Fld Z h r1 c14_ "e1" c0_ (.ref s1_)) := by
  obtain ⟨hw, hEL, ⟨zc, Scs, hzc⟩, ⟨fm, Sfm, hfm⟩, hL0⟩ := id cx
  have hSA := own_SA hw
  refine Met.of_walk (a0 := a0) #[vr kl] (plainFor_of_name own_pn480) X00 hEL (fun m => by first | (simp [entryFrame, mkF, argsToLocals, Value.category]; done) | rfl) ?_
  intro p e s m below meth c vm hx hby hml hret hnm hC0 hW0
  have lt_kl : h0.size > kl := P0.lt
  have lt_d1 : h0.size > d1 := P3.lt
  have lt_s0_ : h0.size > s0_ := P6.lt
  have lt_s1_ : h0.size > s1_ := P7.lt
  obtain ⟨Sdz, Edz, Vdz, Sel, Eel, Fee, Vee, Fan, Sem, Eem, Mmr, Sas⟩ := id hL
  refine gnewO hx (ow hw 96 rfl) (ow hw 97 rfl) (ow hw 98 rfl) 3 (hb hby d492) rfl (by decide) (by decide) ?_
  intro b1 h1 g1 E1 C1 A1 D1 n1 L1
  have z1 := C1.2.1
  have lt_b1 : h1.size > b1 := A1.lt
  have F1_source : Fld Z h1 b1 c6_ "source" c1_ .null := D1 (Or.inr (ow hw 151 rfl)) (ty := (.object c9_)) (by decide)
  have F1_keys : Fld Z h1 b1 c6_ "keys" c2_ .null := D1 (Or.inr (ow hw 153 rfl)) (ty := (.object c16_)) (by decide)
  have F1_args : Fld Z h1 b1 c6_ "args" c2_ .null := D1 (Or.inr (ow hw 155 rfl)) (ty := (.object c16_)) (by decide)
  refine uD 4 hx hby d493 rfl rfl ?_
  refine gldcR hx (ow hw 160 rfl) hSA (by decide) (n := 604) (by decide) (by decide) (vs := own_exiV) (z := (151 : Int32)) (by decide +kernel) (by decide) (by decide) 6 (hb hby d494) rfl (by decide) (by decide) ?_
  intro b2 t2 k2 vm2 h2 E2 C2 Q2a Q2b Q2c Q2d Q2e
  have z2 := C2.2.1
  have S2 : Str Z h2 b2 t2 own_exi := Str.lit Q2a Q2b Q2c Q2d (by decide) rfl rfl (by decide)
  have lt_b2 : h2.size > b2 := S2.1.lt
  have lt_t2 : h2.size > t2 := S2.tlt
  have f3 := (C2.safe (show h1.size > b1 by omega) L1)
  have ne2_b1 := Q2e b1 f3
  refine uAN 7 hx hby d495 rfl rfl rfl ?_
  refine ginfo fun _ _ O4 => ?_
  refine gcallS (y := mn109) hx (ow hw 161 rfl) (ow hw 135 rfl) (ow hw 113 rfl) (ow hw 136 rfl) (by decide) (fun hZ H hEL => Pay.of_met (W := 4) (own_of0 l Z a0 cx [] (dz) (el) (ee) (em) (mr) (kd) (ke) vm2 h2 O4 (by first | assumption | decide | omega)) (ow hw 136 rfl) (ow hw 113 rfl) (by decide) (by decide) hZ H hEL) 10 (argsL := []) (rest := [(.ref kl), (.ref b2), (.ref b1), (.ref b1)]) (lenOf own_pd273 rfl) rfl rfl (Nat.le_of_eq rfl) (by rw [hml]; rfl) (hb hby d496) rfl (by decide) (by decide) ?_
  rintro _ vm4 h4 C4 ⟨rfl, rfl⟩
  have z4 := C4.2.1
  refine gat (mkF m 10 #[vr kl] [(.ref el), (.ref kl), (.ref b2), (.ref b1), (.ref b1)]) rfl ?_
  have f6 := (A1.ext E2)
  have f7 := (F1_source.ext E2)
  have f8 := (F1_keys.ext E2)
  have f9 := (F1_args.ext E2)
  have f10 := ((P0.ext E1).ext E2)
  have f11 := ((P1.ext E1).ext E2)
  have f12 := ((P2.ext E1).ext E2)
  have f13 := ((P3.ext E1).ext E2)
  have f14 := ((P4.ext E1).ext E2)
  have f15 := ((P6.ext E1).ext E2)
  have f16 := ((P7.ext E1).ext E2)
  refine ginfo fun _ _ O5 => ?_
  refine gcallI (y := mn470) hx rfl (ow hw 102 rfl) (ow hw 103 rfl) (ow hw 104 rfl) (by decide) (fun hZ H hEL => Pay.of_met (W := 1) (own_scE2 l Z a0 cx [] (b1) (b2) (.null) (.null) (.null) (kl) (d1) (k1) (s0_) (s1_) (dz) (el) (ee) (em) (mr) (kd) (ke) vm4 h2 O5 f6 f7 f8 f9 n1 f10 f11 f12 f13 f14 (by first | assumption | decide | omega) f15 f16 (by first | assumption | decide | omega)) (ow hw 104 rfl) (ow hw 98 rfl) (by decide) (by decide) hZ H hEL) (a := b1) 13 (argsL := [(.ref b2), (.ref kl), (.ref el)]) (rest := [(.ref b1)]) (lenOf own_pd477 rfl) rfl rfl (Nat.le_of_eq rfl) (by rw [hml]; rfl) (hb hby d497) rfl (by decide) (by decide) ?_
  rintro _ vm5 h5 C5 ⟨r15, rfl, K5, q5_0, q5_1, q5_2, q5_3, q5_4, q5_5⟩
  have z5 := C5.2.1
  have lt_r15 : h5.size > r15 := q5_3.lt
  refine gat (mkF m 13 #[vr kl] [(.ref b1)]) rfl ?_
  have f18 := (f6.keep K5)
  have f19 := (S2.keep K5 (ninS (Ne.symm ne2_b1.1) nin0) (ninS (Ne.symm ne2_b1.2) nin0))
  exact gretA hx hret rfl rfl (hb hby d498) (by decide) (by decide) (fun vq Cq => ⟨b1, b2, t2, r15, rfl, ((((Keep.refl h0 []).ext E1).ext E2).trans K5 (allS (Or.inr (by omega)) all0)), f18, f19, q5_0, q5_1, q5_2, q5_3, q5_4, q5_5⟩)
theorem own_cplinit3 (l : Launch) (Z : State) (a0 : Array Value) (cx : Ctx Z a0) (ws : List Jvm.Cond) (x : Addr) (y : Addr) (u : Value) (dz : Addr) (el : Addr) (ee : Addr) (em : Addr) (mr : Addr) (kd : ClassId) (ke : ClassId) (vm0 : Vm) (h0 : Heap) (X00 : Ext Z.heap h0) (P0 : Exa Z h0 x c12_) (P1 : Fld Z h0 x c10_ "modCount" "I" (.int (0 : Int32))) (P2 : Fld Z h0 x c12_ "n" "I" (.int (0 : Int32))) (P3 : Fld Z h0 x c12_ "element" c0_ u) (P4 : Z.heap.size ≤ x) (hL : (OwnL Z dz el ee em mr kd ke)) :
    Met l mn426 jdk_2479_method_1_code 3 none ws ({ frames := 3, cells := 0, slots := 0, locals := 36 } : Room) Z consts_1 vm0 h0 #[(.ref x), (.int (3 : Int32)), (.ref y)] (fun rv vm h => rv = none ∧ Keep h0 h [x] ∧ Fld Z h x c12_ "n" "I" (.int (3 : Int32)) ∧ Fld Z h x c12_ "element" c0_ (.ref y)) := by
  obtain ⟨hw, hEL, ⟨zc, Scs, hzc⟩, ⟨fm, Sfm, hfm⟩, hL0⟩ := id cx
  have hSA := own_SA hw
  refine Met.of_walk (a0 := a0) #[vr x, vi (3 : Int32), vr y] (plainFor_of_name own_pn427) X00 hEL (fun m => by first | (simp [entryFrame, mkF, argsToLocals, Value.category]; done) | rfl) ?_
  intro p e s m below meth c vm hx hby hml hret hnm hC0 hW0
  have lt_x : h0.size > x := P0.lt
  obtain ⟨Sdz, Edz, Vdz, Sel, Eel, Fee, Vee, Fan, Sem, Eem, Mmr, Sas⟩ := id hL
  refine uAN 1 hx hby d415 rfl rfl rfl ?_
  refine ginfo fun _ _ O1 => ?_
  refine gcallI (y := mn12) hx rfl (ow hw 84 rfl) (ow hw 41 rfl) (ow hw 45 rfl) (by decide) (fun hZ H hEL => Pay.of_met (W := 0) (own_ablinitC l Z a0 cx [] (x) ((0 : Int32)) (u) vm h0 O1 P0 P1 P4 P2 P3) (ow hw 45 rfl) (ow hw 44 rfl) (by decide) (by decide) hZ H hEL) (a := x) 4 (argsL := []) (rest := []) (lenOf own_pd7 rfl) rfl rfl (Nat.le_of_eq rfl) (by rw [hml]; rfl) (hb hby d416) rfl (by decide) (by decide) ?_
  rintro _ vm1 h1 C1 ⟨rfl, K1, q1_0, q1_1, q1_2⟩
  have z1 := C1.2.1
  refine gat (mkF m 4 #[vr x, vi (3 : Int32), vr y] []) rfl ?_
  refine ggetS (host := "") hx (Or.inl (ow hw 88 rfl)) Via.refl Sas 7 (hb hby d417) rfl ?_
  refine gs (mkF m 22 #[vr x, vi (3 : Int32), vr y] []) (fun _ _ A kq => XS.ifYes A hx rfl (pc0 := 7) (pc' := 22) rfl (hb hby d418) rfl ((if0 _ _).trans (feq (by decide)).2) (by decide) (by decide) kq) ?_
  refine uAN 23 hx hby d419 rfl rfl rfl ?_
  refine uIN 24 hx hby d420 rfl rfl ?_
  have f2 := (P0.keep K1)
  refine gputF (host := "") hx (Or.inl (ow hw 89 rfl)) Via.refl q1_1 f2 (Or.inr ⟨(ow hw 90 rfl), rfl, hnm⟩) (ow hw 78 rfl) (ty := .int) (by decide) rfl rfl P4 (fun al => Safe.exa al f2 (by decide) (by decide)) 27 (hb hby d421) rfl ?_
  intro h3 W3 C3
  have z3 := C3.2.1
  have F3 := q1_1.same W3
  refine uAN 28 hx hby d422 rfl rfl rfl ?_
  refine uAN 29 hx hby d423 rfl rfl rfl ?_
  have f4 := (q1_2.other W3 (Or.inr (slot_ne (Or.inr (ow hw 92 rfl)) (Or.inr (ow hw 90 rfl)) (by decide) (t := (.object c8_)) (t' := .int) (by decide) (by decide))))
  have f5 := (f2.wr W3)
  refine gputF (host := "") hx (Or.inl (ow hw 91 rfl)) Via.refl f4 f5 (Or.inr ⟨(ow hw 92 rfl), rfl, hnm⟩) (ow hw 78 rfl) (ty := (.object c8_)) (by decide) rfl rfl P4 (fun al => Safe.exa al f5 (by decide) (by decide)) 32 (hb hby d424) rfl ?_
  intro h6 W6 C6
  have z6 := C6.2.1
  have F6 := f4.same W6
  have f8 := (F3.other W6 (Or.inr (slot_ne (Or.inr (ow hw 90 rfl)) (Or.inr (ow hw 92 rfl)) (by decide) (t := .int) (t' := (.object c8_)) (by decide) (by decide))))
  exact gretV hx hret (hb hby d425) (by decide) (by decide) (fun vq Cq => ⟨rfl, ((((Keep.refl h0 [x]).trans K1 (allS (Or.inl (List.mem_of_getElem? (i := 0) rfl)) all0)).wr W3 (Or.inl (List.mem_of_getElem? (i := 0) rfl))).wr W6 (Or.inl (List.mem_of_getElem? (i := 0) rfl))), f8, F6⟩)
theorem own_ncopies3 (l : Launch) (Z : State) (a0 : Array Value) (cx : Ctx Z a0) (ws : List Jvm.Cond) (y : Addr) (dz : Addr) (el : Addr) (ee : Addr) (em : Addr) (mr : Addr) (kd : ClassId) (ke : ClassId) (vm0 : Vm) (h0 : Heap) (X00 : Ext Z.heap h0) (hL : (OwnL Z dz el ee em mr kd ke)) :
    Met l mn437 jdk_79_method_76_code 2 (some (.object c16_)) ws ({ frames := 4, cells := 1, slots := 3, locals := 51 } : Room) Z consts_1 vm0 h0 #[(.int (3 : Int32)), (.ref y)] (fun rv vm h => ∃ (x : Addr), rv = some (.ref x) ∧ Keep h0 h [] ∧ h0.size ≤ x ∧ Exa Z h x c12_ ∧ Fld Z h x c12_ "n" "I" (.int (3 : Int32)) ∧ Fld Z h x c12_ "element" c0_ (.ref y)) := by
  obtain ⟨hw, hEL, ⟨zc, Scs, hzc⟩, ⟨fm, Sfm, hfm⟩, hL0⟩ := id cx
  have hSA := own_SA hw
  refine Met.of_walk (a0 := a0) #[vi (3 : Int32), vr y] (plainFor_of_name own_pn438) X00 hEL (fun m => by first | (simp [entryFrame, mkF, argsToLocals, Value.category]; done) | rfl) ?_
  intro p e s m below meth c vm hx hby hml hret hnm hC0 hW0
  obtain ⟨Sdz, Edz, Vdz, Sel, Eel, Fee, Vee, Fan, Sem, Eem, Mmr, Sas⟩ := id hL
  refine uIN 1 hx hby d428 rfl rfl ?_
  refine gs (mkF m 32 #[vi (3 : Int32), vr y] []) (fun _ _ A kq => XS.ifYes A hx rfl (pc0 := 1) (pc' := 32) rfl (hb hby d429) rfl ((if0 _ _).trans (flt (by decide)).2.1) (by decide) (by decide) kq) ?_
  refine gnewO hx (ow hw 77 rfl) (ow hw 78 rfl) (ow hw 79 rfl) 35 (hb hby d430) rfl (by decide) (by decide) ?_
  intro b1 h1 g1 E1 C1 A1 D1 n1 L1
  have z1 := C1.2.1
  have lt_b1 : h1.size > b1 := A1.lt
  have F1_modCount : Fld Z h1 b1 c10_ "modCount" "I" (.int (0 : Int32)) := D1 (Or.inl (ow hw 87 rfl)) (ty := .int) (by decide)
  have F1_n : Fld Z h1 b1 c12_ "n" "I" (.int (0 : Int32)) := D1 (Or.inr (ow hw 90 rfl)) (ty := .int) (by decide)
  have F1_element : Fld Z h1 b1 c12_ "element" c0_ .null := D1 (Or.inr (ow hw 92 rfl)) (ty := (.object c8_)) (by decide)
  refine uD 36 hx hby d431 rfl rfl ?_
  refine uIN 37 hx hby d432 rfl rfl ?_
  refine uAN 38 hx hby d433 rfl rfl rfl ?_
  refine ginfo fun _ _ O2 => ?_
  refine gcallI (y := mn426) hx rfl (ow hw 80 rfl) (ow hw 81 rfl) (ow hw 83 rfl) (by decide) (fun hZ H hEL => Pay.of_met (W := 1) (own_cplinit3 l Z a0 cx [] (b1) (y) (.null) (dz) (el) (ee) (em) (mr) (kd) (ke) vm h1 O2 A1 F1_modCount F1_n F1_element n1 (by first | assumption | decide | omega)) (ow hw 83 rfl) (ow hw 79 rfl) (by decide) (by decide) hZ H hEL) (a := b1) 41 (argsL := [(.int (3 : Int32)), (.ref y)]) (rest := [(.ref b1)]) (lenOf own_pd435 rfl) rfl rfl (Nat.le_of_eq rfl) (by rw [hml]; rfl) (hb hby d434) rfl (by decide) (by decide) ?_
  rintro _ vm2 h2 C2 ⟨rfl, K2, q2_0, q2_1⟩
  have z2 := C2.2.1
  refine gat (mkF m 41 #[vi (3 : Int32), vr y] [(.ref b1)]) rfl ?_
  have f4 := (A1.keep K2)
  exact gretA hx hret rfl rfl (hb hby d436) (by decide) (by decide) (fun vq Cq => ⟨b1, rfl, (((Keep.refl h0 []).ext E1).trans K2 (allS (Or.inr (by omega)) all0)), (by omega), f4, q2_0, q2_1⟩)
theorem own_cplsize3 (l : Launch) (Z : State) (a0 : Array Value) (cx : Ctx Z a0) (ws : List Jvm.Cond) (x : Addr) (vm0 : Vm) (h0 : Heap) (X00 : Ext Z.heap h0) (P0 : Fld Z h0 x c12_ "n" "I" (.int (3 : Int32))) :
    Met l mn442 jdk_2479_method_2_code 1 (some .int) ws ({ frames := 0, cells := 0, slots := 0, locals := 0 } : Room) Z consts_1 vm0 h0 #[(.ref x)] (fun rv vm h => rv = some (.int (3 : Int32)) ∧ h0 = h) := by
  obtain ⟨hw, hEL, ⟨zc, Scs, hzc⟩, ⟨fm, Sfm, hfm⟩, hL0⟩ := id cx
  have hSA := own_SA hw
  refine Met.of_walk (a0 := a0) #[vr x] (plainFor_of_name own_pn427) X00 hEL (fun m => by first | (simp [entryFrame, mkF, argsToLocals, Value.category]; done) | rfl) ?_
  intro p e s m below meth c vm hx hby hml hret hnm hC0 hW0
  have lt_x : h0.size > x := P0.lt
  refine uAN 1 hx hby d439 rfl rfl rfl ?_
  refine ggetF (host := "") hx (Or.inl (ow hw 89 rfl)) Via.refl P0 4 (hb hby d440) rfl ?_
  exact gretI hx hret (hb hby d441) (by decide) (by decide) (fun vq Cq => ⟨rfl, rfl⟩)
theorem own_cplempty3 (l : Launch) (Z : State) (a0 : Array Value) (cx : Ctx Z a0) (ws : List Jvm.Cond) (x : Addr) (vm0 : Vm) (h0 : Heap) (X00 : Ext Z.heap h0) (P0 : Exa Z h0 x c12_) (P1 : Fld Z h0 x c12_ "n" "I" (.int (3 : Int32))) :
    Met l mn451 jdk_22_method_4_code 1 (some .boolean) ws ({ frames := 1, cells := 0, slots := 0, locals := 12 } : Room) Z consts_1 vm0 h0 #[(.ref x)] (fun rv vm h => rv = some (.int (0 : Int32)) ∧ h0 = h) := by
  obtain ⟨hw, hEL, ⟨zc, Scs, hzc⟩, ⟨fm, Sfm, hfm⟩, hL0⟩ := id cx
  have hSA := own_SA hw
  refine Met.of_walk (a0 := a0) #[vr x] (plainFor_of_name own_pn4) X00 hEL (fun m => by first | (simp [entryFrame, mkF, argsToLocals, Value.category]; done) | rfl) ?_
  intro p e s m below meth c vm hx hby hml hret hnm hC0 hW0
  have lt_x : h0.size > x := P0.lt
  refine uAN 1 hx hby d443 rfl rfl rfl ?_
  refine ginfo fun _ _ O1 => ?_
  refine gcallV (y := mn446) (z := mn442) hx (ow hw 145 rfl) (ow hw 146 rfl) (nfSup (ow hw 122 rfl)) (ow hw 147 rfl) (ow hw 148 rfl) (by decide) (fun hZ H hEL => Pay.of_met (W := 0) (own_cplsize3 l Z a0 cx [] (x) vm h0 O1 P1) (ow hw 149 rfl) (ow hw 79 rfl) (by decide) (by decide) hZ H hEL) 4 (argsL := []) (rest := []) P0 (lenOf own_pd445 rfl) rfl rfl (Nat.le_of_eq rfl) (by rw [hml]; rfl) (hb hby d444) rfl (by decide) (by decide) ?_
  rintro _ vm1 h1 C1 ⟨rfl, rfl⟩
  have z1 := C1.2.1
  refine gat (mkF m 4 #[vr x] [(.int (3 : Int32))]) rfl ?_
  refine gs (mkF m 11 #[vr x] []) (fun _ _ A kq => XS.ifYes A hx rfl (pc0 := 4) (pc' := 11) rfl (hb hby d447) rfl ((if0 _ _).trans (feq (by decide)).2) (by decide) (by decide) kq) ?_
  refine gs (mkF m 12 #[vr x] [(.int (0 : Int32))]) (fun _ _ A kq => XS.iconst A hx rfl (hb hby d500) kq) ?_
  exact gretN (t := .boolean) hx hret (by simp) (hb hby d450) (by decide) (by decide) (fun vq Cq => ⟨rfl, rfl⟩)
theorem own_rc3 (l : Launch) (Z : State) (a0 : Array Value) (cx : Ctx Z a0) (ws : List Jvm.Cond)  (vm0 : Vm) (h0 : Heap) (X00 : Ext Z.heap h0)  :
    Met l mn510 jdk_65_method_30_code 3 none ws ({ frames := 0, cells := 0, slots := 0, locals := 0 } : Room) Z consts_1 vm0 h0 #[(.int (3 : Int32)), (.int (0 : Int32)), (.int (3 : Int32))] (fun rv vm h => rv = none ∧ h0 = h) := by
  obtain ⟨hw, hEL, ⟨zc, Scs, hzc⟩, ⟨fm, Sfm, hfm⟩, hL0⟩ := id cx
  have hSA := own_SA hw
  refine Met.of_walk (a0 := a0) #[vi (3 : Int32), vi (0 : Int32), vi (3 : Int32)] (plainFor_of_name own_pn189) X00 hEL (fun m => by first | (simp [entryFrame, mkF, argsToLocals, Value.category]; done) | rfl) ?_
  intro p e s m below meth c vm hx hby hml hret hnm hC0 hW0
  refine uIN 1 hx hby d501 rfl rfl ?_
  refine uIN 2 hx hby d502 rfl rfl ?_
  refine gs (mkF m 46 #[vi (3 : Int32), vi (0 : Int32), vi (3 : Int32)] []) (fun _ _ A kq => XS.icmpYes A hx rfl (pc0 := 2) (pc' := 46) rfl (hb hby d503) rfl (flt (by decide)).2.2.2 (by decide) (by decide) kq) ?_
  refine uIN 47 hx hby d504 rfl rfl ?_
  refine gs (mkF m 59 #[vi (3 : Int32), vi (0 : Int32), vi (3 : Int32)] []) (fun _ _ A kq => XS.ifYes A hx rfl (pc0 := 47) (pc' := 59) rfl (hb hby d505) rfl ((if0 _ _).trans (flt (by decide)).2.1) (by decide) (by decide) kq) ?_
  refine uIN 60 hx hby d506 rfl rfl ?_
  refine uIN 61 hx hby d507 rfl rfl ?_
  refine gs (mkF m 73 #[vi (3 : Int32), vi (0 : Int32), vi (3 : Int32)] []) (fun _ _ A kq => XS.icmpYes A hx rfl (pc0 := 61) (pc' := 73) rfl (hb hby d508) rfl (flt (by decide)).2.2.2 (by decide) (by decide) kq) ?_
  exact gretV hx hret (hb hby d509) (by decide) (by decide) (fun vq Cq => ⟨rfl, rfl⟩)
theorem own_fill3 (l : Launch) (Z : State) (a0 : Array Value) (cx : Ctx Z a0) (ws : List Jvm.Cond) (a : Addr) (ka : ClassId) (y : Addr) (vm0 : Vm) (h0 : Heap) (X00 : Ext Z.heap h0) (P0 : Arv Z h0 a ka (.object c8_) (3 : Int32) [.null, .null, .null] .null) (P1 : Z.heap.size ≤ a) (P2 : Exa Z h0 y c9_) (hov : (Ovr Z ka c8_)) :
    Met l mn529 jdk_65_method_118_code 5 none ws ({ frames := 1, cells := 0, slots := 0, locals := 14 } : Room) Z consts_1 vm0 h0 #[(.ref a), (.int (0 : Int32)), (.int (3 : Int32)), (.ref y)] (fun rv vm h => rv = none ∧ Keep h0 h [a] ∧ Arv Z h a ka (.object c8_) (3 : Int32) [(.ref y), (.ref y), (.ref y)] .null) := by
  obtain ⟨hw, hEL, ⟨zc, Scs, hzc⟩, ⟨fm, Sfm, hfm⟩, hL0⟩ := id cx
  have hSA := own_SA hw
  refine Met.of_walk (a0 := a0) #[vr a, vi (0 : Int32), vi (3 : Int32), vr y, un] (plainFor_of_name own_pn189) X00 hEL (fun m => by first | (simp [entryFrame, mkF, argsToLocals, Value.category]; done) | rfl) ?_
  intro p e s m below meth c vm hx hby hml hret hnm hC0 hW0
  have lt_a : h0.size > a := P0.lt
  have lt_y : h0.size > y := P2.lt
  refine uAN 1 hx hby d511 rfl rfl rfl ?_
  refine glen hx P0 2 (hb hby d512) rfl ?_
  refine uIN 3 hx hby d513 rfl rfl ?_
  refine uIN 4 hx hby d514 rfl rfl ?_
  refine ginfo fun _ _ O1 => ?_
  refine gcallS (y := mn510) hx (ow hw 305 rfl) (ow hw 306 rfl) (ow hw 246 rfl) (ow hw 307 rfl) (by decide) (fun hZ H hEL => Pay.of_met (W := 0) (own_rc3 l Z a0 cx []  vm h0 O1 ) (ow hw 307 rfl) (ow hw 246 rfl) (by decide) (by decide) hZ H hEL) 7 (argsL := [(.int (3 : Int32)), (.int (0 : Int32)), (.int (3 : Int32))]) (rest := []) (lenOf own_pd516 rfl) rfl rfl (Nat.le_of_eq rfl) (by rw [hml]; rfl) (hb hby d515) rfl (by decide) (by decide) ?_
  rintro _ vm1 h1 C1 ⟨rfl, rfl⟩
  have z1 := C1.2.1
  refine gat (mkF m 7 #[vr a, vi (0 : Int32), vi (3 : Int32), vr y, un] []) rfl ?_
  refine uIN 8 hx hby d517 rfl rfl ?_
  refine gs (mkF m 10 #[vr a, vi (0 : Int32), vi (3 : Int32), vr y, vi (0 : Int32)] []) (fun _ _ A kq => XS.istore A hx rfl (hb hby d518) rfl (l' := #[vr a, vi (0 : Int32), vi (3 : Int32), vr y, vi (0 : Int32)]) rfl kq) ?_
  refine uI 12 hx hby d519 rfl rfl ?_
  refine uIN 13 hx hby d520 rfl rfl ?_
  refine gs (mkF m 16 #[vr a, vi (0 : Int32), vi (3 : Int32), vr y, vi (0 : Int32)] []) (fun _ _ A kq => XS.icmpNo A hx rfl (hb hby d521) rfl (tlt (by decide)).2.1 kq) ?_
  refine uAN 17 hx hby d522 rfl rfl rfl ?_
  refine uI 19 hx hby d523 rfl rfl ?_
  refine uAN 20 hx hby d524 rfl rfl rfl ?_
  refine gstR hx P0 ⟨by decide, by decide⟩ (i := 0) rfl (Nat.le_of_ble_eq_true rfl) (Arv.sto P0 hov (Ins.of_exa P2 (ow hw 235 rfl))) rfl P1 21 (hb hby d525) rfl ?_
  intro h2 W2 C2 V2
  have z2 := C2.2.1
  replace V2 : Arv Z h2 a ka (.object c8_) (3 : Int32) [(.ref y), .null, .null] .null := V2
  refine gs (mkF m 24 #[vr a, vi (0 : Int32), vi (3 : Int32), vr y, vi (1 : Int32)] []) (fun _ _ A kq => XS.iinc A hx rfl (hb hby d526) rfl (l' := #[vr a, vi (0 : Int32), vi (3 : Int32), vr y, vi (1 : Int32)]) rfl kq) ?_
  refine uG 10 hx hby d527 (by decide) (by decide) ?_
  refine uI 12 hx hby d519 rfl rfl ?_
  refine uIN 13 hx hby d520 rfl rfl ?_
  refine gs (mkF m 16 #[vr a, vi (0 : Int32), vi (3 : Int32), vr y, vi (1 : Int32)] []) (fun _ _ A kq => XS.icmpNo A hx rfl (hb hby d521) rfl (tlt (by decide)).2.1 kq) ?_
  refine uAN 17 hx hby d522 rfl rfl rfl ?_
  refine uI 19 hx hby d523 rfl rfl ?_
  refine uAN 20 hx hby d524 rfl rfl rfl ?_
  have f4 := (P2.wr W2)
  refine gstR hx V2 ⟨by decide, by decide⟩ (i := 1) rfl (Nat.le_of_ble_eq_true rfl) (Arv.sto V2 hov (Ins.of_exa f4 (ow hw 235 rfl))) rfl P1 21 (hb hby d525) rfl ?_
  intro h3 W3 C3 V3
  have z3 := C3.2.1
  replace V3 : Arv Z h3 a ka (.object c8_) (3 : Int32) [(.ref y), (.ref y), .null] .null := V3
  refine gs (mkF m 24 #[vr a, vi (0 : Int32), vi (3 : Int32), vr y, vi (2 : Int32)] []) (fun _ _ A kq => XS.iinc A hx rfl (hb hby d526) rfl (l' := #[vr a, vi (0 : Int32), vi (3 : Int32), vr y, vi (2 : Int32)]) rfl kq) ?_
  refine uG 10 hx hby d527 (by decide) (by decide) ?_
  refine uI 12 hx hby d519 rfl rfl ?_
  refine uIN 13 hx hby d520 rfl rfl ?_
  refine gs (mkF m 16 #[vr a, vi (0 : Int32), vi (3 : Int32), vr y, vi (2 : Int32)] []) (fun _ _ A kq => XS.icmpNo A hx rfl (hb hby d521) rfl (tlt (by decide)).2.1 kq) ?_
  refine uAN 17 hx hby d522 rfl rfl rfl ?_
  refine uI 19 hx hby d523 rfl rfl ?_
  refine uAN 20 hx hby d524 rfl rfl rfl ?_
  have f6 := (f4.wr W3)
  refine gstR hx V3 ⟨by decide, by decide⟩ (i := 2) rfl (Nat.le_of_ble_eq_true rfl) (Arv.sto V3 hov (Ins.of_exa f6 (ow hw 235 rfl))) rfl P1 21 (hb hby d525) rfl ?_
  intro h5 W5 C5 V5
  have z5 := C5.2.1
  replace V5 : Arv Z h5 a ka (.object c8_) (3 : Int32) [(.ref y), (.ref y), (.ref y)] .null := V5
  refine gs (mkF m 24 #[vr a, vi (0 : Int32), vi (3 : Int32), vr y, vi (3 : Int32)] []) (fun _ _ A kq => XS.iinc A hx rfl (hb hby d526) rfl (l' := #[vr a, vi (0 : Int32), vi (3 : Int32), vr y, vi (3 : Int32)]) rfl kq) ?_
  refine uG 10 hx hby d527 (by decide) (by decide) ?_
  refine uI 12 hx hby d519 rfl rfl ?_
  refine uIN 13 hx hby d520 rfl rfl ?_
  refine gs (mkF m 27 #[vr a, vi (0 : Int32), vi (3 : Int32), vr y, vi (3 : Int32)] []) (fun _ _ A kq => XS.icmpYes A hx rfl (pc0 := 13) (pc' := 27) rfl (hb hby d521) rfl (flt (by decide)).2.1 (by decide) (by decide) kq) ?_
  exact gretV hx hret (hb hby d528) (by decide) (by decide) (fun vq Cq => ⟨rfl, ((((Keep.refl h0 [a]).wr W2 (Or.inl (List.mem_of_getElem? (i := 0) rfl))).wr W3 (Or.inl (List.mem_of_getElem? (i := 0) rfl))).wr W5 (Or.inl (List.mem_of_getElem? (i := 0) rfl))), V5⟩)
theorem own_cpltoarr3 (l : Launch) (Z : State) (a0 : Array Value) (cx : Ctx Z a0) (ws : List Jvm.Cond) (x : Addr) (y : Addr) (dz : Addr) (el : Addr) (ee : Addr) (em : Addr) (mr : Addr) (kd : ClassId) (ke : ClassId) (vm0 : Vm) (h0 : Heap) (X00 : Ext Z.heap h0) (P0 : Exa Z h0 x c12_) (P1 : Fld Z h0 x c12_ "n" "I" (.int (3 : Int32))) (P2 : Fld Z h0 x c12_ "element" c0_ (.ref y)) (P3 : Exa Z h0 y c9_) (hL : (OwnL Z dz el ee em mr kd ke)) :
    Met l mn547 jdk_2479_method_8_code 2 (some (.array (.object c8_))) ws ({ frames := 2, cells := 1, slots := 3, locals := 30 } : Room) Z consts_1 vm0 h0 #[(.ref x)] (fun rv vm h => ∃ (a : Addr), ∃ (ka : ClassId), rv = some (.ref a) ∧ Keep h0 h [] ∧ h0.size ≤ a ∧ Arv Z h a ka (.object c8_) (3 : Int32) [(.ref y), (.ref y), (.ref y)] .null) := by
  obtain ⟨hw, hEL, ⟨zc, Scs, hzc⟩, ⟨fm, Sfm, hfm⟩, hL0⟩ := id cx
  have hSA := own_SA hw
  refine Met.of_walk (a0 := a0) #[vr x, un] (plainFor_of_name own_pn427) X00 hEL (fun m => by first | (simp [entryFrame, mkF, argsToLocals, Value.category]; done) | rfl) ?_
  intro p e s m below meth c vm hx hby hml hret hnm hC0 hW0
  have lt_x : h0.size > x := P0.lt
  have lt_y : h0.size > y := P3.lt
  obtain ⟨Sdz, Edz, Vdz, Sel, Eel, Fee, Vee, Fan, Sem, Eem, Mmr, Sas⟩ := id hL
  refine uAN 1 hx hby d530 rfl rfl rfl ?_
  refine ggetF (host := "") hx (Or.inl (ow hw 89 rfl)) Via.refl P1 4 (hb hby d531) rfl ?_
  refine gnewR hx (ow hw 301 rfl) (ow hw 234 rfl) (n := (3 : Int32)) (by decide) (cap := 3) (by decide) (by decide) (ad := c3_) (by decide) 7 (hb hby d532) rfl (by decide) (by decide) ?_
  intro b1 h1 k1 g1 E1 C1 V1 A1 O1 n1 L1
  have z1 := C1.2.1
  have V1 : Arv Z h1 b1 k1 (.object c8_) (3 : Int32) [.null, .null, .null] .null := V1.pad (pad_rep [] .null 3)
  have lt_b1 : h1.size > b1 := V1.lt
  refine gs (mkF m 8 #[vr x, vr b1] []) (fun _ _ A kq => XS.astoreN A hx rfl (hb hby d533) rfl rfl (l' := #[vr x, vr b1]) rfl kq) ?_
  refine uAN 9 hx hby d534 rfl rfl rfl ?_
  have f2 := (P2.ext E1)
  refine ggetF (host := "") hx (Or.inl (ow hw 91 rfl)) Via.refl f2 12 (hb hby d535) rfl ?_
  refine gs (mkF m 15 #[vr x, vr b1] []) (fun _ _ A kq => XS.ifnullNo A hx rfl (hb hby d536) rfl kq) ?_
  refine uAN 16 hx hby d537 rfl rfl rfl ?_
  refine gs (mkF m 17 #[vr x, vr b1] [(.int (0 : Int32)), (.ref b1)]) (fun _ _ A kq => XS.iconst A hx rfl (hb hby d538) kq) ?_
  refine uAN 18 hx hby d539 rfl rfl rfl ?_
  have f3 := (P1.ext E1)
  refine ggetF (host := "") hx (Or.inl (ow hw 89 rfl)) Via.refl f3 21 (hb hby d540) rfl ?_
  refine uAN 22 hx hby d541 rfl rfl rfl ?_
  refine ggetF (host := "") hx (Or.inl (ow hw 91 rfl)) Via.refl f2 25 (hb hby d542) rfl ?_
  have f5 := (P3.ext E1)
  refine ginfo fun _ _ O4 => ?_
  refine gcallS (y := mn529) hx (ow hw 302 rfl) (ow hw 303 rfl) (ow hw 246 rfl) (ow hw 304 rfl) (by decide) (fun hZ H hEL => Pay.of_met (W := 0) (own_fill3 l Z a0 cx [] (b1) (k1) (y) vm h1 O4 V1 n1 f5 (by first | assumption | decide | omega)) (ow hw 304 rfl) (ow hw 246 rfl) (by decide) (by decide) hZ H hEL) 28 (argsL := [(.ref b1), (.int (0 : Int32)), (.int (3 : Int32)), (.ref y)]) (rest := []) (lenOf own_pd544 rfl) rfl rfl (Nat.le_of_eq rfl) (by rw [hml]; rfl) (hb hby d543) rfl (by decide) (by decide) ?_
  rintro _ vm4 h4 C4 ⟨rfl, K4, q4_0⟩
  have z4 := C4.2.1
  refine gat (mkF m 28 #[vr x, vr b1] []) rfl ?_
  refine uAN 29 hx hby d545 rfl rfl rfl ?_
  exact gretA hx hret rfl rfl (hb hby d546) (by decide) (by decide) (fun vq Cq => ⟨b1, k1, rfl, (((Keep.refl h0 []).ext E1).trans K4 (allS (Or.inr (by omega)) all0)), (by omega), q4_0⟩)
theorem own_lcC3 (l : Launch) (Z : State) (a0 : Array Value) (cx : Ctx Z a0) (ws : List Jvm.Cond) (x : Addr) (y : Addr) (dz : Addr) (el : Addr) (ee : Addr) (em : Addr) (mr : Addr) (kd : ClassId) (ke : ClassId) (vm0 : Vm) (h0 : Heap) (X00 : Ext Z.heap h0) (P0 : Exa Z h0 x c12_) (P1 : Fld Z h0 x c12_ "n" "I" (.int (3 : Int32))) (P2 : Fld Z h0 x c12_ "element" c0_ (.ref y)) (P3 : Exa Z h0 y c9_) (hL : (OwnL Z dz el ee em mr kd ke)) :
    Met l mn275 jdk_56_method_3_code 2 (some (.object c16_)) ws ({ frames := 7, cells := 3, slots := 8, locals := 90 } : Room) Z consts_1 vm0 h0 #[(.ref x)] (fun rv vm h => ∃ (r : Addr), ∃ (g : Addr), ∃ (kg : ClassId), rv = some (.ref r) ∧ Keep h0 h [] ∧ h0.size ≤ r ∧ Exa Z h r c15_ ∧ Fld Z h r c15_ "elements" c3_ (.ref g) ∧ Arv Z h g kg (.object c8_) (3 : Int32) [(.ref y), (.ref y), (.ref y)] .null) := by
  obtain ⟨hw, hEL, ⟨zc, Scs, hzc⟩, ⟨fm, Sfm, hfm⟩, hL0⟩ := id cx
  have hSA := own_SA hw
  refine Met.of_walk (a0 := a0) #[vr x, un] (plainFor_of_name own_pn256) X00 hEL (fun m => by first | (simp [entryFrame, mkF, argsToLocals, Value.category]; done) | rfl) ?_
  intro p e s m below meth c vm hx hby hml hret hnm hC0 hW0
  have lt_x : h0.size > x := P0.lt
  have lt_y : h0.size > y := P3.lt
  obtain ⟨Sdz, Edz, Vdz, Sel, Eel, Fee, Vee, Fan, Sem, Eem, Mmr, Sas⟩ := id hL
  refine uAN 1 hx hby d261 rfl rfl rfl ?_
  refine ginstN hx (ow hw 119 rfl) P0 (NSno (ow hw 138 rfl) (ow hw 317 rfl) (NS.step (ow hw 138 rfl) (NS.step (ow hw 121 rfl) (NS.step (ow hw 122 rfl) (NSroot (ow hw 123 rfl) (ow hw 317 rfl) (by decide)) (by decide)) (by decide)) (by decide)) (by decide)) 4 (hb hby d262) rfl ?_
  refine gs (mkF m 7 #[vr x, un] []) (fun _ _ A kq => XS.ifNo A hx rfl (hb hby d263) rfl ((if0 _ _).trans (teq (by decide)).2) kq) ?_
  refine uAN 8 hx hby d264 rfl rfl rfl ?_
  refine ginstN hx (ow hw 124 rfl) P0 (NSno (ow hw 138 rfl) (ow hw 277 rfl) (NS.step (ow hw 138 rfl) (NS.step (ow hw 121 rfl) (NS.step (ow hw 122 rfl) (NSroot (ow hw 123 rfl) (ow hw 277 rfl) (by decide)) (by decide)) (by decide)) (by decide)) (by decide)) 11 (hb hby d265) rfl ?_
  refine gs (mkF m 31 #[vr x, un] []) (fun _ _ A kq => XS.ifYes A hx rfl (pc0 := 11) (pc' := 31) rfl (hb hby d266) rfl ((if0 _ _).trans (teq (by decide)).1) (by decide) (by decide) kq) ?_
  refine uAN 32 hx hby d267 rfl rfl rfl ?_
  refine ginfo fun _ _ O1 => ?_
  refine gcallF (xi := mn270) (y := mn451) hx (ow hw 125 rfl) (ow hw 126 rfl) (fun _ _ hU => mvT hU (ow hw 127 rfl)) (ow hw 139 rfl) (ow hw 140 rfl) (ow hw 141 rfl) (ow hw 142 rfl) (ow hw 143 rfl) (by decide) (fun hZ H hEL => Pay.of_met (W := 0) (own_cplempty3 l Z a0 cx [] (x) vm h0 O1 P0 P1) (ow hw 144 rfl) (ow hw 50 rfl) (by decide) (by decide) hZ H hEL) 37 (argsL := []) (rest := []) P0 (lenOf own_pd269 rfl) rfl rfl (Nat.le_of_eq rfl) (by rw [hml]; rfl) (hb hby d268) rfl (by decide) (by decide) ?_
  rintro _ vm1 h1 C1 ⟨rfl, rfl⟩
  have z1 := C1.2.1
  refine gat (mkF m 37 #[vr x, un] [(.int (0 : Int32))]) rfl ?_
  refine gs (mkF m 44 #[vr x, un] []) (fun _ _ A kq => XS.ifYes A hx rfl (pc0 := 37) (pc' := 44) rfl (hb hby d271) rfl ((if0 _ _).trans (teq (by decide)).1) (by decide) (by decide) kq) ?_
  refine uAN 45 hx hby d286 rfl rfl rfl ?_
  refine ginfo fun _ _ O2 => ?_
  refine gcallF (xi := mn288) (y := mn547) hx (ow hw 236 rfl) (ow hw 237 rfl) (fun _ _ hU => mvT hU (ow hw 238 rfl)) (ow hw 296 rfl) (ow hw 297 rfl) (ow hw 298 rfl) (ow hw 299 rfl) (ow hw 143 rfl) (by decide) (fun hZ H hEL => Pay.of_met (W := 0) (own_cpltoarr3 l Z a0 cx [] (x) (y) (dz) (el) (ee) (em) (mr) (kd) (ke) vm1 h0 O2 P0 P1 P2 P3 (by first | assumption | decide | omega)) (ow hw 300 rfl) (ow hw 79 rfl) (by decide) (by decide) hZ H hEL) 50 (argsL := []) (rest := []) P0 (lenOf own_pd65 rfl) rfl rfl (Nat.le_of_eq rfl) (by rw [hml]; rfl) (hb hby d287) rfl (by decide) (by decide) ?_
  rintro _ vm2 h2 C2 ⟨a2, ka2, rfl, K2, q2_0, q2_1⟩
  have z2 := C2.2.1
  have lt_a2 : h2.size > a2 := q2_1.lt
  refine gat (mkF m 50 #[vr x, un] [(.ref a2)]) rfl ?_
  have f4 := (P3.keep K2)
  refine ginfo fun _ _ O3 => ?_
  refine gcallS (y := mn217) hx (ow hw 266 rfl) (ow hw 267 rfl) (ow hw 113 rfl) (ow hw 268 rfl) (by decide) (fun hZ H hEL => Pay.of_met (W := 0) (own_of3 l Z a0 cx [] (a2) (ka2) (y) (y) (y) (dz) (el) (ee) (em) (mr) (kd) (ke) vm2 h2 O3 q2_1 f4 f4 f4 (by first | assumption | decide | omega)) (ow hw 268 rfl) (ow hw 113 rfl) (by decide) (by decide) hZ H hEL) 53 (argsL := [(.ref a2)]) (rest := []) (lenOf own_pd259 rfl) rfl rfl (Nat.le_of_eq rfl) (by rw [hml]; rfl) (hb hby d289) rfl (by decide) (by decide) ?_
  rintro _ vm3 h3 C3 ⟨r3, g3, kg3, rfl, K3, q3_0, q3_1, q3_2, q3_3⟩
  have z3 := C3.2.1
  have lt_r3 : h3.size > r3 := q3_1.lt
  have lt_g3 : h3.size > g3 := q3_3.lt
  refine gat (mkF m 53 #[vr x, un] [(.ref r3)]) rfl ?_
  exact gretA hx hret rfl rfl (hb hby d290) (by decide) (by decide) (fun vq Cq => ⟨r3, g3, kg3, rfl, (((Keep.refl h0 []).trans K2 all0).trans K3 all0), (by omega), q3_1, q3_2, q3_3⟩)
theorem own_coC3 (l : Launch) (Z : State) (a0 : Array Value) (cx : Ctx Z a0) (ws : List Jvm.Cond) (x : Addr) (y : Addr) (dz : Addr) (el : Addr) (ee : Addr) (em : Addr) (mr : Addr) (kd : ClassId) (ke : ClassId) (vm0 : Vm) (h0 : Heap) (X00 : Ext Z.heap h0) (P0 : Exa Z h0 x c12_) (P1 : Fld Z h0 x c12_ "n" "I" (.int (3 : Int32))) (P2 : Fld Z h0 x c12_ "element" c0_ (.ref y)) (P3 : Exa Z h0 y c9_) (hL : (OwnL Z dz el ee em mr kd ke)) :
    Met l mn280 jdk_40_method_48_code 1 (some (.object c16_)) ws ({ frames := 8, cells := 3, slots := 8, locals := 103 } : Room) Z consts_1 vm0 h0 #[(.ref x)] (fun rv vm h => ∃ (r : Addr), ∃ (g : Addr), ∃ (kg : ClassId), rv = some (.ref r) ∧ Keep h0 h [] ∧ h0.size ≤ r ∧ Exa Z h r c15_ ∧ Fld Z h r c15_ "elements" c3_ (.ref g) ∧ Arv Z h g kg (.object c8_) (3 : Int32) [(.ref y), (.ref y), (.ref y)] .null) := by
  obtain ⟨hw, hEL, ⟨zc, Scs, hzc⟩, ⟨fm, Sfm, hfm⟩, hL0⟩ := id cx
  have hSA := own_SA hw
  refine Met.of_walk (a0 := a0) #[vr x] (plainFor_of_name own_pn110) X00 hEL (fun m => by first | (simp [entryFrame, mkF, argsToLocals, Value.category]; done) | rfl) ?_
  intro p e s m below meth c vm hx hby hml hret hnm hC0 hW0
  have lt_x : h0.size > x := P0.lt
  have lt_y : h0.size > y := P3.lt
  obtain ⟨Sdz, Edz, Vdz, Sel, Eel, Fee, Vee, Fan, Sem, Eem, Mmr, Sas⟩ := id hL
  refine uAN 1 hx hby d276 rfl rfl rfl ?_
  refine ginfo fun _ _ O1 => ?_
  refine gcallS (y := mn275) hx (ow hw 115 rfl) (ow hw 116 rfl) (ow hw 117 rfl) (ow hw 118 rfl) (by decide) (fun hZ H hEL => Pay.of_met (W := 0) (own_lcC3 l Z a0 cx [] (x) (y) (dz) (el) (ee) (em) (mr) (kd) (ke) vm h0 O1 P0 P1 P2 P3 (by first | assumption | decide | omega)) (ow hw 118 rfl) (ow hw 117 rfl) (by decide) (by decide) hZ H hEL) 4 (argsL := [(.ref x)]) (rest := []) (lenOf own_pd278 rfl) rfl rfl (Nat.le_of_eq rfl) (by rw [hml]; rfl) (hb hby d277) rfl (by decide) (by decide) ?_
  rintro _ vm1 h1 C1 ⟨r1, g1, kg1, rfl, K1, q1_0, q1_1, q1_2, q1_3⟩
  have z1 := C1.2.1
  have lt_r1 : h1.size > r1 := q1_1.lt
  have lt_g1 : h1.size > g1 := q1_3.lt
  refine gat (mkF m 4 #[vr x] [(.ref r1)]) rfl ?_
  exact gretA hx hret rfl rfl (hb hby d279) (by decide) (by decide) (fun vq Cq => ⟨r1, g1, kg1, rfl, ((Keep.refl h0 []).trans K1 all0), (by omega), q1_1, q1_2, q1_3⟩)
theorem own_scC3 (l : Launch) (Z : State) (a0 : Array Value) (cx : Ctx Z a0) (ws : List Jvm.Cond) (x : Addr) (sb : Addr) (u0 : Value) (u1 : Value) (u2 : Value) (kl : Addr) (al : Addr) (y : Addr) (d1 : Addr) (k1 : ClassId) (s0_ : Addr) (s1_ : Addr) (s2_ : Addr) (dz : Addr) (el : Addr) (ee : Addr) (em : Addr) (mr : Addr) (kd : ClassId) (ke : ClassId) (vm0 : Vm) (h0 : Heap) (X00 : Ext Z.heap h0) (P0 : Exa Z h0 x c6_) (P1 : Fld Z h0 x c6_ "source" c1_ u0) (P2 : Fld Z h0 x c6_ "keys" c2_ u1) (P3 : Fld Z h0 x c6_ "args" c2_ u2) (P4 : Z.heap.size ≤ x) (P5 : Exa Z h0 kl c11_) (P6 : Fld Z h0 kl c11_ c7_ c3_ (.ref d1)) (P7 : Fld Z h0 kl c11_ "size" "I" (.int (3 : Int32))) (P8 : Arv Z h0 d1 k1 (.object c8_) (10 : Int32) [(.ref s0_), (.ref s1_), (.ref s2_), .null, .null, .null, .null, .null, .null, .null] .null) (P9 : Exa Z h0 d1 c3_) (hov : (Ovr Z k1 c8_)) (P11 : Exa Z h0 s0_ c9_) (P12 : Exa Z h0 s1_ c9_) (P13 : Exa Z h0 s2_ c9_) (P14 : Exa Z h0 al c12_) (P15 : Fld Z h0 al c12_ "n" "I" (.int (3 : Int32))) (P16 : Fld Z h0 al c12_ "element" c0_ (.ref y)) (P17 : Exa Z h0 y c9_) (hL : (OwnL Z dz el ee em mr kd ke)) :
    Met l mn470 prog_31_method_1_code 4 none ws ({ frames := 9, cells := 6, slots := 16, locals := 115 } : Room) Z consts_1 vm0 h0 #[(.ref x), (.ref sb), (.ref kl), (.ref al)] (fun rv vm h => ∃ (r1 : Addr), ∃ (g1 : Addr), ∃ (kg1 : ClassId), ∃ (r2 : Addr), ∃ (g2 : Addr), ∃ (kg2 : ClassId), rv = none ∧ Keep h0 h [x] ∧ Fld Z h x c6_ "source" c1_ (.ref sb) ∧ Fld Z h x c6_ "keys" c2_ (.ref r1) ∧ Fld Z h x c6_ "args" c2_ (.ref r2) ∧ Exa Z h r1 c15_ ∧ Fld Z h r1 c15_ "elements" c3_ (.ref g1) ∧ Arv Z h g1 kg1 (.object c8_) (3 : Int32) [(.ref s0_), (.ref s1_), (.ref s2_)] .null ∧ Exa Z h r2 c15_ ∧ Fld Z h r2 c15_ "elements" c3_ (.ref g2) ∧ Arv Z h g2 kg2 (.object c8_) (3 : Int32) [(.ref y), (.ref y), (.ref y)] .null) := by
  obtain ⟨hw, hEL, ⟨zc, Scs, hzc⟩, ⟨fm, Sfm, hfm⟩, hL0⟩ := id cx
  have hSA := own_SA hw
  refine Met.of_walk (a0 := a0) #[vr x, vr sb, vr kl, vr al] (plainFor_of_name own_pn397) X00 hEL (fun m => by first | (simp [entryFrame, mkF, argsToLocals, Value.category]; done) | rfl) ?_
  intro p e s m below meth c vm hx hby hml hret hnm hC0 hW0
  have lt_x : h0.size > x := P0.lt
  have lt_kl : h0.size > kl := P5.lt
  have lt_d1 : h0.size > d1 := P8.lt
  have lt_s0_ : h0.size > s0_ := P11.lt
  have lt_s1_ : h0.size > s1_ := P12.lt
  have lt_s2_ : h0.size > s2_ := P13.lt
  have lt_al : h0.size > al := P14.lt
  have lt_y : h0.size > y := P17.lt
  obtain ⟨Sdz, Edz, Vdz, Sel, Eel, Fee, Vee, Fan, Sem, Eem, Mmr, Sas⟩ := id hL
  refine uAN 1 hx hby d452 rfl rfl rfl ?_
  refine ginfo fun _ _ O1 => ?_
  refine gcallI (y := mn391) hx rfl (ow hw 105 rfl) (ow hw 106 rfl) (ow hw 109 rfl) (by decide) (fun hZ H hEL => Pay.of_met (W := 0) (own_record l Z a0 cx [] (x) vm h0 O1 ) (ow hw 109 rfl) (ow hw 108 rfl) (by decide) (by decide) hZ H hEL) (a := x) 4 (argsL := []) (rest := []) (lenOf own_pd7 rfl) rfl rfl (Nat.le_of_eq rfl) (by rw [hml]; rfl) (hb hby d453) rfl (by decide) (by decide) ?_
  rintro _ vm1 h1 C1 ⟨rfl, rfl⟩
  have z1 := C1.2.1
  refine gat (mkF m 4 #[vr x, vr sb, vr kl, vr al] []) rfl ?_
  refine uAN 5 hx hby d454 rfl rfl rfl ?_
  refine ginfo fun _ _ O2 => ?_
  refine gcallS (y := mn280) hx (ow hw 111 rfl) (ow hw 112 rfl) (ow hw 113 rfl) (ow hw 114 rfl) (by decide) (fun hZ H hEL => Pay.of_met (W := 0) (own_copy3 l Z a0 cx [] (kl) (d1) (k1) (s0_) (s1_) (s2_) (dz) (el) (ee) (em) (mr) (kd) (ke) vm1 h0 O2 P5 P6 P7 P8 P9 (by first | assumption | decide | omega) P11 P12 P13 (by first | assumption | decide | omega)) (ow hw 114 rfl) (ow hw 113 rfl) (by decide) (by decide) hZ H hEL) 8 (argsL := [(.ref kl)]) (rest := []) (lenOf own_pd278 rfl) rfl rfl (Nat.le_of_eq rfl) (by rw [hml]; rfl) (hb hby d455) rfl (by decide) (by decide) ?_
  rintro _ vm2 h2 C2 ⟨r2, g2, kg2, rfl, K2, q2_0, q2_1, q2_2, q2_3⟩
  have z2 := C2.2.1
  have lt_r2 : h2.size > r2 := q2_1.lt
  have lt_g2 : h2.size > g2 := q2_3.lt
  refine gat (mkF m 8 #[vr x, vr sb, vr kl, vr al] [(.ref r2)]) rfl ?_
  refine gs (mkF m 9 #[vr x, vr sb, vr r2, vr al] []) (fun _ _ A kq => XS.astoreN A hx rfl (hb hby d456) rfl rfl (l' := #[vr x, vr sb, vr r2, vr al]) rfl kq) ?_
  refine uAN 10 hx hby d457 rfl rfl rfl ?_
  have f4 := (P14.keep K2)
  have f5 := (P15.keep K2 nin0)
  have f6 := (P16.keep K2 nin0)
  have f7 := (P17.keep K2)
  refine ginfo fun _ _ O3 => ?_
  refine gcallS (y := mn280) hx (ow hw 111 rfl) (ow hw 112 rfl) (ow hw 113 rfl) (ow hw 114 rfl) (by decide) (fun hZ H hEL => Pay.of_met (W := 0) (own_coC3 l Z a0 cx [] (al) (y) (dz) (el) (ee) (em) (mr) (kd) (ke) vm2 h2 O3 f4 f5 f6 f7 (by first | assumption | decide | omega)) (ow hw 114 rfl) (ow hw 113 rfl) (by decide) (by decide) hZ H hEL) 13 (argsL := [(.ref al)]) (rest := []) (lenOf own_pd278 rfl) rfl rfl (Nat.le_of_eq rfl) (by rw [hml]; rfl) (hb hby d458) rfl (by decide) (by decide) ?_
  rintro _ vm3 h3 C3 ⟨r3, g3, kg3, rfl, K3, q3_0, q3_1, q3_2, q3_3⟩
  have z3 := C3.2.1
  have lt_r3 : h3.size > r3 := q3_1.lt
  have lt_g3 : h3.size > g3 := q3_3.lt
  refine gat (mkF m 13 #[vr x, vr sb, vr r2, vr al] [(.ref r3)]) rfl ?_
  refine gs (mkF m 14 #[vr x, vr sb, vr r2, vr r3] []) (fun _ _ A kq => XS.astoreN A hx rfl (hb hby d459) rfl rfl (l' := #[vr x, vr sb, vr r2, vr r3]) rfl kq) ?_
  refine uAN 15 hx hby d460 rfl rfl rfl ?_
  refine uAN 16 hx hby d461 rfl rfl rfl ?_
  have f8 := ((P1.keep K2 nin0).keep K3 nin0)
  have f9 := ((P0.keep K2).keep K3)
  refine gputF (host := "") hx (Or.inl (ow hw 150 rfl)) Via.refl f8 f9 (Or.inr ⟨(ow hw 151 rfl), rfl, hnm⟩) (ow hw 97 rfl) (ty := (.object c9_)) (by decide) rfl rfl P4 (fun al => Safe.exa al f9 (by decide) (by decide)) 19 (hb hby d462) rfl ?_
  intro h10 W10 C10
  have z10 := C10.2.1
  have F10 := f8.same W10
  refine uAN 20 hx hby d463 rfl rfl rfl ?_
  refine uAN 21 hx hby d464 rfl rfl rfl ?_
  have f11 := (((P2.keep K2 nin0).keep K3 nin0).other W10 (Or.inr (slot_ne (Or.inr (ow hw 153 rfl)) (Or.inr (ow hw 151 rfl)) (by decide) (t := (.object c16_)) (t' := (.object c9_)) (by decide) (by decide))))
  have f12 := (f9.wr W10)
  refine gputF (host := "") hx (Or.inl (ow hw 152 rfl)) Via.refl f11 f12 (Or.inr ⟨(ow hw 153 rfl), rfl, hnm⟩) (ow hw 97 rfl) (ty := (.object c16_)) (by decide) rfl rfl P4 (fun al => Safe.exa al f12 (by decide) (by decide)) 24 (hb hby d465) rfl ?_
  intro h13 W13 C13
  have z13 := C13.2.1
  have F13 := f11.same W13
  refine uAN 25 hx hby d466 rfl rfl rfl ?_
  refine uAN 26 hx hby d467 rfl rfl rfl ?_
  have f14 := ((((P3.keep K2 nin0).keep K3 nin0).other W10 (Or.inr (slot_ne (Or.inr (ow hw 155 rfl)) (Or.inr (ow hw 151 rfl)) (by decide) (t := (.object c16_)) (t' := (.object c9_)) (by decide) (by decide)))).other W13 (Or.inr (slot_ne (Or.inr (ow hw 155 rfl)) (Or.inr (ow hw 153 rfl)) (by decide) (t := (.object c16_)) (t' := (.object c16_)) (by decide) (by decide))))
  have f15 := (f12.wr W13)
  refine gputF (host := "") hx (Or.inl (ow hw 154 rfl)) Via.refl f14 f15 (Or.inr ⟨(ow hw 155 rfl), rfl, hnm⟩) (ow hw 97 rfl) (ty := (.object c16_)) (by decide) rfl rfl P4 (fun al => Safe.exa al f15 (by decide) (by decide)) 29 (hb hby d468) rfl ?_
  intro h16 W16 C16
  have z16 := C16.2.1
  have F16 := f14.same W16
  have f18 := ((F10.other W13 (Or.inr (slot_ne (Or.inr (ow hw 151 rfl)) (Or.inr (ow hw 153 rfl)) (by decide) (t := (.object c9_)) (t' := (.object c16_)) (by decide) (by decide)))).other W16 (Or.inr (slot_ne (Or.inr (ow hw 151 rfl)) (Or.inr (ow hw 155 rfl)) (by decide) (t := (.object c9_)) (t' := (.object c16_)) (by decide) (by decide))))
  have f19 := (F13.other W16 (Or.inr (slot_ne (Or.inr (ow hw 153 rfl)) (Or.inr (ow hw 155 rfl)) (by decide) (t := (.object c16_)) (t' := (.object c16_)) (by decide) (by decide))))
  have f20 := ((((q2_1.keep K3).wr W10).wr W13).wr W16)
  have f21 := ((((q2_2.keep K3 nin0).other W10 (Or.inl (Nat.ne_of_gt (by omega)))).other W13 (Or.inl (Nat.ne_of_gt (by omega)))).other W16 (Or.inl (Nat.ne_of_gt (by omega))))
  have f22 := ((((q2_3.keep K3 nin0).other W10 (Ne.symm (Exa.neArv (P0.keep K2) q2_3 (ow hw 97 rfl)))).other W13 (Ne.symm (Exa.neArv (P0.keep K2) q2_3 (ow hw 97 rfl)))).other W16 (Ne.symm (Exa.neArv (P0.keep K2) q2_3 (ow hw 97 rfl))))
  have f23 := (((q3_1.wr W10).wr W13).wr W16)
  have f24 := (((q3_2.other W10 (Or.inl (Nat.ne_of_gt (by omega)))).other W13 (Or.inl (Nat.ne_of_gt (by omega)))).other W16 (Or.inl (Nat.ne_of_gt (by omega))))
  have f25 := (((q3_3.other W10 (Ne.symm (Exa.neArv f9 q3_3 (ow hw 97 rfl)))).other W13 (Ne.symm (Exa.neArv f9 q3_3 (ow hw 97 rfl)))).other W16 (Ne.symm (Exa.neArv f9 q3_3 (ow hw 97 rfl))))
  exact gretV hx hret (hb hby d469) (by decide) (by decide) (fun vq Cq => ⟨r2, g2, kg2, r3, g3, kg3, rfl, ((((((Keep.refl h0 [x]).trans K2 all0).trans K3 all0).wr W10 (Or.inl (List.mem_of_getElem? (i := 0) rfl))).wr W13 (Or.inl (List.mem_of_getElem? (i := 0) rfl))).wr W16 (Or.inl (List.mem_of_getElem? (i := 0) rfl))), f18, f19, F16, f20, f21, f22, f23, f24, f25⟩)
theorem own_relC3 (l : Launch) (Z : State) (a0 : Array Value) (cx : Ctx Z a0) (ws : List Jvm.Cond) (kl : Addr) (al : Addr) (y : Addr) (d1 : Addr) (k1 : ClassId) (s0_ : Addr) (s1_ : Addr) (s2_ : Addr) (dz : Addr) (el : Addr) (ee : Addr) (em : Addr) (mr : Addr) (kd : ClassId) (ke : ClassId) (vm0 : Vm) (h0 : Heap) (X00 : Ext Z.heap h0) (P0 : Exa Z h0 kl c11_) (P1 : Fld Z h0 kl c11_ c7_ c3_ (.ref d1)) (P2 : Fld Z h0 kl c11_ "size" "I" (.int (3 : Int32))) (P3 : Arv Z h0 d1 k1 (.object c8_) (10 : Int32) [(.ref s0_), (.ref s1_), (.ref s2_), .null, .null, .null, .null, .null, .null, .null] .null) (P4 : Exa Z h0 d1 c3_) (hov : (Ovr Z k1 c8_)) (P6 : Exa Z h0 s0_ c9_) (P7 : Exa Z h0 s1_ c9_) (P8 : Exa Z h0 s2_ c9_) (P9 : Exa Z h0 al c12_) (P10 : Fld Z h0 al c12_ "n" "I" (.int (3 : Int32))) (P11 : Fld Z h0 al c12_ "element" c0_ (.ref y)) (P12 : Exa Z h0 y c9_) (hL : (OwnL Z dz el ee em mr kd ke)) :
    Met l mn479 prog_21_method_4_code 2 (some (.object c6_)) ws ({ frames := 10, cells := 9, slots := 847, locals := 131 } : Room) Z consts_1 vm0 h0 #[(.ref kl), (.ref al)] (fun rv vm h => ∃ (r : Addr), ∃ (sb : Addr), ∃ (tb : Addr), ∃ (r1 : Addr), ∃ (g1 : Addr), ∃ (kg1 : ClassId), ∃ (r2 : Addr), ∃ (g2 : Addr), ∃ (kg2 : ClassId), rv = some (.ref r) ∧ Keep h0 h [] ∧ Exa Z h r c6_ ∧ Str Z h sb tb own_rel ∧ Fld Z h r c6_ "source" c1_ (.ref sb) ∧ Fld Z h r c6_ "keys" c2_ (.ref r1) ∧ Fld Z h r c6_ "args" c2_ (.ref r2) ∧ Exa Z h r1 c15_ ∧ Fld Z h r1 c15_ "elements" c3_ (.ref g1) ∧ Arv Z h g1 kg1 (.object c8_) (3 : Int32) [(.ref s0_), (.ref s1_), (.ref s2_)] .null ∧ Exa Z h r2 c15_ ∧ Fld Z h r2 c15_ "elements" c3_ (.ref g2) ∧ Arv Z h g2 kg2 (.object c8_) (3 : Int32) [(.ref y), (.ref y), (.ref y)] .null ∧ Lit (Z.setVm vm) c5_ 40 sb) := by
  obtain ⟨hw, hEL, ⟨zc, Scs, hzc⟩, ⟨fm, Sfm, hfm⟩, hL0⟩ := id cx
  have hSA := own_SA hw
  refine Met.of_walk (a0 := a0) #[vr kl, vr al] (plainFor_of_name own_pn480) X00 hEL (fun m => by first | (simp [entryFrame, mkF, argsToLocals, Value.category]; done) | rfl) ?_
  intro p e s m below meth c vm hx hby hml hret hnm hC0 hW0
  have lt_kl : h0.size > kl := P0.lt
  have lt_d1 : h0.size > d1 := P3.lt
  have lt_s0_ : h0.size > s0_ := P6.lt
  have lt_s1_ : h0.size > s1_ := P7.lt
  have lt_s2_ : h0.size > s2_ := P8.lt
  have lt_al : h0.size > al := P9.lt
  have lt_y : h0.size > y := P12.lt
  obtain ⟨Sdz, Edz, Vdz, Sel, Eel, Fee, Vee, Fan, Sem, Eem, Mmr, Sas⟩ := id hL
  refine gnewO hx (ow hw 96 rfl) (ow hw 97 rfl) (ow hw 98 rfl) 3 (hb hby d471) rfl (by decide) (by decide) ?_
  intro b1 h1 g1 E1 C1 A1 D1 n1 L1
  have z1 := C1.2.1
  have lt_b1 : h1.size > b1 := A1.lt
  have F1_source : Fld Z h1 b1 c6_ "source" c1_ .null := D1 (Or.inr (ow hw 151 rfl)) (ty := (.object c9_)) (by decide)
  have F1_keys : Fld Z h1 b1 c6_ "keys" c2_ .null := D1 (Or.inr (ow hw 153 rfl)) (ty := (.object c16_)) (by decide)
  have F1_args : Fld Z h1 b1 c6_ "args" c2_ .null := D1 (Or.inr (ow hw 155 rfl)) (ty := (.object c16_)) (by decide)
  refine uD 4 hx hby d472 rfl rfl ?_
  refine gldcL hx (ow hw 99 rfl) hSA (by decide) (n := 824) (by decide) (by decide) (vs := own_relV) (z := (206 : Int32)) (by decide +kernel) (by decide) (by decide) 6 (hb hby d473) rfl (by decide) (by decide) ?_
  intro b2 t2 k2 vm2 h2 E2 C2 Q2a Q2b Q2c Q2d Q2e FL2
  have z2 := C2.2.1
  have S2 : Str Z h2 b2 t2 own_rel := Str.lit Q2a Q2b Q2c Q2d (by decide) rfl rfl (by decide)
  have lt_b2 : h2.size > b2 := S2.1.lt
  have lt_t2 : h2.size > t2 := S2.tlt
  have f3 := (C2.safe (show h1.size > b1 by omega) L1)
  have ne2_b1 := Q2e b1 f3
  refine uAN 7 hx hby d474 rfl rfl rfl ?_
  refine uAN 8 hx hby d475 rfl rfl rfl ?_
  have f5 := (A1.ext E2)
  have f6 := (F1_source.ext E2)
  have f7 := (F1_keys.ext E2)
  have f8 := (F1_args.ext E2)
  have f9 := ((P0.ext E1).ext E2)
  have f10 := ((P1.ext E1).ext E2)
  have f11 := ((P2.ext E1).ext E2)
  have f12 := ((P3.ext E1).ext E2)
  have f13 := ((P4.ext E1).ext E2)
  have f14 := ((P6.ext E1).ext E2)
  have f15 := ((P7.ext E1).ext E2)
  have f16 := ((P8.ext E1).ext E2)
  have f17 := ((P9.ext E1).ext E2)
  have f18 := ((P10.ext E1).ext E2)
  have f19 := ((P11.ext E1).ext E2)
  have f20 := ((P12.ext E1).ext E2)
  refine ginfo fun _ _ O4 => ?_
  refine gcallIW (y := mn470) hx rfl (ow hw 102 rfl) (ow hw 103 rfl) (ow hw 104 rfl) (by decide) (fun hZ H hEL => Pay.of_met (W := 1) (own_scC3 l Z a0 cx [] (b1) (b2) (.null) (.null) (.null) (kl) (al) (y) (d1) (k1) (s0_) (s1_) (s2_) (dz) (el) (ee) (em) (mr) (kd) (ke) vm2 h2 O4 f5 f6 f7 f8 n1 f9 f10 f11 f12 f13 (by first | assumption | decide | omega) f14 f15 f16 f17 f18 f19 f20 (by first | assumption | decide | omega)) (ow hw 104 rfl) (ow hw 98 rfl) (by decide) (by decide) hZ H hEL) (a := b1) 11 (argsL := [(.ref b2), (.ref kl), (.ref al)]) (rest := [(.ref b1)]) (lenOf own_pd477 rfl) rfl rfl (Nat.le_of_eq rfl) (by rw [hml]; rfl) (hb hby d476) rfl (by decide) (by decide) ?_
  rintro _ vm4 h4 WM4 C4 ⟨r14, g14, kg14, r24, g24, kg24, rfl, K4, q4_0, q4_1, q4_2, q4_3, q4_4, q4_5, q4_6, q4_7, q4_8⟩
  have z4 := C4.2.1
  have lt_r14 : h4.size > r14 := q4_3.lt
  have lt_g14 : h4.size > g14 := q4_5.lt
  have lt_r24 : h4.size > r24 := q4_6.lt
  have lt_g24 : h4.size > g24 := q4_8.lt
  refine gat (mkF m 11 #[vr kl, vr al] [(.ref b1)]) rfl ?_
  have f22 := (f5.keep K4)
  have f23 := (S2.keep K4 (ninS (Ne.symm ne2_b1.1) nin0) (ninS (Ne.symm ne2_b1.2) nin0))
  exact gretAW hx hret rfl rfl (hb hby d478) (by decide) (by decide) (fun vq Wq Cq => ⟨b1, b2, t2, r14, g14, kg14, r24, g24, kg24, rfl, ((((Keep.refl h0 []).ext E1).ext E2).trans K4 (allS (Or.inr (by omega)) all0)), f22, f23, q4_0, q4_1, q4_2, q4_3, q4_4, q4_5, q4_6, q4_7, q4_8, (State.resolvedAt?_warmed39 Wq (State.resolvedAt?_warmed39 WM4 FL2))⟩)
theorem own_rel1_3 (l : Launch) (Z : State) (a0 : Array Value) (cx : Ctx Z a0) (ws : List Jvm.Cond) (kl : Addr) (y : Addr) (d1 : Addr) (k1 : ClassId) (s0_ : Addr) (s1_ : Addr) (s2_ : Addr) (dz : Addr) (el : Addr) (ee : Addr) (em : Addr) (mr : Addr) (kd : ClassId) (ke : ClassId) (vm0 : Vm) (h0 : Heap) (X00 : Ext Z.heap h0) (P0 : Exa Z h0 kl c11_) (P1 : Fld Z h0 kl c11_ c7_ c3_ (.ref d1)) (P2 : Fld Z h0 kl c11_ "size" "I" (.int (3 : Int32))) (P3 : Arv Z h0 d1 k1 (.object c8_) (10 : Int32) [(.ref s0_), (.ref s1_), (.ref s2_), .null, .null, .null, .null, .null, .null, .null] .null) (P4 : Exa Z h0 d1 c3_) (hov : (Ovr Z k1 c8_)) (P6 : Exa Z h0 s0_ c9_) (P7 : Exa Z h0 s1_ c9_) (P8 : Exa Z h0 s2_ c9_) (P9 : Exa Z h0 y c9_) (hL : (OwnL Z dz el ee em mr kd ke)) :
    Met l mn491 prog_21_method_3_code 2 (some (.object c6_)) ws ({ frames := 11, cells := 10, slots := 850, locals := 144 } : Room) Z consts_1 vm0 h0 #[(.ref kl), (.ref y)] (fun rv vm h => ∃ (r : Addr), ∃ (sb : Addr), ∃ (tb : Addr), ∃ (r1 : Addr), ∃ (g1 : Addr), ∃ (kg1 : ClassId), ∃ (r2 : Addr), ∃ (g2 : Addr), ∃ (kg2 : ClassId), rv = some (.ref r) ∧ Keep h0 h [] ∧ Exa Z h r c6_ ∧ Str Z h sb tb own_rel ∧ Fld Z h r c6_ "source" c1_ (.ref sb) ∧ Fld Z h r c6_ "keys" c2_ (.ref r1) ∧ Fld Z h r c6_ "args" c2_ (.ref r2) ∧ Exa Z h r1 c15_ ∧ Fld Z h r1 c15_ "elements" c3_ (.ref g1) ∧ Arv Z h g1 kg1 (.object c8_) (3 : Int32) [(.ref s0_), (.ref s1_), (.ref s2_)] .null ∧ Exa Z h r2 c15_ ∧ Fld Z h r2 c15_ "elements" c3_ (.ref g2) ∧ Arv Z h g2 kg2 (.object c8_) (3 : Int32) [(.ref y), (.ref y), (.ref y)] .null ∧ Lit (Z.setVm vm) c5_ 40 sb) := by
  obtain ⟨hw, hEL, ⟨zc, Scs, hzc⟩, ⟨fm, Sfm, hfm⟩, hL0⟩ := id cx
  have hSA := own_SA hw
  refine Met.of_walk (a0 := a0) #[vr kl, vr y] (plainFor_of_name own_pn480) X00 hEL (fun m => by first | (simp [entryFrame, mkF, argsToLocals, Value.category]; done) | rfl) ?_
  intro p e s m below meth c vm hx hby hml hret hnm hC0 hW0
  have lt_kl : h0.size > kl := P0.lt
  have lt_d1 : h0.size > d1 := P3.lt
  have lt_s0_ : h0.size > s0_ := P6.lt
  have lt_s1_ : h0.size > s1_ := P7.lt
  have lt_s2_ : h0.size > s2_ := P8.lt
  have lt_y : h0.size > y := P9.lt
  obtain ⟨Sdz, Edz, Vdz, Sel, Eel, Fee, Vee, Fan, Sem, Eem, Mmr, Sas⟩ := id hL
  refine uAN 1 hx hby d481 rfl rfl rfl ?_
  refine uAN 2 hx hby d482 rfl rfl rfl ?_
  refine ginfo fun _ _ O1 => ?_
  refine gcallF (xi := mn484) (y := mn98) hx (ow hw 62 rfl) (ow hw 63 rfl) (fun _ _ hU => mvT hU (ow hw 64 rfl)) (ow hw 65 rfl) (ow hw 66 rfl) (ow hw 67 rfl) (ow hw 68 rfl) (ow hw 69 rfl) (by decide) (fun hZ H hEL => Pay.of_met (W := 1) (own_alsize l Z a0 cx [] (kl) ((3 : Int32)) vm h0 O1 P2) (ow hw 70 rfl) (ow hw 36 rfl) (by decide) (by decide) hZ H hEL) 7 (argsL := []) (rest := [(.ref kl)]) P0 (lenOf own_pd445 rfl) rfl rfl (Nat.le_of_eq rfl) (by rw [hml]; rfl) (hb hby d483) rfl (by decide) (by decide) ?_
  rintro _ vm1 h1 C1 ⟨rfl, rfl⟩
  have z1 := C1.2.1
  refine gat (mkF m 7 #[vr kl, vr y] [(.int (3 : Int32)), (.ref kl)]) rfl ?_
  refine uAN 8 hx hby d485 rfl rfl rfl ?_
  refine ginfo fun _ _ O2 => ?_
  refine gcallS (y := mn437) hx (ow hw 73 rfl) (ow hw 74 rfl) (ow hw 75 rfl) (ow hw 76 rfl) (by decide) (fun hZ H hEL => Pay.of_met (W := 1) (own_ncopies3 l Z a0 cx [] (y) (dz) (el) (ee) (em) (mr) (kd) (ke) vm1 h0 O2 (by first | assumption | decide | omega)) (ow hw 76 rfl) (ow hw 75 rfl) (by decide) (by decide) hZ H hEL) 11 (argsL := [(.int (3 : Int32)), (.ref y)]) (rest := [(.ref kl)]) (lenOf own_pd487 rfl) rfl rfl (Nat.le_of_eq rfl) (by rw [hml]; rfl) (hb hby d486) rfl (by decide) (by decide) ?_
  rintro _ vm2 h2 C2 ⟨x2, rfl, K2, q2_0, q2_1, q2_2, q2_3⟩
  have z2 := C2.2.1
  have lt_x2 : h2.size > x2 := q2_1.lt
  refine gat (mkF m 11 #[vr kl, vr y] [(.ref x2), (.ref kl)]) rfl ?_
  have f4 := (P0.keep K2)
  have f5 := (P1.keep K2 nin0)
  have f6 := (P2.keep K2 nin0)
  have f7 := (P3.keep K2 nin0)
  have f8 := (P4.keep K2)
  have f9 := (P6.keep K2)
  have f10 := (P7.keep K2)
  have f11 := (P8.keep K2)
  have f12 := (P9.keep K2)
  refine ginfo fun _ _ O3 => ?_
  refine gcallS (y := mn479) hx (ow hw 93 rfl) (ow hw 94 rfl) (ow hw 60 rfl) (ow hw 95 rfl) (by decide) (fun hZ H hEL => Pay.of_met (W := 0) (own_relC3 l Z a0 cx [] (kl) (x2) (y) (d1) (k1) (s0_) (s1_) (s2_) (dz) (el) (ee) (em) (mr) (kd) (ke) vm2 h2 O3 f4 f5 f6 f7 f8 (by first | assumption | decide | omega) f9 f10 f11 q2_1 q2_2 q2_3 f12 (by first | assumption | decide | omega)) (ow hw 95 rfl) (ow hw 60 rfl) (by decide) (by decide) hZ H hEL) 14 (argsL := [(.ref kl), (.ref x2)]) (rest := []) (lenOf own_pd489 rfl) rfl rfl (Nat.le_of_eq rfl) (by rw [hml]; rfl) (hb hby d488) rfl (by decide) (by decide) ?_
  rintro _ vm3 h3 C3 ⟨r3, sb3, tb3, r13, g13, kg13, r23, g23, kg23, rfl, K3, q3_0, q3_1, q3_2, q3_3, q3_4, q3_5, q3_6, q3_7, q3_8, q3_9, q3_10, q3_11⟩
  have z3 := C3.2.1
  have lt_r3 : h3.size > r3 := q3_0.lt
  have lt_sb3 : h3.size > sb3 := q3_1.1.lt
  have lt_tb3 : h3.size > tb3 := q3_1.tlt
  have lt_r13 : h3.size > r13 := q3_5.lt
  have lt_g13 : h3.size > g13 := q3_7.lt
  have lt_r23 : h3.size > r23 := q3_8.lt
  have lt_g23 : h3.size > g23 := q3_10.lt
  refine gat (mkF m 14 #[vr kl, vr y] [(.ref r3)]) rfl ?_
  exact gretAW hx hret rfl rfl (hb hby d490) (by decide) (by decide) (fun vq Wq Cq => ⟨r3, sb3, tb3, r13, g13, kg13, r23, g23, kg23, rfl, (((Keep.refl h0 []).trans K2 all0).trans K3 all0), q3_0, q3_1, q3_2, q3_3, q3_4, q3_5, q3_6, q3_7, q3_8, q3_9, q3_10, (State.resolvedAt?_warmed39 Wq q3_11)⟩)
theorem own_scA3 (l : Launch) (Z : State) (a0 : Array Value) (cx : Ctx Z a0) (ws : List Jvm.Cond) (x : Addr) (sb : Addr) (u0 : Value) (u1 : Value) (u2 : Value) (kl : Addr) (al : Addr) (y : Addr) (d1 : Addr) (k1 : ClassId) (d2 : Addr) (k2 : ClassId) (s0_ : Addr) (s1_ : Addr) (s2_ : Addr) (dz : Addr) (el : Addr) (ee : Addr) (em : Addr) (mr : Addr) (kd : ClassId) (ke : ClassId) (vm0 : Vm) (h0 : Heap) (X00 : Ext Z.heap h0) (P0 : Exa Z h0 x c6_) (P1 : Fld Z h0 x c6_ "source" c1_ u0) (P2 : Fld Z h0 x c6_ "keys" c2_ u1) (P3 : Fld Z h0 x c6_ "args" c2_ u2) (P4 : Z.heap.size ≤ x) (P5 : Exa Z h0 kl c11_) (P6 : Fld Z h0 kl c11_ c7_ c3_ (.ref d1)) (P7 : Fld Z h0 kl c11_ "size" "I" (.int (3 : Int32))) (P8 : Arv Z h0 d1 k1 (.object c8_) (10 : Int32) [(.ref s0_), (.ref s1_), (.ref s2_), .null, .null, .null, .null, .null, .null, .null] .null) (P9 : Exa Z h0 d1 c3_) (hov : (Ovr Z k1 c8_)) (P11 : Exa Z h0 s0_ c9_) (P12 : Exa Z h0 s1_ c9_) (P13 : Exa Z h0 s2_ c9_) (P14 : Exa Z h0 al c11_) (P15 : Fld Z h0 al c11_ c7_ c3_ (.ref d2)) (P16 : Fld Z h0 al c11_ "size" "I" (.int (3 : Int32))) (P17 : Arv Z h0 d2 k2 (.object c8_) (10 : Int32) [(.ref y), (.ref y), (.ref y), .null, .null, .null, .null, .null, .null, .null] .null) (P18 : Exa Z h0 d2 c3_) (hov2 : (Ovr Z k2 c8_)) (P20 : Exa Z h0 y c9_) (hL : (OwnL Z dz el ee em mr kd ke)) :
    Met l mn470 prog_31_method_1_code 4 none ws ({ frames := 9, cells := 6, slots := 16, locals := 115 } : Room) Z consts_1 vm0 h0 #[(.ref x), (.ref sb), (.ref kl), (.ref al)] (fun rv vm h => ∃ (r1 : Addr), ∃ (g1 : Addr), ∃ (kg1 : ClassId), ∃ (r2 : Addr), ∃ (g2 : Addr), ∃ (kg2 : ClassId), rv = none ∧ Keep h0 h [x] ∧ Fld Z h x c6_ "source" c1_ (.ref sb) ∧ Fld Z h x c6_ "keys" c2_ (.ref r1) ∧ Fld Z h x c6_ "args" c2_ (.ref r2) ∧ Exa Z h r1 c15_ ∧ Fld Z h r1 c15_ "elements" c3_ (.ref g1) ∧ Arv Z h g1 kg1 (.object c8_) (3 : Int32) [(.ref s0_), (.ref s1_), (.ref s2_)] .null ∧ Exa Z h r2 c15_ ∧ Fld Z h r2 c15_ "elements" c3_ (.ref g2) ∧ Arv Z h g2 kg2 (.object c8_) (3 : Int32) [(.ref y), (.ref y), (.ref y)] .null) := by
  obtain ⟨hw, hEL, ⟨zc, Scs, hzc⟩, ⟨fm, Sfm, hfm⟩, hL0⟩ := id cx
  have hSA := own_SA hw
  refine Met.of_walk (a0 := a0) #[vr x, vr sb, vr kl, vr al] (plainFor_of_name own_pn397) X00 hEL (fun m => by first | (simp [entryFrame, mkF, argsToLocals, Value.category]; done) | rfl) ?_
  intro p e s m below meth c vm hx hby hml hret hnm hC0 hW0
  have lt_x : h0.size > x := P0.lt
  have lt_kl : h0.size > kl := P5.lt
  have lt_d1 : h0.size > d1 := P8.lt
  have lt_s0_ : h0.size > s0_ := P11.lt
  have lt_s1_ : h0.size > s1_ := P12.lt
  have lt_s2_ : h0.size > s2_ := P13.lt
  have lt_al : h0.size > al := P14.lt
  have lt_d2 : h0.size > d2 := P17.lt
  have lt_y : h0.size > y := P20.lt
  obtain ⟨Sdz, Edz, Vdz, Sel, Eel, Fee, Vee, Fan, Sem, Eem, Mmr, Sas⟩ := id hL
  refine uAN 1 hx hby d452 rfl rfl rfl ?_
  refine ginfo fun _ _ O1 => ?_
  refine gcallI (y := mn391) hx rfl (ow hw 105 rfl) (ow hw 106 rfl) (ow hw 109 rfl) (by decide) (fun hZ H hEL => Pay.of_met (W := 0) (own_record l Z a0 cx [] (x) vm h0 O1 ) (ow hw 109 rfl) (ow hw 108 rfl) (by decide) (by decide) hZ H hEL) (a := x) 4 (argsL := []) (rest := []) (lenOf own_pd7 rfl) rfl rfl (Nat.le_of_eq rfl) (by rw [hml]; rfl) (hb hby d453) rfl (by decide) (by decide) ?_
  rintro _ vm1 h1 C1 ⟨rfl, rfl⟩
  have z1 := C1.2.1
  refine gat (mkF m 4 #[vr x, vr sb, vr kl, vr al] []) rfl ?_
  refine uAN 5 hx hby d454 rfl rfl rfl ?_
  refine ginfo fun _ _ O2 => ?_
  refine gcallS (y := mn280) hx (ow hw 111 rfl) (ow hw 112 rfl) (ow hw 113 rfl) (ow hw 114 rfl) (by decide) (fun hZ H hEL => Pay.of_met (W := 0) (own_copy3 l Z a0 cx [] (kl) (d1) (k1) (s0_) (s1_) (s2_) (dz) (el) (ee) (em) (mr) (kd) (ke) vm1 h0 O2 P5 P6 P7 P8 P9 (by first | assumption | decide | omega) P11 P12 P13 (by first | assumption | decide | omega)) (ow hw 114 rfl) (ow hw 113 rfl) (by decide) (by decide) hZ H hEL) 8 (argsL := [(.ref kl)]) (rest := []) (lenOf own_pd278 rfl) rfl rfl (Nat.le_of_eq rfl) (by rw [hml]; rfl) (hb hby d455) rfl (by decide) (by decide) ?_
  rintro _ vm2 h2 C2 ⟨r2, g2, kg2, rfl, K2, q2_0, q2_1, q2_2, q2_3⟩
  have z2 := C2.2.1
  have lt_r2 : h2.size > r2 := q2_1.lt
  have lt_g2 : h2.size > g2 := q2_3.lt
  refine gat (mkF m 8 #[vr x, vr sb, vr kl, vr al] [(.ref r2)]) rfl ?_
  refine gs (mkF m 9 #[vr x, vr sb, vr r2, vr al] []) (fun _ _ A kq => XS.astoreN A hx rfl (hb hby d456) rfl rfl (l' := #[vr x, vr sb, vr r2, vr al]) rfl kq) ?_
  refine uAN 10 hx hby d457 rfl rfl rfl ?_
  have f4 := (P14.keep K2)
  have f5 := (P15.keep K2 nin0)
  have f6 := (P16.keep K2 nin0)
  have f7 := (P17.keep K2 nin0)
  have f8 := (P18.keep K2)
  have f9 := (P20.keep K2)
  refine ginfo fun _ _ O3 => ?_
  refine gcallS (y := mn280) hx (ow hw 111 rfl) (ow hw 112 rfl) (ow hw 113 rfl) (ow hw 114 rfl) (by decide) (fun hZ H hEL => Pay.of_met (W := 0) (own_copy3 l Z a0 cx [] (al) (d2) (k2) (y) (y) (y) (dz) (el) (ee) (em) (mr) (kd) (ke) vm2 h2 O3 f4 f5 f6 f7 f8 (by first | assumption | decide | omega) f9 f9 f9 (by first | assumption | decide | omega)) (ow hw 114 rfl) (ow hw 113 rfl) (by decide) (by decide) hZ H hEL) 13 (argsL := [(.ref al)]) (rest := []) (lenOf own_pd278 rfl) rfl rfl (Nat.le_of_eq rfl) (by rw [hml]; rfl) (hb hby d458) rfl (by decide) (by decide) ?_
  rintro _ vm3 h3 C3 ⟨r3, g3, kg3, rfl, K3, q3_0, q3_1, q3_2, q3_3⟩
  have z3 := C3.2.1
  have lt_r3 : h3.size > r3 := q3_1.lt
  have lt_g3 : h3.size > g3 := q3_3.lt
  refine gat (mkF m 13 #[vr x, vr sb, vr r2, vr al] [(.ref r3)]) rfl ?_
  refine gs (mkF m 14 #[vr x, vr sb, vr r2, vr r3] []) (fun _ _ A kq => XS.astoreN A hx rfl (hb hby d459) rfl rfl (l' := #[vr x, vr sb, vr r2, vr r3]) rfl kq) ?_
  refine uAN 15 hx hby d460 rfl rfl rfl ?_
  refine uAN 16 hx hby d461 rfl rfl rfl ?_
  have f10 := ((P1.keep K2 nin0).keep K3 nin0)
  have f11 := ((P0.keep K2).keep K3)
  refine gputF (host := "") hx (Or.inl (ow hw 150 rfl)) Via.refl f10 f11 (Or.inr ⟨(ow hw 151 rfl), rfl, hnm⟩) (ow hw 97 rfl) (ty := (.object c9_)) (by decide) rfl rfl P4 (fun al => Safe.exa al f11 (by decide) (by decide)) 19 (hb hby d462) rfl ?_
  intro h12 W12 C12
  have z12 := C12.2.1
  have F12 := f10.same W12
  refine uAN 20 hx hby d463 rfl rfl rfl ?_
  refine uAN 21 hx hby d464 rfl rfl rfl ?_
  have f13 := (((P2.keep K2 nin0).keep K3 nin0).other W12 (Or.inr (slot_ne (Or.inr (ow hw 153 rfl)) (Or.inr (ow hw 151 rfl)) (by decide) (t := (.object c16_)) (t' := (.object c9_)) (by decide) (by decide))))
  have f14 := (f11.wr W12)
  refine gputF (host := "") hx (Or.inl (ow hw 152 rfl)) Via.refl f13 f14 (Or.inr ⟨(ow hw 153 rfl), rfl, hnm⟩) (ow hw 97 rfl) (ty := (.object c16_)) (by decide) rfl rfl P4 (fun al => Safe.exa al f14 (by decide) (by decide)) 24 (hb hby d465) rfl ?_
  intro h15 W15 C15
  have z15 := C15.2.1
  have F15 := f13.same W15
  refine uAN 25 hx hby d466 rfl rfl rfl ?_
  refine uAN 26 hx hby d467 rfl rfl rfl ?_
  have f16 := ((((P3.keep K2 nin0).keep K3 nin0).other W12 (Or.inr (slot_ne (Or.inr (ow hw 155 rfl)) (Or.inr (ow hw 151 rfl)) (by decide) (t := (.object c16_)) (t' := (.object c9_)) (by decide) (by decide)))).other W15 (Or.inr (slot_ne (Or.inr (ow hw 155 rfl)) (Or.inr (ow hw 153 rfl)) (by decide) (t := (.object c16_)) (t' := (.object c16_)) (by decide) (by decide))))
  have f17 := (f14.wr W15)
  refine gputF (host := "") hx (Or.inl (ow hw 154 rfl)) Via.refl f16 f17 (Or.inr ⟨(ow hw 155 rfl), rfl, hnm⟩) (ow hw 97 rfl) (ty := (.object c16_)) (by decide) rfl rfl P4 (fun al => Safe.exa al f17 (by decide) (by decide)) 29 (hb hby d468) rfl ?_
  intro h18 W18 C18
  have z18 := C18.2.1
  have F18 := f16.same W18
  have f20 := ((F12.other W15 (Or.inr (slot_ne (Or.inr (ow hw 151 rfl)) (Or.inr (ow hw 153 rfl)) (by decide) (t := (.object c9_)) (t' := (.object c16_)) (by decide) (by decide)))).other W18 (Or.inr (slot_ne (Or.inr (ow hw 151 rfl)) (Or.inr (ow hw 155 rfl)) (by decide) (t := (.object c9_)) (t' := (.object c16_)) (by decide) (by decide))))
  have f21 := (F15.other W18 (Or.inr (slot_ne (Or.inr (ow hw 153 rfl)) (Or.inr (ow hw 155 rfl)) (by decide) (t := (.object c16_)) (t' := (.object c16_)) (by decide) (by decide))))
  have f22 := ((((q2_1.keep K3).wr W12).wr W15).wr W18)
  have f23 := ((((q2_2.keep K3 nin0).other W12 (Or.inl (Nat.ne_of_gt (by omega)))).other W15 (Or.inl (Nat.ne_of_gt (by omega)))).other W18 (Or.inl (Nat.ne_of_gt (by omega))))
  have f24 := ((((q2_3.keep K3 nin0).other W12 (Ne.symm (Exa.neArv (P0.keep K2) q2_3 (ow hw 97 rfl)))).other W15 (Ne.symm (Exa.neArv (P0.keep K2) q2_3 (ow hw 97 rfl)))).other W18 (Ne.symm (Exa.neArv (P0.keep K2) q2_3 (ow hw 97 rfl))))
  have f25 := (((q3_1.wr W12).wr W15).wr W18)
  have f26 := (((q3_2.other W12 (Or.inl (Nat.ne_of_gt (by omega)))).other W15 (Or.inl (Nat.ne_of_gt (by omega)))).other W18 (Or.inl (Nat.ne_of_gt (by omega))))
  have f27 := (((q3_3.other W12 (Ne.symm (Exa.neArv f11 q3_3 (ow hw 97 rfl)))).other W15 (Ne.symm (Exa.neArv f11 q3_3 (ow hw 97 rfl)))).other W18 (Ne.symm (Exa.neArv f11 q3_3 (ow hw 97 rfl))))
  exact gretV hx hret (hb hby d469) (by decide) (by decide) (fun vq Cq => ⟨r2, g2, kg2, r3, g3, kg3, rfl, ((((((Keep.refl h0 [x]).trans K2 all0).trans K3 all0).wr W12 (Or.inl (List.mem_of_getElem? (i := 0) rfl))).wr W15 (Or.inl (List.mem_of_getElem? (i := 0) rfl))).wr W18 (Or.inl (List.mem_of_getElem? (i := 0) rfl))), f20, f21, F18, f22, f23, f24, f25, f26, f27⟩)
theorem own_relA3 (l : Launch) (Z : State) (a0 : Array Value) (cx : Ctx Z a0) (ws : List Jvm.Cond) (sb : Addr) (tb : Addr) (kl : Addr) (al : Addr) (y : Addr) (d1 : Addr) (k1 : ClassId) (d2 : Addr) (k2 : ClassId) (s0_ : Addr) (s1_ : Addr) (s2_ : Addr) (dz : Addr) (el : Addr) (ee : Addr) (em : Addr) (mr : Addr) (kd : ClassId) (ke : ClassId) (vm0 : Vm) (h0 : Heap) (X00 : Ext Z.heap h0) (P0 : Str Z h0 sb tb own_rel) (P1 : Lit (Z.setVm vm0) c5_ 40 sb) (P2 : Exa Z h0 kl c11_) (P3 : Fld Z h0 kl c11_ c7_ c3_ (.ref d1)) (P4 : Fld Z h0 kl c11_ "size" "I" (.int (3 : Int32))) (P5 : Arv Z h0 d1 k1 (.object c8_) (10 : Int32) [(.ref s0_), (.ref s1_), (.ref s2_), .null, .null, .null, .null, .null, .null, .null] .null) (P6 : Exa Z h0 d1 c3_) (hov : (Ovr Z k1 c8_)) (P8 : Exa Z h0 s0_ c9_) (P9 : Exa Z h0 s1_ c9_) (P10 : Exa Z h0 s2_ c9_) (P11 : Exa Z h0 al c11_) (P12 : Fld Z h0 al c11_ c7_ c3_ (.ref d2)) (P13 : Fld Z h0 al c11_ "size" "I" (.int (3 : Int32))) (P14 : Arv Z h0 d2 k2 (.object c8_) (10 : Int32) [(.ref y), (.ref y), (.ref y), .null, .null, .null, .null, .null, .null, .null] .null) (P15 : Exa Z h0 d2 c3_) (hov2 : (Ovr Z k2 c8_)) (P17 : Exa Z h0 y c9_) (hL : (OwnL Z dz el ee em mr kd ke)) :
    Met l mn479 prog_21_method_4_code 2 (some (.object c6_)) ws ({ frames := 10, cells := 7, slots := 19, locals := 131 } : Room) Z consts_1 vm0 h0 #[(.ref kl), (.ref al)] (fun rv vm h => ∃ (r : Addr), ∃ (r1 : Addr), ∃ (g1 : Addr), ∃ (kg1 : ClassId), ∃ (r2 : Addr), ∃ (g2 : Addr), ∃ (kg2 : ClassId), rv = some (.ref r) ∧ Keep h0 h [] ∧ Exa Z h r c6_ ∧ Fld Z h r c6_ "source" c1_ (.ref sb) ∧ Fld Z h r c6_ "keys" c2_ (.ref r1) ∧ Fld Z h r c6_ "args" c2_ (.ref r2) ∧ Exa Z h r1 c15_ ∧ Fld Z h r1 c15_ "elements" c3_ (.ref g1) ∧ Arv Z h g1 kg1 (.object c8_) (3 : Int32) [(.ref s0_), (.ref s1_), (.ref s2_)] .null ∧ Exa Z h r2 c15_ ∧ Fld Z h r2 c15_ "elements" c3_ (.ref g2) ∧ Arv Z h g2 kg2 (.object c8_) (3 : Int32) [(.ref y), (.ref y), (.ref y)] .null) := by
  obtain ⟨hw, hEL, ⟨zc, Scs, hzc⟩, ⟨fm, Sfm, hfm⟩, hL0⟩ := id cx
  have hSA := own_SA hw
  refine Met.of_walk (a0 := a0) #[vr kl, vr al] (plainFor_of_name own_pn480) X00 hEL (fun m => by first | (simp [entryFrame, mkF, argsToLocals, Value.category]; done) | rfl) ?_
  intro p e s m below meth c vm hx hby hml hret hnm hC0 hW0
  have lt_sb : h0.size > sb := P0.1.lt
  have lt_tb : h0.size > tb := P0.tlt
  have lt_kl : h0.size > kl := P2.lt
  have lt_d1 : h0.size > d1 := P5.lt
  have lt_s0_ : h0.size > s0_ := P8.lt
  have lt_s1_ : h0.size > s1_ := P9.lt
  have lt_s2_ : h0.size > s2_ := P10.lt
  have lt_al : h0.size > al := P11.lt
  have lt_d2 : h0.size > d2 := P14.lt
  have lt_y : h0.size > y := P17.lt
  obtain ⟨Sdz, Edz, Vdz, Sel, Eel, Fee, Vee, Fan, Sem, Eem, Mmr, Sas⟩ := id hL
  refine gnewO hx (ow hw 96 rfl) (ow hw 97 rfl) (ow hw 98 rfl) 3 (hb hby d471) rfl (by decide) (by decide) ?_
  intro b1 h1 g1 E1 C1 A1 D1 n1 L1
  have z1 := C1.2.1
  have lt_b1 : h1.size > b1 := A1.lt
  have F1_source : Fld Z h1 b1 c6_ "source" c1_ .null := D1 (Or.inr (ow hw 151 rfl)) (ty := (.object c9_)) (by decide)
  have F1_keys : Fld Z h1 b1 c6_ "keys" c2_ .null := D1 (Or.inr (ow hw 153 rfl)) (ty := (.object c16_)) (by decide)
  have F1_args : Fld Z h1 b1 c6_ "args" c2_ .null := D1 (Or.inr (ow hw 155 rfl)) (ty := (.object c16_)) (by decide)
  refine uD 4 hx hby d472 rfl rfl ?_
  have LT : Lit (Z.setVm vm) c5_ 40 sb := State.resolvedAt?_warmed39 hW0 P1
  refine gldcA hx (ow hw 99 rfl) LT 6 (hb hby d473) rfl ?_
  refine uAN 7 hx hby d474 rfl rfl rfl ?_
  refine uAN 8 hx hby d475 rfl rfl rfl ?_
  have f4 := (P2.ext E1)
  have f5 := (P3.ext E1)
  have f6 := (P4.ext E1)
  have f7 := (P5.ext E1)
  have f8 := (P6.ext E1)
  have f9 := (P8.ext E1)
  have f10 := (P9.ext E1)
  have f11 := (P10.ext E1)
  have f12 := (P11.ext E1)
  have f13 := (P12.ext E1)
  have f14 := (P13.ext E1)
  have f15 := (P14.ext E1)
  have f16 := (P15.ext E1)
  have f17 := (P17.ext E1)
  refine ginfo fun _ _ O3 => ?_
  refine gcallI (y := mn470) hx rfl (ow hw 102 rfl) (ow hw 103 rfl) (ow hw 104 rfl) (by decide) (fun hZ H hEL => Pay.of_met (W := 1) (own_scA3 l Z a0 cx [] (b1) (sb) (.null) (.null) (.null) (kl) (al) (y) (d1) (k1) (d2) (k2) (s0_) (s1_) (s2_) (dz) (el) (ee) (em) (mr) (kd) (ke) vm h1 O3 A1 F1_source F1_keys F1_args n1 f4 f5 f6 f7 f8 (by first | assumption | decide | omega) f9 f10 f11 f12 f13 f14 f15 f16 (by first | assumption | decide | omega) f17 (by first | assumption | decide | omega)) (ow hw 104 rfl) (ow hw 98 rfl) (by decide) (by decide) hZ H hEL) (a := b1) 11 (argsL := [(.ref sb), (.ref kl), (.ref al)]) (rest := [(.ref b1)]) (lenOf own_pd477 rfl) rfl rfl (Nat.le_of_eq rfl) (by rw [hml]; rfl) (hb hby d476) rfl (by decide) (by decide) ?_
  rintro _ vm3 h3 C3 ⟨r13, g13, kg13, r23, g23, kg23, rfl, K3, q3_0, q3_1, q3_2, q3_3, q3_4, q3_5, q3_6, q3_7, q3_8⟩
  have z3 := C3.2.1
  have lt_r13 : h3.size > r13 := q3_3.lt
  have lt_g13 : h3.size > g13 := q3_5.lt
  have lt_r23 : h3.size > r23 := q3_6.lt
  have lt_g23 : h3.size > g23 := q3_8.lt
  refine gat (mkF m 11 #[vr kl, vr al] [(.ref b1)]) rfl ?_
  have f19 := (A1.keep K3)
  exact gretA hx hret rfl rfl (hb hby d478) (by decide) (by decide) (fun vq Cq => ⟨b1, r13, g13, kg13, r23, g23, kg23, rfl, (((Keep.refl h0 []).ext E1).trans K3 (allS (Or.inr (by omega)) all0)), f19, q3_0, q3_1, q3_2, q3_3, q3_4, q3_5, q3_6, q3_7, q3_8⟩)
theorem own_scE3 (l : Launch) (Z : State) (a0 : Array Value) (cx : Ctx Z a0) (ws : List Jvm.Cond) (x : Addr) (sb : Addr) (u0 : Value) (u1 : Value) (u2 : Value) (kl : Addr) (d1 : Addr) (k1 : ClassId) (s0_ : Addr) (s1_ : Addr) (s2_ : Addr) (dz : Addr) (el : Addr) (ee : Addr) (em : Addr) (mr : Addr) (kd : ClassId) (ke : ClassId) (vm0 : Vm) (h0 : Heap) (X00 : Ext Z.heap h0) (P0 : Exa Z h0 x c6_) (P1 : Fld Z h0 x c6_ "source" c1_ u0) (P2 : Fld Z h0 x c6_ "keys" c2_ u1) (P3 : Fld Z h0 x c6_ "args" c2_ u2) (P4 : Z.heap.size ≤ x) (P5 : Exa Z h0 kl c11_) (P6 : Fld Z h0 kl c11_ c7_ c3_ (.ref d1)) (P7 : Fld Z h0 kl c11_ "size" "I" (.int (3 : Int32))) (P8 : Arv Z h0 d1 k1 (.object c8_) (10 : Int32) [(.ref s0_), (.ref s1_), (.ref s2_), .null, .null, .null, .null, .null, .null, .null] .null) (P9 : Exa Z h0 d1 c3_) (hov : (Ovr Z k1 c8_)) (P11 : Exa Z h0 s0_ c9_) (P12 : Exa Z h0 s1_ c9_) (P13 : Exa Z h0 s2_ c9_) (hL : (OwnL Z dz el ee em mr kd ke)) :
    Met l mn470 prog_31_method_1_code 4 none ws ({ frames := 9, cells := 3, slots := 8, locals := 115 } : Room) Z consts_1 vm0 h0 #[(.ref x), (.ref sb), (.ref kl), (.ref el)] (fun rv vm h => ∃ (r1 : Addr), ∃ (g1 : Addr), ∃ (kg1 : ClassId), rv = none ∧ Keep h0 h [x] ∧ Fld Z h x c6_ "source" c1_ (.ref sb) ∧ Fld Z h x c6_ "keys" c2_ (.ref r1) ∧ Fld Z h x c6_ "args" c2_ (.ref el) ∧ Exa Z h r1 c15_ ∧ Fld Z h r1 c15_ "elements" c3_ (.ref g1) ∧ Arv Z h g1 kg1 (.object c8_) (3 : Int32) [(.ref s0_), (.ref s1_), (.ref s2_)] .null) := by
  obtain ⟨hw, hEL, ⟨zc, Scs, hzc⟩, ⟨fm, Sfm, hfm⟩, hL0⟩ := id cx
  have hSA := own_SA hw
  refine Met.of_walk (a0 := a0) #[vr x, vr sb, vr kl, vr el] (plainFor_of_name own_pn397) X00 hEL (fun m => by first | (simp [entryFrame, mkF, argsToLocals, Value.category]; done) | rfl) ?_
  intro p e s m below meth c vm hx hby hml hret hnm hC0 hW0
  have lt_x : h0.size > x := P0.lt
  have lt_kl : h0.size > kl := P5.lt
  have lt_d1 : h0.size > d1 := P8.lt
  have lt_s0_ : h0.size > s0_ := P11.lt
  have lt_s1_ : h0.size > s1_ := P12.lt
  have lt_s2_ : h0.size > s2_ := P13.lt
  obtain ⟨Sdz, Edz, Vdz, Sel, Eel, Fee, Vee, Fan, Sem, Eem, Mmr, Sas⟩ := id hL
  refine uAN 1 hx hby d452 rfl rfl rfl ?_
  refine ginfo fun _ _ O1 => ?_
  refine gcallI (y := mn391) hx rfl (ow hw 105 rfl) (ow hw 106 rfl) (ow hw 109 rfl) (by decide) (fun hZ H hEL => Pay.of_met (W := 0) (own_record l Z a0 cx [] (x) vm h0 O1 ) (ow hw 109 rfl) (ow hw 108 rfl) (by decide) (by decide) hZ H hEL) (a := x) 4 (argsL := []) (rest := []) (lenOf own_pd7 rfl) rfl rfl (Nat.le_of_eq rfl) (by rw [hml]; rfl) (hb hby d453) rfl (by decide) (by decide) ?_
  rintro _ vm1 h1 C1 ⟨rfl, rfl⟩
  have z1 := C1.2.1
  refine gat (mkF m 4 #[vr x, vr sb, vr kl, vr el] []) rfl ?_
  refine uAN 5 hx hby d454 rfl rfl rfl ?_
  refine ginfo fun _ _ O2 => ?_
  refine gcallS (y := mn280) hx (ow hw 111 rfl) (ow hw 112 rfl) (ow hw 113 rfl) (ow hw 114 rfl) (by decide) (fun hZ H hEL => Pay.of_met (W := 0) (own_copy3 l Z a0 cx [] (kl) (d1) (k1) (s0_) (s1_) (s2_) (dz) (el) (ee) (em) (mr) (kd) (ke) vm1 h0 O2 P5 P6 P7 P8 P9 (by first | assumption | decide | omega) P11 P12 P13 (by first | assumption | decide | omega)) (ow hw 114 rfl) (ow hw 113 rfl) (by decide) (by decide) hZ H hEL) 8 (argsL := [(.ref kl)]) (rest := []) (lenOf own_pd278 rfl) rfl rfl (Nat.le_of_eq rfl) (by rw [hml]; rfl) (hb hby d455) rfl (by decide) (by decide) ?_
  rintro _ vm2 h2 C2 ⟨r2, g2, kg2, rfl, K2, q2_0, q2_1, q2_2, q2_3⟩
  have z2 := C2.2.1
  have lt_r2 : h2.size > r2 := q2_1.lt
  have lt_g2 : h2.size > g2 := q2_3.lt
  refine gat (mkF m 8 #[vr x, vr sb, vr kl, vr el] [(.ref r2)]) rfl ?_
  refine gs (mkF m 9 #[vr x, vr sb, vr r2, vr el] []) (fun _ _ A kq => XS.astoreN A hx rfl (hb hby d456) rfl rfl (l' := #[vr x, vr sb, vr r2, vr el]) rfl kq) ?_
  refine uAN 10 hx hby d457 rfl rfl rfl ?_
  refine ginfo fun _ _ O3 => ?_
  refine gcallS (y := mn280) hx (ow hw 111 rfl) (ow hw 112 rfl) (ow hw 113 rfl) (ow hw 114 rfl) (by decide) (fun hZ H hEL => Pay.of_met (W := 0) (own_coE l Z a0 cx [] (dz) (el) (ee) (em) (mr) (kd) (ke) vm2 h2 O3 (by first | assumption | decide | omega)) (ow hw 114 rfl) (ow hw 113 rfl) (by decide) (by decide) hZ H hEL) 13 (argsL := [(.ref el)]) (rest := []) (lenOf own_pd278 rfl) rfl rfl (Nat.le_of_eq rfl) (by rw [hml]; rfl) (hb hby d458) rfl (by decide) (by decide) ?_
  rintro _ vm3 h3 C3 ⟨rfl, rfl⟩
  have z3 := C3.2.1
  refine gat (mkF m 13 #[vr x, vr sb, vr r2, vr el] [(.ref el)]) rfl ?_
  refine gs (mkF m 14 #[vr x, vr sb, vr r2, vr el] []) (fun _ _ A kq => XS.astoreN A hx rfl (hb hby d459) rfl rfl (l' := #[vr x, vr sb, vr r2, vr el]) rfl kq) ?_
  refine uAN 15 hx hby d460 rfl rfl rfl ?_
  refine uAN 16 hx hby d461 rfl rfl rfl ?_
  have f4 := (P1.keep K2 nin0)
  have f5 := (P0.keep K2)
  refine gputF (host := "") hx (Or.inl (ow hw 150 rfl)) Via.refl f4 f5 (Or.inr ⟨(ow hw 151 rfl), rfl, hnm⟩) (ow hw 97 rfl) (ty := (.object c9_)) (by decide) rfl rfl P4 (fun al => Safe.exa al f5 (by decide) (by decide)) 19 (hb hby d462) rfl ?_
  intro h6 W6 C6
  have z6 := C6.2.1
  have F6 := f4.same W6
  refine uAN 20 hx hby d463 rfl rfl rfl ?_
  refine uAN 21 hx hby d464 rfl rfl rfl ?_
  have f7 := ((P2.keep K2 nin0).other W6 (Or.inr (slot_ne (Or.inr (ow hw 153 rfl)) (Or.inr (ow hw 151 rfl)) (by decide) (t := (.object c16_)) (t' := (.object c9_)) (by decide) (by decide))))
  have f8 := (f5.wr W6)
  refine gputF (host := "") hx (Or.inl (ow hw 152 rfl)) Via.refl f7 f8 (Or.inr ⟨(ow hw 153 rfl), rfl, hnm⟩) (ow hw 97 rfl) (ty := (.object c16_)) (by decide) rfl rfl P4 (fun al => Safe.exa al f8 (by decide) (by decide)) 24 (hb hby d465) rfl ?_
  intro h9 W9 C9
  have z9 := C9.2.1
  have F9 := f7.same W9
  refine uAN 25 hx hby d466 rfl rfl rfl ?_
  refine uAN 26 hx hby d467 rfl rfl rfl ?_
  have f10 := (((P3.keep K2 nin0).other W6 (Or.inr (slot_ne (Or.inr (ow hw 155 rfl)) (Or.inr (ow hw 151 rfl)) (by decide) (t := (.object c16_)) (t' := (.object c9_)) (by decide) (by decide)))).other W9 (Or.inr (slot_ne (Or.inr (ow hw 155 rfl)) (Or.inr (ow hw 153 rfl)) (by decide) (t := (.object c16_)) (t' := (.object c16_)) (by decide) (by decide))))
  have f11 := (f8.wr W9)
  refine gputF (host := "") hx (Or.inl (ow hw 154 rfl)) Via.refl f10 f11 (Or.inr ⟨(ow hw 155 rfl), rfl, hnm⟩) (ow hw 97 rfl) (ty := (.object c16_)) (by decide) rfl rfl P4 (fun al => Safe.exa al f11 (by decide) (by decide)) 29 (hb hby d468) rfl ?_
  intro h12 W12 C12
  have z12 := C12.2.1
  have F12 := f10.same W12
  have f14 := ((F6.other W9 (Or.inr (slot_ne (Or.inr (ow hw 151 rfl)) (Or.inr (ow hw 153 rfl)) (by decide) (t := (.object c9_)) (t' := (.object c16_)) (by decide) (by decide)))).other W12 (Or.inr (slot_ne (Or.inr (ow hw 151 rfl)) (Or.inr (ow hw 155 rfl)) (by decide) (t := (.object c9_)) (t' := (.object c16_)) (by decide) (by decide))))
  have f15 := (F9.other W12 (Or.inr (slot_ne (Or.inr (ow hw 153 rfl)) (Or.inr (ow hw 155 rfl)) (by decide) (t := (.object c16_)) (t' := (.object c16_)) (by decide) (by decide))))
  have f16 := (((q2_1.wr W6).wr W9).wr W12)
  have f17 := (((q2_2.other W6 (Or.inl (Nat.ne_of_gt (by omega)))).other W9 (Or.inl (Nat.ne_of_gt (by omega)))).other W12 (Or.inl (Nat.ne_of_gt (by omega))))
  have f18 := (((q2_3.other W6 (Ne.symm (Exa.neArv (P0.keep K2) q2_3 (ow hw 97 rfl)))).other W9 (Ne.symm (Exa.neArv (P0.keep K2) q2_3 (ow hw 97 rfl)))).other W12 (Ne.symm (Exa.neArv (P0.keep K2) q2_3 (ow hw 97 rfl))))
  exact gretV hx hret (hb hby d469) (by decide) (by decide) (fun vq Cq => ⟨r2, g2, kg2, rfl, (((((Keep.refl h0 [x]).trans K2 all0).wr W6 (Or.inl (List.mem_of_getElem? (i := 0) rfl))).wr W9 (Or.inl (List.mem_of_getElem? (i := 0) rfl))).wr W12 (Or.inl (List.mem_of_getElem? (i := 0) rfl))), f14, f15, F12, f16, f17, f18⟩)
theorem own_exi3 (l : Launch) (Z : State) (a0 : Array Value) (cx : Ctx Z a0) (ws : List Jvm.Cond) (kl : Addr) (d1 : Addr) (k1 : ClassId) (s0_ : Addr) (s1_ : Addr) (s2_ : Addr) (dz : Addr) (el : Addr) (ee : Addr) (em : Addr) (mr : Addr) (kd : ClassId) (ke : ClassId) (vm0 : Vm) (h0 : Heap) (X00 : Ext Z.heap h0) (P0 : Exa Z h0 kl c11_) (P1 : Fld Z h0 kl c11_ c7_ c3_ (.ref d1)) (P2 : Fld Z h0 kl c11_ "size" "I" (.int (3 : Int32))) (P3 : Arv Z h0 d1 k1 (.object c8_) (10 : Int32) [(.ref s0_), (.ref s1_), (.ref s2_), .null, .null, .null, .null, .null, .null, .null] .null) (P4 : Exa Z h0 d1 c3_) (hov : (Ovr Z k1 c8_)) (P6 : Exa Z h0 s0_ c9_) (P7 : Exa Z h0 s1_ c9_) (P8 : Exa Z h0 s2_ c9_) (hL : (OwnL Z dz el ee em mr kd ke)) :
    Met l mn499 prog_21_method_6_code 1 (some (.object c6_)) ws ({ frames := 10, cells := 6, slots := 619, locals := 131 } : Room) Z consts_1 vm0 h0 #[(.ref kl)] (fun rv vm h => ∃ (r : Addr), ∃ (sb : Addr), ∃ (tb : Addr), ∃ (r1 : Addr), ∃ (g1 : Addr), ∃ (kg1 : ClassId), rv = some (.ref r) ∧ Keep h0 h [] ∧ Exa Z h r c6_ ∧ Str Z h sb tb own_exi ∧ Fld Z h r c6_ "source" c1_ (.ref sb) ∧ Fld Z h r c6_ "keys" c2_ (.ref r1) ∧ Fld Z h r c6_ "args" c2_ (.ref el) ∧ Exa Z h r1 c15_ ∧ Fld Z h r1 c15_ "elements" c3_ (.ref g1) ∧ Arv Z h g1 kg1 (.object c8_) (3 : Int32) [(.ref s0_), (.ref s1_), (.ref s2_)] .null) := by
  obtain ⟨hw, hEL, ⟨zc, Scs, hzc⟩, ⟨fm, Sfm, hfm⟩, hL0⟩ := id cx
  have hSA := own_SA hw
  refine Met.of_walk (a0 := a0) #[vr kl] (plainFor_of_name own_pn480) X00 hEL (fun m => by first | (simp [entryFrame, mkF, argsToLocals, Value.category]; done) | rfl) ?_
  intro p e s m below meth c vm hx hby hml hret hnm hC0 hW0
  have lt_kl : h0.size > kl := P0.lt
  have lt_d1 : h0.size > d1 := P3.lt
  have lt_s0_ : h0.size > s0_ := P6.lt
  have lt_s1_ : h0.size > s1_ := P7.lt
  have lt_s2_ : h0.size > s2_ := P8.lt
  obtain ⟨Sdz, Edz, Vdz, Sel, Eel, Fee, Vee, Fan, Sem, Eem, Mmr, Sas⟩ := id hL
  refine gnewO hx (ow hw 96 rfl) (ow hw 97 rfl) (ow hw 98 rfl) 3 (hb hby d492) rfl (by decide) (by decide) ?_
  intro b1 h1 g1 E1 C1 A1 D1 n1 L1
  have z1 := C1.2.1
  have lt_b1 : h1.size > b1 := A1.lt
  have F1_source : Fld Z h1 b1 c6_ "source" c1_ .null := D1 (Or.inr (ow hw 151 rfl)) (ty := (.object c9_)) (by decide)
  have F1_keys : Fld Z h1 b1 c6_ "keys" c2_ .null := D1 (Or.inr (ow hw 153 rfl)) (ty := (.object c16_)) (by decide)
  have F1_args : Fld Z h1 b1 c6_ "args" c2_ .null := D1 (Or.inr (ow hw 155 rfl)) (ty := (.object c16_)) (by decide)
  refine uD 4 hx hby d493 rfl rfl ?_
  refine gldcR hx (ow hw 160 rfl) hSA (by decide) (n := 604) (by decide) (by decide) (vs := own_exiV) (z := (151 : Int32)) (by decide +kernel) (by decide) (by decide) 6 (hb hby d494) rfl (by decide) (by decide) ?_
  intro b2 t2 k2 vm2 h2 E2 C2 Q2a Q2b Q2c Q2d Q2e
  have z2 := C2.2.1
  have S2 : Str Z h2 b2 t2 own_exi := Str.lit Q2a Q2b Q2c Q2d (by decide) rfl rfl (by decide)
  have lt_b2 : h2.size > b2 := S2.1.lt
  have lt_t2 : h2.size > t2 := S2.tlt
  have f3 := (C2.safe (show h1.size > b1 by omega) L1)
  have ne2_b1 := Q2e b1 f3
  refine uAN 7 hx hby d495 rfl rfl rfl ?_
  refine ginfo fun _ _ O4 => ?_
  refine gcallS (y := mn109) hx (ow hw 161 rfl) (ow hw 135 rfl) (ow hw 113 rfl) (ow hw 136 rfl) (by decide) (fun hZ H hEL => Pay.of_met (W := 4) (own_of0 l Z a0 cx [] (dz) (el) (ee) (em) (mr) (kd) (ke) vm2 h2 O4 (by first | assumption | decide | omega)) (ow hw 136 rfl) (ow hw 113 rfl) (by decide) (by decide) hZ H hEL) 10 (argsL := []) (rest := [(.ref kl), (.ref b2), (.ref b1), (.ref b1)]) (lenOf own_pd273 rfl) rfl rfl (Nat.le_of_eq rfl) (by rw [hml]; rfl) (hb hby d496) rfl (by decide) (by decide) ?_
  rintro _ vm4 h4 C4 ⟨rfl, rfl⟩
  have z4 := C4.2.1
  refine gat (mkF m 10 #[vr kl] [(.ref el), (.ref kl), (.ref b2), (.ref b1), (.ref b1)]) rfl ?_
  have f6 := (A1.ext E2)
  have f7 := (F1_source.ext E2)
  have f8 := (F1_keys.ext E2)
  have f9 := (F1_args.ext E2)
  have f10 := ((P0.ext E1).ext E2)
  have f11 := ((P1.ext E1).ext E2)
  have f12 := ((P2.ext E1).ext E2)
  have f13 := ((P3.ext E1).ext E2)
  have f14 := ((P4.ext E1).ext E2)
  have f15 := ((P6.ext E1).ext E2)
  have f16 := ((P7.ext E1).ext E2)
  have f17 := ((P8.ext E1).ext E2)
  refine ginfo fun _ _ O5 => ?_
  refine gcallI (y := mn470) hx rfl (ow hw 102 rfl) (ow hw 103 rfl) (ow hw 104 rfl) (by decide) (fun hZ H hEL => Pay.of_met (W := 1) (own_scE3 l Z a0 cx [] (b1) (b2) (.null) (.null) (.null) (kl) (d1) (k1) (s0_) (s1_) (s2_) (dz) (el) (ee) (em) (mr) (kd) (ke) vm4 h2 O5 f6 f7 f8 f9 n1 f10 f11 f12 f13 f14 (by first | assumption | decide | omega) f15 f16 f17 (by first | assumption | decide | omega)) (ow hw 104 rfl) (ow hw 98 rfl) (by decide) (by decide) hZ H hEL) (a := b1) 13 (argsL := [(.ref b2), (.ref kl), (.ref el)]) (rest := [(.ref b1)]) (lenOf own_pd477 rfl) rfl rfl (Nat.le_of_eq rfl) (by rw [hml]; rfl) (hb hby d497) rfl (by decide) (by decide) ?_
  rintro _ vm5 h5 C5 ⟨r15, g15, kg15, rfl, K5, q5_0, q5_1, q5_2, q5_3, q5_4, q5_5⟩
  have z5 := C5.2.1
  have lt_r15 : h5.size > r15 := q5_3.lt
  have lt_g15 : h5.size > g15 := q5_5.lt
  refine gat (mkF m 13 #[vr kl] [(.ref b1)]) rfl ?_
  have f19 := (f6.keep K5)
  have f20 := (S2.keep K5 (ninS (Ne.symm ne2_b1.1) nin0) (ninS (Ne.symm ne2_b1.2) nin0))
  exact gretA hx hret rfl rfl (hb hby d498) (by decide) (by decide) (fun vq Cq => ⟨b1, b2, t2, r15, g15, kg15, rfl, ((((Keep.refl h0 []).ext E1).ext E2).trans K5 (allS (Or.inr (by omega)) all0)), f19, f20, q5_0, q5_1, q5_2, q5_3, q5_4, q5_5⟩)
theorem own_and3 (z : Int32) : z &&& (3 : Int32) = 0 ∨ z &&& (3 : Int32) = 1 ∨ z &&& (3 : Int32) = 2 ∨ z &&& (3 : Int32) = 3 := by
  have h := c_mask z 3 2 (by decide) (by decide)
  have e0 : (0 : Int32).toInt = 0 := rfl
  have e1 : (1 : Int32).toInt = 1 := rfl
  have e2 : (2 : Int32).toInt = 2 := rfl
  have e3 : (3 : Int32).toInt = 3 := rfl
  simp only [← Int32.toInt_inj, e0, e1, e2, e3]
  omega
theorem own_pd548 : parseMethodDescriptor "(I)Ljava/lang/String;" = some ⟨[.int], some (.object "java/lang/String")⟩ := by decide +kernel
theorem own_pd549 : parseMethodDescriptor "(Ljava/util/List;Ljava/lang/String;)Lcom/example/limentinus/limentinus/core/Quorum$Script;" = some ⟨[(.object "java/util/List"), (.object "java/lang/String")], some (.object "com/example/limentinus/limentinus/core/Quorum$Script")⟩ := by decide +kernel
theorem own_pd550 : parseMethodDescriptor "(Ljava/util/List;)Lcom/example/limentinus/limentinus/core/Quorum$Script;" = some ⟨[(.object "java/util/List")], some (.object "com/example/limentinus/limentinus/core/Quorum$Script")⟩ := by decide +kernel
theorem own_pd551 : parseMethodDescriptor "()Ljava/lang/String;" = some ⟨[], some (.object "java/lang/String")⟩ := by decide +kernel
theorem own_pd552 : parseMethodDescriptor "(Ljava/lang/Object;)Z" = some ⟨[(.object "java/lang/Object")], some .boolean⟩ := by decide +kernel
abbrev mn553 : MethodName := ⟨"java/util/List", "add", "(Ljava/lang/Object;)Z"⟩
theorem own_pd554 : parseMethodDescriptor "(I)Ljava/lang/Object;" = some ⟨[.int], some (.object "java/lang/Object")⟩ := by decide +kernel
abbrev mn555 : MethodName := ⟨"java/util/List", "get", "(I)Ljava/lang/Object;"⟩
theorem own_law (l : Launch) (Z : State) (a0 : Array Value) (cx : Ctx Z a0) (ws : List Jvm.Cond) (x0 : Int32) (x1 : Int32) (x2 : Int32) (x3 : Int32) (x4 : Int32) (vm0 : Vm) (h0 : Heap) (X00 : Ext Z.heap h0)  :
    Met l x code maxLocals ret ws room_1 Z consts_1 vm0 h0 #[(.int x0), (.int x1), (.int x2), (.int x3), (.int x4)] (fun rv vm h => rv = some (.int (1 : Int32)) ∧ Keep h0 h []) := by
  obtain ⟨hw, hEL, ⟨zc, Scs, hzc⟩, ⟨fm, Sfm, hfm⟩, hL0⟩ := id cx
  have hSA := own_SA hw
  refine Met.of_walk (a0 := a0) #[vi x0, vi x1, vi x2, vi x3, vi x4, un, un, un, un, un, un, un, un, un, un, un, un, un] (plainFor_of_name own_pn387) X00 hEL (fun m => by first | (simp [entryFrame, mkF, argsToLocals, Value.category, maxLocals]; done) | rfl) ?_
  intro p e s m below meth c vm hx hby hml hret hnm hC0 hW0
  obtain ⟨dz, el, ee, em, mr, kd, ke, hL1⟩ := hL0
  have hL : OwnL Z dz el ee em mr kd ke := hL1
  obtain ⟨Sdz, Edz, Vdz, Sel, Eel, Fee, Vee, Fan, Sem, Eem, Mmr, Sas⟩ := id hL
  refine ginfo fun _ _ OL1 => ?_
  have Edz_1 := Edz.ext OL1
  have Vdz_1 := Vdz.ext OL1
  have Eel_1 := Eel.ext OL1
  have Fee_1 := Fee.ext OL1
  have Vee_1 := Vee.ext OL1
  have Fan_1 := Fan.ext OL1
  have Eem_1 := Eem.ext OL1
  have lt_dz : h0.size > dz := Edz_1.lt
  have lt_el : h0.size > el := Eel_1.lt
  have lt_ee : h0.size > ee := Vee_1.lt
  have lt_em : h0.size > em := Eem_1.lt
  refine uIN 1 hx hby at_0 rfl rfl ?_
  refine gs (mkF m 2 #[vi x0, vi x1, vi x2, vi x3, vi x4, un, un, un, un, un, un, un, un, un, un, un, un, un] [(.int (3 : Int32)), (.int x0)]) (fun _ _ A kq => XS.iconst A hx rfl (hb hby at_1) kq) ?_
  refine gs (mkF m 3 #[vi x0, vi x1, vi x2, vi x3, vi x4, un, un, un, un, un, un, un, un, un, un, un, un, un] [(.int (x0 &&& (3 : Int32)))]) (fun _ _ A kq => XS.iand A hx rfl (hb hby at_2) rfl kq) ?_
  refine gs (mkF m 5 #[vi x0, vi x1, vi x2, vi x3, vi x4, vi (x0 &&& (3 : Int32)), un, un, un, un, un, un, un, un, un, un, un, un] []) (fun _ _ A kq => XS.istore A hx rfl (hb hby at_3) rfl (l' := #[vi x0, vi x1, vi x2, vi x3, vi x4, vi (x0 &&& (3 : Int32)), un, un, un, un, un, un, un, un, un, un, un, un]) rfl kq) ?_
  refine uIN 6 hx hby at_5 rfl rfl ?_
  refine ginfo fun _ _ O2 => ?_
  refine gcallS (y := mn386) hx (ow hw 0 rfl) (ow hw 1 rfl) (ow hw 2 rfl) (ow hw 3 rfl) (by decide) (fun hZ H hEL => Pay.of_met (W := 0) (own_two l Z a0 cx [] (x1) vm h0 O2 ) (ow hw 3 rfl) (ow hw 2 rfl) (by decide) (by decide) hZ H hEL) 9 (argsL := [(.int x1)]) (rest := []) (lenOf own_pd548 rfl) rfl rfl (Nat.le_of_eq rfl) (by rw [hml]; rfl) (hb hby at_6) rfl (by decide) (by decide) ?_
  rintro _ vm2 h2 C2 ⟨r2, t2, cs2, rfl, K2, q2_0, q2_1⟩
  have z2 := C2.2.1
  have lt_r2 : h2.size > r2 := q2_1.1.lt
  have lt_t2 : h2.size > t2 := q2_1.tlt
  refine gat (mkF m 9 #[vi x0, vi x1, vi x2, vi x3, vi x4, vi (x0 &&& (3 : Int32)), un, un, un, un, un, un, un, un, un, un, un, un] [(.ref r2)]) rfl ?_
  refine gs (mkF m 11 #[vi x0, vi x1, vi x2, vi x3, vi x4, vi (x0 &&& (3 : Int32)), vr r2, un, un, un, un, un, un, un, un, un, un, un] []) (fun _ _ A kq => XS.astore A hx rfl (hb hby at_9) rfl rfl (l' := #[vi x0, vi x1, vi x2, vi x3, vi x4, vi (x0 &&& (3 : Int32)), vr r2, un, un, un, un, un, un, un, un, un, un, un]) rfl kq) ?_
  refine uIN 12 hx hby at_11 rfl rfl ?_
  refine ginfo fun _ _ O3 => ?_
  refine gcallS (y := mn386) hx (ow hw 0 rfl) (ow hw 1 rfl) (ow hw 2 rfl) (ow hw 3 rfl) (by decide) (fun hZ H hEL => Pay.of_met (W := 0) (own_two l Z a0 cx [] (x2) vm2 h2 O3 ) (ow hw 3 rfl) (ow hw 2 rfl) (by decide) (by decide) hZ H hEL) 15 (argsL := [(.int x2)]) (rest := []) (lenOf own_pd548 rfl) rfl rfl (Nat.le_of_eq rfl) (by rw [hml]; rfl) (hb hby at_12) rfl (by decide) (by decide) ?_
  rintro _ vm3 h3 C3 ⟨r3, t3, cs3, rfl, K3, q3_0, q3_1⟩
  have z3 := C3.2.1
  have lt_r3 : h3.size > r3 := q3_1.1.lt
  have lt_t3 : h3.size > t3 := q3_1.tlt
  refine gat (mkF m 15 #[vi x0, vi x1, vi x2, vi x3, vi x4, vi (x0 &&& (3 : Int32)), vr r2, un, un, un, un, un, un, un, un, un, un, un] [(.ref r3)]) rfl ?_
  refine gs (mkF m 17 #[vi x0, vi x1, vi x2, vi x3, vi x4, vi (x0 &&& (3 : Int32)), vr r2, vr r3, un, un, un, un, un, un, un, un, un, un] []) (fun _ _ A kq => XS.astore A hx rfl (hb hby at_15) rfl rfl (l' := #[vi x0, vi x1, vi x2, vi x3, vi x4, vi (x0 &&& (3 : Int32)), vr r2, vr r3, un, un, un, un, un, un, un, un, un, un]) rfl kq) ?_
  refine uIN 18 hx hby at_17 rfl rfl ?_
  refine ginfo fun _ _ O4 => ?_
  refine gcallS (y := mn386) hx (ow hw 0 rfl) (ow hw 1 rfl) (ow hw 2 rfl) (ow hw 3 rfl) (by decide) (fun hZ H hEL => Pay.of_met (W := 0) (own_two l Z a0 cx [] (x3) vm3 h3 O4 ) (ow hw 3 rfl) (ow hw 2 rfl) (by decide) (by decide) hZ H hEL) 21 (argsL := [(.int x3)]) (rest := []) (lenOf own_pd548 rfl) rfl rfl (Nat.le_of_eq rfl) (by rw [hml]; rfl) (hb hby at_18) rfl (by decide) (by decide) ?_
  rintro _ vm4 h4 C4 ⟨r4, t4, cs4, rfl, K4, q4_0, q4_1⟩
  have z4 := C4.2.1
  have lt_r4 : h4.size > r4 := q4_1.1.lt
  have lt_t4 : h4.size > t4 := q4_1.tlt
  refine gat (mkF m 21 #[vi x0, vi x1, vi x2, vi x3, vi x4, vi (x0 &&& (3 : Int32)), vr r2, vr r3, un, un, un, un, un, un, un, un, un, un] [(.ref r4)]) rfl ?_
  refine gs (mkF m 23 #[vi x0, vi x1, vi x2, vi x3, vi x4, vi (x0 &&& (3 : Int32)), vr r2, vr r3, vr r4, un, un, un, un, un, un, un, un, un] []) (fun _ _ A kq => XS.astore A hx rfl (hb hby at_21) rfl rfl (l' := #[vi x0, vi x1, vi x2, vi x3, vi x4, vi (x0 &&& (3 : Int32)), vr r2, vr r3, vr r4, un, un, un, un, un, un, un, un, un]) rfl kq) ?_
  refine uI 25 hx hby at_23 rfl rfl ?_
  refine ginfo fun _ _ O5 => ?_
  refine gcallS (y := mn386) hx (ow hw 0 rfl) (ow hw 1 rfl) (ow hw 2 rfl) (ow hw 3 rfl) (by decide) (fun hZ H hEL => Pay.of_met (W := 0) (own_two l Z a0 cx [] (x4) vm4 h4 O5 ) (ow hw 3 rfl) (ow hw 2 rfl) (by decide) (by decide) hZ H hEL) 28 (argsL := [(.int x4)]) (rest := []) (lenOf own_pd548 rfl) rfl rfl (Nat.le_of_eq rfl) (by rw [hml]; rfl) (hb hby at_25) rfl (by decide) (by decide) ?_
  rintro _ vm5 h5 C5 ⟨r5, t5, cs5, rfl, K5, q5_0, q5_1⟩
  have z5 := C5.2.1
  have lt_r5 : h5.size > r5 := q5_1.1.lt
  have lt_t5 : h5.size > t5 := q5_1.tlt
  refine gat (mkF m 28 #[vi x0, vi x1, vi x2, vi x3, vi x4, vi (x0 &&& (3 : Int32)), vr r2, vr r3, vr r4, un, un, un, un, un, un, un, un, un] [(.ref r5)]) rfl ?_
  refine gs (mkF m 30 #[vi x0, vi x1, vi x2, vi x3, vi x4, vi (x0 &&& (3 : Int32)), vr r2, vr r3, vr r4, vr r5, un, un, un, un, un, un, un, un] []) (fun _ _ A kq => XS.astore A hx rfl (hb hby at_28) rfl rfl (l' := #[vi x0, vi x1, vi x2, vi x3, vi x4, vi (x0 &&& (3 : Int32)), vr r2, vr r3, vr r4, vr r5, un, un, un, un, un, un, un, un]) rfl kq) ?_
  refine gnewO hx (ow hw 34 rfl) (ow hw 35 rfl) (ow hw 36 rfl) 33 (hb hby at_30) rfl (by decide) (by decide) ?_
  intro b6 h6 g6 E6 C6 A6 D6 n6 L6
  have z6 := C6.2.1
  have lt_b6 : h6.size > b6 := A6.lt
  have F6_modCount : Fld Z h6 b6 c10_ "modCount" "I" (.int (0 : Int32)) := D6 (Or.inl (ow hw 54 rfl)) (ty := .int) (by decide)
  have F6_elementData : Fld Z h6 b6 c11_ c7_ c3_ .null := D6 (Or.inl (ow hw 57 rfl)) (ty := (.array (.object c8_))) (by decide)
  have F6_size : Fld Z h6 b6 c11_ "size" "I" (.int (0 : Int32)) := D6 (Or.inl (ow hw 72 rfl)) (ty := .int) (by decide)
  refine uD 34 hx hby at_33 rfl rfl ?_
  refine ginfo fun _ _ O7 => ?_
  refine gcallI (y := mn20) hx rfl (ow hw 37 rfl) (ow hw 38 rfl) (ow hw 39 rfl) (by decide) (fun hZ H hEL => Pay.of_met (W := 1) (own_alinit l Z a0 cx [] (b6) (.null) (dz) (el) (ee) (em) (mr) (kd) (ke) vm5 h6 O7 A6 F6_modCount F6_elementData F6_size n6 (by first | assumption | decide | omega)) (ow hw 39 rfl) (ow hw 36 rfl) (by decide) (by decide) hZ H hEL) (a := b6) 37 (argsL := []) (rest := [(.ref b6)]) (lenOf own_pd7 rfl) rfl rfl (Nat.le_of_eq rfl) (by rw [hml]; rfl) (hb hby at_34) rfl (by decide) (by decide) ?_
  rintro _ vm7 h7 C7 ⟨rfl, K7, q7_0, q7_1, q7_2⟩
  have z7 := C7.2.1
  refine gat (mkF m 37 #[vi x0, vi x1, vi x2, vi x3, vi x4, vi (x0 &&& (3 : Int32)), vr r2, vr r3, vr r4, vr r5, un, un, un, un, un, un, un, un] [(.ref b6)]) rfl ?_
  refine gs (mkF m 39 #[vi x0, vi x1, vi x2, vi x3, vi x4, vi (x0 &&& (3 : Int32)), vr r2, vr r3, vr r4, vr r5, vr b6, un, un, un, un, un, un, un] []) (fun _ _ A kq => XS.astore A hx rfl (hb hby at_37) rfl rfl (l' := #[vi x0, vi x1, vi x2, vi x3, vi x4, vi (x0 &&& (3 : Int32)), vr r2, vr r3, vr r4, vr r5, vr b6, un, un, un, un, un, un, un]) rfl kq) ?_
  refine gnewO hx (ow hw 34 rfl) (ow hw 35 rfl) (ow hw 36 rfl) 42 (hb hby at_39) rfl (by decide) (by decide) ?_
  intro b8 h8 g8 E8 C8 A8 D8 n8 L8
  have z8 := C8.2.1
  have lt_b8 : h8.size > b8 := A8.lt
  have F8_modCount : Fld Z h8 b8 c10_ "modCount" "I" (.int (0 : Int32)) := D8 (Or.inl (ow hw 54 rfl)) (ty := .int) (by decide)
  have F8_elementData : Fld Z h8 b8 c11_ c7_ c3_ .null := D8 (Or.inl (ow hw 57 rfl)) (ty := (.array (.object c8_))) (by decide)
  have F8_size : Fld Z h8 b8 c11_ "size" "I" (.int (0 : Int32)) := D8 (Or.inl (ow hw 72 rfl)) (ty := .int) (by decide)
  refine uD 43 hx hby at_42 rfl rfl ?_
  refine ginfo fun _ _ O9 => ?_
  refine gcallI (y := mn20) hx rfl (ow hw 37 rfl) (ow hw 38 rfl) (ow hw 39 rfl) (by decide) (fun hZ H hEL => Pay.of_met (W := 1) (own_alinit l Z a0 cx [] (b8) (.null) (dz) (el) (ee) (em) (mr) (kd) (ke) vm7 h8 O9 A8 F8_modCount F8_elementData F8_size n8 (by first | assumption | decide | omega)) (ow hw 39 rfl) (ow hw 36 rfl) (by decide) (by decide) hZ H hEL) (a := b8) 46 (argsL := []) (rest := [(.ref b8)]) (lenOf own_pd7 rfl) rfl rfl (Nat.le_of_eq rfl) (by rw [hml]; rfl) (hb hby at_43) rfl (by decide) (by decide) ?_
  rintro _ vm9 h9 C9 ⟨rfl, K9, q9_0, q9_1, q9_2⟩
  have z9 := C9.2.1
  refine gat (mkF m 46 #[vi x0, vi x1, vi x2, vi x3, vi x4, vi (x0 &&& (3 : Int32)), vr r2, vr r3, vr r4, vr r5, vr b6, un, un, un, un, un, un, un] [(.ref b8)]) rfl ?_
  refine gs (mkF m 48 #[vi x0, vi x1, vi x2, vi x3, vi x4, vi (x0 &&& (3 : Int32)), vr r2, vr r3, vr r4, vr r5, vr b6, vr b8, un, un, un, un, un, un] []) (fun _ _ A kq => XS.astore A hx rfl (hb hby at_46) rfl rfl (l' := #[vi x0, vi x1, vi x2, vi x3, vi x4, vi (x0 &&& (3 : Int32)), vr r2, vr r3, vr r4, vr r5, vr b6, vr b8, un, un, un, un, un, un]) rfl kq) ?_
  rcases own_and3 x0 with nq | nq | nq | nq
  · refine gat (mkF m 48 #[vi x0, vi x1, vi x2, vi x3, vi x4, vi (0 : Int32), vr r2, vr r3, vr r4, vr r5, vr b6, vr b8, un, un, un, un, un, un] []) (by rw [nq]) ?_
    refine uI 50 hx hby at_48 rfl rfl ?_
    refine gs (mkF m 51 #[vi x0, vi x1, vi x2, vi x3, vi x4, vi (0 : Int32), vr r2, vr r3, vr r4, vr r5, vr b6, vr b8, un, un, un, un, un, un] [(.int (1 : Int32)), (.int (0 : Int32))]) (fun _ _ A kq => XS.iconst A hx rfl (hb hby at_50) kq) ?_
    refine gs (mkF m 74 #[vi x0, vi x1, vi x2, vi x3, vi x4, vi (0 : Int32), vr r2, vr r3, vr r4, vr r5, vr b6, vr b8, un, un, un, un, un, un] []) (fun _ _ A kq => XS.icmpYes A hx rfl (pc0 := 51) (pc' := 74) rfl (hb hby at_51) rfl (tlt (by decide)).1 (by decide) (by decide) kq) ?_
    refine uI 76 hx hby at_74 rfl rfl ?_
    refine gs (mkF m 77 #[vi x0, vi x1, vi x2, vi x3, vi x4, vi (0 : Int32), vr r2, vr r3, vr r4, vr r5, vr b6, vr b8, un, un, un, un, un, un] [(.int (2 : Int32)), (.int (0 : Int32))]) (fun _ _ A kq => XS.iconst A hx rfl (hb hby at_76) kq) ?_
    refine gs (mkF m 100 #[vi x0, vi x1, vi x2, vi x3, vi x4, vi (0 : Int32), vr r2, vr r3, vr r4, vr r5, vr b6, vr b8, un, un, un, un, un, un] []) (fun _ _ A kq => XS.icmpYes A hx rfl (pc0 := 77) (pc' := 100) rfl (hb hby at_77) rfl (tlt (by decide)).1 (by decide) (by decide) kq) ?_
    refine uI 102 hx hby at_100 rfl rfl ?_
    refine gs (mkF m 103 #[vi x0, vi x1, vi x2, vi x3, vi x4, vi (0 : Int32), vr r2, vr r3, vr r4, vr r5, vr b6, vr b8, un, un, un, un, un, un] [(.int (3 : Int32)), (.int (0 : Int32))]) (fun _ _ A kq => XS.iconst A hx rfl (hb hby at_102) kq) ?_
    refine gs (mkF m 126 #[vi x0, vi x1, vi x2, vi x3, vi x4, vi (0 : Int32), vr r2, vr r3, vr r4, vr r5, vr b6, vr b8, un, un, un, un, un, un] []) (fun _ _ A kq => XS.icmpYes A hx rfl (pc0 := 103) (pc' := 126) rfl (hb hby at_103) rfl (tlt (by decide)).1 (by decide) (by decide) kq) ?_
    refine uA 128 hx hby at_126 rfl rfl rfl ?_
    refine uA 130 hx hby at_128 rfl rfl rfl ?_
    have f11 := (((A6.keep K7).ext E8).keep K9)
    have f12 := ((q7_0.ext E8).keep K9 (ninS (Nat.ne_of_lt (by omega)) nin0))
    have f13 := ((q7_1.ext E8).keep K9 (ninS (Nat.ne_of_lt (by omega)) nin0))
    refine ginfo fun _ _ O10 => ?_
    refine gcallS (y := mn491) hx (ow hw 58 rfl) (ow hw 59 rfl) (ow hw 60 rfl) (ow hw 61 rfl) (by decide) (fun hZ H hEL => Pay.of_met (W := 0) (own_rel1_0 l Z a0 cx [] (b6) (r5) (dz) (el) (ee) (em) (mr) (kd) (ke) vm9 h9 O10 f11 f12 f13 ((((q5_1.1.ext E6).keep K7).ext E8).keep K9) (by first | assumption | decide | omega)) (ow hw 61 rfl) (ow hw 60 rfl) (by decide) (by decide) hZ H hEL) 133 (argsL := [(.ref b6), (.ref r5)]) (rest := []) (lenOf own_pd549 rfl) rfl rfl (Nat.le_of_eq rfl) (by rw [hml]; rfl) (hb hby at_130) rfl (by decide) (by decide) ?_
    rintro _ vm10 h10 C10 ⟨r10, sb10, tb10, rfl, K10, q10_0, q10_1, q10_2, q10_3, q10_4, q10_5⟩
    have z10 := C10.2.1
    have lt_r10 : h10.size > r10 := q10_0.lt
    have lt_sb10 : h10.size > sb10 := q10_1.1.lt
    have lt_tb10 : h10.size > tb10 := q10_1.tlt
    refine gat (mkF m 133 #[vi x0, vi x1, vi x2, vi x3, vi x4, vi (0 : Int32), vr r2, vr r3, vr r4, vr r5, vr b6, vr b8, un, un, un, un, un, un] [(.ref r10)]) rfl ?_
    refine gs (mkF m 135 #[vi x0, vi x1, vi x2, vi x3, vi x4, vi (0 : Int32), vr r2, vr r3, vr r4, vr r5, vr b6, vr b8, vr r10, un, un, un, un, un] []) (fun _ _ A kq => XS.astore A hx rfl (hb hby at_133) rfl rfl (l' := #[vi x0, vi x1, vi x2, vi x3, vi x4, vi (0 : Int32), vr r2, vr r3, vr r4, vr r5, vr b6, vr b8, vr r10, un, un, un, un, un]) rfl kq) ?_
    refine uA 137 hx hby at_135 rfl rfl rfl ?_
    refine uA 139 hx hby at_137 rfl rfl rfl ?_
    have f15 := (f11.keep K10)
    have f16 := (f12.keep K10 nin0)
    have f17 := (f13.keep K10 nin0)
    have f18 := ((A8.keep K9).keep K10)
    have f19 := (q9_0.keep K10 nin0)
    have f20 := (q9_1.keep K10 nin0)
    refine ginfo fun _ _ O14 => ?_
    refine gcallS (y := mn479) hx (ow hw 156 rfl) (ow hw 94 rfl) (ow hw 60 rfl) (ow hw 95 rfl) (by decide) (fun hZ H hEL => Pay.of_met (W := 0) (own_relA0 l Z a0 cx [] (sb10) (tb10) (b6) (b8) (dz) (el) (ee) (em) (mr) (kd) (ke) vm10 h10 O14 q10_1 q10_5 f15 f16 f17 f18 f19 f20 (by first | assumption | decide | omega)) (ow hw 95 rfl) (ow hw 60 rfl) (by decide) (by decide) hZ H hEL) 142 (argsL := [(.ref b6), (.ref b8)]) (rest := []) (lenOf own_pd489 rfl) rfl rfl (Nat.le_of_eq rfl) (by rw [hml]; rfl) (hb hby at_139) rfl (by decide) (by decide) ?_
    rintro _ vm14 h14 C14 ⟨r14, rfl, K14, q14_0, q14_1, q14_2, q14_3⟩
    have z14 := C14.2.1
    have lt_r14 : h14.size > r14 := q14_0.lt
    refine gat (mkF m 142 #[vi x0, vi x1, vi x2, vi x3, vi x4, vi (0 : Int32), vr r2, vr r3, vr r4, vr r5, vr b6, vr b8, vr r10, un, un, un, un, un] [(.ref r14)]) rfl ?_
    refine gs (mkF m 144 #[vi x0, vi x1, vi x2, vi x3, vi x4, vi (0 : Int32), vr r2, vr r3, vr r4, vr r5, vr b6, vr b8, vr r10, vr r14, un, un, un, un] []) (fun _ _ A kq => XS.astore A hx rfl (hb hby at_142) rfl rfl (l' := #[vi x0, vi x1, vi x2, vi x3, vi x4, vi (0 : Int32), vr r2, vr r3, vr r4, vr r5, vr b6, vr b8, vr r10, vr r14, un, un, un, un]) rfl kq) ?_
    refine uA 146 hx hby at_144 rfl rfl rfl ?_
    have f22 := (f15.keep K14)
    have f23 := (f16.keep K14 nin0)
    have f24 := (f17.keep K14 nin0)
    refine ginfo fun _ _ O21 => ?_
    refine gcallS (y := mn499) hx (ow hw 157 rfl) (ow hw 158 rfl) (ow hw 60 rfl) (ow hw 159 rfl) (by decide) (fun hZ H hEL => Pay.of_met (W := 0) (own_exi0 l Z a0 cx [] (b6) (dz) (el) (ee) (em) (mr) (kd) (ke) vm14 h14 O21 f22 f23 f24 (by first | assumption | decide | omega)) (ow hw 159 rfl) (ow hw 60 rfl) (by decide) (by decide) hZ H hEL) 149 (argsL := [(.ref b6)]) (rest := []) (lenOf own_pd550 rfl) rfl rfl (Nat.le_of_eq rfl) (by rw [hml]; rfl) (hb hby at_146) rfl (by decide) (by decide) ?_
    rintro _ vm21 h21 C21 ⟨r21, sb21, tb21, rfl, K21, q21_0, q21_1, q21_2, q21_3, q21_4⟩
    have z21 := C21.2.1
    have lt_r21 : h21.size > r21 := q21_0.lt
    have lt_sb21 : h21.size > sb21 := q21_1.1.lt
    have lt_tb21 : h21.size > tb21 := q21_1.tlt
    refine gat (mkF m 149 #[vi x0, vi x1, vi x2, vi x3, vi x4, vi (0 : Int32), vr r2, vr r3, vr r4, vr r5, vr b6, vr b8, vr r10, vr r14, un, un, un, un] [(.ref r21)]) rfl ?_
    refine gs (mkF m 151 #[vi x0, vi x1, vi x2, vi x3, vi x4, vi (0 : Int32), vr r2, vr r3, vr r4, vr r5, vr b6, vr b8, vr r10, vr r14, vr r21, un, un, un] []) (fun _ _ A kq => XS.astore A hx rfl (hb hby at_149) rfl rfl (l' := #[vi x0, vi x1, vi x2, vi x3, vi x4, vi (0 : Int32), vr r2, vr r3, vr r4, vr r5, vr b6, vr b8, vr r10, vr r14, vr r21, un, un, un]) rfl kq) ?_
    refine uA 153 hx hby at_151 rfl rfl rfl ?_
    have f26 := ((q10_2.keep K14 nin0).keep K21 nin0)
    refine ginfo fun _ _ O25 => ?_
    have f27 := ((q10_0.keep K14).keep K21)
    refine gcallV (y := mn396) (z := mn396) hx (ow hw 170 rfl) (ow hw 171 rfl) (nfSel (ow hw 173 rfl)) (ow hw 173 rfl) (ow hw 172 rfl) (by decide) (fun hZ H hEL => Pay.of_met (W := 0) (own_scsource l Z a0 cx [] (r10) (sb10) vm21 h21 O25 f26) (ow hw 174 rfl) (ow hw 98 rfl) (by decide) (by decide) hZ H hEL) 156 (argsL := []) (rest := []) f27 (lenOf own_pd551 rfl) rfl rfl (Nat.le_of_eq rfl) (by rw [hml]; rfl) (hb hby at_153) rfl (by decide) (by decide) ?_
    rintro _ vm25 h25 C25 ⟨rfl, rfl⟩
    have z25 := C25.2.1
    refine gat (mkF m 156 #[vi x0, vi x1, vi x2, vi x3, vi x4, vi (0 : Int32), vr r2, vr r3, vr r4, vr r5, vr b6, vr b8, vr r10, vr r14, vr r21, un, un, un] [(.ref sb10)]) rfl ?_
    refine uA 158 hx hby at_156 rfl rfl rfl ?_
    have f29 := (q14_1.keep K21 nin0)
    refine ginfo fun _ _ O28 => ?_
    have f30 := (q14_0.keep K21)
    refine gcallV (y := mn396) (z := mn396) hx (ow hw 170 rfl) (ow hw 171 rfl) (nfSel (ow hw 173 rfl)) (ow hw 173 rfl) (ow hw 172 rfl) (by decide) (fun hZ H hEL => Pay.of_met (W := 1) (own_scsource l Z a0 cx [] (r14) (sb10) vm25 h21 O28 f29) (ow hw 174 rfl) (ow hw 98 rfl) (by decide) (by decide) hZ H hEL) 161 (argsL := []) (rest := [(.ref sb10)]) f30 (lenOf own_pd551 rfl) rfl rfl (Nat.le_of_eq rfl) (by rw [hml]; rfl) (hb hby at_158) rfl (by decide) (by decide) ?_
    rintro _ vm28 h28 C28 ⟨rfl, rfl⟩
    have z28 := C28.2.1
    refine gat (mkF m 161 #[vi x0, vi x1, vi x2, vi x3, vi x4, vi (0 : Int32), vr r2, vr r3, vr r4, vr r5, vr b6, vr b8, vr r10, vr r14, vr r21, un, un, un] [(.ref sb10), (.ref sb10)]) rfl ?_
    refine ginfo fun _ _ O31 => ?_
    refine gcallV (y := mn327) (z := mn327) hx (ow hw 175 rfl) (ow hw 176 rfl) (nfSel (ow hw 178 rfl)) (ow hw 178 rfl) (ow hw 177 rfl) (by decide) (fun hZ H hEL => Pay.of_met (W := 0) (own_eqSame l Z a0 cx [] (sb10) vm28 h21 O31 ) (ow hw 179 rfl) (ow hw 7 rfl) (by decide) (by decide) hZ H hEL) 164 (argsL := [(.ref sb10)]) (rest := []) ((q10_1.1.keep K14).keep K21) (lenOf own_pd552 rfl) rfl rfl (Nat.le_of_eq rfl) (by rw [hml]; rfl) (hb hby at_161) rfl (by decide) (by decide) ?_
    rintro _ vm31 h31 C31 ⟨rfl, rfl⟩
    have z31 := C31.2.1
    refine gat (mkF m 164 #[vi x0, vi x1, vi x2, vi x3, vi x4, vi (0 : Int32), vr r2, vr r3, vr r4, vr r5, vr b6, vr b8, vr r10, vr r14, vr r21, un, un, un] [(.int (1 : Int32))]) rfl ?_
    refine gs (mkF m 169 #[vi x0, vi x1, vi x2, vi x3, vi x4, vi (0 : Int32), vr r2, vr r3, vr r4, vr r5, vr b6, vr b8, vr r10, vr r14, vr r21, un, un, un] []) (fun _ _ A kq => XS.ifYes A hx rfl (pc0 := 164) (pc' := 169) rfl (hb hby at_164) rfl ((if0 _ _).trans (feq (by decide)).2) (by decide) (by decide) kq) ?_
    refine uA 171 hx hby at_169 rfl rfl rfl ?_
    refine ginfo fun _ _ O32 => ?_
    refine gcallV (y := mn396) (z := mn396) hx (ow hw 170 rfl) (ow hw 171 rfl) (nfSel (ow hw 173 rfl)) (ow hw 173 rfl) (ow hw 172 rfl) (by decide) (fun hZ H hEL => Pay.of_met (W := 0) (own_scsource l Z a0 cx [] (r10) (sb10) vm31 h21 O32 f26) (ow hw 174 rfl) (ow hw 98 rfl) (by decide) (by decide) hZ H hEL) 174 (argsL := []) (rest := []) f27 (lenOf own_pd551 rfl) rfl rfl (Nat.le_of_eq rfl) (by rw [hml]; rfl) (hb hby at_171) rfl (by decide) (by decide) ?_
    rintro _ vm32 h32 C32 ⟨rfl, rfl⟩
    have z32 := C32.2.1
    refine gat (mkF m 174 #[vi x0, vi x1, vi x2, vi x3, vi x4, vi (0 : Int32), vr r2, vr r3, vr r4, vr r5, vr b6, vr b8, vr r10, vr r14, vr r21, un, un, un] [(.ref sb10)]) rfl ?_
    refine uA 176 hx hby at_174 rfl rfl rfl ?_
    refine ginfo fun _ _ O33 => ?_
    refine gcallV (y := mn396) (z := mn396) hx (ow hw 170 rfl) (ow hw 171 rfl) (nfSel (ow hw 173 rfl)) (ow hw 173 rfl) (ow hw 172 rfl) (by decide) (fun hZ H hEL => Pay.of_met (W := 1) (own_scsource l Z a0 cx [] (r21) (sb21) vm32 h21 O33 q21_2) (ow hw 174 rfl) (ow hw 98 rfl) (by decide) (by decide) hZ H hEL) 179 (argsL := []) (rest := [(.ref sb10)]) q21_0 (lenOf own_pd551 rfl) rfl rfl (Nat.le_of_eq rfl) (by rw [hml]; rfl) (hb hby at_176) rfl (by decide) (by decide) ?_
    rintro _ vm33 h33 C33 ⟨rfl, rfl⟩
    have z33 := C33.2.1
    refine gat (mkF m 179 #[vi x0, vi x1, vi x2, vi x3, vi x4, vi (0 : Int32), vr r2, vr r3, vr r4, vr r5, vr b6, vr b8, vr r10, vr r14, vr r21, un, un, un] [(.ref sb21), (.ref sb10)]) rfl ?_
    have f35 := ((q10_1.keep K14 nin0 nin0).keep K21 nin0 nin0)
    refine ginfo fun _ _ O34 => ?_
    refine gcallV (y := mn327) (z := mn327) hx (ow hw 175 rfl) (ow hw 176 rfl) (nfSel (ow hw 178 rfl)) (ow hw 178 rfl) (ow hw 177 rfl) (by decide) (fun hZ H hEL => Pay.of_met (W := 0) (own_eqDiff l Z a0 cx [] (sb10) (sb21) (tb10) (tb21) vm33 h21 O34 f35 q21_1) (ow hw 179 rfl) (ow hw 7 rfl) (by decide) (by decide) hZ H hEL) 182 (argsL := [(.ref sb21)]) (rest := []) f35.1 (lenOf own_pd552 rfl) rfl rfl (Nat.le_of_eq rfl) (by rw [hml]; rfl) (hb hby at_179) rfl (by decide) (by decide) ?_
    rintro _ vm34 h34 C34 ⟨rfl, rfl⟩
    have z34 := C34.2.1
    refine gat (mkF m 182 #[vi x0, vi x1, vi x2, vi x3, vi x4, vi (0 : Int32), vr r2, vr r3, vr r4, vr r5, vr b6, vr b8, vr r10, vr r14, vr r21, un, un, un] [(.int (0 : Int32))]) rfl ?_
    refine gs (mkF m 187 #[vi x0, vi x1, vi x2, vi x3, vi x4, vi (0 : Int32), vr r2, vr r3, vr r4, vr r5, vr b6, vr b8, vr r10, vr r14, vr r21, un, un, un] []) (fun _ _ A kq => XS.ifYes A hx rfl (pc0 := 182) (pc' := 187) rfl (hb hby at_182) rfl ((if0 _ _).trans (teq (by decide)).1) (by decide) (by decide) kq) ?_
    refine uA 189 hx hby at_187 rfl rfl rfl ?_
    have f37 := ((q10_3.keep K14 nin0).keep K21 nin0)
    refine ginfo fun _ _ O36 => ?_
    refine gcallV (y := mn401) (z := mn401) hx (ow hw 185 rfl) (ow hw 186 rfl) (nfSel (ow hw 188 rfl)) (ow hw 188 rfl) (ow hw 187 rfl) (by decide) (fun hZ H hEL => Pay.of_met (W := 0) (own_sckeys l Z a0 cx [] (r10) (el) vm34 h21 O36 f37) (ow hw 189 rfl) (ow hw 98 rfl) (by decide) (by decide) hZ H hEL) 192 (argsL := []) (rest := []) f27 (lenOf own_pd273 rfl) rfl rfl (Nat.le_of_eq rfl) (by rw [hml]; rfl) (hb hby at_189) rfl (by decide) (by decide) ?_
    rintro _ vm36 h36 C36 ⟨rfl, rfl⟩
    have z36 := C36.2.1
    refine gat (mkF m 192 #[vi x0, vi x1, vi x2, vi x3, vi x4, vi (0 : Int32), vr r2, vr r3, vr r4, vr r5, vr b6, vr b8, vr r10, vr r14, vr r21, un, un, un] [(.ref el)]) rfl ?_
    refine gs (mkF m 194 #[vi x0, vi x1, vi x2, vi x3, vi x4, vi (0 : Int32), vr r2, vr r3, vr r4, vr r5, vr b6, vr b8, vr r10, vr r14, vr r21, vr el, un, un] []) (fun _ _ A kq => XS.astore A hx rfl (hb hby at_192) rfl rfl (l' := #[vi x0, vi x1, vi x2, vi x3, vi x4, vi (0 : Int32), vr r2, vr r3, vr r4, vr r5, vr b6, vr b8, vr r10, vr r14, vr r21, vr el, un, un]) rfl kq) ?_
    refine uA 196 hx hby at_194 rfl rfl rfl ?_
    have f39 := ((q10_4.keep K14 nin0).keep K21 nin0)
    refine ginfo fun _ _ O38 => ?_
    refine gcallV (y := mn405) (z := mn405) hx (ow hw 190 rfl) (ow hw 191 rfl) (nfSel (ow hw 193 rfl)) (ow hw 193 rfl) (ow hw 192 rfl) (by decide) (fun hZ H hEL => Pay.of_met (W := 0) (own_scargs l Z a0 cx [] (r10) (el) vm36 h21 O38 f39) (ow hw 194 rfl) (ow hw 98 rfl) (by decide) (by decide) hZ H hEL) 199 (argsL := []) (rest := []) f27 (lenOf own_pd273 rfl) rfl rfl (Nat.le_of_eq rfl) (by rw [hml]; rfl) (hb hby at_196) rfl (by decide) (by decide) ?_
    rintro _ vm38 h38 C38 ⟨rfl, rfl⟩
    have z38 := C38.2.1
    refine gat (mkF m 199 #[vi x0, vi x1, vi x2, vi x3, vi x4, vi (0 : Int32), vr r2, vr r3, vr r4, vr r5, vr b6, vr b8, vr r10, vr r14, vr r21, vr el, un, un] [(.ref el)]) rfl ?_
    refine gs (mkF m 201 #[vi x0, vi x1, vi x2, vi x3, vi x4, vi (0 : Int32), vr r2, vr r3, vr r4, vr r5, vr b6, vr b8, vr r10, vr r14, vr r21, vr el, vr el, un] []) (fun _ _ A kq => XS.astore A hx rfl (hb hby at_199) rfl rfl (l' := #[vi x0, vi x1, vi x2, vi x3, vi x4, vi (0 : Int32), vr r2, vr r3, vr r4, vr r5, vr b6, vr b8, vr r10, vr r14, vr r21, vr el, vr el, un]) rfl kq) ?_
    refine uA 203 hx hby at_201 rfl rfl rfl ?_
    refine ginfo fun _ _ O40 => ?_
    have f41 := (((((((((((Eel_1.keep K2).keep K3).keep K4).keep K5).ext E6).keep K7).ext E8).keep K9).keep K10).keep K14).keep K21)
    refine gcallF (xi := mn484) (y := mn285) hx (ow hw 195 rfl) (ow hw 63 rfl) (fun _ _ hU => mvT hU (ow hw 64 rfl)) (ow hw 196 rfl) (ow hw 197 rfl) (ow hw 198 rfl) (ow hw 199 rfl) (ow hw 169 rfl) (by decide) (fun hZ H hEL => Pay.of_met (W := 0) (own_lsize0 l Z a0 cx [] (dz) (el) (ee) (em) (mr) (kd) (ke) vm38 h21 O40 (by first | assumption | decide | omega)) (ow hw 201 rfl) (ow hw 200 rfl) (by decide) (by decide) hZ H hEL) 208 (argsL := []) (rest := []) f41 (lenOf own_pd445 rfl) rfl rfl (Nat.le_of_eq rfl) (by rw [hml]; rfl) (hb hby at_203) rfl (by decide) (by decide) ?_
    rintro _ vm40 h40 C40 ⟨rfl, rfl⟩
    have z40 := C40.2.1
    refine gat (mkF m 208 #[vi x0, vi x1, vi x2, vi x3, vi x4, vi (0 : Int32), vr r2, vr r3, vr r4, vr r5, vr b6, vr b8, vr r10, vr r14, vr r21, vr el, vr el, un] [(.int (0 : Int32))]) rfl ?_
    refine uI 210 hx hby at_208 rfl rfl ?_
    refine gs (mkF m 213 #[vi x0, vi x1, vi x2, vi x3, vi x4, vi (0 : Int32), vr r2, vr r3, vr r4, vr r5, vr b6, vr b8, vr r10, vr r14, vr r21, vr el, vr el, un] []) (fun _ _ A kq => XS.icmpNo A hx rfl (hb hby at_210) rfl (teq (by decide)).2 kq) ?_
    refine uA 215 hx hby at_213 rfl rfl rfl ?_
    refine ginfo fun _ _ O42 => ?_
    refine gcallF (xi := mn484) (y := mn285) hx (ow hw 195 rfl) (ow hw 63 rfl) (fun _ _ hU => mvT hU (ow hw 64 rfl)) (ow hw 196 rfl) (ow hw 197 rfl) (ow hw 198 rfl) (ow hw 199 rfl) (ow hw 169 rfl) (by decide) (fun hZ H hEL => Pay.of_met (W := 0) (own_lsize0 l Z a0 cx [] (dz) (el) (ee) (em) (mr) (kd) (ke) vm40 h21 O42 (by first | assumption | decide | omega)) (ow hw 201 rfl) (ow hw 200 rfl) (by decide) (by decide) hZ H hEL) 220 (argsL := []) (rest := []) f41 (lenOf own_pd445 rfl) rfl rfl (Nat.le_of_eq rfl) (by rw [hml]; rfl) (hb hby at_215) rfl (by decide) (by decide) ?_
    rintro _ vm42 h42 C42 ⟨rfl, rfl⟩
    have z42 := C42.2.1
    refine gat (mkF m 220 #[vi x0, vi x1, vi x2, vi x3, vi x4, vi (0 : Int32), vr r2, vr r3, vr r4, vr r5, vr b6, vr b8, vr r10, vr r14, vr r21, vr el, vr el, un] [(.int (0 : Int32))]) rfl ?_
    refine uI 222 hx hby at_220 rfl rfl ?_
    refine gs (mkF m 227 #[vi x0, vi x1, vi x2, vi x3, vi x4, vi (0 : Int32), vr r2, vr r3, vr r4, vr r5, vr b6, vr b8, vr r10, vr r14, vr r21, vr el, vr el, un] []) (fun _ _ A kq => XS.icmpYes A hx rfl (pc0 := 222) (pc' := 227) rfl (hb hby at_222) rfl (teq (by decide)).1 (by decide) (by decide) kq) ?_
    refine gs (mkF m 228 #[vi x0, vi x1, vi x2, vi x3, vi x4, vi (0 : Int32), vr r2, vr r3, vr r4, vr r5, vr b6, vr b8, vr r10, vr r14, vr r21, vr el, vr el, un] [(.int (1 : Int32))]) (fun _ _ A kq => XS.iconst A hx rfl (hb hby at_227) kq) ?_
    refine gs (mkF m 230 #[vi x0, vi x1, vi x2, vi x3, vi x4, vi (0 : Int32), vr r2, vr r3, vr r4, vr r5, vr b6, vr b8, vr r10, vr r14, vr r21, vr el, vr el, vi (1 : Int32)] []) (fun _ _ A kq => XS.istore A hx rfl (hb hby at_228) rfl (l' := #[vi x0, vi x1, vi x2, vi x3, vi x4, vi (0 : Int32), vr r2, vr r3, vr r4, vr r5, vr b6, vr b8, vr r10, vr r14, vr r21, vr el, vr el, vi (1 : Int32)]) rfl kq) ?_
    refine uI 232 hx hby at_230 rfl rfl ?_
    refine gs (mkF m 233 #[vi x0, vi x1, vi x2, vi x3, vi x4, vi (0 : Int32), vr r2, vr r3, vr r4, vr r5, vr b6, vr b8, vr r10, vr r14, vr r21, vr el, vr el, vi (1 : Int32)] [(.int (1 : Int32)), (.int (0 : Int32))]) (fun _ _ A kq => XS.iconst A hx rfl (hb hby at_232) kq) ?_
    refine gs (mkF m 286 #[vi x0, vi x1, vi x2, vi x3, vi x4, vi (0 : Int32), vr r2, vr r3, vr r4, vr r5, vr b6, vr b8, vr r10, vr r14, vr r21, vr el, vr el, vi (1 : Int32)] []) (fun _ _ A kq => XS.icmpYes A hx rfl (pc0 := 233) (pc' := 286) rfl (hb hby at_233) rfl (tlt (by decide)).1 (by decide) (by decide) kq) ?_
    refine uI 288 hx hby at_286 rfl rfl ?_
    refine gs (mkF m 289 #[vi x0, vi x1, vi x2, vi x3, vi x4, vi (0 : Int32), vr r2, vr r3, vr r4, vr r5, vr b6, vr b8, vr r10, vr r14, vr r21, vr el, vr el, vi (1 : Int32)] [(.int (2 : Int32)), (.int (0 : Int32))]) (fun _ _ A kq => XS.iconst A hx rfl (hb hby at_288) kq) ?_
    refine gs (mkF m 342 #[vi x0, vi x1, vi x2, vi x3, vi x4, vi (0 : Int32), vr r2, vr r3, vr r4, vr r5, vr b6, vr b8, vr r10, vr r14, vr r21, vr el, vr el, vi (1 : Int32)] []) (fun _ _ A kq => XS.icmpYes A hx rfl (pc0 := 289) (pc' := 342) rfl (hb hby at_289) rfl (tlt (by decide)).1 (by decide) (by decide) kq) ?_
    refine uI 344 hx hby at_342 rfl rfl ?_
    refine gs (mkF m 345 #[vi x0, vi x1, vi x2, vi x3, vi x4, vi (0 : Int32), vr r2, vr r3, vr r4, vr r5, vr b6, vr b8, vr r10, vr r14, vr r21, vr el, vr el, vi (1 : Int32)] [(.int (3 : Int32)), (.int (0 : Int32))]) (fun _ _ A kq => XS.iconst A hx rfl (hb hby at_344) kq) ?_
    refine gs (mkF m 398 #[vi x0, vi x1, vi x2, vi x3, vi x4, vi (0 : Int32), vr r2, vr r3, vr r4, vr r5, vr b6, vr b8, vr r10, vr r14, vr r21, vr el, vr el, vi (1 : Int32)] []) (fun _ _ A kq => XS.icmpYes A hx rfl (pc0 := 345) (pc' := 398) rfl (hb hby at_345) rfl (tlt (by decide)).1 (by decide) (by decide) kq) ?_
    refine uI 400 hx hby at_398 rfl rfl ?_
    exact gretN (t := .boolean) hx hret (by simp) (hb hby at_400) (by decide) (by decide) (fun vq Cq => ⟨rfl, ((((((((((((Keep.refl h0 []).trans K2 all0).trans K3 all0).trans K4 all0).trans K5 all0).ext E6).trans K7 (allS (Or.inr (by omega)) all0)).ext E8).trans K9 (allS (Or.inr (by omega)) all0)).trans K10 all0).trans K14 all0).trans K21 all0)⟩)
  · refine gat (mkF m 48 #[vi x0, vi x1, vi x2, vi x3, vi x4, vi (1 : Int32), vr r2, vr r3, vr r4, vr r5, vr b6, vr b8, un, un, un, un, un, un] []) (by rw [nq]) ?_
    refine uI 50 hx hby at_48 rfl rfl ?_
    refine gs (mkF m 51 #[vi x0, vi x1, vi x2, vi x3, vi x4, vi (1 : Int32), vr r2, vr r3, vr r4, vr r5, vr b6, vr b8, un, un, un, un, un, un] [(.int (1 : Int32)), (.int (1 : Int32))]) (fun _ _ A kq => XS.iconst A hx rfl (hb hby at_50) kq) ?_
    refine gs (mkF m 54 #[vi x0, vi x1, vi x2, vi x3, vi x4, vi (1 : Int32), vr r2, vr r3, vr r4, vr r5, vr b6, vr b8, un, un, un, un, un, un] []) (fun _ _ A kq => XS.icmpNo A hx rfl (hb hby at_51) rfl (flt (by decide)).1 kq) ?_
    refine uA 56 hx hby at_54 rfl rfl rfl ?_
    refine uA 58 hx hby at_56 rfl rfl rfl ?_
    have f45 := (((A6.keep K7).ext E8).keep K9)
    have f46 := ((q7_0.ext E8).keep K9 (ninS (Nat.ne_of_lt (by omega)) nin0))
    have f47 := ((q7_1.ext E8).keep K9 (ninS (Nat.ne_of_lt (by omega)) nin0))
    have f48 := ((q7_2.ext E8).keep K9 (ninS (Nat.ne_of_lt (by omega)) nin0))
    refine ginfo fun _ _ O44 => ?_
    refine gcallF (xi := mn553) (y := mn94) hx (ow hw 204 rfl) (ow hw 205 rfl) (fun _ _ hU => mvT hU (ow hw 206 rfl)) (ow hw 207 rfl) (ow hw 208 rfl) (ow hw 209 rfl) (ow hw 210 rfl) (ow hw 69 rfl) (by decide) (fun hZ H hEL => Pay.of_met (W := 0) (own_add0 l Z a0 cx [] (b6) (r2) ((0 : Int32)) (dz) (el) (ee) (em) (mr) (kd) (ke) vm9 h9 O44 f45 f46 f47 n6 (((((((q2_1.1.keep K3).keep K4).keep K5).ext E6).keep K7).ext E8).keep K9) f48 (by first | assumption | decide | omega)) (ow hw 211 rfl) (ow hw 36 rfl) (by decide) (by decide) hZ H hEL) 63 (argsL := [(.ref r2)]) (rest := []) f45 (lenOf own_pd552 rfl) rfl rfl (Nat.le_of_eq rfl) (by rw [hml]; rfl) (hb hby at_58) rfl (by decide) (by decide) ?_
    rintro _ vm44 h44 C44 ⟨d44, kc44, rfl, K44, q44_0, q44_1, q44_2, q44_3, q44_4, q44_5, q44_6, q44_7⟩
    have z44 := C44.2.1
    have lt_d44 : h44.size > d44 := q44_2.lt
    refine gat (mkF m 63 #[vi x0, vi x1, vi x2, vi x3, vi x4, vi (1 : Int32), vr r2, vr r3, vr r4, vr r5, vr b6, vr b8, un, un, un, un, un, un] [(.int (1 : Int32))]) rfl ?_
    refine uP 64 hx hby at_63 rfl rfl ?_
    refine uA 66 hx hby at_64 rfl rfl rfl ?_
    refine uA 68 hx hby at_66 rfl rfl rfl ?_
    have f50 := ((A8.keep K9).keep K44)
    have f51 := (q9_0.keep K44 (ninS (Nat.ne_of_gt (by omega)) nin0))
    have f52 := (q9_1.keep K44 (ninS (Nat.ne_of_gt (by omega)) nin0))
    have f53 := (q9_2.keep K44 (ninS (Nat.ne_of_gt (by omega)) nin0))
    refine ginfo fun _ _ O49 => ?_
    refine gcallF (xi := mn553) (y := mn94) hx (ow hw 204 rfl) (ow hw 205 rfl) (fun _ _ hU => mvT hU (ow hw 206 rfl)) (ow hw 207 rfl) (ow hw 208 rfl) (ow hw 209 rfl) (ow hw 210 rfl) (ow hw 69 rfl) (by decide) (fun hZ H hEL => Pay.of_met (W := 0) (own_add0 l Z a0 cx [] (b8) (r5) ((0 : Int32)) (dz) (el) (ee) (em) (mr) (kd) (ke) vm44 h44 O49 f50 f51 f52 n8 (((((q5_1.1.ext E6).keep K7).ext E8).keep K9).keep K44) f53 (by first | assumption | decide | omega)) (ow hw 211 rfl) (ow hw 36 rfl) (by decide) (by decide) hZ H hEL) 73 (argsL := [(.ref r5)]) (rest := []) f50 (lenOf own_pd552 rfl) rfl rfl (Nat.le_of_eq rfl) (by rw [hml]; rfl) (hb hby at_68) rfl (by decide) (by decide) ?_
    rintro _ vm49 h49 C49 ⟨d49, kc49, rfl, K49, q49_0, q49_1, q49_2, q49_3, q49_4, q49_5, q49_6, q49_7⟩
    have z49 := C49.2.1
    have lt_d49 : h49.size > d49 := q49_2.lt
    refine gat (mkF m 73 #[vi x0, vi x1, vi x2, vi x3, vi x4, vi (1 : Int32), vr r2, vr r3, vr r4, vr r5, vr b6, vr b8, un, un, un, un, un, un] [(.int (1 : Int32))]) rfl ?_
    refine uP 74 hx hby at_73 rfl rfl ?_
    refine uI 76 hx hby at_74 rfl rfl ?_
    refine gs (mkF m 77 #[vi x0, vi x1, vi x2, vi x3, vi x4, vi (1 : Int32), vr r2, vr r3, vr r4, vr r5, vr b6, vr b8, un, un, un, un, un, un] [(.int (2 : Int32)), (.int (1 : Int32))]) (fun _ _ A kq => XS.iconst A hx rfl (hb hby at_76) kq) ?_
    refine gs (mkF m 100 #[vi x0, vi x1, vi x2, vi x3, vi x4, vi (1 : Int32), vr r2, vr r3, vr r4, vr r5, vr b6, vr b8, un, un, un, un, un, un] []) (fun _ _ A kq => XS.icmpYes A hx rfl (pc0 := 77) (pc' := 100) rfl (hb hby at_77) rfl (tlt (by decide)).1 (by decide) (by decide) kq) ?_
    refine uI 102 hx hby at_100 rfl rfl ?_
    refine gs (mkF m 103 #[vi x0, vi x1, vi x2, vi x3, vi x4, vi (1 : Int32), vr r2, vr r3, vr r4, vr r5, vr b6, vr b8, un, un, un, un, un, un] [(.int (3 : Int32)), (.int (1 : Int32))]) (fun _ _ A kq => XS.iconst A hx rfl (hb hby at_102) kq) ?_
    refine gs (mkF m 126 #[vi x0, vi x1, vi x2, vi x3, vi x4, vi (1 : Int32), vr r2, vr r3, vr r4, vr r5, vr b6, vr b8, un, un, un, un, un, un] []) (fun _ _ A kq => XS.icmpYes A hx rfl (pc0 := 103) (pc' := 126) rfl (hb hby at_103) rfl (tlt (by decide)).1 (by decide) (by decide) kq) ?_
    refine uA 128 hx hby at_126 rfl rfl rfl ?_
    refine uA 130 hx hby at_128 rfl rfl rfl ?_
    have f55 := ((f45.keep K44).keep K49)
    have f56 := (q44_0.keep K49 (ninS (Nat.ne_of_lt (by omega)) nin0))
    have f57 := (q44_1.keep K49 (ninS (Nat.ne_of_lt (by omega)) nin0))
    have f58 := (q44_2.keep K49 (ninS (Nat.ne_of_gt (by omega)) nin0))
    have f59 := (q44_5.keep K49)
    refine ginfo fun _ _ O54 => ?_
    refine gcallS (y := mn491) hx (ow hw 58 rfl) (ow hw 59 rfl) (ow hw 60 rfl) (ow hw 61 rfl) (by decide) (fun hZ H hEL => Pay.of_met (W := 0) (own_rel1_1 l Z a0 cx [] (b6) (r5) (d44) (kc44) (r2) (dz) (el) (ee) (em) (mr) (kd) (ke) vm49 h49 O54 f55 f56 f57 f58 f59 (by first | assumption | decide | omega) (((((((((q2_1.1.keep K3).keep K4).keep K5).ext E6).keep K7).ext E8).keep K9).keep K44).keep K49) ((((((q5_1.1.ext E6).keep K7).ext E8).keep K9).keep K44).keep K49) (by first | assumption | decide | omega)) (ow hw 61 rfl) (ow hw 60 rfl) (by decide) (by decide) hZ H hEL) 133 (argsL := [(.ref b6), (.ref r5)]) (rest := []) (lenOf own_pd549 rfl) rfl rfl (Nat.le_of_eq rfl) (by rw [hml]; rfl) (hb hby at_130) rfl (by decide) (by decide) ?_
    rintro _ vm54 h54 C54 ⟨r54, sb54, tb54, r154, r254, rfl, K54, q54_0, q54_1, q54_2, q54_3, q54_4, q54_5, q54_6, q54_7, q54_8, q54_9, q54_10, q54_11⟩
    have z54 := C54.2.1
    have lt_r54 : h54.size > r54 := q54_0.lt
    have lt_sb54 : h54.size > sb54 := q54_1.1.lt
    have lt_tb54 : h54.size > tb54 := q54_1.tlt
    have lt_r154 : h54.size > r154 := q54_5.lt
    have lt_r254 : h54.size > r254 := q54_8.lt
    refine gat (mkF m 133 #[vi x0, vi x1, vi x2, vi x3, vi x4, vi (1 : Int32), vr r2, vr r3, vr r4, vr r5, vr b6, vr b8, un, un, un, un, un, un] [(.ref r54)]) rfl ?_
    refine gs (mkF m 135 #[vi x0, vi x1, vi x2, vi x3, vi x4, vi (1 : Int32), vr r2, vr r3, vr r4, vr r5, vr b6, vr b8, vr r54, un, un, un, un, un] []) (fun _ _ A kq => XS.astore A hx rfl (hb hby at_133) rfl rfl (l' := #[vi x0, vi x1, vi x2, vi x3, vi x4, vi (1 : Int32), vr r2, vr r3, vr r4, vr r5, vr b6, vr b8, vr r54, un, un, un, un, un]) rfl kq) ?_
    refine uA 137 hx hby at_135 rfl rfl rfl ?_
    refine uA 139 hx hby at_137 rfl rfl rfl ?_
    have f61 := (f55.keep K54)
    have f62 := (f56.keep K54 nin0)
    have f63 := (f57.keep K54 nin0)
    have f64 := (f58.keep K54 nin0)
    have f65 := (f59.keep K54)
    have f66 := ((f50.keep K49).keep K54)
    have f67 := (q49_0.keep K54 nin0)
    have f68 := (q49_1.keep K54 nin0)
    have f69 := (q49_2.keep K54 nin0)
    have f70 := (q49_5.keep K54)
    refine ginfo fun _ _ O60 => ?_
    refine gcallS (y := mn479) hx (ow hw 156 rfl) (ow hw 94 rfl) (ow hw 60 rfl) (ow hw 95 rfl) (by decide) (fun hZ H hEL => Pay.of_met (W := 0) (own_relA1 l Z a0 cx [] (sb54) (tb54) (b6) (b8) (r5) (d44) (kc44) (d49) (kc49) (r2) (dz) (el) (ee) (em) (mr) (kd) (ke) vm54 h54 O60 q54_1 q54_11 f61 f62 f63 f64 f65 (by first | assumption | decide | omega) ((((((((((q2_1.1.keep K3).keep K4).keep K5).ext E6).keep K7).ext E8).keep K9).keep K44).keep K49).keep K54) f66 f67 f68 f69 f70 (by first | assumption | decide | omega) (((((((q5_1.1.ext E6).keep K7).ext E8).keep K9).keep K44).keep K49).keep K54) (by first | assumption | decide | omega)) (ow hw 95 rfl) (ow hw 60 rfl) (by decide) (by decide) hZ H hEL) 142 (argsL := [(.ref b6), (.ref b8)]) (rest := []) (lenOf own_pd489 rfl) rfl rfl (Nat.le_of_eq rfl) (by rw [hml]; rfl) (hb hby at_139) rfl (by decide) (by decide) ?_
    rintro _ vm60 h60 C60 ⟨r60, r160, r260, rfl, K60, q60_0, q60_1, q60_2, q60_3, q60_4, q60_5, q60_6, q60_7, q60_8, q60_9⟩
    have z60 := C60.2.1
    have lt_r60 : h60.size > r60 := q60_0.lt
    have lt_r160 : h60.size > r160 := q60_4.lt
    have lt_r260 : h60.size > r260 := q60_7.lt
    refine gat (mkF m 142 #[vi x0, vi x1, vi x2, vi x3, vi x4, vi (1 : Int32), vr r2, vr r3, vr r4, vr r5, vr b6, vr b8, vr r54, un, un, un, un, un] [(.ref r60)]) rfl ?_
    refine gs (mkF m 144 #[vi x0, vi x1, vi x2, vi x3, vi x4, vi (1 : Int32), vr r2, vr r3, vr r4, vr r5, vr b6, vr b8, vr r54, vr r60, un, un, un, un] []) (fun _ _ A kq => XS.astore A hx rfl (hb hby at_142) rfl rfl (l' := #[vi x0, vi x1, vi x2, vi x3, vi x4, vi (1 : Int32), vr r2, vr r3, vr r4, vr r5, vr b6, vr b8, vr r54, vr r60, un, un, un, un]) rfl kq) ?_
    refine uA 146 hx hby at_144 rfl rfl rfl ?_
    have f72 := (f61.keep K60)
    have f73 := (f62.keep K60 nin0)
    have f74 := (f63.keep K60 nin0)
    have f75 := (f64.keep K60 nin0)
    have f76 := (f65.keep K60)
    refine ginfo fun _ _ O71 => ?_
    refine gcallS (y := mn499) hx (ow hw 157 rfl) (ow hw 158 rfl) (ow hw 60 rfl) (ow hw 159 rfl) (by decide) (fun hZ H hEL => Pay.of_met (W := 0) (own_exi1 l Z a0 cx [] (b6) (d44) (kc44) (r2) (dz) (el) (ee) (em) (mr) (kd) (ke) vm60 h60 O71 f72 f73 f74 f75 f76 (by first | assumption | decide | omega) (((((((((((q2_1.1.keep K3).keep K4).keep K5).ext E6).keep K7).ext E8).keep K9).keep K44).keep K49).keep K54).keep K60) (by first | assumption | decide | omega)) (ow hw 159 rfl) (ow hw 60 rfl) (by decide) (by decide) hZ H hEL) 149 (argsL := [(.ref b6)]) (rest := []) (lenOf own_pd550 rfl) rfl rfl (Nat.le_of_eq rfl) (by rw [hml]; rfl) (hb hby at_146) rfl (by decide) (by decide) ?_
    rintro _ vm71 h71 C71 ⟨r71, sb71, tb71, r171, rfl, K71, q71_0, q71_1, q71_2, q71_3, q71_4, q71_5, q71_6, q71_7⟩
    have z71 := C71.2.1
    have lt_r71 : h71.size > r71 := q71_0.lt
    have lt_sb71 : h71.size > sb71 := q71_1.1.lt
    have lt_tb71 : h71.size > tb71 := q71_1.tlt
    have lt_r171 : h71.size > r171 := q71_5.lt
    refine gat (mkF m 149 #[vi x0, vi x1, vi x2, vi x3, vi x4, vi (1 : Int32), vr r2, vr r3, vr r4, vr r5, vr b6, vr b8, vr r54, vr r60, un, un, un, un] [(.ref r71)]) rfl ?_
    refine gs (mkF m 151 #[vi x0, vi x1, vi x2, vi x3, vi x4, vi (1 : Int32), vr r2, vr r3, vr r4, vr r5, vr b6, vr b8, vr r54, vr r60, vr r71, un, un, un] []) (fun _ _ A kq => XS.astore A hx rfl (hb hby at_149) rfl rfl (l' := #[vi x0, vi x1, vi x2, vi x3, vi x4, vi (1 : Int32), vr r2, vr r3, vr r4, vr r5, vr b6, vr b8, vr r54, vr r60, vr r71, un, un, un]) rfl kq) ?_
    refine uA 153 hx hby at_151 rfl rfl rfl ?_
    have f78 := ((q54_2.keep K60 nin0).keep K71 nin0)
    refine ginfo fun _ _ O77 => ?_
    have f79 := ((q54_0.keep K60).keep K71)
    refine gcallV (y := mn396) (z := mn396) hx (ow hw 170 rfl) (ow hw 171 rfl) (nfSel (ow hw 173 rfl)) (ow hw 173 rfl) (ow hw 172 rfl) (by decide) (fun hZ H hEL => Pay.of_met (W := 0) (own_scsource l Z a0 cx [] (r54) (sb54) vm71 h71 O77 f78) (ow hw 174 rfl) (ow hw 98 rfl) (by decide) (by decide) hZ H hEL) 156 (argsL := []) (rest := []) f79 (lenOf own_pd551 rfl) rfl rfl (Nat.le_of_eq rfl) (by rw [hml]; rfl) (hb hby at_153) rfl (by decide) (by decide) ?_
    rintro _ vm77 h77 C77 ⟨rfl, rfl⟩
    have z77 := C77.2.1
    refine gat (mkF m 156 #[vi x0, vi x1, vi x2, vi x3, vi x4, vi (1 : Int32), vr r2, vr r3, vr r4, vr r5, vr b6, vr b8, vr r54, vr r60, vr r71, un, un, un] [(.ref sb54)]) rfl ?_
    refine uA 158 hx hby at_156 rfl rfl rfl ?_
    have f81 := (q60_1.keep K71 nin0)
    refine ginfo fun _ _ O80 => ?_
    have f82 := (q60_0.keep K71)
    refine gcallV (y := mn396) (z := mn396) hx (ow hw 170 rfl) (ow hw 171 rfl) (nfSel (ow hw 173 rfl)) (ow hw 173 rfl) (ow hw 172 rfl) (by decide) (fun hZ H hEL => Pay.of_met (W := 1) (own_scsource l Z a0 cx [] (r60) (sb54) vm77 h71 O80 f81) (ow hw 174 rfl) (ow hw 98 rfl) (by decide) (by decide) hZ H hEL) 161 (argsL := []) (rest := [(.ref sb54)]) f82 (lenOf own_pd551 rfl) rfl rfl (Nat.le_of_eq rfl) (by rw [hml]; rfl) (hb hby at_158) rfl (by decide) (by decide) ?_
    rintro _ vm80 h80 C80 ⟨rfl, rfl⟩
    have z80 := C80.2.1
    refine gat (mkF m 161 #[vi x0, vi x1, vi x2, vi x3, vi x4, vi (1 : Int32), vr r2, vr r3, vr r4, vr r5, vr b6, vr b8, vr r54, vr r60, vr r71, un, un, un] [(.ref sb54), (.ref sb54)]) rfl ?_
    refine ginfo fun _ _ O83 => ?_
    refine gcallV (y := mn327) (z := mn327) hx (ow hw 175 rfl) (ow hw 176 rfl) (nfSel (ow hw 178 rfl)) (ow hw 178 rfl) (ow hw 177 rfl) (by decide) (fun hZ H hEL => Pay.of_met (W := 0) (own_eqSame l Z a0 cx [] (sb54) vm80 h71 O83 ) (ow hw 179 rfl) (ow hw 7 rfl) (by decide) (by decide) hZ H hEL) 164 (argsL := [(.ref sb54)]) (rest := []) ((q54_1.1.keep K60).keep K71) (lenOf own_pd552 rfl) rfl rfl (Nat.le_of_eq rfl) (by rw [hml]; rfl) (hb hby at_161) rfl (by decide) (by decide) ?_
    rintro _ vm83 h83 C83 ⟨rfl, rfl⟩
    have z83 := C83.2.1
    refine gat (mkF m 164 #[vi x0, vi x1, vi x2, vi x3, vi x4, vi (1 : Int32), vr r2, vr r3, vr r4, vr r5, vr b6, vr b8, vr r54, vr r60, vr r71, un, un, un] [(.int (1 : Int32))]) rfl ?_
    refine gs (mkF m 169 #[vi x0, vi x1, vi x2, vi x3, vi x4, vi (1 : Int32), vr r2, vr r3, vr r4, vr r5, vr b6, vr b8, vr r54, vr r60, vr r71, un, un, un] []) (fun _ _ A kq => XS.ifYes A hx rfl (pc0 := 164) (pc' := 169) rfl (hb hby at_164) rfl ((if0 _ _).trans (feq (by decide)).2) (by decide) (by decide) kq) ?_
    refine uA 171 hx hby at_169 rfl rfl rfl ?_
    refine ginfo fun _ _ O84 => ?_
    refine gcallV (y := mn396) (z := mn396) hx (ow hw 170 rfl) (ow hw 171 rfl) (nfSel (ow hw 173 rfl)) (ow hw 173 rfl) (ow hw 172 rfl) (by decide) (fun hZ H hEL => Pay.of_met (W := 0) (own_scsource l Z a0 cx [] (r54) (sb54) vm83 h71 O84 f78) (ow hw 174 rfl) (ow hw 98 rfl) (by decide) (by decide) hZ H hEL) 174 (argsL := []) (rest := []) f79 (lenOf own_pd551 rfl) rfl rfl (Nat.le_of_eq rfl) (by rw [hml]; rfl) (hb hby at_171) rfl (by decide) (by decide) ?_
    rintro _ vm84 h84 C84 ⟨rfl, rfl⟩
    have z84 := C84.2.1
    refine gat (mkF m 174 #[vi x0, vi x1, vi x2, vi x3, vi x4, vi (1 : Int32), vr r2, vr r3, vr r4, vr r5, vr b6, vr b8, vr r54, vr r60, vr r71, un, un, un] [(.ref sb54)]) rfl ?_
    refine uA 176 hx hby at_174 rfl rfl rfl ?_
    refine ginfo fun _ _ O85 => ?_
    refine gcallV (y := mn396) (z := mn396) hx (ow hw 170 rfl) (ow hw 171 rfl) (nfSel (ow hw 173 rfl)) (ow hw 173 rfl) (ow hw 172 rfl) (by decide) (fun hZ H hEL => Pay.of_met (W := 1) (own_scsource l Z a0 cx [] (r71) (sb71) vm84 h71 O85 q71_2) (ow hw 174 rfl) (ow hw 98 rfl) (by decide) (by decide) hZ H hEL) 179 (argsL := []) (rest := [(.ref sb54)]) q71_0 (lenOf own_pd551 rfl) rfl rfl (Nat.le_of_eq rfl) (by rw [hml]; rfl) (hb hby at_176) rfl (by decide) (by decide) ?_
    rintro _ vm85 h85 C85 ⟨rfl, rfl⟩
    have z85 := C85.2.1
    refine gat (mkF m 179 #[vi x0, vi x1, vi x2, vi x3, vi x4, vi (1 : Int32), vr r2, vr r3, vr r4, vr r5, vr b6, vr b8, vr r54, vr r60, vr r71, un, un, un] [(.ref sb71), (.ref sb54)]) rfl ?_
    have f87 := ((q54_1.keep K60 nin0 nin0).keep K71 nin0 nin0)
    refine ginfo fun _ _ O86 => ?_
    refine gcallV (y := mn327) (z := mn327) hx (ow hw 175 rfl) (ow hw 176 rfl) (nfSel (ow hw 178 rfl)) (ow hw 178 rfl) (ow hw 177 rfl) (by decide) (fun hZ H hEL => Pay.of_met (W := 0) (own_eqDiff l Z a0 cx [] (sb54) (sb71) (tb54) (tb71) vm85 h71 O86 f87 q71_1) (ow hw 179 rfl) (ow hw 7 rfl) (by decide) (by decide) hZ H hEL) 182 (argsL := [(.ref sb71)]) (rest := []) f87.1 (lenOf own_pd552 rfl) rfl rfl (Nat.le_of_eq rfl) (by rw [hml]; rfl) (hb hby at_179) rfl (by decide) (by decide) ?_
    rintro _ vm86 h86 C86 ⟨rfl, rfl⟩
    have z86 := C86.2.1
    refine gat (mkF m 182 #[vi x0, vi x1, vi x2, vi x3, vi x4, vi (1 : Int32), vr r2, vr r3, vr r4, vr r5, vr b6, vr b8, vr r54, vr r60, vr r71, un, un, un] [(.int (0 : Int32))]) rfl ?_
    refine gs (mkF m 187 #[vi x0, vi x1, vi x2, vi x3, vi x4, vi (1 : Int32), vr r2, vr r3, vr r4, vr r5, vr b6, vr b8, vr r54, vr r60, vr r71, un, un, un] []) (fun _ _ A kq => XS.ifYes A hx rfl (pc0 := 182) (pc' := 187) rfl (hb hby at_182) rfl ((if0 _ _).trans (teq (by decide)).1) (by decide) (by decide) kq) ?_
    refine uA 189 hx hby at_187 rfl rfl rfl ?_
    have f89 := ((q54_3.keep K60 nin0).keep K71 nin0)
    refine ginfo fun _ _ O88 => ?_
    refine gcallV (y := mn401) (z := mn401) hx (ow hw 185 rfl) (ow hw 186 rfl) (nfSel (ow hw 188 rfl)) (ow hw 188 rfl) (ow hw 187 rfl) (by decide) (fun hZ H hEL => Pay.of_met (W := 0) (own_sckeys l Z a0 cx [] (r54) (r154) vm86 h71 O88 f89) (ow hw 189 rfl) (ow hw 98 rfl) (by decide) (by decide) hZ H hEL) 192 (argsL := []) (rest := []) f79 (lenOf own_pd273 rfl) rfl rfl (Nat.le_of_eq rfl) (by rw [hml]; rfl) (hb hby at_189) rfl (by decide) (by decide) ?_
    rintro _ vm88 h88 C88 ⟨rfl, rfl⟩
    have z88 := C88.2.1
    refine gat (mkF m 192 #[vi x0, vi x1, vi x2, vi x3, vi x4, vi (1 : Int32), vr r2, vr r3, vr r4, vr r5, vr b6, vr b8, vr r54, vr r60, vr r71, un, un, un] [(.ref r154)]) rfl ?_
    refine gs (mkF m 194 #[vi x0, vi x1, vi x2, vi x3, vi x4, vi (1 : Int32), vr r2, vr r3, vr r4, vr r5, vr b6, vr b8, vr r54, vr r60, vr r71, vr r154, un, un] []) (fun _ _ A kq => XS.astore A hx rfl (hb hby at_192) rfl rfl (l' := #[vi x0, vi x1, vi x2, vi x3, vi x4, vi (1 : Int32), vr r2, vr r3, vr r4, vr r5, vr b6, vr b8, vr r54, vr r60, vr r71, vr r154, un, un]) rfl kq) ?_
    refine uA 196 hx hby at_194 rfl rfl rfl ?_
    have f91 := ((q54_4.keep K60 nin0).keep K71 nin0)
    refine ginfo fun _ _ O90 => ?_
    refine gcallV (y := mn405) (z := mn405) hx (ow hw 190 rfl) (ow hw 191 rfl) (nfSel (ow hw 193 rfl)) (ow hw 193 rfl) (ow hw 192 rfl) (by decide) (fun hZ H hEL => Pay.of_met (W := 0) (own_scargs l Z a0 cx [] (r54) (r254) vm88 h71 O90 f91) (ow hw 194 rfl) (ow hw 98 rfl) (by decide) (by decide) hZ H hEL) 199 (argsL := []) (rest := []) f79 (lenOf own_pd273 rfl) rfl rfl (Nat.le_of_eq rfl) (by rw [hml]; rfl) (hb hby at_196) rfl (by decide) (by decide) ?_
    rintro _ vm90 h90 C90 ⟨rfl, rfl⟩
    have z90 := C90.2.1
    refine gat (mkF m 199 #[vi x0, vi x1, vi x2, vi x3, vi x4, vi (1 : Int32), vr r2, vr r3, vr r4, vr r5, vr b6, vr b8, vr r54, vr r60, vr r71, vr r154, un, un] [(.ref r254)]) rfl ?_
    refine gs (mkF m 201 #[vi x0, vi x1, vi x2, vi x3, vi x4, vi (1 : Int32), vr r2, vr r3, vr r4, vr r5, vr b6, vr b8, vr r54, vr r60, vr r71, vr r154, vr r254, un] []) (fun _ _ A kq => XS.astore A hx rfl (hb hby at_199) rfl rfl (l' := #[vi x0, vi x1, vi x2, vi x3, vi x4, vi (1 : Int32), vr r2, vr r3, vr r4, vr r5, vr b6, vr b8, vr r54, vr r60, vr r71, vr r154, vr r254, un]) rfl kq) ?_
    refine uA 203 hx hby at_201 rfl rfl rfl ?_
    have f93 := ((q54_5.keep K60).keep K71)
    have f94 := ((q54_6.keep K60 nin0).keep K71 nin0)
    have f95 := ((q54_7.keep K60 nin0).keep K71 nin0)
    refine ginfo fun _ _ O92 => ?_
    refine gcallF (xi := mn484) (y := mn297) hx (ow hw 195 rfl) (ow hw 63 rfl) (fun _ _ hU => mvT hU (ow hw 64 rfl)) (ow hw 332 rfl) (ow hw 333 rfl) (ow hw 334 rfl) (ow hw 335 rfl) (ow hw 336 rfl) (by decide) (fun hZ H hEL => Pay.of_met (W := 0) (own_lsize1 l Z a0 cx [] (r154) (r2) (dz) (el) (ee) (em) (mr) (kd) (ke) vm90 h71 O92 f93 f94 f95 ((((((((((((q2_1.1.keep K3).keep K4).keep K5).ext E6).keep K7).ext E8).keep K9).keep K44).keep K49).keep K54).keep K60).keep K71) (by first | assumption | decide | omega)) (ow hw 337 rfl) (ow hw 318 rfl) (by decide) (by decide) hZ H hEL) 208 (argsL := []) (rest := []) f93 (lenOf own_pd445 rfl) rfl rfl (Nat.le_of_eq rfl) (by rw [hml]; rfl) (hb hby at_203) rfl (by decide) (by decide) ?_
    rintro _ vm92 h92 C92 ⟨rfl, rfl⟩
    have z92 := C92.2.1
    refine gat (mkF m 208 #[vi x0, vi x1, vi x2, vi x3, vi x4, vi (1 : Int32), vr r2, vr r3, vr r4, vr r5, vr b6, vr b8, vr r54, vr r60, vr r71, vr r154, vr r254, un] [(.int (1 : Int32))]) rfl ?_
    refine uI 210 hx hby at_208 rfl rfl ?_
    refine gs (mkF m 213 #[vi x0, vi x1, vi x2, vi x3, vi x4, vi (1 : Int32), vr r2, vr r3, vr r4, vr r5, vr b6, vr b8, vr r54, vr r60, vr r71, vr r154, vr r254, un] []) (fun _ _ A kq => XS.icmpNo A hx rfl (hb hby at_210) rfl (teq (by decide)).2 kq) ?_
    refine uA 215 hx hby at_213 rfl rfl rfl ?_
    have f97 := ((q54_8.keep K60).keep K71)
    have f98 := ((q54_9.keep K60 nin0).keep K71 nin0)
    have f99 := ((q54_10.keep K60 nin0).keep K71 nin0)
    refine ginfo fun _ _ O96 => ?_
    refine gcallF (xi := mn484) (y := mn297) hx (ow hw 195 rfl) (ow hw 63 rfl) (fun _ _ hU => mvT hU (ow hw 64 rfl)) (ow hw 332 rfl) (ow hw 333 rfl) (ow hw 334 rfl) (ow hw 335 rfl) (ow hw 336 rfl) (by decide) (fun hZ H hEL => Pay.of_met (W := 0) (own_lsize1 l Z a0 cx [] (r254) (r5) (dz) (el) (ee) (em) (mr) (kd) (ke) vm92 h71 O96 f97 f98 f99 (((((((((q5_1.1.ext E6).keep K7).ext E8).keep K9).keep K44).keep K49).keep K54).keep K60).keep K71) (by first | assumption | decide | omega)) (ow hw 337 rfl) (ow hw 318 rfl) (by decide) (by decide) hZ H hEL) 220 (argsL := []) (rest := []) f97 (lenOf own_pd445 rfl) rfl rfl (Nat.le_of_eq rfl) (by rw [hml]; rfl) (hb hby at_215) rfl (by decide) (by decide) ?_
    rintro _ vm96 h96 C96 ⟨rfl, rfl⟩
    have z96 := C96.2.1
    refine gat (mkF m 220 #[vi x0, vi x1, vi x2, vi x3, vi x4, vi (1 : Int32), vr r2, vr r3, vr r4, vr r5, vr b6, vr b8, vr r54, vr r60, vr r71, vr r154, vr r254, un] [(.int (1 : Int32))]) rfl ?_
    refine uI 222 hx hby at_220 rfl rfl ?_
    refine gs (mkF m 227 #[vi x0, vi x1, vi x2, vi x3, vi x4, vi (1 : Int32), vr r2, vr r3, vr r4, vr r5, vr b6, vr b8, vr r54, vr r60, vr r71, vr r154, vr r254, un] []) (fun _ _ A kq => XS.icmpYes A hx rfl (pc0 := 222) (pc' := 227) rfl (hb hby at_222) rfl (teq (by decide)).1 (by decide) (by decide) kq) ?_
    refine gs (mkF m 228 #[vi x0, vi x1, vi x2, vi x3, vi x4, vi (1 : Int32), vr r2, vr r3, vr r4, vr r5, vr b6, vr b8, vr r54, vr r60, vr r71, vr r154, vr r254, un] [(.int (1 : Int32))]) (fun _ _ A kq => XS.iconst A hx rfl (hb hby at_227) kq) ?_
    refine gs (mkF m 230 #[vi x0, vi x1, vi x2, vi x3, vi x4, vi (1 : Int32), vr r2, vr r3, vr r4, vr r5, vr b6, vr b8, vr r54, vr r60, vr r71, vr r154, vr r254, vi (1 : Int32)] []) (fun _ _ A kq => XS.istore A hx rfl (hb hby at_228) rfl (l' := #[vi x0, vi x1, vi x2, vi x3, vi x4, vi (1 : Int32), vr r2, vr r3, vr r4, vr r5, vr b6, vr b8, vr r54, vr r60, vr r71, vr r154, vr r254, vi (1 : Int32)]) rfl kq) ?_
    refine uI 232 hx hby at_230 rfl rfl ?_
    refine gs (mkF m 233 #[vi x0, vi x1, vi x2, vi x3, vi x4, vi (1 : Int32), vr r2, vr r3, vr r4, vr r5, vr b6, vr b8, vr r54, vr r60, vr r71, vr r154, vr r254, vi (1 : Int32)] [(.int (1 : Int32)), (.int (1 : Int32))]) (fun _ _ A kq => XS.iconst A hx rfl (hb hby at_232) kq) ?_
    refine gs (mkF m 236 #[vi x0, vi x1, vi x2, vi x3, vi x4, vi (1 : Int32), vr r2, vr r3, vr r4, vr r5, vr b6, vr b8, vr r54, vr r60, vr r71, vr r154, vr r254, vi (1 : Int32)] []) (fun _ _ A kq => XS.icmpNo A hx rfl (hb hby at_233) rfl (flt (by decide)).1 kq) ?_
    refine uI 238 hx hby at_236 rfl rfl ?_
    refine gs (mkF m 241 #[vi x0, vi x1, vi x2, vi x3, vi x4, vi (1 : Int32), vr r2, vr r3, vr r4, vr r5, vr b6, vr b8, vr r54, vr r60, vr r71, vr r154, vr r254, vi (1 : Int32)] []) (fun _ _ A kq => XS.ifNo A hx rfl (hb hby at_238) rfl ((if0 _ _).trans (feq (by decide)).1) kq) ?_
    refine uA 243 hx hby at_241 rfl rfl rfl ?_
    refine gs (mkF m 244 #[vi x0, vi x1, vi x2, vi x3, vi x4, vi (1 : Int32), vr r2, vr r3, vr r4, vr r5, vr b6, vr b8, vr r54, vr r60, vr r71, vr r154, vr r254, vi (1 : Int32)] [(.int (0 : Int32)), (.ref r154)]) (fun _ _ A kq => XS.iconst A hx rfl (hb hby at_243) kq) ?_
    refine ginfo fun _ _ O100 => ?_
    refine gcallF (xi := mn555) (y := mn303) hx (ow hw 308 rfl) (ow hw 309 rfl) (fun _ _ hU => mvT hU (ow hw 310 rfl)) (ow hw 339 rfl) (ow hw 340 rfl) (ow hw 341 rfl) (ow hw 342 rfl) (ow hw 336 rfl) (by decide) (fun hZ H hEL => Pay.of_met (W := 0) (own_lget1_0 l Z a0 cx [] (r154) (r2) (dz) (el) (ee) (em) (mr) (kd) (ke) vm96 h71 O100 f93 f94 f95 ((((((((((((q2_1.1.keep K3).keep K4).keep K5).ext E6).keep K7).ext E8).keep K9).keep K44).keep K49).keep K54).keep K60).keep K71) (by first | assumption | decide | omega)) (ow hw 343 rfl) (ow hw 318 rfl) (by decide) (by decide) hZ H hEL) 249 (argsL := [(.int (0 : Int32))]) (rest := []) f93 (lenOf own_pd554 rfl) rfl rfl (Nat.le_of_eq rfl) (by rw [hml]; rfl) (hb hby at_244) rfl (by decide) (by decide) ?_
    rintro _ vm100 h100 C100 ⟨rfl, rfl⟩
    have z100 := C100.2.1
    refine gat (mkF m 249 #[vi x0, vi x1, vi x2, vi x3, vi x4, vi (1 : Int32), vr r2, vr r3, vr r4, vr r5, vr b6, vr b8, vr r54, vr r60, vr r71, vr r154, vr r254, vi (1 : Int32)] [(.ref r2)]) rfl ?_
    refine gcast hx (ow hw 5 rfl) (Ins.self ((((((((((((q2_1.1.keep K3).keep K4).keep K5).ext E6).keep K7).ext E8).keep K9).keep K44).keep K49).keep K54).keep K60).keep K71)) 252 (hb hby at_249) rfl ?_
    refine uA 254 hx hby at_252 rfl rfl rfl ?_
    refine ginfo fun _ _ O101 => ?_
    refine gcallV (y := mn327) (z := mn327) hx (ow hw 175 rfl) (ow hw 176 rfl) (nfSel (ow hw 178 rfl)) (ow hw 178 rfl) (ow hw 177 rfl) (by decide) (fun hZ H hEL => Pay.of_met (W := 0) (own_eqSame l Z a0 cx [] (r2) vm100 h71 O101 ) (ow hw 179 rfl) (ow hw 7 rfl) (by decide) (by decide) hZ H hEL) 257 (argsL := [(.ref r2)]) (rest := []) ((((((((((((q2_1.1.keep K3).keep K4).keep K5).ext E6).keep K7).ext E8).keep K9).keep K44).keep K49).keep K54).keep K60).keep K71) (lenOf own_pd552 rfl) rfl rfl (Nat.le_of_eq rfl) (by rw [hml]; rfl) (hb hby at_254) rfl (by decide) (by decide) ?_
    rintro _ vm101 h101 C101 ⟨rfl, rfl⟩
    have z101 := C101.2.1
    refine gat (mkF m 257 #[vi x0, vi x1, vi x2, vi x3, vi x4, vi (1 : Int32), vr r2, vr r3, vr r4, vr r5, vr b6, vr b8, vr r54, vr r60, vr r71, vr r154, vr r254, vi (1 : Int32)] [(.int (1 : Int32))]) rfl ?_
    refine gs (mkF m 260 #[vi x0, vi x1, vi x2, vi x3, vi x4, vi (1 : Int32), vr r2, vr r3, vr r4, vr r5, vr b6, vr b8, vr r54, vr r60, vr r71, vr r154, vr r254, vi (1 : Int32)] []) (fun _ _ A kq => XS.ifNo A hx rfl (hb hby at_257) rfl ((if0 _ _).trans (feq (by decide)).1) kq) ?_
    refine uA 262 hx hby at_260 rfl rfl rfl ?_
    refine gs (mkF m 263 #[vi x0, vi x1, vi x2, vi x3, vi x4, vi (1 : Int32), vr r2, vr r3, vr r4, vr r5, vr b6, vr b8, vr r54, vr r60, vr r71, vr r154, vr r254, vi (1 : Int32)] [(.int (0 : Int32)), (.ref r254)]) (fun _ _ A kq => XS.iconst A hx rfl (hb hby at_262) kq) ?_
    refine ginfo fun _ _ O102 => ?_
    refine gcallF (xi := mn555) (y := mn303) hx (ow hw 308 rfl) (ow hw 309 rfl) (fun _ _ hU => mvT hU (ow hw 310 rfl)) (ow hw 339 rfl) (ow hw 340 rfl) (ow hw 341 rfl) (ow hw 342 rfl) (ow hw 336 rfl) (by decide) (fun hZ H hEL => Pay.of_met (W := 0) (own_lget1_0 l Z a0 cx [] (r254) (r5) (dz) (el) (ee) (em) (mr) (kd) (ke) vm101 h71 O102 f97 f98 f99 (((((((((q5_1.1.ext E6).keep K7).ext E8).keep K9).keep K44).keep K49).keep K54).keep K60).keep K71) (by first | assumption | decide | omega)) (ow hw 343 rfl) (ow hw 318 rfl) (by decide) (by decide) hZ H hEL) 268 (argsL := [(.int (0 : Int32))]) (rest := []) f97 (lenOf own_pd554 rfl) rfl rfl (Nat.le_of_eq rfl) (by rw [hml]; rfl) (hb hby at_263) rfl (by decide) (by decide) ?_
    rintro _ vm102 h102 C102 ⟨rfl, rfl⟩
    have z102 := C102.2.1
    refine gat (mkF m 268 #[vi x0, vi x1, vi x2, vi x3, vi x4, vi (1 : Int32), vr r2, vr r3, vr r4, vr r5, vr b6, vr b8, vr r54, vr r60, vr r71, vr r154, vr r254, vi (1 : Int32)] [(.ref r5)]) rfl ?_
    refine gcast hx (ow hw 5 rfl) (Ins.self (((((((((q5_1.1.ext E6).keep K7).ext E8).keep K9).keep K44).keep K49).keep K54).keep K60).keep K71)) 271 (hb hby at_268) rfl ?_
    refine uA 273 hx hby at_271 rfl rfl rfl ?_
    refine ginfo fun _ _ O103 => ?_
    refine gcallV (y := mn327) (z := mn327) hx (ow hw 175 rfl) (ow hw 176 rfl) (nfSel (ow hw 178 rfl)) (ow hw 178 rfl) (ow hw 177 rfl) (by decide) (fun hZ H hEL => Pay.of_met (W := 0) (own_eqSame l Z a0 cx [] (r5) vm102 h71 O103 ) (ow hw 179 rfl) (ow hw 7 rfl) (by decide) (by decide) hZ H hEL) 276 (argsL := [(.ref r5)]) (rest := []) (((((((((q5_1.1.ext E6).keep K7).ext E8).keep K9).keep K44).keep K49).keep K54).keep K60).keep K71) (lenOf own_pd552 rfl) rfl rfl (Nat.le_of_eq rfl) (by rw [hml]; rfl) (hb hby at_273) rfl (by decide) (by decide) ?_
    rintro _ vm103 h103 C103 ⟨rfl, rfl⟩
    have z103 := C103.2.1
    refine gat (mkF m 276 #[vi x0, vi x1, vi x2, vi x3, vi x4, vi (1 : Int32), vr r2, vr r3, vr r4, vr r5, vr b6, vr b8, vr r54, vr r60, vr r71, vr r154, vr r254, vi (1 : Int32)] [(.int (1 : Int32))]) rfl ?_
    refine gs (mkF m 279 #[vi x0, vi x1, vi x2, vi x3, vi x4, vi (1 : Int32), vr r2, vr r3, vr r4, vr r5, vr b6, vr b8, vr r54, vr r60, vr r71, vr r154, vr r254, vi (1 : Int32)] []) (fun _ _ A kq => XS.ifNo A hx rfl (hb hby at_276) rfl ((if0 _ _).trans (feq (by decide)).1) kq) ?_
    refine gs (mkF m 280 #[vi x0, vi x1, vi x2, vi x3, vi x4, vi (1 : Int32), vr r2, vr r3, vr r4, vr r5, vr b6, vr b8, vr r54, vr r60, vr r71, vr r154, vr r254, vi (1 : Int32)] [(.int (1 : Int32))]) (fun _ _ A kq => XS.iconst A hx rfl (hb hby at_279) kq) ?_
    refine uG 284 hx hby at_280 (by decide) (by decide) ?_
    refine gs (mkF m 286 #[vi x0, vi x1, vi x2, vi x3, vi x4, vi (1 : Int32), vr r2, vr r3, vr r4, vr r5, vr b6, vr b8, vr r54, vr r60, vr r71, vr r154, vr r254, vi (1 : Int32)] []) (fun _ _ A kq => XS.istore A hx rfl (hb hby at_284) rfl (l' := #[vi x0, vi x1, vi x2, vi x3, vi x4, vi (1 : Int32), vr r2, vr r3, vr r4, vr r5, vr b6, vr b8, vr r54, vr r60, vr r71, vr r154, vr r254, vi (1 : Int32)]) rfl kq) ?_
    refine uI 288 hx hby at_286 rfl rfl ?_
    refine gs (mkF m 289 #[vi x0, vi x1, vi x2, vi x3, vi x4, vi (1 : Int32), vr r2, vr r3, vr r4, vr r5, vr b6, vr b8, vr r54, vr r60, vr r71, vr r154, vr r254, vi (1 : Int32)] [(.int (2 : Int32)), (.int (1 : Int32))]) (fun _ _ A kq => XS.iconst A hx rfl (hb hby at_288) kq) ?_
    refine gs (mkF m 342 #[vi x0, vi x1, vi x2, vi x3, vi x4, vi (1 : Int32), vr r2, vr r3, vr r4, vr r5, vr b6, vr b8, vr r54, vr r60, vr r71, vr r154, vr r254, vi (1 : Int32)] []) (fun _ _ A kq => XS.icmpYes A hx rfl (pc0 := 289) (pc' := 342) rfl (hb hby at_289) rfl (tlt (by decide)).1 (by decide) (by decide) kq) ?_
    refine uI 344 hx hby at_342 rfl rfl ?_
    refine gs (mkF m 345 #[vi x0, vi x1, vi x2, vi x3, vi x4, vi (1 : Int32), vr r2, vr r3, vr r4, vr r5, vr b6, vr b8, vr r54, vr r60, vr r71, vr r154, vr r254, vi (1 : Int32)] [(.int (3 : Int32)), (.int (1 : Int32))]) (fun _ _ A kq => XS.iconst A hx rfl (hb hby at_344) kq) ?_
    refine gs (mkF m 398 #[vi x0, vi x1, vi x2, vi x3, vi x4, vi (1 : Int32), vr r2, vr r3, vr r4, vr r5, vr b6, vr b8, vr r54, vr r60, vr r71, vr r154, vr r254, vi (1 : Int32)] []) (fun _ _ A kq => XS.icmpYes A hx rfl (pc0 := 345) (pc' := 398) rfl (hb hby at_345) rfl (tlt (by decide)).1 (by decide) (by decide) kq) ?_
    refine uI 400 hx hby at_398 rfl rfl ?_
    exact gretN (t := .boolean) hx hret (by simp) (hb hby at_400) (by decide) (by decide) (fun vq Cq => ⟨rfl, ((((((((((((((Keep.refl h0 []).trans K2 all0).trans K3 all0).trans K4 all0).trans K5 all0).ext E6).trans K7 (allS (Or.inr (by omega)) all0)).ext E8).trans K9 (allS (Or.inr (by omega)) all0)).trans K44 (allS (Or.inr (by omega)) all0)).trans K49 (allS (Or.inr (by omega)) all0)).trans K54 all0).trans K60 all0).trans K71 all0)⟩)
  · refine gat (mkF m 48 #[vi x0, vi x1, vi x2, vi x3, vi x4, vi (2 : Int32), vr r2, vr r3, vr r4, vr r5, vr b6, vr b8, un, un, un, un, un, un] []) (by rw [nq]) ?_
    refine uI 50 hx hby at_48 rfl rfl ?_
    refine gs (mkF m 51 #[vi x0, vi x1, vi x2, vi x3, vi x4, vi (2 : Int32), vr r2, vr r3, vr r4, vr r5, vr b6, vr b8, un, un, un, un, un, un] [(.int (1 : Int32)), (.int (2 : Int32))]) (fun _ _ A kq => XS.iconst A hx rfl (hb hby at_50) kq) ?_
    refine gs (mkF m 54 #[vi x0, vi x1, vi x2, vi x3, vi x4, vi (2 : Int32), vr r2, vr r3, vr r4, vr r5, vr b6, vr b8, un, un, un, un, un, un] []) (fun _ _ A kq => XS.icmpNo A hx rfl (hb hby at_51) rfl (flt (by decide)).1 kq) ?_
    refine uA 56 hx hby at_54 rfl rfl rfl ?_
    refine uA 58 hx hby at_56 rfl rfl rfl ?_
    have f106 := (((A6.keep K7).ext E8).keep K9)
    have f107 := ((q7_0.ext E8).keep K9 (ninS (Nat.ne_of_lt (by omega)) nin0))
    have f108 := ((q7_1.ext E8).keep K9 (ninS (Nat.ne_of_lt (by omega)) nin0))
    have f109 := ((q7_2.ext E8).keep K9 (ninS (Nat.ne_of_lt (by omega)) nin0))
    refine ginfo fun _ _ O105 => ?_
    refine gcallF (xi := mn553) (y := mn94) hx (ow hw 204 rfl) (ow hw 205 rfl) (fun _ _ hU => mvT hU (ow hw 206 rfl)) (ow hw 207 rfl) (ow hw 208 rfl) (ow hw 209 rfl) (ow hw 210 rfl) (ow hw 69 rfl) (by decide) (fun hZ H hEL => Pay.of_met (W := 0) (own_add0 l Z a0 cx [] (b6) (r2) ((0 : Int32)) (dz) (el) (ee) (em) (mr) (kd) (ke) vm9 h9 O105 f106 f107 f108 n6 (((((((q2_1.1.keep K3).keep K4).keep K5).ext E6).keep K7).ext E8).keep K9) f109 (by first | assumption | decide | omega)) (ow hw 211 rfl) (ow hw 36 rfl) (by decide) (by decide) hZ H hEL) 63 (argsL := [(.ref r2)]) (rest := []) f106 (lenOf own_pd552 rfl) rfl rfl (Nat.le_of_eq rfl) (by rw [hml]; rfl) (hb hby at_58) rfl (by decide) (by decide) ?_
    rintro _ vm105 h105 C105 ⟨d105, kc105, rfl, K105, q105_0, q105_1, q105_2, q105_3, q105_4, q105_5, q105_6, q105_7⟩
    have z105 := C105.2.1
    have lt_d105 : h105.size > d105 := q105_2.lt
    refine gat (mkF m 63 #[vi x0, vi x1, vi x2, vi x3, vi x4, vi (2 : Int32), vr r2, vr r3, vr r4, vr r5, vr b6, vr b8, un, un, un, un, un, un] [(.int (1 : Int32))]) rfl ?_
    refine uP 64 hx hby at_63 rfl rfl ?_
    refine uA 66 hx hby at_64 rfl rfl rfl ?_
    refine uA 68 hx hby at_66 rfl rfl rfl ?_
    have f111 := ((A8.keep K9).keep K105)
    have f112 := (q9_0.keep K105 (ninS (Nat.ne_of_gt (by omega)) nin0))
    have f113 := (q9_1.keep K105 (ninS (Nat.ne_of_gt (by omega)) nin0))
    have f114 := (q9_2.keep K105 (ninS (Nat.ne_of_gt (by omega)) nin0))
    refine ginfo fun _ _ O110 => ?_
    refine gcallF (xi := mn553) (y := mn94) hx (ow hw 204 rfl) (ow hw 205 rfl) (fun _ _ hU => mvT hU (ow hw 206 rfl)) (ow hw 207 rfl) (ow hw 208 rfl) (ow hw 209 rfl) (ow hw 210 rfl) (ow hw 69 rfl) (by decide) (fun hZ H hEL => Pay.of_met (W := 0) (own_add0 l Z a0 cx [] (b8) (r5) ((0 : Int32)) (dz) (el) (ee) (em) (mr) (kd) (ke) vm105 h105 O110 f111 f112 f113 n8 (((((q5_1.1.ext E6).keep K7).ext E8).keep K9).keep K105) f114 (by first | assumption | decide | omega)) (ow hw 211 rfl) (ow hw 36 rfl) (by decide) (by decide) hZ H hEL) 73 (argsL := [(.ref r5)]) (rest := []) f111 (lenOf own_pd552 rfl) rfl rfl (Nat.le_of_eq rfl) (by rw [hml]; rfl) (hb hby at_68) rfl (by decide) (by decide) ?_
    rintro _ vm110 h110 C110 ⟨d110, kc110, rfl, K110, q110_0, q110_1, q110_2, q110_3, q110_4, q110_5, q110_6, q110_7⟩
    have z110 := C110.2.1
    have lt_d110 : h110.size > d110 := q110_2.lt
    refine gat (mkF m 73 #[vi x0, vi x1, vi x2, vi x3, vi x4, vi (2 : Int32), vr r2, vr r3, vr r4, vr r5, vr b6, vr b8, un, un, un, un, un, un] [(.int (1 : Int32))]) rfl ?_
    refine uP 74 hx hby at_73 rfl rfl ?_
    refine uI 76 hx hby at_74 rfl rfl ?_
    refine gs (mkF m 77 #[vi x0, vi x1, vi x2, vi x3, vi x4, vi (2 : Int32), vr r2, vr r3, vr r4, vr r5, vr b6, vr b8, un, un, un, un, un, un] [(.int (2 : Int32)), (.int (2 : Int32))]) (fun _ _ A kq => XS.iconst A hx rfl (hb hby at_76) kq) ?_
    refine gs (mkF m 80 #[vi x0, vi x1, vi x2, vi x3, vi x4, vi (2 : Int32), vr r2, vr r3, vr r4, vr r5, vr b6, vr b8, un, un, un, un, un, un] []) (fun _ _ A kq => XS.icmpNo A hx rfl (hb hby at_77) rfl (flt (by decide)).1 kq) ?_
    refine uA 82 hx hby at_80 rfl rfl rfl ?_
    refine uA 84 hx hby at_82 rfl rfl rfl ?_
    have f116 := ((f106.keep K105).keep K110)
    have f117 := (q105_0.keep K110 (ninS (Nat.ne_of_lt (by omega)) nin0))
    have f118 := (q105_1.keep K110 (ninS (Nat.ne_of_lt (by omega)) nin0))
    have f119 := (q105_2.keep K110 (ninS (Nat.ne_of_gt (by omega)) nin0))
    have f120 := (q105_5.keep K110)
    have f121 := (q105_7.keep K110 (ninS (Nat.ne_of_lt (by omega)) nin0))
    refine ginfo fun _ _ O115 => ?_
    refine gcallF (xi := mn553) (y := mn94) hx (ow hw 204 rfl) (ow hw 205 rfl) (fun _ _ hU => mvT hU (ow hw 206 rfl)) (ow hw 207 rfl) (ow hw 208 rfl) (ow hw 209 rfl) (ow hw 210 rfl) (ow hw 69 rfl) (by decide) (fun hZ H hEL => Pay.of_met (W := 0) (own_add1 l Z a0 cx [] (b6) (r3) (d105) (kc105) (r2) (((0 : Int32) + (1 : Int32))) (dz) (el) (ee) (em) (mr) (kd) (ke) vm110 h110 O115 f116 f117 f118 f119 f120 (by first | assumption | decide | omega) n6 ((((((((q3_1.1.keep K4).keep K5).ext E6).keep K7).ext E8).keep K9).keep K105).keep K110) q105_4 f121 (by first | assumption | decide | omega)) (ow hw 211 rfl) (ow hw 36 rfl) (by decide) (by decide) hZ H hEL) 89 (argsL := [(.ref r3)]) (rest := []) f116 (lenOf own_pd552 rfl) rfl rfl (Nat.le_of_eq rfl) (by rw [hml]; rfl) (hb hby at_84) rfl (by decide) (by decide) ?_
    rintro _ vm115 h115 C115 ⟨rfl, K115, q115_0, q115_1, q115_2, q115_3⟩
    have z115 := C115.2.1
    refine gat (mkF m 89 #[vi x0, vi x1, vi x2, vi x3, vi x4, vi (2 : Int32), vr r2, vr r3, vr r4, vr r5, vr b6, vr b8, un, un, un, un, un, un] [(.int (1 : Int32))]) rfl ?_
    refine uP 90 hx hby at_89 rfl rfl ?_
    refine uA 92 hx hby at_90 rfl rfl rfl ?_
    refine uA 94 hx hby at_92 rfl rfl rfl ?_
    have f123 := ((f111.keep K110).keep K115)
    have f124 := (q110_0.keep K115 (ninS (Nat.ne_of_gt (by omega)) (ninS (Nat.ne_of_lt (by omega)) nin0)))
    have f125 := (q110_1.keep K115 (ninS (Nat.ne_of_gt (by omega)) (ninS (Nat.ne_of_lt (by omega)) nin0)))
    have f126 := (q110_2.keep K115 (ninS (Nat.ne_of_gt (by omega)) (ninS (Nat.ne_of_gt (by omega)) nin0)))
    have f127 := (q110_5.keep K115)
    have f128 := (q110_7.keep K115 (ninS (Nat.ne_of_gt (by omega)) (ninS (Nat.ne_of_lt (by omega)) nin0)))
    refine ginfo fun _ _ O122 => ?_
    refine gcallF (xi := mn553) (y := mn94) hx (ow hw 204 rfl) (ow hw 205 rfl) (fun _ _ hU => mvT hU (ow hw 206 rfl)) (ow hw 207 rfl) (ow hw 208 rfl) (ow hw 209 rfl) (ow hw 210 rfl) (ow hw 69 rfl) (by decide) (fun hZ H hEL => Pay.of_met (W := 0) (own_add1 l Z a0 cx [] (b8) (r5) (d110) (kc110) (r5) (((0 : Int32) + (1 : Int32))) (dz) (el) (ee) (em) (mr) (kd) (ke) vm115 h115 O122 f123 f124 f125 f126 f127 (by first | assumption | decide | omega) n8 (((((((q5_1.1.ext E6).keep K7).ext E8).keep K9).keep K105).keep K110).keep K115) q110_4 f128 (by first | assumption | decide | omega)) (ow hw 211 rfl) (ow hw 36 rfl) (by decide) (by decide) hZ H hEL) 99 (argsL := [(.ref r5)]) (rest := []) f123 (lenOf own_pd552 rfl) rfl rfl (Nat.le_of_eq rfl) (by rw [hml]; rfl) (hb hby at_94) rfl (by decide) (by decide) ?_
    rintro _ vm122 h122 C122 ⟨rfl, K122, q122_0, q122_1, q122_2, q122_3⟩
    have z122 := C122.2.1
    refine gat (mkF m 99 #[vi x0, vi x1, vi x2, vi x3, vi x4, vi (2 : Int32), vr r2, vr r3, vr r4, vr r5, vr b6, vr b8, un, un, un, un, un, un] [(.int (1 : Int32))]) rfl ?_
    refine uP 100 hx hby at_99 rfl rfl ?_
    refine uI 102 hx hby at_100 rfl rfl ?_
    refine gs (mkF m 103 #[vi x0, vi x1, vi x2, vi x3, vi x4, vi (2 : Int32), vr r2, vr r3, vr r4, vr r5, vr b6, vr b8, un, un, un, un, un, un] [(.int (3 : Int32)), (.int (2 : Int32))]) (fun _ _ A kq => XS.iconst A hx rfl (hb hby at_102) kq) ?_
    refine gs (mkF m 126 #[vi x0, vi x1, vi x2, vi x3, vi x4, vi (2 : Int32), vr r2, vr r3, vr r4, vr r5, vr b6, vr b8, un, un, un, un, un, un] []) (fun _ _ A kq => XS.icmpYes A hx rfl (pc0 := 103) (pc' := 126) rfl (hb hby at_103) rfl (tlt (by decide)).1 (by decide) (by decide) kq) ?_
    refine uA 128 hx hby at_126 rfl rfl rfl ?_
    refine uA 130 hx hby at_128 rfl rfl rfl ?_
    have f130 := ((f116.keep K115).keep K122)
    have f131 := (q115_0.keep K122 (ninS (Nat.ne_of_lt (by omega)) (ninS (Nat.ne_of_lt (by omega)) nin0)))
    have f132 := (q115_1.keep K122 (ninS (Nat.ne_of_lt (by omega)) (ninS (Nat.ne_of_lt (by omega)) nin0)))
    have f133 := (q115_2.keep K122 (ninS (Nat.ne_of_gt (by omega)) (ninS (Nat.ne_of_lt (by omega)) nin0)))
    have f134 := ((f120.keep K115).keep K122)
    refine ginfo fun _ _ O129 => ?_
    refine gcallS (y := mn491) hx (ow hw 58 rfl) (ow hw 59 rfl) (ow hw 60 rfl) (ow hw 61 rfl) (by decide) (fun hZ H hEL => Pay.of_met (W := 0) (own_rel1_2 l Z a0 cx [] (b6) (r5) (d105) (kc105) (r2) (r3) (dz) (el) (ee) (em) (mr) (kd) (ke) vm122 h122 O129 f130 f131 f132 f133 f134 (by first | assumption | decide | omega) (((((((((((q2_1.1.keep K3).keep K4).keep K5).ext E6).keep K7).ext E8).keep K9).keep K105).keep K110).keep K115).keep K122) ((((((((((q3_1.1.keep K4).keep K5).ext E6).keep K7).ext E8).keep K9).keep K105).keep K110).keep K115).keep K122) ((((((((q5_1.1.ext E6).keep K7).ext E8).keep K9).keep K105).keep K110).keep K115).keep K122) (by first | assumption | decide | omega)) (ow hw 61 rfl) (ow hw 60 rfl) (by decide) (by decide) hZ H hEL) 133 (argsL := [(.ref b6), (.ref r5)]) (rest := []) (lenOf own_pd549 rfl) rfl rfl (Nat.le_of_eq rfl) (by rw [hml]; rfl) (hb hby at_130) rfl (by decide) (by decide) ?_
    rintro _ vm129 h129 C129 ⟨r129, sb129, tb129, r1129, r2129, rfl, K129, q129_0, q129_1, q129_2, q129_3, q129_4, q129_5, q129_6, q129_7, q129_8, q129_9, q129_10, q129_11⟩
    have z129 := C129.2.1
    have lt_r129 : h129.size > r129 := q129_0.lt
    have lt_sb129 : h129.size > sb129 := q129_1.1.lt
    have lt_tb129 : h129.size > tb129 := q129_1.tlt
    have lt_r1129 : h129.size > r1129 := q129_5.lt
    have lt_r2129 : h129.size > r2129 := q129_8.lt
    refine gat (mkF m 133 #[vi x0, vi x1, vi x2, vi x3, vi x4, vi (2 : Int32), vr r2, vr r3, vr r4, vr r5, vr b6, vr b8, un, un, un, un, un, un] [(.ref r129)]) rfl ?_
    refine gs (mkF m 135 #[vi x0, vi x1, vi x2, vi x3, vi x4, vi (2 : Int32), vr r2, vr r3, vr r4, vr r5, vr b6, vr b8, vr r129, un, un, un, un, un] []) (fun _ _ A kq => XS.astore A hx rfl (hb hby at_133) rfl rfl (l' := #[vi x0, vi x1, vi x2, vi x3, vi x4, vi (2 : Int32), vr r2, vr r3, vr r4, vr r5, vr b6, vr b8, vr r129, un, un, un, un, un]) rfl kq) ?_
    refine uA 137 hx hby at_135 rfl rfl rfl ?_
    refine uA 139 hx hby at_137 rfl rfl rfl ?_
    have f136 := (f130.keep K129)
    have f137 := (f131.keep K129 nin0)
    have f138 := (f132.keep K129 nin0)
    have f139 := (f133.keep K129 nin0)
    have f140 := (f134.keep K129)
    have f141 := ((f123.keep K122).keep K129)
    have f142 := (q122_0.keep K129 nin0)
    have f143 := (q122_1.keep K129 nin0)
    have f144 := (q122_2.keep K129 nin0)
    have f145 := ((f127.keep K122).keep K129)
    refine ginfo fun _ _ O135 => ?_
    refine gcallS (y := mn479) hx (ow hw 156 rfl) (ow hw 94 rfl) (ow hw 60 rfl) (ow hw 95 rfl) (by decide) (fun hZ H hEL => Pay.of_met (W := 0) (own_relA2 l Z a0 cx [] (sb129) (tb129) (b6) (b8) (r5) (d105) (kc105) (d110) (kc110) (r2) (r3) (dz) (el) (ee) (em) (mr) (kd) (ke) vm129 h129 O135 q129_1 q129_11 f136 f137 f138 f139 f140 (by first | assumption | decide | omega) ((((((((((((q2_1.1.keep K3).keep K4).keep K5).ext E6).keep K7).ext E8).keep K9).keep K105).keep K110).keep K115).keep K122).keep K129) (((((((((((q3_1.1.keep K4).keep K5).ext E6).keep K7).ext E8).keep K9).keep K105).keep K110).keep K115).keep K122).keep K129) f141 f142 f143 f144 f145 (by first | assumption | decide | omega) (((((((((q5_1.1.ext E6).keep K7).ext E8).keep K9).keep K105).keep K110).keep K115).keep K122).keep K129) (by first | assumption | decide | omega)) (ow hw 95 rfl) (ow hw 60 rfl) (by decide) (by decide) hZ H hEL) 142 (argsL := [(.ref b6), (.ref b8)]) (rest := []) (lenOf own_pd489 rfl) rfl rfl (Nat.le_of_eq rfl) (by rw [hml]; rfl) (hb hby at_139) rfl (by decide) (by decide) ?_
    rintro _ vm135 h135 C135 ⟨r135, r1135, r2135, rfl, K135, q135_0, q135_1, q135_2, q135_3, q135_4, q135_5, q135_6, q135_7, q135_8, q135_9⟩
    have z135 := C135.2.1
    have lt_r135 : h135.size > r135 := q135_0.lt
    have lt_r1135 : h135.size > r1135 := q135_4.lt
    have lt_r2135 : h135.size > r2135 := q135_7.lt
    refine gat (mkF m 142 #[vi x0, vi x1, vi x2, vi x3, vi x4, vi (2 : Int32), vr r2, vr r3, vr r4, vr r5, vr b6, vr b8, vr r129, un, un, un, un, un] [(.ref r135)]) rfl ?_
    refine gs (mkF m 144 #[vi x0, vi x1, vi x2, vi x3, vi x4, vi (2 : Int32), vr r2, vr r3, vr r4, vr r5, vr b6, vr b8, vr r129, vr r135, un, un, un, un] []) (fun _ _ A kq => XS.astore A hx rfl (hb hby at_142) rfl rfl (l' := #[vi x0, vi x1, vi x2, vi x3, vi x4, vi (2 : Int32), vr r2, vr r3, vr r4, vr r5, vr b6, vr b8, vr r129, vr r135, un, un, un, un]) rfl kq) ?_
    refine uA 146 hx hby at_144 rfl rfl rfl ?_
    have f147 := (f136.keep K135)
    have f148 := (f137.keep K135 nin0)
    have f149 := (f138.keep K135 nin0)
    have f150 := (f139.keep K135 nin0)
    have f151 := (f140.keep K135)
    refine ginfo fun _ _ O146 => ?_
    refine gcallS (y := mn499) hx (ow hw 157 rfl) (ow hw 158 rfl) (ow hw 60 rfl) (ow hw 159 rfl) (by decide) (fun hZ H hEL => Pay.of_met (W := 0) (own_exi2 l Z a0 cx [] (b6) (d105) (kc105) (r2) (r3) (dz) (el) (ee) (em) (mr) (kd) (ke) vm135 h135 O146 f147 f148 f149 f150 f151 (by first | assumption | decide | omega) (((((((((((((q2_1.1.keep K3).keep K4).keep K5).ext E6).keep K7).ext E8).keep K9).keep K105).keep K110).keep K115).keep K122).keep K129).keep K135) ((((((((((((q3_1.1.keep K4).keep K5).ext E6).keep K7).ext E8).keep K9).keep K105).keep K110).keep K115).keep K122).keep K129).keep K135) (by first | assumption | decide | omega)) (ow hw 159 rfl) (ow hw 60 rfl) (by decide) (by decide) hZ H hEL) 149 (argsL := [(.ref b6)]) (rest := []) (lenOf own_pd550 rfl) rfl rfl (Nat.le_of_eq rfl) (by rw [hml]; rfl) (hb hby at_146) rfl (by decide) (by decide) ?_
    rintro _ vm146 h146 C146 ⟨r146, sb146, tb146, r1146, rfl, K146, q146_0, q146_1, q146_2, q146_3, q146_4, q146_5, q146_6, q146_7⟩
    have z146 := C146.2.1
    have lt_r146 : h146.size > r146 := q146_0.lt
    have lt_sb146 : h146.size > sb146 := q146_1.1.lt
    have lt_tb146 : h146.size > tb146 := q146_1.tlt
    have lt_r1146 : h146.size > r1146 := q146_5.lt
    refine gat (mkF m 149 #[vi x0, vi x1, vi x2, vi x3, vi x4, vi (2 : Int32), vr r2, vr r3, vr r4, vr r5, vr b6, vr b8, vr r129, vr r135, un, un, un, un] [(.ref r146)]) rfl ?_
    refine gs (mkF m 151 #[vi x0, vi x1, vi x2, vi x3, vi x4, vi (2 : Int32), vr r2, vr r3, vr r4, vr r5, vr b6, vr b8, vr r129, vr r135, vr r146, un, un, un] []) (fun _ _ A kq => XS.astore A hx rfl (hb hby at_149) rfl rfl (l' := #[vi x0, vi x1, vi x2, vi x3, vi x4, vi (2 : Int32), vr r2, vr r3, vr r4, vr r5, vr b6, vr b8, vr r129, vr r135, vr r146, un, un, un]) rfl kq) ?_
    refine uA 153 hx hby at_151 rfl rfl rfl ?_
    have f153 := ((q129_2.keep K135 nin0).keep K146 nin0)
    refine ginfo fun _ _ O152 => ?_
    have f154 := ((q129_0.keep K135).keep K146)
    refine gcallV (y := mn396) (z := mn396) hx (ow hw 170 rfl) (ow hw 171 rfl) (nfSel (ow hw 173 rfl)) (ow hw 173 rfl) (ow hw 172 rfl) (by decide) (fun hZ H hEL => Pay.of_met (W := 0) (own_scsource l Z a0 cx [] (r129) (sb129) vm146 h146 O152 f153) (ow hw 174 rfl) (ow hw 98 rfl) (by decide) (by decide) hZ H hEL) 156 (argsL := []) (rest := []) f154 (lenOf own_pd551 rfl) rfl rfl (Nat.le_of_eq rfl) (by rw [hml]; rfl) (hb hby at_153) rfl (by decide) (by decide) ?_
    rintro _ vm152 h152 C152 ⟨rfl, rfl⟩
    have z152 := C152.2.1
    refine gat (mkF m 156 #[vi x0, vi x1, vi x2, vi x3, vi x4, vi (2 : Int32), vr r2, vr r3, vr r4, vr r5, vr b6, vr b8, vr r129, vr r135, vr r146, un, un, un] [(.ref sb129)]) rfl ?_
    refine uA 158 hx hby at_156 rfl rfl rfl ?_
    have f156 := (q135_1.keep K146 nin0)
    refine ginfo fun _ _ O155 => ?_
    have f157 := (q135_0.keep K146)
    refine gcallV (y := mn396) (z := mn396) hx (ow hw 170 rfl) (ow hw 171 rfl) (nfSel (ow hw 173 rfl)) (ow hw 173 rfl) (ow hw 172 rfl) (by decide) (fun hZ H hEL => Pay.of_met (W := 1) (own_scsource l Z a0 cx [] (r135) (sb129) vm152 h146 O155 f156) (ow hw 174 rfl) (ow hw 98 rfl) (by decide) (by decide) hZ H hEL) 161 (argsL := []) (rest := [(.ref sb129)]) f157 (lenOf own_pd551 rfl) rfl rfl (Nat.le_of_eq rfl) (by rw [hml]; rfl) (hb hby at_158) rfl (by decide) (by decide) ?_
    rintro _ vm155 h155 C155 ⟨rfl, rfl⟩
    have z155 := C155.2.1
    refine gat (mkF m 161 #[vi x0, vi x1, vi x2, vi x3, vi x4, vi (2 : Int32), vr r2, vr r3, vr r4, vr r5, vr b6, vr b8, vr r129, vr r135, vr r146, un, un, un] [(.ref sb129), (.ref sb129)]) rfl ?_
    refine ginfo fun _ _ O158 => ?_
    refine gcallV (y := mn327) (z := mn327) hx (ow hw 175 rfl) (ow hw 176 rfl) (nfSel (ow hw 178 rfl)) (ow hw 178 rfl) (ow hw 177 rfl) (by decide) (fun hZ H hEL => Pay.of_met (W := 0) (own_eqSame l Z a0 cx [] (sb129) vm155 h146 O158 ) (ow hw 179 rfl) (ow hw 7 rfl) (by decide) (by decide) hZ H hEL) 164 (argsL := [(.ref sb129)]) (rest := []) ((q129_1.1.keep K135).keep K146) (lenOf own_pd552 rfl) rfl rfl (Nat.le_of_eq rfl) (by rw [hml]; rfl) (hb hby at_161) rfl (by decide) (by decide) ?_
    rintro _ vm158 h158 C158 ⟨rfl, rfl⟩
    have z158 := C158.2.1
    refine gat (mkF m 164 #[vi x0, vi x1, vi x2, vi x3, vi x4, vi (2 : Int32), vr r2, vr r3, vr r4, vr r5, vr b6, vr b8, vr r129, vr r135, vr r146, un, un, un] [(.int (1 : Int32))]) rfl ?_
    refine gs (mkF m 169 #[vi x0, vi x1, vi x2, vi x3, vi x4, vi (2 : Int32), vr r2, vr r3, vr r4, vr r5, vr b6, vr b8, vr r129, vr r135, vr r146, un, un, un] []) (fun _ _ A kq => XS.ifYes A hx rfl (pc0 := 164) (pc' := 169) rfl (hb hby at_164) rfl ((if0 _ _).trans (feq (by decide)).2) (by decide) (by decide) kq) ?_
    refine uA 171 hx hby at_169 rfl rfl rfl ?_
    refine ginfo fun _ _ O159 => ?_
    refine gcallV (y := mn396) (z := mn396) hx (ow hw 170 rfl) (ow hw 171 rfl) (nfSel (ow hw 173 rfl)) (ow hw 173 rfl) (ow hw 172 rfl) (by decide) (fun hZ H hEL => Pay.of_met (W := 0) (own_scsource l Z a0 cx [] (r129) (sb129) vm158 h146 O159 f153) (ow hw 174 rfl) (ow hw 98 rfl) (by decide) (by decide) hZ H hEL) 174 (argsL := []) (rest := []) f154 (lenOf own_pd551 rfl) rfl rfl (Nat.le_of_eq rfl) (by rw [hml]; rfl) (hb hby at_171) rfl (by decide) (by decide) ?_
    rintro _ vm159 h159 C159 ⟨rfl, rfl⟩
    have z159 := C159.2.1
    refine gat (mkF m 174 #[vi x0, vi x1, vi x2, vi x3, vi x4, vi (2 : Int32), vr r2, vr r3, vr r4, vr r5, vr b6, vr b8, vr r129, vr r135, vr r146, un, un, un] [(.ref sb129)]) rfl ?_
    refine uA 176 hx hby at_174 rfl rfl rfl ?_
    refine ginfo fun _ _ O160 => ?_
    refine gcallV (y := mn396) (z := mn396) hx (ow hw 170 rfl) (ow hw 171 rfl) (nfSel (ow hw 173 rfl)) (ow hw 173 rfl) (ow hw 172 rfl) (by decide) (fun hZ H hEL => Pay.of_met (W := 1) (own_scsource l Z a0 cx [] (r146) (sb146) vm159 h146 O160 q146_2) (ow hw 174 rfl) (ow hw 98 rfl) (by decide) (by decide) hZ H hEL) 179 (argsL := []) (rest := [(.ref sb129)]) q146_0 (lenOf own_pd551 rfl) rfl rfl (Nat.le_of_eq rfl) (by rw [hml]; rfl) (hb hby at_176) rfl (by decide) (by decide) ?_
    rintro _ vm160 h160 C160 ⟨rfl, rfl⟩
    have z160 := C160.2.1
    refine gat (mkF m 179 #[vi x0, vi x1, vi x2, vi x3, vi x4, vi (2 : Int32), vr r2, vr r3, vr r4, vr r5, vr b6, vr b8, vr r129, vr r135, vr r146, un, un, un] [(.ref sb146), (.ref sb129)]) rfl ?_
    have f162 := ((q129_1.keep K135 nin0 nin0).keep K146 nin0 nin0)
    refine ginfo fun _ _ O161 => ?_
    refine gcallV (y := mn327) (z := mn327) hx (ow hw 175 rfl) (ow hw 176 rfl) (nfSel (ow hw 178 rfl)) (ow hw 178 rfl) (ow hw 177 rfl) (by decide) (fun hZ H hEL => Pay.of_met (W := 0) (own_eqDiff l Z a0 cx [] (sb129) (sb146) (tb129) (tb146) vm160 h146 O161 f162 q146_1) (ow hw 179 rfl) (ow hw 7 rfl) (by decide) (by decide) hZ H hEL) 182 (argsL := [(.ref sb146)]) (rest := []) f162.1 (lenOf own_pd552 rfl) rfl rfl (Nat.le_of_eq rfl) (by rw [hml]; rfl) (hb hby at_179) rfl (by decide) (by decide) ?_
    rintro _ vm161 h161 C161 ⟨rfl, rfl⟩
    have z161 := C161.2.1
    refine gat (mkF m 182 #[vi x0, vi x1, vi x2, vi x3, vi x4, vi (2 : Int32), vr r2, vr r3, vr r4, vr r5, vr b6, vr b8, vr r129, vr r135, vr r146, un, un, un] [(.int (0 : Int32))]) rfl ?_
    refine gs (mkF m 187 #[vi x0, vi x1, vi x2, vi x3, vi x4, vi (2 : Int32), vr r2, vr r3, vr r4, vr r5, vr b6, vr b8, vr r129, vr r135, vr r146, un, un, un] []) (fun _ _ A kq => XS.ifYes A hx rfl (pc0 := 182) (pc' := 187) rfl (hb hby at_182) rfl ((if0 _ _).trans (teq (by decide)).1) (by decide) (by decide) kq) ?_
    refine uA 189 hx hby at_187 rfl rfl rfl ?_
    have f164 := ((q129_3.keep K135 nin0).keep K146 nin0)
    refine ginfo fun _ _ O163 => ?_
    refine gcallV (y := mn401) (z := mn401) hx (ow hw 185 rfl) (ow hw 186 rfl) (nfSel (ow hw 188 rfl)) (ow hw 188 rfl) (ow hw 187 rfl) (by decide) (fun hZ H hEL => Pay.of_met (W := 0) (own_sckeys l Z a0 cx [] (r129) (r1129) vm161 h146 O163 f164) (ow hw 189 rfl) (ow hw 98 rfl) (by decide) (by decide) hZ H hEL) 192 (argsL := []) (rest := []) f154 (lenOf own_pd273 rfl) rfl rfl (Nat.le_of_eq rfl) (by rw [hml]; rfl) (hb hby at_189) rfl (by decide) (by decide) ?_
    rintro _ vm163 h163 C163 ⟨rfl, rfl⟩
    have z163 := C163.2.1
    refine gat (mkF m 192 #[vi x0, vi x1, vi x2, vi x3, vi x4, vi (2 : Int32), vr r2, vr r3, vr r4, vr r5, vr b6, vr b8, vr r129, vr r135, vr r146, un, un, un] [(.ref r1129)]) rfl ?_
    refine gs (mkF m 194 #[vi x0, vi x1, vi x2, vi x3, vi x4, vi (2 : Int32), vr r2, vr r3, vr r4, vr r5, vr b6, vr b8, vr r129, vr r135, vr r146, vr r1129, un, un] []) (fun _ _ A kq => XS.astore A hx rfl (hb hby at_192) rfl rfl (l' := #[vi x0, vi x1, vi x2, vi x3, vi x4, vi (2 : Int32), vr r2, vr r3, vr r4, vr r5, vr b6, vr b8, vr r129, vr r135, vr r146, vr r1129, un, un]) rfl kq) ?_
    refine uA 196 hx hby at_194 rfl rfl rfl ?_
    have f166 := ((q129_4.keep K135 nin0).keep K146 nin0)
    refine ginfo fun _ _ O165 => ?_
    refine gcallV (y := mn405) (z := mn405) hx (ow hw 190 rfl) (ow hw 191 rfl) (nfSel (ow hw 193 rfl)) (ow hw 193 rfl) (ow hw 192 rfl) (by decide) (fun hZ H hEL => Pay.of_met (W := 0) (own_scargs l Z a0 cx [] (r129) (r2129) vm163 h146 O165 f166) (ow hw 194 rfl) (ow hw 98 rfl) (by decide) (by decide) hZ H hEL) 199 (argsL := []) (rest := []) f154 (lenOf own_pd273 rfl) rfl rfl (Nat.le_of_eq rfl) (by rw [hml]; rfl) (hb hby at_196) rfl (by decide) (by decide) ?_
    rintro _ vm165 h165 C165 ⟨rfl, rfl⟩
    have z165 := C165.2.1
    refine gat (mkF m 199 #[vi x0, vi x1, vi x2, vi x3, vi x4, vi (2 : Int32), vr r2, vr r3, vr r4, vr r5, vr b6, vr b8, vr r129, vr r135, vr r146, vr r1129, un, un] [(.ref r2129)]) rfl ?_
    refine gs (mkF m 201 #[vi x0, vi x1, vi x2, vi x3, vi x4, vi (2 : Int32), vr r2, vr r3, vr r4, vr r5, vr b6, vr b8, vr r129, vr r135, vr r146, vr r1129, vr r2129, un] []) (fun _ _ A kq => XS.astore A hx rfl (hb hby at_199) rfl rfl (l' := #[vi x0, vi x1, vi x2, vi x3, vi x4, vi (2 : Int32), vr r2, vr r3, vr r4, vr r5, vr b6, vr b8, vr r129, vr r135, vr r146, vr r1129, vr r2129, un]) rfl kq) ?_
    refine uA 203 hx hby at_201 rfl rfl rfl ?_
    have f168 := ((q129_5.keep K135).keep K146)
    have f169 := ((q129_6.keep K135 nin0).keep K146 nin0)
    have f170 := ((q129_7.keep K135 nin0).keep K146 nin0)
    refine ginfo fun _ _ O167 => ?_
    refine gcallF (xi := mn484) (y := mn297) hx (ow hw 195 rfl) (ow hw 63 rfl) (fun _ _ hU => mvT hU (ow hw 64 rfl)) (ow hw 332 rfl) (ow hw 333 rfl) (ow hw 334 rfl) (ow hw 335 rfl) (ow hw 336 rfl) (by decide) (fun hZ H hEL => Pay.of_met (W := 0) (own_lsize2 l Z a0 cx [] (r1129) (r2) (r3) (dz) (el) (ee) (em) (mr) (kd) (ke) vm165 h146 O167 f168 f169 f170 ((((((((((((((q2_1.1.keep K3).keep K4).keep K5).ext E6).keep K7).ext E8).keep K9).keep K105).keep K110).keep K115).keep K122).keep K129).keep K135).keep K146) (((((((((((((q3_1.1.keep K4).keep K5).ext E6).keep K7).ext E8).keep K9).keep K105).keep K110).keep K115).keep K122).keep K129).keep K135).keep K146) (by first | assumption | decide | omega)) (ow hw 337 rfl) (ow hw 318 rfl) (by decide) (by decide) hZ H hEL) 208 (argsL := []) (rest := []) f168 (lenOf own_pd445 rfl) rfl rfl (Nat.le_of_eq rfl) (by rw [hml]; rfl) (hb hby at_203) rfl (by decide) (by decide) ?_
    rintro _ vm167 h167 C167 ⟨rfl, rfl⟩
    have z167 := C167.2.1
    refine gat (mkF m 208 #[vi x0, vi x1, vi x2, vi x3, vi x4, vi (2 : Int32), vr r2, vr r3, vr r4, vr r5, vr b6, vr b8, vr r129, vr r135, vr r146, vr r1129, vr r2129, un] [(.int (2 : Int32))]) rfl ?_
    refine uI 210 hx hby at_208 rfl rfl ?_
    refine gs (mkF m 213 #[vi x0, vi x1, vi x2, vi x3, vi x4, vi (2 : Int32), vr r2, vr r3, vr r4, vr r5, vr b6, vr b8, vr r129, vr r135, vr r146, vr r1129, vr r2129, un] []) (fun _ _ A kq => XS.icmpNo A hx rfl (hb hby at_210) rfl (teq (by decide)).2 kq) ?_
    refine uA 215 hx hby at_213 rfl rfl rfl ?_
    have f172 := ((q129_8.keep K135).keep K146)
    have f173 := ((q129_9.keep K135 nin0).keep K146 nin0)
    have f174 := ((q129_10.keep K135 nin0).keep K146 nin0)
    refine ginfo fun _ _ O171 => ?_
    refine gcallF (xi := mn484) (y := mn297) hx (ow hw 195 rfl) (ow hw 63 rfl) (fun _ _ hU => mvT hU (ow hw 64 rfl)) (ow hw 332 rfl) (ow hw 333 rfl) (ow hw 334 rfl) (ow hw 335 rfl) (ow hw 336 rfl) (by decide) (fun hZ H hEL => Pay.of_met (W := 0) (own_lsize2 l Z a0 cx [] (r2129) (r5) (r5) (dz) (el) (ee) (em) (mr) (kd) (ke) vm167 h146 O171 f172 f173 f174 (((((((((((q5_1.1.ext E6).keep K7).ext E8).keep K9).keep K105).keep K110).keep K115).keep K122).keep K129).keep K135).keep K146) (((((((((((q5_1.1.ext E6).keep K7).ext E8).keep K9).keep K105).keep K110).keep K115).keep K122).keep K129).keep K135).keep K146) (by first | assumption | decide | omega)) (ow hw 337 rfl) (ow hw 318 rfl) (by decide) (by decide) hZ H hEL) 220 (argsL := []) (rest := []) f172 (lenOf own_pd445 rfl) rfl rfl (Nat.le_of_eq rfl) (by rw [hml]; rfl) (hb hby at_215) rfl (by decide) (by decide) ?_
    rintro _ vm171 h171 C171 ⟨rfl, rfl⟩
    have z171 := C171.2.1
    refine gat (mkF m 220 #[vi x0, vi x1, vi x2, vi x3, vi x4, vi (2 : Int32), vr r2, vr r3, vr r4, vr r5, vr b6, vr b8, vr r129, vr r135, vr r146, vr r1129, vr r2129, un] [(.int (2 : Int32))]) rfl ?_
    refine uI 222 hx hby at_220 rfl rfl ?_
    refine gs (mkF m 227 #[vi x0, vi x1, vi x2, vi x3, vi x4, vi (2 : Int32), vr r2, vr r3, vr r4, vr r5, vr b6, vr b8, vr r129, vr r135, vr r146, vr r1129, vr r2129, un] []) (fun _ _ A kq => XS.icmpYes A hx rfl (pc0 := 222) (pc' := 227) rfl (hb hby at_222) rfl (teq (by decide)).1 (by decide) (by decide) kq) ?_
    refine gs (mkF m 228 #[vi x0, vi x1, vi x2, vi x3, vi x4, vi (2 : Int32), vr r2, vr r3, vr r4, vr r5, vr b6, vr b8, vr r129, vr r135, vr r146, vr r1129, vr r2129, un] [(.int (1 : Int32))]) (fun _ _ A kq => XS.iconst A hx rfl (hb hby at_227) kq) ?_
    refine gs (mkF m 230 #[vi x0, vi x1, vi x2, vi x3, vi x4, vi (2 : Int32), vr r2, vr r3, vr r4, vr r5, vr b6, vr b8, vr r129, vr r135, vr r146, vr r1129, vr r2129, vi (1 : Int32)] []) (fun _ _ A kq => XS.istore A hx rfl (hb hby at_228) rfl (l' := #[vi x0, vi x1, vi x2, vi x3, vi x4, vi (2 : Int32), vr r2, vr r3, vr r4, vr r5, vr b6, vr b8, vr r129, vr r135, vr r146, vr r1129, vr r2129, vi (1 : Int32)]) rfl kq) ?_
    refine uI 232 hx hby at_230 rfl rfl ?_
    refine gs (mkF m 233 #[vi x0, vi x1, vi x2, vi x3, vi x4, vi (2 : Int32), vr r2, vr r3, vr r4, vr r5, vr b6, vr b8, vr r129, vr r135, vr r146, vr r1129, vr r2129, vi (1 : Int32)] [(.int (1 : Int32)), (.int (2 : Int32))]) (fun _ _ A kq => XS.iconst A hx rfl (hb hby at_232) kq) ?_
    refine gs (mkF m 236 #[vi x0, vi x1, vi x2, vi x3, vi x4, vi (2 : Int32), vr r2, vr r3, vr r4, vr r5, vr b6, vr b8, vr r129, vr r135, vr r146, vr r1129, vr r2129, vi (1 : Int32)] []) (fun _ _ A kq => XS.icmpNo A hx rfl (hb hby at_233) rfl (flt (by decide)).1 kq) ?_
    refine uI 238 hx hby at_236 rfl rfl ?_
    refine gs (mkF m 241 #[vi x0, vi x1, vi x2, vi x3, vi x4, vi (2 : Int32), vr r2, vr r3, vr r4, vr r5, vr b6, vr b8, vr r129, vr r135, vr r146, vr r1129, vr r2129, vi (1 : Int32)] []) (fun _ _ A kq => XS.ifNo A hx rfl (hb hby at_238) rfl ((if0 _ _).trans (feq (by decide)).1) kq) ?_
    refine uA 243 hx hby at_241 rfl rfl rfl ?_
    refine gs (mkF m 244 #[vi x0, vi x1, vi x2, vi x3, vi x4, vi (2 : Int32), vr r2, vr r3, vr r4, vr r5, vr b6, vr b8, vr r129, vr r135, vr r146, vr r1129, vr r2129, vi (1 : Int32)] [(.int (0 : Int32)), (.ref r1129)]) (fun _ _ A kq => XS.iconst A hx rfl (hb hby at_243) kq) ?_
    refine ginfo fun _ _ O175 => ?_
    refine gcallF (xi := mn555) (y := mn303) hx (ow hw 308 rfl) (ow hw 309 rfl) (fun _ _ hU => mvT hU (ow hw 310 rfl)) (ow hw 339 rfl) (ow hw 340 rfl) (ow hw 341 rfl) (ow hw 342 rfl) (ow hw 336 rfl) (by decide) (fun hZ H hEL => Pay.of_met (W := 0) (own_lget2_0 l Z a0 cx [] (r1129) (r2) (r3) (dz) (el) (ee) (em) (mr) (kd) (ke) vm171 h146 O175 f168 f169 f170 ((((((((((((((q2_1.1.keep K3).keep K4).keep K5).ext E6).keep K7).ext E8).keep K9).keep K105).keep K110).keep K115).keep K122).keep K129).keep K135).keep K146) (((((((((((((q3_1.1.keep K4).keep K5).ext E6).keep K7).ext E8).keep K9).keep K105).keep K110).keep K115).keep K122).keep K129).keep K135).keep K146) (by first | assumption | decide | omega)) (ow hw 343 rfl) (ow hw 318 rfl) (by decide) (by decide) hZ H hEL) 249 (argsL := [(.int (0 : Int32))]) (rest := []) f168 (lenOf own_pd554 rfl) rfl rfl (Nat.le_of_eq rfl) (by rw [hml]; rfl) (hb hby at_244) rfl (by decide) (by decide) ?_
    rintro _ vm175 h175 C175 ⟨rfl, rfl⟩
    have z175 := C175.2.1
    refine gat (mkF m 249 #[vi x0, vi x1, vi x2, vi x3, vi x4, vi (2 : Int32), vr r2, vr r3, vr r4, vr r5, vr b6, vr b8, vr r129, vr r135, vr r146, vr r1129, vr r2129, vi (1 : Int32)] [(.ref r2)]) rfl ?_
    refine gcast hx (ow hw 5 rfl) (Ins.self ((((((((((((((q2_1.1.keep K3).keep K4).keep K5).ext E6).keep K7).ext E8).keep K9).keep K105).keep K110).keep K115).keep K122).keep K129).keep K135).keep K146)) 252 (hb hby at_249) rfl ?_
    refine uA 254 hx hby at_252 rfl rfl rfl ?_
    refine ginfo fun _ _ O176 => ?_
    refine gcallV (y := mn327) (z := mn327) hx (ow hw 175 rfl) (ow hw 176 rfl) (nfSel (ow hw 178 rfl)) (ow hw 178 rfl) (ow hw 177 rfl) (by decide) (fun hZ H hEL => Pay.of_met (W := 0) (own_eqSame l Z a0 cx [] (r2) vm175 h146 O176 ) (ow hw 179 rfl) (ow hw 7 rfl) (by decide) (by decide) hZ H hEL) 257 (argsL := [(.ref r2)]) (rest := []) ((((((((((((((q2_1.1.keep K3).keep K4).keep K5).ext E6).keep K7).ext E8).keep K9).keep K105).keep K110).keep K115).keep K122).keep K129).keep K135).keep K146) (lenOf own_pd552 rfl) rfl rfl (Nat.le_of_eq rfl) (by rw [hml]; rfl) (hb hby at_254) rfl (by decide) (by decide) ?_
    rintro _ vm176 h176 C176 ⟨rfl, rfl⟩
    have z176 := C176.2.1
    refine gat (mkF m 257 #[vi x0, vi x1, vi x2, vi x3, vi x4, vi (2 : Int32), vr r2, vr r3, vr r4, vr r5, vr b6, vr b8, vr r129, vr r135, vr r146, vr r1129, vr r2129, vi (1 : Int32)] [(.int (1 : Int32))]) rfl ?_
    refine gs (mkF m 260 #[vi x0, vi x1, vi x2, vi x3, vi x4, vi (2 : Int32), vr r2, vr r3, vr r4, vr r5, vr b6, vr b8, vr r129, vr r135, vr r146, vr r1129, vr r2129, vi (1 : Int32)] []) (fun _ _ A kq => XS.ifNo A hx rfl (hb hby at_257) rfl ((if0 _ _).trans (feq (by decide)).1) kq) ?_
    refine uA 262 hx hby at_260 rfl rfl rfl ?_
    refine gs (mkF m 263 #[vi x0, vi x1, vi x2, vi x3, vi x4, vi (2 : Int32), vr r2, vr r3, vr r4, vr r5, vr b6, vr b8, vr r129, vr r135, vr r146, vr r1129, vr r2129, vi (1 : Int32)] [(.int (0 : Int32)), (.ref r2129)]) (fun _ _ A kq => XS.iconst A hx rfl (hb hby at_262) kq) ?_
    refine ginfo fun _ _ O177 => ?_
    refine gcallF (xi := mn555) (y := mn303) hx (ow hw 308 rfl) (ow hw 309 rfl) (fun _ _ hU => mvT hU (ow hw 310 rfl)) (ow hw 339 rfl) (ow hw 340 rfl) (ow hw 341 rfl) (ow hw 342 rfl) (ow hw 336 rfl) (by decide) (fun hZ H hEL => Pay.of_met (W := 0) (own_lget2_0 l Z a0 cx [] (r2129) (r5) (r5) (dz) (el) (ee) (em) (mr) (kd) (ke) vm176 h146 O177 f172 f173 f174 (((((((((((q5_1.1.ext E6).keep K7).ext E8).keep K9).keep K105).keep K110).keep K115).keep K122).keep K129).keep K135).keep K146) (((((((((((q5_1.1.ext E6).keep K7).ext E8).keep K9).keep K105).keep K110).keep K115).keep K122).keep K129).keep K135).keep K146) (by first | assumption | decide | omega)) (ow hw 343 rfl) (ow hw 318 rfl) (by decide) (by decide) hZ H hEL) 268 (argsL := [(.int (0 : Int32))]) (rest := []) f172 (lenOf own_pd554 rfl) rfl rfl (Nat.le_of_eq rfl) (by rw [hml]; rfl) (hb hby at_263) rfl (by decide) (by decide) ?_
    rintro _ vm177 h177 C177 ⟨rfl, rfl⟩
    have z177 := C177.2.1
    refine gat (mkF m 268 #[vi x0, vi x1, vi x2, vi x3, vi x4, vi (2 : Int32), vr r2, vr r3, vr r4, vr r5, vr b6, vr b8, vr r129, vr r135, vr r146, vr r1129, vr r2129, vi (1 : Int32)] [(.ref r5)]) rfl ?_
    refine gcast hx (ow hw 5 rfl) (Ins.self (((((((((((q5_1.1.ext E6).keep K7).ext E8).keep K9).keep K105).keep K110).keep K115).keep K122).keep K129).keep K135).keep K146)) 271 (hb hby at_268) rfl ?_
    refine uA 273 hx hby at_271 rfl rfl rfl ?_
    refine ginfo fun _ _ O178 => ?_
    refine gcallV (y := mn327) (z := mn327) hx (ow hw 175 rfl) (ow hw 176 rfl) (nfSel (ow hw 178 rfl)) (ow hw 178 rfl) (ow hw 177 rfl) (by decide) (fun hZ H hEL => Pay.of_met (W := 0) (own_eqSame l Z a0 cx [] (r5) vm177 h146 O178 ) (ow hw 179 rfl) (ow hw 7 rfl) (by decide) (by decide) hZ H hEL) 276 (argsL := [(.ref r5)]) (rest := []) (((((((((((q5_1.1.ext E6).keep K7).ext E8).keep K9).keep K105).keep K110).keep K115).keep K122).keep K129).keep K135).keep K146) (lenOf own_pd552 rfl) rfl rfl (Nat.le_of_eq rfl) (by rw [hml]; rfl) (hb hby at_273) rfl (by decide) (by decide) ?_
    rintro _ vm178 h178 C178 ⟨rfl, rfl⟩
    have z178 := C178.2.1
    refine gat (mkF m 276 #[vi x0, vi x1, vi x2, vi x3, vi x4, vi (2 : Int32), vr r2, vr r3, vr r4, vr r5, vr b6, vr b8, vr r129, vr r135, vr r146, vr r1129, vr r2129, vi (1 : Int32)] [(.int (1 : Int32))]) rfl ?_
    refine gs (mkF m 279 #[vi x0, vi x1, vi x2, vi x3, vi x4, vi (2 : Int32), vr r2, vr r3, vr r4, vr r5, vr b6, vr b8, vr r129, vr r135, vr r146, vr r1129, vr r2129, vi (1 : Int32)] []) (fun _ _ A kq => XS.ifNo A hx rfl (hb hby at_276) rfl ((if0 _ _).trans (feq (by decide)).1) kq) ?_
    refine gs (mkF m 280 #[vi x0, vi x1, vi x2, vi x3, vi x4, vi (2 : Int32), vr r2, vr r3, vr r4, vr r5, vr b6, vr b8, vr r129, vr r135, vr r146, vr r1129, vr r2129, vi (1 : Int32)] [(.int (1 : Int32))]) (fun _ _ A kq => XS.iconst A hx rfl (hb hby at_279) kq) ?_
    refine uG 284 hx hby at_280 (by decide) (by decide) ?_
    refine gs (mkF m 286 #[vi x0, vi x1, vi x2, vi x3, vi x4, vi (2 : Int32), vr r2, vr r3, vr r4, vr r5, vr b6, vr b8, vr r129, vr r135, vr r146, vr r1129, vr r2129, vi (1 : Int32)] []) (fun _ _ A kq => XS.istore A hx rfl (hb hby at_284) rfl (l' := #[vi x0, vi x1, vi x2, vi x3, vi x4, vi (2 : Int32), vr r2, vr r3, vr r4, vr r5, vr b6, vr b8, vr r129, vr r135, vr r146, vr r1129, vr r2129, vi (1 : Int32)]) rfl kq) ?_
    refine uI 288 hx hby at_286 rfl rfl ?_
    refine gs (mkF m 289 #[vi x0, vi x1, vi x2, vi x3, vi x4, vi (2 : Int32), vr r2, vr r3, vr r4, vr r5, vr b6, vr b8, vr r129, vr r135, vr r146, vr r1129, vr r2129, vi (1 : Int32)] [(.int (2 : Int32)), (.int (2 : Int32))]) (fun _ _ A kq => XS.iconst A hx rfl (hb hby at_288) kq) ?_
    refine gs (mkF m 292 #[vi x0, vi x1, vi x2, vi x3, vi x4, vi (2 : Int32), vr r2, vr r3, vr r4, vr r5, vr b6, vr b8, vr r129, vr r135, vr r146, vr r1129, vr r2129, vi (1 : Int32)] []) (fun _ _ A kq => XS.icmpNo A hx rfl (hb hby at_289) rfl (flt (by decide)).1 kq) ?_
    refine uI 294 hx hby at_292 rfl rfl ?_
    refine gs (mkF m 297 #[vi x0, vi x1, vi x2, vi x3, vi x4, vi (2 : Int32), vr r2, vr r3, vr r4, vr r5, vr b6, vr b8, vr r129, vr r135, vr r146, vr r1129, vr r2129, vi (1 : Int32)] []) (fun _ _ A kq => XS.ifNo A hx rfl (hb hby at_294) rfl ((if0 _ _).trans (feq (by decide)).1) kq) ?_
    refine uA 299 hx hby at_297 rfl rfl rfl ?_
    refine gs (mkF m 300 #[vi x0, vi x1, vi x2, vi x3, vi x4, vi (2 : Int32), vr r2, vr r3, vr r4, vr r5, vr b6, vr b8, vr r129, vr r135, vr r146, vr r1129, vr r2129, vi (1 : Int32)] [(.int (1 : Int32)), (.ref r1129)]) (fun _ _ A kq => XS.iconst A hx rfl (hb hby at_299) kq) ?_
    refine ginfo fun _ _ O179 => ?_
    refine gcallF (xi := mn555) (y := mn303) hx (ow hw 308 rfl) (ow hw 309 rfl) (fun _ _ hU => mvT hU (ow hw 310 rfl)) (ow hw 339 rfl) (ow hw 340 rfl) (ow hw 341 rfl) (ow hw 342 rfl) (ow hw 336 rfl) (by decide) (fun hZ H hEL => Pay.of_met (W := 0) (own_lget2_1 l Z a0 cx [] (r1129) (r2) (r3) (dz) (el) (ee) (em) (mr) (kd) (ke) vm178 h146 O179 f168 f169 f170 ((((((((((((((q2_1.1.keep K3).keep K4).keep K5).ext E6).keep K7).ext E8).keep K9).keep K105).keep K110).keep K115).keep K122).keep K129).keep K135).keep K146) (((((((((((((q3_1.1.keep K4).keep K5).ext E6).keep K7).ext E8).keep K9).keep K105).keep K110).keep K115).keep K122).keep K129).keep K135).keep K146) (by first | assumption | decide | omega)) (ow hw 343 rfl) (ow hw 318 rfl) (by decide) (by decide) hZ H hEL) 305 (argsL := [(.int (1 : Int32))]) (rest := []) f168 (lenOf own_pd554 rfl) rfl rfl (Nat.le_of_eq rfl) (by rw [hml]; rfl) (hb hby at_300) rfl (by decide) (by decide) ?_
    rintro _ vm179 h179 C179 ⟨rfl, rfl⟩
    have z179 := C179.2.1
    refine gat (mkF m 305 #[vi x0, vi x1, vi x2, vi x3, vi x4, vi (2 : Int32), vr r2, vr r3, vr r4, vr r5, vr b6, vr b8, vr r129, vr r135, vr r146, vr r1129, vr r2129, vi (1 : Int32)] [(.ref r3)]) rfl ?_
    refine gcast hx (ow hw 5 rfl) (Ins.self (((((((((((((q3_1.1.keep K4).keep K5).ext E6).keep K7).ext E8).keep K9).keep K105).keep K110).keep K115).keep K122).keep K129).keep K135).keep K146)) 308 (hb hby at_305) rfl ?_
    refine uA 310 hx hby at_308 rfl rfl rfl ?_
    refine ginfo fun _ _ O180 => ?_
    refine gcallV (y := mn327) (z := mn327) hx (ow hw 175 rfl) (ow hw 176 rfl) (nfSel (ow hw 178 rfl)) (ow hw 178 rfl) (ow hw 177 rfl) (by decide) (fun hZ H hEL => Pay.of_met (W := 0) (own_eqSame l Z a0 cx [] (r3) vm179 h146 O180 ) (ow hw 179 rfl) (ow hw 7 rfl) (by decide) (by decide) hZ H hEL) 313 (argsL := [(.ref r3)]) (rest := []) (((((((((((((q3_1.1.keep K4).keep K5).ext E6).keep K7).ext E8).keep K9).keep K105).keep K110).keep K115).keep K122).keep K129).keep K135).keep K146) (lenOf own_pd552 rfl) rfl rfl (Nat.le_of_eq rfl) (by rw [hml]; rfl) (hb hby at_310) rfl (by decide) (by decide) ?_
    rintro _ vm180 h180 C180 ⟨rfl, rfl⟩
    have z180 := C180.2.1
    refine gat (mkF m 313 #[vi x0, vi x1, vi x2, vi x3, vi x4, vi (2 : Int32), vr r2, vr r3, vr r4, vr r5, vr b6, vr b8, vr r129, vr r135, vr r146, vr r1129, vr r2129, vi (1 : Int32)] [(.int (1 : Int32))]) rfl ?_
    refine gs (mkF m 316 #[vi x0, vi x1, vi x2, vi x3, vi x4, vi (2 : Int32), vr r2, vr r3, vr r4, vr r5, vr b6, vr b8, vr r129, vr r135, vr r146, vr r1129, vr r2129, vi (1 : Int32)] []) (fun _ _ A kq => XS.ifNo A hx rfl (hb hby at_313) rfl ((if0 _ _).trans (feq (by decide)).1) kq) ?_
    refine uA 318 hx hby at_316 rfl rfl rfl ?_
    refine gs (mkF m 319 #[vi x0, vi x1, vi x2, vi x3, vi x4, vi (2 : Int32), vr r2, vr r3, vr r4, vr r5, vr b6, vr b8, vr r129, vr r135, vr r146, vr r1129, vr r2129, vi (1 : Int32)] [(.int (1 : Int32)), (.ref r2129)]) (fun _ _ A kq => XS.iconst A hx rfl (hb hby at_318) kq) ?_
    refine ginfo fun _ _ O181 => ?_
    refine gcallF (xi := mn555) (y := mn303) hx (ow hw 308 rfl) (ow hw 309 rfl) (fun _ _ hU => mvT hU (ow hw 310 rfl)) (ow hw 339 rfl) (ow hw 340 rfl) (ow hw 341 rfl) (ow hw 342 rfl) (ow hw 336 rfl) (by decide) (fun hZ H hEL => Pay.of_met (W := 0) (own_lget2_1 l Z a0 cx [] (r2129) (r5) (r5) (dz) (el) (ee) (em) (mr) (kd) (ke) vm180 h146 O181 f172 f173 f174 (((((((((((q5_1.1.ext E6).keep K7).ext E8).keep K9).keep K105).keep K110).keep K115).keep K122).keep K129).keep K135).keep K146) (((((((((((q5_1.1.ext E6).keep K7).ext E8).keep K9).keep K105).keep K110).keep K115).keep K122).keep K129).keep K135).keep K146) (by first | assumption | decide | omega)) (ow hw 343 rfl) (ow hw 318 rfl) (by decide) (by decide) hZ H hEL) 324 (argsL := [(.int (1 : Int32))]) (rest := []) f172 (lenOf own_pd554 rfl) rfl rfl (Nat.le_of_eq rfl) (by rw [hml]; rfl) (hb hby at_319) rfl (by decide) (by decide) ?_
    rintro _ vm181 h181 C181 ⟨rfl, rfl⟩
    have z181 := C181.2.1
    refine gat (mkF m 324 #[vi x0, vi x1, vi x2, vi x3, vi x4, vi (2 : Int32), vr r2, vr r3, vr r4, vr r5, vr b6, vr b8, vr r129, vr r135, vr r146, vr r1129, vr r2129, vi (1 : Int32)] [(.ref r5)]) rfl ?_
    refine gcast hx (ow hw 5 rfl) (Ins.self (((((((((((q5_1.1.ext E6).keep K7).ext E8).keep K9).keep K105).keep K110).keep K115).keep K122).keep K129).keep K135).keep K146)) 327 (hb hby at_324) rfl ?_
    refine uA 329 hx hby at_327 rfl rfl rfl ?_
    refine ginfo fun _ _ O182 => ?_
    refine gcallV (y := mn327) (z := mn327) hx (ow hw 175 rfl) (ow hw 176 rfl) (nfSel (ow hw 178 rfl)) (ow hw 178 rfl) (ow hw 177 rfl) (by decide) (fun hZ H hEL => Pay.of_met (W := 0) (own_eqSame l Z a0 cx [] (r5) vm181 h146 O182 ) (ow hw 179 rfl) (ow hw 7 rfl) (by decide) (by decide) hZ H hEL) 332 (argsL := [(.ref r5)]) (rest := []) (((((((((((q5_1.1.ext E6).keep K7).ext E8).keep K9).keep K105).keep K110).keep K115).keep K122).keep K129).keep K135).keep K146) (lenOf own_pd552 rfl) rfl rfl (Nat.le_of_eq rfl) (by rw [hml]; rfl) (hb hby at_329) rfl (by decide) (by decide) ?_
    rintro _ vm182 h182 C182 ⟨rfl, rfl⟩
    have z182 := C182.2.1
    refine gat (mkF m 332 #[vi x0, vi x1, vi x2, vi x3, vi x4, vi (2 : Int32), vr r2, vr r3, vr r4, vr r5, vr b6, vr b8, vr r129, vr r135, vr r146, vr r1129, vr r2129, vi (1 : Int32)] [(.int (1 : Int32))]) rfl ?_
    refine gs (mkF m 335 #[vi x0, vi x1, vi x2, vi x3, vi x4, vi (2 : Int32), vr r2, vr r3, vr r4, vr r5, vr b6, vr b8, vr r129, vr r135, vr r146, vr r1129, vr r2129, vi (1 : Int32)] []) (fun _ _ A kq => XS.ifNo A hx rfl (hb hby at_332) rfl ((if0 _ _).trans (feq (by decide)).1) kq) ?_
    refine gs (mkF m 336 #[vi x0, vi x1, vi x2, vi x3, vi x4, vi (2 : Int32), vr r2, vr r3, vr r4, vr r5, vr b6, vr b8, vr r129, vr r135, vr r146, vr r1129, vr r2129, vi (1 : Int32)] [(.int (1 : Int32))]) (fun _ _ A kq => XS.iconst A hx rfl (hb hby at_335) kq) ?_
    refine uG 340 hx hby at_336 (by decide) (by decide) ?_
    refine gs (mkF m 342 #[vi x0, vi x1, vi x2, vi x3, vi x4, vi (2 : Int32), vr r2, vr r3, vr r4, vr r5, vr b6, vr b8, vr r129, vr r135, vr r146, vr r1129, vr r2129, vi (1 : Int32)] []) (fun _ _ A kq => XS.istore A hx rfl (hb hby at_340) rfl (l' := #[vi x0, vi x1, vi x2, vi x3, vi x4, vi (2 : Int32), vr r2, vr r3, vr r4, vr r5, vr b6, vr b8, vr r129, vr r135, vr r146, vr r1129, vr r2129, vi (1 : Int32)]) rfl kq) ?_
    refine uI 344 hx hby at_342 rfl rfl ?_
    refine gs (mkF m 345 #[vi x0, vi x1, vi x2, vi x3, vi x4, vi (2 : Int32), vr r2, vr r3, vr r4, vr r5, vr b6, vr b8, vr r129, vr r135, vr r146, vr r1129, vr r2129, vi (1 : Int32)] [(.int (3 : Int32)), (.int (2 : Int32))]) (fun _ _ A kq => XS.iconst A hx rfl (hb hby at_344) kq) ?_
    refine gs (mkF m 398 #[vi x0, vi x1, vi x2, vi x3, vi x4, vi (2 : Int32), vr r2, vr r3, vr r4, vr r5, vr b6, vr b8, vr r129, vr r135, vr r146, vr r1129, vr r2129, vi (1 : Int32)] []) (fun _ _ A kq => XS.icmpYes A hx rfl (pc0 := 345) (pc' := 398) rfl (hb hby at_345) rfl (tlt (by decide)).1 (by decide) (by decide) kq) ?_
    refine uI 400 hx hby at_398 rfl rfl ?_
    exact gretN (t := .boolean) hx hret (by simp) (hb hby at_400) (by decide) (by decide) (fun vq Cq => ⟨rfl, ((((((((((((((((Keep.refl h0 []).trans K2 all0).trans K3 all0).trans K4 all0).trans K5 all0).ext E6).trans K7 (allS (Or.inr (by omega)) all0)).ext E8).trans K9 (allS (Or.inr (by omega)) all0)).trans K105 (allS (Or.inr (by omega)) all0)).trans K110 (allS (Or.inr (by omega)) all0)).trans K115 (allS (Or.inr (by omega)) (allS (Or.inr (by omega)) all0))).trans K122 (allS (Or.inr (by omega)) (allS (Or.inr (by omega)) all0))).trans K129 all0).trans K135 all0).trans K146 all0)⟩)
  · refine gat (mkF m 48 #[vi x0, vi x1, vi x2, vi x3, vi x4, vi (3 : Int32), vr r2, vr r3, vr r4, vr r5, vr b6, vr b8, un, un, un, un, un, un] []) (by rw [nq]) ?_
    refine uI 50 hx hby at_48 rfl rfl ?_
    refine gs (mkF m 51 #[vi x0, vi x1, vi x2, vi x3, vi x4, vi (3 : Int32), vr r2, vr r3, vr r4, vr r5, vr b6, vr b8, un, un, un, un, un, un] [(.int (1 : Int32)), (.int (3 : Int32))]) (fun _ _ A kq => XS.iconst A hx rfl (hb hby at_50) kq) ?_
    refine gs (mkF m 54 #[vi x0, vi x1, vi x2, vi x3, vi x4, vi (3 : Int32), vr r2, vr r3, vr r4, vr r5, vr b6, vr b8, un, un, un, un, un, un] []) (fun _ _ A kq => XS.icmpNo A hx rfl (hb hby at_51) rfl (flt (by decide)).1 kq) ?_
    refine uA 56 hx hby at_54 rfl rfl rfl ?_
    refine uA 58 hx hby at_56 rfl rfl rfl ?_
    have f185 := (((A6.keep K7).ext E8).keep K9)
    have f186 := ((q7_0.ext E8).keep K9 (ninS (Nat.ne_of_lt (by omega)) nin0))
    have f187 := ((q7_1.ext E8).keep K9 (ninS (Nat.ne_of_lt (by omega)) nin0))
    have f188 := ((q7_2.ext E8).keep K9 (ninS (Nat.ne_of_lt (by omega)) nin0))
    refine ginfo fun _ _ O184 => ?_
    refine gcallF (xi := mn553) (y := mn94) hx (ow hw 204 rfl) (ow hw 205 rfl) (fun _ _ hU => mvT hU (ow hw 206 rfl)) (ow hw 207 rfl) (ow hw 208 rfl) (ow hw 209 rfl) (ow hw 210 rfl) (ow hw 69 rfl) (by decide) (fun hZ H hEL => Pay.of_met (W := 0) (own_add0 l Z a0 cx [] (b6) (r2) ((0 : Int32)) (dz) (el) (ee) (em) (mr) (kd) (ke) vm9 h9 O184 f185 f186 f187 n6 (((((((q2_1.1.keep K3).keep K4).keep K5).ext E6).keep K7).ext E8).keep K9) f188 (by first | assumption | decide | omega)) (ow hw 211 rfl) (ow hw 36 rfl) (by decide) (by decide) hZ H hEL) 63 (argsL := [(.ref r2)]) (rest := []) f185 (lenOf own_pd552 rfl) rfl rfl (Nat.le_of_eq rfl) (by rw [hml]; rfl) (hb hby at_58) rfl (by decide) (by decide) ?_
    rintro _ vm184 h184 C184 ⟨d184, kc184, rfl, K184, q184_0, q184_1, q184_2, q184_3, q184_4, q184_5, q184_6, q184_7⟩
    have z184 := C184.2.1
    have lt_d184 : h184.size > d184 := q184_2.lt
    refine gat (mkF m 63 #[vi x0, vi x1, vi x2, vi x3, vi x4, vi (3 : Int32), vr r2, vr r3, vr r4, vr r5, vr b6, vr b8, un, un, un, un, un, un] [(.int (1 : Int32))]) rfl ?_
    refine uP 64 hx hby at_63 rfl rfl ?_
    refine uA 66 hx hby at_64 rfl rfl rfl ?_
    refine uA 68 hx hby at_66 rfl rfl rfl ?_
    have f190 := ((A8.keep K9).keep K184)
    have f191 := (q9_0.keep K184 (ninS (Nat.ne_of_gt (by omega)) nin0))
    have f192 := (q9_1.keep K184 (ninS (Nat.ne_of_gt (by omega)) nin0))
    have f193 := (q9_2.keep K184 (ninS (Nat.ne_of_gt (by omega)) nin0))
    refine ginfo fun _ _ O189 => ?_
    refine gcallF (xi := mn553) (y := mn94) hx (ow hw 204 rfl) (ow hw 205 rfl) (fun _ _ hU => mvT hU (ow hw 206 rfl)) (ow hw 207 rfl) (ow hw 208 rfl) (ow hw 209 rfl) (ow hw 210 rfl) (ow hw 69 rfl) (by decide) (fun hZ H hEL => Pay.of_met (W := 0) (own_add0 l Z a0 cx [] (b8) (r5) ((0 : Int32)) (dz) (el) (ee) (em) (mr) (kd) (ke) vm184 h184 O189 f190 f191 f192 n8 (((((q5_1.1.ext E6).keep K7).ext E8).keep K9).keep K184) f193 (by first | assumption | decide | omega)) (ow hw 211 rfl) (ow hw 36 rfl) (by decide) (by decide) hZ H hEL) 73 (argsL := [(.ref r5)]) (rest := []) f190 (lenOf own_pd552 rfl) rfl rfl (Nat.le_of_eq rfl) (by rw [hml]; rfl) (hb hby at_68) rfl (by decide) (by decide) ?_
    rintro _ vm189 h189 C189 ⟨d189, kc189, rfl, K189, q189_0, q189_1, q189_2, q189_3, q189_4, q189_5, q189_6, q189_7⟩
    have z189 := C189.2.1
    have lt_d189 : h189.size > d189 := q189_2.lt
    refine gat (mkF m 73 #[vi x0, vi x1, vi x2, vi x3, vi x4, vi (3 : Int32), vr r2, vr r3, vr r4, vr r5, vr b6, vr b8, un, un, un, un, un, un] [(.int (1 : Int32))]) rfl ?_
    refine uP 74 hx hby at_73 rfl rfl ?_
    refine uI 76 hx hby at_74 rfl rfl ?_
    refine gs (mkF m 77 #[vi x0, vi x1, vi x2, vi x3, vi x4, vi (3 : Int32), vr r2, vr r3, vr r4, vr r5, vr b6, vr b8, un, un, un, un, un, un] [(.int (2 : Int32)), (.int (3 : Int32))]) (fun _ _ A kq => XS.iconst A hx rfl (hb hby at_76) kq) ?_
    refine gs (mkF m 80 #[vi x0, vi x1, vi x2, vi x3, vi x4, vi (3 : Int32), vr r2, vr r3, vr r4, vr r5, vr b6, vr b8, un, un, un, un, un, un] []) (fun _ _ A kq => XS.icmpNo A hx rfl (hb hby at_77) rfl (flt (by decide)).1 kq) ?_
    refine uA 82 hx hby at_80 rfl rfl rfl ?_
    refine uA 84 hx hby at_82 rfl rfl rfl ?_
    have f195 := ((f185.keep K184).keep K189)
    have f196 := (q184_0.keep K189 (ninS (Nat.ne_of_lt (by omega)) nin0))
    have f197 := (q184_1.keep K189 (ninS (Nat.ne_of_lt (by omega)) nin0))
    have f198 := (q184_2.keep K189 (ninS (Nat.ne_of_gt (by omega)) nin0))
    have f199 := (q184_5.keep K189)
    have f200 := (q184_7.keep K189 (ninS (Nat.ne_of_lt (by omega)) nin0))
    refine ginfo fun _ _ O194 => ?_
    refine gcallF (xi := mn553) (y := mn94) hx (ow hw 204 rfl) (ow hw 205 rfl) (fun _ _ hU => mvT hU (ow hw 206 rfl)) (ow hw 207 rfl) (ow hw 208 rfl) (ow hw 209 rfl) (ow hw 210 rfl) (ow hw 69 rfl) (by decide) (fun hZ H hEL => Pay.of_met (W := 0) (own_add1 l Z a0 cx [] (b6) (r3) (d184) (kc184) (r2) (((0 : Int32) + (1 : Int32))) (dz) (el) (ee) (em) (mr) (kd) (ke) vm189 h189 O194 f195 f196 f197 f198 f199 (by first | assumption | decide | omega) n6 ((((((((q3_1.1.keep K4).keep K5).ext E6).keep K7).ext E8).keep K9).keep K184).keep K189) q184_4 f200 (by first | assumption | decide | omega)) (ow hw 211 rfl) (ow hw 36 rfl) (by decide) (by decide) hZ H hEL) 89 (argsL := [(.ref r3)]) (rest := []) f195 (lenOf own_pd552 rfl) rfl rfl (Nat.le_of_eq rfl) (by rw [hml]; rfl) (hb hby at_84) rfl (by decide) (by decide) ?_
    rintro _ vm194 h194 C194 ⟨rfl, K194, q194_0, q194_1, q194_2, q194_3⟩
    have z194 := C194.2.1
    refine gat (mkF m 89 #[vi x0, vi x1, vi x2, vi x3, vi x4, vi (3 : Int32), vr r2, vr r3, vr r4, vr r5, vr b6, vr b8, un, un, un, un, un, un] [(.int (1 : Int32))]) rfl ?_
    refine uP 90 hx hby at_89 rfl rfl ?_
    refine uA 92 hx hby at_90 rfl rfl rfl ?_
    refine uA 94 hx hby at_92 rfl rfl rfl ?_
    have f202 := ((f190.keep K189).keep K194)
    have f203 := (q189_0.keep K194 (ninS (Nat.ne_of_gt (by omega)) (ninS (Nat.ne_of_lt (by omega)) nin0)))
    have f204 := (q189_1.keep K194 (ninS (Nat.ne_of_gt (by omega)) (ninS (Nat.ne_of_lt (by omega)) nin0)))
    have f205 := (q189_2.keep K194 (ninS (Nat.ne_of_gt (by omega)) (ninS (Nat.ne_of_gt (by omega)) nin0)))
    have f206 := (q189_5.keep K194)
    have f207 := (q189_7.keep K194 (ninS (Nat.ne_of_gt (by omega)) (ninS (Nat.ne_of_lt (by omega)) nin0)))
    refine ginfo fun _ _ O201 => ?_
    refine gcallF (xi := mn553) (y := mn94) hx (ow hw 204 rfl) (ow hw 205 rfl) (fun _ _ hU => mvT hU (ow hw 206 rfl)) (ow hw 207 rfl) (ow hw 208 rfl) (ow hw 209 rfl) (ow hw 210 rfl) (ow hw 69 rfl) (by decide) (fun hZ H hEL => Pay.of_met (W := 0) (own_add1 l Z a0 cx [] (b8) (r5) (d189) (kc189) (r5) (((0 : Int32) + (1 : Int32))) (dz) (el) (ee) (em) (mr) (kd) (ke) vm194 h194 O201 f202 f203 f204 f205 f206 (by first | assumption | decide | omega) n8 (((((((q5_1.1.ext E6).keep K7).ext E8).keep K9).keep K184).keep K189).keep K194) q189_4 f207 (by first | assumption | decide | omega)) (ow hw 211 rfl) (ow hw 36 rfl) (by decide) (by decide) hZ H hEL) 99 (argsL := [(.ref r5)]) (rest := []) f202 (lenOf own_pd552 rfl) rfl rfl (Nat.le_of_eq rfl) (by rw [hml]; rfl) (hb hby at_94) rfl (by decide) (by decide) ?_
    rintro _ vm201 h201 C201 ⟨rfl, K201, q201_0, q201_1, q201_2, q201_3⟩
    have z201 := C201.2.1
    refine gat (mkF m 99 #[vi x0, vi x1, vi x2, vi x3, vi x4, vi (3 : Int32), vr r2, vr r3, vr r4, vr r5, vr b6, vr b8, un, un, un, un, un, un] [(.int (1 : Int32))]) rfl ?_
    refine uP 100 hx hby at_99 rfl rfl ?_
    refine uI 102 hx hby at_100 rfl rfl ?_
    refine gs (mkF m 103 #[vi x0, vi x1, vi x2, vi x3, vi x4, vi (3 : Int32), vr r2, vr r3, vr r4, vr r5, vr b6, vr b8, un, un, un, un, un, un] [(.int (3 : Int32)), (.int (3 : Int32))]) (fun _ _ A kq => XS.iconst A hx rfl (hb hby at_102) kq) ?_
    refine gs (mkF m 106 #[vi x0, vi x1, vi x2, vi x3, vi x4, vi (3 : Int32), vr r2, vr r3, vr r4, vr r5, vr b6, vr b8, un, un, un, un, un, un] []) (fun _ _ A kq => XS.icmpNo A hx rfl (hb hby at_103) rfl (flt (by decide)).1 kq) ?_
    refine uA 108 hx hby at_106 rfl rfl rfl ?_
    refine uA 110 hx hby at_108 rfl rfl rfl ?_
    have f209 := ((f195.keep K194).keep K201)
    have f210 := (q194_0.keep K201 (ninS (Nat.ne_of_lt (by omega)) (ninS (Nat.ne_of_lt (by omega)) nin0)))
    have f211 := (q194_1.keep K201 (ninS (Nat.ne_of_lt (by omega)) (ninS (Nat.ne_of_lt (by omega)) nin0)))
    have f212 := (q194_2.keep K201 (ninS (Nat.ne_of_gt (by omega)) (ninS (Nat.ne_of_lt (by omega)) nin0)))
    have f213 := ((f199.keep K194).keep K201)
    have f214 := (q194_3.keep K201 (ninS (Nat.ne_of_lt (by omega)) (ninS (Nat.ne_of_lt (by omega)) nin0)))
    refine ginfo fun _ _ O208 => ?_
    refine gcallF (xi := mn553) (y := mn94) hx (ow hw 204 rfl) (ow hw 205 rfl) (fun _ _ hU => mvT hU (ow hw 206 rfl)) (ow hw 207 rfl) (ow hw 208 rfl) (ow hw 209 rfl) (ow hw 210 rfl) (ow hw 69 rfl) (by decide) (fun hZ H hEL => Pay.of_met (W := 0) (own_add2 l Z a0 cx [] (b6) (r4) (d184) (kc184) (r2) (r3) ((((0 : Int32) + (1 : Int32)) + (1 : Int32))) (dz) (el) (ee) (em) (mr) (kd) (ke) vm201 h201 O208 f209 f210 f211 f212 f213 (by first | assumption | decide | omega) n6 (((((((((q4_1.1.keep K5).ext E6).keep K7).ext E8).keep K9).keep K184).keep K189).keep K194).keep K201) q184_4 f214 (by first | assumption | decide | omega)) (ow hw 211 rfl) (ow hw 36 rfl) (by decide) (by decide) hZ H hEL) 115 (argsL := [(.ref r4)]) (rest := []) f209 (lenOf own_pd552 rfl) rfl rfl (Nat.le_of_eq rfl) (by rw [hml]; rfl) (hb hby at_110) rfl (by decide) (by decide) ?_
    rintro _ vm208 h208 C208 ⟨rfl, K208, q208_0, q208_1, q208_2, q208_3⟩
    have z208 := C208.2.1
    refine gat (mkF m 115 #[vi x0, vi x1, vi x2, vi x3, vi x4, vi (3 : Int32), vr r2, vr r3, vr r4, vr r5, vr b6, vr b8, un, un, un, un, un, un] [(.int (1 : Int32))]) rfl ?_
    refine uP 116 hx hby at_115 rfl rfl ?_
    refine uA 118 hx hby at_116 rfl rfl rfl ?_
    refine uA 120 hx hby at_118 rfl rfl rfl ?_
    have f216 := ((f202.keep K201).keep K208)
    have f217 := (q201_0.keep K208 (ninS (Nat.ne_of_gt (by omega)) (ninS (Nat.ne_of_lt (by omega)) nin0)))
    have f218 := (q201_1.keep K208 (ninS (Nat.ne_of_gt (by omega)) (ninS (Nat.ne_of_lt (by omega)) nin0)))
    have f219 := (q201_2.keep K208 (ninS (Nat.ne_of_gt (by omega)) (ninS (Nat.ne_of_gt (by omega)) nin0)))
    have f220 := ((f206.keep K201).keep K208)
    have f221 := (q201_3.keep K208 (ninS (Nat.ne_of_gt (by omega)) (ninS (Nat.ne_of_lt (by omega)) nin0)))
    refine ginfo fun _ _ O215 => ?_
    refine gcallF (xi := mn553) (y := mn94) hx (ow hw 204 rfl) (ow hw 205 rfl) (fun _ _ hU => mvT hU (ow hw 206 rfl)) (ow hw 207 rfl) (ow hw 208 rfl) (ow hw 209 rfl) (ow hw 210 rfl) (ow hw 69 rfl) (by decide) (fun hZ H hEL => Pay.of_met (W := 0) (own_add2 l Z a0 cx [] (b8) (r5) (d189) (kc189) (r5) (r5) ((((0 : Int32) + (1 : Int32)) + (1 : Int32))) (dz) (el) (ee) (em) (mr) (kd) (ke) vm208 h208 O215 f216 f217 f218 f219 f220 (by first | assumption | decide | omega) n8 (((((((((q5_1.1.ext E6).keep K7).ext E8).keep K9).keep K184).keep K189).keep K194).keep K201).keep K208) q189_4 f221 (by first | assumption | decide | omega)) (ow hw 211 rfl) (ow hw 36 rfl) (by decide) (by decide) hZ H hEL) 125 (argsL := [(.ref r5)]) (rest := []) f216 (lenOf own_pd552 rfl) rfl rfl (Nat.le_of_eq rfl) (by rw [hml]; rfl) (hb hby at_120) rfl (by decide) (by decide) ?_
    rintro _ vm215 h215 C215 ⟨rfl, K215, q215_0, q215_1, q215_2, q215_3⟩
    have z215 := C215.2.1
    refine gat (mkF m 125 #[vi x0, vi x1, vi x2, vi x3, vi x4, vi (3 : Int32), vr r2, vr r3, vr r4, vr r5, vr b6, vr b8, un, un, un, un, un, un] [(.int (1 : Int32))]) rfl ?_
    refine uP 126 hx hby at_125 rfl rfl ?_
    refine uA 128 hx hby at_126 rfl rfl rfl ?_
    refine uA 130 hx hby at_128 rfl rfl rfl ?_
    have f223 := ((f209.keep K208).keep K215)
    have f224 := (q208_0.keep K215 (ninS (Nat.ne_of_lt (by omega)) (ninS (Nat.ne_of_lt (by omega)) nin0)))
    have f225 := (q208_1.keep K215 (ninS (Nat.ne_of_lt (by omega)) (ninS (Nat.ne_of_lt (by omega)) nin0)))
    have f226 := (q208_2.keep K215 (ninS (Nat.ne_of_gt (by omega)) (ninS (Nat.ne_of_lt (by omega)) nin0)))
    have f227 := ((f213.keep K208).keep K215)
    refine ginfo fun _ _ O222 => ?_
    refine gcallS (y := mn491) hx (ow hw 58 rfl) (ow hw 59 rfl) (ow hw 60 rfl) (ow hw 61 rfl) (by decide) (fun hZ H hEL => Pay.of_met (W := 0) (own_rel1_3 l Z a0 cx [] (b6) (r5) (d184) (kc184) (r2) (r3) (r4) (dz) (el) (ee) (em) (mr) (kd) (ke) vm215 h215 O222 f223 f224 f225 f226 f227 (by first | assumption | decide | omega) (((((((((((((q2_1.1.keep K3).keep K4).keep K5).ext E6).keep K7).ext E8).keep K9).keep K184).keep K189).keep K194).keep K201).keep K208).keep K215) ((((((((((((q3_1.1.keep K4).keep K5).ext E6).keep K7).ext E8).keep K9).keep K184).keep K189).keep K194).keep K201).keep K208).keep K215) (((((((((((q4_1.1.keep K5).ext E6).keep K7).ext E8).keep K9).keep K184).keep K189).keep K194).keep K201).keep K208).keep K215) ((((((((((q5_1.1.ext E6).keep K7).ext E8).keep K9).keep K184).keep K189).keep K194).keep K201).keep K208).keep K215) (by first | assumption | decide | omega)) (ow hw 61 rfl) (ow hw 60 rfl) (by decide) (by decide) hZ H hEL) 133 (argsL := [(.ref b6), (.ref r5)]) (rest := []) (lenOf own_pd549 rfl) rfl rfl (Nat.le_of_eq rfl) (by rw [hml]; rfl) (hb hby at_130) rfl (by decide) (by decide) ?_
    rintro _ vm222 h222 C222 ⟨r222, sb222, tb222, r1222, g1222, kg1222, r2222, g2222, kg2222, rfl, K222, q222_0, q222_1, q222_2, q222_3, q222_4, q222_5, q222_6, q222_7, q222_8, q222_9, q222_10, q222_11⟩
    have z222 := C222.2.1
    have lt_r222 : h222.size > r222 := q222_0.lt
    have lt_sb222 : h222.size > sb222 := q222_1.1.lt
    have lt_tb222 : h222.size > tb222 := q222_1.tlt
    have lt_r1222 : h222.size > r1222 := q222_5.lt
    have lt_g1222 : h222.size > g1222 := q222_7.lt
    have lt_r2222 : h222.size > r2222 := q222_8.lt
    have lt_g2222 : h222.size > g2222 := q222_10.lt
    refine gat (mkF m 133 #[vi x0, vi x1, vi x2, vi x3, vi x4, vi (3 : Int32), vr r2, vr r3, vr r4, vr r5, vr b6, vr b8, un, un, un, un, un, un] [(.ref r222)]) rfl ?_
    refine gs (mkF m 135 #[vi x0, vi x1, vi x2, vi x3, vi x4, vi (3 : Int32), vr r2, vr r3, vr r4, vr r5, vr b6, vr b8, vr r222, un, un, un, un, un] []) (fun _ _ A kq => XS.astore A hx rfl (hb hby at_133) rfl rfl (l' := #[vi x0, vi x1, vi x2, vi x3, vi x4, vi (3 : Int32), vr r2, vr r3, vr r4, vr r5, vr b6, vr b8, vr r222, un, un, un, un, un]) rfl kq) ?_
    refine uA 137 hx hby at_135 rfl rfl rfl ?_
    refine uA 139 hx hby at_137 rfl rfl rfl ?_
    have f229 := (f223.keep K222)
    have f230 := (f224.keep K222 nin0)
    have f231 := (f225.keep K222 nin0)
    have f232 := (f226.keep K222 nin0)
    have f233 := (f227.keep K222)
    have f234 := ((f216.keep K215).keep K222)
    have f235 := (q215_0.keep K222 nin0)
    have f236 := (q215_1.keep K222 nin0)
    have f237 := (q215_2.keep K222 nin0)
    have f238 := ((f220.keep K215).keep K222)
    refine ginfo fun _ _ O228 => ?_
    refine gcallS (y := mn479) hx (ow hw 156 rfl) (ow hw 94 rfl) (ow hw 60 rfl) (ow hw 95 rfl) (by decide) (fun hZ H hEL => Pay.of_met (W := 0) (own_relA3 l Z a0 cx [] (sb222) (tb222) (b6) (b8) (r5) (d184) (kc184) (d189) (kc189) (r2) (r3) (r4) (dz) (el) (ee) (em) (mr) (kd) (ke) vm222 h222 O228 q222_1 q222_11 f229 f230 f231 f232 f233 (by first | assumption | decide | omega) ((((((((((((((q2_1.1.keep K3).keep K4).keep K5).ext E6).keep K7).ext E8).keep K9).keep K184).keep K189).keep K194).keep K201).keep K208).keep K215).keep K222) (((((((((((((q3_1.1.keep K4).keep K5).ext E6).keep K7).ext E8).keep K9).keep K184).keep K189).keep K194).keep K201).keep K208).keep K215).keep K222) ((((((((((((q4_1.1.keep K5).ext E6).keep K7).ext E8).keep K9).keep K184).keep K189).keep K194).keep K201).keep K208).keep K215).keep K222) f234 f235 f236 f237 f238 (by first | assumption | decide | omega) (((((((((((q5_1.1.ext E6).keep K7).ext E8).keep K9).keep K184).keep K189).keep K194).keep K201).keep K208).keep K215).keep K222) (by first | assumption | decide | omega)) (ow hw 95 rfl) (ow hw 60 rfl) (by decide) (by decide) hZ H hEL) 142 (argsL := [(.ref b6), (.ref b8)]) (rest := []) (lenOf own_pd489 rfl) rfl rfl (Nat.le_of_eq rfl) (by rw [hml]; rfl) (hb hby at_139) rfl (by decide) (by decide) ?_
    rintro _ vm228 h228 C228 ⟨r228, r1228, g1228, kg1228, r2228, g2228, kg2228, rfl, K228, q228_0, q228_1, q228_2, q228_3, q228_4, q228_5, q228_6, q228_7, q228_8, q228_9⟩
    have z228 := C228.2.1
    have lt_r228 : h228.size > r228 := q228_0.lt
    have lt_r1228 : h228.size > r1228 := q228_4.lt
    have lt_g1228 : h228.size > g1228 := q228_6.lt
    have lt_r2228 : h228.size > r2228 := q228_7.lt
    have lt_g2228 : h228.size > g2228 := q228_9.lt
    refine gat (mkF m 142 #[vi x0, vi x1, vi x2, vi x3, vi x4, vi (3 : Int32), vr r2, vr r3, vr r4, vr r5, vr b6, vr b8, vr r222, un, un, un, un, un] [(.ref r228)]) rfl ?_
    refine gs (mkF m 144 #[vi x0, vi x1, vi x2, vi x3, vi x4, vi (3 : Int32), vr r2, vr r3, vr r4, vr r5, vr b6, vr b8, vr r222, vr r228, un, un, un, un] []) (fun _ _ A kq => XS.astore A hx rfl (hb hby at_142) rfl rfl (l' := #[vi x0, vi x1, vi x2, vi x3, vi x4, vi (3 : Int32), vr r2, vr r3, vr r4, vr r5, vr b6, vr b8, vr r222, vr r228, un, un, un, un]) rfl kq) ?_
    refine uA 146 hx hby at_144 rfl rfl rfl ?_
    have f240 := (f229.keep K228)
    have f241 := (f230.keep K228 nin0)
    have f242 := (f231.keep K228 nin0)
    have f243 := (f232.keep K228 nin0)
    have f244 := (f233.keep K228)
    refine ginfo fun _ _ O239 => ?_
    refine gcallS (y := mn499) hx (ow hw 157 rfl) (ow hw 158 rfl) (ow hw 60 rfl) (ow hw 159 rfl) (by decide) (fun hZ H hEL => Pay.of_met (W := 0) (own_exi3 l Z a0 cx [] (b6) (d184) (kc184) (r2) (r3) (r4) (dz) (el) (ee) (em) (mr) (kd) (ke) vm228 h228 O239 f240 f241 f242 f243 f244 (by first | assumption | decide | omega) (((((((((((((((q2_1.1.keep K3).keep K4).keep K5).ext E6).keep K7).ext E8).keep K9).keep K184).keep K189).keep K194).keep K201).keep K208).keep K215).keep K222).keep K228) ((((((((((((((q3_1.1.keep K4).keep K5).ext E6).keep K7).ext E8).keep K9).keep K184).keep K189).keep K194).keep K201).keep K208).keep K215).keep K222).keep K228) (((((((((((((q4_1.1.keep K5).ext E6).keep K7).ext E8).keep K9).keep K184).keep K189).keep K194).keep K201).keep K208).keep K215).keep K222).keep K228) (by first | assumption | decide | omega)) (ow hw 159 rfl) (ow hw 60 rfl) (by decide) (by decide) hZ H hEL) 149 (argsL := [(.ref b6)]) (rest := []) (lenOf own_pd550 rfl) rfl rfl (Nat.le_of_eq rfl) (by rw [hml]; rfl) (hb hby at_146) rfl (by decide) (by decide) ?_
    rintro _ vm239 h239 C239 ⟨r239, sb239, tb239, r1239, g1239, kg1239, rfl, K239, q239_0, q239_1, q239_2, q239_3, q239_4, q239_5, q239_6, q239_7⟩
    have z239 := C239.2.1
    have lt_r239 : h239.size > r239 := q239_0.lt
    have lt_sb239 : h239.size > sb239 := q239_1.1.lt
    have lt_tb239 : h239.size > tb239 := q239_1.tlt
    have lt_r1239 : h239.size > r1239 := q239_5.lt
    have lt_g1239 : h239.size > g1239 := q239_7.lt
    refine gat (mkF m 149 #[vi x0, vi x1, vi x2, vi x3, vi x4, vi (3 : Int32), vr r2, vr r3, vr r4, vr r5, vr b6, vr b8, vr r222, vr r228, un, un, un, un] [(.ref r239)]) rfl ?_
    refine gs (mkF m 151 #[vi x0, vi x1, vi x2, vi x3, vi x4, vi (3 : Int32), vr r2, vr r3, vr r4, vr r5, vr b6, vr b8, vr r222, vr r228, vr r239, un, un, un] []) (fun _ _ A kq => XS.astore A hx rfl (hb hby at_149) rfl rfl (l' := #[vi x0, vi x1, vi x2, vi x3, vi x4, vi (3 : Int32), vr r2, vr r3, vr r4, vr r5, vr b6, vr b8, vr r222, vr r228, vr r239, un, un, un]) rfl kq) ?_
    refine uA 153 hx hby at_151 rfl rfl rfl ?_
    have f246 := ((q222_2.keep K228 nin0).keep K239 nin0)
    refine ginfo fun _ _ O245 => ?_
    have f247 := ((q222_0.keep K228).keep K239)
    refine gcallV (y := mn396) (z := mn396) hx (ow hw 170 rfl) (ow hw 171 rfl) (nfSel (ow hw 173 rfl)) (ow hw 173 rfl) (ow hw 172 rfl) (by decide) (fun hZ H hEL => Pay.of_met (W := 0) (own_scsource l Z a0 cx [] (r222) (sb222) vm239 h239 O245 f246) (ow hw 174 rfl) (ow hw 98 rfl) (by decide) (by decide) hZ H hEL) 156 (argsL := []) (rest := []) f247 (lenOf own_pd551 rfl) rfl rfl (Nat.le_of_eq rfl) (by rw [hml]; rfl) (hb hby at_153) rfl (by decide) (by decide) ?_
    rintro _ vm245 h245 C245 ⟨rfl, rfl⟩
    have z245 := C245.2.1
    refine gat (mkF m 156 #[vi x0, vi x1, vi x2, vi x3, vi x4, vi (3 : Int32), vr r2, vr r3, vr r4, vr r5, vr b6, vr b8, vr r222, vr r228, vr r239, un, un, un] [(.ref sb222)]) rfl ?_
    refine uA 158 hx hby at_156 rfl rfl rfl ?_
    have f249 := (q228_1.keep K239 nin0)
    refine ginfo fun _ _ O248 => ?_
    have f250 := (q228_0.keep K239)
    refine gcallV (y := mn396) (z := mn396) hx (ow hw 170 rfl) (ow hw 171 rfl) (nfSel (ow hw 173 rfl)) (ow hw 173 rfl) (ow hw 172 rfl) (by decide) (fun hZ H hEL => Pay.of_met (W := 1) (own_scsource l Z a0 cx [] (r228) (sb222) vm245 h239 O248 f249) (ow hw 174 rfl) (ow hw 98 rfl) (by decide) (by decide) hZ H hEL) 161 (argsL := []) (rest := [(.ref sb222)]) f250 (lenOf own_pd551 rfl) rfl rfl (Nat.le_of_eq rfl) (by rw [hml]; rfl) (hb hby at_158) rfl (by decide) (by decide) ?_
    rintro _ vm248 h248 C248 ⟨rfl, rfl⟩
    have z248 := C248.2.1
    refine gat (mkF m 161 #[vi x0, vi x1, vi x2, vi x3, vi x4, vi (3 : Int32), vr r2, vr r3, vr r4, vr r5, vr b6, vr b8, vr r222, vr r228, vr r239, un, un, un] [(.ref sb222), (.ref sb222)]) rfl ?_
    refine ginfo fun _ _ O251 => ?_
    refine gcallV (y := mn327) (z := mn327) hx (ow hw 175 rfl) (ow hw 176 rfl) (nfSel (ow hw 178 rfl)) (ow hw 178 rfl) (ow hw 177 rfl) (by decide) (fun hZ H hEL => Pay.of_met (W := 0) (own_eqSame l Z a0 cx [] (sb222) vm248 h239 O251 ) (ow hw 179 rfl) (ow hw 7 rfl) (by decide) (by decide) hZ H hEL) 164 (argsL := [(.ref sb222)]) (rest := []) ((q222_1.1.keep K228).keep K239) (lenOf own_pd552 rfl) rfl rfl (Nat.le_of_eq rfl) (by rw [hml]; rfl) (hb hby at_161) rfl (by decide) (by decide) ?_
    rintro _ vm251 h251 C251 ⟨rfl, rfl⟩
    have z251 := C251.2.1
    refine gat (mkF m 164 #[vi x0, vi x1, vi x2, vi x3, vi x4, vi (3 : Int32), vr r2, vr r3, vr r4, vr r5, vr b6, vr b8, vr r222, vr r228, vr r239, un, un, un] [(.int (1 : Int32))]) rfl ?_
    refine gs (mkF m 169 #[vi x0, vi x1, vi x2, vi x3, vi x4, vi (3 : Int32), vr r2, vr r3, vr r4, vr r5, vr b6, vr b8, vr r222, vr r228, vr r239, un, un, un] []) (fun _ _ A kq => XS.ifYes A hx rfl (pc0 := 164) (pc' := 169) rfl (hb hby at_164) rfl ((if0 _ _).trans (feq (by decide)).2) (by decide) (by decide) kq) ?_
    refine uA 171 hx hby at_169 rfl rfl rfl ?_
    refine ginfo fun _ _ O252 => ?_
    refine gcallV (y := mn396) (z := mn396) hx (ow hw 170 rfl) (ow hw 171 rfl) (nfSel (ow hw 173 rfl)) (ow hw 173 rfl) (ow hw 172 rfl) (by decide) (fun hZ H hEL => Pay.of_met (W := 0) (own_scsource l Z a0 cx [] (r222) (sb222) vm251 h239 O252 f246) (ow hw 174 rfl) (ow hw 98 rfl) (by decide) (by decide) hZ H hEL) 174 (argsL := []) (rest := []) f247 (lenOf own_pd551 rfl) rfl rfl (Nat.le_of_eq rfl) (by rw [hml]; rfl) (hb hby at_171) rfl (by decide) (by decide) ?_
    rintro _ vm252 h252 C252 ⟨rfl, rfl⟩
    have z252 := C252.2.1
    refine gat (mkF m 174 #[vi x0, vi x1, vi x2, vi x3, vi x4, vi (3 : Int32), vr r2, vr r3, vr r4, vr r5, vr b6, vr b8, vr r222, vr r228, vr r239, un, un, un] [(.ref sb222)]) rfl ?_
    refine uA 176 hx hby at_174 rfl rfl rfl ?_
    refine ginfo fun _ _ O253 => ?_
    refine gcallV (y := mn396) (z := mn396) hx (ow hw 170 rfl) (ow hw 171 rfl) (nfSel (ow hw 173 rfl)) (ow hw 173 rfl) (ow hw 172 rfl) (by decide) (fun hZ H hEL => Pay.of_met (W := 1) (own_scsource l Z a0 cx [] (r239) (sb239) vm252 h239 O253 q239_2) (ow hw 174 rfl) (ow hw 98 rfl) (by decide) (by decide) hZ H hEL) 179 (argsL := []) (rest := [(.ref sb222)]) q239_0 (lenOf own_pd551 rfl) rfl rfl (Nat.le_of_eq rfl) (by rw [hml]; rfl) (hb hby at_176) rfl (by decide) (by decide) ?_
    rintro _ vm253 h253 C253 ⟨rfl, rfl⟩
    have z253 := C253.2.1
    refine gat (mkF m 179 #[vi x0, vi x1, vi x2, vi x3, vi x4, vi (3 : Int32), vr r2, vr r3, vr r4, vr r5, vr b6, vr b8, vr r222, vr r228, vr r239, un, un, un] [(.ref sb239), (.ref sb222)]) rfl ?_
    have f255 := ((q222_1.keep K228 nin0 nin0).keep K239 nin0 nin0)
    refine ginfo fun _ _ O254 => ?_
    refine gcallV (y := mn327) (z := mn327) hx (ow hw 175 rfl) (ow hw 176 rfl) (nfSel (ow hw 178 rfl)) (ow hw 178 rfl) (ow hw 177 rfl) (by decide) (fun hZ H hEL => Pay.of_met (W := 0) (own_eqDiff l Z a0 cx [] (sb222) (sb239) (tb222) (tb239) vm253 h239 O254 f255 q239_1) (ow hw 179 rfl) (ow hw 7 rfl) (by decide) (by decide) hZ H hEL) 182 (argsL := [(.ref sb239)]) (rest := []) f255.1 (lenOf own_pd552 rfl) rfl rfl (Nat.le_of_eq rfl) (by rw [hml]; rfl) (hb hby at_179) rfl (by decide) (by decide) ?_
    rintro _ vm254 h254 C254 ⟨rfl, rfl⟩
    have z254 := C254.2.1
    refine gat (mkF m 182 #[vi x0, vi x1, vi x2, vi x3, vi x4, vi (3 : Int32), vr r2, vr r3, vr r4, vr r5, vr b6, vr b8, vr r222, vr r228, vr r239, un, un, un] [(.int (0 : Int32))]) rfl ?_
    refine gs (mkF m 187 #[vi x0, vi x1, vi x2, vi x3, vi x4, vi (3 : Int32), vr r2, vr r3, vr r4, vr r5, vr b6, vr b8, vr r222, vr r228, vr r239, un, un, un] []) (fun _ _ A kq => XS.ifYes A hx rfl (pc0 := 182) (pc' := 187) rfl (hb hby at_182) rfl ((if0 _ _).trans (teq (by decide)).1) (by decide) (by decide) kq) ?_
    refine uA 189 hx hby at_187 rfl rfl rfl ?_
    have f257 := ((q222_3.keep K228 nin0).keep K239 nin0)
    refine ginfo fun _ _ O256 => ?_
    refine gcallV (y := mn401) (z := mn401) hx (ow hw 185 rfl) (ow hw 186 rfl) (nfSel (ow hw 188 rfl)) (ow hw 188 rfl) (ow hw 187 rfl) (by decide) (fun hZ H hEL => Pay.of_met (W := 0) (own_sckeys l Z a0 cx [] (r222) (r1222) vm254 h239 O256 f257) (ow hw 189 rfl) (ow hw 98 rfl) (by decide) (by decide) hZ H hEL) 192 (argsL := []) (rest := []) f247 (lenOf own_pd273 rfl) rfl rfl (Nat.le_of_eq rfl) (by rw [hml]; rfl) (hb hby at_189) rfl (by decide) (by decide) ?_
    rintro _ vm256 h256 C256 ⟨rfl, rfl⟩
    have z256 := C256.2.1
    refine gat (mkF m 192 #[vi x0, vi x1, vi x2, vi x3, vi x4, vi (3 : Int32), vr r2, vr r3, vr r4, vr r5, vr b6, vr b8, vr r222, vr r228, vr r239, un, un, un] [(.ref r1222)]) rfl ?_
    refine gs (mkF m 194 #[vi x0, vi x1, vi x2, vi x3, vi x4, vi (3 : Int32), vr r2, vr r3, vr r4, vr r5, vr b6, vr b8, vr r222, vr r228, vr r239, vr r1222, un, un] []) (fun _ _ A kq => XS.astore A hx rfl (hb hby at_192) rfl rfl (l' := #[vi x0, vi x1, vi x2, vi x3, vi x4, vi (3 : Int32), vr r2, vr r3, vr r4, vr r5, vr b6, vr b8, vr r222, vr r228, vr r239, vr r1222, un, un]) rfl kq) ?_
    refine uA 196 hx hby at_194 rfl rfl rfl ?_
    have f259 := ((q222_4.keep K228 nin0).keep K239 nin0)
    refine ginfo fun _ _ O258 => ?_
    refine gcallV (y := mn405) (z := mn405) hx (ow hw 190 rfl) (ow hw 191 rfl) (nfSel (ow hw 193 rfl)) (ow hw 193 rfl) (ow hw 192 rfl) (by decide) (fun hZ H hEL => Pay.of_met (W := 0) (own_scargs l Z a0 cx [] (r222) (r2222) vm256 h239 O258 f259) (ow hw 194 rfl) (ow hw 98 rfl) (by decide) (by decide) hZ H hEL) 199 (argsL := []) (rest := []) f247 (lenOf own_pd273 rfl) rfl rfl (Nat.le_of_eq rfl) (by rw [hml]; rfl) (hb hby at_196) rfl (by decide) (by decide) ?_
    rintro _ vm258 h258 C258 ⟨rfl, rfl⟩
    have z258 := C258.2.1
    refine gat (mkF m 199 #[vi x0, vi x1, vi x2, vi x3, vi x4, vi (3 : Int32), vr r2, vr r3, vr r4, vr r5, vr b6, vr b8, vr r222, vr r228, vr r239, vr r1222, un, un] [(.ref r2222)]) rfl ?_
    refine gs (mkF m 201 #[vi x0, vi x1, vi x2, vi x3, vi x4, vi (3 : Int32), vr r2, vr r3, vr r4, vr r5, vr b6, vr b8, vr r222, vr r228, vr r239, vr r1222, vr r2222, un] []) (fun _ _ A kq => XS.astore A hx rfl (hb hby at_199) rfl rfl (l' := #[vi x0, vi x1, vi x2, vi x3, vi x4, vi (3 : Int32), vr r2, vr r3, vr r4, vr r5, vr b6, vr b8, vr r222, vr r228, vr r239, vr r1222, vr r2222, un]) rfl kq) ?_
    refine uA 203 hx hby at_201 rfl rfl rfl ?_
    have f261 := ((q222_5.keep K228).keep K239)
    have f262 := ((q222_6.keep K228 nin0).keep K239 nin0)
    have f263 := ((q222_7.keep K228 nin0).keep K239 nin0)
    refine ginfo fun _ _ O260 => ?_
    refine gcallF (xi := mn484) (y := mn285) hx (ow hw 195 rfl) (ow hw 63 rfl) (fun _ _ hU => mvT hU (ow hw 64 rfl)) (ow hw 196 rfl) (ow hw 197 rfl) (ow hw 198 rfl) (ow hw 199 rfl) (ow hw 169 rfl) (by decide) (fun hZ H hEL => Pay.of_met (W := 0) (own_lsize3 l Z a0 cx [] (r1222) (g1222) (kg1222) (r2) (r3) (r4) vm258 h239 O260 f261 f262 f263) (ow hw 201 rfl) (ow hw 200 rfl) (by decide) (by decide) hZ H hEL) 208 (argsL := []) (rest := []) f261 (lenOf own_pd445 rfl) rfl rfl (Nat.le_of_eq rfl) (by rw [hml]; rfl) (hb hby at_203) rfl (by decide) (by decide) ?_
    rintro _ vm260 h260 C260 ⟨rfl, rfl⟩
    have z260 := C260.2.1
    refine gat (mkF m 208 #[vi x0, vi x1, vi x2, vi x3, vi x4, vi (3 : Int32), vr r2, vr r3, vr r4, vr r5, vr b6, vr b8, vr r222, vr r228, vr r239, vr r1222, vr r2222, un] [(.int (3 : Int32))]) rfl ?_
    refine uI 210 hx hby at_208 rfl rfl ?_
    refine gs (mkF m 213 #[vi x0, vi x1, vi x2, vi x3, vi x4, vi (3 : Int32), vr r2, vr r3, vr r4, vr r5, vr b6, vr b8, vr r222, vr r228, vr r239, vr r1222, vr r2222, un] []) (fun _ _ A kq => XS.icmpNo A hx rfl (hb hby at_210) rfl (teq (by decide)).2 kq) ?_
    refine uA 215 hx hby at_213 rfl rfl rfl ?_
    have f265 := ((q222_8.keep K228).keep K239)
    have f266 := ((q222_9.keep K228 nin0).keep K239 nin0)
    have f267 := ((q222_10.keep K228 nin0).keep K239 nin0)
    refine ginfo fun _ _ O264 => ?_
    refine gcallF (xi := mn484) (y := mn285) hx (ow hw 195 rfl) (ow hw 63 rfl) (fun _ _ hU => mvT hU (ow hw 64 rfl)) (ow hw 196 rfl) (ow hw 197 rfl) (ow hw 198 rfl) (ow hw 199 rfl) (ow hw 169 rfl) (by decide) (fun hZ H hEL => Pay.of_met (W := 0) (own_lsize3 l Z a0 cx [] (r2222) (g2222) (kg2222) (r5) (r5) (r5) vm260 h239 O264 f265 f266 f267) (ow hw 201 rfl) (ow hw 200 rfl) (by decide) (by decide) hZ H hEL) 220 (argsL := []) (rest := []) f265 (lenOf own_pd445 rfl) rfl rfl (Nat.le_of_eq rfl) (by rw [hml]; rfl) (hb hby at_215) rfl (by decide) (by decide) ?_
    rintro _ vm264 h264 C264 ⟨rfl, rfl⟩
    have z264 := C264.2.1
    refine gat (mkF m 220 #[vi x0, vi x1, vi x2, vi x3, vi x4, vi (3 : Int32), vr r2, vr r3, vr r4, vr r5, vr b6, vr b8, vr r222, vr r228, vr r239, vr r1222, vr r2222, un] [(.int (3 : Int32))]) rfl ?_
    refine uI 222 hx hby at_220 rfl rfl ?_
    refine gs (mkF m 227 #[vi x0, vi x1, vi x2, vi x3, vi x4, vi (3 : Int32), vr r2, vr r3, vr r4, vr r5, vr b6, vr b8, vr r222, vr r228, vr r239, vr r1222, vr r2222, un] []) (fun _ _ A kq => XS.icmpYes A hx rfl (pc0 := 222) (pc' := 227) rfl (hb hby at_222) rfl (teq (by decide)).1 (by decide) (by decide) kq) ?_
    refine gs (mkF m 228 #[vi x0, vi x1, vi x2, vi x3, vi x4, vi (3 : Int32), vr r2, vr r3, vr r4, vr r5, vr b6, vr b8, vr r222, vr r228, vr r239, vr r1222, vr r2222, un] [(.int (1 : Int32))]) (fun _ _ A kq => XS.iconst A hx rfl (hb hby at_227) kq) ?_
    refine gs (mkF m 230 #[vi x0, vi x1, vi x2, vi x3, vi x4, vi (3 : Int32), vr r2, vr r3, vr r4, vr r5, vr b6, vr b8, vr r222, vr r228, vr r239, vr r1222, vr r2222, vi (1 : Int32)] []) (fun _ _ A kq => XS.istore A hx rfl (hb hby at_228) rfl (l' := #[vi x0, vi x1, vi x2, vi x3, vi x4, vi (3 : Int32), vr r2, vr r3, vr r4, vr r5, vr b6, vr b8, vr r222, vr r228, vr r239, vr r1222, vr r2222, vi (1 : Int32)]) rfl kq) ?_
    refine uI 232 hx hby at_230 rfl rfl ?_
    refine gs (mkF m 233 #[vi x0, vi x1, vi x2, vi x3, vi x4, vi (3 : Int32), vr r2, vr r3, vr r4, vr r5, vr b6, vr b8, vr r222, vr r228, vr r239, vr r1222, vr r2222, vi (1 : Int32)] [(.int (1 : Int32)), (.int (3 : Int32))]) (fun _ _ A kq => XS.iconst A hx rfl (hb hby at_232) kq) ?_
    refine gs (mkF m 236 #[vi x0, vi x1, vi x2, vi x3, vi x4, vi (3 : Int32), vr r2, vr r3, vr r4, vr r5, vr b6, vr b8, vr r222, vr r228, vr r239, vr r1222, vr r2222, vi (1 : Int32)] []) (fun _ _ A kq => XS.icmpNo A hx rfl (hb hby at_233) rfl (flt (by decide)).1 kq) ?_
    refine uI 238 hx hby at_236 rfl rfl ?_
    refine gs (mkF m 241 #[vi x0, vi x1, vi x2, vi x3, vi x4, vi (3 : Int32), vr r2, vr r3, vr r4, vr r5, vr b6, vr b8, vr r222, vr r228, vr r239, vr r1222, vr r2222, vi (1 : Int32)] []) (fun _ _ A kq => XS.ifNo A hx rfl (hb hby at_238) rfl ((if0 _ _).trans (feq (by decide)).1) kq) ?_
    refine uA 243 hx hby at_241 rfl rfl rfl ?_
    refine gs (mkF m 244 #[vi x0, vi x1, vi x2, vi x3, vi x4, vi (3 : Int32), vr r2, vr r3, vr r4, vr r5, vr b6, vr b8, vr r222, vr r228, vr r239, vr r1222, vr r2222, vi (1 : Int32)] [(.int (0 : Int32)), (.ref r1222)]) (fun _ _ A kq => XS.iconst A hx rfl (hb hby at_243) kq) ?_
    refine ginfo fun _ _ O268 => ?_
    refine gcallF (xi := mn555) (y := mn321) hx (ow hw 308 rfl) (ow hw 309 rfl) (fun _ _ hU => mvT hU (ow hw 310 rfl)) (ow hw 311 rfl) (ow hw 312 rfl) (ow hw 313 rfl) (ow hw 314 rfl) (ow hw 169 rfl) (by decide) (fun hZ H hEL => Pay.of_met (W := 0) (own_lget3_0 l Z a0 cx [] (r1222) (g1222) (kg1222) (r2) (r3) (r4) vm264 h239 O268 f261 f262 f263) (ow hw 315 rfl) (ow hw 200 rfl) (by decide) (by decide) hZ H hEL) 249 (argsL := [(.int (0 : Int32))]) (rest := []) f261 (lenOf own_pd554 rfl) rfl rfl (Nat.le_of_eq rfl) (by rw [hml]; rfl) (hb hby at_244) rfl (by decide) (by decide) ?_
    rintro _ vm268 h268 C268 ⟨rfl, rfl⟩
    have z268 := C268.2.1
    refine gat (mkF m 249 #[vi x0, vi x1, vi x2, vi x3, vi x4, vi (3 : Int32), vr r2, vr r3, vr r4, vr r5, vr b6, vr b8, vr r222, vr r228, vr r239, vr r1222, vr r2222, vi (1 : Int32)] [(.ref r2)]) rfl ?_
    refine gcast hx (ow hw 5 rfl) (Ins.self ((((((((((((((((q2_1.1.keep K3).keep K4).keep K5).ext E6).keep K7).ext E8).keep K9).keep K184).keep K189).keep K194).keep K201).keep K208).keep K215).keep K222).keep K228).keep K239)) 252 (hb hby at_249) rfl ?_
    refine uA 254 hx hby at_252 rfl rfl rfl ?_
    refine ginfo fun _ _ O269 => ?_
    refine gcallV (y := mn327) (z := mn327) hx (ow hw 175 rfl) (ow hw 176 rfl) (nfSel (ow hw 178 rfl)) (ow hw 178 rfl) (ow hw 177 rfl) (by decide) (fun hZ H hEL => Pay.of_met (W := 0) (own_eqSame l Z a0 cx [] (r2) vm268 h239 O269 ) (ow hw 179 rfl) (ow hw 7 rfl) (by decide) (by decide) hZ H hEL) 257 (argsL := [(.ref r2)]) (rest := []) ((((((((((((((((q2_1.1.keep K3).keep K4).keep K5).ext E6).keep K7).ext E8).keep K9).keep K184).keep K189).keep K194).keep K201).keep K208).keep K215).keep K222).keep K228).keep K239) (lenOf own_pd552 rfl) rfl rfl (Nat.le_of_eq rfl) (by rw [hml]; rfl) (hb hby at_254) rfl (by decide) (by decide) ?_
    rintro _ vm269 h269 C269 ⟨rfl, rfl⟩
    have z269 := C269.2.1
    refine gat (mkF m 257 #[vi x0, vi x1, vi x2, vi x3, vi x4, vi (3 : Int32), vr r2, vr r3, vr r4, vr r5, vr b6, vr b8, vr r222, vr r228, vr r239, vr r1222, vr r2222, vi (1 : Int32)] [(.int (1 : Int32))]) rfl ?_
    refine gs (mkF m 260 #[vi x0, vi x1, vi x2, vi x3, vi x4, vi (3 : Int32), vr r2, vr r3, vr r4, vr r5, vr b6, vr b8, vr r222, vr r228, vr r239, vr r1222, vr r2222, vi (1 : Int32)] []) (fun _ _ A kq => XS.ifNo A hx rfl (hb hby at_257) rfl ((if0 _ _).trans (feq (by decide)).1) kq) ?_
    refine uA 262 hx hby at_260 rfl rfl rfl ?_
    refine gs (mkF m 263 #[vi x0, vi x1, vi x2, vi x3, vi x4, vi (3 : Int32), vr r2, vr r3, vr r4, vr r5, vr b6, vr b8, vr r222, vr r228, vr r239, vr r1222, vr r2222, vi (1 : Int32)] [(.int (0 : Int32)), (.ref r2222)]) (fun _ _ A kq => XS.iconst A hx rfl (hb hby at_262) kq) ?_
    refine ginfo fun _ _ O270 => ?_
    refine gcallF (xi := mn555) (y := mn321) hx (ow hw 308 rfl) (ow hw 309 rfl) (fun _ _ hU => mvT hU (ow hw 310 rfl)) (ow hw 311 rfl) (ow hw 312 rfl) (ow hw 313 rfl) (ow hw 314 rfl) (ow hw 169 rfl) (by decide) (fun hZ H hEL => Pay.of_met (W := 0) (own_lget3_0 l Z a0 cx [] (r2222) (g2222) (kg2222) (r5) (r5) (r5) vm269 h239 O270 f265 f266 f267) (ow hw 315 rfl) (ow hw 200 rfl) (by decide) (by decide) hZ H hEL) 268 (argsL := [(.int (0 : Int32))]) (rest := []) f265 (lenOf own_pd554 rfl) rfl rfl (Nat.le_of_eq rfl) (by rw [hml]; rfl) (hb hby at_263) rfl (by decide) (by decide) ?_
    rintro _ vm270 h270 C270 ⟨rfl, rfl⟩
    have z270 := C270.2.1
    refine gat (mkF m 268 #[vi x0, vi x1, vi x2, vi x3, vi x4, vi (3 : Int32), vr r2, vr r3, vr r4, vr r5, vr b6, vr b8, vr r222, vr r228, vr r239, vr r1222, vr r2222, vi (1 : Int32)] [(.ref r5)]) rfl ?_
    refine gcast hx (ow hw 5 rfl) (Ins.self (((((((((((((q5_1.1.ext E6).keep K7).ext E8).keep K9).keep K184).keep K189).keep K194).keep K201).keep K208).keep K215).keep K222).keep K228).keep K239)) 271 (hb hby at_268) rfl ?_
    refine uA 273 hx hby at_271 rfl rfl rfl ?_
    refine ginfo fun _ _ O271 => ?_
    refine gcallV (y := mn327) (z := mn327) hx (ow hw 175 rfl) (ow hw 176 rfl) (nfSel (ow hw 178 rfl)) (ow hw 178 rfl) (ow hw 177 rfl) (by decide) (fun hZ H hEL => Pay.of_met (W := 0) (own_eqSame l Z a0 cx [] (r5) vm270 h239 O271 ) (ow hw 179 rfl) (ow hw 7 rfl) (by decide) (by decide) hZ H hEL) 276 (argsL := [(.ref r5)]) (rest := []) (((((((((((((q5_1.1.ext E6).keep K7).ext E8).keep K9).keep K184).keep K189).keep K194).keep K201).keep K208).keep K215).keep K222).keep K228).keep K239) (lenOf own_pd552 rfl) rfl rfl (Nat.le_of_eq rfl) (by rw [hml]; rfl) (hb hby at_273) rfl (by decide) (by decide) ?_
    rintro _ vm271 h271 C271 ⟨rfl, rfl⟩
    have z271 := C271.2.1
    refine gat (mkF m 276 #[vi x0, vi x1, vi x2, vi x3, vi x4, vi (3 : Int32), vr r2, vr r3, vr r4, vr r5, vr b6, vr b8, vr r222, vr r228, vr r239, vr r1222, vr r2222, vi (1 : Int32)] [(.int (1 : Int32))]) rfl ?_
    refine gs (mkF m 279 #[vi x0, vi x1, vi x2, vi x3, vi x4, vi (3 : Int32), vr r2, vr r3, vr r4, vr r5, vr b6, vr b8, vr r222, vr r228, vr r239, vr r1222, vr r2222, vi (1 : Int32)] []) (fun _ _ A kq => XS.ifNo A hx rfl (hb hby at_276) rfl ((if0 _ _).trans (feq (by decide)).1) kq) ?_
    refine gs (mkF m 280 #[vi x0, vi x1, vi x2, vi x3, vi x4, vi (3 : Int32), vr r2, vr r3, vr r4, vr r5, vr b6, vr b8, vr r222, vr r228, vr r239, vr r1222, vr r2222, vi (1 : Int32)] [(.int (1 : Int32))]) (fun _ _ A kq => XS.iconst A hx rfl (hb hby at_279) kq) ?_
    refine uG 284 hx hby at_280 (by decide) (by decide) ?_
    refine gs (mkF m 286 #[vi x0, vi x1, vi x2, vi x3, vi x4, vi (3 : Int32), vr r2, vr r3, vr r4, vr r5, vr b6, vr b8, vr r222, vr r228, vr r239, vr r1222, vr r2222, vi (1 : Int32)] []) (fun _ _ A kq => XS.istore A hx rfl (hb hby at_284) rfl (l' := #[vi x0, vi x1, vi x2, vi x3, vi x4, vi (3 : Int32), vr r2, vr r3, vr r4, vr r5, vr b6, vr b8, vr r222, vr r228, vr r239, vr r1222, vr r2222, vi (1 : Int32)]) rfl kq) ?_
    refine uI 288 hx hby at_286 rfl rfl ?_
    refine gs (mkF m 289 #[vi x0, vi x1, vi x2, vi x3, vi x4, vi (3 : Int32), vr r2, vr r3, vr r4, vr r5, vr b6, vr b8, vr r222, vr r228, vr r239, vr r1222, vr r2222, vi (1 : Int32)] [(.int (2 : Int32)), (.int (3 : Int32))]) (fun _ _ A kq => XS.iconst A hx rfl (hb hby at_288) kq) ?_
    refine gs (mkF m 292 #[vi x0, vi x1, vi x2, vi x3, vi x4, vi (3 : Int32), vr r2, vr r3, vr r4, vr r5, vr b6, vr b8, vr r222, vr r228, vr r239, vr r1222, vr r2222, vi (1 : Int32)] []) (fun _ _ A kq => XS.icmpNo A hx rfl (hb hby at_289) rfl (flt (by decide)).1 kq) ?_
    refine uI 294 hx hby at_292 rfl rfl ?_
    refine gs (mkF m 297 #[vi x0, vi x1, vi x2, vi x3, vi x4, vi (3 : Int32), vr r2, vr r3, vr r4, vr r5, vr b6, vr b8, vr r222, vr r228, vr r239, vr r1222, vr r2222, vi (1 : Int32)] []) (fun _ _ A kq => XS.ifNo A hx rfl (hb hby at_294) rfl ((if0 _ _).trans (feq (by decide)).1) kq) ?_
    refine uA 299 hx hby at_297 rfl rfl rfl ?_
    refine gs (mkF m 300 #[vi x0, vi x1, vi x2, vi x3, vi x4, vi (3 : Int32), vr r2, vr r3, vr r4, vr r5, vr b6, vr b8, vr r222, vr r228, vr r239, vr r1222, vr r2222, vi (1 : Int32)] [(.int (1 : Int32)), (.ref r1222)]) (fun _ _ A kq => XS.iconst A hx rfl (hb hby at_299) kq) ?_
    refine ginfo fun _ _ O272 => ?_
    refine gcallF (xi := mn555) (y := mn321) hx (ow hw 308 rfl) (ow hw 309 rfl) (fun _ _ hU => mvT hU (ow hw 310 rfl)) (ow hw 311 rfl) (ow hw 312 rfl) (ow hw 313 rfl) (ow hw 314 rfl) (ow hw 169 rfl) (by decide) (fun hZ H hEL => Pay.of_met (W := 0) (own_lget3_1 l Z a0 cx [] (r1222) (g1222) (kg1222) (r2) (r3) (r4) vm271 h239 O272 f261 f262 f263) (ow hw 315 rfl) (ow hw 200 rfl) (by decide) (by decide) hZ H hEL) 305 (argsL := [(.int (1 : Int32))]) (rest := []) f261 (lenOf own_pd554 rfl) rfl rfl (Nat.le_of_eq rfl) (by rw [hml]; rfl) (hb hby at_300) rfl (by decide) (by decide) ?_
    rintro _ vm272 h272 C272 ⟨rfl, rfl⟩
    have z272 := C272.2.1
    refine gat (mkF m 305 #[vi x0, vi x1, vi x2, vi x3, vi x4, vi (3 : Int32), vr r2, vr r3, vr r4, vr r5, vr b6, vr b8, vr r222, vr r228, vr r239, vr r1222, vr r2222, vi (1 : Int32)] [(.ref r3)]) rfl ?_
    refine gcast hx (ow hw 5 rfl) (Ins.self (((((((((((((((q3_1.1.keep K4).keep K5).ext E6).keep K7).ext E8).keep K9).keep K184).keep K189).keep K194).keep K201).keep K208).keep K215).keep K222).keep K228).keep K239)) 308 (hb hby at_305) rfl ?_
    refine uA 310 hx hby at_308 rfl rfl rfl ?_
    refine ginfo fun _ _ O273 => ?_
    refine gcallV (y := mn327) (z := mn327) hx (ow hw 175 rfl) (ow hw 176 rfl) (nfSel (ow hw 178 rfl)) (ow hw 178 rfl) (ow hw 177 rfl) (by decide) (fun hZ H hEL => Pay.of_met (W := 0) (own_eqSame l Z a0 cx [] (r3) vm272 h239 O273 ) (ow hw 179 rfl) (ow hw 7 rfl) (by decide) (by decide) hZ H hEL) 313 (argsL := [(.ref r3)]) (rest := []) (((((((((((((((q3_1.1.keep K4).keep K5).ext E6).keep K7).ext E8).keep K9).keep K184).keep K189).keep K194).keep K201).keep K208).keep K215).keep K222).keep K228).keep K239) (lenOf own_pd552 rfl) rfl rfl (Nat.le_of_eq rfl) (by rw [hml]; rfl) (hb hby at_310) rfl (by decide) (by decide) ?_
    rintro _ vm273 h273 C273 ⟨rfl, rfl⟩
    have z273 := C273.2.1
    refine gat (mkF m 313 #[vi x0, vi x1, vi x2, vi x3, vi x4, vi (3 : Int32), vr r2, vr r3, vr r4, vr r5, vr b6, vr b8, vr r222, vr r228, vr r239, vr r1222, vr r2222, vi (1 : Int32)] [(.int (1 : Int32))]) rfl ?_
    refine gs (mkF m 316 #[vi x0, vi x1, vi x2, vi x3, vi x4, vi (3 : Int32), vr r2, vr r3, vr r4, vr r5, vr b6, vr b8, vr r222, vr r228, vr r239, vr r1222, vr r2222, vi (1 : Int32)] []) (fun _ _ A kq => XS.ifNo A hx rfl (hb hby at_313) rfl ((if0 _ _).trans (feq (by decide)).1) kq) ?_
    refine uA 318 hx hby at_316 rfl rfl rfl ?_
    refine gs (mkF m 319 #[vi x0, vi x1, vi x2, vi x3, vi x4, vi (3 : Int32), vr r2, vr r3, vr r4, vr r5, vr b6, vr b8, vr r222, vr r228, vr r239, vr r1222, vr r2222, vi (1 : Int32)] [(.int (1 : Int32)), (.ref r2222)]) (fun _ _ A kq => XS.iconst A hx rfl (hb hby at_318) kq) ?_
    refine ginfo fun _ _ O274 => ?_
    refine gcallF (xi := mn555) (y := mn321) hx (ow hw 308 rfl) (ow hw 309 rfl) (fun _ _ hU => mvT hU (ow hw 310 rfl)) (ow hw 311 rfl) (ow hw 312 rfl) (ow hw 313 rfl) (ow hw 314 rfl) (ow hw 169 rfl) (by decide) (fun hZ H hEL => Pay.of_met (W := 0) (own_lget3_1 l Z a0 cx [] (r2222) (g2222) (kg2222) (r5) (r5) (r5) vm273 h239 O274 f265 f266 f267) (ow hw 315 rfl) (ow hw 200 rfl) (by decide) (by decide) hZ H hEL) 324 (argsL := [(.int (1 : Int32))]) (rest := []) f265 (lenOf own_pd554 rfl) rfl rfl (Nat.le_of_eq rfl) (by rw [hml]; rfl) (hb hby at_319) rfl (by decide) (by decide) ?_
    rintro _ vm274 h274 C274 ⟨rfl, rfl⟩
    have z274 := C274.2.1
    refine gat (mkF m 324 #[vi x0, vi x1, vi x2, vi x3, vi x4, vi (3 : Int32), vr r2, vr r3, vr r4, vr r5, vr b6, vr b8, vr r222, vr r228, vr r239, vr r1222, vr r2222, vi (1 : Int32)] [(.ref r5)]) rfl ?_
    refine gcast hx (ow hw 5 rfl) (Ins.self (((((((((((((q5_1.1.ext E6).keep K7).ext E8).keep K9).keep K184).keep K189).keep K194).keep K201).keep K208).keep K215).keep K222).keep K228).keep K239)) 327 (hb hby at_324) rfl ?_
    refine uA 329 hx hby at_327 rfl rfl rfl ?_
    refine ginfo fun _ _ O275 => ?_
    refine gcallV (y := mn327) (z := mn327) hx (ow hw 175 rfl) (ow hw 176 rfl) (nfSel (ow hw 178 rfl)) (ow hw 178 rfl) (ow hw 177 rfl) (by decide) (fun hZ H hEL => Pay.of_met (W := 0) (own_eqSame l Z a0 cx [] (r5) vm274 h239 O275 ) (ow hw 179 rfl) (ow hw 7 rfl) (by decide) (by decide) hZ H hEL) 332 (argsL := [(.ref r5)]) (rest := []) (((((((((((((q5_1.1.ext E6).keep K7).ext E8).keep K9).keep K184).keep K189).keep K194).keep K201).keep K208).keep K215).keep K222).keep K228).keep K239) (lenOf own_pd552 rfl) rfl rfl (Nat.le_of_eq rfl) (by rw [hml]; rfl) (hb hby at_329) rfl (by decide) (by decide) ?_
    rintro _ vm275 h275 C275 ⟨rfl, rfl⟩
    have z275 := C275.2.1
    refine gat (mkF m 332 #[vi x0, vi x1, vi x2, vi x3, vi x4, vi (3 : Int32), vr r2, vr r3, vr r4, vr r5, vr b6, vr b8, vr r222, vr r228, vr r239, vr r1222, vr r2222, vi (1 : Int32)] [(.int (1 : Int32))]) rfl ?_
    refine gs (mkF m 335 #[vi x0, vi x1, vi x2, vi x3, vi x4, vi (3 : Int32), vr r2, vr r3, vr r4, vr r5, vr b6, vr b8, vr r222, vr r228, vr r239, vr r1222, vr r2222, vi (1 : Int32)] []) (fun _ _ A kq => XS.ifNo A hx rfl (hb hby at_332) rfl ((if0 _ _).trans (feq (by decide)).1) kq) ?_
    refine gs (mkF m 336 #[vi x0, vi x1, vi x2, vi x3, vi x4, vi (3 : Int32), vr r2, vr r3, vr r4, vr r5, vr b6, vr b8, vr r222, vr r228, vr r239, vr r1222, vr r2222, vi (1 : Int32)] [(.int (1 : Int32))]) (fun _ _ A kq => XS.iconst A hx rfl (hb hby at_335) kq) ?_
    refine uG 340 hx hby at_336 (by decide) (by decide) ?_
    refine gs (mkF m 342 #[vi x0, vi x1, vi x2, vi x3, vi x4, vi (3 : Int32), vr r2, vr r3, vr r4, vr r5, vr b6, vr b8, vr r222, vr r228, vr r239, vr r1222, vr r2222, vi (1 : Int32)] []) (fun _ _ A kq => XS.istore A hx rfl (hb hby at_340) rfl (l' := #[vi x0, vi x1, vi x2, vi x3, vi x4, vi (3 : Int32), vr r2, vr r3, vr r4, vr r5, vr b6, vr b8, vr r222, vr r228, vr r239, vr r1222, vr r2222, vi (1 : Int32)]) rfl kq) ?_
    refine uI 344 hx hby at_342 rfl rfl ?_
    refine gs (mkF m 345 #[vi x0, vi x1, vi x2, vi x3, vi x4, vi (3 : Int32), vr r2, vr r3, vr r4, vr r5, vr b6, vr b8, vr r222, vr r228, vr r239, vr r1222, vr r2222, vi (1 : Int32)] [(.int (3 : Int32)), (.int (3 : Int32))]) (fun _ _ A kq => XS.iconst A hx rfl (hb hby at_344) kq) ?_
    refine gs (mkF m 348 #[vi x0, vi x1, vi x2, vi x3, vi x4, vi (3 : Int32), vr r2, vr r3, vr r4, vr r5, vr b6, vr b8, vr r222, vr r228, vr r239, vr r1222, vr r2222, vi (1 : Int32)] []) (fun _ _ A kq => XS.icmpNo A hx rfl (hb hby at_345) rfl (flt (by decide)).1 kq) ?_
    refine uI 350 hx hby at_348 rfl rfl ?_
    refine gs (mkF m 353 #[vi x0, vi x1, vi x2, vi x3, vi x4, vi (3 : Int32), vr r2, vr r3, vr r4, vr r5, vr b6, vr b8, vr r222, vr r228, vr r239, vr r1222, vr r2222, vi (1 : Int32)] []) (fun _ _ A kq => XS.ifNo A hx rfl (hb hby at_350) rfl ((if0 _ _).trans (feq (by decide)).1) kq) ?_
    refine uA 355 hx hby at_353 rfl rfl rfl ?_
    refine gs (mkF m 356 #[vi x0, vi x1, vi x2, vi x3, vi x4, vi (3 : Int32), vr r2, vr r3, vr r4, vr r5, vr b6, vr b8, vr r222, vr r228, vr r239, vr r1222, vr r2222, vi (1 : Int32)] [(.int (2 : Int32)), (.ref r1222)]) (fun _ _ A kq => XS.iconst A hx rfl (hb hby at_355) kq) ?_
    refine ginfo fun _ _ O276 => ?_
    refine gcallF (xi := mn555) (y := mn321) hx (ow hw 308 rfl) (ow hw 309 rfl) (fun _ _ hU => mvT hU (ow hw 310 rfl)) (ow hw 311 rfl) (ow hw 312 rfl) (ow hw 313 rfl) (ow hw 314 rfl) (ow hw 169 rfl) (by decide) (fun hZ H hEL => Pay.of_met (W := 0) (own_lget3_2 l Z a0 cx [] (r1222) (g1222) (kg1222) (r2) (r3) (r4) vm275 h239 O276 f261 f262 f263) (ow hw 315 rfl) (ow hw 200 rfl) (by decide) (by decide) hZ H hEL) 361 (argsL := [(.int (2 : Int32))]) (rest := []) f261 (lenOf own_pd554 rfl) rfl rfl (Nat.le_of_eq rfl) (by rw [hml]; rfl) (hb hby at_356) rfl (by decide) (by decide) ?_
    rintro _ vm276 h276 C276 ⟨rfl, rfl⟩
    have z276 := C276.2.1
    refine gat (mkF m 361 #[vi x0, vi x1, vi x2, vi x3, vi x4, vi (3 : Int32), vr r2, vr r3, vr r4, vr r5, vr b6, vr b8, vr r222, vr r228, vr r239, vr r1222, vr r2222, vi (1 : Int32)] [(.ref r4)]) rfl ?_
    refine gcast hx (ow hw 5 rfl) (Ins.self ((((((((((((((q4_1.1.keep K5).ext E6).keep K7).ext E8).keep K9).keep K184).keep K189).keep K194).keep K201).keep K208).keep K215).keep K222).keep K228).keep K239)) 364 (hb hby at_361) rfl ?_
    refine uA 366 hx hby at_364 rfl rfl rfl ?_
    refine ginfo fun _ _ O277 => ?_
    refine gcallV (y := mn327) (z := mn327) hx (ow hw 175 rfl) (ow hw 176 rfl) (nfSel (ow hw 178 rfl)) (ow hw 178 rfl) (ow hw 177 rfl) (by decide) (fun hZ H hEL => Pay.of_met (W := 0) (own_eqSame l Z a0 cx [] (r4) vm276 h239 O277 ) (ow hw 179 rfl) (ow hw 7 rfl) (by decide) (by decide) hZ H hEL) 369 (argsL := [(.ref r4)]) (rest := []) ((((((((((((((q4_1.1.keep K5).ext E6).keep K7).ext E8).keep K9).keep K184).keep K189).keep K194).keep K201).keep K208).keep K215).keep K222).keep K228).keep K239) (lenOf own_pd552 rfl) rfl rfl (Nat.le_of_eq rfl) (by rw [hml]; rfl) (hb hby at_366) rfl (by decide) (by decide) ?_
    rintro _ vm277 h277 C277 ⟨rfl, rfl⟩
    have z277 := C277.2.1
    refine gat (mkF m 369 #[vi x0, vi x1, vi x2, vi x3, vi x4, vi (3 : Int32), vr r2, vr r3, vr r4, vr r5, vr b6, vr b8, vr r222, vr r228, vr r239, vr r1222, vr r2222, vi (1 : Int32)] [(.int (1 : Int32))]) rfl ?_
    refine gs (mkF m 372 #[vi x0, vi x1, vi x2, vi x3, vi x4, vi (3 : Int32), vr r2, vr r3, vr r4, vr r5, vr b6, vr b8, vr r222, vr r228, vr r239, vr r1222, vr r2222, vi (1 : Int32)] []) (fun _ _ A kq => XS.ifNo A hx rfl (hb hby at_369) rfl ((if0 _ _).trans (feq (by decide)).1) kq) ?_
    refine uA 374 hx hby at_372 rfl rfl rfl ?_
    refine gs (mkF m 375 #[vi x0, vi x1, vi x2, vi x3, vi x4, vi (3 : Int32), vr r2, vr r3, vr r4, vr r5, vr b6, vr b8, vr r222, vr r228, vr r239, vr r1222, vr r2222, vi (1 : Int32)] [(.int (2 : Int32)), (.ref r2222)]) (fun _ _ A kq => XS.iconst A hx rfl (hb hby at_374) kq) ?_
    refine ginfo fun _ _ O278 => ?_
    refine gcallF (xi := mn555) (y := mn321) hx (ow hw 308 rfl) (ow hw 309 rfl) (fun _ _ hU => mvT hU (ow hw 310 rfl)) (ow hw 311 rfl) (ow hw 312 rfl) (ow hw 313 rfl) (ow hw 314 rfl) (ow hw 169 rfl) (by decide) (fun hZ H hEL => Pay.of_met (W := 0) (own_lget3_2 l Z a0 cx [] (r2222) (g2222) (kg2222) (r5) (r5) (r5) vm277 h239 O278 f265 f266 f267) (ow hw 315 rfl) (ow hw 200 rfl) (by decide) (by decide) hZ H hEL) 380 (argsL := [(.int (2 : Int32))]) (rest := []) f265 (lenOf own_pd554 rfl) rfl rfl (Nat.le_of_eq rfl) (by rw [hml]; rfl) (hb hby at_375) rfl (by decide) (by decide) ?_
    rintro _ vm278 h278 C278 ⟨rfl, rfl⟩
    have z278 := C278.2.1
    refine gat (mkF m 380 #[vi x0, vi x1, vi x2, vi x3, vi x4, vi (3 : Int32), vr r2, vr r3, vr r4, vr r5, vr b6, vr b8, vr r222, vr r228, vr r239, vr r1222, vr r2222, vi (1 : Int32)] [(.ref r5)]) rfl ?_
    refine gcast hx (ow hw 5 rfl) (Ins.self (((((((((((((q5_1.1.ext E6).keep K7).ext E8).keep K9).keep K184).keep K189).keep K194).keep K201).keep K208).keep K215).keep K222).keep K228).keep K239)) 383 (hb hby at_380) rfl ?_
    refine uA 385 hx hby at_383 rfl rfl rfl ?_
    refine ginfo fun _ _ O279 => ?_
    refine gcallV (y := mn327) (z := mn327) hx (ow hw 175 rfl) (ow hw 176 rfl) (nfSel (ow hw 178 rfl)) (ow hw 178 rfl) (ow hw 177 rfl) (by decide) (fun hZ H hEL => Pay.of_met (W := 0) (own_eqSame l Z a0 cx [] (r5) vm278 h239 O279 ) (ow hw 179 rfl) (ow hw 7 rfl) (by decide) (by decide) hZ H hEL) 388 (argsL := [(.ref r5)]) (rest := []) (((((((((((((q5_1.1.ext E6).keep K7).ext E8).keep K9).keep K184).keep K189).keep K194).keep K201).keep K208).keep K215).keep K222).keep K228).keep K239) (lenOf own_pd552 rfl) rfl rfl (Nat.le_of_eq rfl) (by rw [hml]; rfl) (hb hby at_385) rfl (by decide) (by decide) ?_
    rintro _ vm279 h279 C279 ⟨rfl, rfl⟩
    have z279 := C279.2.1
    refine gat (mkF m 388 #[vi x0, vi x1, vi x2, vi x3, vi x4, vi (3 : Int32), vr r2, vr r3, vr r4, vr r5, vr b6, vr b8, vr r222, vr r228, vr r239, vr r1222, vr r2222, vi (1 : Int32)] [(.int (1 : Int32))]) rfl ?_
    refine gs (mkF m 391 #[vi x0, vi x1, vi x2, vi x3, vi x4, vi (3 : Int32), vr r2, vr r3, vr r4, vr r5, vr b6, vr b8, vr r222, vr r228, vr r239, vr r1222, vr r2222, vi (1 : Int32)] []) (fun _ _ A kq => XS.ifNo A hx rfl (hb hby at_388) rfl ((if0 _ _).trans (feq (by decide)).1) kq) ?_
    refine gs (mkF m 392 #[vi x0, vi x1, vi x2, vi x3, vi x4, vi (3 : Int32), vr r2, vr r3, vr r4, vr r5, vr b6, vr b8, vr r222, vr r228, vr r239, vr r1222, vr r2222, vi (1 : Int32)] [(.int (1 : Int32))]) (fun _ _ A kq => XS.iconst A hx rfl (hb hby at_391) kq) ?_
    refine uG 396 hx hby at_392 (by decide) (by decide) ?_
    refine gs (mkF m 398 #[vi x0, vi x1, vi x2, vi x3, vi x4, vi (3 : Int32), vr r2, vr r3, vr r4, vr r5, vr b6, vr b8, vr r222, vr r228, vr r239, vr r1222, vr r2222, vi (1 : Int32)] []) (fun _ _ A kq => XS.istore A hx rfl (hb hby at_396) rfl (l' := #[vi x0, vi x1, vi x2, vi x3, vi x4, vi (3 : Int32), vr r2, vr r3, vr r4, vr r5, vr b6, vr b8, vr r222, vr r228, vr r239, vr r1222, vr r2222, vi (1 : Int32)]) rfl kq) ?_
    refine uI 400 hx hby at_398 rfl rfl ?_
    exact gretN (t := .boolean) hx hret (by simp) (hb hby at_400) (by decide) (by decide) (fun vq Cq => ⟨rfl, ((((((((((((((((((Keep.refl h0 []).trans K2 all0).trans K3 all0).trans K4 all0).trans K5 all0).ext E6).trans K7 (allS (Or.inr (by omega)) all0)).ext E8).trans K9 (allS (Or.inr (by omega)) all0)).trans K184 (allS (Or.inr (by omega)) all0)).trans K189 (allS (Or.inr (by omega)) all0)).trans K194 (allS (Or.inr (by omega)) (allS (Or.inr (by omega)) all0))).trans K201 (allS (Or.inr (by omega)) (allS (Or.inr (by omega)) all0))).trans K208 (allS (Or.inr (by omega)) (allS (Or.inr (by omega)) all0))).trans K215 (allS (Or.inr (by omega)) (allS (Or.inr (by omega)) all0))).trans K222 all0).trans K228 all0).trans K239 all0)⟩)
theorem comes_1 {Post : Tables → Env → Array Value → State → Outcome → State → Prop} (hpost : ∀ tb e args s v u, (limb_1_1.after args s (.returned v) u = true ∧ limb_1_2.after args s (.returned v) u = true ∧ True) → ReturnedEndW s (.returned v) u (Jvm.fieldLocs frame_1_writes args s ++ Jvm.arrayLocs frame_1_arrays args s ++ Jvm.staticLocs frame_1_statics s) 88 2368 → Post tb e args s (.returned v) u) :
    ArmFor flags0 classFile x code maxLocals ret World_1 tables_1 room_1 Calls_1 rest_1 Pre_1 Post := by
  intro l hfl _ _ p e ha hc hk s m args below hf hA hF happ hP
  obtain ⟨hcalls, hrest, hpre⟩ := hP
  obtain ⟨-, -, -, hnamed, -, -, -, hat⟩ := (Spec.applies_iff hf).mp happ
  obtain ⟨hg, hn⟩ := and_e (Cond.before_iff.mp (show (Jvm.Cond.and given_1 narrow_1).before args s = true from hpre))
  obtain ⟨gc, g0⟩ := and_e hg
  obtain ⟨ga0, g1⟩ := and_e g0
  obtain ⟨ga1, g2⟩ := and_e g1
  obtain ⟨ga2, g3⟩ := and_e g2
  obtain ⟨ga3, g4⟩ := and_e g3
  have ga4 := g4
  obtain ⟨w0, w1, w2, w3, w4, rfl⟩ : ∃ w0 w1 w2 w3 w4 : Value, args = #[w0, w1, w2, w3, w4] := by
    have hs : args.size = 5 := by simpa [Cond.value, given_1] using gc
    obtain ⟨L⟩ := args
    match L, hs with
    | [w0, w1, w2, w3, w4], _ => exact ⟨w0, w1, w2, w3, w4, rfl⟩
  have hw := fun d (hd : d ∈ tables_1) => atoms_spec (ws := Jvm.Cond.code x code maxLocals ret :: tables_1) hat d (List.mem_cons_of_mem _ hd)
  have hfit : Fit s := fun {y c} hc i hi => by
    obtain ⟨ha, rfl⟩ := Array.getElem?_eq_some_iff.mp hc
    have q := List.all_eq_true.mp ((Array.all_eq_true_iff_forall_mem.mp hF) _ (Array.getElem_mem ha)) i (List.mem_range.mpr hi)
    simpa [Array.getElem?_eq_getElem hi] using q
  obtain ⟨hsets, hown0⟩ := atoms_of _ (rest_1_c_eq ▸ (show rest_1_c.before _ s = true from hrest))
  obtain ⟨i0, ei0⟩ := is_v ga0
  obtain rfl : w0 = (.int i0) := Option.some.inj ei0
  obtain ⟨i1, ei1⟩ := is_v ga1
  obtain rfl : w1 = (.int i1) := Option.some.inj ei1
  obtain ⟨i2, ei2⟩ := is_v ga2
  obtain rfl : w2 = (.int i2) := Option.some.inj ei2
  obtain ⟨i3, ei3⟩ := is_v ga3
  obtain rfl : w3 = (.int i3) := Option.some.inj ei3
  obtain ⟨i4, ei4⟩ := is_v ga4
  obtain rfl : w4 = (.int i4) := Option.some.inj ei4
  obtain ⟨zc, eG⟩ := is_v (Cond.before_iff.mp (hsets _ (List.mem_of_getElem? (i := 1) rfl)))
  have Scs := Sta.start eG (Or.inl (hsets _ (List.mem_of_getElem? (i := 0) rfl)))
  have hcw := hsets _ (List.mem_of_getElem? (i := 2) rfl)
  have hzc : ¬ zc = 0 := by
    have q := not_v (Cond.before_iff.mp hcw)
    intro z
    have q2 := eq_i (x := .int zc) (y := .int 0) eG (Term.int_eval (0)) (by rw [z])
    rw [q2] at q; cases q
  obtain ⟨fm, eF, hfm⟩ := isR_v (Cond.before_iff.mp (hsets _ (List.mem_of_getElem? (i := 8) rfl)))
  have Sfm := Sta.start eF (Or.inl (hsets _ (List.mem_of_getElem? (i := 7) rfl)))
  have hEL : EW s _ consts_1 := (EW.cons (ow hw 99 rfl) (by decide +kernel) (EW.cons (ow hw 160 rfl) (by decide +kernel) EW.nil))
  have hCH : CHv s consts_1 s.vm s.heap := CHv.start hEL (fun p hp => hcalls.2.1 p hp) hcw (ow hw 23 rfl) (ow hw 6 rfl)
  have ja_dz := (Cond.before_iff.mp (hsets _ (List.mem_of_getElem? (i := 15) rfl)))
  obtain ⟨dz, e_dz⟩ := arr_v ja_dz
  obtain ⟨c_dz, A_dz⟩ := Arr.start e_dz ja_dz
  have hA_dz : s.arrayAt? dz = some c_dz := A_dz.fin (Vm.Alike.refl _)
  obtain ⟨l_dz, m_dz⟩ := lenI (Cond.before_iff.mp (hsets _ (List.mem_of_getElem? (i := 17) rfl))) e_dz hA_dz
  have V_dz : Arv s s.heap dz c_dz.cls (.object c8_) (0 : Int32) [] .null := Arv.start hfit A_dz l_dz m_dz (by decide) rfl trivial
  have je := (Cond.before_iff.mp (hsets _ (List.mem_of_getElem? (i := 23) rfl)))
  obtain ⟨el, e_el⟩ := exa_v je
  have ja_ee := (Cond.before_iff.mp (hsets _ (List.mem_of_getElem? (i := 24) rfl)))
  obtain ⟨ee, e_ee⟩ := arr_v ja_ee
  obtain ⟨c_ee, A_ee⟩ := Arr.start e_ee ja_ee
  have hA_ee : s.arrayAt? ee = some c_ee := A_ee.fin (Vm.Alike.refl _)
  obtain ⟨l_ee, m_ee⟩ := lenI (Cond.before_iff.mp (hsets _ (List.mem_of_getElem? (i := 26) rfl))) e_ee hA_ee
  have V_ee : Arv s s.heap ee c_ee.cls (.object c8_) (0 : Int32) [] .null := Arv.start hfit A_ee l_ee m_ee (by decide) rfl trivial
  have jm := (Cond.before_iff.mp (hsets _ (List.mem_of_getElem? (i := 30) rfl)))
  obtain ⟨em, e_em⟩ := exa_v jm
  obtain ⟨mc, mk, mr, M1, M2, M3, mcell, M4, M5⟩ := hcalls.1
  have hL0 : (∃ dz el ee em mr : Addr, ∃ kd ke : ClassId, Sta s s.heap c11_ "DEFAULTCAPACITY_EMPTY_ELEMENTDATA" c3_ (.ref dz) ∧ Exa s s.heap dz c3_ ∧ Arv s s.heap dz kd (.object c8_) (0 : Int32) [] .null ∧ Sta s s.heap c13_ "EMPTY_LIST" "Ljava/util/ImmutableCollections$ListN;" (.ref el) ∧ Exa s s.heap el c15_ ∧ Fld s s.heap el c15_ "elements" c3_ (.ref ee) ∧ Arv s s.heap ee ke (.object c8_) (0 : Int32) [] .null ∧ Fld s s.heap el c15_ c4_ "Z" (.int (0 : Int32)) ∧ Sta s s.heap c13_ "EMPTY" c0_ (.ref em) ∧ Exa s s.heap em c8_ ∧ Mir s c3_ mr ∧ Sta s s.heap c12_ "$assertionsDisabled" "Z" (.int (1 : Int32))) := ⟨dz, el, ee, em, mr, c_dz.cls, c_ee.cls, Sta.start e_dz (Or.inr ⟨ow hw 36 rfl, (hsets _ (List.mem_of_getElem? (i := 11) rfl))⟩), Exa.start e_dz (Cond.before_iff.mp (hsets _ (List.mem_of_getElem? (i := 16) rfl))), V_dz, Sta.start e_el (Or.inl (hsets _ (List.mem_of_getElem? (i := 22) rfl))), Exa.start e_el je, Fld.start ((fld_at e_el).symm.trans e_ee), V_ee, fldI e_el (Cond.before_iff.mp (hsets _ (List.mem_of_getElem? (i := 27) rfl))), Sta.start e_em (Or.inl (hsets _ (List.mem_of_getElem? (i := 29) rfl))), Exa.start e_em jm, ⟨mc, mk, M1, M2, M3, mcell, M4, M5⟩, staI (hsets _ (List.mem_of_getElem? (i := 20) rfl)) (hsets _ (List.mem_of_getElem? (i := 19) rfl))⟩
  have cx : Ctx s _ := ⟨hw, hEL, ⟨zc, Scs, hzc⟩, ⟨fm, Sfm, hfm⟩, hL0⟩
  obtain ⟨n, o, h1, h2, h3, _, L, rfl, ⟨N, ⟨rfl, -⟩⟩, -, hq⟩ := own_law l s _ cx tables_1 i0 i1 i2 i3 i4 s.vm s.heap ⟨Nat.le_refl _, fun _ _ q => q⟩ p e ha hc hk s m _ below hf ((Spec.applies_iff_loose hf).mp happ).1 ⟨rfl, State.Warmed39.refl s, rfl, CHr.refl hCH, State.Warmed39.of_rootvm (s := s) rfl (State.Warmed39.refl s)⟩ trivial
  refine ⟨n, _, h1, h2, h3, hpost _ _ _ _ _ _ ⟨Cond.after_iff.mpr rfl, Cond.after_iff.mpr (eq_i res_at (Term.int_eval (1)) rfl), trivial⟩ ⟨hq.1, hq.2.1, hq.2.2.1, (hq.2.2.2.sift fun y hy => Or.inr (N y hy)).mono (by decide) (by decide)⟩⟩
theorem main_1_1 : Claimed_1_1 := comes_1 fun _ _ _ _ _ _ h hF => ⟨h.1, hF⟩
theorem main_1_2 : Claimed_1_2 := comes_1 fun _ _ _ _ _ _ h hF => ⟨h.2.1, hF⟩
end Jvm.Pilot.@@N@@
namespace Jvm.Pilot.@@N@@
open Jvm Jvm.ClassFile Sem Op Lib Jvm.Free Jvm.Stand Jvm.Pilot.@@N@@.Jvm.D
/-! MADE BY PROGRAM (witnessworld.py) out of the Statement's table words and the real class files: 43 classes; the members and pool entries that the words name. The judged class is class 1, her method 2. -/
namespace start1
open Jvm.ClassFile
def u (s : String) : CpInfo := .utf8 (stringToUtf16 s)
/-- a pool by its gaps: so many unusable entries, then the entry; so many at the end -/
def gap : Nat → List CpInfo → List CpInfo
  | 0, r => r
  | n + 1, r => .unusable :: gap n r
def poolList (es : List (Nat × CpInfo)) (last : Nat) : List CpInfo := es.foldr (fun e r => gap e.1 (e.2 :: r)) (gap last [])
def pool (es : List (Nat × CpInfo)) (last : Nat) : Array CpInfo := ⟨poolList es last⟩
def fileOf (pool : Array CpInfo) (this : Nat) (attrs : Array Attribute := #[]) (ms : Array MethodInfo := #[]) (fl : Nat := 33) (sup : Nat := 0) (ifs : Array Nat := #[]) (fds : Array FieldInfo := #[]) : ClassFile where
  minorVersion := 0
  majorVersion := 65
  constantPool := pool
  accessFlags := fl
  thisClass := this
  superClass := sup
  interfaces := ifs
  fields := fds
  methods := ms
  attributes := attrs
def plain (name : String) (sup : Option ClassId) : Class where
  name := name
  kind := .ordinary
  loader := none
  accessFlags := 33
  super := sup
  interfaces := #[]
  cf := none
  fields := #[]
  methods := #[]
  instanceTypes := #[]
  staticTypes := #[]
  resolved := #[]
  callSites := []
  init := .initialized
  statics := none
  mirror := none

def pool0 : Array CpInfo := pool [(5, u "<init>"), (0, u "()V"), (1, .class_ 10), (1, u "java/lang/Object"), (0, u "getClass"), (0, u "()Ljava/lang/Class;")] 111

def k0c0 : Code := { maxStack := 0, maxLocals := 1, code := object_method_1_code, exceptionTable := #[], attributes := #[] }
def k0m0 : Method := { name := "<init>", desc := "()V", sig := { parameters := [], returnType := none }, accessFlags := 1, code := some k0c0 }
def k0m1 : Method := { name := "getClass", desc := "()Ljava/lang/Class;", sig := { parameters := [], returnType := some (.object "java/lang/Class") }, accessFlags := 273, code := none }
/-- java/lang/Object -/
def k0 : Class := { plain "java/lang/Object" none with
  accessFlags := 33
  interfaces := #[]
  cf := some (fileOf pool0 8 #[] #[{ accessFlags := 1, nameIndex := 5, descriptorIndex := 6, attributes := #[] }, { accessFlags := 273, nameIndex := 11, descriptorIndex := 12, attributes := #[] }] 33 0 #[] #[])
  fields := #[]
  methods := #[k0m0, k0m1]
  instanceTypes := #[]
  staticTypes := #[]
  resolved := Array.replicate 124 none
  statics := none }

def pool1 : Array CpInfo := pool [(2, .class_ 4), (0, .nameAndType 5 6), (0, u "java/lang/Object"), (0, u "<init>"), (0, u "()V"), (0, .class_ 8), (0, u "java/lang/String"), (0, .methodref 7 10), (0, .nameAndType 5 11), (0, u "([C)V"), (0, .methodref 13 14), (0, .class_ 15), (0, .nameAndType 16 17), (0, u "com/example/limentinus/limentinus/core/KeyScriptsReleasePinLaw"), (0, u "two"), (0, u "(I)Ljava/lang/String;"), (0, .class_ 19), (0, u "java/util/ArrayList"), (0, .methodref 18 3), (0, .interfaceMethodref 22 23), (0, .class_ 24), (0, .nameAndType 25 26), (0, u "java/util/List"), (0, u "add"), (0, u "(Ljava/lang/Object;)Z"), (0, .methodref 28 29), (0, .class_ 30), (0, .nameAndType 31 32), (0, u "com/example/limentinus/limentinus/core/KeyScripts"), (0, u "release"), (0, u "(Ljava/util/List;Ljava/lang/String;)Lcom/example/limentinus/limentinus/core/Quorum$Script;"), (0, .methodref 28 34), (0, .nameAndType 31 35), (0, u "(Ljava/util/List;Ljava/util/List;)Lcom/example/limentinus/limentinus/core/Quorum$Script;"), (0, .methodref 28 37), (0, .nameAndType 38 39), (0, u "existing"), (0, u "(Ljava/util/List;)Lcom/example/limentinus/limentinus/core/Quorum$Script;"), (0, .methodref 41 42), (0, .class_ 43), (0, .nameAndType 44 45), (0, u "com/example/limentinus/limentinus/core/Quorum$Script"), (0, u "source"), (0, u "()Ljava/lang/String;"), (0, .methodref 7 47), (0, .nameAndType 48 26), (0, u "equals"), (0, .methodref 41 50), (0, .nameAndType 51 52), (0, u "keys"), (0, u "()Ljava/util/List;"), (0, .methodref 41 54), (0, .nameAndType 55 52), (0, u "args"), (0, .interfaceMethodref 22 57), (0, .nameAndType 58 59), (0, u "size"), (0, u "()I"), (0, .interfaceMethodref 22 61), (0, .nameAndType 62 63), (0, u "get"), (0, u "(I)Ljava/lang/Object;"), (2, u "law"), (0, u "(IIIII)Z")] 7

def k1m0 : Method := { name := "<init>", desc := "()V", sig := { parameters := [], returnType := none }, accessFlags := 1, code := none }
def k1c1 : Code := { maxStack := 5, maxLocals := 2, code := method_2_code, exceptionTable := #[], attributes := #[] }
def k1m1 : Method := { name := "two", desc := "(I)Ljava/lang/String;", sig := { parameters := [.int], returnType := some (.object "java/lang/String") }, accessFlags := 10, code := some k1c1 }
def k1c2 : Code := { maxStack := 2, maxLocals := 18, code := code, exceptionTable := #[], attributes := #[] }
def k1m2 : Method := { name := "law", desc := "(IIIII)Z", sig := { parameters := [.int, .int, .int, .int, .int], returnType := some .boolean }, accessFlags := 9, code := some k1c2 }
/-- com/example/limentinus/limentinus/core/KeyScriptsReleasePinLaw -/
def k1 : Class := { plain "com/example/limentinus/limentinus/core/KeyScriptsReleasePinLaw" (some 0) with
  accessFlags := 49
  interfaces := #[]
  cf := some (fileOf pool1 13 #[] #[{ accessFlags := 1, nameIndex := 5, descriptorIndex := 6, attributes := #[] }, { accessFlags := 10, nameIndex := 16, descriptorIndex := 17, attributes := #[] }, { accessFlags := 9, nameIndex := 66, descriptorIndex := 67, attributes := #[] }] 49 2 #[] #[])
  fields := #[]
  methods := #[k1m0, k1m1, k1m2]
  instanceTypes := #[]
  staticTypes := #[]
  resolved := Array.replicate 75 none
  statics := none }

def pool2 : Array CpInfo := pool [(1, .class_ 2), (0, u "java/io/Serializable"), (0, .class_ 4), (0, u "java/lang/Object")] 2

/-- java/io/Serializable -/
def k2 : Class := { plain "java/io/Serializable" (some 0) with
  accessFlags := 1537
  interfaces := #[]
  cf := some (fileOf pool2 1 #[] #[] 1537 3 #[] #[])
  fields := #[]
  methods := #[]
  instanceTypes := #[]
  staticTypes := #[]
  resolved := Array.replicate 7 none
  statics := none }

def pool3 : Array CpInfo := pool [(1, .class_ 2), (0, u "java/lang/Comparable"), (0, .class_ 4), (0, u "java/lang/Object")] 7

/-- java/lang/Comparable -/
def k3 : Class := { plain "java/lang/Comparable" (some 0) with
  accessFlags := 1537
  interfaces := #[]
  cf := some (fileOf pool3 1 #[] #[] 1537 3 #[] #[])
  fields := #[]
  methods := #[]
  instanceTypes := #[]
  staticTypes := #[]
  resolved := Array.replicate 12 none
  statics := none }

def pool4 : Array CpInfo := pool [(2, .class_ 4), (1, u "java/lang/CharSequence"), (42, .class_ 48), (0, u "java/lang/CharSequence$1CodePointIterator"), (10, .class_ 60), (0, u "java/lang/CharSequence$1CharIterator"), (5, .class_ 67), (0, u "java/lang/Object")] 63

/-- java/lang/CharSequence -/
def k4 : Class := { plain "java/lang/CharSequence" (some 0) with
  accessFlags := 1537
  interfaces := #[]
  cf := some (fileOf pool4 2 #[.nestMembers #[47, 59]] #[] 1537 66 #[] #[])
  fields := #[]
  methods := #[]
  instanceTypes := #[]
  staticTypes := #[]
  resolved := Array.replicate 131 none
  statics := none }

def pool5 : Array CpInfo := pool [(1, .class_ 2), (0, u "java/lang/constant/Constable"), (0, .class_ 4), (0, u "java/lang/Object")] 6

/-- java/lang/constant/Constable -/
def k5 : Class := { plain "java/lang/constant/Constable" (some 0) with
  accessFlags := 1537
  interfaces := #[]
  cf := some (fileOf pool5 1 #[] #[] 1537 3 #[] #[])
  fields := #[]
  methods := #[]
  instanceTypes := #[]
  staticTypes := #[]
  resolved := Array.replicate 11 none
  statics := none }

def pool6 : Array CpInfo := pool [(1, .class_ 2), (0, u "java/lang/constant/ConstantDesc"), (0, .class_ 4), (0, u "java/lang/Object")] 32

/-- java/lang/constant/ConstantDesc -/
def k6 : Class := { plain "java/lang/constant/ConstantDesc" (some 0) with
  accessFlags := 1537
  interfaces := #[]
  cf := some (fileOf pool6 1 #[] #[] 1537 3 #[] #[])
  fields := #[]
  methods := #[]
  instanceTypes := #[]
  staticTypes := #[]
  resolved := Array.replicate 37 none
  statics := none }

def pool7 : Array CpInfo := pool [(1, .methodref 2 3), (0, .class_ 4), (0, .nameAndType 5 6), (0, u "java/lang/Object"), (0, u "<init>"), (0, u "()V"), (2, .fieldref 10 11), (0, .class_ 12), (0, .nameAndType 13 14), (0, u "java/lang/String"), (0, u "value"), (0, u "[B"), (0, .fieldref 10 16), (0, .nameAndType 17 18), (0, u "coder"), (0, u "B"), (2, u "hash"), (0, u "I"), (2, u "hashIsZero"), (0, u "Z"), (0, .methodref 10 28), (0, .nameAndType 5 29), (0, u "([CIILjava/lang/Void;)V"), (8, .fieldref 10 39), (0, .nameAndType 40 26), (0, u "COMPACT_STRINGS"), (1, .class_ 44), (1, u "java/lang/StringUTF16"), (0, u "compress"), (1, .methodref 42 48), (0, .nameAndType 49 50), (0, u "coderFromArrayLen"), (0, u "([BI)B"), (56, .class_ 109), (1, u "java/lang/StringLatin1"), (67, .methodref 42 178), (0, .nameAndType 45 179), (0, u "([CII)[B"), (361, .methodref 107 542), (0, .nameAndType 543 544), (0, u "equals"), (0, u "([B[B)Z"), (28, u "(Ljava/lang/Object;)Z"), (1, .class_ 576), (0, u "java/lang/CharSequence"), (22, u "CASE_INSENSITIVE_ORDER"), (0, u "Ljava/util/Comparator;"), (409, u "([C)V"), (90, u "serialPersistentFields"), (0, u "[Ljava/io/ObjectStreamField;"), (0, .class_ 1104), (0, u "java/lang/String$CaseInsensitiveComparator"), (1, .class_ 1107), (0, u "java/io/Serializable"), (0, .class_ 1109), (0, u "java/lang/Comparable"), (0, .class_ 1111), (0, u "java/lang/constant/Constable"), (0, .class_ 1113), (0, u "java/lang/constant/ConstantDesc"), (2, u "serialVersionUID"), (0, u "J"), (3, u "REPL"), (0, u "C"), (2, u "LATIN1"), (1, u "UTF16")] 323

def k7m0 : Method := { name := "<init>", desc := "()V", sig := { parameters := [], returnType := none }, accessFlags := 1, code := none }
def k7c1 : Code := { maxStack := 5, maxLocals := 2, code := jdk_42_method_3_code, exceptionTable := #[], attributes := #[] }
def k7m1 : Method := { name := "<init>", desc := "([C)V", sig := { parameters := [(.array .char)], returnType := none }, accessFlags := 1, code := some k7c1 }
def k7c2 : Code := { maxStack := 2, maxLocals := 3, code := jdk_42_method_66_code, exceptionTable := #[], attributes := #[] }
def k7m2 : Method := { name := "equals", desc := "(Ljava/lang/Object;)Z", sig := { parameters := [(.object "java/lang/Object")], returnType := some .boolean }, accessFlags := 1, code := some k7c2 }
def k7c3 : Code := { maxStack := 4, maxLocals := 6, code := jdk_42_method_149_code, exceptionTable := #[], attributes := #[] }
def k7m3 : Method := { name := "<init>", desc := "([CIILjava/lang/Void;)V", sig := { parameters := [(.array .char), .int, .int, (.object "java/lang/Void")], returnType := none }, accessFlags := 2, code := some k7c3 }
/-- java/lang/String -/
def k7 : Class := { plain "java/lang/String" (some 0) with
  accessFlags := 49
  interfaces := #[2, 3, 4, 5, 6]
  cf := some (fileOf pool7 10 #[.nestMembers #[1103]] #[{ accessFlags := 1, nameIndex := 5, descriptorIndex := 6, attributes := #[] }, { accessFlags := 1, nameIndex := 5, descriptorIndex := 1010, attributes := #[] }, { accessFlags := 1, nameIndex := 543, descriptorIndex := 573, attributes := #[] }, { accessFlags := 2, nameIndex := 5, descriptorIndex := 29, attributes := #[] }] 49 2 #[1106, 1108, 575, 1110, 1112] #[{ accessFlags := 18, nameIndex := 13, descriptorIndex := 14, attributes := #[] }, { accessFlags := 18, nameIndex := 17, descriptorIndex := 18, attributes := #[] }, { accessFlags := 2, nameIndex := 21, descriptorIndex := 22, attributes := #[] }, { accessFlags := 2, nameIndex := 25, descriptorIndex := 26, attributes := #[] }, { accessFlags := 26, nameIndex := 1116, descriptorIndex := 1117, attributes := #[] }, { accessFlags := 24, nameIndex := 40, descriptorIndex := 26, attributes := #[] }, { accessFlags := 26, nameIndex := 1101, descriptorIndex := 1102, attributes := #[] }, { accessFlags := 26, nameIndex := 1121, descriptorIndex := 1122, attributes := #[] }, { accessFlags := 25, nameIndex := 599, descriptorIndex := 600, attributes := #[] }, { accessFlags := 24, nameIndex := 1125, descriptorIndex := 18, attributes := #[] }, { accessFlags := 24, nameIndex := 1127, descriptorIndex := 18, attributes := #[] }])
  fields := #[{ name := "value", type := (.array .byte), accessFlags := 18, slot := 0, constantValue := 0 }, { name := "coder", type := .byte, accessFlags := 18, slot := 1, constantValue := 0 }, { name := "hash", type := .int, accessFlags := 2, slot := 2, constantValue := 0 }, { name := "hashIsZero", type := .boolean, accessFlags := 2, slot := 3, constantValue := 0 }, { name := "serialVersionUID", type := .long, accessFlags := 26, slot := 0, constantValue := 0 }, { name := "COMPACT_STRINGS", type := .boolean, accessFlags := 24, slot := 1, constantValue := 0 }, { name := "serialPersistentFields", type := (.array (.object "java/io/ObjectStreamField")), accessFlags := 26, slot := 2, constantValue := 0 }, { name := "REPL", type := .char, accessFlags := 26, slot := 3, constantValue := 0 }, { name := "CASE_INSENSITIVE_ORDER", type := (.object "java/util/Comparator"), accessFlags := 25, slot := 4, constantValue := 0 }, { name := "LATIN1", type := .byte, accessFlags := 24, slot := 5, constantValue := 0 }, { name := "UTF16", type := .byte, accessFlags := 24, slot := 6, constantValue := 0 }]
  methods := #[k7m0, k7m1, k7m2, k7m3]
  instanceTypes := #[(.array .byte), .byte, .int, .boolean]
  staticTypes := #[.long, .boolean, (.array (.object "java/io/ObjectStreamField")), .char, (.object "java/util/Comparator"), .byte, .byte]
  resolved := Array.replicate 1451 none
  statics := some 0 }

def pool8 : Array CpInfo := pool [(6, .class_ 8), (1, u "java/lang/Object"), (0, u "<init>"), (0, u "()V"), (1, .class_ 14), (1, u "java/lang/StringUTF16"), (31, u "$assertionsDisabled"), (0, u "Z"), (13, u "HI_BYTE_SHIFT"), (0, u "I"), (2, u "LO_BYTE_SHIFT"), (49, .methodref 12 116), (0, .nameAndType 117 118), (0, u "compress"), (0, u "([CI[BII)I"), (3, u "([CII)[B"), (138, u "coderFromArrayLen"), (0, u "([BI)B"), (106, .class_ 371), (1, u "java/lang/StringUTF16$LinesSpliterator"), (58, u "MAX_LENGTH"), (196, .class_ 628), (0, u "java/lang/StringUTF16$CodePointsSpliterator"), (0, .class_ 630), (0, u "java/lang/StringUTF16$CharsSpliterator")] 4

def k8m0 : Method := { name := "<init>", desc := "()V", sig := { parameters := [], returnType := none }, accessFlags := 0, code := none }
def k8c1 : Code := { maxStack := 2, maxLocals := 2, code := jdk_52_method_15_code, exceptionTable := #[], attributes := #[] }
def k8m1 : Method := { name := "coderFromArrayLen", desc := "([BI)B", sig := { parameters := [(.array .byte), .int], returnType := some .byte }, accessFlags := 8, code := some k8c1 }
def k8c2 : Code := { maxStack := 5, maxLocals := 6, code := jdk_52_method_16_code, exceptionTable := #[], attributes := #[] }
def k8m2 : Method := { name := "compress", desc := "([CII)[B", sig := { parameters := [(.array .char), .int, .int], returnType := some (.array .byte) }, accessFlags := 9, code := some k8c2 }
def k8c3 : Code := { maxStack := 3, maxLocals := 7, code := jdk_52_method_21_code, exceptionTable := #[], attributes := #[] }
def k8m3 : Method := { name := "compress", desc := "([CI[BII)I", sig := { parameters := [(.array .char), .int, (.array .byte), .int, .int], returnType := some .int }, accessFlags := 9, code := some k8c3 }
/-- java/lang/StringUTF16 -/
def k8 : Class := { plain "java/lang/StringUTF16" (some 0) with
  accessFlags := 48
  interfaces := #[]
  cf := some (fileOf pool8 12 #[.nestMembers #[627, 629, 369]] #[{ accessFlags := 0, nameIndex := 9, descriptorIndex := 10, attributes := #[] }, { accessFlags := 8, nameIndex := 261, descriptorIndex := 262, attributes := #[] }, { accessFlags := 9, nameIndex := 117, descriptorIndex := 122, attributes := #[] }, { accessFlags := 9, nameIndex := 117, descriptorIndex := 118, attributes := #[] }] 48 6 #[] #[{ accessFlags := 26, nameIndex := 61, descriptorIndex := 62, attributes := #[] }, { accessFlags := 26, nameIndex := 65, descriptorIndex := 62, attributes := #[] }, { accessFlags := 24, nameIndex := 430, descriptorIndex := 62, attributes := #[] }, { accessFlags := 4120, nameIndex := 46, descriptorIndex := 47, attributes := #[] }])
  fields := #[{ name := "HI_BYTE_SHIFT", type := .int, accessFlags := 26, slot := 0, constantValue := 0 }, { name := "LO_BYTE_SHIFT", type := .int, accessFlags := 26, slot := 1, constantValue := 0 }, { name := "MAX_LENGTH", type := .int, accessFlags := 24, slot := 2, constantValue := 0 }, { name := "$assertionsDisabled", type := .boolean, accessFlags := 4120, slot := 3, constantValue := 0 }]
  methods := #[k8m0, k8m1, k8m2, k8m3]
  instanceTypes := #[]
  staticTypes := #[.int, .int, .int, .boolean]
  resolved := Array.replicate 635 none
  statics := none }

def pool9 : Array CpInfo := pool [(8, .class_ 10), (1, u "java/lang/Iterable"), (24, .class_ 36), (0, u "java/lang/Object")] 25

/-- java/lang/Iterable -/
def k9 : Class := { plain "java/lang/Iterable" (some 0) with
  accessFlags := 1537
  interfaces := #[]
  cf := some (fileOf pool9 8 #[] #[] 1537 35 #[] #[])
  fields := #[]
  methods := #[]
  instanceTypes := #[]
  staticTypes := #[]
  resolved := Array.replicate 62 none
  statics := none }

def pool10 : Array CpInfo := pool [(10, .class_ 12), (1, u "java/util/Collection"), (0, u "toArray"), (16, u "()Z"), (29, .class_ 61), (0, u "java/lang/Object"), (0, .class_ 63), (0, u "java/lang/Iterable"), (2, u "isEmpty"), (3, u "()[Ljava/lang/Object;")] 44

def k10m0 : Method := { name := "isEmpty", desc := "()Z", sig := { parameters := [], returnType := some .boolean }, accessFlags := 1025, code := none }
def k10m1 : Method := { name := "toArray", desc := "()[Ljava/lang/Object;", sig := { parameters := [], returnType := some (.array (.object "java/lang/Object")) }, accessFlags := 1025, code := none }
/-- java/util/Collection -/
def k10 : Class := { plain "java/util/Collection" (some 0) with
  accessFlags := 1537
  interfaces := #[9]
  cf := some (fileOf pool10 10 #[] #[{ accessFlags := 1025, nameIndex := 66, descriptorIndex := 30, attributes := #[] }, { accessFlags := 1025, nameIndex := 13, descriptorIndex := 70, attributes := #[] }] 1537 60 #[62] #[])
  fields := #[]
  methods := #[k10m0, k10m1]
  instanceTypes := #[]
  staticTypes := #[]
  resolved := Array.replicate 115 none
  statics := none }

def pool11 : Array CpInfo := pool [(1, .methodref 2 3), (0, .class_ 4), (0, .nameAndType 5 6), (0, u "java/lang/Object"), (0, u "<init>"), (0, u "()V"), (0, .methodref 8 9), (0, .class_ 10), (0, .nameAndType 11 12), (0, u "java/util/AbstractCollection"), (0, u "size"), (0, u "()I"), (9, u "()Z"), (54, .class_ 78), (0, u "java/util/Collection"), (40, u "isEmpty")] 40

def k11c0 : Code := { maxStack := 1, maxLocals := 1, code := jdk_22_method_1_code, exceptionTable := #[], attributes := #[] }
def k11m0 : Method := { name := "<init>", desc := "()V", sig := { parameters := [], returnType := none }, accessFlags := 4, code := some k11c0 }
def k11m1 : Method := { name := "size", desc := "()I", sig := { parameters := [], returnType := some .int }, accessFlags := 1025, code := none }
def k11c2 : Code := { maxStack := 1, maxLocals := 1, code := jdk_22_method_4_code, exceptionTable := #[], attributes := #[] }
def k11m2 : Method := { name := "isEmpty", desc := "()Z", sig := { parameters := [], returnType := some .boolean }, accessFlags := 1, code := some k11c2 }
/-- java/util/AbstractCollection -/
def k11 : Class := { plain "java/util/AbstractCollection" (some 0) with
  accessFlags := 1057
  interfaces := #[10]
  cf := some (fileOf pool11 8 #[] #[{ accessFlags := 4, nameIndex := 5, descriptorIndex := 6, attributes := #[] }, { accessFlags := 1025, nameIndex := 11, descriptorIndex := 12, attributes := #[] }, { accessFlags := 1, nameIndex := 119, descriptorIndex := 22, attributes := #[] }] 1057 2 #[77] #[])
  fields := #[]
  methods := #[k11m0, k11m1, k11m2]
  instanceTypes := #[]
  staticTypes := #[]
  resolved := Array.replicate 160 none
  statics := none }

def pool12 : Array CpInfo := pool [(8, .class_ 10), (1, u "java/util/SequencedCollection"), (15, .class_ 27), (0, u "java/lang/Object"), (0, .class_ 29), (0, u "java/util/Collection")] 27

/-- java/util/SequencedCollection -/
def k12 : Class := { plain "java/util/SequencedCollection" (some 0) with
  accessFlags := 1537
  interfaces := #[10]
  cf := some (fileOf pool12 8 #[] #[] 1537 26 #[28] #[])
  fields := #[]
  methods := #[]
  instanceTypes := #[]
  staticTypes := #[]
  resolved := Array.replicate 57 none
  statics := none }

def pool13 : Array CpInfo := pool [(8, .class_ 10), (1, u "java/util/List"), (20, u "(Ljava/lang/Object;)V"), (16, u "<init>"), (11, u "add"), (3, u "(Ljava/lang/Object;)Z"), (10, u "get"), (0, u "(I)Ljava/lang/Object;"), (2, u "size"), (0, u "()I"), (7, u "of"), (1, .fieldref 91 92), (0, .class_ 93), (0, .nameAndType 94 95), (0, u "java/util/ImmutableCollections"), (0, u "EMPTY_LIST"), (0, u "Ljava/util/ImmutableCollections$ListN;"), (0, .class_ 97), (0, u "java/util/ImmutableCollections$List12"), (0, .methodref 96 99), (0, .nameAndType 48 31), (0, .methodref 96 101), (0, .nameAndType 48 102), (0, u "(Ljava/lang/Object;Ljava/lang/Object;)V"), (0, .class_ 104), (0, u "java/lang/Object"), (3, u "([Ljava/lang/Object;)Ljava/util/List;"), (0, .methodref 91 110), (0, .nameAndType 111 108), (0, u "listFromArray"), (0, .methodref 91 113), (0, .nameAndType 114 115), (0, u "listCopy"), (0, u "(Ljava/util/Collection;)Ljava/util/List;"), (3, u "()Ljava/util/List;"), (0, .class_ 121), (0, u "java/util/SequencedCollection"), (112, u "copyOf")] 16

def k13m0 : Method := { name := "size", desc := "()I", sig := { parameters := [], returnType := some .int }, accessFlags := 1025, code := none }
def k13m1 : Method := { name := "add", desc := "(Ljava/lang/Object;)Z", sig := { parameters := [(.object "java/lang/Object")], returnType := some .boolean }, accessFlags := 1025, code := none }
def k13m2 : Method := { name := "get", desc := "(I)Ljava/lang/Object;", sig := { parameters := [.int], returnType := some (.object "java/lang/Object") }, accessFlags := 1025, code := none }
def k13c3 : Code := { maxStack := 1, maxLocals := 0, code := jdk_40_method_36_code, exceptionTable := #[], attributes := #[] }
def k13m3 : Method := { name := "of", desc := "()Ljava/util/List;", sig := { parameters := [], returnType := some (.object "java/util/List") }, accessFlags := 9, code := some k13c3 }
def k13c4 : Code := { maxStack := 5, maxLocals := 2, code := jdk_40_method_47_code, exceptionTable := #[], attributes := #[] }
def k13m4 : Method := { name := "of", desc := "([Ljava/lang/Object;)Ljava/util/List;", sig := { parameters := [(.array (.object "java/lang/Object"))], returnType := some (.object "java/util/List") }, accessFlags := 137, code := some k13c4 }
def k13c5 : Code := { maxStack := 1, maxLocals := 1, code := jdk_40_method_48_code, exceptionTable := #[], attributes := #[] }
def k13m5 : Method := { name := "copyOf", desc := "(Ljava/util/Collection;)Ljava/util/List;", sig := { parameters := [(.object "java/util/Collection")], returnType := some (.object "java/util/List") }, accessFlags := 9, code := some k13c5 }
/-- java/util/List -/
def k13 : Class := { plain "java/util/List" (some 0) with
  accessFlags := 1537
  interfaces := #[12]
  cf := some (fileOf pool13 8 #[] #[{ accessFlags := 1025, nameIndex := 79, descriptorIndex := 80, attributes := #[] }, { accessFlags := 1025, nameIndex := 60, descriptorIndex := 64, attributes := #[] }, { accessFlags := 1025, nameIndex := 75, descriptorIndex := 76, attributes := #[] }, { accessFlags := 9, nameIndex := 88, descriptorIndex := 119, attributes := #[] }, { accessFlags := 137, nameIndex := 88, descriptorIndex := 108, attributes := #[] }, { accessFlags := 9, nameIndex := 234, descriptorIndex := 115, attributes := #[] }] 1537 103 #[120] #[])
  fields := #[]
  methods := #[k13m0, k13m1, k13m2, k13m3, k13m4, k13m5]
  instanceTypes := #[]
  staticTypes := #[]
  resolved := Array.replicate 251 none
  statics := none }

def pool14 : Array CpInfo := pool [(1, .methodref 2 3), (0, .class_ 4), (0, .nameAndType 5 6), (0, u "java/util/AbstractCollection"), (0, u "<init>"), (0, u "()V"), (0, .fieldref 8 9), (0, .class_ 10), (0, .nameAndType 11 12), (0, u "java/util/AbstractList"), (0, u "modCount"), (0, u "I"), (64, .class_ 78), (0, u "java/util/AbstractList$Itr"), (3, .class_ 83), (0, u "java/util/AbstractList$ListItr"), (9, .class_ 94), (0, u "java/util/AbstractList$RandomAccessSubList"), (3, .class_ 99), (0, u "java/util/AbstractList$SubList"), (33, .class_ 134), (0, u "java/util/List"), (73, .class_ 209), (0, u "java/util/AbstractList$SubList$1"), (0, .class_ 211), (0, u "java/util/AbstractList$RandomAccessSpliterator")] 6

def k14c0 : Code := { maxStack := 2, maxLocals := 1, code := jdk_39_method_1_code, exceptionTable := #[], attributes := #[] }
def k14m0 : Method := { name := "<init>", desc := "()V", sig := { parameters := [], returnType := none }, accessFlags := 4, code := some k14c0 }
/-- java/util/AbstractList -/
def k14 : Class := { plain "java/util/AbstractList" (some 11) with
  accessFlags := 1057
  interfaces := #[13]
  cf := some (fileOf pool14 8 #[.nestMembers #[93, 98, 208, 210, 82, 77]] #[{ accessFlags := 4, nameIndex := 5, descriptorIndex := 6, attributes := #[] }] 1057 2 #[133] #[{ accessFlags := 132, nameIndex := 11, descriptorIndex := 12, attributes := #[] }])
  fields := #[{ name := "modCount", type := .int, accessFlags := 132, slot := 0, constantValue := 0 }]
  methods := #[k14m0]
  instanceTypes := #[.int]
  staticTypes := #[]
  resolved := Array.replicate 218 none
  statics := none }

def pool15 : Array CpInfo := pool [(1, .class_ 2), (0, u "java/util/RandomAccess"), (0, .class_ 4), (0, u "java/lang/Object")] 2

/-- java/util/RandomAccess -/
def k15 : Class := { plain "java/util/RandomAccess" (some 0) with
  accessFlags := 1537
  interfaces := #[]
  cf := some (fileOf pool15 1 #[] #[] 1537 3 #[] #[])
  fields := #[]
  methods := #[]
  instanceTypes := #[]
  staticTypes := #[]
  resolved := Array.replicate 7 none
  statics := none }

def pool16 : Array CpInfo := pool [(1, .class_ 2), (0, u "java/lang/Cloneable"), (0, .class_ 4), (0, u "java/lang/Object")] 2

/-- java/lang/Cloneable -/
def k16 : Class := { plain "java/lang/Cloneable" (some 0) with
  accessFlags := 1537
  interfaces := #[]
  cf := some (fileOf pool16 1 #[] #[] 1537 3 #[] #[])
  fields := #[]
  methods := #[]
  instanceTypes := #[]
  staticTypes := #[]
  resolved := Array.replicate 7 none
  statics := none }

def pool17 : Array CpInfo := pool [(1, .methodref 2 3), (0, .class_ 4), (0, .nameAndType 5 6), (0, u "java/util/AbstractList"), (0, u "<init>"), (0, u "()V"), (0, .class_ 8), (0, u "java/lang/Object"), (0, .fieldref 10 11), (0, .class_ 12), (0, .nameAndType 13 14), (0, u "java/util/ArrayList"), (0, u "elementData"), (0, u "[Ljava/lang/Object;"), (2, u "EMPTY_ELEMENTDATA"), (21, .fieldref 10 40), (0, .nameAndType 41 14), (0, u "DEFAULTCAPACITY_EMPTY_ELEMENTDATA"), (4, u "toArray"), (0, u "()[Ljava/lang/Object;"), (0, .fieldref 10 49), (0, .nameAndType 50 51), (0, u "size"), (0, u "I"), (6, .class_ 60), (1, u "java/util/Arrays"), (0, u "copyOf"), (1, .fieldref 10 64), (0, .nameAndType 65 51), (0, u "modCount"), (0, .methodref 58 67), (0, .nameAndType 61 68), (0, u "([Ljava/lang/Object;I)[Ljava/lang/Object;"), (0, .methodref 10 70), (0, .nameAndType 71 72), (0, u "grow"), (0, u "(I)[Ljava/lang/Object;"), (6, .methodref 80 81), (0, .class_ 82), (0, .nameAndType 83 84), (0, u "java/lang/Math"), (0, u "max"), (0, u "(II)I"), (11, u "(Ljava/lang/Object;)Z"), (32, .methodref 10 130), (0, .nameAndType 71 47), (0, .methodref 10 132), (0, .nameAndType 133 134), (0, u "add"), (0, u "(Ljava/lang/Object;[Ljava/lang/Object;I)V"), (13, .class_ 149), (0, u "java/util/List"), (23, u "()Z"), (12, u "()I"), (75, .class_ 263), (0, u "java/util/ArrayList$ListItr"), (3, .class_ 268), (0, u "java/util/ArrayList$Itr"), (7, .class_ 277), (0, u "java/util/ArrayList$SubList"), (12, .class_ 291), (0, u "java/util/ArrayList$ArrayListSpliterator"), (37, .class_ 330), (0, u "java/util/RandomAccess"), (0, .class_ 332), (0, u "java/lang/Cloneable"), (0, .class_ 334), (0, u "java/io/Serializable"), (0, u "serialVersionUID"), (0, u "J"), (3, u "DEFAULT_CAPACITY"), (22, u "isEmpty"), (136, .class_ 501), (0, u "java/util/ArrayList$SubList$2"), (0, .class_ 503), (0, u "java/util/ArrayList$SubList$1")] 5

def k17c0 : Code := { maxStack := 2, maxLocals := 1, code := jdk_38_method_2_code, exceptionTable := #[], attributes := #[] }
def k17m0 : Method := { name := "<init>", desc := "()V", sig := { parameters := [], returnType := none }, accessFlags := 1, code := some k17c0 }
def k17c1 : Code := { maxStack := 4, maxLocals := 4, code := jdk_38_method_6_code, exceptionTable := #[], attributes := #[] }
def k17m1 : Method := { name := "grow", desc := "(I)[Ljava/lang/Object;", sig := { parameters := [.int], returnType := some (.array (.object "java/lang/Object")) }, accessFlags := 2, code := some k17c1 }
def k17c2 : Code := { maxStack := 3, maxLocals := 1, code := jdk_38_method_7_code, exceptionTable := #[], attributes := #[] }
def k17m2 : Method := { name := "grow", desc := "()[Ljava/lang/Object;", sig := { parameters := [], returnType := some (.array (.object "java/lang/Object")) }, accessFlags := 2, code := some k17c2 }
def k17c3 : Code := { maxStack := 1, maxLocals := 1, code := jdk_38_method_8_code, exceptionTable := #[], attributes := #[] }
def k17m3 : Method := { name := "size", desc := "()I", sig := { parameters := [], returnType := some .int }, accessFlags := 1, code := some k17c3 }
def k17c4 : Code := { maxStack := 1, maxLocals := 1, code := jdk_38_method_9_code, exceptionTable := #[], attributes := #[] }
def k17m4 : Method := { name := "isEmpty", desc := "()Z", sig := { parameters := [], returnType := some .boolean }, accessFlags := 1, code := some k17c4 }
def k17c5 : Code := { maxStack := 2, maxLocals := 1, code := jdk_38_method_16_code, exceptionTable := #[], attributes := #[] }
def k17m5 : Method := { name := "toArray", desc := "()[Ljava/lang/Object;", sig := { parameters := [], returnType := some (.array (.object "java/lang/Object")) }, accessFlags := 1, code := some k17c5 }
def k17c6 : Code := { maxStack := 3, maxLocals := 4, code := jdk_38_method_24_code, exceptionTable := #[], attributes := #[] }
def k17m6 : Method := { name := "add", desc := "(Ljava/lang/Object;[Ljava/lang/Object;I)V", sig := { parameters := [(.object "java/lang/Object"), (.array (.object "java/lang/Object")), .int], returnType := none }, accessFlags := 2, code := some k17c6 }
def k17c7 : Code := { maxStack := 4, maxLocals := 2, code := jdk_38_method_25_code, exceptionTable := #[], attributes := #[] }
def k17m7 : Method := { name := "add", desc := "(Ljava/lang/Object;)Z", sig := { parameters := [(.object "java/lang/Object")], returnType := some .boolean }, accessFlags := 1, code := some k17c7 }
/-- java/util/ArrayList -/
def k17 : Class := { plain "java/util/ArrayList" (some 14) with
  accessFlags := 33
  interfaces := #[13, 15, 16, 2]
  cf := some (fileOf pool17 10 #[.nestMembers #[290, 276, 500, 502, 262, 267]] #[{ accessFlags := 1, nameIndex := 5, descriptorIndex := 6, attributes := #[] }, { accessFlags := 2, nameIndex := 71, descriptorIndex := 72, attributes := #[] }, { accessFlags := 2, nameIndex := 71, descriptorIndex := 47, attributes := #[] }, { accessFlags := 1, nameIndex := 50, descriptorIndex := 186, attributes := #[] }, { accessFlags := 1, nameIndex := 363, descriptorIndex := 173, attributes := #[] }, { accessFlags := 1, nameIndex := 46, descriptorIndex := 47, attributes := #[] }, { accessFlags := 2, nameIndex := 133, descriptorIndex := 134, attributes := #[] }, { accessFlags := 1, nameIndex := 133, descriptorIndex := 96, attributes := #[] }] 33 2 #[148, 329, 331, 333] #[{ accessFlags := 26, nameIndex := 335, descriptorIndex := 336, attributes := #[] }, { accessFlags := 26, nameIndex := 340, descriptorIndex := 51, attributes := #[] }, { accessFlags := 26, nameIndex := 17, descriptorIndex := 14, attributes := #[] }, { accessFlags := 26, nameIndex := 41, descriptorIndex := 14, attributes := #[] }, { accessFlags := 128, nameIndex := 13, descriptorIndex := 14, attributes := #[] }, { accessFlags := 2, nameIndex := 50, descriptorIndex := 51, attributes := #[] }])
  fields := #[{ name := "serialVersionUID", type := .long, accessFlags := 26, slot := 0, constantValue := 0 }, { name := "DEFAULT_CAPACITY", type := .int, accessFlags := 26, slot := 1, constantValue := 0 }, { name := "EMPTY_ELEMENTDATA", type := (.array (.object "java/lang/Object")), accessFlags := 26, slot := 2, constantValue := 0 }, { name := "DEFAULTCAPACITY_EMPTY_ELEMENTDATA", type := (.array (.object "java/lang/Object")), accessFlags := 26, slot := 3, constantValue := 0 }, { name := "elementData", type := (.array (.object "java/lang/Object")), accessFlags := 128, slot := 1, constantValue := 0 }, { name := "size", type := .int, accessFlags := 2, slot := 2, constantValue := 0 }]
  methods := #[k17m0, k17m1, k17m2, k17m3, k17m4, k17m5, k17m6, k17m7]
  instanceTypes := #[.int, (.array (.object "java/lang/Object")), .int]
  staticTypes := #[.long, .int, (.array (.object "java/lang/Object")), (.array (.object "java/lang/Object"))]
  resolved := Array.replicate 509 none
  statics := some 1 }

def pool18 : Array CpInfo := pool [(2, .class_ 4), (1, u "java/lang/Object"), (0, u "<init>"), (0, u "()V"), (0, .class_ 8), (0, u "com/example/limentinus/limentinus/core/Quorum$Script"), (0, .class_ 10), (0, u "com/example/limentinus/limentinus/core/KeyScripts"), (7, .class_ 20), (1, u "java/util/List"), (0, u "of"), (1, .methodref 7 24), (0, .nameAndType 5 25), (0, u "(Ljava/lang/String;Ljava/util/List;Ljava/util/List;)V"), (0, .interfaceMethodref 18 27), (0, .nameAndType 28 29), (0, u "size"), (0, u "()I"), (0, .methodref 31 32), (0, .class_ 33), (0, .nameAndType 34 35), (0, u "java/util/Collections"), (0, u "nCopies"), (0, u "(ILjava/lang/Object;)Ljava/util/List;"), (0, .methodref 9 37), (0, .nameAndType 38 39), (0, u "release"), (0, u "(Ljava/util/List;Ljava/util/List;)Lcom/example/limentinus/limentinus/core/Quorum$Script;"), (0, .string 41), (0, u "local deleted = 0\nfor i = 1, #KEYS do\n    if redis.call('GET', KEYS[i]) == ARGV[i] then\n        deleted = deleted + redis.call('DEL', KEYS[i])\n    end\nend\nif deleted == #KEYS then\n    return 1\nend\nreturn 0\n"), (2, .string 45), (0, u "local existing = {}\nfor i = 1, #KEYS do\n    if redis.call('EXISTS', KEYS[i]) == 1 then\n        existing[#existing + 1] = i\n    end\nend\nreturn existing\n"), (0, .interfaceMethodref 18 47), (0, .nameAndType 21 48), (0, u "()Ljava/util/List;"), (12, u "ACQUIRE_SCRIPT"), (0, u "Ljava/lang/String;"), (1, u "RELEASE_SCRIPT"), (0, u "EXTEND_SCRIPT"), (0, u "EXISTING_SCRIPT"), (6, u "(Ljava/util/List;Ljava/lang/String;)Lcom/example/limentinus/limentinus/core/Quorum$Script;"), (3, u "existing"), (0, u "(Ljava/util/List;)Lcom/example/limentinus/limentinus/core/Quorum$Script;")] 7

def k18m0 : Method := { name := "<init>", desc := "()V", sig := { parameters := [], returnType := none }, accessFlags := 2, code := none }
def k18c1 : Code := { maxStack := 3, maxLocals := 2, code := prog_21_method_3_code, exceptionTable := #[], attributes := #[] }
def k18m1 : Method := { name := "release", desc := "(Ljava/util/List;Ljava/lang/String;)Lcom/example/limentinus/limentinus/core/Quorum$Script;", sig := { parameters := [(.object "java/util/List"), (.object "java/lang/String")], returnType := some (.object "com/example/limentinus/limentinus/core/Quorum$Script") }, accessFlags := 8, code := some k18c1 }
def k18c2 : Code := { maxStack := 5, maxLocals := 2, code := prog_21_method_4_code, exceptionTable := #[], attributes := #[] }
def k18m2 : Method := { name := "release", desc := "(Ljava/util/List;Ljava/util/List;)Lcom/example/limentinus/limentinus/core/Quorum$Script;", sig := { parameters := [(.object "java/util/List"), (.object "java/util/List")], returnType := some (.object "com/example/limentinus/limentinus/core/Quorum$Script") }, accessFlags := 8, code := some k18c2 }
def k18c3 : Code := { maxStack := 5, maxLocals := 1, code := prog_21_method_6_code, exceptionTable := #[], attributes := #[] }
def k18m3 : Method := { name := "existing", desc := "(Ljava/util/List;)Lcom/example/limentinus/limentinus/core/Quorum$Script;", sig := { parameters := [(.object "java/util/List")], returnType := some (.object "com/example/limentinus/limentinus/core/Quorum$Script") }, accessFlags := 8, code := some k18c3 }
/-- com/example/limentinus/limentinus/core/KeyScripts -/
def k18 : Class := { plain "com/example/limentinus/limentinus/core/KeyScripts" (some 0) with
  accessFlags := 32
  interfaces := #[]
  cf := some (fileOf pool18 9 #[] #[{ accessFlags := 2, nameIndex := 5, descriptorIndex := 6, attributes := #[] }, { accessFlags := 8, nameIndex := 38, descriptorIndex := 73, attributes := #[] }, { accessFlags := 8, nameIndex := 38, descriptorIndex := 39, attributes := #[] }, { accessFlags := 8, nameIndex := 77, descriptorIndex := 78, attributes := #[] }] 32 2 #[] #[{ accessFlags := 26, nameIndex := 61, descriptorIndex := 62, attributes := #[] }, { accessFlags := 26, nameIndex := 64, descriptorIndex := 62, attributes := #[] }, { accessFlags := 26, nameIndex := 65, descriptorIndex := 62, attributes := #[] }, { accessFlags := 26, nameIndex := 66, descriptorIndex := 62, attributes := #[] }])
  fields := #[{ name := "ACQUIRE_SCRIPT", type := (.object "java/lang/String"), accessFlags := 26, slot := 0, constantValue := 0 }, { name := "RELEASE_SCRIPT", type := (.object "java/lang/String"), accessFlags := 26, slot := 1, constantValue := 0 }, { name := "EXTEND_SCRIPT", type := (.object "java/lang/String"), accessFlags := 26, slot := 2, constantValue := 0 }, { name := "EXISTING_SCRIPT", type := (.object "java/lang/String"), accessFlags := 26, slot := 3, constantValue := 0 }]
  methods := #[k18m0, k18m1, k18m2, k18m3]
  instanceTypes := #[]
  staticTypes := #[(.object "java/lang/String"), (.object "java/lang/String"), (.object "java/lang/String"), (.object "java/lang/String")]
  resolved := Array.replicate 86 none
  statics := none }

def pool19 : Array CpInfo := pool [(2, .class_ 4), (1, u "java/lang/Object"), (0, u "<init>"), (0, u "()V"), (12, .class_ 20), (0, u "java/util/Collections"), (63, u "r"), (0, u "Ljava/util/Random;"), (80, .class_ 167), (0, u "java/util/Collections$UnmodifiableCollection"), (6, .class_ 175), (0, u "java/util/Collections$UnmodifiableSequencedCollection"), (6, .class_ 183), (0, u "java/util/Collections$UnmodifiableSet"), (6, .class_ 191), (0, u "java/util/Collections$UnmodifiableSequencedSet"), (6, .class_ 199), (0, u "java/util/Collections$UnmodifiableSortedSet"), (6, .class_ 207), (0, u "java/util/Collections$UnmodifiableNavigableSet"), (4, .class_ 213), (0, u "java/util/Collections$UnmodifiableList"), (1, .class_ 216), (0, u "java/util/Collections$UnmodifiableRandomAccessList"), (6, .class_ 224), (0, u "java/util/Collections$UnmodifiableMap"), (6, .class_ 232), (0, u "java/util/Collections$UnmodifiableSequencedMap"), (4, .class_ 238), (0, u "java/util/Collections$UnmodifiableSortedMap"), (6, .class_ 246), (0, u "java/util/Collections$UnmodifiableNavigableMap"), (3, .class_ 251), (0, u "java/util/Collections$SynchronizedCollection"), (4, .class_ 257), (0, u "java/util/Collections$SynchronizedSet"), (4, .class_ 263), (0, u "java/util/Collections$SynchronizedSortedSet"), (1, .class_ 266), (0, u "java/util/Collections$SynchronizedNavigableSet"), (1, .class_ 269), (0, u "java/util/Collections$SynchronizedRandomAccessList"), (1, .class_ 272), (0, u "java/util/Collections$SynchronizedList"), (5, .class_ 279), (0, u "java/util/Collections$SynchronizedMap"), (1, .class_ 282), (0, u "java/util/Collections$SynchronizedSortedMap"), (1, .class_ 285), (0, u "java/util/Collections$SynchronizedNavigableMap"), (1, .class_ 288), (0, u "java/util/Collections$CheckedCollection"), (11, .class_ 301), (0, u "java/util/Collections$CheckedQueue"), (3, .class_ 306), (0, u "java/util/Collections$CheckedSet"), (3, .class_ 311), (0, u "java/util/Collections$CheckedSortedSet"), (3, .class_ 316), (0, u "java/util/Collections$CheckedNavigableSet"), (3, .class_ 321), (0, u "java/util/Collections$CheckedRandomAccessList"), (3, .class_ 326), (0, u "java/util/Collections$CheckedList"), (1, .class_ 329), (0, u "java/util/Collections$CheckedMap"), (3, .class_ 334), (0, u "java/util/Collections$CheckedSortedMap"), (3, .class_ 339), (0, u "java/util/Collections$CheckedNavigableMap"), (4, .class_ 346), (1, u "java/util/Collections$EmptyIterator"), (3, .class_ 352), (1, u "java/util/Collections$EmptyListIterator"), (2, .class_ 357), (1, u "java/util/Collections$EmptyEnumeration"), (4, u "EMPTY_SET"), (0, u "Ljava/util/Set;"), (6, u "EMPTY_LIST"), (0, u "Ljava/util/List;"), (2, u "EMPTY_MAP"), (0, u "Ljava/util/Map;"), (4, .class_ 381), (0, u "java/util/Collections$SingletonSet"), (2, .class_ 385), (0, u "java/util/Collections$1"), (1, .class_ 388), (0, u "java/util/Collections$2"), (1, .class_ 391), (0, u "java/util/Collections$SingletonList"), (1, .class_ 394), (0, u "java/util/Collections$SingletonMap"), (22, .class_ 418), (0, u "java/util/Collections$CopiesList"), (0, .methodref 417 420), (0, .nameAndType 5 421), (0, u "(ILjava/lang/Object;)V"), (1, .class_ 425), (1, u "java/util/Collections$ReverseComparator"), (8, .class_ 435), (0, u "java/util/Collections$ReverseComparator2"), (6, .class_ 443), (0, u "java/util/Collections$3"), (25, .class_ 470), (0, u "java/util/Collections$SetFromMap"), (2, .class_ 474), (0, u "java/util/Collections$SequencedSetFromMap"), (3, .class_ 479), (0, u "java/util/Collections$AsLIFOQueue"), (11, .class_ 492), (0, u "java/util/Collections$EmptySet"), (1, .class_ 495), (0, u "java/util/Collections$EmptyList"), (1, .class_ 498), (0, u "java/util/Collections$EmptyMap"), (1, u "BINARYSEARCH_THRESHOLD"), (0, u "I"), (2, u "REVERSE_THRESHOLD"), (1, u "SHUFFLE_THRESHOLD"), (1, u "FILL_THRESHOLD"), (1, u "ROTATE_THRESHOLD"), (1, u "COPY_THRESHOLD"), (1, u "REPLACEALL_THRESHOLD"), (1, u "INDEXOFSUBLIST_THRESHOLD"), (273, u "nCopies"), (0, u "(ILjava/lang/Object;)Ljava/util/List;"), (58, .class_ 851), (0, u "java/util/Collections$CheckedMap$CheckedEntrySet"), (0, .class_ 853), (0, u "java/util/Collections$CheckedMap$CheckedEntrySet$CheckedEntry"), (0, .class_ 855), (0, u "java/util/Collections$CheckedMap$CheckedEntrySet$1"), (0, .class_ 857), (0, u "java/util/Collections$CheckedList$1"), (0, .class_ 859), (0, u "java/util/Collections$CheckedCollection$1"), (0, .class_ 861), (0, u "java/util/Collections$UnmodifiableNavigableMap$EmptyNavigableMap"), (0, .class_ 863), (0, u "java/util/Collections$UnmodifiableMap$UnmodifiableEntrySet"), (0, .class_ 865), (0, u "java/util/Collections$UnmodifiableMap$UnmodifiableEntrySet$UnmodifiableEntry"), (0, .class_ 867), (0, u "java/util/Collections$UnmodifiableMap$UnmodifiableEntrySet$UnmodifiableEntrySetSpliterator"), (0, .class_ 869), (0, u "java/util/Collections$UnmodifiableMap$UnmodifiableEntrySet$1"), (0, .class_ 871), (0, u "java/util/Collections$UnmodifiableList$1"), (0, .class_ 873), (0, u "java/util/Collections$UnmodifiableNavigableSet$EmptyNavigableSet"), (0, .class_ 875), (0, u "java/util/Collections$UnmodifiableCollection$1")] 57

def k19m0 : Method := { name := "<init>", desc := "()V", sig := { parameters := [], returnType := none }, accessFlags := 2, code := none }
def k19c1 : Code := { maxStack := 4, maxLocals := 2, code := jdk_79_method_76_code, exceptionTable := #[], attributes := #[] }
def k19m1 : Method := { name := "nCopies", desc := "(ILjava/lang/Object;)Ljava/util/List;", sig := { parameters := [.int, (.object "java/lang/Object")], returnType := some (.object "java/util/List") }, accessFlags := 9, code := some k19c1 }
/-- java/util/Collections -/
def k19 : Class := { plain "java/util/Collections" (some 0) with
  accessFlags := 33
  interfaces := #[]
  cf := some (fileOf pool19 19 #[.nestMembers #[478, 473, 469, 434, 423, 417, 393, 390, 380, 497, 494, 491, 355, 350, 344, 338, 333, 328, 850, 852, 854, 320, 325, 856, 315, 310, 305, 300, 287, 858, 284, 281, 278, 268, 271, 265, 262, 256, 250, 245, 860, 237, 231, 223, 862, 864, 866, 868, 215, 212, 870, 206, 872, 198, 190, 182, 174, 166, 874, 442, 387, 384]] #[{ accessFlags := 2, nameIndex := 5, descriptorIndex := 6, attributes := #[] }, { accessFlags := 9, nameIndex := 790, descriptorIndex := 791, attributes := #[] }] 33 2 #[] #[{ accessFlags := 26, nameIndex := 500, descriptorIndex := 501, attributes := #[] }, { accessFlags := 26, nameIndex := 504, descriptorIndex := 501, attributes := #[] }, { accessFlags := 26, nameIndex := 506, descriptorIndex := 501, attributes := #[] }, { accessFlags := 26, nameIndex := 508, descriptorIndex := 501, attributes := #[] }, { accessFlags := 26, nameIndex := 510, descriptorIndex := 501, attributes := #[] }, { accessFlags := 26, nameIndex := 512, descriptorIndex := 501, attributes := #[] }, { accessFlags := 26, nameIndex := 514, descriptorIndex := 501, attributes := #[] }, { accessFlags := 26, nameIndex := 516, descriptorIndex := 501, attributes := #[] }, { accessFlags := 10, nameIndex := 84, descriptorIndex := 85, attributes := #[] }, { accessFlags := 25, nameIndex := 362, descriptorIndex := 363, attributes := #[] }, { accessFlags := 25, nameIndex := 370, descriptorIndex := 371, attributes := #[] }, { accessFlags := 25, nameIndex := 374, descriptorIndex := 375, attributes := #[] }])
  fields := #[{ name := "BINARYSEARCH_THRESHOLD", type := .int, accessFlags := 26, slot := 0, constantValue := 0 }, { name := "REVERSE_THRESHOLD", type := .int, accessFlags := 26, slot := 1, constantValue := 0 }, { name := "SHUFFLE_THRESHOLD", type := .int, accessFlags := 26, slot := 2, constantValue := 0 }, { name := "FILL_THRESHOLD", type := .int, accessFlags := 26, slot := 3, constantValue := 0 }, { name := "ROTATE_THRESHOLD", type := .int, accessFlags := 26, slot := 4, constantValue := 0 }, { name := "COPY_THRESHOLD", type := .int, accessFlags := 26, slot := 5, constantValue := 0 }, { name := "REPLACEALL_THRESHOLD", type := .int, accessFlags := 26, slot := 6, constantValue := 0 }, { name := "INDEXOFSUBLIST_THRESHOLD", type := .int, accessFlags := 26, slot := 7, constantValue := 0 }, { name := "r", type := (.object "java/util/Random"), accessFlags := 10, slot := 8, constantValue := 0 }, { name := "EMPTY_SET", type := (.object "java/util/Set"), accessFlags := 25, slot := 9, constantValue := 0 }, { name := "EMPTY_LIST", type := (.object "java/util/List"), accessFlags := 25, slot := 10, constantValue := 0 }, { name := "EMPTY_MAP", type := (.object "java/util/Map"), accessFlags := 25, slot := 11, constantValue := 0 }]
  methods := #[k19m0, k19m1]
  instanceTypes := #[]
  staticTypes := #[.int, .int, .int, .int, .int, .int, .int, .int, (.object "java/util/Random"), (.object "java/util/Set"), (.object "java/util/List"), (.object "java/util/Map")]
  resolved := Array.replicate 933 none
  statics := none }

def pool20 : Array CpInfo := pool [(1, .methodref 2 3), (0, .class_ 4), (0, .nameAndType 5 6), (0, u "java/util/AbstractList"), (0, u "<init>"), (0, u "()V"), (0, .fieldref 8 9), (0, .class_ 10), (0, .nameAndType 11 12), (0, u "java/util/Collections$CopiesList"), (0, u "$assertionsDisabled"), (0, u "Z"), (3, .fieldref 8 17), (0, .nameAndType 18 19), (0, u "n"), (0, u "I"), (0, .fieldref 8 21), (0, .nameAndType 22 23), (0, u "element"), (0, u "Ljava/lang/Object;"), (1, .class_ 27), (1, u "java/util/Collections"), (22, .class_ 51), (0, u "java/lang/Object"), (0, .methodref 53 54), (0, .class_ 55), (0, .nameAndType 56 57), (0, u "java/util/Arrays"), (0, u "fill"), (0, u "([Ljava/lang/Object;IILjava/lang/Object;)V"), (51, u "(ILjava/lang/Object;)V"), (9, u "()I"), (68, .class_ 189), (0, u "java/util/RandomAccess"), (0, .class_ 191), (0, u "java/io/Serializable"), (0, u "serialVersionUID"), (0, u "J"), (15, u "size"), (16, u "toArray"), (0, u "()[Ljava/lang/Object;")] 58

def k20c0 : Code := { maxStack := 2, maxLocals := 3, code := jdk_2479_method_1_code, exceptionTable := #[], attributes := #[] }
def k20m0 : Method := { name := "<init>", desc := "(ILjava/lang/Object;)V", sig := { parameters := [.int, (.object "java/lang/Object")], returnType := none }, accessFlags := 0, code := some k20c0 }
def k20c1 : Code := { maxStack := 1, maxLocals := 1, code := jdk_2479_method_2_code, exceptionTable := #[], attributes := #[] }
def k20m1 : Method := { name := "size", desc := "()I", sig := { parameters := [], returnType := some .int }, accessFlags := 1, code := some k20c1 }
def k20c2 : Code := { maxStack := 4, maxLocals := 2, code := jdk_2479_method_8_code, exceptionTable := #[], attributes := #[] }
def k20m2 : Method := { name := "toArray", desc := "()[Ljava/lang/Object;", sig := { parameters := [], returnType := some (.array (.object "java/lang/Object")) }, accessFlags := 1, code := some k20c2 }
/-- java/util/Collections$CopiesList -/
def k20 : Class := { plain "java/util/Collections$CopiesList" (some 14) with
  accessFlags := 32
  interfaces := #[15, 2]
  cf := some (fileOf pool20 8 #[.nestHost 25] #[{ accessFlags := 0, nameIndex := 5, descriptorIndex := 109, attributes := #[] }, { accessFlags := 1, nameIndex := 209, descriptorIndex := 119, attributes := #[] }, { accessFlags := 1, nameIndex := 226, descriptorIndex := 227, attributes := #[] }] 32 2 #[188, 190] #[{ accessFlags := 26, nameIndex := 192, descriptorIndex := 193, attributes := #[] }, { accessFlags := 16, nameIndex := 18, descriptorIndex := 19, attributes := #[] }, { accessFlags := 16, nameIndex := 22, descriptorIndex := 23, attributes := #[] }, { accessFlags := 4120, nameIndex := 11, descriptorIndex := 12, attributes := #[] }])
  fields := #[{ name := "serialVersionUID", type := .long, accessFlags := 26, slot := 0, constantValue := 0 }, { name := "n", type := .int, accessFlags := 16, slot := 1, constantValue := 0 }, { name := "element", type := (.object "java/lang/Object"), accessFlags := 16, slot := 2, constantValue := 0 }, { name := "$assertionsDisabled", type := .boolean, accessFlags := 4120, slot := 1, constantValue := 0 }]
  methods := #[k20m0, k20m1, k20m2]
  instanceTypes := #[.int, .int, (.object "java/lang/Object")]
  staticTypes := #[.long, .boolean]
  resolved := Array.replicate 286 none
  statics := some 2 }

def pool21 : Array CpInfo := pool [(1, .methodref 2 3), (0, .class_ 4), (0, .nameAndType 5 6), (0, u "java/lang/Object"), (0, u "<init>"), (0, u "()V"), (0, .class_ 8), (0, u "java/lang/Record")] 13

def k21c0 : Code := { maxStack := 1, maxLocals := 1, code := jdk_30_method_1_code, exceptionTable := #[], attributes := #[] }
def k21m0 : Method := { name := "<init>", desc := "()V", sig := { parameters := [], returnType := none }, accessFlags := 4, code := some k21c0 }
/-- java/lang/Record -/
def k21 : Class := { plain "java/lang/Record" (some 0) with
  accessFlags := 1057
  interfaces := #[]
  cf := some (fileOf pool21 7 #[] #[{ accessFlags := 4, nameIndex := 5, descriptorIndex := 6, attributes := #[] }] 1057 2 #[] #[])
  fields := #[]
  methods := #[k21m0]
  instanceTypes := #[]
  staticTypes := #[]
  resolved := Array.replicate 22 none
  statics := none }

def pool22 : Array CpInfo := pool [(1, .methodref 2 3), (0, .class_ 4), (0, .nameAndType 5 6), (0, u "java/lang/Record"), (0, u "<init>"), (0, u "()V"), (0, .interfaceMethodref 8 9), (0, .class_ 10), (0, .nameAndType 11 12), (0, u "java/util/List"), (0, u "copyOf"), (0, u "(Ljava/util/Collection;)Ljava/util/List;"), (0, .fieldref 14 15), (0, .class_ 16), (0, .nameAndType 17 18), (0, u "com/example/limentinus/limentinus/core/Quorum$Script"), (0, u "source"), (0, u "Ljava/lang/String;"), (0, .fieldref 14 20), (0, .nameAndType 21 22), (0, u "keys"), (0, u "Ljava/util/List;"), (0, .fieldref 14 24), (0, .nameAndType 25 22), (0, u "args"), (14, u "(Ljava/lang/String;Ljava/util/List;Ljava/util/List;)V"), (4, u "()Ljava/lang/String;"), (2, u "()Ljava/util/List;"), (4, .class_ 54), (0, u "com/example/limentinus/limentinus/core/Quorum")] 21

def k22c0 : Code := { maxStack := 2, maxLocals := 4, code := prog_31_method_1_code, exceptionTable := #[], attributes := #[] }
def k22m0 : Method := { name := "<init>", desc := "(Ljava/lang/String;Ljava/util/List;Ljava/util/List;)V", sig := { parameters := [(.object "java/lang/String"), (.object "java/util/List"), (.object "java/util/List")], returnType := none }, accessFlags := 0, code := some k22c0 }
def k22c1 : Code := { maxStack := 1, maxLocals := 1, code := prog_31_method_5_code, exceptionTable := #[], attributes := #[] }
def k22m1 : Method := { name := "source", desc := "()Ljava/lang/String;", sig := { parameters := [], returnType := some (.object "java/lang/String") }, accessFlags := 1, code := some k22c1 }
def k22c2 : Code := { maxStack := 1, maxLocals := 1, code := prog_31_method_6_code, exceptionTable := #[], attributes := #[] }
def k22m2 : Method := { name := "keys", desc := "()Ljava/util/List;", sig := { parameters := [], returnType := some (.object "java/util/List") }, accessFlags := 1, code := some k22c2 }
def k22c3 : Code := { maxStack := 1, maxLocals := 1, code := prog_31_method_7_code, exceptionTable := #[], attributes := #[] }
def k22m3 : Method := { name := "args", desc := "()Ljava/util/List;", sig := { parameters := [], returnType := some (.object "java/util/List") }, accessFlags := 1, code := some k22c3 }
/-- com/example/limentinus/limentinus/core/Quorum$Script -/
def k22 : Class := { plain "com/example/limentinus/limentinus/core/Quorum$Script" (some 21) with
  accessFlags := 48
  interfaces := #[]
  cf := some (fileOf pool22 14 #[.nestHost 53] #[{ accessFlags := 0, nameIndex := 5, descriptorIndex := 40, attributes := #[] }, { accessFlags := 1, nameIndex := 17, descriptorIndex := 45, attributes := #[] }, { accessFlags := 1, nameIndex := 21, descriptorIndex := 48, attributes := #[] }, { accessFlags := 1, nameIndex := 25, descriptorIndex := 48, attributes := #[] }] 48 2 #[] #[{ accessFlags := 18, nameIndex := 17, descriptorIndex := 18, attributes := #[] }, { accessFlags := 18, nameIndex := 21, descriptorIndex := 22, attributes := #[] }, { accessFlags := 18, nameIndex := 25, descriptorIndex := 22, attributes := #[] }])
  fields := #[{ name := "source", type := (.object "java/lang/String"), accessFlags := 18, slot := 0, constantValue := 0 }, { name := "keys", type := (.object "java/util/List"), accessFlags := 18, slot := 1, constantValue := 0 }, { name := "args", type := (.object "java/util/List"), accessFlags := 18, slot := 2, constantValue := 0 }]
  methods := #[k22m0, k22m1, k22m2, k22m3]
  instanceTypes := #[(.object "java/lang/String"), (.object "java/util/List"), (.object "java/util/List")]
  staticTypes := #[]
  resolved := Array.replicate 76 none
  statics := none }

def pool23 : Array CpInfo := pool [(2, .class_ 4), (1, u "java/lang/Object"), (0, u "<init>"), (0, u "()V"), (3, .class_ 11), (0, u "java/util/ImmutableCollections$List12"), (0, .class_ 13), (0, u "java/util/ImmutableCollections$ListN"), (0, .fieldref 12 15), (0, .nameAndType 16 17), (0, u "allowNulls"), (0, u "Z"), (0, .class_ 19), (0, u "java/util/List"), (0, .interfaceMethodref 21 22), (0, .class_ 23), (0, .nameAndType 24 25), (0, u "java/util/Collection"), (0, u "isEmpty"), (0, u "()Z"), (0, .interfaceMethodref 18 27), (0, .nameAndType 28 29), (0, u "of"), (0, u "()Ljava/util/List;"), (0, .interfaceMethodref 21 31), (0, .nameAndType 32 33), (0, u "toArray"), (0, u "()[Ljava/lang/Object;"), (0, .interfaceMethodref 18 35), (0, .nameAndType 28 36), (0, u "([Ljava/lang/Object;)Ljava/util/List;"), (0, .methodref 38 39), (0, .class_ 40), (0, .nameAndType 41 42), (0, u "java/util/Objects"), (0, u "requireNonNull"), (0, u "(Ljava/lang/Object;)Ljava/lang/Object;"), (0, .methodref 12 44), (0, .nameAndType 5 45), (0, u "([Ljava/lang/Object;Z)V"), (1, .class_ 49), (1, u "java/util/ImmutableCollections"), (0, u "$assertionsDisabled"), (5, u "[Ljava/lang/Object;"), (5, u "EMPTY_LIST"), (0, u "Ljava/util/ImmutableCollections$ListN;"), (8, u "EMPTY_LIST_NULLS"), (22, u "SALT32L"), (0, u "J"), (2, u "REVERSE"), (6, u "archivedObjects"), (2, u "EMPTY"), (0, u "Ljava/lang/Object;"), (0, .class_ 112), (0, u "java/util/ImmutableCollections$SetN"), (5, u "EMPTY_SET"), (0, u "Ljava/util/ImmutableCollections$SetN;"), (0, .class_ 121), (0, u "java/util/ImmutableCollections$MapN"), (3, u "EMPTY_MAP"), (0, u "Ljava/util/ImmutableCollections$MapN;"), (4, u "EXPAND_FACTOR"), (0, u "I"), (9, u "listCopy"), (0, u "(Ljava/util/Collection;)Ljava/util/List;"), (7, u "listFromArray"), (17, .class_ 170), (0, u "java/util/ImmutableCollections$MapN$MapNIterator"), (0, .class_ 172), (0, u "java/util/ImmutableCollections$MapN$1"), (0, .class_ 174), (0, u "java/util/ImmutableCollections$Map1"), (0, .class_ 176), (0, u "java/util/ImmutableCollections$AbstractImmutableMap"), (0, .class_ 178), (0, u "java/util/ImmutableCollections$SetN$SetNIterator"), (0, .class_ 180), (0, u "java/util/ImmutableCollections$Set12"), (0, .class_ 182), (0, u "java/util/ImmutableCollections$Set12$1"), (0, .class_ 184), (0, u "java/util/ImmutableCollections$AbstractImmutableSet"), (0, .class_ 186), (0, u "java/util/ImmutableCollections$SubList"), (0, .class_ 188), (0, u "java/util/ImmutableCollections$ListItr"), (0, .class_ 190), (0, u "java/util/ImmutableCollections$AbstractImmutableList"), (0, .class_ 192), (0, u "java/util/ImmutableCollections$AbstractImmutableCollection"), (0, .class_ 194), (0, u "java/util/ImmutableCollections$Access"), (0, .class_ 196), (0, u "java/util/ImmutableCollections$Access$1")] 16

def k23m0 : Method := { name := "<init>", desc := "()V", sig := { parameters := [], returnType := none }, accessFlags := 2, code := none }
def k23c1 : Code := { maxStack := 1, maxLocals := 2, code := jdk_56_method_3_code, exceptionTable := #[], attributes := #[] }
def k23m1 : Method := { name := "listCopy", desc := "(Ljava/util/Collection;)Ljava/util/List;", sig := { parameters := [(.object "java/util/Collection")], returnType := some (.object "java/util/List") }, accessFlags := 8, code := some k23c1 }
def k23c2 : Code := { maxStack := 4, maxLocals := 3, code := jdk_56_method_4_code, exceptionTable := #[], attributes := #[] }
def k23m2 : Method := { name := "listFromArray", desc := "([Ljava/lang/Object;)Ljava/util/List;", sig := { parameters := [(.array (.object "java/lang/Object"))], returnType := some (.object "java/util/List") }, accessFlags := 136, code := some k23c2 }
/-- java/util/ImmutableCollections -/
def k23 : Class := { plain "java/util/ImmutableCollections" (some 0) with
  accessFlags := 32
  interfaces := #[]
  cf := some (fileOf pool23 47 #[.nestMembers #[120, 169, 171, 173, 175, 111, 177, 179, 181, 183, 12, 10, 185, 187, 189, 191, 193, 195]] #[{ accessFlags := 2, nameIndex := 5, descriptorIndex := 6, attributes := #[] }, { accessFlags := 8, nameIndex := 142, descriptorIndex := 143, attributes := #[] }, { accessFlags := 136, nameIndex := 151, descriptorIndex := 36, attributes := #[] }] 32 2 #[] #[{ accessFlags := 26, nameIndex := 95, descriptorIndex := 96, attributes := #[] }, { accessFlags := 26, nameIndex := 99, descriptorIndex := 17, attributes := #[] }, { accessFlags := 10, nameIndex := 106, descriptorIndex := 56, attributes := #[] }, { accessFlags := 26, nameIndex := 109, descriptorIndex := 110, attributes := #[] }, { accessFlags := 24, nameIndex := 62, descriptorIndex := 63, attributes := #[] }, { accessFlags := 24, nameIndex := 72, descriptorIndex := 63, attributes := #[] }, { accessFlags := 24, nameIndex := 118, descriptorIndex := 119, attributes := #[] }, { accessFlags := 24, nameIndex := 125, descriptorIndex := 126, attributes := #[] }, { accessFlags := 24, nameIndex := 131, descriptorIndex := 132, attributes := #[] }, { accessFlags := 4120, nameIndex := 50, descriptorIndex := 17, attributes := #[] }])
  fields := #[{ name := "SALT32L", type := .long, accessFlags := 26, slot := 0, constantValue := 0 }, { name := "REVERSE", type := .boolean, accessFlags := 26, slot := 1, constantValue := 0 }, { name := "archivedObjects", type := (.array (.object "java/lang/Object")), accessFlags := 10, slot := 2, constantValue := 0 }, { name := "EMPTY", type := (.object "java/lang/Object"), accessFlags := 26, slot := 3, constantValue := 0 }, { name := "EMPTY_LIST", type := (.object "java/util/ImmutableCollections$ListN"), accessFlags := 24, slot := 4, constantValue := 0 }, { name := "EMPTY_LIST_NULLS", type := (.object "java/util/ImmutableCollections$ListN"), accessFlags := 24, slot := 5, constantValue := 0 }, { name := "EMPTY_SET", type := (.object "java/util/ImmutableCollections$SetN"), accessFlags := 24, slot := 6, constantValue := 0 }, { name := "EMPTY_MAP", type := (.object "java/util/ImmutableCollections$MapN"), accessFlags := 24, slot := 7, constantValue := 0 }, { name := "EXPAND_FACTOR", type := .int, accessFlags := 24, slot := 8, constantValue := 0 }, { name := "$assertionsDisabled", type := .boolean, accessFlags := 4120, slot := 9, constantValue := 0 }]
  methods := #[k23m0, k23m1, k23m2]
  instanceTypes := #[]
  staticTypes := #[.long, .boolean, (.array (.object "java/lang/Object")), (.object "java/lang/Object"), (.object "java/util/ImmutableCollections$ListN"), (.object "java/util/ImmutableCollections$ListN"), (.object "java/util/ImmutableCollections$SetN"), (.object "java/util/ImmutableCollections$MapN"), .int, .boolean]
  resolved := Array.replicate 213 none
  statics := some 3 }

def pool24 : Array CpInfo := pool [(1, .methodref 2 3), (0, .class_ 4), (0, .nameAndType 5 6), (0, u "java/util/AbstractCollection"), (0, u "<init>"), (0, u "()V"), (1, .class_ 10), (1, u "java/util/ImmutableCollections"), (2, .class_ 14), (0, u "java/util/ImmutableCollections$AbstractImmutableCollection")] 41

def k24c0 : Code := { maxStack := 1, maxLocals := 1, code := jdk_47_method_1_code, exceptionTable := #[], attributes := #[] }
def k24m0 : Method := { name := "<init>", desc := "()V", sig := { parameters := [], returnType := none }, accessFlags := 0, code := some k24c0 }
/-- java/util/ImmutableCollections$AbstractImmutableCollection -/
def k24 : Class := { plain "java/util/ImmutableCollections$AbstractImmutableCollection" (some 11) with
  accessFlags := 1056
  interfaces := #[]
  cf := some (fileOf pool24 13 #[.nestHost 8] #[{ accessFlags := 0, nameIndex := 5, descriptorIndex := 6, attributes := #[] }] 1056 2 #[] #[])
  fields := #[]
  methods := #[k24m0]
  instanceTypes := #[]
  staticTypes := #[]
  resolved := Array.replicate 56 none
  statics := none }

def pool25 : Array CpInfo := pool [(1, .methodref 2 3), (0, .class_ 4), (0, .nameAndType 5 6), (0, u "java/util/ImmutableCollections$AbstractImmutableCollection"), (0, u "<init>"), (0, u "()V"), (1, .class_ 10), (1, u "java/util/ImmutableCollections"), (3, .class_ 16), (1, u "java/util/ImmutableCollections$AbstractImmutableList"), (60, .class_ 78), (0, u "java/util/List"), (45, .class_ 125), (0, u "java/util/RandomAccess")] 70

def k25c0 : Code := { maxStack := 1, maxLocals := 1, code := jdk_46_method_1_code, exceptionTable := #[], attributes := #[] }
def k25m0 : Method := { name := "<init>", desc := "()V", sig := { parameters := [], returnType := none }, accessFlags := 0, code := some k25c0 }
/-- java/util/ImmutableCollections$AbstractImmutableList -/
def k25 : Class := { plain "java/util/ImmutableCollections$AbstractImmutableList" (some 24) with
  accessFlags := 1056
  interfaces := #[13, 15]
  cf := some (fileOf pool25 14 #[.nestHost 8] #[{ accessFlags := 0, nameIndex := 5, descriptorIndex := 6, attributes := #[] }] 1056 2 #[77, 124] #[])
  fields := #[]
  methods := #[k25m0]
  instanceTypes := #[]
  staticTypes := #[]
  resolved := Array.replicate 196 none
  statics := none }

def pool26 : Array CpInfo := pool [(1, .methodref 2 3), (0, .class_ 4), (0, .nameAndType 5 6), (0, u "java/util/ImmutableCollections$AbstractImmutableList"), (0, u "<init>"), (0, u "()V"), (0, .methodref 8 9), (0, .class_ 10), (0, .nameAndType 11 12), (0, u "java/util/Objects"), (0, u "requireNonNull"), (0, u "(Ljava/lang/Object;)Ljava/lang/Object;"), (0, .fieldref 14 15), (0, .class_ 16), (0, .nameAndType 17 18), (0, u "java/util/ImmutableCollections$List12"), (0, u "e0"), (0, u "Ljava/lang/Object;"), (0, .fieldref 20 21), (0, .class_ 22), (0, .nameAndType 23 18), (0, u "java/util/ImmutableCollections"), (0, u "EMPTY"), (0, .fieldref 14 25), (0, .nameAndType 26 18), (0, u "e1"), (24, u "size"), (0, u "()I"), (17, .class_ 71), (0, u "java/io/Serializable"), (4, u "(Ljava/lang/Object;)V"), (8, u "(Ljava/lang/Object;Ljava/lang/Object;)V"), (4, u "get"), (0, u "(I)Ljava/lang/Object;")] 33

def k26c0 : Code := { maxStack := 2, maxLocals := 2, code := jdk_44_method_1_code, exceptionTable := #[], attributes := #[] }
def k26m0 : Method := { name := "<init>", desc := "(Ljava/lang/Object;)V", sig := { parameters := [(.object "java/lang/Object")], returnType := none }, accessFlags := 0, code := some k26c0 }
def k26c1 : Code := { maxStack := 2, maxLocals := 3, code := jdk_44_method_2_code, exceptionTable := #[], attributes := #[] }
def k26m1 : Method := { name := "<init>", desc := "(Ljava/lang/Object;Ljava/lang/Object;)V", sig := { parameters := [(.object "java/lang/Object"), (.object "java/lang/Object")], returnType := none }, accessFlags := 0, code := some k26c1 }
def k26c2 : Code := { maxStack := 2, maxLocals := 1, code := jdk_44_method_3_code, exceptionTable := #[], attributes := #[] }
def k26m2 : Method := { name := "size", desc := "()I", sig := { parameters := [], returnType := some .int }, accessFlags := 1, code := some k26c2 }
def k26c3 : Code := { maxStack := 2, maxLocals := 2, code := jdk_44_method_5_code, exceptionTable := #[], attributes := #[] }
def k26m3 : Method := { name := "get", desc := "(I)Ljava/lang/Object;", sig := { parameters := [.int], returnType := some (.object "java/lang/Object") }, accessFlags := 1, code := some k26c3 }
/-- java/util/ImmutableCollections$List12 -/
def k26 : Class := { plain "java/util/ImmutableCollections$List12" (some 25) with
  accessFlags := 48
  interfaces := #[2]
  cf := some (fileOf pool26 14 #[.nestHost 20] #[{ accessFlags := 0, nameIndex := 5, descriptorIndex := 76, attributes := #[] }, { accessFlags := 0, nameIndex := 5, descriptorIndex := 85, attributes := #[] }, { accessFlags := 1, nameIndex := 51, descriptorIndex := 52, attributes := #[] }, { accessFlags := 1, nameIndex := 90, descriptorIndex := 91, attributes := #[] }] 48 2 #[70] #[{ accessFlags := 18, nameIndex := 17, descriptorIndex := 18, attributes := #[] }, { accessFlags := 18, nameIndex := 26, descriptorIndex := 18, attributes := #[] }])
  fields := #[{ name := "e0", type := (.object "java/lang/Object"), accessFlags := 18, slot := 0, constantValue := 0 }, { name := "e1", type := (.object "java/lang/Object"), accessFlags := 18, slot := 1, constantValue := 0 }]
  methods := #[k26m0, k26m1, k26m2, k26m3]
  instanceTypes := #[(.object "java/lang/Object"), (.object "java/lang/Object")]
  staticTypes := #[]
  resolved := Array.replicate 125 none
  statics := none }

def pool27 : Array CpInfo := pool [(1, .methodref 2 3), (0, .class_ 4), (0, .nameAndType 5 6), (0, u "java/util/ImmutableCollections$AbstractImmutableList"), (0, u "<init>"), (0, u "()V"), (0, .fieldref 8 9), (0, .class_ 10), (0, .nameAndType 11 12), (0, u "java/util/ImmutableCollections$ListN"), (0, u "elements"), (0, u "[Ljava/lang/Object;"), (0, .fieldref 8 14), (0, .nameAndType 15 16), (0, u "allowNulls"), (0, u "Z"), (42, .class_ 60), (0, u "java/io/Serializable"), (4, u "([Ljava/lang/Object;Z)V"), (11, u "size"), (0, u "()I"), (0, u "get"), (0, u "(I)Ljava/lang/Object;"), (33, .class_ 115), (0, u "java/util/ImmutableCollections")] 3

def k27c0 : Code := { maxStack := 2, maxLocals := 3, code := jdk_45_method_1_code, exceptionTable := #[], attributes := #[] }
def k27m0 : Method := { name := "<init>", desc := "([Ljava/lang/Object;Z)V", sig := { parameters := [(.array (.object "java/lang/Object")), .boolean], returnType := none }, accessFlags := 2, code := some k27c0 }
def k27c1 : Code := { maxStack := 1, maxLocals := 1, code := jdk_45_method_3_code, exceptionTable := #[], attributes := #[] }
def k27m1 : Method := { name := "size", desc := "()I", sig := { parameters := [], returnType := some .int }, accessFlags := 1, code := some k27c1 }
def k27c2 : Code := { maxStack := 2, maxLocals := 2, code := jdk_45_method_4_code, exceptionTable := #[], attributes := #[] }
def k27m2 : Method := { name := "get", desc := "(I)Ljava/lang/Object;", sig := { parameters := [.int], returnType := some (.object "java/lang/Object") }, accessFlags := 1, code := some k27c2 }
/-- java/util/ImmutableCollections$ListN -/
def k27 : Class := { plain "java/util/ImmutableCollections$ListN" (some 25) with
  accessFlags := 48
  interfaces := #[2]
  cf := some (fileOf pool27 8 #[.nestHost 114] #[{ accessFlags := 2, nameIndex := 5, descriptorIndex := 65, attributes := #[] }, { accessFlags := 1, nameIndex := 77, descriptorIndex := 78, attributes := #[] }, { accessFlags := 1, nameIndex := 79, descriptorIndex := 80, attributes := #[] }] 48 2 #[59] #[{ accessFlags := 18, nameIndex := 11, descriptorIndex := 12, attributes := #[] }, { accessFlags := 18, nameIndex := 15, descriptorIndex := 16, attributes := #[] }])
  fields := #[{ name := "elements", type := (.array (.object "java/lang/Object")), accessFlags := 18, slot := 0, constantValue := 0 }, { name := "allowNulls", type := .boolean, accessFlags := 18, slot := 1, constantValue := 0 }]
  methods := #[k27m0, k27m1, k27m2]
  instanceTypes := #[(.array (.object "java/lang/Object")), .boolean]
  staticTypes := #[]
  resolved := Array.replicate 119 none
  statics := none }

def pool28 : Array CpInfo := pool [(4, .class_ 6), (1, u "java/lang/Object"), (0, u "<init>"), (0, u "()V"), (5, .class_ 16), (1, u "java/lang/StringLatin1"), (104, u "$assertionsDisabled"), (0, u "Z"), (98, .class_ 223), (1, u "java/lang/StringLatin1$LinesSpliterator"), (57, u "equals"), (0, u "([B[B)Z"), (107, .class_ 391), (0, u "java/lang/StringLatin1$CharsSpliterator")] 3

def k28m0 : Method := { name := "<init>", desc := "()V", sig := { parameters := [], returnType := none }, accessFlags := 0, code := none }
def k28c1 : Code := { maxStack := 3, maxLocals := 3, code := jdk_43_method_13_code, exceptionTable := #[], attributes := #[] }
def k28m1 : Method := { name := "equals", desc := "([B[B)Z", sig := { parameters := [(.array .byte), (.array .byte)], returnType := some .boolean }, accessFlags := 9, code := some k28c1 }
/-- java/lang/StringLatin1 -/
def k28 : Class := { plain "java/lang/StringLatin1" (some 0) with
  accessFlags := 48
  interfaces := #[]
  cf := some (fileOf pool28 14 #[.nestMembers #[390, 221]] #[{ accessFlags := 0, nameIndex := 7, descriptorIndex := 8, attributes := #[] }, { accessFlags := 9, nameIndex := 281, descriptorIndex := 282, attributes := #[] }] 48 4 #[] #[{ accessFlags := 4120, nameIndex := 121, descriptorIndex := 122, attributes := #[] }])
  fields := #[{ name := "$assertionsDisabled", type := .boolean, accessFlags := 4120, slot := 0, constantValue := 0 }]
  methods := #[k28m0, k28m1]
  instanceTypes := #[]
  staticTypes := #[.boolean]
  resolved := Array.replicate 395 none
  statics := none }

def pool29 : Array CpInfo := pool [(1, .class_ 2), (0, u "java/lang/Math"), (1, .class_ 6), (1, u "java/lang/Object"), (0, u "<init>"), (0, u "()V"), (89, .class_ 100), (1, u "java/lang/Math$RandomNumberGeneratorHolder"), (71, u "negativeZeroFloatBits"), (0, u "J"), (2, u "negativeZeroDoubleBits"), (21, u "max"), (2, u "min"), (43, u "$assertionsDisabled"), (0, u "Z"), (88, u "(II)I"), (2, u "twoToTheDoubleScaleDown"), (0, u "D"), (4, u "twoToTheDoubleScaleUp"), (9, u "E"), (3, u "PI"), (2, u "TAU"), (2, u "DEGREES_TO_RADIANS"), (0, u "RADIANS_TO_DEGREES")] 94

def k29m0 : Method := { name := "<init>", desc := "()V", sig := { parameters := [], returnType := none }, accessFlags := 2, code := none }
def k29c1 : Code := { maxStack := 2, maxLocals := 2, code := jdk_29_method_65_code, exceptionTable := #[], attributes := #[] }
def k29m1 : Method := { name := "max", desc := "(II)I", sig := { parameters := [.int, .int], returnType := some .int }, accessFlags := 9, code := some k29c1 }
def k29c2 : Code := { maxStack := 2, maxLocals := 2, code := jdk_29_method_69_code, exceptionTable := #[], attributes := #[] }
def k29m2 : Method := { name := "min", desc := "(II)I", sig := { parameters := [.int, .int], returnType := some .int }, accessFlags := 9, code := some k29c2 }
/-- java/lang/Math -/
def k29 : Class := { plain "java/lang/Math" (some 0) with
  accessFlags := 49
  interfaces := #[]
  cf := some (fileOf pool29 1 #[.nestMembers #[98]] #[{ accessFlags := 2, nameIndex := 7, descriptorIndex := 8, attributes := #[] }, { accessFlags := 9, nameIndex := 198, descriptorIndex := 335, attributes := #[] }, { accessFlags := 9, nameIndex := 201, descriptorIndex := 335, attributes := #[] }] 49 4 #[] #[{ accessFlags := 25, nameIndex := 354, descriptorIndex := 339, attributes := #[] }, { accessFlags := 25, nameIndex := 358, descriptorIndex := 339, attributes := #[] }, { accessFlags := 25, nameIndex := 361, descriptorIndex := 339, attributes := #[] }, { accessFlags := 26, nameIndex := 364, descriptorIndex := 339, attributes := #[] }, { accessFlags := 26, nameIndex := 365, descriptorIndex := 339, attributes := #[] }, { accessFlags := 26, nameIndex := 172, descriptorIndex := 173, attributes := #[] }, { accessFlags := 26, nameIndex := 176, descriptorIndex := 173, attributes := #[] }, { accessFlags := 8, nameIndex := 344, descriptorIndex := 339, attributes := #[] }, { accessFlags := 8, nameIndex := 338, descriptorIndex := 339, attributes := #[] }, { accessFlags := 4120, nameIndex := 245, descriptorIndex := 246, attributes := #[] }])
  fields := #[{ name := "E", type := .double, accessFlags := 25, slot := 0, constantValue := 0 }, { name := "PI", type := .double, accessFlags := 25, slot := 1, constantValue := 0 }, { name := "TAU", type := .double, accessFlags := 25, slot := 2, constantValue := 0 }, { name := "DEGREES_TO_RADIANS", type := .double, accessFlags := 26, slot := 3, constantValue := 0 }, { name := "RADIANS_TO_DEGREES", type := .double, accessFlags := 26, slot := 4, constantValue := 0 }, { name := "negativeZeroFloatBits", type := .long, accessFlags := 26, slot := 5, constantValue := 0 }, { name := "negativeZeroDoubleBits", type := .long, accessFlags := 26, slot := 6, constantValue := 0 }, { name := "twoToTheDoubleScaleUp", type := .double, accessFlags := 8, slot := 7, constantValue := 0 }, { name := "twoToTheDoubleScaleDown", type := .double, accessFlags := 8, slot := 8, constantValue := 0 }, { name := "$assertionsDisabled", type := .boolean, accessFlags := 4120, slot := 9, constantValue := 0 }]
  methods := #[k29m0, k29m1, k29m2]
  instanceTypes := #[]
  staticTypes := #[.double, .double, .double, .double, .double, .long, .long, .double, .double, .boolean]
  resolved := Array.replicate 460 none
  statics := none }

def pool30 : Array CpInfo := pool [(2, .class_ 4), (1, u "java/lang/Object"), (0, u "<init>"), (0, u "()V"), (6, .methodref 14 15), (0, .class_ 16), (0, .nameAndType 17 18), (0, u "java/util/Arrays"), (0, u "rangeCheck"), (0, u "(III)V"), (55, .class_ 76), (1, u "java/util/Arrays$NaturalOrder"), (9, .methodref 2 87), (0, .nameAndType 88 89), (0, u "getClass"), (0, u "()Ljava/lang/Class;"), (20, .class_ 111), (0, u "[Ljava/lang/Object;"), (1, .class_ 115), (1, u "java/util/Arrays$LegacyMergeSort"), (1, u "Z"), (32, .methodref 151 152), (0, .class_ 153), (0, .nameAndType 154 155), (0, u "java/lang/System"), (0, u "arraycopy"), (0, u "(Ljava/lang/Object;ILjava/lang/Object;II)V"), (144, .methodref 14 301), (0, .nameAndType 302 303), (0, u "copyOf"), (0, u "([Ljava/lang/Object;ILjava/lang/Class;)[Ljava/lang/Object;"), (0, .methodref 305 306), (0, .class_ 307), (0, .nameAndType 308 309), (0, u "java/lang/Math"), (0, u "min"), (0, u "(II)I"), (65, .class_ 376), (0, u "java/util/Arrays$ArrayList"), (68, u "$assertionsDisabled"), (269, u "MIN_ARRAY_SORT_GRAN"), (0, u "I"), (2, u "INSERTIONSORT_THRESHOLD"), (120, u "fill"), (18, u "([Ljava/lang/Object;IILjava/lang/Object;)V"), (0, u "([Ljava/lang/Object;I)[Ljava/lang/Object;"), (114, .class_ 976), (0, u "java/util/Arrays$ArrayItr")] 52

def k30m0 : Method := { name := "<init>", desc := "()V", sig := { parameters := [], returnType := none }, accessFlags := 2, code := none }
def k30c1 : Code := { maxStack := 4, maxLocals := 3, code := jdk_65_method_30_code, exceptionTable := #[], attributes := #[] }
def k30m1 : Method := { name := "rangeCheck", desc := "(III)V", sig := { parameters := [.int, .int, .int], returnType := none }, accessFlags := 8, code := some k30c1 }
def k30c2 : Code := { maxStack := 3, maxLocals := 5, code := jdk_65_method_118_code, exceptionTable := #[], attributes := #[] }
def k30m2 : Method := { name := "fill", desc := "([Ljava/lang/Object;IILjava/lang/Object;)V", sig := { parameters := [(.array (.object "java/lang/Object")), .int, .int, (.object "java/lang/Object")], returnType := none }, accessFlags := 9, code := some k30c2 }
def k30c3 : Code := { maxStack := 3, maxLocals := 2, code := jdk_65_method_119_code, exceptionTable := #[], attributes := #[] }
def k30m3 : Method := { name := "copyOf", desc := "([Ljava/lang/Object;I)[Ljava/lang/Object;", sig := { parameters := [(.array (.object "java/lang/Object")), .int], returnType := some (.array (.object "java/lang/Object")) }, accessFlags := 9, code := some k30c3 }
def k30c4 : Code := { maxStack := 6, maxLocals := 4, code := jdk_65_method_120_code, exceptionTable := #[], attributes := #[] }
def k30m4 : Method := { name := "copyOf", desc := "([Ljava/lang/Object;ILjava/lang/Class;)[Ljava/lang/Object;", sig := { parameters := [(.array (.object "java/lang/Object")), .int, (.object "java/lang/Class")], returnType := some (.array (.object "java/lang/Object")) }, accessFlags := 9, code := some k30c4 }
/-- java/util/Arrays -/
def k30 : Class := { plain "java/util/Arrays" (some 0) with
  accessFlags := 49
  interfaces := #[]
  cf := some (fileOf pool30 14 #[.nestMembers #[975, 375, 113, 74]] #[{ accessFlags := 2, nameIndex := 5, descriptorIndex := 6, attributes := #[] }, { accessFlags := 8, nameIndex := 17, descriptorIndex := 18, attributes := #[] }, { accessFlags := 9, nameIndex := 840, descriptorIndex := 859, attributes := #[] }, { accessFlags := 9, nameIndex := 302, descriptorIndex := 860, attributes := #[] }, { accessFlags := 9, nameIndex := 302, descriptorIndex := 303, attributes := #[] }] 49 2 #[] #[{ accessFlags := 26, nameIndex := 715, descriptorIndex := 716, attributes := #[] }, { accessFlags := 26, nameIndex := 719, descriptorIndex := 716, attributes := #[] }, { accessFlags := 4120, nameIndex := 445, descriptorIndex := 117, attributes := #[] }])
  fields := #[{ name := "MIN_ARRAY_SORT_GRAN", type := .int, accessFlags := 26, slot := 0, constantValue := 0 }, { name := "INSERTIONSORT_THRESHOLD", type := .int, accessFlags := 26, slot := 1, constantValue := 0 }, { name := "$assertionsDisabled", type := .boolean, accessFlags := 4120, slot := 2, constantValue := 0 }]
  methods := #[k30m0, k30m1, k30m2, k30m3, k30m4]
  instanceTypes := #[]
  staticTypes := #[.int, .int, .boolean]
  resolved := Array.replicate 1029 none
  statics := none }

def pool31 : Array CpInfo := pool [(2, .class_ 4), (1, u "java/lang/Object"), (0, u "<init>"), (0, u "()V"), (1, .class_ 10), (1, u "java/lang/System"), (0, u "allowSecurityManager"), (0, u "I"), (16, u "cons"), (0, u "Ljava/io/Console;"), (77, .class_ 110), (1, u "java/lang/System$CallersHolder"), (43, u "initialErrStream"), (0, u "Ljava/io/PrintStream;"), (19, u "security"), (0, u "Ljava/lang/SecurityManager;"), (31, .class_ 209), (0, u "java/lang/System$1"), (7, u "props"), (0, u "Ljava/util/Properties;"), (2, u "lineSeparator"), (0, u "Ljava/lang/String;"), (96, .class_ 321), (1, u "java/lang/System$LoggerFinder"), (5, .class_ 328), (0, u "java/lang/System$Logger"), (67, u "err"), (2, u "out"), (91, u "notSupportedJnuEncoding"), (15, u "in"), (17, u "initialIn"), (0, u "Ljava/io/InputStream;"), (35, u "bootLayer"), (0, u "Ljava/lang/ModuleLayer;"), (99, .class_ 664), (0, u "java/lang/System$2"), (9, u "NEVER"), (2, u "MAYBE"), (49, u "arraycopy"), (0, u "(Ljava/lang/Object;ILjava/lang/Object;II)V"), (72, .class_ 802), (0, u "java/lang/System$Logger$Level")] 31

def k31m0 : Method := { name := "<init>", desc := "()V", sig := { parameters := [], returnType := none }, accessFlags := 2, code := none }
def k31m1 : Method := { name := "arraycopy", desc := "(Ljava/lang/Object;ILjava/lang/Object;II)V", sig := { parameters := [(.object "java/lang/Object"), .int, (.object "java/lang/Object"), .int, .int], returnType := none }, accessFlags := 265, code := none }
/-- java/lang/System -/
def k31 : Class := { plain "java/lang/System" (some 0) with
  accessFlags := 49
  interfaces := #[]
  cf := some (fileOf pool31 8 #[.nestMembers #[319, 327, 801, 108, 663, 208]] #[{ accessFlags := 2, nameIndex := 5, descriptorIndex := 6, attributes := #[] }, { accessFlags := 265, nameIndex := 727, descriptorIndex := 728, attributes := #[] }] 49 2 #[] #[{ accessFlags := 25, nameIndex := 507, descriptorIndex := 526, attributes := #[] }, { accessFlags := 25, nameIndex := 399, descriptorIndex := 155, attributes := #[] }, { accessFlags := 25, nameIndex := 396, descriptorIndex := 155, attributes := #[] }, { accessFlags := 10, nameIndex := 525, descriptorIndex := 526, attributes := #[] }, { accessFlags := 26, nameIndex := 674, descriptorIndex := 12, attributes := #[] }, { accessFlags := 26, nameIndex := 677, descriptorIndex := 12, attributes := #[] }, { accessFlags := 10, nameIndex := 11, descriptorIndex := 12, attributes := #[] }, { accessFlags := 74, nameIndex := 175, descriptorIndex := 176, attributes := #[] }, { accessFlags := 10, nameIndex := 491, descriptorIndex := 222, attributes := #[] }, { accessFlags := 74, nameIndex := 29, descriptorIndex := 30, attributes := #[] }, { accessFlags := 74, nameIndex := 154, descriptorIndex := 155, attributes := #[] }, { accessFlags := 10, nameIndex := 217, descriptorIndex := 218, attributes := #[] }, { accessFlags := 10, nameIndex := 221, descriptorIndex := 222, attributes := #[] }, { accessFlags := 8, nameIndex := 562, descriptorIndex := 563, attributes := #[] }])
  fields := #[{ name := "in", type := (.object "java/io/InputStream"), accessFlags := 25, slot := 0, constantValue := 0 }, { name := "out", type := (.object "java/io/PrintStream"), accessFlags := 25, slot := 1, constantValue := 0 }, { name := "err", type := (.object "java/io/PrintStream"), accessFlags := 25, slot := 2, constantValue := 0 }, { name := "initialIn", type := (.object "java/io/InputStream"), accessFlags := 10, slot := 3, constantValue := 0 }, { name := "NEVER", type := .int, accessFlags := 26, slot := 4, constantValue := 0 }, { name := "MAYBE", type := .int, accessFlags := 26, slot := 5, constantValue := 0 }, { name := "allowSecurityManager", type := .int, accessFlags := 10, slot := 6, constantValue := 0 }, { name := "security", type := (.object "java/lang/SecurityManager"), accessFlags := 74, slot := 7, constantValue := 0 }, { name := "notSupportedJnuEncoding", type := (.object "java/lang/String"), accessFlags := 10, slot := 8, constantValue := 0 }, { name := "cons", type := (.object "java/io/Console"), accessFlags := 74, slot := 9, constantValue := 0 }, { name := "initialErrStream", type := (.object "java/io/PrintStream"), accessFlags := 74, slot := 10, constantValue := 0 }, { name := "props", type := (.object "java/util/Properties"), accessFlags := 10, slot := 11, constantValue := 0 }, { name := "lineSeparator", type := (.object "java/lang/String"), accessFlags := 10, slot := 12, constantValue := 0 }, { name := "bootLayer", type := (.object "java/lang/ModuleLayer"), accessFlags := 8, slot := 13, constantValue := 0 }]
  methods := #[k31m0, k31m1]
  instanceTypes := #[]
  staticTypes := #[(.object "java/io/InputStream"), (.object "java/io/PrintStream"), (.object "java/io/PrintStream"), (.object "java/io/InputStream"), .int, .int, .int, (.object "java/lang/SecurityManager"), (.object "java/lang/String"), (.object "java/io/Console"), (.object "java/io/PrintStream"), (.object "java/util/Properties"), (.object "java/lang/String"), (.object "java/lang/ModuleLayer")]
  resolved := Array.replicate 834 none
  statics := none }

def pool32 : Array CpInfo := pool [(2, .class_ 4), (1, u "java/lang/Object"), (0, u "<init>"), (0, u "()V"), (35, .class_ 44), (1, u "java/util/Objects"), (0, u "requireNonNull"), (0, u "(Ljava/lang/Object;)Ljava/lang/Object;")] 137

def k32m0 : Method := { name := "<init>", desc := "()V", sig := { parameters := [], returnType := none }, accessFlags := 2, code := none }
def k32c1 : Code := { maxStack := 2, maxLocals := 1, code := jdk_31_method_10_code, exceptionTable := #[], attributes := #[] }
def k32m1 : Method := { name := "requireNonNull", desc := "(Ljava/lang/Object;)Ljava/lang/Object;", sig := { parameters := [(.object "java/lang/Object")], returnType := some (.object "java/lang/Object") }, accessFlags := 9, code := some k32c1 }
/-- java/util/Objects -/
def k32 : Class := { plain "java/util/Objects" (some 0) with
  accessFlags := 49
  interfaces := #[]
  cf := some (fileOf pool32 42 #[] #[{ accessFlags := 2, nameIndex := 5, descriptorIndex := 6, attributes := #[] }, { accessFlags := 9, nameIndex := 45, descriptorIndex := 46, attributes := #[] }] 49 2 #[] #[])
  fields := #[]
  methods := #[k32m0, k32m1]
  instanceTypes := #[]
  staticTypes := #[]
  resolved := Array.replicate 184 none
  statics := none }

def pool33 : Array CpInfo := pool [(2, .class_ 4), (1, u "java/lang/Object"), (0, u "<init>"), (0, u "()V"), (17, .class_ 26), (1, u "jdk/internal/util/Preconditions"), (28, .class_ 56), (0, u "jdk/internal/util/Preconditions$4"), (57, .class_ 115), (0, u "jdk/internal/util/Preconditions$1"), (7, u "SIOOBE_FORMATTER"), (0, u "Ljava/util/function/BiFunction;"), (0, .class_ 126), (0, u "jdk/internal/util/Preconditions$2"), (3, u "AIOOBE_FORMATTER"), (0, .class_ 132), (0, u "jdk/internal/util/Preconditions$3"), (3, u "IOOBE_FORMATTER")] 57

def k33m0 : Method := { name := "<init>", desc := "()V", sig := { parameters := [], returnType := none }, accessFlags := 1, code := none }
/-- jdk/internal/util/Preconditions -/
def k33 : Class := { plain "jdk/internal/util/Preconditions" (some 0) with
  accessFlags := 33
  interfaces := #[]
  cf := some (fileOf pool33 24 #[.nestMembers #[55, 131, 125, 114]] #[{ accessFlags := 1, nameIndex := 5, descriptorIndex := 6, attributes := #[] }] 33 2 #[] #[{ accessFlags := 25, nameIndex := 123, descriptorIndex := 124, attributes := #[] }, { accessFlags := 25, nameIndex := 130, descriptorIndex := 124, attributes := #[] }, { accessFlags := 25, nameIndex := 136, descriptorIndex := 124, attributes := #[] }])
  fields := #[{ name := "SIOOBE_FORMATTER", type := (.object "java/util/function/BiFunction"), accessFlags := 25, slot := 0, constantValue := 0 }, { name := "AIOOBE_FORMATTER", type := (.object "java/util/function/BiFunction"), accessFlags := 25, slot := 1, constantValue := 0 }, { name := "IOOBE_FORMATTER", type := (.object "java/util/function/BiFunction"), accessFlags := 25, slot := 2, constantValue := 0 }]
  methods := #[k33m0]
  instanceTypes := #[]
  staticTypes := #[(.object "java/util/function/BiFunction"), (.object "java/util/function/BiFunction"), (.object "java/util/function/BiFunction")]
  resolved := Array.replicate 194 none
  statics := some 4 }

def pool34 : Array CpInfo := pool [(9, u "<init>"), (6, .class_ 18), (1, u "java/lang/Object"), (0, u "()V"), (1, .class_ 23), (1, u "jdk/internal/util/ArraysSupport"), (0, u "LOG2_ARRAY_LONG_INDEX_SCALE"), (0, u "I"), (2, u "U"), (0, u "Ljdk/internal/misc/Unsafe;"), (8, u "BIG_ENDIAN"), (0, u "Z"), (8, u "LOG2_BYTE_BIT_SIZE"), (4, u "LOG2_ARRAY_INT_INDEX_SCALE"), (54, u "JLA"), (0, u "Ljdk/internal/access/JavaLangAccess;"), (11, u "LOG2_ARRAY_BOOLEAN_INDEX_SCALE"), (9, u "LOG2_ARRAY_BYTE_INDEX_SCALE"), (5, u "LOG2_ARRAY_CHAR_INDEX_SCALE"), (5, u "LOG2_ARRAY_SHORT_INDEX_SCALE"), (18, u "LOG2_ARRAY_FLOAT_INDEX_SCALE"), (24, u "LOG2_ARRAY_DOUBLE_INDEX_SCALE"), (89, u "T_BOOLEAN"), (2, u "T_CHAR"), (1, u "T_FLOAT"), (1, u "T_DOUBLE"), (1, u "T_BYTE"), (1, u "T_SHORT"), (1, u "T_INT"), (1, u "T_LONG"), (1, u "SOFT_MAX_ARRAY_LENGTH")] 83

def k34m0 : Method := { name := "<init>", desc := "()V", sig := { parameters := [], returnType := none }, accessFlags := 2, code := none }
/-- jdk/internal/util/ArraysSupport -/
def k34 : Class := { plain "jdk/internal/util/ArraysSupport" (some 0) with
  accessFlags := 33
  interfaces := #[]
  cf := some (fileOf pool34 21 #[] #[{ accessFlags := 2, nameIndex := 9, descriptorIndex := 19, attributes := #[] }] 33 16 #[] #[{ accessFlags := 24, nameIndex := 28, descriptorIndex := 29, attributes := #[] }, { accessFlags := 26, nameIndex := 38, descriptorIndex := 39, attributes := #[] }, { accessFlags := 25, nameIndex := 121, descriptorIndex := 25, attributes := #[] }, { accessFlags := 25, nameIndex := 131, descriptorIndex := 25, attributes := #[] }, { accessFlags := 25, nameIndex := 137, descriptorIndex := 25, attributes := #[] }, { accessFlags := 25, nameIndex := 143, descriptorIndex := 25, attributes := #[] }, { accessFlags := 25, nameIndex := 53, descriptorIndex := 25, attributes := #[] }, { accessFlags := 25, nameIndex := 24, descriptorIndex := 25, attributes := #[] }, { accessFlags := 25, nameIndex := 162, descriptorIndex := 25, attributes := #[] }, { accessFlags := 25, nameIndex := 187, descriptorIndex := 25, attributes := #[] }, { accessFlags := 26, nameIndex := 48, descriptorIndex := 25, attributes := #[] }, { accessFlags := 25, nameIndex := 277, descriptorIndex := 25, attributes := #[] }, { accessFlags := 25, nameIndex := 280, descriptorIndex := 25, attributes := #[] }, { accessFlags := 25, nameIndex := 282, descriptorIndex := 25, attributes := #[] }, { accessFlags := 25, nameIndex := 284, descriptorIndex := 25, attributes := #[] }, { accessFlags := 25, nameIndex := 286, descriptorIndex := 25, attributes := #[] }, { accessFlags := 25, nameIndex := 288, descriptorIndex := 25, attributes := #[] }, { accessFlags := 25, nameIndex := 290, descriptorIndex := 25, attributes := #[] }, { accessFlags := 25, nameIndex := 292, descriptorIndex := 25, attributes := #[] }, { accessFlags := 26, nameIndex := 108, descriptorIndex := 109, attributes := #[] }, { accessFlags := 25, nameIndex := 294, descriptorIndex := 25, attributes := #[] }])
  fields := #[{ name := "U", type := (.object "jdk/internal/misc/Unsafe"), accessFlags := 24, slot := 0, constantValue := 0 }, { name := "BIG_ENDIAN", type := .boolean, accessFlags := 26, slot := 1, constantValue := 0 }, { name := "LOG2_ARRAY_BOOLEAN_INDEX_SCALE", type := .int, accessFlags := 25, slot := 2, constantValue := 0 }, { name := "LOG2_ARRAY_BYTE_INDEX_SCALE", type := .int, accessFlags := 25, slot := 3, constantValue := 0 }, { name := "LOG2_ARRAY_CHAR_INDEX_SCALE", type := .int, accessFlags := 25, slot := 4, constantValue := 0 }, { name := "LOG2_ARRAY_SHORT_INDEX_SCALE", type := .int, accessFlags := 25, slot := 5, constantValue := 0 }, { name := "LOG2_ARRAY_INT_INDEX_SCALE", type := .int, accessFlags := 25, slot := 6, constantValue := 0 }, { name := "LOG2_ARRAY_LONG_INDEX_SCALE", type := .int, accessFlags := 25, slot := 7, constantValue := 0 }, { name := "LOG2_ARRAY_FLOAT_INDEX_SCALE", type := .int, accessFlags := 25, slot := 8, constantValue := 0 }, { name := "LOG2_ARRAY_DOUBLE_INDEX_SCALE", type := .int, accessFlags := 25, slot := 9, constantValue := 0 }, { name := "LOG2_BYTE_BIT_SIZE", type := .int, accessFlags := 26, slot := 10, constantValue := 0 }, { name := "T_BOOLEAN", type := .int, accessFlags := 25, slot := 11, constantValue := 0 }, { name := "T_CHAR", type := .int, accessFlags := 25, slot := 12, constantValue := 0 }, { name := "T_FLOAT", type := .int, accessFlags := 25, slot := 13, constantValue := 0 }, { name := "T_DOUBLE", type := .int, accessFlags := 25, slot := 14, constantValue := 0 }, { name := "T_BYTE", type := .int, accessFlags := 25, slot := 15, constantValue := 0 }, { name := "T_SHORT", type := .int, accessFlags := 25, slot := 16, constantValue := 0 }, { name := "T_INT", type := .int, accessFlags := 25, slot := 17, constantValue := 0 }, { name := "T_LONG", type := .int, accessFlags := 25, slot := 18, constantValue := 0 }, { name := "JLA", type := (.object "jdk/internal/access/JavaLangAccess"), accessFlags := 26, slot := 19, constantValue := 0 }, { name := "SOFT_MAX_ARRAY_LENGTH", type := .int, accessFlags := 25, slot := 20, constantValue := 0 }]
  methods := #[k34m0]
  instanceTypes := #[]
  staticTypes := #[(.object "jdk/internal/misc/Unsafe"), .boolean, .int, .int, .int, .int, .int, .int, .int, .int, .int, .int, .int, .int, .int, .int, .int, .int, .int, (.object "jdk/internal/access/JavaLangAccess"), .int]
  resolved := Array.replicate 378 none
  statics := none }

def pool35 : Array CpInfo := pool [(1, u "java/lang/Class"), (0, .class_ 1), (0, u "java/lang/Object"), (0, .class_ 3)] 0

/-- java/lang/Class -/
def k35 : Class := { plain "java/lang/Class" (some 0) with
  accessFlags := 49
  interfaces := #[]
  cf := some (fileOf pool35 2 #[] #[] 49 4 #[] #[])
  fields := #[]
  methods := #[]
  instanceTypes := #[]
  staticTypes := #[]
  resolved := Array.replicate 5 none
  statics := none }

/-- the primitive byte -/
def k36 : Class := { plain "byte" none with kind := .primitive 'B', accessFlags := 0x411 }
/-- [B -/
def k37 : Class := { plain "[B" (some 0) with kind := .array 36 .byte, interfaces := #[16, 2], accessFlags := 1041 }

/-- the primitive char -/
def k38 : Class := { plain "char" none with kind := .primitive 'C', accessFlags := 0x411 }
/-- [C -/
def k39 : Class := { plain "[C" (some 0) with kind := .array 38 .char, interfaces := #[16, 2], accessFlags := 1041 }

/-- the primitive int -/
def k40 : Class := { plain "int" none with kind := .primitive 'I', accessFlags := 0x411 }
/-- [I -/
def k41 : Class := { plain "[I" (some 0) with kind := .array 40 .int, interfaces := #[16, 2], accessFlags := 1041 }

/-- [Ljava/lang/Object; -/
def k42 : Class := { plain "[Ljava/lang/Object;" (some 0) with kind := .array 0 (.object "java/lang/Object"), interfaces := #[16, 2], accessFlags := 1041, mirror := some 5 }

def heap : Heap := #[{ cls := 7, slots := #[.long 0, .int 1, .null, .int 0, .null, .int 0, .int 0], vm := .statics 7 },
  { cls := 17, slots := #[.long 0, .int 0, .ref 8, .ref 9], vm := .statics 17 },
  { cls := 20, slots := #[.long 0, .int 1], vm := .statics 20 },
  { cls := 23, slots := #[.long 0, .int 0, .null, .ref 10, .ref 7, .null, .null, .null, .int 0, .int 1], vm := .statics 23 },
  { cls := 33, slots := #[.null, .null, .null], vm := .statics 33 },
  { cls := 35, slots := #[], vm := .mirror 42 },
  { cls := 42, slots := #[], vm := .none },
  { cls := 27, slots := #[.ref 6, .int 0], vm := .none },
  { cls := 42, slots := #[], vm := .none },
  { cls := 42, slots := #[], vm := .none },
  { cls := 0, slots := #[], vm := .none }]
def classes : Array Class := #[k0, k1, k2, k3, k4, k5, k6, k7, k8, k9, k10, k11, k12, k13, k14, k15, k16, k17, k18, k19, k20, k21, k22, k23, k24, k25, k26, k27, k28, k29, k30, k31, k32, k33, k34, k35, k36, k37, k38, k39, k40, k41, k42]
def interned : List (Array UInt16 × Addr) := []
def slotsUsed : Nat := 28
def theMethod : MethodId := ⟨1, 2⟩
def args0 : Array Value := #[.int 3, .int 65, .int 66, .int 67, .int 68]
def aboutOver (below : List Frame) : State where
  vm := { classes := classes, interned := interned.toArray }
  heap := heap
  slotsUsed := slotsUsed
  threads := #[{ frames := .invoking theMethod args0 :: below }]
def below0 : List Frame := [.native { method := ⟨0, 0⟩, args := #[] }]
def about1 : State := aboutOver below0
def p0 : Program := .bare "" "" ""
def e0 : Env := launch0.env 0 0 0
theorem w_frames : about1.frames = Frame.invoking theMethod args0 :: below0 := rfl
set_option maxRecDepth 65536 in
theorem w_args : argsFit about1.vm theMethod args0 = true := by decide +kernel
set_option maxRecDepth 65536 in
theorem w_heap : heapFits about1 = true := by decide +kernel
set_option maxRecDepth 65536 in
theorem w_runnable : about1.curStatus? = some .runnable := by decide +kernel
set_option maxRecDepth 65536 in
theorem w_alone : about1.alone = true := by decide +kernel
set_option maxRecDepth 65536 in
theorem w_named : about1.methodNamed? x = some theMethod := by decide +kernel
set_option maxRecDepth 65536 in
theorem w_hears : about1.hears theMethod below0 = true := by decide +kernel
set_option maxRecDepth 65536 in
theorem w_ripe : about1.ripe theMethod args0 below0 = true := by decide +kernel
theorem w_running : about1.status = .running := rfl
set_option maxRecDepth 65536 in
theorem w_room : about1.hasRoom e0.platform room_1 = true :=
  launch0.hasRoom_least _ room_1 (by decide +kernel) (by decide +kernel) (by decide +kernel) (by decide +kernel) (by decide +kernel) (by decide +kernel)
theorem allAtoms_all (ts : List Jvm.Cond) (a : Array Jvm.Value) (st : Jvm.State) : (allAtoms ts).before a st = ts.all (fun c => c.before a st) := by
  induction ts with
  | nil => rfl
  | cons c t ih =>
    show (Jvm.Cond.and c (allAtoms t)).before a st = _
    rw [Jvm.Cond.before_and, ih, List.all_cons]
def words1 : List Jvm.Cond := Jvm.Cond.code x code maxLocals ret :: tables_1
/-- a 'code' word, met by the world's own term for the bytes: nothing is compared byte by byte -/
theorem code_word {y : MethodName} {bytes : ByteArray} {mx : Nat} {rt : Option FieldType} {a : Array Value} {s : State} {m : MethodId} {meth : Method} {c : Code} (h1 : s.methodNamed? y = some m) (h2 : s.vm.method? m = some meth) (h3 : meth.code = some c) (h4 : c.code = bytes)
    (h5 : (c.maxLocals == mx && c.exceptionTable.isEmpty && decide (c.maxStack ≤ mostOperands) && decide (meth.sig.returnType = rt) && !meth.locks && decide (parseMethodDescriptor y.desc = some meth.sig)) = true) : (Jvm.Cond.code y bytes mx rt).before a s = true := by
  simp only [Bool.and_eq_true, beq_iff_eq, Bool.not_eq_true', decide_eq_true_eq] at h5
  obtain ⟨⟨⟨⟨⟨g1, g2⟩, g3⟩, g4⟩, g5⟩, g6⟩ := h5
  simp [Cond.before, Cond.holds, Cond.value, h1, h2, h3, h4, g1, g2, g3, g4, g5, g6]
def isCode : Jvm.Cond → Bool
  | .code _ _ _ _ => true
  | _ => false
theorem all_split {L : List Jvm.Cond} {P : Jvm.Cond → Bool} (h1 : L.all (fun c => isCode c || P c) = true) (h2 : ∀ c ∈ L.filter isCode, P c = true) : L.all P = true := by
  refine List.all_eq_true.mpr fun c hc => ?_
  have h := List.all_eq_true.mp h1 c hc
  rcases Bool.eq_false_or_eq_true (isCode c) with hi | hi
  · exact h2 c (List.mem_filter.mpr ⟨hc, hi⟩)
  · simpa [hi] using h
set_option maxRecDepth 65536 in
theorem w_c0 : (Jvm.Cond.code x code maxLocals ret).before args0 about1 = true := code_word (m := ⟨1, 2⟩) (meth := k1m2) (c := k1c2) (by decide +kernel) rfl rfl rfl (by decide +kernel)
set_option maxRecDepth 65536 in
theorem w_c1 : (Jvm.Cond.code ({ cls := "com/example/limentinus/limentinus/core/KeyScriptsReleasePinLaw", name := "two", desc := "(I)Ljava/lang/String;" } : Jvm.MethodName) method_2_code (2 : Nat) (Option.some (Jvm.ClassFile.FieldType.object "java/lang/String"))).before args0 about1 = true := code_word (m := ⟨1, 1⟩) (meth := k1m1) (c := k1c1) (by decide +kernel) rfl rfl rfl (by decide +kernel)
set_option maxRecDepth 65536 in
theorem w_c2 : (Jvm.Cond.code ({ cls := "java/lang/String", name := "<init>", desc := "([C)V" } : Jvm.MethodName) jdk_42_method_3_code (2 : Nat) (Option.none : Option Jvm.ClassFile.FieldType)).before args0 about1 = true := code_word (m := ⟨7, 1⟩) (meth := k7m1) (c := k7c1) (by decide +kernel) rfl rfl rfl (by decide +kernel)
set_option maxRecDepth 65536 in
theorem w_c3 : (Jvm.Cond.code ({ cls := "java/lang/String", name := "<init>", desc := "([CIILjava/lang/Void;)V" } : Jvm.MethodName) jdk_42_method_149_code (6 : Nat) (Option.none : Option Jvm.ClassFile.FieldType)).before args0 about1 = true := code_word (m := ⟨7, 3⟩) (meth := k7m3) (c := k7c3) (by decide +kernel) rfl rfl rfl (by decide +kernel)
set_option maxRecDepth 65536 in
theorem w_c4 : (Jvm.Cond.code ({ cls := "java/lang/Object", name := "<init>", desc := "()V" } : Jvm.MethodName) object_method_1_code (1 : Nat) (Option.none : Option Jvm.ClassFile.FieldType)).before args0 about1 = true := code_word (m := ⟨0, 0⟩) (meth := k0m0) (c := k0c0) (by decide +kernel) rfl rfl rfl (by decide +kernel)
set_option maxRecDepth 65536 in
theorem w_c5 : (Jvm.Cond.code ({ cls := "java/lang/StringUTF16", name := "compress", desc := "([CII)[B" } : Jvm.MethodName) jdk_52_method_16_code (6 : Nat) (Option.some (Jvm.ClassFile.FieldType.array Jvm.ClassFile.FieldType.byte))).before args0 about1 = true := code_word (m := ⟨8, 2⟩) (meth := k8m2) (c := k8c2) (by decide +kernel) rfl rfl rfl (by decide +kernel)
set_option maxRecDepth 65536 in
theorem w_c6 : (Jvm.Cond.code ({ cls := "java/lang/StringUTF16", name := "compress", desc := "([CI[BII)I" } : Jvm.MethodName) jdk_52_method_21_code (7 : Nat) (Option.some Jvm.ClassFile.FieldType.int)).before args0 about1 = true := code_word (m := ⟨8, 3⟩) (meth := k8m3) (c := k8c3) (by decide +kernel) rfl rfl rfl (by decide +kernel)
set_option maxRecDepth 65536 in
theorem w_c7 : (Jvm.Cond.code ({ cls := "java/lang/StringUTF16", name := "coderFromArrayLen", desc := "([BI)B" } : Jvm.MethodName) jdk_52_method_15_code (2 : Nat) (Option.some Jvm.ClassFile.FieldType.byte)).before args0 about1 = true := code_word (m := ⟨8, 1⟩) (meth := k8m1) (c := k8c1) (by decide +kernel) rfl rfl rfl (by decide +kernel)
set_option maxRecDepth 65536 in
theorem w_c8 : (Jvm.Cond.code ({ cls := "java/util/ArrayList", name := "<init>", desc := "()V" } : Jvm.MethodName) jdk_38_method_2_code (1 : Nat) (Option.none : Option Jvm.ClassFile.FieldType)).before args0 about1 = true := code_word (m := ⟨17, 0⟩) (meth := k17m0) (c := k17c0) (by decide +kernel) rfl rfl rfl (by decide +kernel)
set_option maxRecDepth 65536 in
theorem w_c9 : (Jvm.Cond.code ({ cls := "java/util/AbstractList", name := "<init>", desc := "()V" } : Jvm.MethodName) jdk_39_method_1_code (1 : Nat) (Option.none : Option Jvm.ClassFile.FieldType)).before args0 about1 = true := code_word (m := ⟨14, 0⟩) (meth := k14m0) (c := k14c0) (by decide +kernel) rfl rfl rfl (by decide +kernel)
set_option maxRecDepth 65536 in
theorem w_c10 : (Jvm.Cond.code ({ cls := "java/util/AbstractCollection", name := "<init>", desc := "()V" } : Jvm.MethodName) jdk_22_method_1_code (1 : Nat) (Option.none : Option Jvm.ClassFile.FieldType)).before args0 about1 = true := code_word (m := ⟨11, 0⟩) (meth := k11m0) (c := k11c0) (by decide +kernel) rfl rfl rfl (by decide +kernel)
set_option maxRecDepth 65536 in
theorem w_c11 : (Jvm.Cond.code ({ cls := "com/example/limentinus/limentinus/core/KeyScripts", name := "release", desc := "(Ljava/util/List;Ljava/lang/String;)Lcom/example/limentinus/limentinus/core/Quorum$Script;" } : Jvm.MethodName) prog_21_method_3_code (2 : Nat) (Option.some (Jvm.ClassFile.FieldType.object "com/example/limentinus/limentinus/core/Quorum$Script"))).before args0 about1 = true := code_word (m := ⟨18, 1⟩) (meth := k18m1) (c := k18c1) (by decide +kernel) rfl rfl rfl (by decide +kernel)
set_option maxRecDepth 65536 in
theorem w_c12 : (Jvm.Cond.code ({ cls := "java/util/ArrayList", name := "size", desc := "()I" } : Jvm.MethodName) jdk_38_method_8_code (1 : Nat) (Option.some Jvm.ClassFile.FieldType.int)).before args0 about1 = true := code_word (m := ⟨17, 3⟩) (meth := k17m3) (c := k17c3) (by decide +kernel) rfl rfl rfl (by decide +kernel)
set_option maxRecDepth 65536 in
theorem w_c13 : (Jvm.Cond.code ({ cls := "java/util/Collections", name := "nCopies", desc := "(ILjava/lang/Object;)Ljava/util/List;" } : Jvm.MethodName) jdk_79_method_76_code (2 : Nat) (Option.some (Jvm.ClassFile.FieldType.object "java/util/List"))).before args0 about1 = true := code_word (m := ⟨19, 1⟩) (meth := k19m1) (c := k19c1) (by decide +kernel) rfl rfl rfl (by decide +kernel)
set_option maxRecDepth 65536 in
theorem w_c14 : (Jvm.Cond.code ({ cls := "java/util/Collections$CopiesList", name := "<init>", desc := "(ILjava/lang/Object;)V" } : Jvm.MethodName) jdk_2479_method_1_code (3 : Nat) (Option.none : Option Jvm.ClassFile.FieldType)).before args0 about1 = true := code_word (m := ⟨20, 0⟩) (meth := k20m0) (c := k20c0) (by decide +kernel) rfl rfl rfl (by decide +kernel)
set_option maxRecDepth 65536 in
theorem w_c15 : (Jvm.Cond.code ({ cls := "com/example/limentinus/limentinus/core/KeyScripts", name := "release", desc := "(Ljava/util/List;Ljava/util/List;)Lcom/example/limentinus/limentinus/core/Quorum$Script;" } : Jvm.MethodName) prog_21_method_4_code (2 : Nat) (Option.some (Jvm.ClassFile.FieldType.object "com/example/limentinus/limentinus/core/Quorum$Script"))).before args0 about1 = true := code_word (m := ⟨18, 2⟩) (meth := k18m2) (c := k18c2) (by decide +kernel) rfl rfl rfl (by decide +kernel)
set_option maxRecDepth 65536 in
theorem w_c16 : (Jvm.Cond.code ({ cls := "com/example/limentinus/limentinus/core/Quorum$Script", name := "<init>", desc := "(Ljava/lang/String;Ljava/util/List;Ljava/util/List;)V" } : Jvm.MethodName) prog_31_method_1_code (4 : Nat) (Option.none : Option Jvm.ClassFile.FieldType)).before args0 about1 = true := code_word (m := ⟨22, 0⟩) (meth := k22m0) (c := k22c0) (by decide +kernel) rfl rfl rfl (by decide +kernel)
set_option maxRecDepth 65536 in
theorem w_c17 : (Jvm.Cond.code ({ cls := "java/lang/Record", name := "<init>", desc := "()V" } : Jvm.MethodName) jdk_30_method_1_code (1 : Nat) (Option.none : Option Jvm.ClassFile.FieldType)).before args0 about1 = true := code_word (m := ⟨21, 0⟩) (meth := k21m0) (c := k21c0) (by decide +kernel) rfl rfl rfl (by decide +kernel)
set_option maxRecDepth 65536 in
theorem w_c18 : (Jvm.Cond.code ({ cls := "java/util/List", name := "copyOf", desc := "(Ljava/util/Collection;)Ljava/util/List;" } : Jvm.MethodName) jdk_40_method_48_code (1 : Nat) (Option.some (Jvm.ClassFile.FieldType.object "java/util/List"))).before args0 about1 = true := code_word (m := ⟨13, 5⟩) (meth := k13m5) (c := k13c5) (by decide +kernel) rfl rfl rfl (by decide +kernel)
set_option maxRecDepth 65536 in
theorem w_c19 : (Jvm.Cond.code ({ cls := "java/util/ImmutableCollections", name := "listCopy", desc := "(Ljava/util/Collection;)Ljava/util/List;" } : Jvm.MethodName) jdk_56_method_3_code (2 : Nat) (Option.some (Jvm.ClassFile.FieldType.object "java/util/List"))).before args0 about1 = true := code_word (m := ⟨23, 1⟩) (meth := k23m1) (c := k23c1) (by decide +kernel) rfl rfl rfl (by decide +kernel)
set_option maxRecDepth 65536 in
theorem w_c20 : (Jvm.Cond.code ({ cls := "java/util/ArrayList", name := "isEmpty", desc := "()Z" } : Jvm.MethodName) jdk_38_method_9_code (1 : Nat) (Option.some Jvm.ClassFile.FieldType.boolean)).before args0 about1 = true := code_word (m := ⟨17, 4⟩) (meth := k17m4) (c := k17c4) (by decide +kernel) rfl rfl rfl (by decide +kernel)
set_option maxRecDepth 65536 in
theorem w_c21 : (Jvm.Cond.code ({ cls := "java/util/List", name := "of", desc := "()Ljava/util/List;" } : Jvm.MethodName) jdk_40_method_36_code (0 : Nat) (Option.some (Jvm.ClassFile.FieldType.object "java/util/List"))).before args0 about1 = true := code_word (m := ⟨13, 3⟩) (meth := k13m3) (c := k13c3) (by decide +kernel) rfl rfl rfl (by decide +kernel)
set_option maxRecDepth 65536 in
theorem w_c22 : (Jvm.Cond.code ({ cls := "java/util/AbstractCollection", name := "isEmpty", desc := "()Z" } : Jvm.MethodName) jdk_22_method_4_code (1 : Nat) (Option.some Jvm.ClassFile.FieldType.boolean)).before args0 about1 = true := code_word (m := ⟨11, 2⟩) (meth := k11m2) (c := k11c2) (by decide +kernel) rfl rfl rfl (by decide +kernel)
set_option maxRecDepth 65536 in
theorem w_c23 : (Jvm.Cond.code ({ cls := "java/util/Collections$CopiesList", name := "size", desc := "()I" } : Jvm.MethodName) jdk_2479_method_2_code (1 : Nat) (Option.some Jvm.ClassFile.FieldType.int)).before args0 about1 = true := code_word (m := ⟨20, 1⟩) (meth := k20m1) (c := k20c1) (by decide +kernel) rfl rfl rfl (by decide +kernel)
set_option maxRecDepth 65536 in
theorem w_c24 : (Jvm.Cond.code ({ cls := "com/example/limentinus/limentinus/core/KeyScripts", name := "existing", desc := "(Ljava/util/List;)Lcom/example/limentinus/limentinus/core/Quorum$Script;" } : Jvm.MethodName) prog_21_method_6_code (1 : Nat) (Option.some (Jvm.ClassFile.FieldType.object "com/example/limentinus/limentinus/core/Quorum$Script"))).before args0 about1 = true := code_word (m := ⟨18, 3⟩) (meth := k18m3) (c := k18c3) (by decide +kernel) rfl rfl rfl (by decide +kernel)
set_option maxRecDepth 65536 in
theorem w_c25 : (Jvm.Cond.code ({ cls := "com/example/limentinus/limentinus/core/Quorum$Script", name := "source", desc := "()Ljava/lang/String;" } : Jvm.MethodName) prog_31_method_5_code (1 : Nat) (Option.some (Jvm.ClassFile.FieldType.object "java/lang/String"))).before args0 about1 = true := code_word (m := ⟨22, 1⟩) (meth := k22m1) (c := k22c1) (by decide +kernel) rfl rfl rfl (by decide +kernel)
set_option maxRecDepth 65536 in
theorem w_c26 : (Jvm.Cond.code ({ cls := "java/lang/String", name := "equals", desc := "(Ljava/lang/Object;)Z" } : Jvm.MethodName) jdk_42_method_66_code (3 : Nat) (Option.some Jvm.ClassFile.FieldType.boolean)).before args0 about1 = true := code_word (m := ⟨7, 2⟩) (meth := k7m2) (c := k7c2) (by decide +kernel) rfl rfl rfl (by decide +kernel)
set_option maxRecDepth 65536 in
theorem w_c27 : (Jvm.Cond.code ({ cls := "java/lang/StringLatin1", name := "equals", desc := "([B[B)Z" } : Jvm.MethodName) jdk_43_method_13_code (3 : Nat) (Option.some Jvm.ClassFile.FieldType.boolean)).before args0 about1 = true := code_word (m := ⟨28, 1⟩) (meth := k28m1) (c := k28c1) (by decide +kernel) rfl rfl rfl (by decide +kernel)
set_option maxRecDepth 65536 in
theorem w_c28 : (Jvm.Cond.code ({ cls := "com/example/limentinus/limentinus/core/Quorum$Script", name := "keys", desc := "()Ljava/util/List;" } : Jvm.MethodName) prog_31_method_6_code (1 : Nat) (Option.some (Jvm.ClassFile.FieldType.object "java/util/List"))).before args0 about1 = true := code_word (m := ⟨22, 2⟩) (meth := k22m2) (c := k22c2) (by decide +kernel) rfl rfl rfl (by decide +kernel)
set_option maxRecDepth 65536 in
theorem w_c29 : (Jvm.Cond.code ({ cls := "com/example/limentinus/limentinus/core/Quorum$Script", name := "args", desc := "()Ljava/util/List;" } : Jvm.MethodName) prog_31_method_7_code (1 : Nat) (Option.some (Jvm.ClassFile.FieldType.object "java/util/List"))).before args0 about1 = true := code_word (m := ⟨22, 3⟩) (meth := k22m3) (c := k22c3) (by decide +kernel) rfl rfl rfl (by decide +kernel)
set_option maxRecDepth 65536 in
theorem w_c30 : (Jvm.Cond.code ({ cls := "java/util/ImmutableCollections$ListN", name := "size", desc := "()I" } : Jvm.MethodName) jdk_45_method_3_code (1 : Nat) (Option.some Jvm.ClassFile.FieldType.int)).before args0 about1 = true := code_word (m := ⟨27, 1⟩) (meth := k27m1) (c := k27c1) (by decide +kernel) rfl rfl rfl (by decide +kernel)
set_option maxRecDepth 65536 in
theorem w_c31 : (Jvm.Cond.code ({ cls := "java/util/ArrayList", name := "add", desc := "(Ljava/lang/Object;)Z" } : Jvm.MethodName) jdk_38_method_25_code (2 : Nat) (Option.some Jvm.ClassFile.FieldType.boolean)).before args0 about1 = true := code_word (m := ⟨17, 7⟩) (meth := k17m7) (c := k17c7) (by decide +kernel) rfl rfl rfl (by decide +kernel)
set_option maxRecDepth 65536 in
theorem w_c32 : (Jvm.Cond.code ({ cls := "java/util/ArrayList", name := "add", desc := "(Ljava/lang/Object;[Ljava/lang/Object;I)V" } : Jvm.MethodName) jdk_38_method_24_code (4 : Nat) (Option.none : Option Jvm.ClassFile.FieldType)).before args0 about1 = true := code_word (m := ⟨17, 6⟩) (meth := k17m6) (c := k17c6) (by decide +kernel) rfl rfl rfl (by decide +kernel)
set_option maxRecDepth 65536 in
theorem w_c33 : (Jvm.Cond.code ({ cls := "java/util/ArrayList", name := "grow", desc := "()[Ljava/lang/Object;" } : Jvm.MethodName) jdk_38_method_7_code (1 : Nat) (Option.some (Jvm.ClassFile.FieldType.array (Jvm.ClassFile.FieldType.object "java/lang/Object")))).before args0 about1 = true := code_word (m := ⟨17, 2⟩) (meth := k17m2) (c := k17c2) (by decide +kernel) rfl rfl rfl (by decide +kernel)
set_option maxRecDepth 65536 in
theorem w_c34 : (Jvm.Cond.code ({ cls := "java/util/ArrayList", name := "grow", desc := "(I)[Ljava/lang/Object;" } : Jvm.MethodName) jdk_38_method_6_code (4 : Nat) (Option.some (Jvm.ClassFile.FieldType.array (Jvm.ClassFile.FieldType.object "java/lang/Object")))).before args0 about1 = true := code_word (m := ⟨17, 1⟩) (meth := k17m1) (c := k17c1) (by decide +kernel) rfl rfl rfl (by decide +kernel)
set_option maxRecDepth 65536 in
theorem w_c35 : (Jvm.Cond.code ({ cls := "java/lang/Math", name := "max", desc := "(II)I" } : Jvm.MethodName) jdk_29_method_65_code (2 : Nat) (Option.some Jvm.ClassFile.FieldType.int)).before args0 about1 = true := code_word (m := ⟨29, 1⟩) (meth := k29m1) (c := k29c1) (by decide +kernel) rfl rfl rfl (by decide +kernel)
set_option maxRecDepth 65536 in
theorem w_c36 : (Jvm.Cond.code ({ cls := "java/util/ArrayList", name := "toArray", desc := "()[Ljava/lang/Object;" } : Jvm.MethodName) jdk_38_method_16_code (1 : Nat) (Option.some (Jvm.ClassFile.FieldType.array (Jvm.ClassFile.FieldType.object "java/lang/Object")))).before args0 about1 = true := code_word (m := ⟨17, 5⟩) (meth := k17m5) (c := k17c5) (by decide +kernel) rfl rfl rfl (by decide +kernel)
set_option maxRecDepth 65536 in
theorem w_c37 : (Jvm.Cond.code ({ cls := "java/util/Arrays", name := "copyOf", desc := "([Ljava/lang/Object;I)[Ljava/lang/Object;" } : Jvm.MethodName) jdk_65_method_119_code (2 : Nat) (Option.some (Jvm.ClassFile.FieldType.array (Jvm.ClassFile.FieldType.object "java/lang/Object")))).before args0 about1 = true := code_word (m := ⟨30, 3⟩) (meth := k30m3) (c := k30c3) (by decide +kernel) rfl rfl rfl (by decide +kernel)
set_option maxRecDepth 65536 in
theorem w_c38 : (Jvm.Cond.code ({ cls := "java/util/Arrays", name := "copyOf", desc := "([Ljava/lang/Object;ILjava/lang/Class;)[Ljava/lang/Object;" } : Jvm.MethodName) jdk_65_method_120_code (4 : Nat) (Option.some (Jvm.ClassFile.FieldType.array (Jvm.ClassFile.FieldType.object "java/lang/Object")))).before args0 about1 = true := code_word (m := ⟨30, 4⟩) (meth := k30m4) (c := k30c4) (by decide +kernel) rfl rfl rfl (by decide +kernel)
set_option maxRecDepth 65536 in
theorem w_c39 : (Jvm.Cond.code ({ cls := "java/lang/Math", name := "min", desc := "(II)I" } : Jvm.MethodName) jdk_29_method_69_code (2 : Nat) (Option.some Jvm.ClassFile.FieldType.int)).before args0 about1 = true := code_word (m := ⟨29, 2⟩) (meth := k29m2) (c := k29c2) (by decide +kernel) rfl rfl rfl (by decide +kernel)
set_option maxRecDepth 65536 in
theorem w_c40 : (Jvm.Cond.code ({ cls := "java/util/List", name := "of", desc := "([Ljava/lang/Object;)Ljava/util/List;" } : Jvm.MethodName) jdk_40_method_47_code (2 : Nat) (Option.some (Jvm.ClassFile.FieldType.object "java/util/List"))).before args0 about1 = true := code_word (m := ⟨13, 4⟩) (meth := k13m4) (c := k13c4) (by decide +kernel) rfl rfl rfl (by decide +kernel)
set_option maxRecDepth 65536 in
theorem w_c41 : (Jvm.Cond.code ({ cls := "java/util/ImmutableCollections", name := "listFromArray", desc := "([Ljava/lang/Object;)Ljava/util/List;" } : Jvm.MethodName) jdk_56_method_4_code (3 : Nat) (Option.some (Jvm.ClassFile.FieldType.object "java/util/List"))).before args0 about1 = true := code_word (m := ⟨23, 2⟩) (meth := k23m2) (c := k23c2) (by decide +kernel) rfl rfl rfl (by decide +kernel)
set_option maxRecDepth 65536 in
theorem w_c42 : (Jvm.Cond.code ({ cls := "java/util/Objects", name := "requireNonNull", desc := "(Ljava/lang/Object;)Ljava/lang/Object;" } : Jvm.MethodName) jdk_31_method_10_code (1 : Nat) (Option.some (Jvm.ClassFile.FieldType.object "java/lang/Object"))).before args0 about1 = true := code_word (m := ⟨32, 1⟩) (meth := k32m1) (c := k32c1) (by decide +kernel) rfl rfl rfl (by decide +kernel)
set_option maxRecDepth 65536 in
theorem w_c43 : (Jvm.Cond.code ({ cls := "java/util/ImmutableCollections$ListN", name := "<init>", desc := "([Ljava/lang/Object;Z)V" } : Jvm.MethodName) jdk_45_method_1_code (3 : Nat) (Option.none : Option Jvm.ClassFile.FieldType)).before args0 about1 = true := code_word (m := ⟨27, 0⟩) (meth := k27m0) (c := k27c0) (by decide +kernel) rfl rfl rfl (by decide +kernel)
set_option maxRecDepth 65536 in
theorem w_c44 : (Jvm.Cond.code ({ cls := "java/util/ImmutableCollections$AbstractImmutableList", name := "<init>", desc := "()V" } : Jvm.MethodName) jdk_46_method_1_code (1 : Nat) (Option.none : Option Jvm.ClassFile.FieldType)).before args0 about1 = true := code_word (m := ⟨25, 0⟩) (meth := k25m0) (c := k25c0) (by decide +kernel) rfl rfl rfl (by decide +kernel)
set_option maxRecDepth 65536 in
theorem w_c45 : (Jvm.Cond.code ({ cls := "java/util/ImmutableCollections$AbstractImmutableCollection", name := "<init>", desc := "()V" } : Jvm.MethodName) jdk_47_method_1_code (1 : Nat) (Option.none : Option Jvm.ClassFile.FieldType)).before args0 about1 = true := code_word (m := ⟨24, 0⟩) (meth := k24m0) (c := k24c0) (by decide +kernel) rfl rfl rfl (by decide +kernel)
set_option maxRecDepth 65536 in
theorem w_c46 : (Jvm.Cond.code ({ cls := "java/util/Collections$CopiesList", name := "toArray", desc := "()[Ljava/lang/Object;" } : Jvm.MethodName) jdk_2479_method_8_code (2 : Nat) (Option.some (Jvm.ClassFile.FieldType.array (Jvm.ClassFile.FieldType.object "java/lang/Object")))).before args0 about1 = true := code_word (m := ⟨20, 2⟩) (meth := k20m2) (c := k20c2) (by decide +kernel) rfl rfl rfl (by decide +kernel)
set_option maxRecDepth 65536 in
theorem w_c47 : (Jvm.Cond.code ({ cls := "java/util/Arrays", name := "fill", desc := "([Ljava/lang/Object;IILjava/lang/Object;)V" } : Jvm.MethodName) jdk_65_method_118_code (5 : Nat) (Option.none : Option Jvm.ClassFile.FieldType)).before args0 about1 = true := code_word (m := ⟨30, 2⟩) (meth := k30m2) (c := k30c2) (by decide +kernel) rfl rfl rfl (by decide +kernel)
set_option maxRecDepth 65536 in
theorem w_c48 : (Jvm.Cond.code ({ cls := "java/util/Arrays", name := "rangeCheck", desc := "(III)V" } : Jvm.MethodName) jdk_65_method_30_code (3 : Nat) (Option.none : Option Jvm.ClassFile.FieldType)).before args0 about1 = true := code_word (m := ⟨30, 1⟩) (meth := k30m1) (c := k30c1) (by decide +kernel) rfl rfl rfl (by decide +kernel)
set_option maxRecDepth 65536 in
theorem w_c49 : (Jvm.Cond.code ({ cls := "java/util/ImmutableCollections$ListN", name := "get", desc := "(I)Ljava/lang/Object;" } : Jvm.MethodName) jdk_45_method_4_code (2 : Nat) (Option.some (Jvm.ClassFile.FieldType.object "java/lang/Object"))).before args0 about1 = true := code_word (m := ⟨27, 2⟩) (meth := k27m2) (c := k27c2) (by decide +kernel) rfl rfl rfl (by decide +kernel)
set_option maxRecDepth 65536 in
theorem w_c50 : (Jvm.Cond.code ({ cls := "java/util/ImmutableCollections$List12", name := "<init>", desc := "(Ljava/lang/Object;Ljava/lang/Object;)V" } : Jvm.MethodName) jdk_44_method_2_code (3 : Nat) (Option.none : Option Jvm.ClassFile.FieldType)).before args0 about1 = true := code_word (m := ⟨26, 1⟩) (meth := k26m1) (c := k26c1) (by decide +kernel) rfl rfl rfl (by decide +kernel)
set_option maxRecDepth 65536 in
theorem w_c51 : (Jvm.Cond.code ({ cls := "java/util/ImmutableCollections$List12", name := "size", desc := "()I" } : Jvm.MethodName) jdk_44_method_3_code (1 : Nat) (Option.some Jvm.ClassFile.FieldType.int)).before args0 about1 = true := code_word (m := ⟨26, 2⟩) (meth := k26m2) (c := k26c2) (by decide +kernel) rfl rfl rfl (by decide +kernel)
set_option maxRecDepth 65536 in
theorem w_c52 : (Jvm.Cond.code ({ cls := "java/util/ImmutableCollections$List12", name := "get", desc := "(I)Ljava/lang/Object;" } : Jvm.MethodName) jdk_44_method_5_code (2 : Nat) (Option.some (Jvm.ClassFile.FieldType.object "java/lang/Object"))).before args0 about1 = true := code_word (m := ⟨26, 3⟩) (meth := k26m3) (c := k26c3) (by decide +kernel) rfl rfl rfl (by decide +kernel)
set_option maxRecDepth 65536 in
theorem w_c53 : (Jvm.Cond.code ({ cls := "java/util/ImmutableCollections$List12", name := "<init>", desc := "(Ljava/lang/Object;)V" } : Jvm.MethodName) jdk_44_method_1_code (2 : Nat) (Option.none : Option Jvm.ClassFile.FieldType)).before args0 about1 = true := code_word (m := ⟨26, 0⟩) (meth := k26m0) (c := k26c0) (by decide +kernel) rfl rfl rfl (by decide +kernel)
def codes1 : List Jvm.Cond := [Jvm.Cond.code x code maxLocals ret, Jvm.Cond.code ({ cls := "com/example/limentinus/limentinus/core/KeyScriptsReleasePinLaw", name := "two", desc := "(I)Ljava/lang/String;" } : Jvm.MethodName) method_2_code (2 : Nat) (Option.some (Jvm.ClassFile.FieldType.object "java/lang/String")), Jvm.Cond.code ({ cls := "java/lang/String", name := "<init>", desc := "([C)V" } : Jvm.MethodName) jdk_42_method_3_code (2 : Nat) (Option.none : Option Jvm.ClassFile.FieldType), Jvm.Cond.code ({ cls := "java/lang/String", name := "<init>", desc := "([CIILjava/lang/Void;)V" } : Jvm.MethodName) jdk_42_method_149_code (6 : Nat) (Option.none : Option Jvm.ClassFile.FieldType), Jvm.Cond.code ({ cls := "java/lang/Object", name := "<init>", desc := "()V" } : Jvm.MethodName) object_method_1_code (1 : Nat) (Option.none : Option Jvm.ClassFile.FieldType), Jvm.Cond.code ({ cls := "java/lang/StringUTF16", name := "compress", desc := "([CII)[B" } : Jvm.MethodName) jdk_52_method_16_code (6 : Nat) (Option.some (Jvm.ClassFile.FieldType.array Jvm.ClassFile.FieldType.byte)), Jvm.Cond.code ({ cls := "java/lang/StringUTF16", name := "compress", desc := "([CI[BII)I" } : Jvm.MethodName) jdk_52_method_21_code (7 : Nat) (Option.some Jvm.ClassFile.FieldType.int), Jvm.Cond.code ({ cls := "java/lang/StringUTF16", name := "coderFromArrayLen", desc := "([BI)B" } : Jvm.MethodName) jdk_52_method_15_code (2 : Nat) (Option.some Jvm.ClassFile.FieldType.byte), Jvm.Cond.code ({ cls := "java/util/ArrayList", name := "<init>", desc := "()V" } : Jvm.MethodName) jdk_38_method_2_code (1 : Nat) (Option.none : Option Jvm.ClassFile.FieldType), Jvm.Cond.code ({ cls := "java/util/AbstractList", name := "<init>", desc := "()V" } : Jvm.MethodName) jdk_39_method_1_code (1 : Nat) (Option.none : Option Jvm.ClassFile.FieldType), Jvm.Cond.code ({ cls := "java/util/AbstractCollection", name := "<init>", desc := "()V" } : Jvm.MethodName) jdk_22_method_1_code (1 : Nat) (Option.none : Option Jvm.ClassFile.FieldType), Jvm.Cond.code ({ cls := "com/example/limentinus/limentinus/core/KeyScripts", name := "release", desc := "(Ljava/util/List;Ljava/lang/String;)Lcom/example/limentinus/limentinus/core/Quorum$Script;" } : Jvm.MethodName) prog_21_method_3_code (2 : Nat) (Option.some (Jvm.ClassFile.FieldType.object "com/example/limentinus/limentinus/core/Quorum$Script")), Jvm.Cond.code ({ cls := "java/util/ArrayList", name := "size", desc := "()I" } : Jvm.MethodName) jdk_38_method_8_code (1 : Nat) (Option.some Jvm.ClassFile.FieldType.int), Jvm.Cond.code ({ cls := "java/util/Collections", name := "nCopies", desc := "(ILjava/lang/Object;)Ljava/util/List;" } : Jvm.MethodName) jdk_79_method_76_code (2 : Nat) (Option.some (Jvm.ClassFile.FieldType.object "java/util/List")), Jvm.Cond.code ({ cls := "java/util/Collections$CopiesList", name := "<init>", desc := "(ILjava/lang/Object;)V" } : Jvm.MethodName) jdk_2479_method_1_code (3 : Nat) (Option.none : Option Jvm.ClassFile.FieldType), Jvm.Cond.code ({ cls := "com/example/limentinus/limentinus/core/KeyScripts", name := "release", desc := "(Ljava/util/List;Ljava/util/List;)Lcom/example/limentinus/limentinus/core/Quorum$Script;" } : Jvm.MethodName) prog_21_method_4_code (2 : Nat) (Option.some (Jvm.ClassFile.FieldType.object "com/example/limentinus/limentinus/core/Quorum$Script")), Jvm.Cond.code ({ cls := "com/example/limentinus/limentinus/core/Quorum$Script", name := "<init>", desc := "(Ljava/lang/String;Ljava/util/List;Ljava/util/List;)V" } : Jvm.MethodName) prog_31_method_1_code (4 : Nat) (Option.none : Option Jvm.ClassFile.FieldType), Jvm.Cond.code ({ cls := "java/lang/Record", name := "<init>", desc := "()V" } : Jvm.MethodName) jdk_30_method_1_code (1 : Nat) (Option.none : Option Jvm.ClassFile.FieldType), Jvm.Cond.code ({ cls := "java/util/List", name := "copyOf", desc := "(Ljava/util/Collection;)Ljava/util/List;" } : Jvm.MethodName) jdk_40_method_48_code (1 : Nat) (Option.some (Jvm.ClassFile.FieldType.object "java/util/List")), Jvm.Cond.code ({ cls := "java/util/ImmutableCollections", name := "listCopy", desc := "(Ljava/util/Collection;)Ljava/util/List;" } : Jvm.MethodName) jdk_56_method_3_code (2 : Nat) (Option.some (Jvm.ClassFile.FieldType.object "java/util/List")), Jvm.Cond.code ({ cls := "java/util/ArrayList", name := "isEmpty", desc := "()Z" } : Jvm.MethodName) jdk_38_method_9_code (1 : Nat) (Option.some Jvm.ClassFile.FieldType.boolean), Jvm.Cond.code ({ cls := "java/util/List", name := "of", desc := "()Ljava/util/List;" } : Jvm.MethodName) jdk_40_method_36_code (0 : Nat) (Option.some (Jvm.ClassFile.FieldType.object "java/util/List")), Jvm.Cond.code ({ cls := "java/util/AbstractCollection", name := "isEmpty", desc := "()Z" } : Jvm.MethodName) jdk_22_method_4_code (1 : Nat) (Option.some Jvm.ClassFile.FieldType.boolean), Jvm.Cond.code ({ cls := "java/util/Collections$CopiesList", name := "size", desc := "()I" } : Jvm.MethodName) jdk_2479_method_2_code (1 : Nat) (Option.some Jvm.ClassFile.FieldType.int), Jvm.Cond.code ({ cls := "com/example/limentinus/limentinus/core/KeyScripts", name := "existing", desc := "(Ljava/util/List;)Lcom/example/limentinus/limentinus/core/Quorum$Script;" } : Jvm.MethodName) prog_21_method_6_code (1 : Nat) (Option.some (Jvm.ClassFile.FieldType.object "com/example/limentinus/limentinus/core/Quorum$Script")), Jvm.Cond.code ({ cls := "com/example/limentinus/limentinus/core/Quorum$Script", name := "source", desc := "()Ljava/lang/String;" } : Jvm.MethodName) prog_31_method_5_code (1 : Nat) (Option.some (Jvm.ClassFile.FieldType.object "java/lang/String")), Jvm.Cond.code ({ cls := "java/lang/String", name := "equals", desc := "(Ljava/lang/Object;)Z" } : Jvm.MethodName) jdk_42_method_66_code (3 : Nat) (Option.some Jvm.ClassFile.FieldType.boolean), Jvm.Cond.code ({ cls := "java/lang/StringLatin1", name := "equals", desc := "([B[B)Z" } : Jvm.MethodName) jdk_43_method_13_code (3 : Nat) (Option.some Jvm.ClassFile.FieldType.boolean), Jvm.Cond.code ({ cls := "com/example/limentinus/limentinus/core/Quorum$Script", name := "keys", desc := "()Ljava/util/List;" } : Jvm.MethodName) prog_31_method_6_code (1 : Nat) (Option.some (Jvm.ClassFile.FieldType.object "java/util/List")), Jvm.Cond.code ({ cls := "com/example/limentinus/limentinus/core/Quorum$Script", name := "args", desc := "()Ljava/util/List;" } : Jvm.MethodName) prog_31_method_7_code (1 : Nat) (Option.some (Jvm.ClassFile.FieldType.object "java/util/List")), Jvm.Cond.code ({ cls := "java/util/ImmutableCollections$ListN", name := "size", desc := "()I" } : Jvm.MethodName) jdk_45_method_3_code (1 : Nat) (Option.some Jvm.ClassFile.FieldType.int), Jvm.Cond.code ({ cls := "java/util/ArrayList", name := "add", desc := "(Ljava/lang/Object;)Z" } : Jvm.MethodName) jdk_38_method_25_code (2 : Nat) (Option.some Jvm.ClassFile.FieldType.boolean), Jvm.Cond.code ({ cls := "java/util/ArrayList", name := "add", desc := "(Ljava/lang/Object;[Ljava/lang/Object;I)V" } : Jvm.MethodName) jdk_38_method_24_code (4 : Nat) (Option.none : Option Jvm.ClassFile.FieldType), Jvm.Cond.code ({ cls := "java/util/ArrayList", name := "grow", desc := "()[Ljava/lang/Object;" } : Jvm.MethodName) jdk_38_method_7_code (1 : Nat) (Option.some (Jvm.ClassFile.FieldType.array (Jvm.ClassFile.FieldType.object "java/lang/Object"))), Jvm.Cond.code ({ cls := "java/util/ArrayList", name := "grow", desc := "(I)[Ljava/lang/Object;" } : Jvm.MethodName) jdk_38_method_6_code (4 : Nat) (Option.some (Jvm.ClassFile.FieldType.array (Jvm.ClassFile.FieldType.object "java/lang/Object"))), Jvm.Cond.code ({ cls := "java/lang/Math", name := "max", desc := "(II)I" } : Jvm.MethodName) jdk_29_method_65_code (2 : Nat) (Option.some Jvm.ClassFile.FieldType.int), Jvm.Cond.code ({ cls := "java/util/ArrayList", name := "toArray", desc := "()[Ljava/lang/Object;" } : Jvm.MethodName) jdk_38_method_16_code (1 : Nat) (Option.some (Jvm.ClassFile.FieldType.array (Jvm.ClassFile.FieldType.object "java/lang/Object"))), Jvm.Cond.code ({ cls := "java/util/Arrays", name := "copyOf", desc := "([Ljava/lang/Object;I)[Ljava/lang/Object;" } : Jvm.MethodName) jdk_65_method_119_code (2 : Nat) (Option.some (Jvm.ClassFile.FieldType.array (Jvm.ClassFile.FieldType.object "java/lang/Object"))), Jvm.Cond.code ({ cls := "java/util/Arrays", name := "copyOf", desc := "([Ljava/lang/Object;ILjava/lang/Class;)[Ljava/lang/Object;" } : Jvm.MethodName) jdk_65_method_120_code (4 : Nat) (Option.some (Jvm.ClassFile.FieldType.array (Jvm.ClassFile.FieldType.object "java/lang/Object"))), Jvm.Cond.code ({ cls := "java/lang/Math", name := "min", desc := "(II)I" } : Jvm.MethodName) jdk_29_method_69_code (2 : Nat) (Option.some Jvm.ClassFile.FieldType.int), Jvm.Cond.code ({ cls := "java/util/List", name := "of", desc := "([Ljava/lang/Object;)Ljava/util/List;" } : Jvm.MethodName) jdk_40_method_47_code (2 : Nat) (Option.some (Jvm.ClassFile.FieldType.object "java/util/List")), Jvm.Cond.code ({ cls := "java/util/ImmutableCollections", name := "listFromArray", desc := "([Ljava/lang/Object;)Ljava/util/List;" } : Jvm.MethodName) jdk_56_method_4_code (3 : Nat) (Option.some (Jvm.ClassFile.FieldType.object "java/util/List")), Jvm.Cond.code ({ cls := "java/util/Objects", name := "requireNonNull", desc := "(Ljava/lang/Object;)Ljava/lang/Object;" } : Jvm.MethodName) jdk_31_method_10_code (1 : Nat) (Option.some (Jvm.ClassFile.FieldType.object "java/lang/Object")), Jvm.Cond.code ({ cls := "java/util/ImmutableCollections$ListN", name := "<init>", desc := "([Ljava/lang/Object;Z)V" } : Jvm.MethodName) jdk_45_method_1_code (3 : Nat) (Option.none : Option Jvm.ClassFile.FieldType), Jvm.Cond.code ({ cls := "java/util/ImmutableCollections$AbstractImmutableList", name := "<init>", desc := "()V" } : Jvm.MethodName) jdk_46_method_1_code (1 : Nat) (Option.none : Option Jvm.ClassFile.FieldType), Jvm.Cond.code ({ cls := "java/util/ImmutableCollections$AbstractImmutableCollection", name := "<init>", desc := "()V" } : Jvm.MethodName) jdk_47_method_1_code (1 : Nat) (Option.none : Option Jvm.ClassFile.FieldType), Jvm.Cond.code ({ cls := "java/util/Collections$CopiesList", name := "toArray", desc := "()[Ljava/lang/Object;" } : Jvm.MethodName) jdk_2479_method_8_code (2 : Nat) (Option.some (Jvm.ClassFile.FieldType.array (Jvm.ClassFile.FieldType.object "java/lang/Object"))), Jvm.Cond.code ({ cls := "java/util/Arrays", name := "fill", desc := "([Ljava/lang/Object;IILjava/lang/Object;)V" } : Jvm.MethodName) jdk_65_method_118_code (5 : Nat) (Option.none : Option Jvm.ClassFile.FieldType), Jvm.Cond.code ({ cls := "java/util/Arrays", name := "rangeCheck", desc := "(III)V" } : Jvm.MethodName) jdk_65_method_30_code (3 : Nat) (Option.none : Option Jvm.ClassFile.FieldType), Jvm.Cond.code ({ cls := "java/util/ImmutableCollections$ListN", name := "get", desc := "(I)Ljava/lang/Object;" } : Jvm.MethodName) jdk_45_method_4_code (2 : Nat) (Option.some (Jvm.ClassFile.FieldType.object "java/lang/Object")), Jvm.Cond.code ({ cls := "java/util/ImmutableCollections$List12", name := "<init>", desc := "(Ljava/lang/Object;Ljava/lang/Object;)V" } : Jvm.MethodName) jdk_44_method_2_code (3 : Nat) (Option.none : Option Jvm.ClassFile.FieldType), Jvm.Cond.code ({ cls := "java/util/ImmutableCollections$List12", name := "size", desc := "()I" } : Jvm.MethodName) jdk_44_method_3_code (1 : Nat) (Option.some Jvm.ClassFile.FieldType.int), Jvm.Cond.code ({ cls := "java/util/ImmutableCollections$List12", name := "get", desc := "(I)Ljava/lang/Object;" } : Jvm.MethodName) jdk_44_method_5_code (2 : Nat) (Option.some (Jvm.ClassFile.FieldType.object "java/lang/Object")), Jvm.Cond.code ({ cls := "java/util/ImmutableCollections$List12", name := "<init>", desc := "(Ljava/lang/Object;)V" } : Jvm.MethodName) jdk_44_method_1_code (2 : Nat) (Option.none : Option Jvm.ClassFile.FieldType)]
set_option maxRecDepth 65536 in
theorem codes_eq : words1.filter isCode = codes1 := rfl
theorem w_codes : ∀ c ∈ words1.filter isCode, c.before args0 about1 = true := by
  rw [codes_eq]
  intro c hc
  simp only [codes1, List.mem_cons, List.not_mem_nil, or_false] at hc
  rcases hc with rfl | rfl | rfl | rfl | rfl | rfl | rfl | rfl | rfl | rfl | rfl | rfl | rfl | rfl | rfl | rfl | rfl | rfl | rfl | rfl | rfl | rfl | rfl | rfl | rfl | rfl | rfl | rfl | rfl | rfl | rfl | rfl | rfl | rfl | rfl | rfl | rfl | rfl | rfl | rfl | rfl | rfl | rfl | rfl | rfl | rfl | rfl | rfl | rfl | rfl | rfl | rfl | rfl | rfl
  · exact w_c0
  · exact w_c1
  · exact w_c2
  · exact w_c3
  · exact w_c4
  · exact w_c5
  · exact w_c6
  · exact w_c7
  · exact w_c8
  · exact w_c9
  · exact w_c10
  · exact w_c11
  · exact w_c12
  · exact w_c13
  · exact w_c14
  · exact w_c15
  · exact w_c16
  · exact w_c17
  · exact w_c18
  · exact w_c19
  · exact w_c20
  · exact w_c21
  · exact w_c22
  · exact w_c23
  · exact w_c24
  · exact w_c25
  · exact w_c26
  · exact w_c27
  · exact w_c28
  · exact w_c29
  · exact w_c30
  · exact w_c31
  · exact w_c32
  · exact w_c33
  · exact w_c34
  · exact w_c35
  · exact w_c36
  · exact w_c37
  · exact w_c38
  · exact w_c39
  · exact w_c40
  · exact w_c41
  · exact w_c42
  · exact w_c43
  · exact w_c44
  · exact w_c45
  · exact w_c46
  · exact w_c47
  · exact w_c48
  · exact w_c49
  · exact w_c50
  · exact w_c51
  · exact w_c52
  · exact w_c53
set_option maxRecDepth 65536 in
theorem w_t1 : (words1.take 24).all (fun c => isCode c || c.before args0 about1) = true := by decide +kernel
set_option maxRecDepth 65536 in
theorem w_t2 : ((words1.drop 24).take 24).all (fun c => isCode c || c.before args0 about1) = true := by decide +kernel
set_option maxRecDepth 65536 in
theorem w_t3 : (((words1.drop 24).drop 24).take 24).all (fun c => isCode c || c.before args0 about1) = true := by decide +kernel
set_option maxRecDepth 65536 in
theorem w_t4 : ((((words1.drop 24).drop 24).drop 24).take 24).all (fun c => isCode c || c.before args0 about1) = true := by decide +kernel
set_option maxRecDepth 65536 in
theorem w_t5 : (((((words1.drop 24).drop 24).drop 24).drop 24).take 24).all (fun c => isCode c || c.before args0 about1) = true := by decide +kernel
set_option maxRecDepth 65536 in
theorem w_t6 : ((((((words1.drop 24).drop 24).drop 24).drop 24).drop 24).take 24).all (fun c => isCode c || c.before args0 about1) = true := by decide +kernel
set_option maxRecDepth 65536 in
theorem w_t7 : (((((((words1.drop 24).drop 24).drop 24).drop 24).drop 24).drop 24).take 24).all (fun c => isCode c || c.before args0 about1) = true := by decide +kernel
set_option maxRecDepth 65536 in
theorem w_t8 : ((((((((words1.drop 24).drop 24).drop 24).drop 24).drop 24).drop 24).drop 24).take 24).all (fun c => isCode c || c.before args0 about1) = true := by decide +kernel
set_option maxRecDepth 65536 in
theorem w_t9 : (((((((((words1.drop 24).drop 24).drop 24).drop 24).drop 24).drop 24).drop 24).drop 24).take 24).all (fun c => isCode c || c.before args0 about1) = true := by decide +kernel
set_option maxRecDepth 65536 in
theorem w_t10 : ((((((((((words1.drop 24).drop 24).drop 24).drop 24).drop 24).drop 24).drop 24).drop 24).drop 24).take 24).all (fun c => isCode c || c.before args0 about1) = true := by decide +kernel
set_option maxRecDepth 65536 in
theorem w_t11 : (((((((((((words1.drop 24).drop 24).drop 24).drop 24).drop 24).drop 24).drop 24).drop 24).drop 24).drop 24).take 24).all (fun c => isCode c || c.before args0 about1) = true := by decide +kernel
set_option maxRecDepth 65536 in
theorem w_t12 : ((((((((((((words1.drop 24).drop 24).drop 24).drop 24).drop 24).drop 24).drop 24).drop 24).drop 24).drop 24).drop 24).take 24).all (fun c => isCode c || c.before args0 about1) = true := by decide +kernel
set_option maxRecDepth 65536 in
theorem w_t13 : (((((((((((((words1.drop 24).drop 24).drop 24).drop 24).drop 24).drop 24).drop 24).drop 24).drop 24).drop 24).drop 24).drop 24).take 24).all (fun c => isCode c || c.before args0 about1) = true := by decide +kernel
set_option maxRecDepth 65536 in
theorem w_t14 : ((((((((((((((words1.drop 24).drop 24).drop 24).drop 24).drop 24).drop 24).drop 24).drop 24).drop 24).drop 24).drop 24).drop 24).drop 24).take 24).all (fun c => isCode c || c.before args0 about1) = true := by decide +kernel
set_option maxRecDepth 65536 in
theorem w_t15 : ((((((((((((((words1.drop 24).drop 24).drop 24).drop 24).drop 24).drop 24).drop 24).drop 24).drop 24).drop 24).drop 24).drop 24).drop 24).drop 24).all (fun c => isCode c || c.before args0 about1) = true := by decide +kernel
theorem w_tables : (allAtoms (Jvm.Cond.code x code maxLocals ret :: tables_1)).before args0 about1 = true := by
  rw [allAtoms_all]
  show words1.all (fun c => c.before args0 about1) = true
  refine all_split ?_ w_codes
  rw [← List.take_append_drop 24 words1, List.all_append, w_t1, ← List.take_append_drop 24 (words1.drop 24), List.all_append, w_t2, ← List.take_append_drop 24 ((words1.drop 24).drop 24), List.all_append, w_t3, ← List.take_append_drop 24 (((words1.drop 24).drop 24).drop 24), List.all_append, w_t4, ← List.take_append_drop 24 ((((words1.drop 24).drop 24).drop 24).drop 24), List.all_append, w_t5, ← List.take_append_drop 24 (((((words1.drop 24).drop 24).drop 24).drop 24).drop 24), List.all_append, w_t6, ← List.take_append_drop 24 ((((((words1.drop 24).drop 24).drop 24).drop 24).drop 24).drop 24), List.all_append, w_t7, ← List.take_append_drop 24 (((((((words1.drop 24).drop 24).drop 24).drop 24).drop 24).drop 24).drop 24), List.all_append, w_t8, ← List.take_append_drop 24 ((((((((words1.drop 24).drop 24).drop 24).drop 24).drop 24).drop 24).drop 24).drop 24), List.all_append, w_t9, ← List.take_append_drop 24 (((((((((words1.drop 24).drop 24).drop 24).drop 24).drop 24).drop 24).drop 24).drop 24).drop 24), List.all_append, w_t10, ← List.take_append_drop 24 ((((((((((words1.drop 24).drop 24).drop 24).drop 24).drop 24).drop 24).drop 24).drop 24).drop 24).drop 24), List.all_append, w_t11, ← List.take_append_drop 24 (((((((((((words1.drop 24).drop 24).drop 24).drop 24).drop 24).drop 24).drop 24).drop 24).drop 24).drop 24).drop 24), List.all_append, w_t12, ← List.take_append_drop 24 ((((((((((((words1.drop 24).drop 24).drop 24).drop 24).drop 24).drop 24).drop 24).drop 24).drop 24).drop 24).drop 24).drop 24), List.all_append, w_t13, ← List.take_append_drop 24 (((((((((((((words1.drop 24).drop 24).drop 24).drop 24).drop 24).drop 24).drop 24).drop 24).drop 24).drop 24).drop 24).drop 24).drop 24), List.all_append, w_t14, w_t15]
  rfl
set_option maxRecDepth 65536 in
theorem w_rest : rest_1_c.before args0 about1 = true := by decide +kernel
set_option maxRecDepth 65536 in
theorem w_case : (Jvm.Cond.and given_1 narrow_1).before args0 about1 = true := by decide +kernel
set_option maxRecDepth 65536 in
theorem w_consts : constsHeld consts_1 about1 := Jvm.Lit.constsHeldB_iff.mp (by decide +kernel)
theorem w_applies : (headSpec (Jvm.Cond.code x code maxLocals ret :: tables_1) room_1).applies x e0.platform about1 = true :=
  (Spec.applies_iff w_frames).mpr ⟨w_running, w_runnable, w_alone, w_named, w_hears, w_ripe, w_room, w_tables⟩
theorem atStart : AtStart classFile x code maxLocals ret World_1 tables_1 room_1 Calls_1 rest_1 Pre_1 launch0 p0 e0 about1 theMethod args0 below0 :=
  ⟨lists_1, trivial, launch0.admits_env _ _ _, launch0.least_env, fairChoices_fair.cas, fairChoices_fair.clock, w_frames, w_args, w_heap, w_applies, ⟨⟨42, k42, 5, by decide +kernel, rfl, rfl, _, rfl, rfl⟩, ⟨w_consts, trivial⟩⟩, w_rest, w_case⟩
end start1
theorem witness_1 : WitnessClaimed_1 := ⟨start1.p0, start1.e0, start1.about1, start1.theMethod, start1.args0, start1.below0, start1.atStart⟩
end Jvm.Pilot.@@N@@
