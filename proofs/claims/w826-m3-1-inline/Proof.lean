import JvmDerived
import JvmDerived.Pilot.@@N@@Statement
import JvmDerived.Pilot.@@N@@Code
set_option linter.unusedVariables false
set_option linter.unusedSimpArgs false
namespace Jvm.OwnKit
open Sem ClassFile Op Lib Bundle Jvm.Stand Jvm.Free Jvm.LawKit Jvm.RoadKit
section Kit
variable {p : Program} {l : Launch} {e : Env} {R : Room} {s : State} {m : MethodId} {args : Array Value} {below : List Frame} {meth : Method} {c : Code} {Z : State} {a0 : Array Value} {EL : List (String × Nat)} {own : String} {Q : Option Value → Vm → Heap → Prop} {vm : Vm} {h : Heap} {cells slots : Nat} {g : JFrame}
/-- the k-th word -/
theorem ow {L : List Jvm.Cond} (hw : ∀ d ∈ L, d.before a0 Z = true) (k : Nat) {d : Jvm.Cond} (q : L[k]? = some d) : d.before a0 Z = true := hw _ (List.mem_of_getElem? q)
abbrev vr (a : Addr) : Slot := .val (.ref a)
abbrev vi (x : Int32) : Slot := .val (.int x)
abbrev un : Slot := .unset
/-- a standing place of a walk that may have interned: tables vm, heap h, usage -/
def St (p : Program) (l : Launch) (e : Env) (R : Room) (s : State) (m : MethodId) (args : Array Value) (below : List Frame) (meth : Method) (c : Code) (Z : State) (a0 : Array Value) (EL : List (String × Nat)) (own : String) (vm : Vm) (T : State) (h : Heap) (cells slots : Nat) : Prop :=
  ∃ (locs : List Loc) (k0 : Nat), Stand p l e R (s.setVm vm) m args below meth c T locs cells slots ∧ T.heap = h ∧ Z.Warmed39 vm ∧ vm.findClass own = some m.cls ∧ s.Since vm k0 ∧ k0 ≤ h.size ∧ Fr Z.heap.size locs ∧ CHr Z EL s.vm s.heap vm h ∧ Ext Z.heap s.heap ∧ EW Z a0 EL ∧ p.tables.exec = Jvm.exec ∧ meth.locks = false
/-- from every such place with this frame the method ends as Q says -/
def Go (p : Program) (l : Launch) (e : Env) (R : Room) (s : State) (m : MethodId) (args : Array Value) (below : List Frame) (meth : Method) (c : Code) (Z : State) (a0 : Array Value) (EL : List (String × Nat)) (own : String) (Q : Option Value → Vm → Heap → Prop) (vm : Vm) (h : Heap) (cells slots : Nat) (g : JFrame) : Prop :=
  ∀ T, St p l e R s m args below meth c Z a0 EL own vm T h cells slots → ∃ s₂ o, Steps p.tables e below (T.setTop g) s₂ ∧ s₂.status = .running ∧ Ended s₂ below o ∧
    ∃ v L, o = .returned v ∧ (Fr Z.heap.size L ∧ Q v s₂.vm s₂.heap) ∧ CHr Z EL s.vm s.heap s₂.vm s₂.heap ∧ ReturnedEndW s o s₂ L R.cells R.slots
/-- a plain step -/
theorem gs (g' : JFrame) (st : ∀ T target, At T m c below → Steps p.tables e below (T.setTop g') target → Steps p.tables e below (T.setTop g) target)
    (k : Go p l e R s m args below meth c Z a0 EL own Q vm h cells slots g') : Go p l e R s m args below meth c Z a0 EL own Q vm h cells slots g := fun T X => by
  obtain ⟨s2, o, q1, q2⟩ := k T X
  obtain ⟨locs, k0, X', -⟩ := X
  exact ⟨s2, o, st _ _ X'.here q1, q2⟩
theorem gat (g' : JFrame) (q : g = g') (k : Go p l e R s m args below meth c Z a0 EL own Q vm h cells slots g') : Go p l e R s m args below meth c Z a0 EL own Q vm h cells slots g := q ▸ k
/-- a step that asks the standing place -/
theorem gx (g' : JFrame) (st : ∀ T locs, Stand p l e R (s.setVm vm) m args below meth c T locs cells slots → Z.Warmed39 vm → vm.findClass own = some m.cls → T.heap = h → ∀ target, Steps p.tables e below (T.setTop g') target → Steps p.tables e below (T.setTop g) target)
    (k : Go p l e R s m args below meth c Z a0 EL own Q vm h cells slots g') : Go p l e R s m args below meth c Z a0 EL own Q vm h cells slots g := fun T X => by
  obtain ⟨s2, o, q1, q2⟩ := k T X
  obtain ⟨locs, k0, X', eT, hZ, hown, -⟩ := X
  exact ⟨s2, o, st _ _ X' hZ hown eT _ q1, q2⟩
/-- a step to another state, the heap as it was -/
theorem gy (g' : JFrame) (st : ∀ T locs, Stand p l e R (s.setVm vm) m args below meth c T locs cells slots → Z.Warmed39 vm → vm.findClass own = some m.cls → T.heap = h → ∃ T', Stand p l e R (s.setVm vm) m args below meth c T' locs cells slots ∧ T'.heap = h ∧ ∀ target, Steps p.tables e below (T'.setTop g') target → Steps p.tables e below (T.setTop g) target)
    (k : Go p l e R s m args below meth c Z a0 EL own Q vm h cells slots g') : Go p l e R s m args below meth c Z a0 EL own Q vm h cells slots g := fun T X => by
  obtain ⟨locs, k0, X', eT, hZ, hown, r⟩ := X
  obtain ⟨T', X1, e1, s1⟩ := st T locs X' hZ hown eT
  obtain ⟨s2, o, q1, q2⟩ := k T' ⟨locs, k0, X1, e1, hZ, hown, r⟩
  exact ⟨s2, o, s1 _ q1, q2⟩
/-- what the standing place knows -/
theorem ginfo (k : Z.Warmed39 vm → CHv Z EL vm h → Ext Z.heap h → Go p l e R s m args below meth c Z a0 EL own Q vm h cells slots g) : Go p l e R s m args below meth c Z a0 EL own Q vm h cells slots g := fun T X => by
  have X0 := X
  obtain ⟨locs, k0, X', eT, hZ, hown, hS, hk, N, H, E0, r⟩ := X
  refine k hZ H.1 ⟨?_, ?_⟩ T X0
  · exact Nat.le_trans E0.1 H.2.1
  · intro b cl hcl
    have hb := (Array.getElem?_eq_some_iff.mp hcl).1
    obtain ⟨c', h1, h2, -, h4⟩ := X'.same.2.2.2.2.2 b cl (show s.heap[b]? = some cl from E0.2 b cl hcl)
    have hsl : c'.slots = cl.slots := Array.ext_getElem? fun i => h4 i fun hm => absurd (N _ hm) (Nat.not_le.mpr hb)
    have hcc : c' = cl := by rw [h2, hsl]
    have h1' : T.heap[b]? = some c' := h1
    rw [← eT, ← hcc]; exact h1'
theorem gmono {cells' slots' : Nat} (hc : cells ≤ cells') (hs : slots ≤ slots') (k : Go p l e R s m args below meth c Z a0 EL own Q vm h cells' slots' g) : Go p l e R s m args below meth c Z a0 EL own Q vm h cells slots g := fun T X => by
  obtain ⟨locs, k0, X', r⟩ := X
  exact k T ⟨locs, k0, { X' with same := X'.same.mono hc hs }, r⟩
/-- the heap grows at its end -/
theorem gnew {cells' slots' : Nat} {P : Heap → Prop} (g' : Heap → JFrame)
    (st : ∀ T locs, Stand p l e R (s.setVm vm) m args below meth c T locs cells slots → Z.Warmed39 vm → vm.findClass own = some m.cls → T.heap = h → ∃ T' h', Stand p l e R (s.setVm vm) m args below meth c T' locs cells' slots' ∧ T'.heap = h' ∧ Ext h h' ∧ P h' ∧ ∀ target, Steps p.tables e below (T'.setTop (g' h')) target → Steps p.tables e below (T.setTop g) target)
    (k : ∀ h', Ext h h' → CHr Z EL vm h vm h' → P h' → Z.heap.size ≤ h.size → Safe Z EL vm h' h.size → Go p l e R s m args below meth c Z a0 EL own Q vm h' cells' slots' (g' h')) : Go p l e R s m args below meth c Z a0 EL own Q vm h cells slots g := fun T X => by
  obtain ⟨locs, k0, X', eT, hZ, hown, hS, hk, N, H, E0, r⟩ := X
  obtain ⟨T', h', X1, e1, E, hP, s1⟩ := st T locs X' hZ hown eT
  obtain ⟨s2, o, q1, q2⟩ := k h' E (CHr.ext E H.1) hP (Nat.le_trans E0.1 H.2.1) (Safe.ext E H.1 (Safe.new (Nat.le_refl _))) T' ⟨locs, k0, X1, e1, hZ, hown, hS, Nat.le_trans hk E.1, N, H.trans (CHr.ext E H.1), E0, r⟩
  exact ⟨s2, o, s1 _ q1, q2⟩
/-- one place is written -/
theorem gwr (g' : JFrame) {a : Addr} {sl : Nat} {v : Value} (ha : Z.heap.size ≤ a) (hs : Z.vm.Alike vm → Safe Z EL vm h a)
    (st : ∀ T locs, Stand p l e R (s.setVm vm) m args below meth c T locs cells slots → Z.Warmed39 vm → vm.findClass own = some m.cls → T.heap = h → ∃ T' h', Stand p l e R (s.setVm vm) m args below meth c T' (locs ++ [⟨a, sl⟩]) cells slots ∧ T'.heap = h' ∧ Wr h h' a sl v ∧ ∀ target, Steps p.tables e below (T'.setTop g') target → Steps p.tables e below (T.setTop g) target)
    (k : ∀ h', Wr h h' a sl v → CHr Z EL vm h vm h' → Go p l e R s m args below meth c Z a0 EL own Q vm h' cells slots g') : Go p l e R s m args below meth c Z a0 EL own Q vm h cells slots g := fun T X => by
  obtain ⟨locs, k0, X', eT, hZ, hown, hS, hk, N, H, E0, r⟩ := X
  obtain ⟨T', h', X1, e1, W, s1⟩ := st T locs X' hZ hown eT
  obtain ⟨s2, o, q1, q2⟩ := k h' W (CHr.wr W (hs hZ.alike) H.1) T' ⟨_, k0, X1, e1, hZ, hown, hS, by rw [W.size]; exact hk, Fr.snoc X1 N ha, H.trans (CHr.wr W (hs hZ.alike) H.1), E0, r⟩
  exact ⟨s2, o, s1 _ q1, q2⟩
/-- the end -/
theorem gret {v : Option Value} (hv : meth.sig.returnType = none → v = none) (hc : cells ≤ R.cells) (hs : slots ≤ R.slots)
    (st : ∀ T locs fs, Stand p l e R (s.setVm vm) m args below meth c T locs cells slots → (∀ (f : JFrame) (acts : List Action), f.method = m → f.locked = none → f.entered = [] → (doReturn e (T.setTop f) acts v).1 = T.setFrames fs) → Steps p.tables e below (T.setTop g) (T.setFrames fs))
    (hq : ∀ vm', CHr Z EL vm h vm' h → Q v vm' h) : Go p l e R s m args below meth c Z a0 EL own Q vm h cells slots g := fun T X => by
  obtain ⟨locs, k0, X', eT, hZ, hown, hS, hk, N, H, E0, hw, hx, hlk⟩ := X
  obtain ⟨fs, hr, hrun, hend, hW⟩ := X'.leaveW hS (by rw [eT]; exact hk) hv hlk
  have C1 : CHr Z EL vm h T.vm h := CHv.at X' hZ hw H.1
  refine ⟨_, _, st T locs fs X' hr, hrun, hend, v, locs, rfl, ⟨N, ?_⟩, ?_, ?_⟩
  · show Q v T.vm T.heap
    rw [eT]; exact hq _ C1
  · show CHr Z EL s.vm s.heap T.vm T.heap
    rw [eT]; exact H.trans C1
  · exact ⟨hW.1, hW.2.1, hW.2.2.1, hW.2.2.2.mono hc hs⟩
theorem gretI {pc : Nat} {Ls : Array Slot} {z : Int32} {rest : List Value} (hx : p.tables.exec = Jvm.exec) (hret : meth.sig.returnType = some .int) (hd : decode c.code pc = .ok (.ireturn, 1)) (hc : cells ≤ R.cells) (hs : slots ≤ R.slots)
    (hq : ∀ vm', CHr Z EL vm h vm' h → Q (some (.int z)) vm' h) : Go p l e R s m args below meth c Z a0 EL own Q vm h cells slots (mkF m pc Ls (.int z :: rest)) :=
  gret (v := some (.int z)) (fun q => by rw [hret] at q; cases q) hc hs (fun T locs fs X hr => retOut X hx hret rfl (Or.inl ⟨rfl, Or.inl rfl, z, rfl⟩) hd hr) hq
theorem gretN {t : FieldType} {pc : Nat} {Ls : Array Slot} {z : Int32} {rest : List Value} (hx : p.tables.exec = Jvm.exec) (hret : meth.sig.returnType = some t) (ht : t = .boolean ∨ t = .byte ∨ t = .char ∨ t = .short) (hd : decode c.code pc = .ok (.ireturn, 1)) (hc : cells ≤ R.cells) (hs : slots ≤ R.slots)
    (hq : ∀ vm', CHr Z EL vm h vm' h → Q (some (.int (nar t z))) vm' h) : Go p l e R s m args below meth c Z a0 EL own Q vm h cells slots (mkF m pc Ls (.int z :: rest)) :=
  gret (v := some (.int (nar t z))) (fun q => by rw [hret] at q; cases q) hc hs (fun T locs fs X hr => retN X hx hret ht hd hr) hq
theorem gretJ {pc : Nat} {Ls : Array Slot} {z : Int64} {rest : List Value} (hx : p.tables.exec = Jvm.exec) (hret : meth.sig.returnType = some .long) (hd : decode c.code pc = .ok (.lreturn, 1)) (hc : cells ≤ R.cells) (hs : slots ≤ R.slots)
    (hq : ∀ vm', CHr Z EL vm h vm' h → Q (some (.long z)) vm' h) : Go p l e R s m args below meth c Z a0 EL own Q vm h cells slots (mkF m pc Ls (.long z :: rest)) :=
  gret (v := some (.long z)) (fun q => by rw [hret] at q; cases q) hc hs (fun T locs fs X hr => retOut X hx hret rfl (Or.inr (Or.inl ⟨rfl, rfl, z, rfl⟩)) hd hr) hq
theorem gretA {t : FieldType} {pc : Nat} {Ls : Array Slot} {v : Value} {rest : List Value} (hx : p.tables.exec = Jvm.exec) (hret : meth.sig.returnType = some t) (ht : t.isReference = true) (hv : v.isRef = true) (hd : decode c.code pc = .ok (.areturn, 1)) (hc : cells ≤ R.cells) (hs : slots ≤ R.slots)
    (hq : ∀ vm', CHr Z EL vm h vm' h → Q (some v) vm' h) : Go p l e R s m args below meth c Z a0 EL own Q vm h cells slots (mkF m pc Ls (v :: rest)) :=
  gret (v := some v) (fun q => by rw [hret] at q; cases q) hc hs (fun T locs fs X hr => retOut X hx hret (by cases t <;> first | (cases ht; done) | (cases v <;> first | rfl | (cases hv; done))) (Or.inr (Or.inr (Or.inr (Or.inr ⟨rfl, ht, hv⟩)))) hd hr) hq
theorem gretV {pc : Nat} {Ls : Array Slot} (hx : p.tables.exec = Jvm.exec) (hret : meth.sig.returnType = none) (hd : decode c.code pc = .ok (.return_, 1)) (hc : cells ≤ R.cells) (hs : slots ≤ R.slots)
    (hq : ∀ vm', CHr Z EL vm h vm' h → Q none vm' h) : Go p l e R s m args below meth c Z a0 EL own Q vm h cells slots (mkF m pc Ls []) :=
  gret (v := none) (fun _ => rfl) hc hs (fun T locs fs X hr => X.returnOut hx hret hd hr) hq
/-! contracts -/
def Met (l : Launch) (y : MethodName) (bytes : ByteArray) (maxL : Nat) (ret : Option FieldType) (ws : List Jvm.Cond) (rm : Room) (Z : State) (EL : List (String × Nat)) (vm0 : Vm) (h0 : Heap) (as' : Array Value) (Q : Option Value → Vm → Heap → Prop) : Prop :=
  MetFree l y (head1 (Jvm.Cond.code y bytes maxL ret :: ws) rm) (fun a U => a = as' ∧ Z.Warmed39 U.vm ∧ U.heap = h0 ∧ CHr Z EL vm0 h0 U.vm h0 ∧ (Z.setVm vm0).Warmed39 U.vm) (fun _ _ _ _ _ => True)
    (fun _ U o U' => ∃ v L, o = .returned v ∧ (Fr Z.heap.size L ∧ Q v U'.vm U'.heap) ∧ CHr Z EL U.vm U.heap U'.vm U'.heap ∧ ReturnedEndW U o U' L rm.cells rm.slots)
theorem Met.of_walk {y : MethodName} {bytes : ByteArray} {maxL : Nat} {ret : Option FieldType} {ws : List Jvm.Cond} {rm : Room} {vm0 : Vm} {h0 : Heap} {as' : Array Value} (L0 : Array Slot) (hpn : plainFor y = true) (X00 : Ext Z.heap h0) (hEL : EW Z a0 EL)
    (hef : ∀ m, entryFrame m as' maxL = mkF m 0 L0 [])
    (walk : ∀ (p : Program) (e : Env) (s : State) (m : MethodId) (below : List Frame) (meth : Method) (c : Code) (vm : Vm), p.tables.exec = Jvm.exec → c.code = bytes → c.maxLocals = maxL → meth.sig.returnType = ret → meth.name = y.name → CHr Z EL vm0 h0 vm h0 → (Z.setVm vm0).Warmed39 vm →
      Go p l e rm s m as' below meth c Z a0 EL y.cls Q vm h0 0 0 (mkF m 0 L0 [])) : Met l y bytes maxL ret ws rm Z EL vm0 h0 as' Q := by
  refine MetFree.of_bodySF hpn hisR ?_
  intro p e s m args below meth c s₁ Bd hml0 hP hK
  obtain ⟨rfl, hZ, hh, hC, hW0⟩ := hP
  have X0 : Stand p l e rm s m args below meth c s₁ [] 0 0 := Stand.of_body Bd
  have e0 : s₁.heap = h0 := by rw [← hh, Bd.state]; rfl
  obtain ⟨s2, o, q1, q2⟩ := walk p e s m below meth c s.vm Bd.exec Bd.bytes hml0 Bd.returns (name_of_methodNamed Bd.named Bd.method).1 hC hW0 s₁
    ⟨[], 0, X0, e0, hZ, findClass_of_methodNamed Bd.named, (State.WarmedH.refl s).since 0, Nat.zero_le _, Fr.nil _, by rw [hh]; exact CHr.refl hC.1, by rw [hh]; exact X00, hEL, Bd.exec, Bd.notSynchronized⟩
  exact ⟨s2, o, by rw [hef]; exact q1, q2⟩
def Pay (l : Launch) (R : Room) (p : Program) (e : Env) (below : List Frame) (s : State) (args : Array Value) (Z : State) (EL : List (String × Nat)) (vm : Vm) (h : Heap) (y : MethodName) (len W : Nat) (as' : Array Value) (rc rs : Nat) (Q : Option Value → Vm → Heap → Prop) : Prop :=
  BackS l R p e below (s.setVm vm) args y len W (fun A a => a = as' ∧ A.U.heap = h ∧ A.cells + rc ≤ R.cells ∧ A.slots + rs ≤ R.slots)
    (fun A _ v B => ∃ L, (Fr Z.heap.size L ∧ Q v B.U.vm B.U.heap) ∧ B.locs = A.locs ++ L ∧ B.cells = A.cells + rc ∧ B.slots = A.slots + rs ∧ CHr Z EL vm h B.U.vm B.U.heap)
theorem Pay.of_met {y : MethodName} {bytes : ByteArray} {maxL : Nat} {ret : Option FieldType} {rm : Room} {len W : Nat} {as' : Array Value} (hM : Met l y bytes maxL ret [] rm Z EL vm h as' Q)
    (wc : (Jvm.Cond.code y bytes maxL ret).before a0 Z = true) (wz : (Jvm.Cond.initialized y.cls).before a0 Z = true) (hf : rm.frames + 1 ≤ R.frames) (hl : W + (maxL + 11) + rm.locals ≤ R.locals) (hZ : Z.Warmed39 vm) (H : CHv Z EL vm h) (hEL : EW Z a0 EL) :
    Pay l R p e below s args Z EL vm h y len W as' rm.cells rm.slots Q :=
  BackS.of_freeW (bytes := bytes) (maxL := maxL) (ret := ret) (E := fun _ first o t L k n => k = rm.cells ∧ n = rm.slots ∧ (∃ v, o = .returned v ∧ (Fr Z.heap.size L ∧ Q v t.vm t.heap)) ∧ CHr Z EL first.vm first.heap t.vm t.heap) hM hf hl
    (fun m meth c A a Y hp => have hU : Z.Warmed39 A.U.vm := wtrans (s := s.setVm vm) hZ Y.warmed
      ⟨by show (Jvm.Cond.and _ .tt).before a A.U = true; rw [Cond.before_and, mv hU wc]; rfl, mv hU wc, mv hU wz, hp.2.2.1, hp.2.2.2⟩)
    (fun m meth c A a g mk Y hp => ⟨hp.1, wtrans (s := s.setVm vm) hZ Y.warmed, hp.2.1, (show CHr Z EL vm h A.U.vm h from CHv.at Y hZ hEL H), State.Warmed39.of_rootvm (s := s.setVm vm) rfl (show (s.setVm vm).Warmed39 A.U.vm from Y.warmed.wide)⟩) (fun _ _ _ _ _ _ _ _ _ => trivial)
    (fun _ _ _ _ ⟨v, L, h1, h2, h3, h4⟩ => ⟨L, _, _, h4, rfl, rfl, ⟨v, h1, h2⟩, h3⟩)
    (fun m meth c A a g mk v t L k n Y hp _ _ ⟨e1, e2, ⟨v', e3, e4⟩, e5⟩ => by
      cases e3; subst e1 e2
      refine ⟨L, e4, rfl, rfl, rfl, (CHv.at Y hZ hEL H).trans ?_⟩
      rw [← hp.2.1]; exact e5)
theorem Pay.of_back {y : MethodName} {len W : Nat} {as' : Array Value} {rc rs : Nat} {Q0 : Option Value → Heap → List Loc → Prop}
    (hK : Back l R p e below (s.setVm vm) args y len W (fun A a => a = as' ∧ A.U.heap = h ∧ A.cells + rc ≤ R.cells ∧ A.slots + rs ≤ R.slots) (fun A _ v B => ∃ L, Q0 v B.U.heap L ∧ B.locs = A.locs ++ L ∧ B.cells = A.cells + rc ∧ B.slots = A.slots + rs))
    (hZ : Z.Warmed39 vm) (H : CHv Z EL vm h) (hEL : EW Z a0 EL)
    (hq : ∀ v h' L, Q0 v h' L → Fr Z.heap.size L ∧ (∃ ws, Keep h h' ws ∧ ∀ x ∈ ws, Safe Z EL vm h x) ∧ ∀ vm', CHr Z EL vm h vm' h' → Q v vm' h') : Pay l R p e below s args Z EL vm h y len W as' rc rs Q := by
  intro m meth c A g ig mk a X hg hsize hdg hW hn hp
  obtain ⟨v, B, X', ⟨L, q0, q1, q2, q3⟩, hsteps⟩ := hK m meth c A g ig mk a X hg hsize hdg hW hn hp
  obtain ⟨hF, ⟨ws, K, hs⟩, hQ⟩ := hq _ _ _ q0
  have C1 : CHr Z EL vm h vm B.U.heap := CHr.keep K hs H
  have C2 : CHr Z EL vm h B.U.vm B.U.heap := C1.trans (CHv.at X' hZ hEL C1.1)
  exact ⟨v, B, X'.retabled X'.warmed.wide, X'.warmed.since _, by rw [hp.2.1]; exact K.1, ⟨L, ⟨hF, hQ _ C2⟩, q1, q2, q3, C2⟩, hsteps⟩
theorem Pay.mono {y : MethodName} {len W rc rs : Nat} {as' : Array Value} {Q' : Option Value → Vm → Heap → Prop} (hP : Pay l R p e below s args Z EL vm h y len W as' rc rs Q) (hq : ∀ v vm' h', Q v vm' h' → Q' v vm' h') : Pay l R p e below s args Z EL vm h y len W as' rc rs Q' := by
  intro m meth c A g ig mk a X hg hsize hdg hW hn hp
  obtain ⟨v, B, X', h1, h2, ⟨L, ⟨q1, q2⟩, r⟩, st⟩ := hP m meth c A g ig mk a X hg hsize hdg hW hn hp
  exact ⟨v, B, X', h1, h2, ⟨L, ⟨q1, hq _ _ _ q2⟩, r⟩, st⟩
/-- behind any call -/
theorem gback {y : MethodName} {rc rs : Nat} {as' : Array Value} {Q' : Option Value → Vm → Heap → Prop} {rest : List Value} {pc' : Nat} {L : Array Slot}
    (st : ∀ T locs, Stand p l e R (s.setVm vm) m args below meth c T locs cells slots → Z.Warmed39 vm → vm.findClass own = some m.cls → T.heap = h → CHv Z EL vm h → EW Z a0 EL →
      ∃ (v : Option Value) (vm₁ : Vm) (B : Pt), (s.setVm vm).WarmedH vm₁ ∧ Stand p l e R ((s.setVm vm).setVm B.U.vm) m args below meth c B.U B.locs B.cells B.slots ∧ (s.setVm vm).Since B.U.vm B.U.heap.size ∧ T.heap.size ≤ B.U.heap.size ∧
        (∃ L, (Fr Z.heap.size L ∧ Q' v B.U.vm B.U.heap) ∧ B.locs = locs ++ L ∧ B.cells = cells + rc ∧ B.slots = slots + rs ∧ CHr Z EL vm h B.U.vm B.U.heap) ∧ Steps p.tables e below (T.setTop g) (B.U.setTop (mkF m pc' L (v.toList ++ rest))))
    (k : ∀ v vm' h', CHr Z EL vm h vm' h' → Q' v vm' h' → Go p l e R s m args below meth c Z a0 EL own Q vm' h' (cells + rc) (slots + rs) (mkF m pc' L (v.toList ++ rest))) : Go p l e R s m args below meth c Z a0 EL own Q vm h cells slots g := fun T X => by
  obtain ⟨locs, k0, X', eT, hZ, hown, hS, hk, N, H, E0, hEL, hx, hlk⟩ := X
  obtain ⟨v, vm1, ⟨U, Lx, cx, sx⟩, hW1, X1, hS1, hgr, ⟨L1, ⟨hF, hQ⟩, hl, hc, hs, hC⟩, s1⟩ := st T locs X' hZ hown eT H.1 hEL
  dsimp only [Pt.U, Pt.locs, Pt.cells, Pt.slots] at X1 hS1 hgr hF hQ hl hc hs hC s1
  subst hl hc hs
  obtain ⟨s2, o, q1, q2⟩ := k v U.vm U.heap hC hQ U ⟨_, U.heap.size, X1, rfl, State.Warmed39.trans (t := s.setVm vm) hZ hS1.1, (hS1.1.alike.findClass _ _).trans hown, hS.trans hS1 (Nat.le_trans hk (by rw [← eT]; exact hgr)), Nat.le_refl _, Fr.app N hF, H.trans hC, E0, hEL, hx, hlk⟩
  exact ⟨s2, o, s1.trans q1, q2⟩
end Kit
end Jvm.OwnKit
namespace Jvm.OwnKit
open Sem ClassFile Op Lib Bundle Jvm.Stand Jvm.Free Jvm.LawKit Jvm.RoadKit
section Kit2
variable {p : Program} {l : Launch} {e : Env} {R : Room} {s : State} {m : MethodId} {args : Array Value} {below : List Frame} {meth : Method} {c : Code} {Z : State} {a0 : Array Value} {EL : List (String × Nat)} {own : String} {Q : Option Value → Vm → Heap → Prop} {vm : Vm} {h : Heap} {cells slots : Nat} {g : JFrame}
/-! calls -/
theorem gcallS {index : Nat} {y : MethodName} {bytes : ByteArray} {maxL : Nat} {ret : Option FieldType} (hx : p.tables.exec = Jvm.exec) (wl : (Cond.methodLink own index y).before a0 Z = true) (wst : (Cond.static y).before a0 Z = true) (wz : (Cond.initialized y.cls).before a0 Z = true) (wc : (Cond.code y bytes maxL ret).before a0 Z = true)
    (hy : y.cls ≠ "java/lang/invoke/MethodHandle" ∧ y.cls ≠ "java/lang/invoke/VarHandle") {W rc rs : Nat} {as' : Array Value} {Q' : Option Value → Vm → Heap → Prop} (hP : Z.Warmed39 vm → CHv Z EL vm h → EW Z a0 EL → Pay l R p e below s args Z EL vm h y 3 W as' rc rs Q')
    {pc : Nat} (pc' : Nat) {L : Array Slot} {S argsL rest : List Value} (hlen : ∀ sig, parseMethodDescriptor y.desc = some sig → argsL.length = sig.parameters.length) (has : argsL.toArray = as') (hstk : S = argsL.reverse ++ rest) (hW : (rest.map fun v => v.category).sum ≤ W) (hml : L.size = c.maxLocals)
    (hd : decode c.code pc = .ok (.invokestatic index, 3)) (hp : pc + 3 = pc') (hc : cells + rc ≤ R.cells) (hs : slots + rs ≤ R.slots)
    (k : ∀ v vm' h', CHr Z EL vm h vm' h' → Q' v vm' h' → Go p l e R s m args below meth c Z a0 EL own Q vm' h' (cells + rc) (slots + rs) (mkF m pc' L (v.toList ++ rest))) : Go p l e R s m args below meth c Z a0 EL own Q vm h cells slots (mkF m pc L S) :=
  gback (y := y) (as' := as') (fun T locs X hZ hown eT H hEL => by
    subst has hp hstk
    exact callSS (s := s.setVm vm) X hx hown (mvT hZ wl) (mvT hZ wst) (mvT hZ wz) (mvT hZ wc) hy (hP hZ H hEL) (g := mkF m pc L _) rfl hml hlen rfl (by show 2 * 0 + _ ≤ _; omega) hd (fun _ _ => ⟨rfl, eT, hc, hs⟩)) k
theorem gcallI {index : Nat} {y : MethodName} {bytes : ByteArray} {maxL : Nat} (hx : p.tables.exec = Jvm.exec) (hyi : y.name = "<init>") (wl : (Cond.methodLink own index y).before a0 Z = true) (wi : (Cond.instanceMethod y).before a0 Z = true) (wc : (Cond.code y bytes maxL none).before a0 Z = true)
    (hy : y.cls ≠ "java/lang/invoke/MethodHandle" ∧ y.cls ≠ "java/lang/invoke/VarHandle") {W rc rs : Nat} {as' : Array Value} {Q' : Option Value → Vm → Heap → Prop} (hP : Z.Warmed39 vm → CHv Z EL vm h → EW Z a0 EL → Pay l R p e below s args Z EL vm h y 3 W as' rc rs Q')
    {pc : Nat} (pc' : Nat) {L : Array Slot} {S argsL rest : List Value} {a : Addr} (hlen : ∀ sig, parseMethodDescriptor y.desc = some sig → argsL.length = sig.parameters.length) (has : (.ref a :: argsL).toArray = as') (hstk : S = argsL.reverse ++ .ref a :: rest) (hW : (rest.map fun v => v.category).sum ≤ W) (hml : L.size = c.maxLocals)
    (hd : decode c.code pc = .ok (.invokespecial index, 3)) (hp : pc + 3 = pc') (hc : cells + rc ≤ R.cells) (hs : slots + rs ≤ R.slots)
    (k : ∀ v vm' h', CHr Z EL vm h vm' h' → Q' v vm' h' → Go p l e R s m args below meth c Z a0 EL own Q vm' h' (cells + rc) (slots + rs) (mkF m pc' L (v.toList ++ rest))) : Go p l e R s m args below meth c Z a0 EL own Q vm h cells slots (mkF m pc L S) :=
  gback (y := y) (as' := as') (fun T locs X hZ hown eT H hEL => by
    subst has hp hstk
    exact X.specialBackS (s := s.setVm vm) hx hyi hown (mvT hZ wl) (mvT hZ wi) (mvT hZ wc) hy (hP hZ H hEL) (g := mkF m pc L _) rfl hml (Steps.refl _) hlen rfl (by show 2 * 0 + _ ≤ _; omega) hd (fun _ _ => ⟨rfl, eT, hc, hs⟩)) k
theorem gcallV {index : Nat} {C : String} {y z : MethodName} (hx : p.tables.exec = Jvm.exec) (wl : (Cond.methodLink own index y).before a0 Z = true) (wd : (Cond.declares y).before a0 Z = true) (nf : ∀ (U : State), Z.Warmed39 U.vm → NotFace U y) (wsel : (Cond.selects C y z).before a0 Z = true) (wi : (Cond.instanceMethod z).before a0 Z = true)
    (hy : y.cls ≠ "java/lang/invoke/MethodHandle" ∧ y.cls ≠ "java/lang/invoke/VarHandle") {W rc rs : Nat} {as' : Array Value} {Q' : Option Value → Vm → Heap → Prop} (hP : Z.Warmed39 vm → CHv Z EL vm h → EW Z a0 EL → Pay l R p e below s args Z EL vm h z 3 W as' rc rs Q')
    {pc : Nat} (pc' : Nat) {L : Array Slot} {S argsL rest : List Value} {a : Addr} (E : Exa Z h a C) (hlen : ∀ sig, parseMethodDescriptor y.desc = some sig → argsL.length = sig.parameters.length) (has : (.ref a :: argsL).toArray = as') (hstk : S = argsL.reverse ++ .ref a :: rest) (hW : (rest.map fun v => v.category).sum ≤ W) (hml : L.size = c.maxLocals)
    (hd : decode c.code pc = .ok (.invokevirtual index, 3)) (hp : pc + 3 = pc') (hc : cells + rc ≤ R.cells) (hs : slots + rs ≤ R.slots)
    (k : ∀ v vm' h', CHr Z EL vm h vm' h' → Q' v vm' h' → Go p l e R s m args below meth c Z a0 EL own Q vm' h' (cells + rc) (slots + rs) (mkF m pc' L (v.toList ++ rest))) : Go p l e R s m args below meth c Z a0 EL own Q vm h cells slots (mkF m pc L S) :=
  gback (y := z) (as' := as') (fun T locs X hZ hown eT H hEL => by
    subst has hp hstk
    obtain ⟨cB, kB, h1, h2, h3⟩ := isOf (s := s.setVm vm) hZ eT E
    exact X.virtualBackS (s := s.setVm vm) hx hown (mvT hZ wl) (mvT hZ wd) (nf _ hZ) (mvT hZ wsel) (mvT hZ wi) hy (hP hZ H hEL) h1 h3 (g := mkF m pc L _) rfl hml (Steps.refl _) hlen rfl (by show 2 * 0 + _ ≤ _; omega) hd (fun _ _ => ⟨rfl, eT, hc, hs⟩)) k
theorem nfSel {C : String} {y : MethodName} (w : (Cond.selects C y y).before a0 Z = true) : ∀ (U : State), Z.Warmed39 U.vm → NotFace U y := fun U hU => notFace_of_selects (args := #[]) (mvT hU w)
theorem gcallU {index : Nat} {K : String} {y : MethodName} {bytes : ByteArray} {maxL : Nat} {ret : Option FieldType} (hx : p.tables.exec = Jvm.exec) (wl : (Cond.methodLink own index y).before a0 Z = true) (wsm : (Cond.sameMethod y.cls y.cls y.name y.desc).before a0 Z = true) (wi : (Cond.instanceMethod y).before a0 Z = true) (wsu : (Cond.superclass own y.cls).before a0 Z = true) (hn : y.name ≠ "<init>") (wc : (Cond.code y bytes maxL ret).before a0 Z = true)
    {W rc rs : Nat} {as' : Array Value} {Q' : Option Value → Vm → Heap → Prop} (hP : Z.Warmed39 vm → CHv Z EL vm h → EW Z a0 EL → Pay l R p e below s args Z EL vm h y 3 W as' rc rs Q')
    {pc : Nat} (pc' : Nat) {L : Array Slot} {S argsL rest : List Value} {a : Addr} (I : Ins Z h a K true) (hlen : ∀ sig, parseMethodDescriptor y.desc = some sig → argsL.length = sig.parameters.length) (has : (.ref a :: argsL).toArray = as') (hstk : S = argsL.reverse ++ .ref a :: rest) (hW : (rest.map fun v => v.category).sum ≤ W) (hml : L.size = c.maxLocals)
    (hd : decode c.code pc = .ok (.invokespecial index, 3)) (hp : pc + 3 = pc') (hc : cells + rc ≤ R.cells) (hs : slots + rs ≤ R.slots)
    (k : ∀ v vm' h', CHr Z EL vm h vm' h' → Q' v vm' h' → Go p l e R s m args below meth c Z a0 EL own Q vm' h' (cells + rc) (slots + rs) (mkF m pc' L (v.toList ++ rest))) : Go p l e R s m args below meth c Z a0 EL own Q vm h cells slots (mkF m pc L S) :=
  gback (y := y) (as' := as') (fun T locs X hZ hown eT H hEL => by
    subst has hp hstk
    exact superBackS (s := s.setVm vm) X hx hZ hown wl wsm wi wsu hn (hP hZ H hEL) eT I (g := mkF m pc L _) rfl hml wc hlen rfl (by show 2 * 0 + _ ≤ _; omega) hd (fun _ _ => ⟨rfl, eT, hc, hs⟩)) k
/-- Object.<init> -/
theorem ginitO {idx : Nat} (hx : p.tables.exec = Jvm.exec) (w1 : (Cond.methodLink own idx Lib.objectInit).before a0 Z = true) (w2 : (Cond.instanceMethod Lib.objectInit).before a0 Z = true) (w3 : (Cond.code Lib.objectInit ⟨#[0xb1]⟩ 1 none).before a0 Z = true)
    {pc : Nat} (pc' : Nat) {L : Array Slot} {rest : List Value} {a : Addr} {W : Nat} (hW : (rest.map fun v => v.category).sum ≤ W) (hml : L.size = c.maxLocals) (hd : decode c.code pc = .ok (.invokespecial idx, 3)) (hp : pc + 3 = pc') (hf : 1 ≤ R.frames) (hl : W + 12 ≤ R.locals)
    (k : Go p l e R s m args below meth c Z a0 EL own Q vm h cells slots (mkF m pc' L rest)) : Go p l e R s m args below meth c Z a0 EL own Q vm h cells slots (mkF m pc L (.ref a :: rest)) :=
  gy _ (fun T locs X hZ hown eT => by
    subst hp
    exact initO (s := s.setVm vm) X hx hZ hown w1 w2 w3 eT (g := mkF m pc L (.ref a :: rest)) rfl hml rfl hd hf (W := W) (by show 2 * 0 + _ ≤ _; omega) hl) k
/-! fields -/
theorem ggetF {R0 O n d host : String} {index : Nat} (hx : p.tables.exec = Jvm.exec) (w : (Cond.fieldLink own index R0 n d).before a0 Z = true ∨ (Cond.fieldLinkNest own index R0 n d host).before a0 Z = true) (via : Via Z R0 O n d) {a : Addr} {v : Value} (F : Fld Z h a O n d v)
    {pc : Nat} (pc' : Nat) {L : Array Slot} {rest : List Value} (hd : decode c.code pc = .ok (.getfield index, 3)) (hp : pc + 3 = pc')
    (k : Go p l e R s m args below meth c Z a0 EL own Q vm h cells slots (mkF m pc' L (v :: rest))) : Go p l e R s m args below meth c Z a0 EL own Q vm h cells slots (mkF m pc L (.ref a :: rest)) :=
  gy _ (fun T locs X hZ hown eT => by
    subst hp
    exact getF (s := s.setVm vm) X hx hZ hown (host := host) w via eT F (g := mkF m pc L (.ref a :: rest)) rfl rfl hd) k
theorem ggetS {R0 O n d host : String} {index : Nat} (hx : p.tables.exec = Jvm.exec) (w : (Cond.fieldLink own index R0 n d).before a0 Z = true ∨ (Cond.fieldLinkNest own index R0 n d host).before a0 Z = true) (via : Via Z R0 O n d) {v : Value} (F : Sta Z Z.heap O n d v)
    {pc : Nat} (pc' : Nat) {L : Array Slot} {S : List Value} (hd : decode c.code pc = .ok (.getstatic index, 3)) (hp : pc + 3 = pc')
    (k : Go p l e R s m args below meth c Z a0 EL own Q vm h cells slots (mkF m pc' L (v :: S))) : Go p l e R s m args below meth c Z a0 EL own Q vm h cells slots (mkF m pc L S) :=
  ginfo fun _ _ E => gy _ (fun T locs X hZ hown eT => by
    subst hp
    exact getS2 (s := s.setVm vm) X hx hZ hown (host := host) w via eT (F.ext E) (g := mkF m pc L S) rfl hd) k
theorem gputF {R0 O n d host C : String} {index kk : Nat} {ty : FieldType} (hx : p.tables.exec = Jvm.exec) (w : (Cond.fieldLink own index R0 n d).before a0 Z = true ∨ (Cond.fieldLinkNest own index R0 n d host).before a0 Z = true) (via : Via Z R0 O n d) {a : Addr} {v old : Value} (F : Fld Z h a O n d old) (E : Exa Z h a C)
    (Lw : (Cond.lays C O n d).before a0 Z = true ∨ ((Cond.laysFinal C O n d).before a0 Z = true ∧ own = O ∧ meth.name = "<init>")) (wi : (Cond.instantiable C kk).before a0 Z = true) (hty : parseFieldDescriptor d = some ty) (hn : narrow ty v = v) (hf : fits ty v = true) (ha : Z.heap.size ≤ a) (hs : Z.vm.Alike vm → Safe Z EL vm h a)
    {pc : Nat} (pc' : Nat) {L : Array Slot} {rest : List Value} (hd : decode c.code pc = .ok (.putfield index, 3)) (hp : pc + 3 = pc')
    (k : ∀ h', Wr h h' a (Jvm.RoadKit.slotOf Z O n d) v → CHr Z EL vm h vm h' → Go p l e R s m args below meth c Z a0 EL own Q vm h' cells slots (mkF m pc' L rest)) : Go p l e R s m args below meth c Z a0 EL own Q vm h cells slots (mkF m pc L (v :: .ref a :: rest)) :=
  gwr _ ha hs (fun T locs X hZ hown eT => by
    subst hp
    exact putF (s := s.setVm vm) X hx hZ hown (host := host) w via eT F E Lw wi hty hn hf (g := mkF m pc L (v :: .ref a :: rest)) rfl rfl hd) k
/-! objects and arrays are made -/
theorem gnewO {C : String} {index n : Nat} (hx : p.tables.exec = Jvm.exec) (w : (Cond.classLink own index C).before a0 Z = true) (wi : (Cond.instantiable C n).before a0 Z = true) (wz : (Cond.initialized C).before a0 Z = true)
    {pc : Nat} (pc' : Nat) {L : Array Slot} {S : List Value} (hd : decode c.code pc = .ok (.new index, 3)) (hp : pc + 3 = pc') (hc : cells + 1 ≤ R.cells) (hl : slots + n ≤ R.slots)
    (k : ∀ (b : Addr) (h' : Heap), h.size = b → Ext h h' → CHr Z EL vm h vm h' → Exa Z h' b C → (∀ {O nm d : String} {ty : FieldType}, Laid Z a0 C O nm d → parseFieldDescriptor d = some ty → Fld Z h' b O nm d (defaultValue ty)) → Z.heap.size ≤ b → Safe Z EL vm h' b → Go p l e R s m args below meth c Z a0 EL own Q vm h' (cells + 1) (slots + n) (mkF m pc' L (.ref b :: S))) :
    Go p l e R s m args below meth c Z a0 EL own Q vm h cells slots (mkF m pc L S) :=
  gnew (P := fun h' => Exa Z h' h.size C ∧ ∀ (O nm d : String) (ty : FieldType), Laid Z a0 C O nm d → parseFieldDescriptor d = some ty → Fld Z h' h.size O nm d (defaultValue ty)) (fun _ => mkF m pc' L (.ref h.size :: S))
    (fun T locs X hZ hown eT => by
      subst hp
      obtain ⟨T', h', X', e', E, A, D, -, st⟩ := newO (s := s.setVm vm) X hx hZ hown w wi wz eT (g := mkF m pc L S) rfl hd hc hl
      exact ⟨T', h', X', e', E, ⟨A, fun _ _ _ _ q r => D q r⟩, st⟩)
    (fun h' E hC hP hz hs => k _ h' rfl E hC hP.1 (fun q r => hP.2 _ _ _ _ q r) hz hs)
/-! arrays are written and read -/
theorem gstC {a : Addr} {kc : ClassId} {n : Int32} {vs : List Value} {d : Value} {j x y : Int32} {i : Nat} (hx : p.tables.exec = Jvm.exec) (F : Arv Z h a kc .char n vs d) (hin : ¬ j < 0 ∧ j < n) (hj : j.toNatClampNeg = i) (hi : i < vs.length) (hy : nar .char x = y) (ha : Z.heap.size ≤ a)
    {pc : Nat} (pc' : Nat) {L : Array Slot} {rest : List Value} (hd : decode c.code pc = .ok (.castore, 1)) (hp : pc + 1 = pc')
    (k : ∀ h', Wr h h' a i (.int y) → CHr Z EL vm h vm h' → Arv Z h' a kc .char n (vs.set i (.int y)) d → Go p l e R s m args below meth c Z a0 EL own Q vm h' cells slots (mkF m pc' L rest)) : Go p l e R s m args below meth c Z a0 EL own Q vm h cells slots (mkF m pc L (.int x :: .int j :: .ref a :: rest)) := by
  subst hy hj hp
  obtain ⟨cl, Ar, q1, q2, q3, q4, q5⟩ := F
  exact gwr _ ha (fun al => Safe.arr al Ar (by decide)) (fun T locs X hZ hown eT => stC (s := s.setVm vm) X hx hZ eT Ar (j := j) (inb_of q2 hin) (g := mkF m pc L (.int x :: .int j :: .ref a :: rest)) rfl rfl hd) fun h' W hC => k h' W hC (Arv.set Ar q1 q2 q3 q4 q5 (fits_nar_char _) W _ rfl hi)
theorem gstB {a : Addr} {kc : ClassId} {n : Int32} {vs : List Value} {d : Value} {j x y : Int32} {i : Nat} (hx : p.tables.exec = Jvm.exec) (F : Arv Z h a kc .byte n vs d) (hin : ¬ j < 0 ∧ j < n) (hj : j.toNatClampNeg = i) (hi : i < vs.length) (hy : nar .byte x = y) (ha : Z.heap.size ≤ a) (hs : Z.vm.Alike vm → Safe Z EL vm h a)
    {pc : Nat} (pc' : Nat) {L : Array Slot} {rest : List Value} (hd : decode c.code pc = .ok (.bastore, 1)) (hp : pc + 1 = pc')
    (k : ∀ h', Wr h h' a i (.int y) → CHr Z EL vm h vm h' → Arv Z h' a kc .byte n (vs.set i (.int y)) d → Go p l e R s m args below meth c Z a0 EL own Q vm h' cells slots (mkF m pc' L rest)) : Go p l e R s m args below meth c Z a0 EL own Q vm h cells slots (mkF m pc L (.int x :: .int j :: .ref a :: rest)) := by
  subst hy hj hp
  obtain ⟨cl, Ar, q1, q2, q3, q4, q5⟩ := F
  exact gwr _ ha hs (fun T locs X hZ hown eT => stB (s := s.setVm vm) X hx hZ eT Ar (j := j) (inb_of q2 hin) (g := mkF m pc L (.int x :: .int j :: .ref a :: rest)) rfl rfl hd) fun h' W hC => k h' W hC (Arv.set Ar q1 q2 q3 q4 q5 (fits_nar_byte _) W _ rfl hi)
theorem gldB {a : Addr} {kc : ClassId} {n : Int32} {vs : List Value} {d v : Value} {j : Int32} {i : Nat} (hx : p.tables.exec = Jvm.exec) (F : Arv Z h a kc .byte n vs d) (hin : ¬ j < 0 ∧ j < n) (hj : j.toNatClampNeg = i) (hv : vs.getD i d = v)
    {pc : Nat} (pc' : Nat) {L : Array Slot} {rest : List Value} (hd : decode c.code pc = .ok (.baload, 1)) (hp : pc + 1 = pc')
    (k : Go p l e R s m args below meth c Z a0 EL own Q vm h cells slots (mkF m pc' L (v :: rest))) : Go p l e R s m args below meth c Z a0 EL own Q vm h cells slots (mkF m pc L (.int j :: .ref a :: rest)) := by
  subst hj hp
  obtain ⟨cl, Ar, q1, q2, q3, q4, q5⟩ := F
  exact gx _ (fun T locs X hZ hown eT => X.baloadBytes (s := s.setVm vm) hx (by rw [eT]; exact Ar.1) (State.isArrayOf_alike hZ.alike Ar.2.1) Ar.2.2 (inb_of q2 hin) (q4.at (inb_of q2 hin) hv) (g := mkF m pc L (.int j :: .ref a :: rest)) rfl rfl hd) k
theorem glen {a : Addr} {kc : ClassId} {ty : FieldType} {n : Int32} {vs : List Value} {d : Value} (hx : p.tables.exec = Jvm.exec) (F : Arv Z h a kc ty n vs d)
    {pc : Nat} (pc' : Nat) {L : Array Slot} {rest : List Value} (hd : decode c.code pc = .ok (.arraylength, 1)) (hp : pc + 1 = pc')
    (k : Go p l e R s m args below meth c Z a0 EL own Q vm h cells slots (mkF m pc' L (.int n :: rest))) : Go p l e R s m args below meth c Z a0 EL own Q vm h cells slots (mkF m pc L (.ref a :: rest)) := by
  subst hp
  obtain ⟨cl, Ar, q1, q2, q3, q4, q5⟩ := F
  exact gx _ (fun T locs X hZ hown eT t kk => X.arraylength (s := s.setVm vm) hx (by rw [eT]; exact Ar.1) (State.isArrayOf_alike hZ.alike Ar.2.1) (g := mkF m pc L (.ref a :: rest)) rfl rfl hd t (by rw [len_of q2 q3]; exact kk)) k
/-! casts, constants -/
theorem gcast {K : String} {index : Nat} (hx : p.tables.exec = Jvm.exec) (w : (Cond.classLink own index K).before a0 Z = true) {a : Addr} (F : Ins Z h a K true) {pc : Nat} (pc' : Nat) {L : Array Slot} {rest : List Value} (hd : decode c.code pc = .ok (.checkcast index, 3)) (hp : pc + 3 = pc')
    (k : Go p l e R s m args below meth c Z a0 EL own Q vm h cells slots (mkF m pc' L (.ref a :: rest))) : Go p l e R s m args below meth c Z a0 EL own Q vm h cells slots (mkF m pc L (.ref a :: rest)) :=
  gy _ (fun T locs X hZ hown eT => by
    subst hp
    exact castY (s := s.setVm vm) X hx hZ hown w eT F (g := mkF m pc L (.ref a :: rest)) rfl rfl hd) k
theorem gldcJ {index : Nat} {v : Int64} (hx : p.tables.exec = Jvm.exec) (w : (Cond.constantLong own index v).before a0 Z = true) {pc : Nat} (pc' : Nat) {L : Array Slot} {S : List Value} (hd : decode c.code pc = .ok (.ldc2_w index, 3)) (hp : pc + 3 = pc')
    (k : Go p l e R s m args below meth c Z a0 EL own Q vm h cells slots (mkF m pc' L (.long v :: S))) : Go p l e R s m args below meth c Z a0 EL own Q vm h cells slots (mkF m pc L S) :=
  gx _ (fun T locs X hZ hown eT => by
    subst hp
    exact X.ldc2Long (s := s.setVm vm) hx hown (mvT hZ w) (g := mkF m pc L S) rfl hd) k
/-- ldc of a String constant of EL, read -/
theorem gldcR {index : Nat} {text : String} (hx : p.tables.exec = Jvm.exec) (w : (Cond.stringLink own index text).before a0 Z = true) (wS : ∀ a ∈ Bundle.stringAtoms, a.before a0 Z = true) (hmem : (own, index) ∈ EL) {n : Nat} (hn : 4 * text.toList.length ≤ n) (hbig : n ≤ 536870912)
    {vs : List Value} {z : Int32} (ht : (∀ c ∈ text.toList, c.toNat < 256) ∧ text.toList.map (fun c => Value.int (Jvm.Lit.byteI c.toNat.toUInt16)) = vs) (hz : ¬ z < 0) (hlz : z.toNatClampNeg = vs.length)
    {pc : Nat} (pc' : Nat) {L : Array Slot} {S : List Value} (hd : decode c.code pc = .ok (.ldc index, 2)) (hp : pc + 2 = pc') (hc : cells + 2 ≤ R.cells) (hl : slots + (n + 4) ≤ R.slots)
    (k : ∀ (a b : Addr) (kb : ClassId) (vm' : Vm) (h' : Heap), Ext h h' → CHr Z EL vm h vm' h' → Exa Z h' a "java/lang/String" → Fld Z h' a "java/lang/String" "coder" "B" (.int 0) → Fld Z h' a "java/lang/String" "value" "[B" (.ref b) → Arv Z h' b kb .byte z vs (.int 0) → (∀ x, Safe Z EL vm' h' x → x ≠ a ∧ x ≠ b) →
      Go p l e R s m args below meth c Z a0 EL own Q vm' h' (cells + 2) (slots + (n + 4)) (mkF m pc' L (.ref a :: S))) : Go p l e R s m args below meth c Z a0 EL own Q vm h cells slots (mkF m pc L S) := fun T X => by
  subst hp
  obtain ⟨locs, k0, X', eT, hZ, hown, hS, hk, N, H, E0, hEL, hx', hlk⟩ := X
  obtain ⟨a, T', h', k1, b, kb, X1, e1, E, hS1, hk1, hZ1, ho1, F1, F2, F3, F4, -, -, hC, -, F5, st⟩ := ldcCH X' hx hZ hown w wS eT hS hk hEL hmem H.1 ht hz hlz (g := mkF m pc L S) rfl hd hn hbig hc hl
  obtain ⟨s2, o, q1, q2⟩ := k a b kb T'.vm h' E hC F1 F2 F3 F4 F5 T' ⟨locs, k1, X1, e1, hZ1, ho1, hS1, hk1, N, H.trans hC, E0, hEL, hx', hlk⟩
  exact ⟨s2, o, st _ q1, q2⟩
end Kit2
end Jvm.OwnKit
namespace Jvm.OwnKit
open Sem ClassFile Op Lib Bundle Jvm.Stand Jvm.Free Jvm.LawKit Jvm.RoadKit
section Kit3
variable {p : Program} {l : Launch} {e : Env} {R : Room} {s : State} {m : MethodId} {args : Array Value} {below : List Frame} {meth : Method} {c : Code} {Z : State} {a0 : Array Value} {EL : List (String × Nat)} {own : String} {Q : Option Value → Vm → Heap → Prop} {vm : Vm} {h h' : Heap} {cells slots : Nat} {g : JFrame}
theorem gi2c {x y : Int32} (hx : p.tables.exec = Jvm.exec) (hy : x.toUInt32.toUInt16.toUInt32.toInt32 = y) {pc : Nat} (pc' : Nat) {L : Array Slot} {rest : List Value} (hd : decode c.code pc = .ok (.i2c, 1)) (hp : pc + 1 = pc')
    (k : Go p l e R s m args below meth c Z a0 EL own Q vm h cells slots (mkF m pc' L (.int y :: rest))) : Go p l e R s m args below meth c Z a0 EL own Q vm h cells slots (mkF m pc L (.int x :: rest)) := by
  subst hy hp
  exact gs _ (fun _ _ A k => XS.i2c A hx rfl hd rfl k) k
theorem narC (x : Int32) : nar .char (x &&& 255) = x &&& 255 := i2c_mask x
/-- a char of 0 to 255 -/
def B8 (c : Int32) : Prop := ¬ c < 0 ∧ ¬ (255 : Int32) < c
theorem b255 (x : Int32) : B8 (x &&& 255) := by
  have h := c_mask x 255 8 (by decide) (by decide)
  have e1 : (0 : Int32).toInt = 0 := rfl
  have e2 : (255 : Int32).toInt = 255 := rfl
  refine ⟨?_, ?_⟩
  · rw [Int32.lt_iff_toInt_lt, h, e1]; omega
  · rw [Int32.lt_iff_toInt_lt, h, e2]; omega
theorem bnil : ∀ c ∈ ([] : List Int32), B8 c := fun _ q => nomatch q
theorem bcons {a : Int32} {L : List Int32} (q : B8 a) (r : ∀ c ∈ L, B8 c) : ∀ c ∈ a :: L, B8 c := fun c z => (List.mem_cons.mp z).elim (fun u => u ▸ q) (r c)
/-- an ordinary Latin-1 String and its bytes -/
def Str (Z : State) (h : Heap) (a t : Addr) (cs : List Int32) : Prop := Exa Z h a "java/lang/String" ∧ Fld Z h a "java/lang/String" "coder" "B" (.int 0) ∧ Fld Z h a "java/lang/String" "value" "[B" (.ref t) ∧
  (∃ kb, Arv Z h t kb .byte (Int32.ofNat cs.length) ((cs.map fun c => c.toInt8.toInt32).map Value.int) (.int 0)) ∧ (∀ c ∈ cs, B8 c) ∧ cs.length ≤ 4000
variable {a t o : Addr} {cs : List Int32} {ws : List Addr} {sl : Nat} {v : Value}
theorem Str.ext (F : Str Z h a t cs) (E : Ext h h') : Str Z h' a t cs := by
  obtain ⟨f1, f2, f3, ⟨kb, f4⟩, f5⟩ := F
  exact ⟨f1.ext E, f2.ext E, f3.ext E, ⟨kb, f4.ext E⟩, f5⟩
theorem Str.keep (F : Str Z h a t cs) (K : Keep h h' ws) (q : a ∉ ws) (r : t ∉ ws) : Str Z h' a t cs := by
  obtain ⟨f1, f2, f3, ⟨kb, f4⟩, f5⟩ := F
  exact ⟨f1.keep K, f2.keep K q, f3.keep K q, ⟨kb, f4.keep K r⟩, f5⟩
theorem Str.other (F : Str Z h a t cs) (W : Wr h h' o sl v) (q : a ≠ o) (r : t ≠ o) : Str Z h' a t cs := by
  obtain ⟨f1, f2, f3, ⟨kb, f4⟩, f5⟩ := F
  exact ⟨f1.wr W, f2.other W (Or.inl q), f3.other W (Or.inl q), ⟨kb, f4.other W r⟩, f5⟩
theorem Str.tlt (F : Str Z h a t cs) : t < h.size := by
  obtain ⟨f1, f2, f3, ⟨kb, f4⟩, f5⟩ := F
  exact f4.lt
theorem Str.lit {kb : ClassId} {z : Int32} {vs : List Value} (E : Exa Z h a "java/lang/String") (C : Fld Z h a "java/lang/String" "coder" "B" (.int 0)) (V : Fld Z h a "java/lang/String" "value" "[B" (.ref t)) (A : Arv Z h t kb .byte z vs (.int 0)) (hb : ∀ c ∈ cs, ¬ c < 0 ∧ ¬ (255 : Int32) < c)
    (hz : z = Int32.ofNat cs.length) (hv : vs = (cs.map fun c => c.toInt8.toInt32).map Value.int) (hl : cs.length ≤ 4000) : Str Z h a t cs := ⟨E, C, V, ⟨kb, by rw [← hz, ← hv]; exact A⟩, hb, hl⟩
end Kit3
end Jvm.OwnKit
namespace Jvm.OwnKit
open Sem ClassFile Op Lib Bundle Jvm.Stand Jvm.Free Jvm.LawKit Jvm.RoadKit
section Kit4
variable {p : Program} {l : Launch} {e : Env} {R : Room} {s : State} {m : MethodId} {args : Array Value} {below : List Frame} {meth : Method} {c : Code} {Z : State} {a0 : Array Value} {EL : List (String × Nat)} {own : String} {Q : Option Value → Vm → Heap → Prop} {vm : Vm} {h h' : Heap} {cells slots : Nat} {g : JFrame}
/-- roads that meet -/
theorem gjoin (P : Vm → Heap → JFrame → Prop) (cells' slots' : Nat) (k1 : ∀ vm' h' g', P vm' h' g' → Go p l e R s m args below meth c Z a0 EL own Q vm' h' cells' slots' g')
    (k2 : (∀ vm' h' g', P vm' h' g' → Go p l e R s m args below meth c Z a0 EL own Q vm' h' cells' slots' g') → Go p l e R s m args below meth c Z a0 EL own Q vm h cells slots g) : Go p l e R s m args below meth c Z a0 EL own Q vm h cells slots g := k2 k1
variable {b : Addr} {cs : List Int32} {ws : List Addr} {sl : Nat} {v : Value} {o : Addr}
/-! out of the case's words -/
theorem eqI {t : Term} {x y : Int32} {idx : List Nat} (h1 : t.eval args s none idx s = some (.int x)) (h2 : (Cond.eq t (Term.int y)).value args s none s idx = some true) : x = y := by simpa [Cond.value, Term.eval, h1] using h2
theorem lenlt {t : Term} {v : Value} {aa : Addr} {cl : Cell} (h : (Term.length t).eval args s none [] s = some v) (ht : t.eval args s none [] s = some (.ref aa)) (hA : s.arrayAt? aa = some cl) : cl.slots.size < 2 ^ 31 := by
  apply Decidable.byContradiction
  intro hb
  simp [Term.eval, ht, hA, hb] at h
theorem lenI {t : Term} {n : Int32} {aa : Addr} {cl : Cell} (w : (Cond.eq (Term.length t) (Term.int n)).value args s none s [] = some true) (ht : t.eval args s none [] s = some (.ref aa)) (hA : s.arrayAt? aa = some cl) : cl.slots.size < 2 ^ 31 ∧ cl.slots.size.toInt32 = n := by
  obtain ⟨x, y, f1, f2, -, -⟩ := cmp_v (Or.inl w)
  have hb := lenlt f1 ht hA
  exact ⟨hb, eqI (len_f ht hA hb) w⟩
theorem fldI {t : Term} {aa : Addr} {C n d : String} {y : Int32} (ht : t.eval args s none [] s = some (.ref aa)) (w : (Cond.eq (Term.field t C n d) (Term.int y)).value args s none s [] = some true) : Fld s s.heap aa C n d (.int y) := by
  obtain ⟨x, y', e1, e2, k1, k2⟩ := cmp_v (Or.inl w)
  cases (Option.some.inj e2 : Value.int y = y')
  obtain ⟨z, rfl⟩ := k2
  have := eqI e1 w
  subst this
  exact Fld.start ((fld_at ht).symm.trans e1)
theorem Str.start {t : Term} {cs : List Int32} {n : Int32} {aa : Addr} (hf : Fit s) (ev : t.eval args s none [] s = some (.ref aa)) (wE : (Cond.exactly t "java/lang/String").value args s none s [] = some true) (wC : (Cond.eq (Term.field t "java/lang/String" "coder" "B") (Term.int 0)).value args s none s [] = some true)
    (wA : (Cond.arrayOf (Term.field t "java/lang/String" "value" "[B") .byte).value args s none s [] = some true) (wL : (Cond.eq (Term.length (Term.field t "java/lang/String" "value" "[B")) (Term.int n)).value args s none s [] = some true) (hn : n = Int32.ofNat cs.length) (hl : cs.length ≤ 4000) (hb : ∀ c ∈ cs, B8 c)
    (H : ∀ (tt : Addr) (cl : Cell), (Term.field t "java/lang/String" "value" "[B").eval args s none [] s = some (.ref tt) → s.heap[tt]? = some cl → HasL cl 0 ((cs.map fun c => c.toInt8.toInt32).map Value.int)) : ∃ tt, Str s s.heap aa tt cs := by
  obtain ⟨tt, et⟩ := arr_v wA
  obtain ⟨cl, Ar⟩ := Arr.start et wA
  have hA : s.arrayAt? tt = some cl := Ar.fin (Vm.Alike.refl _)
  obtain ⟨h1, h2⟩ := lenI wL et hA
  have hz : ¬ n < 0 := by rw [hn, Int32.lt_iff_toInt_lt, Int32.toInt_ofNat_of_lt (by omega)]; simp
  have hz2 : n.toNatClampNeg = cs.length := by rw [hn, Int32.toNatClampNeg, Int32.toInt_ofNat_of_lt (by omega)]; rfl
  refine ⟨tt, Exa.start ev wE, fldI ev wC, Fld.start ((fld_at ev).symm.trans et), ⟨cl.cls, ?_⟩, hb, hl⟩
  rw [← hn]
  exact Arv.start hf Ar h1 h2 hz (by rw [hz2]; simp) (H tt cl et Ar.1)
end Kit4
end Jvm.OwnKit
namespace Jvm.OwnKit
open Sem ClassFile Op Lib Bundle Jvm.Stand Jvm.Free Jvm.LawKit Jvm.RoadKit
section Kit5
variable {p : Program} {l : Launch} {e : Env} {R : Room} {s : State} {m : MethodId} {args : Array Value} {below : List Frame} {meth : Method} {c : Code} {Z : State} {a0 : Array Value} {EL : List (String × Nat)} {own : String} {Q : Option Value → Vm → Heap → Prop} {vm : Vm} {h h' : Heap} {cells slots : Nat} {g : JFrame}
/-- a private method reached by invokevirtual, the word 'selects' at the receiver's class -/
theorem gcallQ {index : Nat} {C : String} {y : MethodName} {bytes : ByteArray} {maxL : Nat} {ret : Option FieldType} (hx : p.tables.exec = Jvm.exec) (wl : (Cond.methodLink own index y).before a0 Z = true) (wi : (Cond.instanceMethod y).before a0 Z = true) (wsel : (Cond.selects C y y).before a0 Z = true) (wp : (Cond.privateMethod y).before a0 Z = true) (wc : (Cond.code y bytes maxL ret).before a0 Z = true)
    (hy : y.cls ≠ "java/lang/invoke/MethodHandle" ∧ y.cls ≠ "java/lang/invoke/VarHandle") {W rc rs : Nat} {as' : Array Value} {Q' : Option Value → Vm → Heap → Prop} (hP : Z.Warmed39 vm → CHv Z EL vm h → EW Z a0 EL → Pay l R p e below s args Z EL vm h y 3 W as' rc rs Q')
    {pc : Nat} (pc' : Nat) {L : Array Slot} {S argsL rest : List Value} {a : Addr} {K : String} (E : Exa Z h a K) (hlen : ∀ sig, parseMethodDescriptor y.desc = some sig → argsL.length = sig.parameters.length) (has : (.ref a :: argsL).toArray = as') (hstk : S = argsL.reverse ++ .ref a :: rest) (hW : (rest.map fun v => v.category).sum ≤ W) (hml : L.size = c.maxLocals)
    (hd : decode c.code pc = .ok (.invokevirtual index, 3)) (hp : pc + 3 = pc') (hc : cells + rc ≤ R.cells) (hs : slots + rs ≤ R.slots)
    (k : ∀ v vm' h', CHr Z EL vm h vm' h' → Q' v vm' h' → Go p l e R s m args below meth c Z a0 EL own Q vm' h' (cells + rc) (slots + rs) (mkF m pc' L (v.toList ++ rest))) : Go p l e R s m args below meth c Z a0 EL own Q vm h cells slots (mkF m pc L S) :=
  gback (y := y) (as' := as') (fun T locs X hZ hown eT H hEL => by
    subst has hp hstk
    obtain ⟨cq, q1, q2⟩ := E.cell
    have hi : (Cond.instanceMethod y).before args (s.setVm vm) = true := mvT (s := s.setVm vm) hZ wi
    have hco : (Cond.code y bytes maxL ret).before args (s.setVm vm) = true := mvT (s := s.setVm vm) hZ wc
    obtain ⟨mk, mM, hn, hmM, hst, hab⟩ := Cond.instanceMethod_spec hi
    obtain ⟨mM', cM, e1, -, -, -, -, -, -, hsig⟩ := Cond.code_spec hn hco
    cases hmM.symm.trans e1
    obtain ⟨-, -, m2, -, -, q3, -, kP, hk1, hk2⟩ := Cond.selects_spec (show (Cond.selects C y y).before args (s.setVm vm) = true from mvT (s := s.setVm vm) hZ wsel)
    cases hn.symm.trans q3
    have hpr := Cond.privateMethod_at (mvP (s := s.setVm vm) hZ wp (args := #[]))
    obtain ⟨vm1, X1, st1⟩ := X.invokevirtual (s := s.setVm vm) hx hown (mvT hZ wl) hn hmM hst hk1 hk2 hy (a := a) (cell := cq) (by rw [eT]; exact q1) q2 (selectMethod_private hmM (hpr mk mM hn hmM)) hmM hab hk1 hk2 (g := mkF m pc L (argsL.reverse ++ .ref a :: rest)) rfl (argsL := argsL) (rest := rest) (hlen _ hsig) rfl hd
    obtain ⟨v, B, X2, hS, hgr, hpost, hst2⟩ := hP hZ H hEL m meth c ⟨T.setVm vm1, locs, cells, slots⟩ (mkF m pc L rest) (.invokevirtual index) mk (.ref a :: argsL).toArray X1 rfl hml hd (by show 2 * 0 + (rest.map fun v => v.category).sum ≤ _; omega) (X1.named hn) ⟨rfl, eT, hc, hs⟩
    exact ⟨v, vm1, B, X1.warmed, X2, hS, hgr, hpost, (st1 _ fun acts => by rw [doInvoke_state]; exact Steps.refl _).trans hst2⟩) k
theorem nfSame {C : String} {y y' : MethodName} (w : (Cond.selects C y' y').before a0 Z = true) (wi : (Cond.instanceMethod y').before a0 Z = true) (he : y'.cls = y.cls) : ∀ (U : State), Z.Warmed39 U.vm → NotFace U y := fun U hU r0 h0 => by
  have n1 : NotFace U y' := notFace_of_selects (args := #[]) (mvT hU w)
  obtain ⟨mk, mM, hn, -⟩ := Cond.instanceMethod_spec (show (Cond.instanceMethod y').before #[] U = true from mvT hU wi)
  obtain ⟨kr, h1, h2⟩ := n1 mk hn
  have e1 := findClass_of_methodNamed hn
  have e2 := findClass_of_methodNamed h0
  rw [he] at e1
  have e3 := Option.some.inj (e1.symm.trans e2)
  exact ⟨kr, by rw [← e3]; exact h1, h2⟩
theorem smOf {y : MethodName} (wi : (Cond.instanceMethod y).before a0 Z = true) (nf : ∀ (U : State), Z.Warmed39 U.vm → NotFace U y) (hy : y.cls ≠ "java/lang/invoke/MethodHandle" ∧ y.cls ≠ "java/lang/invoke/VarHandle") : (Cond.sameMethod y.cls y.cls y.name y.desc).before a0 Z = true := by
  obtain ⟨mk, mM, hn, -⟩ := Cond.instanceMethod_spec wi
  obtain ⟨kr, h1, h2⟩ := nf Z (State.Warmed39.refl Z) mk hn
  have e1 := findClass_of_methodNamed hn
  have e2 := State.methodFound?_of_named hn hy
  have hn' : Z.methodNamed? ⟨y.cls, y.name, y.desc⟩ = some mk := hn
  simp only [Cond.before, Cond.holds, Cond.value, e1, e2, hn']
  simp [h1, h2]
/-! arrays of bytes are copied -/
theorem tn {n : Nat} (h : n < 2147483648) : (Int32.ofNat n).toNatClampNeg = n := by rw [Int32.toNatClampNeg, Int32.toInt_ofNat_of_lt (by omega)]; rfl
theorem nn0 {n : Nat} (h : n < 2147483648) : ¬ Int32.ofNat n < 0 := by rw [Int32.lt_iff_toInt_lt, Int32.toInt_ofNat_of_lt (by omega)]; simp
theorem range_get (vs : List Value) (dv : Value) (i n : Nat) (hn : i + n ≤ vs.length) : (vs.drop i).take n = (List.range n).map fun t => vs.getD (i + t) dv := by
  apply List.ext_getElem
  · simp; omega
  · intro t h1 h2
    simp at h1 h2
    simp [List.getD_eq_getElem?_getD, List.getElem?_eq_getElem (show i + t < vs.length by omega)]
theorem gcopyN {index : Nat} (hx : p.tables.exec = Jvm.exec) (w1 : (Cond.methodLink own index Jvm.Stand.acN).before a0 Z = true) (w2 : (Cond.native Jvm.Stand.acN).before a0 Z = true) (w3 : (Cond.static Jvm.Stand.acN).before a0 Z = true) (w4 : (Cond.initialized "java/lang/System").before a0 Z = true)
    {a b : Addr} {ka kb : ClassId} {z z' sp dp nn : Int32} {vs vd : List Value} {dv dd : Value} (i j n N M : Nat) (A : Arv Z h a ka .byte z vs dv) (B : Arv Z h b kb .byte z' vd dd) (hsp : sp = Int32.ofNat i) (hdp : dp = Int32.ofNat j) (hnn : nn = Int32.ofNat n) (hz : z = Int32.ofNat N) (hz' : z' = Int32.ofNat M)
    (hN : N < 2147483648) (hM : M < 2147483648) (h4 : i + n ≤ N) (h5 : j + n ≤ M) (hvs : vs.length = N) (hvd : vd.length = M) (ge : Z.heap.size ≤ b) (hs : Z.vm.Alike vm → Safe Z EL vm h b)
    {pc : Nat} (pc' : Nat) {L : Array Slot} {rest : List Value} {W : Nat} (hW : (rest.map fun v => v.category).sum ≤ W) (hml : L.size = c.maxLocals) (hd : decode c.code pc = .ok (.invokestatic index, 3)) (hp : pc + 3 = pc') (hf : 1 ≤ R.frames) (hlo : W + 18 ≤ R.locals)
    (k : ∀ h', Keep h h' [b] → CHr Z EL vm h vm h' → Arv Z h' b kb .byte z' (vd.take j ++ (vs.drop i).take n ++ vd.drop (j + n)) dd → Go p l e R s m args below meth c Z a0 EL own Q vm h' cells slots (mkF m pc' L rest)) :
    Go p l e R s m args below meth c Z a0 EL own Q vm h cells slots (mkF m pc L (.int nn :: .int dp :: .ref b :: .int sp :: .ref a :: rest)) := fun T X => by
  subst hp hsp hdp hnn hz hz'
  obtain ⟨locs, k0, X', eT, hZ, hown, hS, hk, N0, H, E0, hEL, hx', hlk⟩ := X
  have ti : (Int32.ofNat i).toNatClampNeg = i := tn (by omega)
  have tj : (Int32.ofNat j).toNatClampNeg = j := tn (by omega)
  have tnn : (Int32.ofNat n).toNatClampNeg = n := tn (by omega)
  obtain ⟨T', h', L', X1, e1, F1, K1, V1, st⟩ := cpA (s := s.setVm vm) X' hx hZ hown w1 w2 w3 w4 eT A B (Or.inl ⟨rfl, rfl⟩) (nn0 (by omega)) (nn0 (by omega)) (nn0 (by omega)) (by rw [ti, tnn, tn hN]; exact h4) (by rw [tj, tnn, tn hM]; exact h5) (us := (vs.drop i).take n) (by rw [ti, tnn]; exact range_get vs dv i n (by omega)) (by rw [tj, tnn]; omega) N0 ge
    (g := mkF m pc L (.int (Int32.ofNat n) :: .int (Int32.ofNat j) :: .ref b :: .int (Int32.ofNat i) :: .ref a :: rest)) rfl hml rfl hd hf (W := W) (by show 2 * 0 + _ ≤ _; omega) (by show W + (7 + 11) ≤ _; omega)
  rw [tj, tnn] at V1
  have C1 : CHr Z EL vm h vm h' := CHr.keep K1 (allS (hs hZ.alike) all0) H.1
  obtain ⟨s2, o, q1, q2⟩ := k h' K1 C1 V1 T' ⟨L', k0, X1, e1, hZ, hown, hS, Nat.le_trans hk K1.1, F1, H.trans C1, E0, hEL, hx', hlk⟩
  exact ⟨s2, o, st _ q1, q2⟩
/-! a StringBuilder of Latin-1 signs -/
abbrev lo8s (cs : List Int32) : List Value := (cs.map fun c => c.toInt8.toInt32).map Value.int
def SBd (Z : State) (h : Heap) (b v : Addr) (cap : Nat) (cs : List Int32) : Prop := Exa Z h b "java/lang/StringBuilder" ∧ Fld Z h b "java/lang/AbstractStringBuilder" "value" "[B" (.ref v) ∧ Fld Z h b "java/lang/AbstractStringBuilder" "coder" "B" (.int 0) ∧ Fld Z h b "java/lang/AbstractStringBuilder" "count" "I" (.int (Int32.ofNat cs.length)) ∧
  (∃ kb zs, Arv Z h v kb .byte (Int32.ofNat cap) (lo8s cs ++ zs) (.int 0) ∧ cs.length + zs.length = cap) ∧ (∀ c ∈ cs, B8 c) ∧ cap ≤ 4000
variable {b v t o : Addr} {cap : Nat} {cs ds : List Int32} {ws : List Addr} {sl : Nat} {w : Value}
theorem SBd.ext (F : SBd Z h b v cap cs) (E : Ext h h') : SBd Z h' b v cap cs := by
  obtain ⟨f1, f2, f3, f4, ⟨kb, zs, f5, f6⟩, f7⟩ := F
  exact ⟨f1.ext E, f2.ext E, f3.ext E, f4.ext E, ⟨kb, zs, f5.ext E, f6⟩, f7⟩
theorem SBd.keep (F : SBd Z h b v cap cs) (K : Keep h h' ws) (q : b ∉ ws) (r : v ∉ ws) : SBd Z h' b v cap cs := by
  obtain ⟨f1, f2, f3, f4, ⟨kb, zs, f5, f6⟩, f7⟩ := F
  exact ⟨f1.keep K, f2.keep K q, f3.keep K q, f4.keep K q, ⟨kb, zs, f5.keep K r, f6⟩, f7⟩
theorem SBd.wr (F : SBd Z h b v cap cs) (W : Wr h h' o sl w) (q : b ≠ o) (r : v ≠ o) : SBd Z h' b v cap cs := by
  obtain ⟨f1, f2, f3, f4, ⟨kb, zs, f5, f6⟩, f7⟩ := F
  exact ⟨f1.wr W, f2.other W (Or.inl q), f3.other W (Or.inl q), f4.other W (Or.inl q), ⟨kb, zs, f5.other W r, f6⟩, f7⟩
theorem SBd.vlt (F : SBd Z h b v cap cs) : v < h.size := by obtain ⟨f1, f2, f3, f4, ⟨kb, zs, f5, f6⟩, f7⟩ := F; exact f5.lt
theorem addOf {a b : Nat} (h : a + b ≤ 4000) : Int32.ofNat a + Int32.ofNat b = Int32.ofNat (a + b) := by
  apply Int32.toInt_inj.mp
  have q := c_iadd (Int32.ofNat a) (Int32.ofNat b)
  have r := rng32 (Int32.ofNat a + Int32.ofNat b)
  rw [Int32.toInt_ofNat_of_lt (by omega), Int32.toInt_ofNat_of_lt (by omega)] at q
  rw [Int32.toInt_ofNat_of_lt (by omega)]
  omega
theorem subOf0 {a : Nat} (h : a ≤ 4000) : Int32.ofNat a - (0 : Int32) = Int32.ofNat a := by
  apply Int32.toInt_inj.mp
  have q := c_isub (Int32.ofNat a) 0
  have r := rng32 (Int32.ofNat a - 0)
  have e0 : (0 : Int32).toInt = 0 := rfl
  rw [Int32.toInt_ofNat_of_lt (by omega), e0] at q
  rw [Int32.toInt_ofNat_of_lt (by omega)]
  omega
theorem ltOf {a b : Nat} (ha : a ≤ 4000) (hb : b ≤ 4000) : Int32.ofNat a < Int32.ofNat b ↔ a < b := by
  rw [Int32.lt_iff_toInt_lt, Int32.toInt_ofNat_of_lt (by omega), Int32.toInt_ofNat_of_lt (by omega)]; omega
theorem eqOf {a b : Nat} (ha : a ≤ 4000) (hb : b ≤ 4000) : Int32.ofNat a = Int32.ofNat b ↔ a = b := by
  rw [← Int32.toInt_inj, Int32.toInt_ofNat_of_lt (by omega), Int32.toInt_ofNat_of_lt (by omega)]; omega
theorem subLe {a b : Nat} (ha : a ≤ 4000) (hb : b ≤ 4000) (h : a ≤ b) : ¬ (0 : Int32) < Int32.ofNat a - Int32.ofNat b := by
  have q := c_isub (Int32.ofNat a) (Int32.ofNat b)
  have r := rng32 (Int32.ofNat a - Int32.ofNat b)
  have e0 : (0 : Int32).toInt = 0 := rfl
  rw [Int32.toInt_ofNat_of_lt (by omega), Int32.toInt_ofNat_of_lt (by omega)] at q
  rw [Int32.lt_iff_toInt_lt, e0]
  omega
theorem shr0 {a : Nat} (h : a ≤ 4000) : (Int32.ofNat a >>> ((0 : Int32) &&& 31)) = Int32.ofNat a := by
  apply Int32.toInt_inj.mp
  rw [c_ishr _ 0 0 (by decide)]; simp
theorem shl0 {a : Nat} (h : a ≤ 4000) : (Int32.ofNat a <<< ((0 : Int32) &&& 31)) = Int32.ofNat a := by
  apply Int32.toInt_inj.mp
  have q := c_ishl (Int32.ofNat a) 0 0 (by decide)
  have r := rng32 (Int32.ofNat a <<< ((0 : Int32) &&& 31))
  rw [Int32.toInt_ofNat_of_lt (by omega)] at q ⊢
  omega
theorem lo8s_len (cs : List Int32) : (lo8s cs).length = cs.length := by simp [lo8s]
theorem lo8s_app (cs ds : List Int32) : lo8s (cs ++ ds) = lo8s cs ++ lo8s ds := by simp [lo8s]
/-- what a copy behind the first signs leaves -/
theorem put_list {zs : List Value} : ((lo8s cs ++ zs).take cs.length ++ ((lo8s ds).drop 0).take ds.length ++ (lo8s cs ++ zs).drop (cs.length + ds.length)) = lo8s (cs ++ ds) ++ zs.drop ds.length := by
  rw [List.take_append_of_le_length (by rw [lo8s_len]; exact Nat.le_refl _), List.take_of_length_le (by rw [lo8s_len]; exact Nat.le_refl _), List.drop_zero, List.take_of_length_le (by rw [lo8s_len]; exact Nat.le_refl _), lo8s_app]
  have e : (lo8s cs).drop cs.length = [] := List.drop_of_length_le (by rw [lo8s_len]; exact Nat.le_refl _)
  rw [← List.drop_drop, List.drop_append_of_le_length (by rw [lo8s_len]; exact Nat.le_refl _), e, List.nil_append]
theorem pre_list {zs : List Value} {d : Value} : ((List.replicate cs.length d).take 0 ++ ((lo8s cs ++ zs).drop 0).take cs.length ++ (List.replicate cs.length d).drop (0 + cs.length)) = lo8s cs := by
  rw [List.take_zero, List.nil_append, List.drop_zero, List.take_append_of_le_length (by rw [lo8s_len]; exact Nat.le_refl _), List.take_of_length_le (by rw [lo8s_len]; exact Nat.le_refl _), List.drop_of_length_le (by simp), List.append_nil]
end Kit5
end Jvm.OwnKit
namespace Jvm.OwnKit
open Sem ClassFile Op Lib Bundle Jvm.Stand Jvm.Free Jvm.LawKit Jvm.RoadKit
section Kit6
variable {p : Program} {l : Launch} {e : Env} {R : Room} {s : State} {m : MethodId} {args : Array Value} {below : List Frame} {meth : Method} {c : Code} {Z : State} {a0 : Array Value} {EL : List (String × Nat)} {own : String} {Q : Option Value → Vm → Heap → Prop} {vm : Vm} {h h' : Heap} {cells slots : Nat} {g : JFrame}
/-- a private method reached by invokevirtual, the word 'selects' at the receiver's class -/
theorem gnewPE {aty : ArrayType} {ad : String} (hx : p.tables.exec = Jvm.exec) (w : (Cond.arrayClass (newarray.typeOf aty)).before a0 Z = true) {n : Int32} (hn : ¬ n < 0) {cap : Nat} (hcap : n.toNatClampNeg ≤ cap) (hb : cap * 8 ≤ 536870912) (had : "[" ++ (newarray.typeOf aty).toString = ad)
    {pc : Nat} (pc' : Nat) {L : Array Slot} {S : List Value} (hd : decode c.code pc = .ok (.newarray aty, 2)) (hp : pc + 2 = pc') (hc : cells + 1 ≤ R.cells) (hl : slots + cap ≤ R.slots)
    (k : ∀ (b : Addr) (h' : Heap) (cA : ClassId), h.size = b → Ext h h' → CHr Z EL vm h vm h' → Arv Z h' b cA (newarray.typeOf aty) n [] (defaultValue (newarray.typeOf aty)) → Exa Z h' b ad → Z.heap.size ≤ b → Safe Z EL vm h' b → Go p l e R s m args below meth c Z a0 EL own Q vm h' (cells + 1) (slots + cap) (mkF m pc' L (.ref b :: S))) :
    Go p l e R s m args below meth c Z a0 EL own Q vm h cells slots (mkF m pc L (.int n :: S)) :=
  gnew (P := fun h' => ∃ cA, Arv Z h' h.size cA (newarray.typeOf aty) n [] (defaultValue (newarray.typeOf aty)) ∧ Exa Z h' h.size ad) (fun _ => mkF m pc' L (.ref h.size :: S))
    (fun T locs X hZ hown eT => by
      subst hp
      obtain ⟨T', h', cA, X', e', E, A, XE, st⟩ := newPE (s := s.setVm vm) X hx hZ w eT (g := mkF m pc L (.int n :: S)) rfl hd rfl hn hcap hb hc hl had
      exact ⟨T', h', X', e', E, ⟨cA, Arv.new A hn, XE⟩, st⟩)
    (fun h' E hC hP hz hs => by obtain ⟨cA, V, XE⟩ := hP; exact k _ h' cA rfl E hC V XE hz hs)
end Kit6
end Jvm.OwnKit
namespace Jvm.OwnKit
open Sem ClassFile Op Lib Bundle Jvm.Stand Jvm.Free Jvm.LawKit Jvm.RoadKit
section Kit7
variable {p : Program} {l : Launch} {e : Env} {R : Room} {s : State} {m : MethodId} {args : Array Value} {below : List Frame} {meth : Method} {c : Code} {Z : State} {a0 : Array Value} {EL : List (String × Nat)} {own : String} {Q : Option Value → Vm → Heap → Prop} {vm : Vm} {h h' : Heap} {cells slots : Nat} {g : JFrame}
end Kit7
end Jvm.OwnKit
namespace Jvm.OwnKit
open Sem ClassFile Op Lib Bundle Jvm.Stand Jvm.Free Jvm.LawKit Jvm.RoadKit
section Kit8
variable {p : Program} {l : Launch} {e : Env} {R : Room} {s : State} {m : MethodId} {args : Array Value} {below : List Frame} {meth : Method} {c : Code} {Z : State} {a0 : Array Value} {EL : List (String × Nat)} {own : String} {Q : Option Value → Vm → Heap → Prop} {vm : Vm} {h h' : Heap} {cells slots : Nat} {g : JFrame}
variable {bytes : ByteArray} {pc n : Nat} {nf : Fin 4} {L : Array Slot} {S : List Value} {v : Value} {z y : Int32} {i : Int}
theorem uA (pc' : Nat) (hx : p.tables.exec = Jvm.exec) (hby : c.code = bytes) (hd : decode bytes pc = .ok (.aload n, 2)) (hp : pc + 2 = pc') (hl : L[n]? = some (.val v)) (hv : v.isRef = true) (k : Go p l e R s m args below meth c Z a0 EL own Q vm h cells slots (mkF m pc' L (v :: S))) : Go p l e R s m args below meth c Z a0 EL own Q vm h cells slots (mkF m pc L S) := by
  subst hp
  exact gs _ (fun _ _ A kq => XS.aload A hx rfl (hb hby hd) hl hv kq) k
theorem uAN (pc' : Nat) (hx : p.tables.exec = Jvm.exec) (hby : c.code = bytes) (hd : decode bytes pc = .ok (.aload_n nf, 1)) (hp : pc + 1 = pc') (hl : L[nf.val]? = some (.val v)) (hv : v.isRef = true) (k : Go p l e R s m args below meth c Z a0 EL own Q vm h cells slots (mkF m pc' L (v :: S))) : Go p l e R s m args below meth c Z a0 EL own Q vm h cells slots (mkF m pc L S) := by
  subst hp
  exact gs _ (fun _ _ A kq => XS.aloadN A hx rfl (hb hby hd) hl hv kq) k
theorem uI (pc' : Nat) (hx : p.tables.exec = Jvm.exec) (hby : c.code = bytes) (hd : decode bytes pc = .ok (.iload n, 2)) (hp : pc + 2 = pc') (hl : L[n]? = some (.val (.int z))) (k : Go p l e R s m args below meth c Z a0 EL own Q vm h cells slots (mkF m pc' L (.int z :: S))) : Go p l e R s m args below meth c Z a0 EL own Q vm h cells slots (mkF m pc L S) := by
  subst hp
  exact gs _ (fun _ _ A kq => XS.iload A hx rfl (hb hby hd) hl kq) k
theorem uIN (pc' : Nat) (hx : p.tables.exec = Jvm.exec) (hby : c.code = bytes) (hd : decode bytes pc = .ok (.iload_n nf, 1)) (hp : pc + 1 = pc') (hl : L[nf.val]? = some (.val (.int z))) (k : Go p l e R s m args below meth c Z a0 EL own Q vm h cells slots (mkF m pc' L (.int z :: S))) : Go p l e R s m args below meth c Z a0 EL own Q vm h cells slots (mkF m pc L S) := by
  subst hp
  exact gs _ (fun _ _ A kq => XS.iloadN A hx rfl (hb hby hd) hl kq) k
theorem uD (pc' : Nat) (hx : p.tables.exec = Jvm.exec) (hby : c.code = bytes) (hd : decode bytes pc = .ok (.dup, 1)) (hp : pc + 1 = pc') (hc : v.category = 1) (k : Go p l e R s m args below meth c Z a0 EL own Q vm h cells slots (mkF m pc' L (v :: v :: S))) : Go p l e R s m args below meth c Z a0 EL own Q vm h cells slots (mkF m pc L (v :: S)) := by
  subst hp
  exact gs _ (fun _ _ A kq => XS.dup A hx rfl (hb hby hd) rfl hc kq) k
theorem uP (pc' : Nat) (hx : p.tables.exec = Jvm.exec) (hby : c.code = bytes) (hd : decode bytes pc = .ok (.pop, 1)) (hp : pc + 1 = pc') (hc : v.category = 1) (k : Go p l e R s m args below meth c Z a0 EL own Q vm h cells slots (mkF m pc' L S)) : Go p l e R s m args below meth c Z a0 EL own Q vm h cells slots (mkF m pc L (v :: S)) := by
  subst hp
  exact gs _ (fun _ _ A kq => XS.pop A hx rfl (hb hby hd) rfl hc kq) k
theorem uU (pc' : Nat) (hx : p.tables.exec = Jvm.exec) (hby : c.code = bytes) (hd : decode bytes pc = .ok (.aconst_null, 1)) (hp : pc + 1 = pc') (k : Go p l e R s m args below meth c Z a0 EL own Q vm h cells slots (mkF m pc' L (.null :: S))) : Go p l e R s m args below meth c Z a0 EL own Q vm h cells slots (mkF m pc L S) := by
  subst hp
  exact gs _ (fun _ _ A kq => XS.aconstNull A hx rfl (hb hby hd) kq) k
theorem uG (pc' : Nat) (hx : p.tables.exec = Jvm.exec) (hby : c.code = bytes) (hd : decode bytes pc = .ok (.goto i, 3)) (ho : 0 ≤ (pc : Int) + i) (hp : ((pc : Int) + i).toNat = pc') (k : Go p l e R s m args below meth c Z a0 EL own Q vm h cells slots (mkF m pc' L S)) : Go p l e R s m args below meth c Z a0 EL own Q vm h cells slots (mkF m pc L S) := gs _ (fun _ _ A kq => XS.goto A hx rfl (pc0 := pc) (pc' := pc') rfl (hb hby hd) ho hp kq) k
end Kit8
end Jvm.OwnKit
namespace Jvm.OwnKit
open Sem ClassFile Op Lib Bundle Jvm.Stand Jvm.Free Jvm.LawKit Jvm.RoadKit
section Kit9
variable {p : Program} {l : Launch} {e : Env} {R : Room} {s : State} {m : MethodId} {args : Array Value} {below : List Frame} {meth : Method} {c : Code} {Z : State} {a0 : Array Value} {EL : List (String × Nat)} {own : String} {Q : Option Value → Vm → Heap → Prop} {vm : Vm} {h h' : Heap} {cells slots : Nat} {g : JFrame}
variable {bytes : ByteArray} {pc n : Nat} {nf : Fin 4} {L : Array Slot} {S : List Value} {v : Value} {z y : Int32} {i : Int}
variable {cd : ClassFile.Cond} {b : Addr}
theorem uKc (pc' : Nat) (z : Int32) (hx : p.tables.exec = Jvm.exec) (hby : c.code = bytes) (hd : decode bytes pc = .ok (.iconst i, 1)) (hp : pc + 1 = pc') (hz : Int32.ofInt i = z) (k : Go p l e R s m args below meth c Z a0 EL own Q vm h cells slots (mkF m pc' L (.int z :: S))) : Go p l e R s m args below meth c Z a0 EL own Q vm h cells slots (mkF m pc L S) := by
  subst hp hz
  exact gs _ (fun _ _ A kq => XS.iconst A hx rfl (hb hby hd) kq) k
theorem uKb (pc' : Nat) (z : Int32) (hx : p.tables.exec = Jvm.exec) (hby : c.code = bytes) (hd : decode bytes pc = .ok (.bipush i, 2)) (hp : pc + 2 = pc') (hz : (Int8.ofInt i).toInt32 = z) (k : Go p l e R s m args below meth c Z a0 EL own Q vm h cells slots (mkF m pc' L (.int z :: S))) : Go p l e R s m args below meth c Z a0 EL own Q vm h cells slots (mkF m pc L S) := by
  subst hp hz
  exact gs _ (fun _ _ A kq => XS.bipush A hx rfl (hb hby hd) kq) k
theorem uKs (pc' : Nat) (z : Int32) (hx : p.tables.exec = Jvm.exec) (hby : c.code = bytes) (hd : decode bytes pc = .ok (.sipush i, 3)) (hp : pc + 3 = pc') (hz : (Int16.ofInt i).toInt32 = z) (k : Go p l e R s m args below meth c Z a0 EL own Q vm h cells slots (mkF m pc' L (.int z :: S))) : Go p l e R s m args below meth c Z a0 EL own Q vm h cells slots (mkF m pc L S) := by
  subst hp hz
  exact gs _ (fun _ _ A kq => XS.sipush A hx rfl (hb hby hd) kq) k
theorem uiadd (pc' : Nat) (w : Int32) (hx : p.tables.exec = Jvm.exec) (hby : c.code = bytes) (hd : decode bytes pc = .ok (.iadd, 1)) (hp : pc + 1 = pc') (hw : z + y = w) (k : Go p l e R s m args below meth c Z a0 EL own Q vm h cells slots (mkF m pc' L (.int w :: S))) : Go p l e R s m args below meth c Z a0 EL own Q vm h cells slots (mkF m pc L (.int y :: .int z :: S)) := by
  subst hp hw
  exact gs _ (fun _ _ A kq => XS.iadd A hx rfl (hb hby hd) rfl kq) k
theorem uisub (pc' : Nat) (w : Int32) (hx : p.tables.exec = Jvm.exec) (hby : c.code = bytes) (hd : decode bytes pc = .ok (.isub, 1)) (hp : pc + 1 = pc') (hw : z - y = w) (k : Go p l e R s m args below meth c Z a0 EL own Q vm h cells slots (mkF m pc' L (.int w :: S))) : Go p l e R s m args below meth c Z a0 EL own Q vm h cells slots (mkF m pc L (.int y :: .int z :: S)) := by
  subst hp hw
  exact gs _ (fun _ _ A kq => XS.isub A hx rfl (hb hby hd) rfl kq) k
theorem uimul (pc' : Nat) (w : Int32) (hx : p.tables.exec = Jvm.exec) (hby : c.code = bytes) (hd : decode bytes pc = .ok (.imul, 1)) (hp : pc + 1 = pc') (hw : z * y = w) (k : Go p l e R s m args below meth c Z a0 EL own Q vm h cells slots (mkF m pc' L (.int w :: S))) : Go p l e R s m args below meth c Z a0 EL own Q vm h cells slots (mkF m pc L (.int y :: .int z :: S)) := by
  subst hp hw
  exact gs _ (fun _ _ A kq => XS.imul A hx rfl (hb hby hd) rfl kq) k
theorem uiand (pc' : Nat) (w : Int32) (hx : p.tables.exec = Jvm.exec) (hby : c.code = bytes) (hd : decode bytes pc = .ok (.iand, 1)) (hp : pc + 1 = pc') (hw : z &&& y = w) (k : Go p l e R s m args below meth c Z a0 EL own Q vm h cells slots (mkF m pc' L (.int w :: S))) : Go p l e R s m args below meth c Z a0 EL own Q vm h cells slots (mkF m pc L (.int y :: .int z :: S)) := by
  subst hp hw
  exact gs _ (fun _ _ A kq => XS.iand A hx rfl (hb hby hd) rfl kq) k
theorem uSI (pc' : Nat) (L' : Array Slot) (hx : p.tables.exec = Jvm.exec) (hby : c.code = bytes) (hd : decode bytes pc = .ok (.istore n, 2)) (hp : pc + 2 = pc') (hl : storeLocals L n (.int z) = some L') (k : Go p l e R s m args below meth c Z a0 EL own Q vm h cells slots (mkF m pc' L' S)) : Go p l e R s m args below meth c Z a0 EL own Q vm h cells slots (mkF m pc L (.int z :: S)) := by
  subst hp
  exact gs _ (fun _ _ A kq => XS.istore A hx rfl (hb hby hd) rfl hl kq) k
theorem uSIN (pc' : Nat) (L' : Array Slot) (hx : p.tables.exec = Jvm.exec) (hby : c.code = bytes) (hd : decode bytes pc = .ok (.istore_n nf, 1)) (hp : pc + 1 = pc') (hl : storeLocals L nf.val (.int z) = some L') (k : Go p l e R s m args below meth c Z a0 EL own Q vm h cells slots (mkF m pc' L' S)) : Go p l e R s m args below meth c Z a0 EL own Q vm h cells slots (mkF m pc L (.int z :: S)) := by
  subst hp
  exact gs _ (fun _ _ A kq => XS.istoreN A hx rfl (hb hby hd) rfl hl kq) k
theorem uSA (pc' : Nat) (L' : Array Slot) (hx : p.tables.exec = Jvm.exec) (hby : c.code = bytes) (hd : decode bytes pc = .ok (.astore n, 2)) (hp : pc + 2 = pc') (hv : v.isRef = true) (hl : storeLocals L n v = some L') (k : Go p l e R s m args below meth c Z a0 EL own Q vm h cells slots (mkF m pc' L' S)) : Go p l e R s m args below meth c Z a0 EL own Q vm h cells slots (mkF m pc L (v :: S)) := by
  subst hp
  exact gs _ (fun _ _ A kq => XS.astore A hx rfl (hb hby hd) rfl hv hl kq) k
theorem uSAN (pc' : Nat) (L' : Array Slot) (hx : p.tables.exec = Jvm.exec) (hby : c.code = bytes) (hd : decode bytes pc = .ok (.astore_n nf, 1)) (hp : pc + 1 = pc') (hv : v.isRef = true) (hl : storeLocals L nf.val v = some L') (k : Go p l e R s m args below meth c Z a0 EL own Q vm h cells slots (mkF m pc' L' S)) : Go p l e R s m args below meth c Z a0 EL own Q vm h cells slots (mkF m pc L (v :: S)) := by
  subst hp
  exact gs _ (fun _ _ A kq => XS.astoreN A hx rfl (hb hby hd) rfl hv hl kq) k
theorem uInc (pc' : Nat) (L' : Array Slot) (hx : p.tables.exec = Jvm.exec) (hby : c.code = bytes) (hd : decode bytes pc = .ok (.iinc n i, 3)) (hp : pc + 3 = pc') (hl : L[n]? = some (.val (.int z))) (hl' : storeLocals L n (.int (z + Int32.ofInt i)) = some L') (k : Go p l e R s m args below meth c Z a0 EL own Q vm h cells slots (mkF m pc' L' S)) : Go p l e R s m args below meth c Z a0 EL own Q vm h cells slots (mkF m pc L S) := by
  subst hp
  exact gs _ (fun _ _ A kq => XS.iinc A hx rfl (hb hby hd) hl hl' kq) k
theorem uN (pc' : Nat) (hx : p.tables.exec = Jvm.exec) (hby : c.code = bytes) (hd : decode bytes pc = .ok (.ifCond cd i, 3)) (hp : pc + 3 = pc') (hc : ifCond.holds cd z = false) (k : Go p l e R s m args below meth c Z a0 EL own Q vm h cells slots (mkF m pc' L S)) : Go p l e R s m args below meth c Z a0 EL own Q vm h cells slots (mkF m pc L (.int z :: S)) := by
  subst hp
  exact gs _ (fun _ _ A kq => XS.ifNo A hx rfl (hb hby hd) rfl hc kq) k
theorem uNc (pc' : Nat) (hx : p.tables.exec = Jvm.exec) (hby : c.code = bytes) (hd : decode bytes pc = .ok (.if_icmp cd i, 3)) (hp : pc + 3 = pc') (hc : if_icmp.holds cd z y = false) (k : Go p l e R s m args below meth c Z a0 EL own Q vm h cells slots (mkF m pc' L S)) : Go p l e R s m args below meth c Z a0 EL own Q vm h cells slots (mkF m pc L (.int y :: .int z :: S)) := by
  subst hp
  exact gs _ (fun _ _ A kq => XS.icmpNo A hx rfl (hb hby hd) rfl hc kq) k
theorem uY (pc' : Nat) (hx : p.tables.exec = Jvm.exec) (hby : c.code = bytes) (hd : decode bytes pc = .ok (.ifCond cd i, 3)) (hc : ifCond.holds cd z = true) (ho : 0 ≤ (pc : Int) + i) (hp : ((pc : Int) + i).toNat = pc') (k : Go p l e R s m args below meth c Z a0 EL own Q vm h cells slots (mkF m pc' L S)) : Go p l e R s m args below meth c Z a0 EL own Q vm h cells slots (mkF m pc L (.int z :: S)) := gs _ (fun _ _ A kq => XS.ifYes A hx rfl (pc0 := pc) (pc' := pc') rfl (hb hby hd) rfl hc ho hp kq) k
theorem uYc (pc' : Nat) (hx : p.tables.exec = Jvm.exec) (hby : c.code = bytes) (hd : decode bytes pc = .ok (.if_icmp cd i, 3)) (hc : if_icmp.holds cd z y = true) (ho : 0 ≤ (pc : Int) + i) (hp : ((pc : Int) + i).toNat = pc') (k : Go p l e R s m args below meth c Z a0 EL own Q vm h cells slots (mkF m pc' L S)) : Go p l e R s m args below meth c Z a0 EL own Q vm h cells slots (mkF m pc L (.int y :: .int z :: S)) := gs _ (fun _ _ A kq => XS.icmpYes A hx rfl (pc0 := pc) (pc' := pc') rfl (hb hby hd) rfl hc ho hp kq) k
theorem uY1 (pc' : Nat) (hx : p.tables.exec = Jvm.exec) (hby : c.code = bytes) (hd : decode bytes pc = .ok (.ifnonnull i, 3)) (ho : 0 ≤ (pc : Int) + i) (hp : ((pc : Int) + i).toNat = pc') (k : Go p l e R s m args below meth c Z a0 EL own Q vm h cells slots (mkF m pc' L S)) : Go p l e R s m args below meth c Z a0 EL own Q vm h cells slots (mkF m pc L (.ref b :: S)) := gs _ (fun _ _ A kq => XS.ifnonnullYes A hx rfl (pc0 := pc) (pc' := pc') rfl (hb hby hd) rfl ho hp kq) k
theorem gat1 (k : Go p l e R s m args below meth c Z a0 EL own Q vm h cells slots (mkF m pc L (v :: S))) : Go p l e R s m args below meth c Z a0 EL own Q vm h cells slots (mkF m pc L ((some v).toList ++ S)) := k
theorem gat0 (k : Go p l e R s m args below meth c Z a0 EL own Q vm h cells slots (mkF m pc L S)) : Go p l e R s m args below meth c Z a0 EL own Q vm h cells slots (mkF m pc L ((none : Option Value).toList ++ S)) := k
end Kit9
end Jvm.OwnKit
/- laws to paste: Road.backV, Road.lenW, Road.chN, Road.codOf (cut by pick.py; bodies as the Statement names them) -/
namespace Jvm.Pilot.@@N@@
namespace StrChars
open Jvm Sem ClassFile Op Lib Jvm.Stand Jvm.Free.XT Jvm.Free.ALB Jvm.Free.JM Jvm.Free
open Jvm.Lib.Cold (StaticIs)
/-- a char array whose places are chars -/
def Ch (a : Addr) (A : Cell) (U : State) : Prop := Arr .char a A U ∧ Typed .char A
theorem Ch.mv {a : Addr} {A : Cell} {U U' : State} (h : Ch a A U) (hal : U.vm.Alike U'.vm) (hh : U'.heap = U.heap) : Ch a A U' := ⟨h.1.mv hal hh, h.2⟩
theorem Ch.keep {a : Addr} {A : Cell} {U U' : State} (h : Ch a A U) (hal : U.vm.Alike U'.vm) (hk : U'.heap[a]? = some A) : Ch a A U' := ⟨h.1.keep hal hk, h.2⟩
/-- what place i of a char[]'s cell holds -/
def cv (A : Cell) (i : Nat) : Int32 := match A.slots[i]? with | some (.int x) => x | _ => 0
theorem Ch.get {a : Addr} {A : Cell} {U : State} (h : Ch a A U) {i : Nat} (hi : i < A.slots.size) : A.slots[i]? = some (.int (cv A i)) := by
  have e := Array.getElem?_eq_getElem hi
  have f := h.2 i _ e
  unfold cv; rw [e]
  generalize A.slots[i] = v at f
  cases v <;> simp [fits] at f ⊢
/-- the byte that i2b leaves of a char -/
def lo8 (x : Int32) : Int32 := x.toInt8.toInt32
theorem fits_lo8 (y : Int32) : fits .byte (.int (lo8 y)) = true := by
  have h1 := y.toInt8.le_toInt
  have h2 := y.toInt8.toInt_lt
  simp only [lo8, fits, Bool.and_eq_true, decide_eq_true_eq, Int32.le_iff_toInt_le, Int8.toInt_toInt32, show (-128 : Int32).toInt = -128 from by decide, show (127 : Int32).toInt = 127 from by decide]
  omega
/-- A' is A but that each place j of lo .. hi - 1 holds f j -/
def Laid (A A' : Cell) (lo hi : Nat) (f : Nat → Value) : Prop := A'.cls = A.cls ∧ A'.vm = A.vm ∧ A'.slots.size = A.slots.size ∧ ∀ i, A'.slots[i]? = if lo ≤ i ∧ i < hi then some (f i) else A.slots[i]?
theorem Laid.zero (A : Cell) (lo : Nat) (f : Nat → Value) : Laid A A lo (lo + 0) f := ⟨rfl, rfl, rfl, fun i => by rw [if_neg (by omega)]⟩
theorem Laid.step {A Ak : Cell} {lo k : Nat} {f : Nat → Value} {v : Value} (h : Laid A Ak lo k f) (hlo : lo ≤ k) (hk : k < Ak.slots.size) (hv : v = f k) : Laid A (Ak.setSlot k v) lo (k + 1) f := by
  refine ⟨h.1, h.2.1, by simpa [Cell.setSlot] using h.2.2.1, fun i => ?_⟩
  by_cases e : k = i
  · subst e; rw [Cell.slots_setSlot_self v hk, if_pos (by omega), hv]
  · rw [Cell.slots_setSlot_ne v e, h.2.2.2 i]
    by_cases q : lo ≤ i ∧ i < k
    · rw [if_pos q, if_pos (by omega)]
    · rw [if_neg q, if_neg (by omega)]
def U16 : String := "java/lang/StringUTF16"
namespace Cmp5
def yN : MethodName := ⟨"java/lang/StringUTF16", "compress", "([CI[BII)I"⟩
abbrev yB : ByteArray := jdk_52_method_21_code
theorem d0 : decode yB 0 = .ok (.iconst 0, 1) := by decide +kernel
theorem d1 : decode yB 1 = .ok (.istore 5, 2) := by decide +kernel
theorem d3 : decode yB 3 = .ok (.iload 5, 2) := by decide +kernel
theorem d5 : decode yB 5 = .ok (.iload 4, 2) := by decide +kernel
theorem d7 : decode yB 7 = .ok (.if_icmp (.ge) 37, 3) := by decide +kernel
theorem d10 : decode yB 10 = .ok (.aload_n 0, 1) := by decide +kernel
theorem d11 : decode yB 11 = .ok (.iload_n 1, 1) := by decide +kernel
theorem d12 : decode yB 12 = .ok (.caload, 1) := by decide +kernel
theorem d13 : decode yB 13 = .ok (.istore 6, 2) := by decide +kernel
theorem d15 : decode yB 15 = .ok (.iload 6, 2) := by decide +kernel
theorem d17 : decode yB 17 = .ok (.sipush 255, 3) := by decide +kernel
theorem d20 : decode yB 20 = .ok (.if_icmp (.le) 6, 3) := by decide +kernel
theorem d26 : decode yB 26 = .ok (.aload_n 2, 1) := by decide +kernel
theorem d27 : decode yB 27 = .ok (.iload_n 3, 1) := by decide +kernel
theorem d28 : decode yB 28 = .ok (.iload 6, 2) := by decide +kernel
theorem d30 : decode yB 30 = .ok (.i2b, 1) := by decide +kernel
theorem d31 : decode yB 31 = .ok (.bastore, 1) := by decide +kernel
theorem d32 : decode yB 32 = .ok (.iinc 1 1, 3) := by decide +kernel
theorem d35 : decode yB 35 = .ok (.iinc 3 1, 3) := by decide +kernel
theorem d38 : decode yB 38 = .ok (.iinc 5 1, 3) := by decide +kernel
theorem d41 : decode yB 41 = .ok (.goto (-38), 3) := by decide +kernel
theorem d44 : decode yB 44 = .ok (.iload 4, 2) := by decide +kernel
theorem d46 : decode yB 46 = .ok (.ireturn, 1) := by decide +kernel
def site : List Cond := []
def tab : Cond := tabOf yN yB 7 (some .int) site
def P (b : Addr) (A : Cell) (d : Addr) (B : Cell) (o q len : Nat) (args : Array Value) (s : State) : Prop := args = #[.ref b, .int (Int32.ofNat o), .ref d, .int (Int32.ofNat q), .int (Int32.ofNat len)] ∧ Ch b A s ∧ Arr .byte d B s ∧ b ≠ d ∧ o + len ≤ A.slots.size ∧ q + len ≤ B.slots.size ∧ ∀ i, i < len → ¬ 255 < cv A (o + i)
def E (b : Addr) (A : Cell) (d : Addr) (B : Cell) (o q len : Nat) (r : Option Value) (s u : State) : Prop := r = some (.int (Int32.ofNat len)) ∧ ∃ B', Put d B' s u ∧ Laid B B' q (q + len) (fun j => Value.int (lo8 (cv A (o + (j - q)))))
/-- no char of the range above 255: len; the places written hold each char's low byte -/
theorem law (l : Launch) (b : Addr) (A : Cell) (d : Addr) (B : Cell) (o q len : Nat) : Law l yN 5 5 0 0 yB 7 (some .int) site (P b A d B o q len) (E b A d B o q len) (copyLocs d q len) 0 0 := by
  refine Law.of_walk (plainFor_of_name (by decide +kernel)) (by decide +kernel) (by decide +kernel) (by decide) (fun _ _ h => by rw [h.1]; rfl) (fun _ U U' hal hh h => ⟨h.1, h.2.1.mv hal hh, h.2.2.1.mv hal hh, h.2.2.2⟩) (fun r U U' V V' h1 hal h2 h => ⟨h.1, h.2.elim fun B' q => ⟨B', q.1.mv h1 h2, q.2⟩⟩) ?_
  intro p e s m args below meth c s₁ X0 hexec hbytes hml hret hlk hnm hown hh0 W hP
  obtain ⟨rfl, hA, hB, hne, l1, l2, hp⟩ := hP
  have c1 : Steps p.tables e below (s₁.setTop (entryFrame m #[.ref b, .int (Int32.ofNat o), .ref d, .int (Int32.ofNat q), .int (Int32.ofNat len)] 7)) (s₁.setTop (mkF m 0 #[.val (.ref b), .val (.int (Int32.ofNat o)), .val (.ref d), .val (.int (Int32.ofNat q)), .val (.int (Int32.ofNat len)), .unset, .unset] [])) := entry rfl
  have hA0 := hA.1.mv X0.warmed.alike hh0
  have hB0 := hB.mv X0.warmed.alike hh0
  have a31 := hA.1.2.2.2
  have c2 : Steps p.tables e below (s₁.setTop (entryFrame m #[.ref b, .int (Int32.ofNat o), .ref d, .int (Int32.ofNat q), .int (Int32.ofNat len)] 7)) (s₁.setTop (mkF m 3 #[.val (.ref b), .val (.int (Int32.ofNat o)), .val (.ref d), .val (.int (Int32.ofNat q)), .val (.int (Int32.ofNat len)), .val (.int 0), .unset] [])) := c1.trans (by
    refine iconstV X0.here hexec rfl 0 (hb hbytes d0) (by decide) ?_
    refine XS.istore X0.here hexec rfl (hb hbytes d1) rfl rfl ?_
    exact Steps.refl _)
  have loop : ∀ (r i : Nat), i + r = len → ∀ (z : Slot), (z = .unset ∨ ∃ w, z = .val w ∧ w.category = 1) → ∀ (Tl : State) (Bk : Cell), Stand p l e { frames := 0, locals := 0, cells := 0, slots := 0 } s m #[.ref b, .int (Int32.ofNat o), .ref d, .int (Int32.ofNat q), .int (Int32.ofNat len)] below meth c Tl ([] ++ copyLocs d q i) 0 0 → Put d Bk s₁ Tl → Laid B Bk q (q + i) (fun j => Value.int (lo8 (cv A (o + (j - q))))) →
      Steps p.tables e below (s₁.setTop (entryFrame m #[.ref b, .int (Int32.ofNat o), .ref d, .int (Int32.ofNat q), .int (Int32.ofNat len)] 7)) (Tl.setTop (mkF m 3 #[.val (.ref b), .val (.int (Int32.ofNat (o + i))), .val (.ref d), .val (.int (Int32.ofNat (q + i))), .val (.int (Int32.ofNat len)), .val (.int (Int32.ofNat i)), z] [])) → ∃ (T' : State) (B' : Cell) (z' : Slot), Stand p l e { frames := 0, locals := 0, cells := 0, slots := 0 } s m #[.ref b, .int (Int32.ofNat o), .ref d, .int (Int32.ofNat q), .int (Int32.ofNat len)] below meth c T' ([] ++ copyLocs d q len) 0 0 ∧ Put d B' s₁ T' ∧ Laid B B' q (q + len) (fun j => Value.int (lo8 (cv A (o + (j - q))))) ∧
      Steps p.tables e below (s₁.setTop (entryFrame m #[.ref b, .int (Int32.ofNat o), .ref d, .int (Int32.ofNat q), .int (Int32.ofNat len)] 7)) (T'.setTop (mkF m 3 #[.val (.ref b), .val (.int (Int32.ofNat (o + len))), .val (.ref d), .val (.int (Int32.ofNat (q + len))), .val (.int (Int32.ofNat len)), .val (.int (Int32.ofNat len)), z'] [])) := by
    intro r
    induction r with
    | zero =>
      intro i hi z hz Tl Bk Xl pl fl cl
      have hil : i = len := by omega
      rw [hil] at Xl fl cl
      exact ⟨Tl, Bk, z, Xl, pl, fl, cl⟩
    | succ r ih =>
      intro i hi z hz Tl Bk Xl pl fl cl
      have all := X0.warmed.alike.symm.trans Xl.warmed.alike
      have hAl := hA0.keep all (pl.other hne hA0.1)
      have hBk := hB0.like all pl.1 fl.1 fl.2.1 fl.2.2.1
      have hlt : q + i < Bk.slots.size := by rw [fl.2.2.1]; omega
      have c3 : Steps p.tables e below (s₁.setTop (entryFrame m #[.ref b, .int (Int32.ofNat o), .ref d, .int (Int32.ofNat q), .int (Int32.ofNat len)] 7)) (Tl.setTop (mkF m 12 #[.val (.ref b), .val (.int (Int32.ofNat (o + i))), .val (.ref d), .val (.int (Int32.ofNat (q + i))), .val (.int (Int32.ofNat len)), .val (.int (Int32.ofNat i)), z] [.int (Int32.ofNat (o + i)), .ref b])) := cl.trans (by
        refine XS.iload Xl.here hexec rfl (hb hbytes d3) rfl ?_
        refine XS.iload Xl.here hexec rfl (hb hbytes d5) rfl ?_
        refine XS.icmpNo Xl.here hexec rfl (hb hbytes d7) rfl (ii_ge_f (lt32 (by omega) (by omega))) ?_
        refine XS.aloadN Xl.here hexec rfl (hb hbytes d10) rfl rfl ?_
        refine XS.iloadN Xl.here hexec rfl (hb hbytes d11) rfl ?_
        exact Steps.refl _)
      have c4 : Steps p.tables e below (s₁.setTop (entryFrame m #[.ref b, .int (Int32.ofNat o), .ref d, .int (Int32.ofNat q), .int (Int32.ofNat len)] 7)) (Tl.setTop (mkF m 13 #[.val (.ref b), .val (.int (Int32.ofNat (o + i))), .val (.ref d), .val (.int (Int32.ofNat (q + i))), .val (.int (Int32.ofNat len)), .val (.int (Int32.ofNat i)), z] [.int (cv A (o + i))])) := c3.trans (by
        refine Xl.aget hexec hAl rfl (hA.get (i := o + i) (by omega)) rfl rfl (hb hbytes d12) ?_
        exact Steps.refl _)
      have c5 : Steps p.tables e below (s₁.setTop (entryFrame m #[.ref b, .int (Int32.ofNat o), .ref d, .int (Int32.ofNat q), .int (Int32.ofNat len)] 7)) (Tl.setTop (mkF m 15 #[.val (.ref b), .val (.int (Int32.ofNat (o + i))), .val (.ref d), .val (.int (Int32.ofNat (q + i))), .val (.int (Int32.ofNat len)), .val (.int (Int32.ofNat i)), .val (.int (cv A (o + i)))] [])) := c4.trans (by
        refine XS.istoreS Xl.here hexec rfl (hb hbytes d13) rfl rfl hz ?_
        exact Steps.refl _)
      have c6 : Steps p.tables e below (s₁.setTop (entryFrame m #[.ref b, .int (Int32.ofNat o), .ref d, .int (Int32.ofNat q), .int (Int32.ofNat len)] 7)) (Tl.setTop (mkF m 31 #[.val (.ref b), .val (.int (Int32.ofNat (o + i))), .val (.ref d), .val (.int (Int32.ofNat (q + i))), .val (.int (Int32.ofNat len)), .val (.int (Int32.ofNat i)), .val (.int (cv A (o + i)))] [.int (lo8 (cv A (o + i))), .int (Int32.ofNat (q + i)), .ref d])) := c5.trans (by
        refine XS.iload Xl.here hexec rfl (hb hbytes d15) rfl ?_
        refine sipushV Xl.here hexec rfl 255 (hb hbytes d17) (by decide) ?_
        refine XS.icmpYes Xl.here hexec rfl (pc0 := 20) rfl (hb hbytes d20) rfl (ii_le_t (hp i (by omega))) (by decide) rfl ?_
        refine XS.aloadN Xl.here hexec rfl (hb hbytes d26) rfl rfl ?_
        refine XS.iloadN Xl.here hexec rfl (hb hbytes d27) rfl ?_
        refine XS.iload Xl.here hexec rfl (hb hbytes d28) rfl ?_
        refine i2b Xl.here hexec rfl (hb hbytes d30) rfl ?_
        exact Steps.refl _)
      obtain ⟨T7, X7, p7, st7⟩ := Xl.aput hexec hBk rfl hlt rfl (fits_lo8 (cv A (o + i))) (g := (mkF m 31 #[.val (.ref b), .val (.int (Int32.ofNat (o + i))), .val (.ref d), .val (.int (Int32.ofNat (q + i))), .val (.int (Int32.ofNat len)), .val (.int (Int32.ofNat i)), .val (.int (cv A (o + i)))] [.int (lo8 (cv A (o + i))), .int (Int32.ofNat (q + i)), .ref d])) rfl (rest := []) rfl (hb hbytes d31)
      have c8 : Steps p.tables e below (s₁.setTop (entryFrame m #[.ref b, .int (Int32.ofNat o), .ref d, .int (Int32.ofNat q), .int (Int32.ofNat len)] 7)) (T7.setTop (mkF m 32 #[.val (.ref b), .val (.int (Int32.ofNat (o + i))), .val (.ref d), .val (.int (Int32.ofNat (q + i))), .val (.int (Int32.ofNat len)), .val (.int (Int32.ofNat i)), .val (.int (cv A (o + i)))] [])) := c6.trans (st7 _ (Steps.refl _))
      have c9 : Steps p.tables e below (s₁.setTop (entryFrame m #[.ref b, .int (Int32.ofNat o), .ref d, .int (Int32.ofNat q), .int (Int32.ofNat len)] 7)) (T7.setTop (mkF m 3 #[.val (.ref b), .val (.int (Int32.ofNat (o + i) + 1)), .val (.ref d), .val (.int (Int32.ofNat (q + i) + 1)), .val (.int (Int32.ofNat len)), .val (.int (Int32.ofNat i + 1)), .val (.int (cv A (o + i)))] [])) := c8.trans (by
        refine iincV X7.here hexec rfl 1 (hb hbytes d32) (by decide) rfl rfl ?_
        refine iincV X7.here hexec rfl 1 (hb hbytes d35) (by decide) rfl rfl ?_
        refine iincV X7.here hexec rfl 1 (hb hbytes d38) (by decide) rfl rfl ?_
        refine XS.goto X7.here hexec rfl (pc0 := 41) rfl (hb hbytes d41) (by decide) rfl ?_
        exact Steps.refl _)
      have c10 : Steps p.tables e below (s₁.setTop (entryFrame m #[.ref b, .int (Int32.ofNat o), .ref d, .int (Int32.ofNat q), .int (Int32.ofNat len)] 7)) (T7.setTop (mkF m 3 #[.val (.ref b), .val (.int (Int32.ofNat (o + (i + 1)))), .val (.ref d), .val (.int (Int32.ofNat (q + (i + 1)))), .val (.int (Int32.ofNat len)), .val (.int (Int32.ofNat (i + 1))), .val (.int (cv A (o + i)))] [])) := by
        have := c9
        rw [succ32, succ32, succ32] at this
        exact this
      exact ih (i + 1) (by omega) _ (Or.inr ⟨_, rfl, rfl⟩) T7 _ (by rw [copyLocs_step, ← List.append_assoc]; exact X7) (pl.trans p7) (fl.step (by omega) hlt (by simp)) c10
  obtain ⟨T9, B9, z9, X9, p9, f9, g9⟩ := loop len 0 (by omega) .unset (Or.inl rfl) s₁ B (by simpa [copyLocs] using X0) ⟨hB0.1, fun _ _ => rfl, rfl⟩ (Laid.zero _ _ _) c2
  have c11 : Steps p.tables e below (s₁.setTop (entryFrame m #[.ref b, .int (Int32.ofNat o), .ref d, .int (Int32.ofNat q), .int (Int32.ofNat len)] 7)) (T9.setTop (mkF m 46 #[.val (.ref b), .val (.int (Int32.ofNat (o + len))), .val (.ref d), .val (.int (Int32.ofNat (q + len))), .val (.int (Int32.ofNat len)), .val (.int (Int32.ofNat len)), z9] [.int (Int32.ofNat len)])) := g9.trans (by
    refine XS.iload X9.here hexec rfl (hb hbytes d3) rfl ?_
    refine XS.iload X9.here hexec rfl (hb hbytes d5) rfl ?_
    refine XS.icmpYes X9.here hexec rfl (pc0 := 7) rfl (hb hbytes d7) rfl (ii_ge_t (nlt32 (by omega) (Nat.le_refl _))) (by decide) rfl ?_
    refine XS.iload X9.here hexec rfl (hb hbytes d44) rfl ?_
    exact Steps.refl _)
  exact ⟨T9, some (.int (Int32.ofNat len)), _, _, _, X9, by simp, rfl, rfl, (fun h => by cases h), ⟨rfl, B9, p9.from hh0, f9⟩, fun fs hl => c11.trans (X9.ireturnOut hexec hret rfl (Or.inl rfl) (hb hbytes d46) hl)⟩
end Cmp5
namespace Cmp3
def yN : MethodName := ⟨"java/lang/StringUTF16", "compress", "([CII)[B"⟩
abbrev yB : ByteArray := jdk_52_method_16_code
theorem d0 : decode yB 0 = .ok (.iload_n 2, 1) := by decide +kernel
theorem d1 : decode yB 1 = .ok (.newarray .byte, 2) := by decide +kernel
theorem d3 : decode yB 3 = .ok (.astore_n 3, 1) := by decide +kernel
theorem d4 : decode yB 4 = .ok (.aload_n 0, 1) := by decide +kernel
theorem d5 : decode yB 5 = .ok (.iload_n 1, 1) := by decide +kernel
theorem d6 : decode yB 6 = .ok (.aload_n 3, 1) := by decide +kernel
theorem d7 : decode yB 7 = .ok (.iconst 0, 1) := by decide +kernel
theorem d8 : decode yB 8 = .ok (.iload_n 2, 1) := by decide +kernel
theorem d9 : decode yB 9 = .ok (.invokestatic 115, 3) := by decide +kernel
theorem d12 : decode yB 12 = .ok (.istore 4, 2) := by decide +kernel
theorem d14 : decode yB 14 = .ok (.iload 4, 2) := by decide +kernel
theorem d16 : decode yB 16 = .ok (.iload_n 2, 1) := by decide +kernel
theorem d17 : decode yB 17 = .ok (.if_icmp (.eq) 40, 3) := by decide +kernel
theorem d57 : decode yB 57 = .ok (.aload_n 3, 1) := by decide +kernel
theorem d58 : decode yB 58 = .ok (.areturn, 1) := by decide +kernel
def site : List Cond := [.arrayClass .byte, Cmp5.tab] ++ staticW U16 115 Cmp5.yN
def tab : Cond := tabOf yN yB 6 (some (.array .byte)) site
def P (b : Addr) (A : Cell) (o len : Nat) (args : Array Value) (s : State) : Prop := args = #[.ref b, .int (Int32.ofNat o), .int (Int32.ofNat len)] ∧ Ch b A s ∧ o + len ≤ A.slots.size ∧ len ≤ 536870912 ∧ ∀ i, i < len → ¬ 255 < cv A (o + i)
def E (b : Addr) (A : Cell) (o len : Nat) (r : Option Value) (s u : State) : Prop := NewArr .byte "[B" len (fun j => .int (lo8 (cv A (o + j)))) r s u ∧ u.heap.size = s.heap.size + 1
/-- no char of the range above 255: a new byte[] of their low bytes -/
theorem law (l : Launch) (b : Addr) (A : Cell) (o len : Nat) : Law l yN 3 3 1 18 yB 6 (some (.array .byte)) site (P b A o len) (E b A o len) [] 1 len := by
  refine Law.of_walk (plainFor_of_name (by decide +kernel)) (by decide +kernel) (by decide +kernel) (by decide) (fun _ _ h => by rw [h.1]; rfl) (fun _ U U' hal hh h => ⟨h.1, h.2.1.mv hal hh, h.2.2⟩) (fun r U U' V V' h1 hal h2 h => ⟨NewArr.mv r U U' V V' h1 hal h2 h.1, by rw [h1, h2]; exact h.2⟩) ?_
  intro p e s m args below meth c s₁ X0 hexec hbytes hml hret hlk hnm hown hh0 W hP
  obtain ⟨rfl, hA, l1, l2, hp⟩ := hP
  have a31 := hA.1.2.2.2
  have c1 : Steps p.tables e below (s₁.setTop (entryFrame m #[.ref b, .int (Int32.ofNat o), .int (Int32.ofNat len)] 6)) (s₁.setTop (mkF m 0 #[.val (.ref b), .val (.int (Int32.ofNat o)), .val (.int (Int32.ofNat len)), .unset, .unset, .unset] [])) := entry rfl
  have c2 : Steps p.tables e below (s₁.setTop (entryFrame m #[.ref b, .int (Int32.ofNat o), .int (Int32.ofNat len)] 6)) (s₁.setTop (mkF m 1 #[.val (.ref b), .val (.int (Int32.ofNat o)), .val (.int (Int32.ofNat len)), .unset, .unset, .unset] [.int (Int32.ofNat len)])) := c1.trans (by
    refine XS.iloadN X0.here hexec rfl (hb hbytes d0) rfl ?_
    exact Steps.refl _)
  obtain ⟨T3, B3, X3, ba3, bs3, bv3, bh3, bf3, st3⟩ := X0.anew hexec (atype := .byte) (wk W (.arrayClass .byte)) rfl (by show len * 1 ≤ _; omega) (by omega) (g := (mkF m 1 #[.val (.ref b), .val (.int (Int32.ofNat o)), .val (.int (Int32.ofNat len)), .unset, .unset, .unset] [.int (Int32.ofNat len)])) rfl (hb hbytes d1) (rest := []) rfl (Nat.le_refl _) (by show 0 + len ≤ len; omega)
  rw [hh0] at ba3 st3
  have kp3 : XT.Kept s T3 := (XT.Kept.of_eq hh0).push bh3
  have hA3 := hA.keep X3.warmed.alike (kp3 _ _ hA.1.1)
  have hne : b ≠ s.heap.size := hA.1.ne
  have c4 : Steps p.tables e below (s₁.setTop (entryFrame m #[.ref b, .int (Int32.ofNat o), .int (Int32.ofNat len)] 6)) (T3.setTop (mkF m 3 #[.val (.ref b), .val (.int (Int32.ofNat o)), .val (.int (Int32.ofNat len)), .unset, .unset, .unset] [.ref s.heap.size])) := c2.trans (st3 _ (Steps.refl _))
  have c5 : Steps p.tables e below (s₁.setTop (entryFrame m #[.ref b, .int (Int32.ofNat o), .int (Int32.ofNat len)] 6)) (T3.setTop (mkF m 9 #[.val (.ref b), .val (.int (Int32.ofNat o)), .val (.int (Int32.ofNat len)), .val (.ref s.heap.size), .unset, .unset] [.int (Int32.ofNat len), .int 0, .ref s.heap.size, .int (Int32.ofNat o), .ref b])) := c4.trans (by
    refine XS.astoreN X3.here hexec rfl (hb hbytes d3) rfl rfl rfl ?_
    refine XS.aloadN X3.here hexec rfl (hb hbytes d4) rfl rfl ?_
    refine XS.iloadN X3.here hexec rfl (hb hbytes d5) rfl ?_
    refine XS.aloadN X3.here hexec rfl (hb hbytes d6) rfl rfl ?_
    refine iconstV X3.here hexec rfl 0 (hb hbytes d7) (by decide) ?_
    refine XS.iloadN X3.here hexec rfl (hb hbytes d8) rfl ?_
    exact Steps.refl _)
  obtain ⟨v6, T6, X6, E6, g6⟩ := X3.callS hexec (Cmp5.law l b A s.heap.size B3 o 0 len) hown (wks W (staticW U16 115 Cmp5.yN)) (wk W Cmp5.tab) (W := 0) (Nat.le_of_ble_eq_true rfl) (Nat.le_of_ble_eq_true rfl) (Nat.le_refl _) (by show 0 + len + 0 ≤ len; omega) (g := (mkF m 9 #[.val (.ref b), .val (.int (Int32.ofNat o)), .val (.int (Int32.ofNat len)), .val (.ref s.heap.size), .unset, .unset] [.int (Int32.ofNat len), .int (Int32.ofNat 0), .ref s.heap.size, .int (Int32.ofNat o), .ref b])) rfl (by rw [hml]; rfl) c5 (argsL := [.ref b, .int (Int32.ofNat o), .ref s.heap.size, .int (Int32.ofNat 0), .int (Int32.ofNat len)]) (rest := []) rfl rfl (by show 2 * 0 + 0 ≤ _; decide) (hb hbytes d9) (⟨rfl, hA3, ba3, hne, l1, by rw [bs3]; simp, hp⟩)
  obtain ⟨rfl, B6, p6, f6⟩ := E6
  have c7 : Steps p.tables e below (s₁.setTop (entryFrame m #[.ref b, .int (Int32.ofNat o), .int (Int32.ofNat len)] 6)) (T6.setTop (mkF m 12 #[.val (.ref b), .val (.int (Int32.ofNat o)), .val (.int (Int32.ofNat len)), .val (.ref s.heap.size), .unset, .unset] [.int (Int32.ofNat len)])) := g6
  have c8 : Steps p.tables e below (s₁.setTop (entryFrame m #[.ref b, .int (Int32.ofNat o), .int (Int32.ofNat len)] 6)) (T6.setTop (mkF m 58 #[.val (.ref b), .val (.int (Int32.ofNat o)), .val (.int (Int32.ofNat len)), .val (.ref s.heap.size), .val (.int (Int32.ofNat len)), .unset] [.ref s.heap.size])) := c7.trans (by
    refine XS.istore X6.here hexec rfl (hb hbytes d12) rfl rfl ?_
    refine XS.iload X6.here hexec rfl (hb hbytes d14) rfl ?_
    refine XS.iloadN X6.here hexec rfl (hb hbytes d16) rfl ?_
    refine XS.icmpYes X6.here hexec rfl (pc0 := 17) rfl (hb hbytes d17) rfl (ii_eq_t rfl) (by decide) rfl ?_
    refine XS.aloadN X6.here hexec rfl (hb hbytes d57) rfl rfl ?_
    exact Steps.refl _)
  have X8 := X6.wide (L' := []) (cells' := 1) (slots' := len) (fun x hx hlt => by
    simp only [List.nil_append, copyLocs, List.mem_map, List.mem_range] at hx
    obtain ⟨i, -, rfl⟩ := hx
    exact absurd hlt (Nat.lt_irrefl _)) (Nat.le_refl _) (by omega)
  exact ⟨T6, some (.ref s.heap.size), _, _, _, X8, rfl, rfl, rfl, (fun h => by cases h), ⟨⟨rfl, B6, ba3.like (X3.warmed.alike.symm.trans X6.warmed.alike) p6.1 f6.1 f6.2.1 f6.2.2.1, f6.2.1.trans bv3, by rw [X6.warmed.alike.findClass, f6.1]; exact bf3, by rw [f6.2.2.1, bs3]; simp, fun j hj => by rw [f6.2.2.2 j, if_pos (by omega)]; rfl, kp3.put p6 (Nat.le_refl _)⟩, by rw [p6.2.2, bh3, hh0]; simp⟩, fun fs hl => c8.trans (X8.areturnOut hexec rfl hret rfl (hb hbytes d58) hl)⟩
end Cmp3
namespace CodL
def yN : MethodName := ⟨"java/lang/StringUTF16", "coderFromArrayLen", "([BI)B"⟩
abbrev yB : ByteArray := jdk_52_method_15_code
theorem d0 : decode yB 0 = .ok (.iload_n 1, 1) := by decide +kernel
theorem d1 : decode yB 1 = .ok (.aload_n 0, 1) := by decide +kernel
theorem d2 : decode yB 2 = .ok (.arraylength, 1) := by decide +kernel
theorem d3 : decode yB 3 = .ok (.isub, 1) := by decide +kernel
theorem d4 : decode yB 4 = .ok (.bipush 31, 2) := by decide +kernel
theorem d6 : decode yB 6 = .ok (.iushr, 1) := by decide +kernel
theorem d7 : decode yB 7 = .ok (.i2b, 1) := by decide +kernel
theorem d8 : decode yB 8 = .ok (.ireturn, 1) := by decide +kernel
def site : List Cond := []
def tab : Cond := tabOf yN yB 2 (some .byte) site
def P (d : Addr) (B : Cell) (args : Array Value) (s : State) : Prop := args = #[.ref d, .int (Int32.ofNat B.slots.size)] ∧ Arr .byte d B s
def E (r : Option Value) (s u : State) : Prop := XT.PureE (some (.int 0)) r s u
/-- an array as long as the number of chars: LATIN1 -/
theorem law (l : Launch) (d : Addr) (B : Cell) : Law l yN 2 2 0 0 yB 2 (some .byte) site (P d B) E [] 0 0 := by
  refine Law.of_walk (plainFor_of_name (by decide +kernel)) (by decide +kernel) (by decide +kernel) (by decide) (fun _ _ h => by rw [h.1]; rfl) (fun _ U U' hal hh h => ⟨h.1, h.2.mv hal hh⟩) (fun r U U' V V' h1 hal h2 h => XT.PureE.mv r U U' V V' h1 hal h2 h) ?_
  intro p e s m args below meth c s₁ X0 hexec hbytes hml hret hlk hnm hown hh0 W hP
  obtain ⟨rfl, hB⟩ := hP
  have hB0 := hB.mv X0.warmed.alike hh0
  have c1 : Steps p.tables e below (s₁.setTop (entryFrame m #[.ref d, .int (Int32.ofNat B.slots.size)] 2)) (s₁.setTop (mkF m 0 #[.val (.ref d), .val (.int (Int32.ofNat B.slots.size))] [])) := entry rfl
  have c2 : Steps p.tables e below (s₁.setTop (entryFrame m #[.ref d, .int (Int32.ofNat B.slots.size)] 2)) (s₁.setTop (mkF m 2 #[.val (.ref d), .val (.int (Int32.ofNat B.slots.size))] [.ref d, .int (Int32.ofNat B.slots.size)])) := c1.trans (by
    refine XS.iloadN X0.here hexec rfl (hb hbytes d0) rfl ?_
    refine XS.aloadN X0.here hexec rfl (hb hbytes d1) rfl rfl ?_
    exact Steps.refl _)
  have c3 : Steps p.tables e below (s₁.setTop (entryFrame m #[.ref d, .int (Int32.ofNat B.slots.size)] 2)) (s₁.setTop (mkF m 8 #[.val (.ref d), .val (.int (Int32.ofNat B.slots.size))] [.int (lo8 (ushr (Int32.ofNat B.slots.size - Int32.ofNat B.slots.size) 31))])) := c2.trans (by
    refine X0.alen hexec hB0 rfl rfl (hb hbytes d2) ?_
    refine XS.isub X0.here hexec rfl (hb hbytes d3) rfl ?_
    refine bipushV X0.here hexec rfl 31 (hb hbytes d4) (by decide) ?_
    refine iushr X0.here hexec rfl (hb hbytes d6) rfl ?_
    refine i2b X0.here hexec rfl (hb hbytes d7) rfl ?_
    exact Steps.refl _)
  have e0 : lo8 (ushr (Int32.ofNat B.slots.size - Int32.ofNat B.slots.size) 31) = 0 := by rw [Int32.sub_self]; decide
  rw [e0] at c3
  exact ⟨s₁, some (.int 0), _, _, _, X0, rfl, rfl, rfl, (fun h => by cases h), ⟨rfl, hh0⟩, fun fs hl => c3.trans (X0.ireturnOut hexec hret rfl (Or.inr (Or.inr (Or.inl rfl))) (hb hbytes d8) hl)⟩
end CodL
/-- the String at a is Latin-1 over a new byte[] (the heap's one new cell): the low bytes of the len chars of A from o on; every cell but a is kept -/
def Got (a : Addr) (D : Cell) (fV fC : Field) (A : Cell) (o len : Nat) (r : Option Value) (s u : State) : Prop := r = none ∧ ∃ D' V : Cell, Blank "java/lang/String" a D' u ∧ Same D D' [fV.slot, fC.slot] ∧ D'.slots[fV.slot]? = some (.ref s.heap.size) ∧ D'.slots[fC.slot]? = some (.int 0) ∧ Arr .byte s.heap.size V u ∧ V.vm = .none ∧ u.vm.findClass "[B" = some V.cls ∧ V.slots.size = len ∧ (∀ j, j < len → V.slots[j]? = some (.int (lo8 (cv A (o + j))))) ∧ (∀ (y : Addr) (c : Cell), y ≠ a → s.heap[y]? = some c → u.heap[y]? = some c) ∧ u.heap.size = s.heap.size + 1
theorem Got.mv {a : Addr} {D A : Cell} {fV fC : Field} {o len : Nat} : ∀ r (U U' V V' : State), U'.heap = U.heap → V.vm.Alike V'.vm → V'.heap = V.heap → Got a D fV fC A o len r U V → Got a D fV fC A o len r U' V' :=
  fun r U U' V V' h1 hal h2 ⟨e0, D', X, a1, a2, a3, a4, a5, a6, a7, a8, a9, a10, a11⟩ => ⟨e0, D', X, a1.mv hal h2, a2, by rw [h1]; exact a3, a4, by rw [h1]; exact a5.mv hal h2, a6, by rw [hal.findClass]; exact a7, a8, a9, by rw [h1, h2]; exact a10, by rw [h1, h2]; exact a11⟩
namespace New4
def yN : MethodName := ⟨"java/lang/String", "<init>", "([CIILjava/lang/Void;)V"⟩
abbrev yB : ByteArray := jdk_42_method_149_code
theorem d0 : decode yB 0 = .ok (.aload_n 0, 1) := by decide +kernel
theorem d1 : decode yB 1 = .ok (.invokespecial 1, 3) := by decide +kernel
theorem d4 : decode yB 4 = .ok (.iload_n 3, 1) := by decide +kernel
theorem d5 : decode yB 5 = .ok (.ifCond (.ne) 22, 3) := by decide +kernel
theorem d27 : decode yB 27 = .ok (.getstatic 38, 3) := by decide +kernel
theorem d30 : decode yB 30 = .ok (.ifCond (.eq) 28, 3) := by decide +kernel
theorem d33 : decode yB 33 = .ok (.aload_n 1, 1) := by decide +kernel
theorem d34 : decode yB 34 = .ok (.iload_n 2, 1) := by decide +kernel
theorem d35 : decode yB 35 = .ok (.iload_n 3, 1) := by decide +kernel
theorem d36 : decode yB 36 = .ok (.invokestatic 177, 3) := by decide +kernel
theorem d39 : decode yB 39 = .ok (.astore 5, 2) := by decide +kernel
theorem d41 : decode yB 41 = .ok (.aload_n 0, 1) := by decide +kernel
theorem d42 : decode yB 42 = .ok (.aload 5, 2) := by decide +kernel
theorem d44 : decode yB 44 = .ok (.iload_n 3, 1) := by decide +kernel
theorem d45 : decode yB 45 = .ok (.invokestatic 47, 3) := by decide +kernel
theorem d48 : decode yB 48 = .ok (.putfield 15, 3) := by decide +kernel
theorem d51 : decode yB 51 = .ok (.aload_n 0, 1) := by decide +kernel
theorem d52 : decode yB 52 = .ok (.aload 5, 2) := by decide +kernel
theorem d54 : decode yB 54 = .ok (.putfield 9, 3) := by decide +kernel
theorem d57 : decode yB 57 = .ok (.return_, 1) := by decide +kernel
def site : List Cond := [.fieldLink "java/lang/String" 38 "java/lang/String" "COMPACT_STRINGS" "Z", Cmp3.tab, CodL.tab, .laysFinal "java/lang/String" "java/lang/String" "value" "[B", .fieldLink "java/lang/String" 9 "java/lang/String" "value" "[B", .laysFinal "java/lang/String" "java/lang/String" "coder" "B", .fieldLink "java/lang/String" 15 "java/lang/String" "coder" "B"] ++ objW "java/lang/String" 1 ++ staticW "java/lang/String" 177 Cmp3.yN ++ staticW "java/lang/String" 47 CodL.yN
def tab : Cond := tabOf yN yB 6 none site
def P (a : Addr) (D : Cell) (fV fC : Field) (b : Addr) (A : Cell) (z : Int32) (o len : Nat) (args : Array Value) (s : State) : Prop := args = #[.ref a, .ref b, .int (Int32.ofNat o), .int (Int32.ofNat len), .null] ∧ Blank "java/lang/String" a D s ∧ Found "java/lang/String" "value" "[B" fV s ∧ Found "java/lang/String" "coder" "B" fC s ∧ Ch b A s ∧ StaticIs s "java/lang/String" "COMPACT_STRINGS" "Z" (.int z) ∧ ¬ z = 0 ∧ 0 < len ∧ o + len ≤ A.slots.size ∧ len ≤ 536870912 ∧ ∀ i, i < len → ¬ 255 < cv A (o + i)
def E (a : Addr) (D : Cell) (fV fC : Field) (A : Cell) (o len : Nat) (r : Option Value) (s u : State) : Prop := Got a D fV fC A o len r s u
/-- len > 0, no char of the range above 255: a Latin-1 String of their low bytes -/
theorem law (l : Launch) (a : Addr) (D : Cell) (fV fC : Field) (b : Addr) (A : Cell) (z : Int32) (o len : Nat) : Law l yN 5 4 2 35 yB 6 none site (P a D fV fC b A z o len) (E a D fV fC A o len) [⟨a, fC.slot⟩, ⟨a, fV.slot⟩] 1 len := by
  refine Law.of_walk (plainFor_of_name (by decide +kernel)) (by decide +kernel) (by decide +kernel) (by decide) (fun _ _ h => by rw [h.1]; rfl) (fun _ U U' hal hh h => ⟨h.1, h.2.1.mv hal hh, h.2.2.1.al hal, h.2.2.2.1.al hal, h.2.2.2.2.1.mv hal hh, h.2.2.2.2.2.1.there hal hh, h.2.2.2.2.2.2⟩) (fun r U U' V V' h1 hal h2 h => Got.mv r U U' V V' h1 hal h2 h) ?_
  intro p e s m args below meth c s₁ X0 hexec hbytes hml hret hlk hnm hown hh0 W hP
  obtain ⟨rfl, hB, f1, f2, hA, s1, hz, l0, l1, l2, hp⟩ := hP
  have a31 := hA.1.2.2.2
  have c1 : Steps p.tables e below (s₁.setTop (entryFrame m #[.ref a, .ref b, .int (Int32.ofNat o), .int (Int32.ofNat len), .null] 6)) (s₁.setTop (mkF m 0 #[.val (.ref a), .val (.ref b), .val (.int (Int32.ofNat o)), .val (.int (Int32.ofNat len)), .val .null, .unset] [])) := entry rfl
  have c2 : Steps p.tables e below (s₁.setTop (entryFrame m #[.ref a, .ref b, .int (Int32.ofNat o), .int (Int32.ofNat len), .null] 6)) (s₁.setTop (mkF m 1 #[.val (.ref a), .val (.ref b), .val (.int (Int32.ofNat o)), .val (.int (Int32.ofNat len)), .val .null, .unset] [.ref a])) := c1.trans (by
    refine XS.aloadN X0.here hexec rfl (hb hbytes d0) rfl rfl ?_
    exact Steps.refl _)
  obtain ⟨T3, X3, q3, st3⟩ := X0.oinit hexec hown (wks W (objW "java/lang/String" 1)) (g := (mkF m 1 #[.val (.ref a), .val (.ref b), .val (.int (Int32.ofNat o)), .val (.int (Int32.ofNat len)), .val .null, .unset] [.ref a])) rfl (by rw [hml]; rfl) (rest := []) rfl (hb hbytes d1) (W := 0) (by show 2 * 0 + 0 ≤ _; decide) (Nat.le_of_ble_eq_true rfl) (Nat.le_of_ble_eq_true rfl)
  have hh3 := q3.trans hh0
  have c4 : Steps p.tables e below (s₁.setTop (entryFrame m #[.ref a, .ref b, .int (Int32.ofNat o), .int (Int32.ofNat len), .null] 6)) (T3.setTop (mkF m 27 #[.val (.ref a), .val (.ref b), .val (.int (Int32.ofNat o)), .val (.int (Int32.ofNat len)), .val .null, .unset] [])) := (c2.trans (st3 _ (Steps.refl _))).trans (by
    refine XS.iloadN X3.here hexec rfl (hb hbytes d4) rfl ?_
    refine XS.ifYes X3.here hexec rfl (pc0 := 5) rfl (hb hbytes d5) rfl (i0_ne_t (nz32 (by omega) l0)) (by decide) rfl ?_
    exact Steps.refl _)
  obtain ⟨T5, X5, q5, st5⟩ := X3.sget hexec hown (wk W (.fieldLink "java/lang/String" 38 "java/lang/String" "COMPACT_STRINGS" "Z")) s1 (fun _ _ h => by rw [hh3]; exact h) (g := (mkF m 27 #[.val (.ref a), .val (.ref b), .val (.int (Int32.ofNat o)), .val (.int (Int32.ofNat len)), .val .null, .unset] [])) rfl (hb hbytes d27)
  have hh5 := q5.trans hh3
  have c6 : Steps p.tables e below (s₁.setTop (entryFrame m #[.ref a, .ref b, .int (Int32.ofNat o), .int (Int32.ofNat len), .null] 6)) (T5.setTop (mkF m 30 #[.val (.ref a), .val (.ref b), .val (.int (Int32.ofNat o)), .val (.int (Int32.ofNat len)), .val .null, .unset] [.int z])) := c4.trans (st5 _ (Steps.refl _))
  have c7 : Steps p.tables e below (s₁.setTop (entryFrame m #[.ref a, .ref b, .int (Int32.ofNat o), .int (Int32.ofNat len), .null] 6)) (T5.setTop (mkF m 36 #[.val (.ref a), .val (.ref b), .val (.int (Int32.ofNat o)), .val (.int (Int32.ofNat len)), .val .null, .unset] [.int (Int32.ofNat len), .int (Int32.ofNat o), .ref b])) := c6.trans (by
    refine XS.ifNo X5.here hexec rfl (hb hbytes d30) rfl (i0_eq_f hz) ?_
    refine XS.aloadN X5.here hexec rfl (hb hbytes d33) rfl rfl ?_
    refine XS.iloadN X5.here hexec rfl (hb hbytes d34) rfl ?_
    refine XS.iloadN X5.here hexec rfl (hb hbytes d35) rfl ?_
    exact Steps.refl _)
  obtain ⟨v8, T8, X8, E8, g8⟩ := X5.callS hexec (Cmp3.law l b A o len) hown (wks W (staticW "java/lang/String" 177 Cmp3.yN)) (wk W Cmp3.tab) (W := 0) (Nat.le_of_ble_eq_true rfl) (Nat.le_of_ble_eq_true rfl) (Nat.le_refl _) (by show 0 + len ≤ len; omega) (g := (mkF m 36 #[.val (.ref a), .val (.ref b), .val (.int (Int32.ofNat o)), .val (.int (Int32.ofNat len)), .val .null, .unset] [.int (Int32.ofNat len), .int (Int32.ofNat o), .ref b])) rfl (by rw [hml]; rfl) c7 (argsL := [.ref b, .int (Int32.ofNat o), .int (Int32.ofNat len)]) (rest := []) rfl rfl (by show 2 * 0 + 0 ≤ _; decide) (hb hbytes d36) (⟨rfl, hA.mv X5.warmed.alike hh5, l1, l2, hp⟩)
  obtain ⟨e8, z8⟩ := E8
  obtain ⟨rfl, N, n1, n2, n3, n4, n5, n6⟩ := NewArr.mv _ T5 s _ _ hh5.symm (Vm.Alike.refl _) rfl e8
  rw [hh5] at z8
  have hB1 := hB.keep X8.warmed.alike (n6 _ _ hB.1)
  have hne : s.heap.size ≠ a := (Nat.ne_of_lt (Array.getElem?_eq_some_iff.mp hB.1).1).symm
  have c9 : Steps p.tables e below (s₁.setTop (entryFrame m #[.ref a, .ref b, .int (Int32.ofNat o), .int (Int32.ofNat len), .null] 6)) (T8.setTop (mkF m 39 #[.val (.ref a), .val (.ref b), .val (.int (Int32.ofNat o)), .val (.int (Int32.ofNat len)), .val .null, .unset] [.ref s.heap.size])) := g8
  have c10 : Steps p.tables e below (s₁.setTop (entryFrame m #[.ref a, .ref b, .int (Int32.ofNat o), .int (Int32.ofNat len), .null] 6)) (T8.setTop (mkF m 45 #[.val (.ref a), .val (.ref b), .val (.int (Int32.ofNat o)), .val (.int (Int32.ofNat len)), .val .null, .val (.ref s.heap.size)] [.int (Int32.ofNat N.slots.size), .ref s.heap.size, .ref a])) := by
    have hc : Steps p.tables e below (s₁.setTop (entryFrame m #[.ref a, .ref b, .int (Int32.ofNat o), .int (Int32.ofNat len), .null] 6)) (T8.setTop (mkF m 45 #[.val (.ref a), .val (.ref b), .val (.int (Int32.ofNat o)), .val (.int (Int32.ofNat len)), .val .null, .val (.ref s.heap.size)] [.int (Int32.ofNat len), .ref s.heap.size, .ref a])) := c9.trans (by
      refine XS.astore X8.here hexec rfl (hb hbytes d39) rfl rfl rfl ?_
      refine XS.aloadN X8.here hexec rfl (hb hbytes d41) rfl rfl ?_
      refine XS.aload X8.here hexec rfl (hb hbytes d42) rfl rfl ?_
      refine XS.iloadN X8.here hexec rfl (hb hbytes d44) rfl ?_
      exact Steps.refl _)
    rw [n4]; exact hc
  obtain ⟨v11, T11, X11, E11, g11⟩ := X8.callS hexec (CodL.law l s.heap.size N) hown (wks W (staticW "java/lang/String" 47 CodL.yN)) (wk W CodL.tab) (W := 1) (Nat.le_of_ble_eq_true rfl) (Nat.le_of_ble_eq_true rfl) (Nat.le_refl _) (by show 0 + len + 0 ≤ len; omega) (g := (mkF m 45 #[.val (.ref a), .val (.ref b), .val (.int (Int32.ofNat o)), .val (.int (Int32.ofNat len)), .val .null, .val (.ref s.heap.size)] [.int (Int32.ofNat N.slots.size), .ref s.heap.size, .ref a])) rfl (by rw [hml]; rfl) c10 (argsL := [.ref s.heap.size, .int (Int32.ofNat N.slots.size)]) (rest := [.ref a]) rfl rfl (by show 2 * 0 + (1 + 0) ≤ _; decide) (hb hbytes d45) (⟨rfl, n1⟩)
  obtain ⟨rfl, q11⟩ := E11
  have hB11 := hB1.mv (X8.warmed.alike.symm.trans X11.warmed.alike) q11
  have c12 : Steps p.tables e below (s₁.setTop (entryFrame m #[.ref a, .ref b, .int (Int32.ofNat o), .int (Int32.ofNat len), .null] 6)) (T11.setTop (mkF m 48 #[.val (.ref a), .val (.ref b), .val (.int (Int32.ofNat o)), .val (.int (Int32.ofNat len)), .val .null, .val (.ref s.heap.size)] [.int 0, .ref a])) := g11
  obtain ⟨T13, X13, p13, bl13, sl13, st13⟩ := X11.finit hexec hown (wk W (.fieldLink "java/lang/String" 15 "java/lang/String" "coder" "B")) (Or.inr ⟨_, (wk W (.laysFinal "java/lang/String" "java/lang/String" "coder" "B"))⟩) (Or.inl ⟨rfl, hnm⟩) f2 (Or.inl rfl) hB11 (t := .byte) (by decide +kernel) rfl (g := (mkF m 48 #[.val (.ref a), .val (.ref b), .val (.int (Int32.ofNat o)), .val (.int (Int32.ofNat len)), .val .null, .val (.ref s.heap.size)] [.int 0, .ref a])) rfl (rest := []) rfl (hb hbytes d48)
  have c14 : Steps p.tables e below (s₁.setTop (entryFrame m #[.ref a, .ref b, .int (Int32.ofNat o), .int (Int32.ofNat len), .null] 6)) (T13.setTop (mkF m 54 #[.val (.ref a), .val (.ref b), .val (.int (Int32.ofNat o)), .val (.int (Int32.ofNat len)), .val .null, .val (.ref s.heap.size)] [.ref s.heap.size, .ref a])) := (c12.trans (st13 _ (Steps.refl _))).trans (by
    refine XS.aloadN X13.here hexec rfl (hb hbytes d51) rfl rfl ?_
    refine XS.aload X13.here hexec rfl (hb hbytes d52) rfl rfl ?_
    exact Steps.refl _)
  obtain ⟨T15, X15, p15, bl15, sl15, st15⟩ := X13.finit hexec hown (wk W (.fieldLink "java/lang/String" 9 "java/lang/String" "value" "[B")) (Or.inr ⟨_, (wk W (.laysFinal "java/lang/String" "java/lang/String" "value" "[B"))⟩) (Or.inl ⟨rfl, hnm⟩) f1 (Or.inl rfl) bl13 (t := (.array .byte)) (by decide +kernel) rfl (g := (mkF m 54 #[.val (.ref a), .val (.ref b), .val (.int (Int32.ofNat o)), .val (.int (Int32.ofNat len)), .val .null, .val (.ref s.heap.size)] [.ref s.heap.size, .ref a])) rfl (rest := []) rfl (hb hbytes d54)
  have c16 : Steps p.tables e below (s₁.setTop (entryFrame m #[.ref a, .ref b, .int (Int32.ofNat o), .int (Int32.ofNat len), .null] 6)) (T15.setTop (mkF m 57 #[.val (.ref a), .val (.ref b), .val (.int (Int32.ofNat o)), .val (.int (Int32.ofNat len)), .val .null, .val (.ref s.heap.size)] [])) := c14.trans (st15 _ (Steps.refl _))
  have ap := apart (Or.inr ⟨_, (wk W (.laysFinal "java/lang/String" "java/lang/String" "value" "[B"))⟩) (Or.inr ⟨_, (wk W (.laysFinal "java/lang/String" "java/lang/String" "coder" "B"))⟩) f1 f2 (t₁ := .array .byte) (t₂ := .byte) (by decide +kernel) (by decide +kernel) (by decide)
  have al := X8.warmed.alike.symm.trans X15.warmed.alike
  have n7 : T11.heap[s.heap.size]? = some N := by rw [q11]; exact n1.1
  exact ⟨T15, none, _, _, _, X15, by simp, rfl, by omega, (fun _ => rfl), ⟨rfl, _, N, bl15, ((Same.refl D _).set _ (by simp)).set _ (by simp), sl15, (Cell.slots_setSlot_ne _ ap).trans sl13, n1.keep al (p15.other hne (p13.other hne n7)), n2, by rw [al.findClass]; exact n3, n4, n5, fun y c h1 h2 => p15.other h1 (p13.other h1 (by rw [q11]; exact n6 y c h2)), by rw [p15.2.2, p13.2.2, q11]; exact z8⟩, fun fs hl => c16.trans (X15.returnOut hexec hret (hb hbytes d57) hl)⟩
end New4
namespace New1
def yN : MethodName := ⟨"java/lang/String", "<init>", "([C)V"⟩
abbrev yB : ByteArray := jdk_42_method_3_code
theorem d0 : decode yB 0 = .ok (.aload_n 0, 1) := by decide +kernel
theorem d1 : decode yB 1 = .ok (.aload_n 1, 1) := by decide +kernel
theorem d2 : decode yB 2 = .ok (.iconst 0, 1) := by decide +kernel
theorem d3 : decode yB 3 = .ok (.aload_n 1, 1) := by decide +kernel
theorem d4 : decode yB 4 = .ok (.arraylength, 1) := by decide +kernel
theorem d5 : decode yB 5 = .ok (.aconst_null, 1) := by decide +kernel
theorem d6 : decode yB 6 = .ok (.invokespecial 27, 3) := by decide +kernel
theorem d9 : decode yB 9 = .ok (.return_, 1) := by decide +kernel
def site : List Cond := [New4.tab] ++ initW "java/lang/String" 27 New4.yN
def tab : Cond := tabOf yN yB 2 none site
def P (a : Addr) (D : Cell) (fV fC : Field) (b : Addr) (A : Cell) (z : Int32) (args : Array Value) (s : State) : Prop := args = #[.ref a, .ref b] ∧ Blank "java/lang/String" a D s ∧ Found "java/lang/String" "value" "[B" fV s ∧ Found "java/lang/String" "coder" "B" fC s ∧ Ch b A s ∧ StaticIs s "java/lang/String" "COMPACT_STRINGS" "Z" (.int z) ∧ ¬ z = 0 ∧ 0 < A.slots.size ∧ A.slots.size ≤ 536870912 ∧ ∀ i, i < A.slots.size → ¬ 255 < cv A i
def E (a : Addr) (D : Cell) (fV fC : Field) (A : Cell) (r : Option Value) (s u : State) : Prop := Got a D fV fC A 0 A.slots.size r s u
/-- new String(chars), not empty, no char above 255: a Latin-1 String of their low bytes -/
theorem law (l : Launch) (a : Addr) (D : Cell) (fV fC : Field) (b : Addr) (A : Cell) (z : Int32) : Law l yN 2 1 3 52 yB 2 none site (P a D fV fC b A z) (E a D fV fC A) [⟨a, fC.slot⟩, ⟨a, fV.slot⟩] 1 A.slots.size := by
  refine Law.of_walk (plainFor_of_name (by decide +kernel)) (by decide +kernel) (by decide +kernel) (by decide) (fun _ _ h => by rw [h.1]; rfl) (fun _ U U' hal hh h => ⟨h.1, h.2.1.mv hal hh, h.2.2.1.al hal, h.2.2.2.1.al hal, h.2.2.2.2.1.mv hal hh, h.2.2.2.2.2.1.there hal hh, h.2.2.2.2.2.2⟩) (fun r U U' V V' h1 hal h2 h => Got.mv r U U' V V' h1 hal h2 h) ?_
  intro p e s m args below meth c s₁ X0 hexec hbytes hml hret hlk hnm hown hh0 W hP
  obtain ⟨rfl, hB, f1, f2, hA, s1, hz, l0, l2, hp⟩ := hP
  have c1 : Steps p.tables e below (s₁.setTop (entryFrame m #[.ref a, .ref b] 2)) (s₁.setTop (mkF m 0 #[.val (.ref a), .val (.ref b)] [])) := entry rfl
  have c2 : Steps p.tables e below (s₁.setTop (entryFrame m #[.ref a, .ref b] 2)) (s₁.setTop (mkF m 6 #[.val (.ref a), .val (.ref b)] [.null, .int (Int32.ofNat A.slots.size), .int 0, .ref b, .ref a])) := c1.trans (by
    refine XS.aloadN X0.here hexec rfl (hb hbytes d0) rfl rfl ?_
    refine XS.aloadN X0.here hexec rfl (hb hbytes d1) rfl rfl ?_
    refine iconstV X0.here hexec rfl 0 (hb hbytes d2) (by decide) ?_
    refine XS.aloadN X0.here hexec rfl (hb hbytes d3) rfl rfl ?_
    refine X0.alen hexec (hA.1.mv X0.warmed.alike hh0) rfl rfl (hb hbytes d4) ?_
    refine XS.aconstNull X0.here hexec rfl (hb hbytes d5) ?_
    exact Steps.refl _)
  obtain ⟨v3, T3, X3, E3, g3⟩ := X0.callN hexec (New4.law l a D fV fC b A z 0 A.slots.size) rfl hown (wks W (initW "java/lang/String" 27 New4.yN)) (W New4.tab (by simp only [site, List.mem_cons, List.mem_append, true_or, or_true])) (W := 0) (Nat.le_of_ble_eq_true rfl) (Nat.le_of_ble_eq_true rfl) (Nat.le_refl _) (by show 0 + A.slots.size ≤ A.slots.size; omega) (g := (mkF m 6 #[.val (.ref a), .val (.ref b)] [.null, .int (Int32.ofNat A.slots.size), .int (Int32.ofNat 0), .ref b, .ref a])) rfl (by rw [hml]; rfl) c2 (argsL := [.ref b, .int (Int32.ofNat 0), .int (Int32.ofNat A.slots.size), .null]) (rest := []) rfl rfl (by show 2 * 0 + 0 ≤ _; decide) (hb hbytes d6) (⟨rfl, hB.mv X0.warmed.alike hh0, f1.al X0.warmed.alike, f2.al X0.warmed.alike, hA.mv X0.warmed.alike hh0, s1.there X0.warmed.alike hh0, hz, l0, by omega, l2, fun i hi => by rw [Nat.zero_add]; exact hp i hi⟩)
  have e0 := Got.mv _ s₁ s _ _ hh0.symm (Vm.Alike.refl _) rfl E3
  obtain rfl := e0.1
  have c4 : Steps p.tables e below (s₁.setTop (entryFrame m #[.ref a, .ref b] 2)) (T3.setTop (mkF m 9 #[.val (.ref a), .val (.ref b)] [])) := g3
  exact ⟨T3, none, _, _, _, X3, by simp, rfl, by omega, (fun _ => rfl), e0, fun fs hl => c4.trans (X3.returnOut hexec hret (hb hbytes d9) hl)⟩
theorem pays {l : Launch} {R : Room} {p : Program} {e : Env} {below : List Frame} {s : State} {sargs : Array Value} {len W : Nat} (a : Addr) (D : Cell) (fV fC : Field) (b : Addr) (A : Cell) (z : Int32) (htab : tab.before sargs s = true) (hfr : 4 ≤ R.frames) (hlo : W + 65 ≤ R.locals) :
    Back l R p e below s sargs yN len W (fun A₁ a₁ => A₁.cells + 1 ≤ R.cells ∧ A₁.slots + A.slots.size ≤ R.slots ∧ P a D fV fC b A z a₁ A₁.U) (fun A₁ _ v₁ B₁ => E a D fV fC A v₁ A₁.U B₁.U ∧ B₁.locs = A₁.locs ++ [⟨a, fC.slot⟩, ⟨a, fV.slot⟩] ∧ B₁.cells = A₁.cells + 1 ∧ B₁.slots = A₁.slots + A.slots.size) :=
  (law l a D fV fC b A z).pays htab hfr (by omega)
end New1
/-- the byte, read back as charAt reads it, is the char -/
theorem lo8_mask {x : Int32} (h0 : ¬ x < 0) (h1 : ¬ 255 < x) : lo8 x &&& 255 = x := by
  have t : ∀ k : Fin 256, lo8 (Int32.ofNat k.val) &&& 255 = Int32.ofNat k.val := by decide +kernel
  rw [Int32.lt_iff_toInt_lt] at h0 h1
  have e0 : (0 : Int32).toInt = 0 := rfl
  have e1 : (255 : Int32).toInt = 255 := rfl
  obtain ⟨k, hk⟩ : ∃ k : Nat, x.toInt = k := ⟨x.toInt.toNat, by omega⟩
  have hx : x = Int32.ofNat k := Int32.toInt_inj.mp (by rw [hk, Int32.toInt_ofNat_small (by omega)])
  rw [hx]
  exact t ⟨k, by omega⟩
end StrChars
namespace StrChars.Road
open Jvm Sem ClassFile Op Lib Jvm.Stand Jvm.Free Jvm.Free.XT
open Jvm.Lib.Cold (StaticIs)
abbrev ST : String := "java/lang/String"
/-- every table word that New1's law asks, flat -/
abbrev words : List Jvm.Cond := [.code New1.yN New1.yB 2 none, .initialized ST, .methodLink ST 27 New4.yN, .instanceMethod New4.yN,
  .code New4.yN New4.yB 6 none, .fieldLink ST 38 ST "COMPACT_STRINGS" "Z", .laysFinal ST ST "value" "[B", .fieldLink ST 9 ST "value" "[B", .laysFinal ST ST "coder" "B", .fieldLink ST 15 ST "coder" "B",
  .methodLink ST 1 Lib.objectInit, .instanceMethod Lib.objectInit, .code Lib.objectInit ⟨#[0xb1]⟩ 1 none, .methodLink ST 177 Cmp3.yN, .static Cmp3.yN, .methodLink ST 47 CodL.yN, .static CodL.yN,
  .code Cmp3.yN Cmp3.yB 6 (some (.array .byte)), .initialized U16, .arrayClass .byte, .methodLink U16 115 Cmp5.yN, .static Cmp5.yN, .code Cmp5.yN Cmp5.yB 7 (some .int), .code CodL.yN CodL.yB 2 (some .byte)]
theorem tab_of {a : Array Value} {s : State} (h : ∀ w ∈ words, w.before a s = true) : New1.tab.before a s = true := by
  have h5 : Cmp5.tab.before a s = true := unparts (wk h (.code Cmp5.yN Cmp5.yB 7 (some .int))) (wks h (.initialized Cmp5.yN.cls :: Cmp5.site))
  have hc : CodL.tab.before a s = true := unparts (wk h (.code CodL.yN CodL.yB 2 (some .byte))) (wks h (.initialized CodL.yN.cls :: CodL.site))
  have q5 : ∀ w ∈ Cmp5.tab :: words, w.before a s = true := fun w hw => (List.mem_cons.mp hw).elim (fun e => e ▸ h5) (h w)
  have h3 : Cmp3.tab.before a s = true := unparts (wk q5 (.code Cmp3.yN Cmp3.yB 6 (some (.array .byte)))) (wks q5 (.initialized Cmp3.yN.cls :: Cmp3.site))
  have q3 : ∀ w ∈ Cmp3.tab :: CodL.tab :: words, w.before a s = true := fun w hw => (List.mem_cons.mp hw).elim (fun e => e ▸ h3) fun hw => (List.mem_cons.mp hw).elim (fun e => e ▸ hc) (h w)
  have h4 : New4.tab.before a s = true := unparts (wk q3 (.code New4.yN New4.yB 6 none)) (wks q3 (.initialized New4.yN.cls :: New4.site))
  have q4 : ∀ w ∈ New4.tab :: words, w.before a s = true := fun w hw => (List.mem_cons.mp hw).elim (fun e => e ▸ h4) (h w)
  exact unparts (wk q4 (.code New1.yN New1.yB 2 none)) (wks q4 (.initialized New1.yN.cls :: New1.site))
/-- the words ride from the start Z to the walk's own state -/
theorem moved {Z s : State} {a0 args : Array Value} (hZ : Z.Warmed39 s.vm) (hw : ∀ d ∈ words, d.before a0 Z = true) : ∀ d ∈ words, d.before args s = true := fun d hd => by
  have q := hw d hd
  have t : ∀ d ∈ words, d = .arrayClass .byte ∨ (d.onTables && d.keepsFace) = true := by decide +kernel
  rcases t d hd with rfl | t
  · exact RoadKit.mvA hZ q
  · exact RoadKit.mv hZ q t
/-- WHAT COMES BACK, over the tables of the start Z: h the heap at the call, h' behind it -/
def Q (Z : State) (x : Addr) (A : Cell) (h : Heap) (v : Option Value) (h' : Heap) (L : List Loc) : Prop := v = none ∧ (∀ y ∈ L, y.base = x) ∧ RoadKit.Keep h h' [x] ∧ h'.size = h.size + 1 ∧ RoadKit.Exa Z h' x ST ∧ RoadKit.Fld Z h' x ST "value" "[B" (.ref h.size) ∧ RoadKit.Fld Z h' x ST "coder" "B" (.int 0) ∧
  (∃ V : Cell, RoadKit.Arr Z h' h.size V .byte ∧ V.vm = .none ∧ Z.vm.findClass "[B" = some V.cls ∧ V.slots.size = A.slots.size ∧ ∀ j, j < A.slots.size → V.slots[j]? = some (.int (lo8 (cv A j)))) ∧
  ∀ (O n d : String) (w : Value), RoadKit.Fld Z h x O n d w → RoadKit.slotOf Z O n d ≠ RoadKit.slotOf Z ST "value" "[B" → RoadKit.slotOf Z O n d ≠ RoadKit.slotOf Z ST "coder" "B" → RoadKit.Fld Z h' x O n d w
/-- **new String(chars) AT A CALL, IN THE ROAD'S FORM**: for specialBack behind newO: x the fresh String, b the char[] with the cell A -/
theorem back {p : Program} {l : Launch} {e : Env} {R : Room} {s : State} {args : Array Value} {below : List Frame} {len W : Nat} {Z : State} {a0 : Array Value} {h : Heap} (hZ : Z.Warmed39 s.vm) (hw : ∀ d ∈ words, d.before a0 Z = true) {kI : Nat} (wi : (Jvm.Cond.instantiable ST kI).before a0 Z = true)
    {x b : Addr} {A : Cell} {z : Int32} {v0 c0 : Value} (E : RoadKit.Exa Z h x ST) (V : RoadKit.Fld Z h x ST "value" "[B" v0) (C : RoadKit.Fld Z h x ST "coder" "B" c0) (K : RoadKit.Arr Z h b A .char) (hty : Typed .char A) (S : RoadKit.Sta Z h ST "COMPACT_STRINGS" "Z" (.int z)) (hz : ¬ z = 0)
    (l0 : 0 < A.slots.size) (l2 : A.slots.size ≤ 536870912) (hp : ∀ i, i < A.slots.size → ¬ 255 < cv A i) (hfr : 4 ≤ R.frames) (hlo : W + 65 ≤ R.locals) :
    Back l R p e below s args New1.yN len W (fun P a => a = #[.ref x, .ref b] ∧ P.U.heap = h ∧ P.cells + 1 ≤ R.cells ∧ P.slots + A.slots.size ≤ R.slots)
      (fun P _ v B => ∃ L, Q Z x A h v B.U.heap L ∧ B.locs = P.locs ++ L ∧ B.cells = P.cells + 1 ∧ B.slots = P.slots + A.slots.size) := by
  intro m meth c P g ig mk a X hg hsize hdg hW hn hp'
  obtain ⟨rfl, rfl, r1, r2⟩ := hp'
  have al : Z.vm.Alike P.U.vm := hZ.alike.trans X.warmed.alike
  obtain ⟨D, cfV, kV, iV, fV, hD, gV, stV, knV, obV, asV, slV⟩ := id V
  obtain ⟨D', cfC, kC, iC, fC, hD', gC, stC, -, -, asC, slC⟩ := id C
  cases hD.symm.trans hD'
  obtain ⟨D2, kD, e1, e2, e3, e4, e5⟩ := id E
  cases hD.symm.trans e1
  obtain ⟨c2, k2, i1, i2, i3, -⟩ := Cond.instantiable_spec wi
  cases e2.symm.trans i1
  cases e3.symm.trans i2
  obtain ⟨kU, u1, u2⟩ := al.2.2 _ _ e3
  have hB : Blank ST x D P.U := ⟨hD, ⟨knV, fun q hq => by rw [hq] at obV; cases obV⟩, by rw [al.findClass]; exact e2, kU, u1, by rw [u2]; exact i3, by rw [u2]; exact e5 i3⟩
  have F1 : Found ST "value" "[B" fV P.U := ⟨SBG.found_only al ⟨cfV, kV, iV, gV⟩, stV⟩
  have F2 : Found ST "coder" "B" fC P.U := ⟨SBG.found_only al ⟨cfC, kC, iC, gC⟩, stC⟩
  have hA : Ch b A P.U := ⟨⟨K.1, State.isArrayOf_alike al K.2.1, K.2.2, by omega⟩, hty⟩
  have hS : StaticIs P.U ST "COMPACT_STRINGS" "Z" (.int z) := by
    obtain ⟨cfS, iS, kS, fS, st, cS, t1, t2, t3, t4, t5, t6, t7⟩ := S
    exact StaticIs.there (s := { Z with heap := P.U.heap }) ⟨cfS, iS, kS, fS, st, cS, t1, t2, t3, t4, t5, (fun q => by rw [q] at t6; cases t6), t7⟩ al rfl
  obtain ⟨v, B, X', ⟨⟨hv, E', V', q1, q2, q3, q4, q5, q6, q7, q8, q9, q10, q11⟩, hl, hc, hs⟩, st⟩ := New1.pays x D fV fC b A z (tab_of (moved hZ hw)) hfr hlo m meth c P g ig mk _ X hg hsize hdg hW hn ⟨r1, r2, rfl, hB, F1, F2, hA, hS, hz, l0, l2, hp⟩
  have al' : Z.vm.Alike B.U.vm := hZ.alike.trans X'.warmed.alike
  have hsz : E'.slots.size = D.slots.size := by
    obtain ⟨-, -, -, kB, w1, w2, w3⟩ := q1
    obtain ⟨kB', y1, y2⟩ := al'.2.2 _ _ e3
    rw [q2.2.1] at w1
    cases w1.symm.trans y1
    rw [w3, e5 i3, y2]
  refine ⟨v, B, X', ⟨_, ⟨hv, ?_, ⟨by omega, fun y cy hy hn' => q10 y cy (by simpa using hn') hy, fun y cy hy => ?_⟩, q11, ⟨E', _, q1.1, by rw [q2.2.1]; exact e2, by rw [q2.2.1]; exact e3, by rw [q2.1]; exact obV, fun _ => by rw [hsz]; exact e5 i3⟩,
    ⟨E', cfV, kV, iV, fV, q1.1, gV, stV, by rw [q2.1]; exact knV, by rw [q2.1]; exact obV, by rw [q2.2.1]; exact asV, q3⟩, ⟨E', cfC, kC, iC, fC, q1.1, gC, stC, by rw [q2.1]; exact knV, by rw [q2.1]; exact obV, by rw [q2.2.1]; exact asC, q4⟩,
    ⟨V', ⟨q5.1, State.isArrayOf_alike al'.symm q5.2.1, q5.2.2.1⟩, q6, by rw [← al'.findClass]; exact q7, q8, fun j hj => by have := q9 j hj; rwa [Nat.zero_add] at this⟩, fun O n d w F n1 n2 => ?_⟩, hl, hc, hs⟩, st⟩
  · intro y hy
    simp only [List.mem_cons, List.not_mem_nil, or_false] at hy
    rcases hy with rfl | rfl <;> rfl
  · by_cases q : y = x
    · subst q
      cases hD.symm.trans hy
      exact ⟨E', q1.1, q2.2.1, q2.1, hsz⟩
    · exact ⟨cy, q10 y cy q hy, rfl, rfl, rfl⟩
  · obtain ⟨D3, cf, k, i, f, g1, g2, g3, g4, g5, g6, g7⟩ := F
    cases hD.symm.trans g1
    simp only [RoadKit.slotOf, g2, gV, gC, Option.map_some, Option.getD_some] at n1 n2
    exact ⟨E', cf, k, i, f, q1.1, g2, g3, by rw [q2.1]; exact g4, by rw [q2.1]; exact g5, by rw [q2.2.1]; exact g6, by rw [q2.2.2 f.slot (by simp [n1, n2])]; exact g7⟩
end StrChars.Road
namespace StrChars.Road
open Jvm Sem ClassFile Op Lib Jvm.Stand Jvm.Free Jvm.Free.XT
/-- WHAT COMES BACK, the byte[] as a list of values -/
def QA (Z : State) (x : Addr) (zn : Int32) (cs : List Int32) (h : Heap) (v : Option Value) (h' : Heap) (L : List Loc) : Prop := v = none ∧ (∀ y ∈ L, y.base = x) ∧ RoadKit.Keep h h' [x] ∧ h'.size = h.size + 1 ∧ RoadKit.Exa Z h' x ST ∧ RoadKit.Fld Z h' x ST "value" "[B" (.ref h.size) ∧ RoadKit.Fld Z h' x ST "coder" "B" (.int 0) ∧
  (∃ kb, Z.vm.findClass "[B" = some kb ∧ RoadKit.Arv Z h' h.size kb .byte zn (cs.map fun c => .int (lo8 c)) (.int 0)) ∧
  ∀ (O n d : String) (w : Value), RoadKit.Fld Z h x O n d w → RoadKit.slotOf Z O n d ≠ RoadKit.slotOf Z ST "value" "[B" → RoadKit.slotOf Z O n d ≠ RoadKit.slotOf Z ST "coder" "B" → RoadKit.Fld Z h' x O n d w
/-- **new String(chars) AT A CALL, THE ARRAYS AS LISTS**: the char[] at b holds cs, not empty, no char above 255 -/
theorem backArv {p : Program} {l : Launch} {e : Env} {R : Room} {s : State} {args : Array Value} {below : List Frame} {len W : Nat} {Z : State} {a0 : Array Value} {h : Heap} (hZ : Z.Warmed39 s.vm) (hw : ∀ d ∈ words, d.before a0 Z = true) {kI : Nat} (wi : (Jvm.Cond.instantiable ST kI).before a0 Z = true)
    {x b : Addr} {k : ClassId} {zn z : Int32} {cs : List Int32} {dv v0 c0 : Value} (E : RoadKit.Exa Z h x ST) (V : RoadKit.Fld Z h x ST "value" "[B" v0) (C : RoadKit.Fld Z h x ST "coder" "B" c0) (K : RoadKit.Arv Z h b k .char zn (cs.map Value.int) dv) (S : RoadKit.Sta Z h ST "COMPACT_STRINGS" "Z" (.int z)) (hz : ¬ z = 0)
    (hlen : zn.toNatClampNeg = cs.length) (h0 : 0 < cs.length) (hbig : cs.length ≤ 536870912) (hall : ∀ c ∈ cs, ¬ 255 < c) (hfr : 4 ≤ R.frames) (hlo : W + 65 ≤ R.locals) :
    Back l R p e below s args New1.yN len W (fun P a => a = #[.ref x, .ref b] ∧ P.U.heap = h ∧ P.cells + 1 ≤ R.cells ∧ P.slots + cs.length ≤ R.slots)
      (fun P _ v B => ∃ L, QA Z x zn cs h v B.U.heap L ∧ B.locs = P.locs ++ L ∧ B.cells = P.cells + 1 ∧ B.slots = P.slots + cs.length) := by
  obtain ⟨A, K1, K2, K3, K4, K5, K6⟩ := K
  have e : A.slots.size = cs.length := K3.trans hlen
  have hat : ∀ (i : Nat) (hi : i < cs.length), A.slots[i]? = some (.int cs[i]) := fun i hi => by rw [K5 i (by omega)]; simp [List.getD_eq_getElem?_getD, hi]
  have hcv : ∀ (i : Nat) (hi : i < cs.length), cv A i = cs[i] := fun i hi => by unfold cv; rw [hat i hi]
  have hty : Typed .char A := fun i v hv => by
    have hi : i < A.slots.size := (Array.getElem?_eq_some_iff.mp hv).1
    have q := K5 i hi
    rw [hv] at q
    rw [Option.some.inj q]
    exact K6 i hi
  refine Back.mono (back hZ hw wi E V C K1 hty S hz (by omega) (by omega) (fun i hi => by rw [hcv i (by omega)]; exact hall _ (List.getElem_mem _)) hfr hlo) (fun P a hp => ⟨hp.1, hp.2.1, hp.2.2.1, by rw [e]; exact hp.2.2.2⟩) (fun P a v B hp hq => ?_)
  obtain ⟨L, ⟨q1, q2, q3, q4, q5, q6, q7, ⟨V', v1, v2, v3, v4, v5⟩, q9⟩, hl, hc, hs⟩ := hq
  refine ⟨L, ⟨q1, q2, q3, q4, q5, q6, q7, ⟨V'.cls, v3, V', v1, rfl, by rw [v4, e, hlen], K4, fun i hi => ?_, fun i hi => ?_⟩, q9⟩, hl, hc, by rw [hs, e]⟩
  · have hi' : i < cs.length := by omega
    rw [v5 i (by omega), hcv i hi']; simp [List.getD_eq_getElem?_getD, hi']
  · have hi' : i < cs.length := by omega
    simp only [List.getD_eq_getElem?_getD, List.getElem?_map, List.getElem?_eq_getElem hi', Option.map_some, Option.getD_some]
    exact fits_lo8 _
end StrChars.Road
namespace StrChars.Road
open Jvm Sem ClassFile Op Lib Jvm.Stand Jvm.Free Jvm.Free.XT
/-- WHAT COMES BACK, in the writer's own shape -/
def QV (Z : State) (x : Addr) (N : Int32) (bs : List Int32) (h : Heap) (n0 : Nat) (v : Option Value) (h' : Heap) (L : List Loc) : Prop := v = none ∧ RoadKit.Fr n0 L ∧ RoadKit.Keep h h' [x] ∧ RoadKit.Exa Z h' x ST ∧ RoadKit.Fld Z h' x ST "coder" "B" (.int 0) ∧
  ∃ (t : Addr) (kb : ClassId), n0 ≤ t ∧ h.size ≤ t ∧ ¬ t = x ∧ RoadKit.Fld Z h' x ST "value" "[B" (.ref t) ∧ RoadKit.Arv Z h' t kb .byte N (bs.map Value.int) (.int 0)
/-- **new String(chars) AT A CALL, FOR THE WRITER**: a char[] of n known ints, each 0 to 255 -/
theorem backV {p : Program} {l : Launch} {e : Env} {R : Room} {s : State} {args : Array Value} {below : List Frame} {len W : Nat} {Z : State} {a0 : Array Value} {h : Heap} (hZ : Z.Warmed39 s.vm) (hw : ∀ d ∈ words, d.before a0 Z = true) {kI : Nat} (wi : (Jvm.Cond.instantiable ST kI).before a0 Z = true)
    {x b : Addr} {kC : ClassId} {cs bs : List Int32} {d v0 c0 : Value} {z N : Int32} {n n0 : Nat} (hx0 : n0 ≤ x) (hh0 : n0 ≤ h.size) (E : RoadKit.Exa Z h x ST) (V : RoadKit.Fld Z h x ST "value" "[B" v0) (C : RoadKit.Fld Z h x ST "coder" "B" c0) (K : RoadKit.Arv Z h b kC .char N (cs.map Value.int) d) (S : RoadKit.Sta Z h ST "COMPACT_STRINGS" "Z" (.int z)) (hz : ¬ z = 0)
    (hn : cs.length = n) (hN : N = Int32.ofNat n) (l0 : 0 < n) (l2 : n ≤ 4000) (hp : ∀ c ∈ cs, ¬ c < 0 ∧ ¬ (255 : Int32) < c) (hb : bs = cs.map (fun c => c.toInt8.toInt32)) (hfr : 4 ≤ R.frames) (hlo : W + 65 ≤ R.locals) :
    Back l R p e below s args (⟨"java/lang/String", "<init>", "([C)V"⟩ : MethodName) len W (fun P a => a = #[.ref x, .ref b] ∧ P.U.heap = h ∧ P.cells + 1 ≤ R.cells ∧ P.slots + n ≤ R.slots)
      (fun P _ v B => ∃ L, QV Z x N bs h n0 v B.U.heap L ∧ B.locs = P.locs ++ L ∧ B.cells = P.cells + 1 ∧ B.slots = P.slots + n) := by
  subst hn hN hb
  refine Back.mono (backArv hZ hw wi E V C K S hz (n32 (by omega)) l0 (by omega) (fun c hc => (hp c hc).2) hfr hlo) (fun P a hp => hp) (fun P a v B hp hq => ?_)
  obtain ⟨L, ⟨q1, q2, q3, q4, q5, q6, q7, ⟨kb, v1, v2⟩, q9⟩, hl, hc, hs⟩ := hq
  exact ⟨L, ⟨q1, fun y hy => by rw [q2 y hy]; exact hx0, q3, q5, q7, h.size, kb, hh0, Nat.le_refl _, Nat.ne_of_gt E.lt, q6, by rw [List.map_map]; exact v2⟩, hl, hc, hs⟩
end StrChars.Road
namespace StrChars
open Jvm Sem ClassFile Op Lib Jvm.Stand Jvm.Free.XT Jvm.Free.ALB Jvm.Free.JM Jvm.Free
open Jvm.Lib.Cold (StaticIs)
def hi8 (x : Int32) : Int32 := lo8 (x >>> ((8 : Int32) &&& 31))
/-- what StringUTF16.getChar makes of two bytes -/
def pairCh (u v : Int32) : Int32 := (((u &&& 255) <<< ((0 : Int32) &&& 31)) ||| ((v &&& 255) <<< ((8 : Int32) &&& 31))).toUInt32.toUInt16.toUInt32.toInt32
theorem shr0 (c : Int32) : c >>> ((0 : Int32) &&& 31) = c := by
  have e : ((0 : Int32) &&& 31) = 0 := by decide
  rw [e]
  apply Int32.toBitVec_inj.mp
  rw [Int32.toBitVec_shiftRight]
  have e1 : ((0 : Int32).toBitVec.smod 32) = 0#32 := by decide
  rw [e1, BitVec.sshiftRight_eq']
  exact BitVec.sshiftRight_zero
theorem lo8_and (x : Int32) : (lo8 x &&& 255).toBitVec.toNat = x.toBitVec.toNat % 256 := by
  have h : (lo8 x).toBitVec = (x.toBitVec.signExtend 8).signExtend 32 := by rw [lo8, Int8.toBitVec_toInt32, Int32.toBitVec_toInt8]
  rw [Int32.toBitVec_and, BitVec.toNat_and, h]
  have e : ((x.toBitVec.signExtend 8).signExtend 32).toNat % 256 = x.toBitVec.toNat % 256 := by
    rw [BitVec.toNat_signExtend]
    have hlt := x.toBitVec.isLt
    simp only [BitVec.toNat_setWidth, BitVec.toNat_signExtend]
    split <;> split <;> omega
  rw [← e]
  exact Nat.and_two_pow_sub_one_eq_mod _ 8
theorem pair_says {c : Int32} (h0 : ¬ c < 0) (h1 : ¬ 65535 < c) : pairCh (lo8 c) (hi8 c) = c := by
  rw [Int32.lt_iff_toInt_lt] at h0 h1
  have e0 : (0 : Int32).toInt = 0 := rfl
  have e1 : (65535 : Int32).toInt = 65535 := rfl
  have hc : c.toInt = c.toBitVec.toNat := by
    have := c.toBitVec.isLt
    have e : c.toInt = c.toBitVec.toInt := rfl
    rw [e] at h0 h1
    rw [e]
    rw [BitVec.toInt_eq_toNat_cond] at h0 h1 ⊢
    split at h0 <;> split <;> omega
  have hn : c.toBitVec.toNat < 65536 := by omega
  have a1 := lo8_and c
  have a2 : (hi8 c &&& 255).toBitVec.toNat = c.toBitVec.toNat / 256 := by
    rw [hi8, lo8_and]
    have e : ((8 : Int32) &&& 31) = 8 := by decide
    rw [e, Int32.toBitVec_shiftRight]
    have e2 : ((8 : Int32).toBitVec.smod 32) = 8#32 := by decide
    rw [e2, BitVec.sshiftRight_eq', BitVec.toNat_sshiftRight_of_msb_false (by rw [BitVec.msb_eq_false_iff_two_mul_lt]; omega)]
    show c.toBitVec.toNat >>> 8 % 256 = _
    rw [Nat.shiftRight_eq_div_pow]
    omega
  unfold pairCh
  apply Int32.toBitVec_inj.mp
  apply BitVec.eq_of_toNat_eq
  have f0 : ((0 : Int32) &&& 31) = 0 := by decide
  have f8 : ((8 : Int32) &&& 31) = 8 := by decide
  rw [f0, f8]
  have g : (((lo8 c &&& 255) <<< (0 : Int32)) ||| ((hi8 c &&& 255) <<< (8 : Int32))).toBitVec.toNat = c.toBitVec.toNat := by
    rw [Int32.toBitVec_or, Int32.toBitVec_shiftLeft, Int32.toBitVec_shiftLeft]
    have s0 : ((0 : Int32).toBitVec.smod 32) = 0#32 := by decide
    have s8 : ((8 : Int32).toBitVec.smod 32) = 8#32 := by decide
    rw [s0, s8, BitVec.toNat_or]
    simp only [BitVec.shiftLeft_eq', BitVec.toNat_shiftLeft, a1, a2]
    show (c.toBitVec.toNat % 256) <<< 0 % 2 ^ 32 ||| (c.toBitVec.toNat / 256) <<< 8 % 2 ^ 32 = _
    rw [Nat.shiftLeft_zero, Nat.mod_eq_of_lt (show c.toBitVec.toNat % 256 < 2 ^ 32 by omega), Nat.mod_eq_of_lt (show (c.toBitVec.toNat / 256) <<< 8 < 2 ^ 32 by rw [Nat.shiftLeft_eq]; omega), Nat.or_comm, ← Nat.shiftLeft_add_eq_or_of_lt (by omega), Nat.shiftLeft_eq]
    omega
  show BitVec.toNat (((((lo8 c &&& 255) <<< (0 : Int32)) ||| ((hi8 c &&& 255) <<< (8 : Int32))).toBitVec.setWidth 16).setWidth 32) = _
  rw [BitVec.toNat_setWidth, BitVec.toNat_setWidth, g]
  omega
end StrChars
namespace StrChars
open Jvm Sem ClassFile Op Lib Jvm.Stand Jvm.Free.XT Jvm.Free.ALB Jvm.Free.JM Jvm.Free
open Jvm.Lib.Cold (StaticIs)
theorem shr1 {n : Nat} (h : 2 * n < 2 ^ 31) : Int32.ofNat (2 * n) >>> ((1 : Int32) &&& 31) = Int32.ofNat n := by
  have e : ((1 : Int32) &&& 31) = 1 := by decide
  rw [e]
  apply Int32.toBitVec_inj.mp
  rw [Int32.toBitVec_shiftRight]
  have e1 : ((1 : Int32).toBitVec.smod 32) = 1#32 := by decide
  have hm : (BitVec.ofNat 32 (2 * n)).toNat = 2 * n := by rw [BitVec.toNat_ofNat, Nat.mod_eq_of_lt (by omega)]
  rw [e1, BitVec.sshiftRight_eq']
  apply BitVec.eq_of_toNat_eq
  show ((BitVec.ofNat 32 (2 * n)).sshiftRight 1).toNat = (BitVec.ofNat 32 n).toNat
  rw [BitVec.toNat_sshiftRight_of_msb_false (by rw [BitVec.msb_eq_false_iff_two_mul_lt, hm]; omega), hm, BitVec.toNat_ofNat, Nat.shiftRight_eq_div_pow]
  omega
/-- charAt's cast of a byte read back -/
def chr8 (u : Int32) : Int32 := (u &&& 255).toUInt32.toUInt16.toUInt32.toInt32
theorem chr8_lo8 {c : Int32} (h0 : ¬ c < 0) (h1 : ¬ 255 < c) : chr8 (lo8 c) = c := by
  have t : ∀ k : Fin 256, (Int32.ofNat k.val).toUInt32.toUInt16.toUInt32.toInt32 = Int32.ofNat k.val := by decide +kernel
  unfold chr8
  rw [lo8_mask h0 h1]
  rw [Int32.lt_iff_toInt_lt] at h0 h1
  have e0 : (0 : Int32).toInt = 0 := rfl
  have e1 : (255 : Int32).toInt = 255 := rfl
  obtain ⟨k, hk⟩ : ∃ k : Nat, c.toInt = k := ⟨c.toInt.toNat, by omega⟩
  have hx : c = Int32.ofNat k := Int32.toInt_inj.mp (by rw [hk, Int32.toInt_ofNat_small (by omega)])
  rw [hx]
  exact t ⟨k, by omega⟩
theorem narrow_ch {c : Int32} (h0 : ¬ c < 0) (h1 : ¬ 65535 < c) : narrow .char (.int c) = .int c := by
  have q : narrow .char (.int (pairCh (lo8 c) (hi8 c))) = .int (pairCh (lo8 c) (hi8 c)) := narrow_c _
  rwa [pair_says h0 h1] at q
/-- the array's cell V codes the n chars f 0 .. f (n - 1) by the coder cd, as the JDK does: coder 1 just where some char is above 255 -/
def Cod (cd : Int32) (n : Nat) (f : Nat → Int32) (V : Cell) : Prop := (cd = 0 ∧ V.slots.size = n ∧ ∀ j, j < n → V.slots[j]? = some (.int (lo8 (f j))) ∧ ¬ 255 < f j) ∨ (cd = 1 ∧ V.slots.size = 2 * n ∧ (∀ j, j < n → V.slots[2 * j]? = some (.int (lo8 (f j))) ∧ V.slots[2 * j + 1]? = some (.int (hi8 (f j)))) ∧ ∃ j, j < n ∧ 255 < f j)
theorem Cod.cd {cd : Int32} {n : Nat} {f : Nat → Int32} {V : Cell} (h : Cod cd n f V) : cd = 0 ∨ cd = 1 := h.imp (fun q => q.1) fun q => q.1
theorem Cod.len {cd : Int32} {n : Nat} {f : Nat → Int32} {V : Cell} (h : Cod cd n f V) (hs : V.slots.size < 2 ^ 31) : Int32.ofNat V.slots.size >>> (cd &&& 31) = Int32.ofNat n := by
  rcases h with ⟨rfl, h, -⟩ | ⟨rfl, h, -⟩
  · rw [shr0, h]
  · rw [h, shr1 (by omega)]
/-- **x is a String of the n chars f 0 .. f (n - 1)**, Latin-1 or UTF-16; its array at t has the cell V -/
def Txt (x t : Addr) (V : Cell) (cd : Int32) (n : Nat) (f : Nat → Int32) (U : State) : Prop := Exact "java/lang/String" x U ∧ Has x "java/lang/String" "value" "[B" (.ref t) U ∧ Has x "java/lang/String" "coder" "B" (.int cd) U ∧ XT.Arr .byte t V U ∧ Cod cd n f V ∧ ∀ j, j < n → ¬ f j < 0 ∧ ¬ 65535 < f j
theorem Txt.mv {x t : Addr} {V : Cell} {cd : Int32} {n : Nat} {f : Nat → Int32} {U U' : State} (h : Txt x t V cd n f U) (hal : U.vm.Alike U'.vm) (hh : U'.heap = U.heap) : Txt x t V cd n f U' := ⟨h.1.mv hal hh, h.2.1.mv hal hh, h.2.2.1.mv hal hh, h.2.2.2.1.mv hal hh, h.2.2.2.2⟩
namespace Cdr
def yN : MethodName := ⟨"java/lang/String", "coder", "()B"⟩
abbrev yB : ByteArray := jdk_42_method_152_code
theorem d0 : decode yB 0 = .ok (.getstatic 38, 3) := by decide +kernel
theorem d3 : decode yB 3 = .ok (.ifCond (.eq) 10, 3) := by decide +kernel
theorem d6 : decode yB 6 = .ok (.aload_n 0, 1) := by decide +kernel
theorem d7 : decode yB 7 = .ok (.getfield 15, 3) := by decide +kernel
theorem d10 : decode yB 10 = .ok (.goto 4, 3) := by decide +kernel
theorem d14 : decode yB 14 = .ok (.ireturn, 1) := by decide +kernel
def site : List Cond := [.fieldLink "java/lang/String" 38 "java/lang/String" "COMPACT_STRINGS" "Z", .fieldLink "java/lang/String" 15 "java/lang/String" "coder" "B"]
def tab : Cond := tabOf yN yB 1 (some .byte) site
def P (x : Addr) (cd z : Int32) (args : Array Value) (s : State) : Prop := args = #[.ref x] ∧ Has x "java/lang/String" "coder" "B" (.int cd) s ∧ (cd = 0 ∨ cd = 1) ∧ StaticIs s "java/lang/String" "COMPACT_STRINGS" "Z" (.int z) ∧ ¬ z = 0
def E (cd : Int32) (r : Option Value) (s u : State) : Prop := XT.PureE (some (.int cd)) r s u
theorem law (l : Launch) (x : Addr) (cd z : Int32) : Law l yN 1 0 0 0 yB 1 (some .byte) site (P x cd z) (E cd) [] 0 0 := by
  refine Law.of_walk (plainFor_of_name (by decide +kernel)) (by decide +kernel) (by decide +kernel) (by decide) (fun _ _ h => by rw [h.1]; rfl) (fun _ U U' hal hh h => ⟨h.1, h.2.1.mv hal hh, h.2.2.1, h.2.2.2.1.there hal hh, h.2.2.2.2⟩) (fun r U U' V V' h1 hal h2 h => XT.PureE.mv r U U' V V' h1 hal h2 h) ?_
  intro p e s m args below meth c s₁ X0 hexec hbytes hml hret hlk hnm hown hh0 W hP
  obtain ⟨rfl, hx, hc, s1, hz⟩ := hP
  have c1 : Steps p.tables e below (s₁.setTop (entryFrame m #[.ref x] 1)) (s₁.setTop (mkF m 0 #[.val (.ref x)] [])) := entry rfl
  obtain ⟨T2, X2, q2, st2⟩ := X0.sget hexec hown (wk W (.fieldLink "java/lang/String" 38 "java/lang/String" "COMPACT_STRINGS" "Z")) s1 (fun _ _ h => by rw [hh0]; exact h) (g := (mkF m 0 #[.val (.ref x)] [])) rfl (hb hbytes d0)
  have hh2 := q2.trans hh0
  have c3 : Steps p.tables e below (s₁.setTop (entryFrame m #[.ref x] 1)) (T2.setTop (mkF m 7 #[.val (.ref x)] [.ref x])) := (c1.trans (st2 _ (Steps.refl _))).trans (by
    refine XS.ifNo X2.here hexec rfl (hb hbytes d3) rfl (i0_eq_f hz) ?_
    refine XS.aloadN X2.here hexec rfl (hb hbytes d6) rfl rfl ?_
    exact Steps.refl _)
  obtain ⟨T4, X4, q4, st4⟩ := X2.hget hexec hown (wk W (.fieldLink "java/lang/String" 15 "java/lang/String" "coder" "B")) (hx.mv X2.warmed.alike hh2) (g := (mkF m 7 #[.val (.ref x)] [.ref x])) rfl (rest := []) rfl (hb hbytes d7)
  have c5 : Steps p.tables e below (s₁.setTop (entryFrame m #[.ref x] 1)) (T4.setTop (mkF m 14 #[.val (.ref x)] [.int cd])) := (c3.trans (st4 _ (Steps.refl _))).trans (by
    refine XS.goto X4.here hexec rfl (pc0 := 10) rfl (hb hbytes d10) (by decide) rfl ?_
    exact Steps.refl _)
  exact ⟨T4, some (.int cd), _, _, _, X4, rfl, rfl, rfl, (fun h => by cases h), ⟨rfl, q4.trans hh2⟩, fun fs hl => c5.trans (X4.ireturnOut hexec hret (by rcases hc with rfl | rfl <;> rfl) (Or.inr (Or.inr (Or.inl rfl))) (hb hbytes d14) hl)⟩
end Cdr
namespace Len
def yN : MethodName := ⟨"java/lang/String", "length", "()I"⟩
abbrev yB : ByteArray := jdk_42_method_54_code
theorem d0 : decode yB 0 = .ok (.aload_n 0, 1) := by decide +kernel
theorem d1 : decode yB 1 = .ok (.getfield 9, 3) := by decide +kernel
theorem d4 : decode yB 4 = .ok (.arraylength, 1) := by decide +kernel
theorem d5 : decode yB 5 = .ok (.aload_n 0, 1) := by decide +kernel
theorem d6 : decode yB 6 = .ok (.invokevirtual 335, 3) := by decide +kernel
theorem d9 : decode yB 9 = .ok (.ishr, 1) := by decide +kernel
theorem d10 : decode yB 10 = .ok (.ireturn, 1) := by decide +kernel
def site : List Cond := [.fieldLink "java/lang/String" 9 "java/lang/String" "value" "[B", Cdr.tab] ++ virtW "java/lang/String" 335 "java/lang/String" Cdr.yN Cdr.yN
def tab : Cond := tabOf yN yB 1 (some .int) site
def P (x t : Addr) (V : Cell) (cd : Int32) (n : Nat) (f : Nat → Int32) (z : Int32) (args : Array Value) (s : State) : Prop := args = #[.ref x] ∧ Txt x t V cd n f s ∧ StaticIs s "java/lang/String" "COMPACT_STRINGS" "Z" (.int z) ∧ ¬ z = 0
def E (n : Nat) (r : Option Value) (s u : State) : Prop := XT.PureE (some (.int (Int32.ofNat n))) r s u
/-- length() of a String of n chars, in either coding -/
theorem law (l : Launch) (x t : Addr) (V : Cell) (cd : Int32) (n : Nat) (f : Nat → Int32) (z : Int32) : Law l yN 1 0 1 13 yB 1 (some .int) site (P x t V cd n f z) (E n) [] 0 0 := by
  refine Law.of_walk (plainFor_of_name (by decide +kernel)) (by decide +kernel) (by decide +kernel) (by decide) (fun _ _ h => by rw [h.1]; rfl) (fun _ U U' hal hh h => ⟨h.1, h.2.1.mv hal hh, h.2.2.1.there hal hh, h.2.2.2⟩) (fun r U U' V V' h1 hal h2 h => XT.PureE.mv r U U' V V' h1 hal h2 h) ?_
  intro p e s m args below meth c s₁ X0 hexec hbytes hml hret hlk hnm hown hh0 W hP
  obtain ⟨rfl, hx, s1, hz⟩ := hP
  have v31 := hx.2.2.2.1.2.2.2
  have c1 : Steps p.tables e below (s₁.setTop (entryFrame m #[.ref x] 1)) (s₁.setTop (mkF m 1 #[.val (.ref x)] [.ref x])) := Steps.trans (entry rfl) (by
    show Steps p.tables e below (s₁.setTop (mkF m 0 #[.val (.ref x)] [])) _
    refine XS.aloadN X0.here hexec rfl (hb hbytes d0) rfl rfl ?_
    exact Steps.refl _)
  obtain ⟨T2, X2, q2, st2⟩ := X0.hget hexec hown (wk W (.fieldLink "java/lang/String" 9 "java/lang/String" "value" "[B")) (hx.mv X0.warmed.alike hh0).2.1 (g := (mkF m 1 #[.val (.ref x)] [.ref x])) rfl (rest := []) rfl (hb hbytes d1)
  have hh2 := q2.trans hh0
  have hx2 := hx.mv X2.warmed.alike hh2
  have c3 : Steps p.tables e below (s₁.setTop (entryFrame m #[.ref x] 1)) (T2.setTop (mkF m 6 #[.val (.ref x)] [.ref x, .int (Int32.ofNat V.slots.size)])) := (c1.trans (st2 _ (Steps.refl _))).trans (by
    refine X2.alen hexec hx2.2.2.2.1 rfl rfl (hb hbytes d4) ?_
    refine XS.aloadN X2.here hexec rfl (hb hbytes d5) rfl rfl ?_
    exact Steps.refl _)
  obtain ⟨v4, T4, X4, E4, g4⟩ := X2.callV hexec (Cdr.law l x cd z) hown (wks W (virtW "java/lang/String" 335 "java/lang/String" Cdr.yN Cdr.yN)) rfl (by decide) (wk W Cdr.tab) (W := 1) (Nat.le_of_ble_eq_true rfl) (Nat.le_of_ble_eq_true rfl) (Nat.le_refl _) (Nat.le_refl _) (hx2.1.fc X2.warmed.alike) hx2.1.is (g := (mkF m 6 #[.val (.ref x)] [.ref x, .int (Int32.ofNat V.slots.size)])) rfl (by rw [hml]; rfl) c3 (argsL := []) (rest := [.int (Int32.ofNat V.slots.size)]) rfl rfl (by show 2 * 0 + (1 + 0) ≤ _; decide) (hb hbytes d6) (⟨rfl, hx2.2.2.1, hx.2.2.2.2.1.cd, s1.there X2.warmed.alike hh2, hz⟩)
  obtain ⟨rfl, q4⟩ := E4
  have c5 : Steps p.tables e below (s₁.setTop (entryFrame m #[.ref x] 1)) (T4.setTop (mkF m 10 #[.val (.ref x)] [.int (Int32.ofNat V.slots.size >>> (cd &&& 31))])) := Steps.trans g4 (by
    refine ishr X4.here hexec rfl (hb hbytes d9) rfl ?_
    exact Steps.refl _)
  rw [hx.2.2.2.2.1.len v31] at c5
  exact ⟨T4, some (.int (Int32.ofNat n)), _, _, _, X4, rfl, rfl, rfl, (fun h => by cases h), ⟨rfl, q4.trans hh2⟩, fun fs hl => c5.trans (X4.ireturnOut hexec hret rfl (Or.inl rfl) (hb hbytes d10) hl)⟩
theorem pays {l : Launch} {R : Room} {p : Program} {e : Env} {below : List Frame} {s : State} {sargs : Array Value} {len W : Nat} (x t : Addr) (V : Cell) (cd : Int32) (n : Nat) (f : Nat → Int32) (z : Int32) (htab : tab.before sargs s = true) (hfr : 2 ≤ R.frames) (hlo : W + 25 ≤ R.locals) :
    Back l R p e below s sargs yN len W (fun A₁ a₁ => A₁.cells + 0 ≤ R.cells ∧ A₁.slots + 0 ≤ R.slots ∧ P x t V cd n f z a₁ A₁.U) (fun A₁ _ v₁ B₁ => E n v₁ A₁.U B₁.U ∧ B₁.locs = A₁.locs ++ [] ∧ B₁.cells = A₁.cells + 0 ∧ B₁.slots = A₁.slots + 0) :=
  (law l x t V cd n f z).pays htab hfr (by omega)
end Len
namespace IsL
def yN : MethodName := ⟨"java/lang/String", "isLatin1", "()Z"⟩
abbrev yB : ByteArray := jdk_42_method_154_code
theorem d0 : decode yB 0 = .ok (.getstatic 38, 3) := by decide +kernel
theorem d3 : decode yB 3 = .ok (.ifCond (.eq) 14, 3) := by decide +kernel
theorem d6 : decode yB 6 = .ok (.aload_n 0, 1) := by decide +kernel
theorem d7 : decode yB 7 = .ok (.getfield 15, 3) := by decide +kernel
theorem d10 : decode yB 10 = .ok (.ifCond (.ne) 7, 3) := by decide +kernel
theorem d13 : decode yB 13 = .ok (.iconst 1, 1) := by decide +kernel
theorem d14 : decode yB 14 = .ok (.goto 4, 3) := by decide +kernel
theorem d17 : decode yB 17 = .ok (.iconst 0, 1) := by decide +kernel
theorem d18 : decode yB 18 = .ok (.ireturn, 1) := by decide +kernel
def site : List Cond := [.fieldLink "java/lang/String" 38 "java/lang/String" "COMPACT_STRINGS" "Z", .fieldLink "java/lang/String" 15 "java/lang/String" "coder" "B"]
def tab : Cond := tabOf yN yB 1 (some .boolean) site
def P (x : Addr) (cd z : Int32) (args : Array Value) (s : State) : Prop := args = #[.ref x] ∧ Has x "java/lang/String" "coder" "B" (.int cd) s ∧ (cd = 0 ∨ cd = 1) ∧ StaticIs s "java/lang/String" "COMPACT_STRINGS" "Z" (.int z) ∧ ¬ z = 0
def E (cd : Int32) (r : Option Value) (s u : State) : Prop := XT.PureE (some (.int (1 - cd))) r s u
theorem law (l : Launch) (x : Addr) (cd z : Int32) : Law l yN 1 0 0 0 yB 1 (some .boolean) site (P x cd z) (E cd) [] 0 0 := by
  refine Law.of_walk (plainFor_of_name (by decide +kernel)) (by decide +kernel) (by decide +kernel) (by decide) (fun _ _ h => by rw [h.1]; rfl) (fun _ U U' hal hh h => ⟨h.1, h.2.1.mv hal hh, h.2.2.1, h.2.2.2.1.there hal hh, h.2.2.2.2⟩) (fun r U U' V V' h1 hal h2 h => XT.PureE.mv r U U' V V' h1 hal h2 h) ?_
  intro p e s m args below meth c s₁ X0 hexec hbytes hml hret hlk hnm hown hh0 W hP
  obtain ⟨rfl, hx, hc, s1, hz⟩ := hP
  have c1 : Steps p.tables e below (s₁.setTop (entryFrame m #[.ref x] 1)) (s₁.setTop (mkF m 0 #[.val (.ref x)] [])) := entry rfl
  obtain ⟨T2, X2, q2, st2⟩ := X0.sget hexec hown (wk W (.fieldLink "java/lang/String" 38 "java/lang/String" "COMPACT_STRINGS" "Z")) s1 (fun _ _ h => by rw [hh0]; exact h) (g := (mkF m 0 #[.val (.ref x)] [])) rfl (hb hbytes d0)
  have hh2 := q2.trans hh0
  have c3 : Steps p.tables e below (s₁.setTop (entryFrame m #[.ref x] 1)) (T2.setTop (mkF m 7 #[.val (.ref x)] [.ref x])) := (c1.trans (st2 _ (Steps.refl _))).trans (by
    refine XS.ifNo X2.here hexec rfl (hb hbytes d3) rfl (i0_eq_f hz) ?_
    refine XS.aloadN X2.here hexec rfl (hb hbytes d6) rfl rfl ?_
    exact Steps.refl _)
  obtain ⟨T4, X4, q4, st4⟩ := X2.hget hexec hown (wk W (.fieldLink "java/lang/String" 15 "java/lang/String" "coder" "B")) (hx.mv X2.warmed.alike hh2) (g := (mkF m 7 #[.val (.ref x)] [.ref x])) rfl (rest := []) rfl (hb hbytes d7)
  have c5 : Steps p.tables e below (s₁.setTop (entryFrame m #[.ref x] 1)) (T4.setTop (mkF m 10 #[.val (.ref x)] [.int cd])) := c3.trans (st4 _ (Steps.refl _))
  have c6 : Steps p.tables e below (s₁.setTop (entryFrame m #[.ref x] 1)) (T4.setTop (mkF m 18 #[.val (.ref x)] [.int (1 - cd)])) := by
    rcases hc with rfl | rfl
    · exact c5.trans (by
        refine XS.ifNo X4.here hexec rfl (hb hbytes d10) rfl (i0_ne_f rfl) ?_
        refine iconstV X4.here hexec rfl 1 (hb hbytes d13) (by decide) ?_
        refine XS.goto X4.here hexec rfl (pc0 := 14) rfl (hb hbytes d14) (by decide) rfl ?_
        exact Steps.refl _)
    · exact c5.trans (by
        refine XS.ifYes X4.here hexec rfl (pc0 := 10) rfl (hb hbytes d10) rfl (i0_ne_t (by decide)) (by decide) rfl ?_
        refine iconstV X4.here hexec rfl 0 (hb hbytes d17) (by decide) ?_
        exact Steps.refl _)
  exact ⟨T4, some (.int (1 - cd)), _, _, _, X4, rfl, rfl, rfl, (fun h => by cases h), ⟨rfl, q4.trans hh2⟩, fun fs hl => c6.trans (X4.ireturnOut hexec hret (by rcases hc with rfl | rfl <;> rfl) (Or.inr (Or.inl rfl)) (hb hbytes d18) hl)⟩
end IsL
namespace LChA
def yN : MethodName := ⟨"java/lang/StringLatin1", "charAt", "([BI)C"⟩
abbrev yB : ByteArray := jdk_43_method_2_code
theorem d0 : decode yB 0 = .ok (.iload_n 1, 1) := by decide +kernel
theorem d1 : decode yB 1 = .ok (.aload_n 0, 1) := by decide +kernel
theorem d2 : decode yB 2 = .ok (.arraylength, 1) := by decide +kernel
theorem d3 : decode yB 3 = .ok (.invokestatic 9, 3) := by decide +kernel
theorem d6 : decode yB 6 = .ok (.aload_n 0, 1) := by decide +kernel
theorem d7 : decode yB 7 = .ok (.iload_n 1, 1) := by decide +kernel
theorem d8 : decode yB 8 = .ok (.baload, 1) := by decide +kernel
theorem d9 : decode yB 9 = .ok (.sipush 255, 3) := by decide +kernel
theorem d12 : decode yB 12 = .ok (.iand, 1) := by decide +kernel
theorem d13 : decode yB 13 = .ok (.i2c, 1) := by decide +kernel
theorem d14 : decode yB 14 = .ok (.ireturn, 1) := by decide +kernel
def site : List Cond := [JO.Str_checkIndex.tab] ++ staticW "java/lang/StringLatin1" 9 JO.Str_checkIndex.yN
def tab : Cond := tabOf yN yB 2 (some .char) site
def P (t : Addr) (V : Cell) (i : Nat) (u : Int32) (fm : Value) (args : Array Value) (s : State) : Prop := args = #[.ref t, .int (Int32.ofNat i)] ∧ XT.Arr .byte t V s ∧ V.slots[i]? = some (.int u) ∧ (StaticIs s "jdk/internal/util/Preconditions" "SIOOBE_FORMATTER" "Ljava/util/function/BiFunction;" fm ∧ fm.isRef = true)
def E (u : Int32) (r : Option Value) (s w : State) : Prop := XT.PureE (some (.int (chr8 u))) r s w
theorem law (l : Launch) (t : Addr) (V : Cell) (i : Nat) (u : Int32) (fm : Value) : Law l yN 2 2 2 27 yB 2 (some .char) site (P t V i u fm) (E u) [] 0 0 := by
  refine Law.of_walk (plainFor_of_name (by decide +kernel)) (by decide +kernel) (by decide +kernel) (by decide) (fun _ _ h => by rw [h.1]; rfl) (fun _ U U' hal hh h => ⟨h.1, h.2.1.mv hal hh, h.2.2.1, h.2.2.2.1.there hal hh, h.2.2.2.2⟩) (fun r U U' V V' h1 hal h2 h => XT.PureE.mv r U U' V V' h1 hal h2 h) ?_
  intro p e s m args below meth c s₁ X0 hexec hbytes hml hret hlk hnm hown hh0 W hP
  obtain ⟨rfl, hV, hu, s1, rf⟩ := hP
  have v31 := hV.2.2.2
  have hi : i < V.slots.size := (Array.getElem?_eq_some_iff.mp hu).1
  have c1 : Steps p.tables e below (s₁.setTop (entryFrame m #[.ref t, .int (Int32.ofNat i)] 2)) (s₁.setTop (mkF m 0 #[.val (.ref t), .val (.int (Int32.ofNat i))] [])) := entry rfl
  have c2 : Steps p.tables e below (s₁.setTop (entryFrame m #[.ref t, .int (Int32.ofNat i)] 2)) (s₁.setTop (mkF m 3 #[.val (.ref t), .val (.int (Int32.ofNat i))] [.int (Int32.ofNat V.slots.size), .int (Int32.ofNat i)])) := c1.trans (by
    refine XS.iloadN X0.here hexec rfl (hb hbytes d0) rfl ?_
    refine XS.aloadN X0.here hexec rfl (hb hbytes d1) rfl rfl ?_
    refine X0.alen hexec (hV.mv X0.warmed.alike hh0) rfl rfl (hb hbytes d2) ?_
    exact Steps.refl _)
  obtain ⟨v3, T3, X3, E3, g3⟩ := X0.callS hexec (JO.Str_checkIndex.law l (Int32.ofNat i) (Int32.ofNat V.slots.size) fm) hown (wks W (staticW "java/lang/StringLatin1" 9 JO.Str_checkIndex.yN)) (wk W JO.Str_checkIndex.tab) (W := 0) (Nat.le_of_ble_eq_true rfl) (Nat.le_of_ble_eq_true rfl) (Nat.le_refl _) (Nat.le_refl _) (g := (mkF m 3 #[.val (.ref t), .val (.int (Int32.ofNat i))] [.int (Int32.ofNat V.slots.size), .int (Int32.ofNat i)])) rfl (by rw [hml]; rfl) c2 (argsL := [.int (Int32.ofNat i), .int (Int32.ofNat V.slots.size)]) (rest := []) rfl rfl (by show 2 * 0 + 0 ≤ _; decide) (hb hbytes d3) (⟨rfl, rf, s1.there X0.warmed.alike hh0, Int32.ofNat_not_neg (by omega), lt32 v31 hi⟩)
  obtain ⟨rfl, q3⟩ := E3
  have hh3 := q3.trans hh0
  have c4 : Steps p.tables e below (s₁.setTop (entryFrame m #[.ref t, .int (Int32.ofNat i)] 2)) (T3.setTop (mkF m 14 #[.val (.ref t), .val (.int (Int32.ofNat i))] [.int (chr8 u)])) := Steps.trans g3 (by
    refine XS.aloadN X3.here hexec rfl (hb hbytes d6) rfl rfl ?_
    refine XS.iloadN X3.here hexec rfl (hb hbytes d7) rfl ?_
    refine X3.aget hexec (hV.mv X3.warmed.alike hh3) rfl hu rfl rfl (hb hbytes d8) ?_
    refine sipushV X3.here hexec rfl 255 (hb hbytes d9) (by decide) ?_
    refine XS.iand X3.here hexec rfl (hb hbytes d12) rfl ?_
    refine i2c X3.here hexec rfl (hb hbytes d13) rfl ?_
    exact Steps.refl _)
  exact ⟨T3, some (.int (chr8 u)), _, _, _, X3, rfl, rfl, rfl, (fun h => by cases h), ⟨rfl, hh3⟩, fun fs hl => c4.trans (X3.ireturnOut hexec hret (narrow_c _) (Or.inr (Or.inr (Or.inr (Or.inl rfl)))) (hb hbytes d14) hl)⟩
end LChA
end StrChars
namespace StrChars.Road
open Jvm Sem ClassFile Op Lib Jvm.Stand Jvm.Free Jvm.Free.XT
open Jvm.Lib.Cold (StaticIs)
theorem consq {a : Array Value} {s : State} {c : Jvm.Cond} {L : List Jvm.Cond} (h0 : c.before a s = true) (h : ∀ w ∈ L, w.before a s = true) : ∀ w ∈ c :: L, w.before a s = true := fun w hw => (List.mem_cons.mp hw).elim (fun e => e ▸ h0) (h w)
/-- the words of String.length(), either coding -/
abbrev wordsLen : List Jvm.Cond := [.code Len.yN Len.yB 1 (some .int), .initialized ST, .fieldLink ST 9 ST "value" "[B", .fieldLink ST 38 ST "COMPACT_STRINGS" "Z", .fieldLink ST 15 ST "coder" "B", .code Cdr.yN Cdr.yB 1 (some .byte), .methodLink ST 335 Cdr.yN, .declares Cdr.yN, .selects ST Cdr.yN Cdr.yN, .instanceMethod Cdr.yN]
theorem tabLen_of {a : Array Value} {s : State} (h : ∀ w ∈ wordsLen, w.before a s = true) : Len.tab.before a s = true := by
  have hc : Cdr.tab.before a s = true := unparts (wk h (.code Cdr.yN Cdr.yB 1 (some .byte))) (wks h (.initialized Cdr.yN.cls :: Cdr.site))
  have q := consq hc h
  exact unparts (wk q (.code Len.yN Len.yB 1 (some .int))) (wks q (.initialized Len.yN.cls :: Len.site))
theorem movedLen {Z s : State} {a0 args : Array Value} (hZ : Z.Warmed39 s.vm) (hw : ∀ d ∈ wordsLen, d.before a0 Z = true) : ∀ d ∈ wordsLen, d.before args s = true := fun d hd => by
  have q := hw d hd
  have t : ∀ d ∈ wordsLen, d = .arrayClass .byte ∨ (d.onTables && d.keepsFace) = true := by decide +kernel
  rcases t d hd with rfl | t
  · exact RoadKit.mvA hZ q
  · exact RoadKit.mv hZ q t
/-- the bytes of the chars cs, low before high -/
def wideBytes : List Int32 → List Value
  | [] => []
  | c :: cs => .int (lo8 c) :: .int (hi8 c) :: wideBytes cs
theorem wide_lo (d : Value) : ∀ (cs : List Int32) (j : Nat), j < cs.length → (wideBytes cs).getD (2 * j) d = .int (lo8 (cs.getD j 0))
  | [], j, h => absurd h (Nat.not_lt_zero j)
  | c :: cs, 0, _ => rfl
  | c :: cs, j + 1, h => by
    have q := wide_lo d cs j (by simpa using h)
    rw [show 2 * (j + 1) = 2 * j + 1 + 1 from by omega]
    simpa [wideBytes] using q
theorem wide_hi (d : Value) : ∀ (cs : List Int32) (j : Nat), j < cs.length → (wideBytes cs).getD (2 * j + 1) d = .int (hi8 (cs.getD j 0))
  | [], j, h => absurd h (Nat.not_lt_zero j)
  | c :: cs, 0, _ => rfl
  | c :: cs, j + 1, h => by
    have q := wide_hi d cs j (by simpa using h)
    rw [show 2 * (j + 1) + 1 = 2 * j + 1 + 1 + 1 from by omega]
    simpa [wideBytes] using q
theorem low_at (d : Value) (cs : List Int32) (j : Nat) (h : j < cs.length) : (cs.map fun c => Value.int (lo8 c)).getD j d = .int (lo8 (cs.getD j 0)) := by
  simp [List.getD_eq_getElem?_getD, h]
/-- an array of N2 bytes vs codes the chars cs by the coder cd -/
def CodA (cs : List Int32) (cd N2 : Int32) (vs : List Value) : Prop := (cd = 0 ∧ N2 = Int32.ofNat cs.length ∧ vs = (cs.map fun c => Value.int (lo8 c)) ∧ ∀ c ∈ cs, ¬ 255 < c) ∨ (cd = 1 ∧ N2 = Int32.ofNat (2 * cs.length) ∧ vs = wideBytes cs ∧ ∃ c ∈ cs, 255 < c)
theorem CodA.cod {cs : List Int32} {cd N2 : Int32} {vs : List Value} {V : Cell} (h : CodA cs cd N2 vs) (hn : 2 * cs.length < 2 ^ 31) (hs : V.slots.size = N2.toNatClampNeg) (hv : RoadKit.Has V vs (.int 0)) : Cod cd cs.length (fun j => cs.getD j 0) V := by
  rcases h with ⟨rfl, rfl, rfl, h⟩ | ⟨rfl, rfl, rfl, c, hc, hw⟩
  · rw [n32 (by omega)] at hs
    exact Or.inl ⟨rfl, hs, fun j hj => ⟨by rw [hv j (by omega), low_at _ _ _ hj], by
      have e : cs.getD j 0 = cs[j] := by simp [List.getD_eq_getElem?_getD, hj]
      show ¬ 255 < cs.getD j 0
      rw [e]; exact h _ (List.getElem_mem _)⟩⟩
  · rw [n32 (by omega)] at hs
    obtain ⟨j, hj, rfl⟩ := List.getElem_of_mem hc
    exact Or.inr ⟨rfl, hs, fun j hj => ⟨by rw [hv _ (by omega), wide_lo _ _ _ hj], by rw [hv _ (by omega), wide_hi _ _ _ hj]⟩, j, hj, by
      have e : cs.getD j 0 = cs[j] := by simp [List.getD_eq_getElem?_getD, hj]
      show 255 < cs.getD j 0
      rw [e]; exact hw⟩
/-- an object of exactly java/lang/String, its two fields found: as the laws ask it -/
theorem strObj {Z U : State} {a0 : Array Value} {kI : Nat} (wi : (Jvm.Cond.instantiable ST kI).before a0 Z = true) (al : Z.vm.Alike U.vm) {x : Addr} {v0 c0 : Value} (E : RoadKit.Exa Z U.heap x ST) (V : RoadKit.Fld Z U.heap x ST "value" "[B" v0) (C : RoadKit.Fld Z U.heap x ST "coder" "B" c0) :
    ∃ (D : Cell) (fV fC : Field), Blank ST x D U ∧ Found ST "value" "[B" fV U ∧ Found ST "coder" "B" fC U ∧ D.slots[fV.slot]? = some v0 ∧ D.slots[fC.slot]? = some c0 ∧ RoadKit.slotOf Z ST "value" "[B" = fV.slot ∧ RoadKit.slotOf Z ST "coder" "B" = fC.slot := by
  obtain ⟨D, cfV, kV, iV, fV, hD, gV, stV, knV, obV, asV, slV⟩ := V
  obtain ⟨D', cfC, kC, iC, fC, hD', gC, stC, -, -, asC, slC⟩ := C
  cases hD.symm.trans hD'
  obtain ⟨D2, kD, e1, e2, e3, e4, e5⟩ := E
  cases hD.symm.trans e1
  obtain ⟨c2, k2, i1, i2, i3, -⟩ := Cond.instantiable_spec wi
  cases e2.symm.trans i1
  cases e3.symm.trans i2
  obtain ⟨kU, u1, u2⟩ := al.2.2 _ _ e3
  exact ⟨D, fV, fC, ⟨hD, ⟨knV, fun q hq => by rw [hq] at obV; cases obV⟩, by rw [al.findClass]; exact e2, kU, u1, by rw [u2]; exact i3, by rw [u2]; exact e5 i3⟩, ⟨SBG.found_only al ⟨cfV, kV, iV, gV⟩, stV⟩, ⟨SBG.found_only al ⟨cfC, kC, iC, gC⟩, stC⟩, slV, slC, by simp [RoadKit.slotOf, gV], by simp [RoadKit.slotOf, gC]⟩
theorem sta_is {Z U : State} (al : Z.vm.Alike U.vm) {C n d : String} {v : Value} (S : RoadKit.Sta Z U.heap C n d v) : StaticIs U C n d v := by
  obtain ⟨cfS, iS, kS, fS, st, cS, t1, t2, t3, t4, t5, t6, t7⟩ := S
  exact StaticIs.there (s := { Z with heap := U.heap }) ⟨cfS, iS, kS, fS, st, cS, t1, t2, t3, t4, t5, (fun q => by rw [q] at t6; cases t6), t7⟩ al rfl
/-- **length() OF SUCH A STRING** -/
theorem lenW {p : Program} {l : Launch} {e : Env} {R : Room} {s : State} {args : Array Value} {below : List Frame} {len W : Nat} {Z : State} {a0 : Array Value} {h : Heap} (hZ : Z.Warmed39 s.vm) (hw : ∀ d ∈ wordsLen, d.before a0 Z = true) {kI : Nat} (wi : (Jvm.Cond.instantiable ST kI).before a0 Z = true)
    {x t : Addr} {kb : ClassId} {cs : List Int32} {cd N2 z : Int32} {vs : List Value} (E : RoadKit.Exa Z h x ST) (V : RoadKit.Fld Z h x ST "value" "[B" (.ref t)) (C : RoadKit.Fld Z h x ST "coder" "B" (.int cd)) (K : RoadKit.Arv Z h t kb .byte N2 vs (.int 0)) (hc : CodA cs cd N2 vs) (hb : ∀ c ∈ cs, ¬ c < 0 ∧ ¬ (65535 : Int32) < c)
    (S : RoadKit.Sta Z h ST "COMPACT_STRINGS" "Z" (.int z)) (hz : ¬ z = 0) (l2 : cs.length ≤ 4000) (hfr : 2 ≤ R.frames) (hlo : W + 25 ≤ R.locals) :
    Back l R p e below s args (⟨"java/lang/String", "length", "()I"⟩ : MethodName) len W (fun P a => a = #[.ref x] ∧ P.U.heap = h ∧ P.cells + 0 ≤ R.cells ∧ P.slots + 0 ≤ R.slots)
      (fun P _ v B => ∃ L, (v = some (.int (Int32.ofNat cs.length)) ∧ L = [] ∧ B.U.heap = h) ∧ B.locs = P.locs ++ L ∧ B.cells = P.cells + 0 ∧ B.slots = P.slots + 0) := by
  obtain ⟨A, K1, K2, K3, K4, K5, K6⟩ := K
  have hcod := hc.cod (by omega) K3 K5
  intro m meth c P g ig mk a X hg hsize hdg hW hn hp'
  obtain ⟨rfl, rfl, r1, r2⟩ := hp'
  have al : Z.vm.Alike P.U.vm := hZ.alike.trans X.warmed.alike
  obtain ⟨D, fV, fC, hB, F1, F2, g1, g2, -, -⟩ := strObj wi al E V C
  have hx : Txt x t A cd cs.length (fun j => cs.getD j 0) P.U := ⟨⟨_, hB.2.2.1, D, hB.1, rfl, by cases q : D.vm <;> first | rfl | exact absurd q (hB.2.1.2 _)⟩, Has.of hB F1 g1, Has.of hB F2 g2, ⟨K1.1, State.isArrayOf_alike al K1.2.1, K1.2.2, by rcases hcod with ⟨-, q, -⟩ | ⟨-, q, -⟩ <;> omega⟩, hcod, fun j hj => by
    have e : cs.getD j 0 = cs[j] := by simp [List.getD_eq_getElem?_getD, hj]
    show ¬ cs.getD j 0 < 0 ∧ ¬ 65535 < cs.getD j 0
    rw [e]; exact hb _ (List.getElem_mem _)⟩
  obtain ⟨v, B, X', ⟨⟨hv, hh⟩, hl, hk, hs⟩, st⟩ := Len.pays x t A cd cs.length (fun j => cs.getD j 0) z (tabLen_of (movedLen hZ hw)) hfr hlo m meth c P g ig mk _ X hg hsize hdg hW hn ⟨r1, r2, rfl, hx, sta_is al S, hz⟩
  exact ⟨v, B, X', ⟨[], ⟨hv, rfl, hh⟩, hl, hk, hs⟩, st⟩
end StrChars.Road
namespace StrChars.Road
open Jvm Sem ClassFile Op Lib Jvm.Stand Jvm.Free Jvm.Free.XT
open Jvm.Lib.Cold (StaticIs)
/-- the road's facts of a String, as the laws ask it -/
theorem txt_of {Z U : State} {a0 : Array Value} {kI : Nat} (wi : (Jvm.Cond.instantiable ST kI).before a0 Z = true) (al : Z.vm.Alike U.vm) {x t : Addr} {kb : ClassId} {cs : List Int32} {cd N2 : Int32} {vs : List Value} (E : RoadKit.Exa Z U.heap x ST) (V : RoadKit.Fld Z U.heap x ST "value" "[B" (.ref t)) (C : RoadKit.Fld Z U.heap x ST "coder" "B" (.int cd)) (K : RoadKit.Arv Z U.heap t kb .byte N2 vs (.int 0)) (hc : CodA cs cd N2 vs) (hb : ∀ c ∈ cs, ¬ c < 0 ∧ ¬ (65535 : Int32) < c) (l2 : cs.length ≤ 4000) :
    ∃ A, Txt x t A cd cs.length (fun j => cs.getD j 0) U := by
  obtain ⟨A, K1, K2, K3, K4, K5, K6⟩ := K
  have hcod := hc.cod (by omega) K3 K5
  obtain ⟨D, fV, fC, hB, F1, F2, g1, g2, -, -⟩ := strObj wi al E V C
  exact ⟨A, ⟨_, hB.2.2.1, D, hB.1, rfl, by cases q : D.vm <;> first | rfl | exact absurd q (hB.2.1.2 _)⟩, Has.of hB F1 g1, Has.of hB F2 g2, ⟨K1.1, State.isArrayOf_alike al K1.2.1, K1.2.2, by rcases hcod with ⟨-, q, -⟩ | ⟨-, q, -⟩ <;> omega⟩, hcod, fun j hj => by
    have e : cs.getD j 0 = cs[j] := by simp [List.getD_eq_getElem?_getD, hj]
    show ¬ cs.getD j 0 < 0 ∧ ¬ 65535 < cs.getD j 0
    rw [e]; exact hb _ (List.getElem_mem _)⟩
end StrChars.Road
namespace StrChars
open Jvm Sem ClassFile Op Lib Jvm.Stand Jvm.Free.XT Jvm.Free.ALB Jvm.Free.JM Jvm.Free
open Jvm.Lib.Cold (StaticIs)
namespace ChN
def yN : MethodName := ⟨"java/lang/String", "charAt", "(I)C"⟩
abbrev yB : ByteArray := jdk_42_method_56_code
theorem d0 : decode yB 0 = .ok (.aload_n 0, 1) := by decide +kernel
theorem d1 : decode yB 1 = .ok (.invokevirtual 492, 3) := by decide +kernel
theorem d4 : decode yB 4 = .ok (.ifCond (.eq) 12, 3) := by decide +kernel
theorem d7 : decode yB 7 = .ok (.aload_n 0, 1) := by decide +kernel
theorem d8 : decode yB 8 = .ok (.getfield 9, 3) := by decide +kernel
theorem d11 : decode yB 11 = .ok (.iload_n 1, 1) := by decide +kernel
theorem d12 : decode yB 12 = .ok (.invokestatic 495, 3) := by decide +kernel
theorem d15 : decode yB 15 = .ok (.ireturn, 1) := by decide +kernel
def site : List Cond := [.fieldLink "java/lang/String" 9 "java/lang/String" "value" "[B", IsL.tab, LChA.tab] ++ virtW "java/lang/String" 492 "java/lang/String" IsL.yN IsL.yN ++ staticW "java/lang/String" 495 LChA.yN
def tab : Cond := tabOf yN yB 2 (some .char) site
def P (x t : Addr) (V : Cell) (n : Nat) (f : Nat → Int32) (z : Int32) (fm : Value) (i : Nat) (args : Array Value) (s : State) : Prop := args = #[.ref x, .int (Int32.ofNat i)] ∧ Txt x t V 0 n f s ∧ i < n ∧ StaticIs s "java/lang/String" "COMPACT_STRINGS" "Z" (.int z) ∧ ¬ z = 0 ∧ StaticIs s "jdk/internal/util/Preconditions" "SIOOBE_FORMATTER" "Ljava/util/function/BiFunction;" fm ∧ fm.isRef = true
def E (f : Nat → Int32) (i : Nat) (r : Option Value) (s u : State) : Prop := XT.PureE (some (.int (f i))) r s u
/-- charAt(i) of a Latin-1 String of n chars, i < n: f i -/
theorem law (l : Launch) (x t : Addr) (V : Cell) (n : Nat) (f : Nat → Int32) (z : Int32) (fm : Value) (i : Nat) : Law l yN 2 1 3 40 yB 2 (some .char) site (P x t V n f z fm i) (E f i) [] 0 0 := by
  refine Law.of_walk (plainFor_of_name (by decide +kernel)) (by decide +kernel) (by decide +kernel) (by decide) (fun _ _ h => by rw [h.1]; rfl) (fun _ U U' hal hh h => ⟨h.1, h.2.1.mv hal hh, h.2.2.1, h.2.2.2.1.there hal hh, h.2.2.2.2.1, h.2.2.2.2.2.1.there hal hh, h.2.2.2.2.2.2⟩) (fun r U U' V V' h1 hal h2 h => XT.PureE.mv r U U' V V' h1 hal h2 h) ?_
  intro p e s m args below meth c s₁ X0 hexec hbytes hml hret hlk hnm hown hh0 W hP
  obtain ⟨rfl, hx, hi, s1, hz, s3, rf⟩ := hP
  have v31 := hx.2.2.2.1.2.2.2
  have hr := hx.2.2.2.2.2 i hi
  have hx0 := hx.mv X0.warmed.alike hh0
  have c1 : Steps p.tables e below (s₁.setTop (entryFrame m #[.ref x, .int (Int32.ofNat i)] 2)) (s₁.setTop (mkF m 1 #[.val (.ref x), .val (.int (Int32.ofNat i))] [.ref x])) := Steps.trans (entry rfl) (by
    show Steps p.tables e below (s₁.setTop (mkF m 0 #[.val (.ref x), .val (.int (Int32.ofNat i))] [])) _
    refine XS.aloadN X0.here hexec rfl (hb hbytes d0) rfl rfl ?_
    exact Steps.refl _)
  obtain ⟨v2, T2, X2, E2, g2⟩ := X0.callV hexec (IsL.law l x 0 z) hown (wks W (virtW "java/lang/String" 492 "java/lang/String" IsL.yN IsL.yN)) rfl (by decide) (wk W IsL.tab) (W := 0) (Nat.le_of_ble_eq_true rfl) (Nat.le_of_ble_eq_true rfl) (Nat.le_refl _) (Nat.le_refl _) (hx0.1.fc X0.warmed.alike) hx0.1.is (g := (mkF m 1 #[.val (.ref x), .val (.int (Int32.ofNat i))] [.ref x])) rfl (by rw [hml]; rfl) c1 (argsL := []) (rest := []) rfl rfl (by show 2 * 0 + 0 ≤ _; decide) (hb hbytes d1) (⟨rfl, hx0.2.2.1, hx.2.2.2.2.1.cd, s1.there X0.warmed.alike hh0, hz⟩)
  obtain ⟨rfl, q2⟩ := E2
  have hh2 := q2.trans hh0
  have hx2 := hx.mv X2.warmed.alike hh2
  obtain ⟨-, k1, k2⟩ | ⟨k0, -⟩ := hx.2.2.2.2.1
  · have c3 : Steps p.tables e below (s₁.setTop (entryFrame m #[.ref x, .int (Int32.ofNat i)] 2)) (T2.setTop (mkF m 8 #[.val (.ref x), .val (.int (Int32.ofNat i))] [.ref x])) := Steps.trans g2 (by
      refine XS.ifNo X2.here hexec rfl (hb hbytes d4) rfl (i0_eq_f (by decide)) ?_
      refine XS.aloadN X2.here hexec rfl (hb hbytes d7) rfl rfl ?_
      exact Steps.refl _)
    obtain ⟨T4, X4, q4, st4⟩ := X2.hget hexec hown (wk W (.fieldLink "java/lang/String" 9 "java/lang/String" "value" "[B")) hx2.2.1 (g := (mkF m 8 #[.val (.ref x), .val (.int (Int32.ofNat i))] [.ref x])) rfl (rest := []) rfl (hb hbytes d8)
    have hh4 := q4.trans hh2
    have c5 : Steps p.tables e below (s₁.setTop (entryFrame m #[.ref x, .int (Int32.ofNat i)] 2)) (T4.setTop (mkF m 12 #[.val (.ref x), .val (.int (Int32.ofNat i))] [.int (Int32.ofNat i), .ref t])) := (c3.trans (st4 _ (Steps.refl _))).trans (by
      refine XS.iloadN X4.here hexec rfl (hb hbytes d11) rfl ?_
      exact Steps.refl _)
    obtain ⟨v6, T6, X6, E6, g6⟩ := X4.callS hexec (LChA.law l t V i (lo8 (f i)) fm) hown (wks W (staticW "java/lang/String" 495 LChA.yN)) (wk W LChA.tab) (W := 0) (Nat.le_of_ble_eq_true rfl) (Nat.le_of_ble_eq_true rfl) (Nat.le_refl _) (Nat.le_refl _) (g := (mkF m 12 #[.val (.ref x), .val (.int (Int32.ofNat i))] [.int (Int32.ofNat i), .ref t])) rfl (by rw [hml]; rfl) c5 (argsL := [.ref t, .int (Int32.ofNat i)]) (rest := []) rfl rfl (by show 2 * 0 + 0 ≤ _; decide) (hb hbytes d12) (⟨rfl, hx.2.2.2.1.mv X4.warmed.alike hh4, (k2 i hi).1, s3.there X4.warmed.alike hh4, rf⟩)
    obtain ⟨rfl, q6⟩ := E6
    rw [chr8_lo8 hr.1 (k2 i hi).2] at g6
    exact ⟨T6, some (.int (f i)), _, _, _, X6, rfl, rfl, rfl, (fun h => by cases h), ⟨rfl, q6.trans hh4⟩, fun fs hl => Steps.trans g6 (X6.ireturnOut hexec hret (narrow_ch hr.1 hr.2) (Or.inr (Or.inr (Or.inr (Or.inl rfl)))) (hb hbytes d15) hl)⟩
  · exact absurd k0 (by decide)
theorem pays {l : Launch} {R : Room} {p : Program} {e : Env} {below : List Frame} {s : State} {sargs : Array Value} {len W : Nat} (x t : Addr) (V : Cell) (n : Nat) (f : Nat → Int32) (z : Int32) (fm : Value) (i : Nat) (htab : tab.before sargs s = true) (hfr : 4 ≤ R.frames) (hlo : W + 53 ≤ R.locals) :
    Back l R p e below s sargs yN len W (fun A₁ a₁ => A₁.cells + 0 ≤ R.cells ∧ A₁.slots + 0 ≤ R.slots ∧ P x t V n f z fm i a₁ A₁.U) (fun A₁ _ v₁ B₁ => E f i v₁ A₁.U B₁.U ∧ B₁.locs = A₁.locs ++ [] ∧ B₁.cells = A₁.cells + 0 ∧ B₁.slots = A₁.slots + 0) :=
  (law l x t V n f z fm i).pays htab hfr (by omega)
end ChN
end StrChars
namespace StrChars.Road
open Jvm Sem ClassFile Op Lib Jvm.Stand Jvm.Free Jvm.Free.XT
open Jvm.Lib.Cold (StaticIs)
/-- the words of String.charAt(int), the Latin-1 road alone -/
abbrev wordsChN : List Jvm.Cond := [.code ChN.yN ChN.yB 2 (some .char), .initialized ST, .fieldLink ST 9 ST "value" "[B", .fieldLink ST 38 ST "COMPACT_STRINGS" "Z", .fieldLink ST 15 ST "coder" "B", .code IsL.yN IsL.yB 1 (some .boolean), .methodLink ST 492 IsL.yN, .declares IsL.yN, .selects ST IsL.yN IsL.yN, .instanceMethod IsL.yN,
  .methodLink ST 495 LChA.yN, .static LChA.yN, .code LChA.yN LChA.yB 2 (some .char), .initialized "java/lang/StringLatin1", .methodLink "java/lang/StringLatin1" 9 JO.Str_checkIndex.yN, .static JO.Str_checkIndex.yN, .code JO.Str_checkIndex.yN JO.Str_checkIndex.yB 2 none,
  .fieldLink ST 1053 "jdk/internal/util/Preconditions" "SIOOBE_FORMATTER" "Ljava/util/function/BiFunction;", .methodLink ST 1059 JC.PreCheck.yN, .static JC.PreCheck.yN, .code JC.PreCheck.yN JC.PreCheck.yB 3 (some .int), .initialized "jdk/internal/util/Preconditions"]
theorem tabChN_of {a : Array Value} {s : State} (h : ∀ w ∈ wordsChN, w.before a s = true) : ChN.tab.before a s = true := by
  have hp : JC.PreCheck.tab.before a s = true := unparts (wk h (.code JC.PreCheck.yN JC.PreCheck.yB 3 (some .int))) (wks h (.initialized JC.PreCheck.yN.cls :: JC.PreCheck.site))
  have qk := consq hp h
  have hk : JO.Str_checkIndex.tab.before a s = true := unparts (wk qk (.code JO.Str_checkIndex.yN JO.Str_checkIndex.yB 2 none)) (wks qk (.initialized JO.Str_checkIndex.yN.cls :: JO.Str_checkIndex.site))
  have ql := consq hk h
  have hl : LChA.tab.before a s = true := unparts (wk ql (.code LChA.yN LChA.yB 2 (some .char))) (wks ql (.initialized LChA.yN.cls :: LChA.site))
  have hi : IsL.tab.before a s = true := unparts (wk h (.code IsL.yN IsL.yB 1 (some .boolean))) (wks h (.initialized IsL.yN.cls :: IsL.site))
  have q := consq hi (consq hl h)
  exact unparts (wk q (.code ChN.yN ChN.yB 2 (some .char))) (wks q (.initialized ChN.yN.cls :: ChN.site))
theorem movedChN {Z s : State} {a0 args : Array Value} (hZ : Z.Warmed39 s.vm) (hw : ∀ d ∈ wordsChN, d.before a0 Z = true) : ∀ d ∈ wordsChN, d.before args s = true := fun d hd => by
  have t : ∀ d ∈ wordsChN, (d.onTables && d.keepsFace) = true := by decide +kernel
  exact RoadKit.mv hZ (hw d hd) (t d hd)
/-- **charAt(i) OF A LATIN-1 STRING**, i < n: the char -/
theorem chN {p : Program} {l : Launch} {e : Env} {R : Room} {s : State} {args : Array Value} {below : List Frame} {len W : Nat} {Z : State} {a0 : Array Value} {h : Heap} (hZ : Z.Warmed39 s.vm) (hw : ∀ d ∈ wordsChN, d.before a0 Z = true) {kI : Nat} (wi : (Jvm.Cond.instantiable ST kI).before a0 Z = true)
    {x t : Addr} {kb : ClassId} {cs : List Int32} {N2 z : Int32} {vs : List Value} {fm : Value} {i : Nat} {j : Int32} (E : RoadKit.Exa Z h x ST) (V : RoadKit.Fld Z h x ST "value" "[B" (.ref t)) (C : RoadKit.Fld Z h x ST "coder" "B" (.int 0)) (K : RoadKit.Arv Z h t kb .byte N2 vs (.int 0)) (hc : CodA cs 0 N2 vs) (hb : ∀ c ∈ cs, ¬ c < 0 ∧ ¬ (65535 : Int32) < c)
    (S : RoadKit.Sta Z h ST "COMPACT_STRINGS" "Z" (.int z)) (hz : ¬ z = 0) (F : RoadKit.Sta Z h "jdk/internal/util/Preconditions" "SIOOBE_FORMATTER" "Ljava/util/function/BiFunction;" fm) (rf : fm.isRef = true) (l2 : cs.length ≤ 4000) (hi : i < cs.length) (hj : j = Int32.ofNat i) (hfr : 4 ≤ R.frames) (hlo : W + 53 ≤ R.locals) :
    Back l R p e below s args (⟨"java/lang/String", "charAt", "(I)C"⟩ : MethodName) len W (fun P a => a = #[.ref x, .int j] ∧ P.U.heap = h ∧ P.cells + 0 ≤ R.cells ∧ P.slots + 0 ≤ R.slots)
      (fun P _ v B => ∃ L, (v = some (.int (cs.getD i 0)) ∧ L = [] ∧ B.U.heap = h) ∧ B.locs = P.locs ++ L ∧ B.cells = P.cells + 0 ∧ B.slots = P.slots + 0) := by
  subst hj
  intro m meth c P g ig mk a X hg hsize hdg hW hn hp'
  obtain ⟨rfl, rfl, r1, r2⟩ := hp'
  have al : Z.vm.Alike P.U.vm := hZ.alike.trans X.warmed.alike
  obtain ⟨A, hx⟩ := txt_of wi al E V C K hc hb l2
  obtain ⟨v, B, X', ⟨⟨hv, hh⟩, hl, hk, hs⟩, st⟩ := ChN.pays x t A cs.length (fun j => cs.getD j 0) z fm i (tabChN_of (movedChN hZ hw)) hfr hlo m meth c P g ig mk _ X hg hsize hdg hW hn ⟨r1, r2, rfl, hx, hi, sta_is al S, hz, sta_is al F, rf⟩
  exact ⟨v, B, X', ⟨[], ⟨hv, rfl, hh⟩, hl, hk, hs⟩, st⟩
/-- what backV says of its String, as the contracts of this text ask it: cs's low bytes, coder 0 -/
theorem codOf {cs : List Int32} {n : Nat} (hn : cs.length = n) (hb : ∀ c ∈ cs, ¬ 255 < c) : CodA cs 0 (Int32.ofNat n) ((cs.map lo8).map Value.int) := Or.inl ⟨rfl, by rw [hn], by simp [List.map_map, Function.comp_def], hb⟩
end StrChars.Road
end Jvm.Pilot.@@N@@
namespace Jvm.Pilot.@@N@@
open Jvm Jvm.ClassFile Sem Op Lib Jvm.Free Jvm.Stand Jvm.LawKit Jvm.RoadKit Bundle Jvm.Pilot.@@N@@.Jvm.D Jvm.OwnKit
section OwnStr
variable {p : Program} {l : Launch} {e : Env} {R : Room} {s : State} {args : Array Value} {below : List Frame} {Z : State} {a0 : Array Value} {EL : List (String × Nat)} {vm : Vm} {h : Heap} {len W : Nat}
theorem own_up {cs : List Int32} (h : ∀ c ∈ cs, B8 c) : ∀ c ∈ cs, ¬ c < 0 ∧ ¬ (65535 : Int32) < c := fun c hc => ⟨(h c hc).1, fun q => (h c hc).2 (by rw [Int32.lt_iff_toInt_lt] at q ⊢; have e1 : (65535 : Int32).toInt = 65535 := rfl; have e2 : (255 : Int32).toInt = 255 := rfl; omega)⟩
theorem own_payNew {zc : Int32} (hws : ∀ d ∈ StrChars.Road.words, d.before a0 Z = true) (wi : (Jvm.Cond.instantiable "java/lang/String" 4).before a0 Z = true) (Scs : Sta Z Z.heap "java/lang/String" "COMPACT_STRINGS" "Z" (.int zc)) (hzc : ¬ zc = 0) (O : Ext Z.heap h)
    {x b : Addr} {kC : ClassId} {cs : List Int32} {d v0 c0 : Value} {N : Int32} {n : Nat} (gx0 : Z.heap.size ≤ x) (E : Exa Z h x "java/lang/String") (V : Fld Z h x "java/lang/String" "value" "[B" v0) (C : Fld Z h x "java/lang/String" "coder" "B" c0) (K : Arv Z h b kC .char N (cs.map Value.int) d)
    (hn : cs.length = n) (hN : N = Int32.ofNat n) (l0 : 0 < n) (l2 : n ≤ 4000) (hp : ∀ c ∈ cs, B8 c) (Sf : Safe Z EL vm h x) (hfr : 4 ≤ R.frames) (hlo : W + 65 ≤ R.locals) (hZ : Z.Warmed39 vm) (H : CHv Z EL vm h) (hEL : EW Z a0 EL) :
    Pay l R p e below s args Z EL vm h (⟨"java/lang/String", "<init>", "([C)V"⟩ : MethodName) len W #[.ref x, .ref b] 1 n (fun v _ h' => ∃ (t : Addr), v = none ∧ Keep h h' [x] ∧ h.size ≤ t ∧ Str Z h' x t cs) := by
  have hx : x < h.size := E.lt
  refine Pay.of_back (a0 := a0) (Q0 := StrChars.Road.QV Z x N (cs.map fun c => c.toInt8.toInt32) h Z.heap.size) (StrChars.Road.backV (s := s.setVm vm) hZ hws (kI := 4) wi (cs := cs) (bs := cs.map fun c => c.toInt8.toInt32) (n := n) gx0 O.1 E V C K (Scs.ext O) hzc hn hN l0 l2 hp rfl hfr hlo) hZ H hEL ?_
  rintro v h' L ⟨rfl, q1, q2, q3, q4, t, kb, q5, q6, q7, q8, q9⟩
  exact ⟨q1, ⟨[x], q2, allS Sf all0⟩, fun vm' _ => ⟨t, rfl, q2, q6, q3, q4, q8, ⟨kb, by rw [hn, ← hN]; exact q9⟩, hp, by rw [hn]; exact l2⟩⟩
theorem own_payLen {zc : Int32} (hws : ∀ d ∈ StrChars.Road.wordsLen, d.before a0 Z = true) (wi : (Jvm.Cond.instantiable "java/lang/String" 4).before a0 Z = true) (Scs : Sta Z Z.heap "java/lang/String" "COMPACT_STRINGS" "Z" (.int zc)) (hzc : ¬ zc = 0) (O : Ext Z.heap h)
    {x t : Addr} {cs : List Int32} {N : Int32} (F : Str Z h x t cs) (hN : Int32.ofNat cs.length = N) (hfr : 2 ≤ R.frames) (hlo : W + 25 ≤ R.locals) (hZ : Z.Warmed39 vm) (H : CHv Z EL vm h) (hEL : EW Z a0 EL) :
    Pay l R p e below s args Z EL vm h (⟨"java/lang/String", "length", "()I"⟩ : MethodName) len W #[.ref x] 0 0 (fun v _ h' => v = some (.int N) ∧ h = h') := by
  obtain ⟨f1, f2, f3, ⟨kb, f4⟩, f5, f6⟩ := F
  refine Pay.of_back (a0 := a0) (Q0 := fun v h' L => v = some (.int (Int32.ofNat cs.length)) ∧ L = [] ∧ h' = h) (StrChars.Road.lenW (s := s.setVm vm) hZ hws (kI := 4) wi (cs := cs) f1 f3 f2 f4 (StrChars.Road.codOf (n := cs.length) rfl (fun c hc => (f5 c hc).2)) (own_up f5) (Scs.ext O) hzc f6 hfr hlo) hZ H hEL ?_
  rintro v h' L ⟨rfl, rfl, rfl⟩
  exact ⟨Fr.nil _, ⟨[], Keep.refl _ _, all0⟩, fun _ _ => ⟨by rw [hN], rfl⟩⟩
theorem own_payChN {zc : Int32} {fm : Value} (hws : ∀ d ∈ StrChars.Road.wordsChN, d.before a0 Z = true) (wi : (Jvm.Cond.instantiable "java/lang/String" 4).before a0 Z = true) (Scs : Sta Z Z.heap "java/lang/String" "COMPACT_STRINGS" "Z" (.int zc)) (hzc : ¬ zc = 0) (Sfm : Sta Z Z.heap "jdk/internal/util/Preconditions" "SIOOBE_FORMATTER" "Ljava/util/function/BiFunction;" fm) (hfm : fm.isRef = true) (O : Ext Z.heap h)
    {x t : Addr} {cs : List Int32} {i : Nat} {j y : Int32} (F : Str Z h x t cs) (hi : i < cs.length) (hj : j = Int32.ofNat i) (hy : cs.getD i 0 = y) (hfr : 4 ≤ R.frames) (hlo : W + 53 ≤ R.locals) (hZ : Z.Warmed39 vm) (H : CHv Z EL vm h) (hEL : EW Z a0 EL) :
    Pay l R p e below s args Z EL vm h (⟨"java/lang/String", "charAt", "(I)C"⟩ : MethodName) len W #[.ref x, .int j] 0 0 (fun v _ h' => v = some (.int y) ∧ h = h') := by
  obtain ⟨f1, f2, f3, ⟨kb, f4⟩, f5, f6⟩ := F
  refine Pay.of_back (a0 := a0) (Q0 := fun v h' L => v = some (.int (cs.getD i 0)) ∧ L = [] ∧ h' = h) (StrChars.Road.chN (s := s.setVm vm) hZ hws (kI := 4) wi (cs := cs) f1 f3 f2 f4 (StrChars.Road.codOf (n := cs.length) rfl (fun c hc => (f5 c hc).2)) (own_up f5) (Scs.ext O) hzc (Sfm.ext O) hfm f6 hi hj hfr hlo) hZ H hEL ?_
  rintro v h' L ⟨rfl, rfl, rfl⟩
  exact ⟨Fr.nil _, ⟨[], Keep.refl _ _, all0⟩, fun _ _ => ⟨by rw [hy], rfl⟩⟩
end OwnStr
end Jvm.Pilot.@@N@@
namespace Jvm.Pilot.@@N@@
set_option maxRecDepth 65536
set_option maxHeartbeats 40000000
open Jvm Jvm.ClassFile Sem Op Lib Jvm.Free Jvm.Stand Jvm.LawKit Jvm.RoadKit Bundle Jvm.Pilot.@@N@@.Jvm.D Jvm.OwnKit
def own_vO : List Value := (List.range' 0 100).map fun r => .int (Int32.ofNat (48 + r % 10))
def own_vT : List Value := (List.range' 0 100).map fun r => .int (Int32.ofNat (48 + r / 10))
def Ctx (Z : State) (a0 : Array Value) : Prop := (∀ d ∈ tables_1, d.before a0 Z = true) ∧ EW Z a0 consts_1 ∧ (∃ zc : Int32, Sta Z Z.heap "java/lang/String" "COMPACT_STRINGS" "Z" (.int zc) ∧ ¬ zc = 0) ∧ (∃ fm : Value, Sta Z Z.heap "jdk/internal/util/Preconditions" "SIOOBE_FORMATTER" "Ljava/util/function/BiFunction;" fm ∧ fm.isRef = true) ∧ (∃ dg_go dg_gt : Addr, ∃ kg_go kg_gt : ClassId, Sta Z Z.heap "java/lang/Integer" "DigitOnes" "[B" (.ref dg_go) ∧ Arv Z Z.heap dg_go kg_go .byte (100 : Int32) own_vO (.int 0) ∧ Sta Z Z.heap "java/lang/Integer" "DigitTens" "[B" (.ref dg_gt) ∧ Arv Z Z.heap dg_gt kg_gt .byte (100 : Int32) own_vT (.int 0))
theorem own_SA {Z : State} {a0 : Array Value} (hw : ∀ d ∈ tables_1, d.before a0 Z = true) : ∀ a ∈ Bundle.stringAtoms, a.before a0 Z = true := fun d hd => hw d ((by decide +kernel : ∀ d ∈ Bundle.stringAtoms, d ∈ tables_1) d hd)
theorem own_wNew {Z : State} {a0 : Array Value} (hw : ∀ d ∈ tables_1, d.before a0 Z = true) : ∀ d ∈ StrChars.Road.words, d.before a0 Z = true := fun d hd => hw d ((by decide +kernel : ∀ d ∈ StrChars.Road.words, d ∈ tables_1) d hd)
theorem own_wLen {Z : State} {a0 : Array Value} (hw : ∀ d ∈ tables_1, d.before a0 Z = true) : ∀ d ∈ StrChars.Road.wordsLen, d.before a0 Z = true := fun d hd => hw d ((by decide +kernel : ∀ d ∈ StrChars.Road.wordsLen, d ∈ tables_1) d hd)
theorem own_wChN {Z : State} {a0 : Array Value} (hw : ∀ d ∈ tables_1, d.before a0 Z = true) : ∀ d ∈ StrChars.Road.wordsChN, d.before a0 Z = true := fun d hd => hw d ((by decide +kernel : ∀ d ∈ StrChars.Road.wordsChN, d ∈ tables_1) d hd)
abbrev c0_ : String := "Ljava/lang/String;"
abbrev c1_ : String := "com/example/tasks_to_members/taskstomembers/core/Task"
abbrev c2_ : String := "java/lang/AbstractStringBuilder"
abbrev c3_ : String := "java/lang/Integer"
abbrev c4_ : String := "java/lang/String"
abbrev c5_ : String := "java/lang/StringBuilder"
abbrev c6_ : String := "subtopologyId"
abbrev y0_ : ByteArray := jdk_29_method_61_code
abbrev y1_ : ByteArray := jdk_29_method_69_code
abbrev y2_ : ByteArray := jdk_31_method_11_code
abbrev y3_ : ByteArray := jdk_33_method_12_code
abbrev y4_ : ByteArray := jdk_33_method_13_code
abbrev y5_ : ByteArray := jdk_42_method_147_code
abbrev y6_ : ByteArray := jdk_42_method_149_code
abbrev y7_ : ByteArray := jdk_42_method_150_code
abbrev y8_ : ByteArray := jdk_42_method_152_code
abbrev y9_ : ByteArray := jdk_42_method_3_code
abbrev y10_ : ByteArray := jdk_42_method_53_code
abbrev y11_ : ByteArray := jdk_65_method_131_code
abbrev y12_ : ByteArray := jdk_65_method_132_code
abbrev y13_ : ByteArray := jdk_65_method_133_code
abbrev y14_ : ByteArray := jdk_67_method_15_code
abbrev y15_ : ByteArray := jdk_67_method_1_code
abbrev y16_ : ByteArray := jdk_67_method_42_code
abbrev y17_ : ByteArray := jdk_67_method_7_code
abbrev y18_ : ByteArray := jdk_67_method_93_code
abbrev y19_ : ByteArray := jdk_68_method_22_code
abbrev y20_ : ByteArray := jdk_68_method_2_code
abbrev y21_ : ByteArray := jdk_68_method_32_code
abbrev y22_ : ByteArray := jdk_68_method_64_code
abbrev y23_ : ByteArray := jdk_68_method_68_code
abbrev y24_ : ByteArray := jdk_68_method_6_code
abbrev y25_ : ByteArray := jdk_68_method_71_code
abbrev y26_ : ByteArray := jdk_68_method_73_code
abbrev y27_ : ByteArray := jdk_68_method_9_code
abbrev y28_ : ByteArray := method_2_code
abbrev y29_ : ByteArray := method_3_code
abbrev y30_ : ByteArray := method_4_code
abbrev y31_ : ByteArray := method_5_code
abbrev y32_ : ByteArray := prog_6_method_1_code
abbrev y33_ : ByteArray := prog_6_method_7_code
theorem bapp {cs ds : List Int32} (h1 : ∀ c ∈ cs, B8 c) (h2 : ∀ c ∈ ds, B8 c) : ∀ c ∈ cs ++ ds, B8 c := fun c hc => (List.mem_append.mp hc).elim (h1 c) (h2 c)
theorem d0 : decode y6_ 0 = .ok (.aload_n 0, 1) := by decide +kernel
theorem d1 : decode y6_ 1 = .ok (.invokespecial 1, 3) := by decide +kernel
theorem d2 : decode y6_ 4 = .ok (.iload_n 3, 1) := by decide +kernel
theorem d3 : decode y6_ 5 = .ok (.ifCond .ne 22, 3) := by decide +kernel
theorem d4 : decode y6_ 8 = .ok (.aload_n 0, 1) := by decide +kernel
theorem d5 : decode y6_ 9 = .ok (.ldc 7, 2) := by decide +kernel
theorem d6 : decode y6_ 11 = .ok (.getfield 9, 3) := by decide +kernel
theorem d7 : decode y6_ 14 = .ok (.putfield 9, 3) := by decide +kernel
theorem d8 : decode y6_ 17 = .ok (.aload_n 0, 1) := by decide +kernel
theorem d9 : decode y6_ 18 = .ok (.ldc 7, 2) := by decide +kernel
theorem d10 : decode y6_ 20 = .ok (.getfield 15, 3) := by decide +kernel
theorem d11 : decode y6_ 23 = .ok (.putfield 15, 3) := by decide +kernel
theorem d12 : decode y6_ 26 = .ok (.return_, 1) := by decide +kernel
abbrev mn13 : MethodName := ⟨"java/lang/String", "<init>", "([CIILjava/lang/Void;)V"⟩
theorem own_pn14 : plainName "java/lang/String" = true := by first | (simp [plainName, overriddenIn]; done) | decide +kernel
theorem own_emp4 (l : Launch) (Z : State) (a0 : Array Value) (cx : Ctx Z a0) (ws : List Jvm.Cond) (x : Addr) (b : Addr) (v0 : Value) (c0 : Value) (vm0 : Vm) (h0 : Heap) (X00 : Ext Z.heap h0) (P0 : Exa Z h0 x c4_) (P1 : Fld Z h0 x c4_ "value" "[B" v0) (P2 : Fld Z h0 x c4_ "coder" "B" c0) (P3 : Z.heap.size ≤ x) (P4 : Safe Z consts_1 vm0 h0 x) :
    Met l mn13 y6_ 6 none ws ({ frames := 1, cells := 4, slots := 8, locals := 12 } : Room) Z consts_1 vm0 h0 #[(.ref x), (.ref b), (.int (0 : Int32)), (.int (0 : Int32)), .null] (fun rv vm h => ∃ (t : Addr), rv = none ∧ Keep h0 h [x] ∧ Str Z h x t ([] : List Int32) ∧ Safe Z consts_1 vm h x) := by
  obtain ⟨hw, hEL, ⟨zc, Scs, hzc⟩, ⟨fm, Sfm, hfm⟩, hI0⟩ := id cx
  have hSA := own_SA hw
  refine Met.of_walk (a0 := a0) #[vr x, vr b, vi (0 : Int32), vi (0 : Int32), .val .null, un] (plainFor_of_name own_pn14) X00 hEL (fun m => by first | (simp [entryFrame, mkF, argsToLocals, Value.category]; done) | rfl) ?_
  intro p e s m below meth c vm hx hby hml hret hnm hC0 hW0
  have lt_x : h0.size > x := P0.lt
  have L4 := hC0.safe lt_x P4
  refine uAN 1 hx hby d0 rfl rfl rfl ?_
  refine ginitO hx (ow hw 11 rfl) (ow hw 12 rfl) (ow hw 13 rfl) 4 (W := 0) (Nat.le_of_eq rfl) (by rw [hml]; rfl) (hb hby d1) rfl (by decide) (by decide) ?_
  refine uIN 5 hx hby d2 rfl rfl ?_
  refine uN 8 hx hby d3 rfl ((if0 _ _).trans (teq (by decide)).2) ?_
  refine uAN 9 hx hby d4 rfl rfl rfl ?_
  refine gldcR hx (ow hw 14 rfl) hSA (by decide) (n := 0) (by decide) (by decide) (vs := []) (z := (0 : Int32)) (by decide +kernel) (by decide) (by decide) 11 (hb hby d5) rfl (by decide) (by decide) ?_
  intro b2 t2 k2 vm2 h2 E2 C2 Q2a Q2b Q2c Q2d Q2e
  have z2 := C2.2.1
  have S2 : Str Z h2 b2 t2 ([] : List Int32) := Str.lit Q2a Q2b Q2c Q2d (by decide) rfl rfl (by decide)
  have lt_b2 : h2.size > b2 := S2.1.lt
  have lt_t2 : h2.size > t2 := S2.tlt
  have f3 := (C2.safe (show h0.size > x by omega) L4)
  have ne2_x := Q2e x f3
  refine ggetF (host := "") hx (Or.inl (ow hw 20 rfl)) Via.refl S2.2.2.1 14 (hb hby d6) rfl ?_
  have f4 := (P1.ext E2)
  have f5 := (P0.ext E2)
  refine gputF (host := "") hx (Or.inl (ow hw 20 rfl)) Via.refl f4 f5 (Or.inr ⟨(ow hw 16 rfl), rfl, hnm⟩) (ow hw 1 rfl) (ty := (.array .byte)) (by decide) rfl rfl P3 (fun _ => f3) 17 (hb hby d7) rfl ?_
  intro h6 W6 C6
  have z6 := C6.2.1
  have F6 := f4.same W6
  refine uAN 18 hx hby d8 rfl rfl rfl ?_
  refine gldcR hx (ow hw 14 rfl) hSA (by decide) (n := 0) (by decide) (by decide) (vs := []) (z := (0 : Int32)) (by decide +kernel) (by decide) (by decide) 20 (hb hby d9) rfl (by decide) (by decide) ?_
  intro b7 t7 k7 vm7 h7 E7 C7 Q7a Q7b Q7c Q7d Q7e
  have z7 := C7.2.1
  have S7 : Str Z h7 b7 t7 ([] : List Int32) := Str.lit Q7a Q7b Q7c Q7d (by decide) rfl rfl (by decide)
  have lt_b7 : h7.size > b7 := S7.1.lt
  have lt_t7 : h7.size > t7 := S7.tlt
  have f8 := (C7.safe (show h6.size > x by omega) (C6.safe (show h2.size > x by omega) f3))
  have ne7_x := Q7e x f8
  refine ggetF (host := "") hx (Or.inl (ow hw 21 rfl)) Via.refl S7.2.1 23 (hb hby d10) rfl ?_
  have f9 := (((P2.ext E2).other W6 (Or.inr (slot_ne (Or.inr (ow hw 17 rfl)) (Or.inr (ow hw 16 rfl)) (by decide) (t := .byte) (t' := (.array .byte)) (by decide) (by decide)))).ext E7)
  have f10 := ((f5.wr W6).ext E7)
  refine gputF (host := "") hx (Or.inl (ow hw 21 rfl)) Via.refl f9 f10 (Or.inr ⟨(ow hw 17 rfl), rfl, hnm⟩) (ow hw 1 rfl) (ty := .byte) (by decide) rfl rfl P3 (fun _ => f8) 26 (hb hby d11) rfl ?_
  intro h11 W11 C11
  have z11 := C11.2.1
  have F11 := f9.same W11
  have f13 := (((S2.other W6 (Ne.symm ne2_x.1) (Ne.symm ne2_x.2)).ext E7).other W11 (Ne.symm ne2_x.1) (Ne.symm ne2_x.2))
  have f15 := (f10.wr W11)
  have f16 := ((F6.ext E7).other W11 (Or.inr (slot_ne (Or.inr (ow hw 16 rfl)) (Or.inr (ow hw 17 rfl)) (by decide) (t := (.array .byte)) (t' := .byte) (by decide) (by decide))))
  have S14 : Str Z h11 x t2 ([] : List Int32) := ⟨f15, F11, f16, f13.2.2.2⟩
  have f17 := (C11.safe (show h7.size > x by omega) f8)
  exact gretV hx hret (hb hby d12) (by decide) (by decide) (fun vq Cq => ⟨t2, rfl, (((((Keep.refl h0 [x]).ext E2).wr W6 (Or.inl (List.mem_of_getElem? (i := 0) rfl))).ext E7).wr W11 (Or.inl (List.mem_of_getElem? (i := 0) rfl))), S14, (Cq.safe (show h11.size > x by omega) f17)⟩)
theorem d15 : decode y9_ 0 = .ok (.aload_n 0, 1) := by decide +kernel
theorem d16 : decode y9_ 1 = .ok (.aload_n 1, 1) := by decide +kernel
theorem d17 : decode y9_ 2 = .ok (.iconst 0, 1) := by decide +kernel
theorem d18 : decode y9_ 3 = .ok (.aload_n 1, 1) := by decide +kernel
theorem d19 : decode y9_ 4 = .ok (.arraylength, 1) := by decide +kernel
theorem d20 : decode y9_ 5 = .ok (.aconst_null, 1) := by decide +kernel
theorem d21 : decode y9_ 6 = .ok (.invokespecial 27, 3) := by decide +kernel
theorem own_pd22 : parseMethodDescriptor "([CIILjava/lang/Void;)V" = some ⟨[(.array .char), .int, .int, (.object "java/lang/Void")], none⟩ := by decide +kernel
theorem d23 : decode y9_ 9 = .ok (.return_, 1) := by decide +kernel
abbrev mn24 : MethodName := ⟨"java/lang/String", "<init>", "([C)V"⟩
theorem own_emp1 (l : Launch) (Z : State) (a0 : Array Value) (cx : Ctx Z a0) (ws : List Jvm.Cond) (x : Addr) (b : Addr) (v0 : Value) (c0 : Value) (kc : ClassId) (vm0 : Vm) (h0 : Heap) (X00 : Ext Z.heap h0) (P0 : Exa Z h0 x c4_) (P1 : Fld Z h0 x c4_ "value" "[B" v0) (P2 : Fld Z h0 x c4_ "coder" "B" c0) (P3 : Z.heap.size ≤ x) (P4 : Safe Z consts_1 vm0 h0 x) (P5 : Arv Z h0 b kc .char (0 : Int32) [] (.int (0 : Int32))) :
    Met l mn24 y9_ 2 none ws ({ frames := 2, cells := 4, slots := 8, locals := 29 } : Room) Z consts_1 vm0 h0 #[(.ref x), (.ref b)] (fun rv vm h => ∃ (t : Addr), rv = none ∧ Keep h0 h [x] ∧ Str Z h x t ([] : List Int32) ∧ Safe Z consts_1 vm h x) := by
  obtain ⟨hw, hEL, ⟨zc, Scs, hzc⟩, ⟨fm, Sfm, hfm⟩, hI0⟩ := id cx
  have hSA := own_SA hw
  refine Met.of_walk (a0 := a0) #[vr x, vr b] (plainFor_of_name own_pn14) X00 hEL (fun m => by first | (simp [entryFrame, mkF, argsToLocals, Value.category]; done) | rfl) ?_
  intro p e s m below meth c vm hx hby hml hret hnm hC0 hW0
  have lt_x : h0.size > x := P0.lt
  have L4 := hC0.safe lt_x P4
  have lt_b : h0.size > b := P5.lt
  refine uAN 1 hx hby d15 rfl rfl rfl ?_
  refine uAN 2 hx hby d16 rfl rfl rfl ?_
  refine uKc 3 (0 : Int32) hx hby d17 rfl rfl ?_
  refine uAN 4 hx hby d18 rfl rfl rfl ?_
  refine glen hx P5 5 (hb hby d19) rfl ?_
  refine uU 6 hx hby d20 rfl ?_
  refine ginfo fun _ _ O1 => ?_
  refine gcallI (y := mn13) hx rfl (ow hw 7 rfl) (ow hw 8 rfl) (ow hw 10 rfl) (by decide) (fun hZ H hEL => Pay.of_met (W := 0) (own_emp4 l Z a0 cx [] (x) (b) (v0) (c0) vm h0 O1 P0 P1 P2 P3 L4) (ow hw 10 rfl) (ow hw 2 rfl) (by decide) (by decide) hZ H hEL) (a := x) 9 (argsL := [(.ref b), (.int (0 : Int32)), (.int (0 : Int32)), .null]) (rest := []) (lenOf own_pd22 rfl) rfl rfl (Nat.le_of_eq rfl) (by rw [hml]; rfl) (hb hby d21) rfl (by decide) (by decide) ?_
  rintro _ vm1 h1 C1 ⟨t1, rfl, K1, q1_0, q1_1⟩
  have z1 := C1.2.1
  have lt_t1 : h1.size > t1 := q1_0.tlt
  refine gat0 ?_
  exact gretV hx hret (hb hby d23) (by decide) (by decide) (fun vq Cq => ⟨t1, rfl, ((Keep.refl h0 [x]).trans K1 (allS (Or.inl (List.mem_of_getElem? (i := 0) rfl)) all0)), q1_0, (Cq.safe (show h1.size > x by omega) q1_1)⟩)
theorem d25 : decode y2_ 0 = .ok (.aload_n 0, 1) := by decide +kernel
theorem d26 : decode y2_ 1 = .ok (.ifnonnull 12, 3) := by decide +kernel
theorem d27 : decode y2_ 13 = .ok (.aload_n 0, 1) := by decide +kernel
theorem d28 : decode y2_ 14 = .ok (.areturn, 1) := by decide +kernel
abbrev mn29 : MethodName := ⟨"java/util/Objects", "requireNonNull", "(Ljava/lang/Object;Ljava/lang/String;)Ljava/lang/Object;"⟩
theorem own_pn30 : plainName "java/util/Objects" = true := by first | (simp [plainName, overriddenIn]; done) | decide +kernel
theorem own_require2 (l : Launch) (Z : State) (a0 : Array Value) (cx : Ctx Z a0) (ws : List Jvm.Cond) (x : Addr) (b : Addr) (vm0 : Vm) (h0 : Heap) (X00 : Ext Z.heap h0)  :
    Met l mn29 y2_ 2 (some (.object "java/lang/Object")) ws ({ frames := 0, cells := 0, slots := 0, locals := 0 } : Room) Z consts_1 vm0 h0 #[(.ref x), (.ref b)] (fun rv vm h => rv = some (.ref x) ∧ h0 = h) := by
  obtain ⟨hw, hEL, ⟨zc, Scs, hzc⟩, ⟨fm, Sfm, hfm⟩, hI0⟩ := id cx
  have hSA := own_SA hw
  refine Met.of_walk (a0 := a0) #[vr x, vr b] (plainFor_of_name own_pn30) X00 hEL (fun m => by first | (simp [entryFrame, mkF, argsToLocals, Value.category]; done) | rfl) ?_
  intro p e s m below meth c vm hx hby hml hret hnm hC0 hW0
  refine uAN 1 hx hby d25 rfl rfl rfl ?_
  refine uY1 13 hx hby d26 (by decide) (by decide) ?_
  refine uAN 14 hx hby d27 rfl rfl rfl ?_
  exact gretA hx hret rfl rfl (hb hby d28) (by decide) (by decide) (fun vq Cq => ⟨rfl, rfl⟩)
theorem d31 : decode y20_ 0 = .ok (.aload_n 0, 1) := by decide +kernel
theorem d32 : decode y20_ 1 = .ok (.invokespecial 3, 3) := by decide +kernel
theorem d33 : decode y20_ 4 = .ok (.getstatic 18, 3) := by decide +kernel
theorem d34 : decode y20_ 7 = .ok (.ifCond .eq 18, 3) := by decide +kernel
theorem d35 : decode y20_ 10 = .ok (.aload_n 0, 1) := by decide +kernel
theorem d36 : decode y20_ 11 = .ok (.iload_n 1, 1) := by decide +kernel
theorem d37 : decode y20_ 12 = .ok (.newarray .byte, 2) := by decide +kernel
theorem d38 : decode y20_ 14 = .ok (.putfield 15, 3) := by decide +kernel
theorem d39 : decode y20_ 17 = .ok (.aload_n 0, 1) := by decide +kernel
theorem d40 : decode y20_ 18 = .ok (.iconst 0, 1) := by decide +kernel
theorem d41 : decode y20_ 19 = .ok (.putfield 22, 3) := by decide +kernel
theorem d42 : decode y20_ 22 = .ok (.goto 16, 3) := by decide +kernel
theorem d43 : decode y20_ 38 = .ok (.return_, 1) := by decide +kernel
abbrev mn44 : MethodName := ⟨"java/lang/AbstractStringBuilder", "<init>", "(I)V"⟩
theorem own_pn45 : plainName "java/lang/AbstractStringBuilder" = true := by first | (simp [plainName, overriddenIn]; done) | decide +kernel
theorem own_asbinit (l : Launch) (Z : State) (a0 : Array Value) (cx : Ctx Z a0) (ws : List Jvm.Cond) (x : Addr) (v0 : Value) (c0 : Value) (vm0 : Vm) (h0 : Heap) (X00 : Ext Z.heap h0) (P0 : Exa Z h0 x c5_) (P1 : Fld Z h0 x c2_ "value" "[B" v0) (P2 : Fld Z h0 x c2_ "coder" "B" c0) (P3 : Fld Z h0 x c2_ "count" "I" (.int (0 : Int32))) (P4 : Z.heap.size ≤ x) :
    Met l mn44 y20_ 2 none ws ({ frames := 1, cells := 1, slots := 16, locals := 12 } : Room) Z consts_1 vm0 h0 #[(.ref x), (.int (16 : Int32))] (fun rv vm h => ∃ (v : Addr), ∃ (kb : ClassId), rv = none ∧ Keep h0 h [x] ∧ Fld Z h x c2_ "value" "[B" (.ref v) ∧ Fld Z h x c2_ "coder" "B" (.int (0 : Int32)) ∧ Fld Z h x c2_ "count" "I" (.int (0 : Int32)) ∧ h0.size ≤ v ∧ Z.heap.size ≤ v ∧ Safe Z consts_1 vm h v ∧ Arv Z h v kb .byte (16 : Int32) [(.int (0 : Int32)), (.int (0 : Int32)), (.int (0 : Int32)), (.int (0 : Int32)), (.int (0 : Int32)), (.int (0 : Int32)), (.int (0 : Int32)), (.int (0 : Int32)), (.int (0 : Int32)), (.int (0 : Int32)), (.int (0 : Int32)), (.int (0 : Int32)), (.int (0 : Int32)), (.int (0 : Int32)), (.int (0 : Int32)), (.int (0 : Int32))] (.int (0 : Int32)) ∧ Exa Z h v "[B") := by
  obtain ⟨hw, hEL, ⟨zc, Scs, hzc⟩, ⟨fm, Sfm, hfm⟩, hI0⟩ := id cx
  have hSA := own_SA hw
  refine Met.of_walk (a0 := a0) #[vr x, vi (16 : Int32)] (plainFor_of_name own_pn45) X00 hEL (fun m => by first | (simp [entryFrame, mkF, argsToLocals, Value.category]; done) | rfl) ?_
  intro p e s m below meth c vm hx hby hml hret hnm hC0 hW0
  have lt_x : h0.size > x := P0.lt
  refine uAN 1 hx hby d31 rfl rfl rfl ?_
  refine ginitO hx (ow hw 56 rfl) (ow hw 12 rfl) (ow hw 13 rfl) 4 (W := 0) (Nat.le_of_eq rfl) (by rw [hml]; rfl) (hb hby d32) rfl (by decide) (by decide) ?_
  refine ggetS (host := "") hx (Or.inl (ow hw 57 rfl)) Via.refl Scs 7 (hb hby d33) rfl ?_
  refine uN 10 hx hby d34 rfl ((if0 _ _).trans (feq hzc).1) ?_
  refine uAN 11 hx hby d35 rfl rfl rfl ?_
  refine uIN 12 hx hby d36 rfl rfl ?_
  refine gnewPE hx (ow hw 15 rfl) (n := (16 : Int32)) (by decide) (cap := 16) (by decide) (by decide) (ad := "[B") (by decide) 14 (hb hby d37) rfl (by decide) (by decide) ?_
  intro b2 h2 k2 g2 E2 C2 V2 A2 n2 L2
  have z2 := C2.2.1
  have V2 : Arv Z h2 b2 k2 .byte (16 : Int32) [(.int (0 : Int32)), (.int (0 : Int32)), (.int (0 : Int32)), (.int (0 : Int32)), (.int (0 : Int32)), (.int (0 : Int32)), (.int (0 : Int32)), (.int (0 : Int32)), (.int (0 : Int32)), (.int (0 : Int32)), (.int (0 : Int32)), (.int (0 : Int32)), (.int (0 : Int32)), (.int (0 : Int32)), (.int (0 : Int32)), (.int (0 : Int32))] (.int (0 : Int32)) := V2.pad (pad_rep [] (.int (0 : Int32)) 16)
  have lt_b2 : h2.size > b2 := V2.lt
  have f3 := (P1.ext E2)
  have f4 := (P0.ext E2)
  refine gputF (host := "") hx (Or.inl (ow hw 58 rfl)) Via.refl f3 f4 (Or.inl (ow hw 59 rfl)) (ow hw 45 rfl) (ty := (.array .byte)) (by decide) rfl rfl P4 (fun al => Safe.exa al f4 (by decide) (by decide)) 17 (hb hby d38) rfl ?_
  intro h5 W5 C5
  have z5 := C5.2.1
  have F5 := f3.same W5
  refine uAN 18 hx hby d39 rfl rfl rfl ?_
  refine uKc 19 (0 : Int32) hx hby d40 rfl rfl ?_
  have f6 := ((P2.ext E2).other W5 (Or.inr (slot_ne (Or.inl (ow hw 61 rfl)) (Or.inl (ow hw 59 rfl)) (by decide) (t := .byte) (t' := (.array .byte)) (by decide) (by decide))))
  have f7 := (f4.wr W5)
  refine gputF (host := "") hx (Or.inl (ow hw 60 rfl)) Via.refl f6 f7 (Or.inl (ow hw 61 rfl)) (ow hw 45 rfl) (ty := .byte) (by decide) rfl rfl P4 (fun al => Safe.exa al f7 (by decide) (by decide)) 22 (hb hby d41) rfl ?_
  intro h8 W8 C8
  have z8 := C8.2.1
  have F8 := f6.same W8
  refine uG 38 hx hby d42 (by decide) (by decide) ?_
  have f10 := (F5.other W8 (Or.inr (slot_ne (Or.inl (ow hw 59 rfl)) (Or.inl (ow hw 61 rfl)) (by decide) (t := (.array .byte)) (t' := .byte) (by decide) (by decide))))
  have f11 := (((P3.ext E2).other W5 (Or.inr (slot_ne (Or.inl (ow hw 84 rfl)) (Or.inl (ow hw 59 rfl)) (by decide) (t := .int) (t' := (.array .byte)) (by decide) (by decide)))).other W8 (Or.inr (slot_ne (Or.inl (ow hw 84 rfl)) (Or.inl (ow hw 61 rfl)) (by decide) (t := .int) (t' := .byte) (by decide) (by decide))))
  have f12 := (C8.safe (show h5.size > b2 by omega) (C5.safe (show h2.size > b2 by omega) L2))
  have f13 := ((V2.other W5 (Nat.ne_of_gt (by omega))).other W8 (Nat.ne_of_gt (by omega)))
  have f14 := ((A2.wr W5).wr W8)
  exact gretV hx hret (hb hby d43) (by decide) (by decide) (fun vq Cq => ⟨b2, k2, rfl, ((((Keep.refl h0 [x]).ext E2).wr W5 (Or.inl (List.mem_of_getElem? (i := 0) rfl))).wr W8 (Or.inl (List.mem_of_getElem? (i := 0) rfl))), f10, F8, f11, (by omega), n2, (Cq.safe (show h8.size > b2 by omega) f12), f13, f14⟩)
theorem d46 : decode y15_ 0 = .ok (.aload_n 0, 1) := by decide +kernel
theorem d47 : decode y15_ 1 = .ok (.bipush 16, 2) := by decide +kernel
theorem d48 : decode y15_ 3 = .ok (.invokespecial 1, 3) := by decide +kernel
theorem own_pd49 : parseMethodDescriptor "(I)V" = some ⟨[.int], none⟩ := by decide +kernel
theorem d50 : decode y15_ 6 = .ok (.return_, 1) := by decide +kernel
abbrev mn51 : MethodName := ⟨"java/lang/StringBuilder", "<init>", "()V"⟩
theorem own_pn52 : plainName "java/lang/StringBuilder" = true := by first | (simp [plainName, overriddenIn]; done) | decide +kernel
theorem own_sbinit (l : Launch) (Z : State) (a0 : Array Value) (cx : Ctx Z a0) (ws : List Jvm.Cond) (x : Addr) (v0 : Value) (c0 : Value) (vm0 : Vm) (h0 : Heap) (X00 : Ext Z.heap h0) (P0 : Exa Z h0 x c5_) (P1 : Fld Z h0 x c2_ "value" "[B" v0) (P2 : Fld Z h0 x c2_ "coder" "B" c0) (P3 : Fld Z h0 x c2_ "count" "I" (.int (0 : Int32))) (P4 : Z.heap.size ≤ x) :
    Met l mn51 y15_ 1 none ws ({ frames := 2, cells := 1, slots := 16, locals := 25 } : Room) Z consts_1 vm0 h0 #[(.ref x)] (fun rv vm h => ∃ (v : Addr), rv = none ∧ Keep h0 h [x] ∧ SBd Z h x v 16 ([] : List Int32) ∧ h0.size ≤ v ∧ Z.heap.size ≤ v ∧ Safe Z consts_1 vm h v ∧ Exa Z h v "[B") := by
  obtain ⟨hw, hEL, ⟨zc, Scs, hzc⟩, ⟨fm, Sfm, hfm⟩, hI0⟩ := id cx
  have hSA := own_SA hw
  refine Met.of_walk (a0 := a0) #[vr x] (plainFor_of_name own_pn52) X00 hEL (fun m => by first | (simp [entryFrame, mkF, argsToLocals, Value.category]; done) | rfl) ?_
  intro p e s m below meth c vm hx hby hml hret hnm hC0 hW0
  have lt_x : h0.size > x := P0.lt
  refine uAN 1 hx hby d46 rfl rfl rfl ?_
  refine uKb 3 (16 : Int32) hx hby d47 rfl rfl ?_
  refine ginfo fun _ _ O1 => ?_
  refine gcallI (y := mn44) hx rfl (ow hw 50 rfl) (ow hw 51 rfl) (ow hw 55 rfl) (by decide) (fun hZ H hEL => Pay.of_met (W := 0) (own_asbinit l Z a0 cx [] (x) (v0) (c0) vm h0 O1 P0 P1 P2 P3 P4) (ow hw 55 rfl) (ow hw 54 rfl) (by decide) (by decide) hZ H hEL) (a := x) 6 (argsL := [(.int (16 : Int32))]) (rest := []) (lenOf own_pd49 rfl) rfl rfl (Nat.le_of_eq rfl) (by rw [hml]; rfl) (hb hby d48) rfl (by decide) (by decide) ?_
  rintro _ vm1 h1 C1 ⟨v1, kb1, rfl, K1, q1_0, q1_1, q1_2, q1_3, q1_4, q1_5, q1_6, q1_7⟩
  have z1 := C1.2.1
  have lt_v1 : h1.size > v1 := q1_6.lt
  refine gat0 ?_
  have f2 := (P0.keep K1)
  exact gretV hx hret (hb hby d50) (by decide) (by decide) (fun vq Cq => ⟨v1, rfl, ((Keep.refl h0 [x]).trans K1 (allS (Or.inl (List.mem_of_getElem? (i := 0) rfl)) all0)), ⟨f2, q1_0, q1_1, q1_2, ⟨_, _, q1_6, rfl⟩, bnil, by decide⟩, (by omega), q1_4, (Cq.safe (show h1.size > v1 by omega) q1_5), q1_7⟩)
theorem d53 : decode y8_ 0 = .ok (.getstatic 38, 3) := by decide +kernel
theorem d54 : decode y8_ 3 = .ok (.ifCond .eq 10, 3) := by decide +kernel
theorem d55 : decode y8_ 6 = .ok (.aload_n 0, 1) := by decide +kernel
theorem d56 : decode y8_ 7 = .ok (.getfield 15, 3) := by decide +kernel
theorem d57 : decode y8_ 10 = .ok (.goto 4, 3) := by decide +kernel
theorem d58 : decode y8_ 14 = .ok (.ireturn, 1) := by decide +kernel
abbrev mn59 : MethodName := ⟨"java/lang/String", "coder", "()B"⟩
theorem own_scoder (l : Launch) (Z : State) (a0 : Array Value) (cx : Ctx Z a0) (ws : List Jvm.Cond) (x : Addr) (t : Addr) (cs : List Int32) (vm0 : Vm) (h0 : Heap) (X00 : Ext Z.heap h0) (P0 : Str Z h0 x t cs) :
    Met l mn59 y8_ 1 (some .byte) ws ({ frames := 0, cells := 0, slots := 0, locals := 0 } : Room) Z consts_1 vm0 h0 #[(.ref x)] (fun rv vm h => rv = some (.int (0 : Int32)) ∧ h0 = h) := by
  obtain ⟨hw, hEL, ⟨zc, Scs, hzc⟩, ⟨fm, Sfm, hfm⟩, hI0⟩ := id cx
  have hSA := own_SA hw
  refine Met.of_walk (a0 := a0) #[vr x] (plainFor_of_name own_pn14) X00 hEL (fun m => by first | (simp [entryFrame, mkF, argsToLocals, Value.category]; done) | rfl) ?_
  intro p e s m below meth c vm hx hby hml hret hnm hC0 hW0
  have lt_x : h0.size > x := P0.1.lt
  have lt_t : h0.size > t := P0.tlt
  refine ggetS (host := "") hx (Or.inl (ow hw 82 rfl)) Via.refl Scs 3 (hb hby d53) rfl ?_
  refine uN 6 hx hby d54 rfl ((if0 _ _).trans (feq hzc).1) ?_
  refine uAN 7 hx hby d55 rfl rfl rfl ?_
  refine ggetF (host := "") hx (Or.inl (ow hw 21 rfl)) Via.refl P0.2.1 10 (hb hby d56) rfl ?_
  refine uG 14 hx hby d57 (by decide) (by decide) ?_
  exact gretN (t := .byte) hx hret (by simp) (hb hby d58) (by decide) (by decide) (fun vq Cq => ⟨rfl, rfl⟩)
theorem d60 : decode y25_ 0 = .ok (.getstatic 18, 3) := by decide +kernel
theorem d61 : decode y25_ 3 = .ok (.ifCond .eq 18, 3) := by decide +kernel
theorem d62 : decode y25_ 6 = .ok (.aload_n 0, 1) := by decide +kernel
theorem d63 : decode y25_ 7 = .ok (.getfield 22, 3) := by decide +kernel
theorem d64 : decode y25_ 10 = .ok (.aload_n 1, 1) := by decide +kernel
theorem d65 : decode y25_ 11 = .ok (.invokevirtual 40, 3) := by decide +kernel
theorem own_pd66 : parseMethodDescriptor "()B" = some ⟨[], some .byte⟩ := by decide +kernel
theorem d67 : decode y25_ 14 = .ok (.if_icmp .eq 7, 3) := by decide +kernel
theorem d68 : decode y25_ 21 = .ok (.return_, 1) := by decide +kernel
abbrev mn69 : MethodName := ⟨"java/lang/AbstractStringBuilder", "inflateIfNeededFor", "(Ljava/lang/String;)V"⟩
theorem own_inflate (l : Launch) (Z : State) (a0 : Array Value) (cx : Ctx Z a0) (ws : List Jvm.Cond) (x : Addr) (y : Addr) (t : Addr) (cs : List Int32) (vm0 : Vm) (h0 : Heap) (X00 : Ext Z.heap h0) (P0 : Fld Z h0 x c2_ "coder" "B" (.int (0 : Int32))) (P1 : Str Z h0 y t cs) :
    Met l mn69 y25_ 2 none ws ({ frames := 1, cells := 0, slots := 0, locals := 13 } : Room) Z consts_1 vm0 h0 #[(.ref x), (.ref y)] (fun rv vm h => rv = none ∧ h0 = h) := by
  obtain ⟨hw, hEL, ⟨zc, Scs, hzc⟩, ⟨fm, Sfm, hfm⟩, hI0⟩ := id cx
  have hSA := own_SA hw
  refine Met.of_walk (a0 := a0) #[vr x, vr y] (plainFor_of_name own_pn45) X00 hEL (fun m => by first | (simp [entryFrame, mkF, argsToLocals, Value.category]; done) | rfl) ?_
  intro p e s m below meth c vm hx hby hml hret hnm hC0 hW0
  have lt_x : h0.size > x := P0.lt
  have lt_y : h0.size > y := P1.1.lt
  have lt_t : h0.size > t := P1.tlt
  refine ggetS (host := "") hx (Or.inl (ow hw 57 rfl)) Via.refl Scs 3 (hb hby d60) rfl ?_
  refine uN 6 hx hby d61 rfl ((if0 _ _).trans (feq hzc).1) ?_
  refine uAN 7 hx hby d62 rfl rfl rfl ?_
  refine ggetF (host := "") hx (Or.inl (ow hw 60 rfl)) Via.refl P0 10 (hb hby d63) rfl ?_
  refine uAN 11 hx hby d64 rfl rfl rfl ?_
  refine ginfo fun _ _ O1 => ?_
  refine gcallV (y := mn59) (z := mn59) hx (ow hw 100 rfl) (ow hw 78 rfl) (nfSel (ow hw 80 rfl)) (ow hw 80 rfl) (ow hw 79 rfl) (by decide) (fun hZ H hEL => Pay.of_met (W := 1) (own_scoder l Z a0 cx [] (y) (t) (cs) vm h0 O1 P1) (ow hw 81 rfl) (ow hw 2 rfl) (by decide) (by decide) hZ H hEL) 14 (argsL := []) (rest := [(.int (0 : Int32))]) P1.1 (lenOf own_pd66 rfl) rfl rfl (Nat.le_of_eq rfl) (by rw [hml]; rfl) (hb hby d65) rfl (by decide) (by decide) ?_
  rintro _ vm1 h1 C1 ⟨rfl, rfl⟩
  have z1 := C1.2.1
  refine gat1 ?_
  refine uYc 21 hx hby d67 (teq (by decide)).1 (by decide) (by decide) ?_
  exact gretV hx hret (hb hby d68) (by decide) (by decide) (fun vq Cq => ⟨rfl, rfl⟩)
theorem d70 : decode y5_ 0 = .ok (.aload_n 0, 1) := by decide +kernel
theorem d71 : decode y5_ 1 = .ok (.invokevirtual 335, 3) := by decide +kernel
theorem d72 : decode y5_ 4 = .ok (.iload_n 3, 1) := by decide +kernel
theorem d73 : decode y5_ 5 = .ok (.if_icmp .ne 23, 3) := by decide +kernel
theorem d74 : decode y5_ 8 = .ok (.aload_n 0, 1) := by decide +kernel
theorem d75 : decode y5_ 9 = .ok (.getfield 9, 3) := by decide +kernel
theorem d76 : decode y5_ 12 = .ok (.iconst 0, 1) := by decide +kernel
theorem d77 : decode y5_ 13 = .ok (.aload_n 1, 1) := by decide +kernel
theorem d78 : decode y5_ 14 = .ok (.iload_n 2, 1) := by decide +kernel
theorem d79 : decode y5_ 15 = .ok (.iload_n 3, 1) := by decide +kernel
theorem d80 : decode y5_ 16 = .ok (.ishl, 1) := by decide +kernel
theorem d81 : decode y5_ 17 = .ok (.aload_n 0, 1) := by decide +kernel
theorem d82 : decode y5_ 18 = .ok (.getfield 9, 3) := by decide +kernel
theorem d83 : decode y5_ 21 = .ok (.arraylength, 1) := by decide +kernel
theorem d84 : decode y5_ 22 = .ok (.invokestatic 212, 3) := by decide +kernel
theorem d85 : decode y5_ 25 = .ok (.goto 18, 3) := by decide +kernel
theorem d86 : decode y5_ 43 = .ok (.return_, 1) := by decide +kernel
abbrev mn87 : MethodName := ⟨"java/lang/String", "getBytes", "([BIB)V"⟩
theorem own_getBytes (l : Launch) (Z : State) (a0 : Array Value) (cx : Ctx Z a0) (ws : List Jvm.Cond) (x : Addr) (b : Addr) (j : Nat) (t : Addr) (ds : List Int32) (kb : ClassId) (M : Nat) (vd : List Value) (vm0 : Vm) (h0 : Heap) (X00 : Ext Z.heap h0) (P0 : Str Z h0 x t ds) (P1 : Arv Z h0 b kb .byte (Int32.ofNat M) vd (.int (0 : Int32))) (P2 : Z.heap.size ≤ b) (P3 : Safe Z consts_1 vm0 h0 b) (hj : (j + ds.length ≤ M)) (hM : (M ≤ 4000)) (hvd : (vd.length = M)) :
    Met l mn87 y5_ 4 none ws ({ frames := 1, cells := 0, slots := 0, locals := 18 } : Room) Z consts_1 vm0 h0 #[(.ref x), (.ref b), (.int (Int32.ofNat j)), (.int (0 : Int32))] (fun rv vm h => rv = none ∧ Keep h0 h [b] ∧ Arv Z h b kb .byte (Int32.ofNat M) (vd.take j ++ ((lo8s ds).drop 0).take ds.length ++ vd.drop (j + ds.length)) (.int (0 : Int32)) ∧ Safe Z consts_1 vm h b) := by
  obtain ⟨hw, hEL, ⟨zc, Scs, hzc⟩, ⟨fm, Sfm, hfm⟩, hI0⟩ := id cx
  have hSA := own_SA hw
  refine Met.of_walk (a0 := a0) #[vr x, vr b, vi (Int32.ofNat j), vi (0 : Int32)] (plainFor_of_name own_pn14) X00 hEL (fun m => by first | (simp [entryFrame, mkF, argsToLocals, Value.category]; done) | rfl) ?_
  intro p e s m below meth c vm hx hby hml hret hnm hC0 hW0
  have lt_x : h0.size > x := P0.1.lt
  have lt_t : h0.size > t := P0.tlt
  have lt_b : h0.size > b := P1.lt
  have L3 := hC0.safe lt_b P3
  obtain ⟨ks, eS⟩ := P0.2.2.2.1
  refine uAN 1 hx hby d70 rfl rfl rfl ?_
  refine ginfo fun _ _ O1 => ?_
  refine gcallV (y := mn59) (z := mn59) hx (ow hw 77 rfl) (ow hw 78 rfl) (nfSel (ow hw 80 rfl)) (ow hw 80 rfl) (ow hw 79 rfl) (by decide) (fun hZ H hEL => Pay.of_met (W := 0) (own_scoder l Z a0 cx [] (x) (t) (ds) vm h0 O1 P0) (ow hw 81 rfl) (ow hw 2 rfl) (by decide) (by decide) hZ H hEL) 4 (argsL := []) (rest := []) P0.1 (lenOf own_pd66 rfl) rfl rfl (Nat.le_of_eq rfl) (by rw [hml]; rfl) (hb hby d71) rfl (by decide) (by decide) ?_
  rintro _ vm1 h1 C1 ⟨rfl, rfl⟩
  have z1 := C1.2.1
  refine gat1 ?_
  refine uIN 5 hx hby d72 rfl rfl ?_
  refine uNc 8 hx hby d73 rfl (teq (by decide)).2 ?_
  refine uAN 9 hx hby d74 rfl rfl rfl ?_
  refine ggetF (host := "") hx (Or.inl (ow hw 20 rfl)) Via.refl P0.2.2.1 12 (hb hby d75) rfl ?_
  refine uKc 13 (0 : Int32) hx hby d76 rfl rfl ?_
  refine uAN 14 hx hby d77 rfl rfl rfl ?_
  refine uIN 15 hx hby d78 rfl rfl ?_
  refine uIN 16 hx hby d79 rfl rfl ?_
  refine gs (mkF m 17 #[vr x, vr b, vi (Int32.ofNat j), vi (0 : Int32)] [(.int ((Int32.ofNat j) <<< ((0 : Int32) &&& 31))), (.ref b), (.int (0 : Int32)), (.ref t)]) (fun _ _ A kq => XS.ishl A hx rfl (hb hby d80) rfl kq) ?_
  refine gat (mkF m 17 #[vr x, vr b, vi (Int32.ofNat j), vi (0 : Int32)] [(.int (Int32.ofNat j)), (.ref b), (.int (0 : Int32)), (.ref t)]) (by rw [shl0 (by omega)]) ?_
  refine uAN 18 hx hby d81 rfl rfl rfl ?_
  refine ggetF (host := "") hx (Or.inl (ow hw 20 rfl)) Via.refl P0.2.2.1 21 (hb hby d82) rfl ?_
  refine glen hx eS 22 (hb hby d83) rfl ?_
  have f3 := (C1.safe (show h0.size > b by omega) L3)
  refine gcopyN hx (ow hw 106 rfl) (ow hw 109 rfl) (ow hw 107 rfl) (ow hw 108 rfl) (0) (j) (ds.length) (ds.length) (M) eS P1 rfl rfl rfl rfl rfl (by omega) (by omega) (by omega) hj (lo8s_len _) hvd P2 (fun _ => f3) 25 (W := 0) (Nat.le_of_eq rfl) (by rw [hml]; rfl) (hb hby d84) rfl (by decide) (by decide) ?_
  intro h2 K2 C2 V2
  have z2 := C2.2.1
  rw [show (0 : Nat) = 0 from rfl] at V2
  refine uG 43 hx hby d85 (by decide) (by decide) ?_
  have f5 := (C2.safe (show h0.size > b by omega) f3)
  exact gretV hx hret (hb hby d86) (by decide) (by decide) (fun vq Cq => ⟨rfl, ((Keep.refl h0 [b]).trans K2 (allS (Or.inl (List.mem_of_getElem? (i := 0) rfl)) all0)), V2, (Cq.safe (show h2.size > b by omega) f5)⟩)
theorem d88 : decode y26_ 0 = .ok (.aload_n 0, 1) := by decide +kernel
theorem d89 : decode y26_ 1 = .ok (.aload_n 2, 1) := by decide +kernel
theorem d90 : decode y26_ 2 = .ok (.invokevirtual 397, 3) := by decide +kernel
theorem own_pd91 : parseMethodDescriptor "(Ljava/lang/String;)V" = some ⟨[(.object "java/lang/String")], none⟩ := by decide +kernel
theorem d92 : decode y26_ 5 = .ok (.aload_n 2, 1) := by decide +kernel
theorem d93 : decode y26_ 6 = .ok (.aload_n 0, 1) := by decide +kernel
theorem d94 : decode y26_ 7 = .ok (.getfield 15, 3) := by decide +kernel
theorem d95 : decode y26_ 10 = .ok (.iload_n 1, 1) := by decide +kernel
theorem d96 : decode y26_ 11 = .ok (.aload_n 0, 1) := by decide +kernel
theorem d97 : decode y26_ 12 = .ok (.getfield 22, 3) := by decide +kernel
theorem d98 : decode y26_ 15 = .ok (.invokevirtual 399, 3) := by decide +kernel
theorem own_pd99 : parseMethodDescriptor "([BIB)V" = some ⟨[(.array .byte), .int, .byte], none⟩ := by decide +kernel
theorem d100 : decode y26_ 18 = .ok (.return_, 1) := by decide +kernel
abbrev mn101 : MethodName := ⟨"java/lang/AbstractStringBuilder", "putStringAt", "(ILjava/lang/String;)V"⟩
theorem own_putAt (l : Launch) (Z : State) (a0 : Array Value) (cx : Ctx Z a0) (ws : List Jvm.Cond) (x : Addr) (j : Nat) (y : Addr) (b : Addr) (t : Addr) (ds : List Int32) (kb : ClassId) (M : Nat) (vd : List Value) (vm0 : Vm) (h0 : Heap) (X00 : Ext Z.heap h0) (P0 : Exa Z h0 x c5_) (P1 : Fld Z h0 x c2_ "value" "[B" (.ref b)) (P2 : Fld Z h0 x c2_ "coder" "B" (.int (0 : Int32))) (P3 : Str Z h0 y t ds) (P4 : Arv Z h0 b kb .byte (Int32.ofNat M) vd (.int (0 : Int32))) (P5 : Z.heap.size ≤ b) (P6 : Safe Z consts_1 vm0 h0 b) (hj : (j + ds.length ≤ M)) (hM : (M ≤ 4000)) (hvd : (vd.length = M)) :
    Met l mn101 y26_ 3 none ws ({ frames := 2, cells := 0, slots := 0, locals := 33 } : Room) Z consts_1 vm0 h0 #[(.ref x), (.int (Int32.ofNat j)), (.ref y)] (fun rv vm h => rv = none ∧ Keep h0 h [b] ∧ Arv Z h b kb .byte (Int32.ofNat M) (vd.take j ++ ((lo8s ds).drop 0).take ds.length ++ vd.drop (j + ds.length)) (.int (0 : Int32)) ∧ Safe Z consts_1 vm h b) := by
  obtain ⟨hw, hEL, ⟨zc, Scs, hzc⟩, ⟨fm, Sfm, hfm⟩, hI0⟩ := id cx
  have hSA := own_SA hw
  refine Met.of_walk (a0 := a0) #[vr x, vi (Int32.ofNat j), vr y] (plainFor_of_name own_pn45) X00 hEL (fun m => by first | (simp [entryFrame, mkF, argsToLocals, Value.category]; done) | rfl) ?_
  intro p e s m below meth c vm hx hby hml hret hnm hC0 hW0
  have lt_x : h0.size > x := P0.lt
  have lt_y : h0.size > y := P3.1.lt
  have lt_t : h0.size > t := P3.tlt
  have lt_b : h0.size > b := P4.lt
  have L6 := hC0.safe lt_b P6
  refine uAN 1 hx hby d88 rfl rfl rfl ?_
  refine uAN 2 hx hby d89 rfl rfl rfl ?_
  refine ginfo fun _ _ O1 => ?_
  refine gcallQ (y := mn69) hx (ow hw 95 rfl) (ow hw 96 rfl) (ow hw 98 rfl) (ow hw 97 rfl) (ow hw 99 rfl) (by decide) (fun hZ H hEL => Pay.of_met (W := 0) (own_inflate l Z a0 cx [] (x) (y) (t) (ds) vm h0 O1 P2 P3) (ow hw 99 rfl) (ow hw 54 rfl) (by decide) (by decide) hZ H hEL) 5 (argsL := [(.ref y)]) (rest := []) P0 (lenOf own_pd91 rfl) rfl rfl (Nat.le_of_eq rfl) (by rw [hml]; rfl) (hb hby d90) rfl (by decide) (by decide) ?_
  rintro _ vm1 h1 C1 ⟨rfl, rfl⟩
  have z1 := C1.2.1
  refine gat0 ?_
  refine uAN 6 hx hby d92 rfl rfl rfl ?_
  refine uAN 7 hx hby d93 rfl rfl rfl ?_
  refine ggetF (host := "") hx (Or.inl (ow hw 58 rfl)) Via.refl P1 10 (hb hby d94) rfl ?_
  refine uIN 11 hx hby d95 rfl rfl ?_
  refine uAN 12 hx hby d96 rfl rfl rfl ?_
  refine ggetF (host := "") hx (Or.inl (ow hw 60 rfl)) Via.refl P2 15 (hb hby d97) rfl ?_
  have f3 := (C1.safe (show h0.size > b by omega) L6)
  refine ginfo fun _ _ O2 => ?_
  refine gcallV (y := mn87) (z := mn87) hx (ow hw 101 rfl) (ow hw 102 rfl) (nfSel (ow hw 104 rfl)) (ow hw 104 rfl) (ow hw 103 rfl) (by decide) (fun hZ H hEL => Pay.of_met (W := 0) (own_getBytes l Z a0 cx [] (y) (b) (j) (t) (ds) (kb) (M) (vd) vm1 h0 O2 P3 P4 P5 f3 (by first | assumption | decide | omega) (by first | assumption | decide | omega) (by first | assumption | decide | omega)) (ow hw 105 rfl) (ow hw 2 rfl) (by decide) (by decide) hZ H hEL) 18 (argsL := [(.ref b), (.int (Int32.ofNat j)), (.int (0 : Int32))]) (rest := []) P3.1 (lenOf own_pd99 rfl) rfl rfl (Nat.le_of_eq rfl) (by rw [hml]; rfl) (hb hby d98) rfl (by decide) (by decide) ?_
  rintro _ vm2 h2 C2 ⟨rfl, K2, q2_0, q2_1⟩
  have z2 := C2.2.1
  refine gat0 ?_
  exact gretV hx hret (hb hby d100) (by decide) (by decide) (fun vq Cq => ⟨rfl, ((Keep.refl h0 [b]).trans K2 (allS (Or.inl (List.mem_of_getElem? (i := 0) rfl)) all0)), q2_0, (Cq.safe (show h2.size > b by omega) q2_1)⟩)
theorem d102 : decode y27_ 0 = .ok (.aload_n 0, 1) := by decide +kernel
theorem d103 : decode y27_ 1 = .ok (.getfield 15, 3) := by decide +kernel
theorem d104 : decode y27_ 4 = .ok (.arraylength, 1) := by decide +kernel
theorem d105 : decode y27_ 5 = .ok (.aload_n 0, 1) := by decide +kernel
theorem d106 : decode y27_ 6 = .ok (.getfield 22, 3) := by decide +kernel
theorem d107 : decode y27_ 9 = .ok (.ishr, 1) := by decide +kernel
theorem d108 : decode y27_ 10 = .ok (.istore_n 2, 1) := by decide +kernel
theorem d109 : decode y27_ 11 = .ok (.iload_n 1, 1) := by decide +kernel
theorem d110 : decode y27_ 12 = .ok (.iload_n 2, 1) := by decide +kernel
theorem d111 : decode y27_ 13 = .ok (.isub, 1) := by decide +kernel
theorem d112 : decode y27_ 14 = .ok (.ifCond .le 24, 3) := by decide +kernel
theorem d113 : decode y27_ 38 = .ok (.return_, 1) := by decide +kernel
abbrev mn114 : MethodName := ⟨"java/lang/AbstractStringBuilder", "ensureCapacityInternal", "(I)V"⟩
theorem own_ensure (l : Launch) (Z : State) (a0 : Array Value) (cx : Ctx Z a0) (ws : List Jvm.Cond) (x : Addr) (k : Nat) (v : Addr) (kb : ClassId) (M : Nat) (vd : List Value) (vm0 : Vm) (h0 : Heap) (X00 : Ext Z.heap h0) (P0 : Fld Z h0 x c2_ "value" "[B" (.ref v)) (P1 : Fld Z h0 x c2_ "coder" "B" (.int (0 : Int32))) (P2 : Arv Z h0 v kb .byte (Int32.ofNat M) vd (.int (0 : Int32))) (hk : (k ≤ M)) (hM : (M ≤ 4000)) :
    Met l mn114 y27_ 3 none ws ({ frames := 0, cells := 0, slots := 0, locals := 0 } : Room) Z consts_1 vm0 h0 #[(.ref x), (.int (Int32.ofNat k))] (fun rv vm h => rv = none ∧ h0 = h) := by
  obtain ⟨hw, hEL, ⟨zc, Scs, hzc⟩, ⟨fm, Sfm, hfm⟩, hI0⟩ := id cx
  have hSA := own_SA hw
  refine Met.of_walk (a0 := a0) #[vr x, vi (Int32.ofNat k), un] (plainFor_of_name own_pn45) X00 hEL (fun m => by first | (simp [entryFrame, mkF, argsToLocals, Value.category]; done) | rfl) ?_
  intro p e s m below meth c vm hx hby hml hret hnm hC0 hW0
  have lt_x : h0.size > x := P0.lt
  have lt_v : h0.size > v := P2.lt
  refine uAN 1 hx hby d102 rfl rfl rfl ?_
  refine ggetF (host := "") hx (Or.inl (ow hw 58 rfl)) Via.refl P0 4 (hb hby d103) rfl ?_
  refine glen hx P2 5 (hb hby d104) rfl ?_
  refine uAN 6 hx hby d105 rfl rfl rfl ?_
  refine ggetF (host := "") hx (Or.inl (ow hw 60 rfl)) Via.refl P1 9 (hb hby d106) rfl ?_
  refine gs (mkF m 10 #[vr x, vi (Int32.ofNat k), un] [(.int ((Int32.ofNat M) >>> ((0 : Int32) &&& 31)))]) (fun _ _ A kq => XS.ishr A hx rfl (hb hby d107) rfl kq) ?_
  refine gat (mkF m 10 #[vr x, vi (Int32.ofNat k), un] [(.int (Int32.ofNat M))]) (by rw [shr0 hM]) ?_
  refine uSIN 11 #[vr x, vi (Int32.ofNat k), vi (Int32.ofNat M)] hx hby d108 rfl rfl ?_
  refine uIN 12 hx hby d109 rfl rfl ?_
  refine uIN 13 hx hby d110 rfl rfl ?_
  refine uisub 14 ((Int32.ofNat k) - (Int32.ofNat M)) hx hby d111 rfl rfl ?_
  refine uY 38 hx hby d112 ((if0 _ _).trans (flt (subLe (by omega) hM hk)).2.2.2) (by decide) (by decide) ?_
  exact gretV hx hret (hb hby d113) (by decide) (by decide) (fun vq Cq => ⟨rfl, rfl⟩)
theorem d115 : decode y19_ 0 = .ok (.aload_n 1, 1) := by decide +kernel
theorem d116 : decode y19_ 1 = .ok (.ifnonnull 8, 3) := by decide +kernel
theorem d117 : decode y19_ 9 = .ok (.aload_n 1, 1) := by decide +kernel
theorem d118 : decode y19_ 10 = .ok (.invokevirtual 32, 3) := by decide +kernel
theorem own_pd119 : parseMethodDescriptor "()I" = some ⟨[], some .int⟩ := by decide +kernel
abbrev mn120 : MethodName := ⟨"java/lang/String", "length", "()I"⟩
theorem d121 : decode y19_ 13 = .ok (.istore_n 2, 1) := by decide +kernel
theorem d122 : decode y19_ 14 = .ok (.aload_n 0, 1) := by decide +kernel
theorem d123 : decode y19_ 15 = .ok (.aload_n 0, 1) := by decide +kernel
theorem d124 : decode y19_ 16 = .ok (.getfield 79, 3) := by decide +kernel
theorem d125 : decode y19_ 19 = .ok (.iload_n 2, 1) := by decide +kernel
theorem d126 : decode y19_ 20 = .ok (.iadd, 1) := by decide +kernel
theorem d127 : decode y19_ 21 = .ok (.invokevirtual 100, 3) := by decide +kernel
theorem d128 : decode y19_ 24 = .ok (.aload_n 0, 1) := by decide +kernel
theorem d129 : decode y19_ 25 = .ok (.aload_n 0, 1) := by decide +kernel
theorem d130 : decode y19_ 26 = .ok (.getfield 79, 3) := by decide +kernel
theorem d131 : decode y19_ 29 = .ok (.aload_n 1, 1) := by decide +kernel
theorem d132 : decode y19_ 30 = .ok (.invokevirtual 208, 3) := by decide +kernel
theorem own_pd133 : parseMethodDescriptor "(ILjava/lang/String;)V" = some ⟨[.int, (.object "java/lang/String")], none⟩ := by decide +kernel
theorem d134 : decode y19_ 33 = .ok (.aload_n 0, 1) := by decide +kernel
theorem d135 : decode y19_ 34 = .ok (.dup, 1) := by decide +kernel
theorem d136 : decode y19_ 35 = .ok (.getfield 79, 3) := by decide +kernel
theorem d137 : decode y19_ 38 = .ok (.iload_n 2, 1) := by decide +kernel
theorem d138 : decode y19_ 39 = .ok (.iadd, 1) := by decide +kernel
theorem d139 : decode y19_ 40 = .ok (.putfield 79, 3) := by decide +kernel
theorem d140 : decode y19_ 43 = .ok (.aload_n 0, 1) := by decide +kernel
theorem d141 : decode y19_ 44 = .ok (.areturn, 1) := by decide +kernel
abbrev mn142 : MethodName := ⟨"java/lang/AbstractStringBuilder", "append", "(Ljava/lang/String;)Ljava/lang/AbstractStringBuilder;"⟩
theorem own_asbappend (l : Launch) (Z : State) (a0 : Array Value) (cx : Ctx Z a0) (ws : List Jvm.Cond) (b : Addr) (y : Addr) (v : Addr) (cap : Nat) (cs : List Int32) (t : Addr) (ds : List Int32) (vm0 : Vm) (h0 : Heap) (X00 : Ext Z.heap h0) (P0 : SBd Z h0 b v cap cs) (P1 : Str Z h0 y t ds) (P2 : Z.heap.size ≤ b) (P3 : Z.heap.size ≤ v) (P4 : Safe Z consts_1 vm0 h0 v) (hcd : (cs.length + ds.length ≤ cap)) (hvt : (v ≠ t)) :
    Met l mn142 y19_ 3 (some (.object c2_)) ws ({ frames := 3, cells := 0, slots := 0, locals := 47 } : Room) Z consts_1 vm0 h0 #[(.ref b), (.ref y)] (fun rv vm h => rv = some (.ref b) ∧ Keep h0 h [b, v] ∧ SBd Z h b v cap (cs ++ ds) ∧ Safe Z consts_1 vm h v) := by
  obtain ⟨hw, hEL, ⟨zc, Scs, hzc⟩, ⟨fm, Sfm, hfm⟩, hI0⟩ := id cx
  have hSA := own_SA hw
  refine Met.of_walk (a0 := a0) #[vr b, vr y, un] (plainFor_of_name own_pn45) X00 hEL (fun m => by first | (simp [entryFrame, mkF, argsToLocals, Value.category]; done) | rfl) ?_
  intro p e s m below meth c vm hx hby hml hret hnm hC0 hW0
  have lt_v : h0.size > v := P0.vlt
  have lt_b : h0.size > b := P0.1.lt
  have lt_y : h0.size > y := P1.1.lt
  have lt_t : h0.size > t := P1.tlt
  have L4 := hC0.safe lt_v P4
  obtain ⟨eE, eV, eC, eN, ⟨kz, zs, eA, ez⟩, eb, ecap⟩ := P0
  refine uAN 1 hx hby d115 rfl rfl rfl ?_
  refine uY1 9 hx hby d116 (by decide) (by decide) ?_
  refine uAN 10 hx hby d117 rfl rfl rfl ?_
  refine ginfo fun _ _ O1 => ?_
  refine gcallV (y := mn120) (z := mn120) hx (ow hw 72 rfl) (ow hw 73 rfl) (nfSel (ow hw 75 rfl)) (ow hw 75 rfl) (ow hw 74 rfl) (by decide) (fun hZ H hEL => own_payLen (W := 0) (own_wLen hw) (ow hw 1 rfl) Scs hzc O1 (N := (Int32.ofNat (ds).length)) P1 rfl (by decide) (by decide) hZ H hEL) 13 (argsL := []) (rest := []) P1.1 (lenOf own_pd119 rfl) rfl rfl (Nat.le_of_eq rfl) (by rw [hml]; rfl) (hb hby d118) rfl (by decide) (by decide) ?_
  rintro _ vm1 h1 C1 ⟨rfl, rfl⟩
  have z1 := C1.2.1
  refine gat1 ?_
  refine uSIN 14 #[vr b, vr y, vi (Int32.ofNat (ds).length)] hx hby d121 rfl rfl ?_
  refine uAN 15 hx hby d122 rfl rfl rfl ?_
  refine uAN 16 hx hby d123 rfl rfl rfl ?_
  refine ggetF (host := "") hx (Or.inl (ow hw 83 rfl)) Via.refl eN 19 (hb hby d124) rfl ?_
  refine uIN 20 hx hby d125 rfl rfl ?_
  refine uiadd 21 ((Int32.ofNat (cs).length) + (Int32.ofNat (ds).length)) hx hby d126 rfl rfl ?_
  refine gat (mkF m 21 #[vr b, vr y, vi (Int32.ofNat (ds).length)] [(.int (Int32.ofNat (cs.length + ds.length))), (.ref b)]) (by rw [addOf (by omega)]) ?_
  refine ginfo fun _ _ O2 => ?_
  refine gcallQ (y := mn114) hx (ow hw 85 rfl) (ow hw 86 rfl) (ow hw 88 rfl) (ow hw 87 rfl) (ow hw 89 rfl) (by decide) (fun hZ H hEL => Pay.of_met (W := 0) (own_ensure l Z a0 cx [] (b) (cs.length + ds.length) (v) (kz) (cap) ((lo8s cs ++ zs)) vm1 h0 O2 eV eC eA (by first | assumption | decide | omega) (by first | assumption | decide | omega)) (ow hw 89 rfl) (ow hw 54 rfl) (by decide) (by decide) hZ H hEL) 24 (argsL := [(.int (Int32.ofNat (cs.length + ds.length)))]) (rest := []) eE (lenOf own_pd49 rfl) rfl rfl (Nat.le_of_eq rfl) (by rw [hml]; rfl) (hb hby d127) rfl (by decide) (by decide) ?_
  rintro _ vm2 h2 C2 ⟨rfl, rfl⟩
  have z2 := C2.2.1
  refine gat0 ?_
  refine uAN 25 hx hby d128 rfl rfl rfl ?_
  refine uAN 26 hx hby d129 rfl rfl rfl ?_
  refine ggetF (host := "") hx (Or.inl (ow hw 83 rfl)) Via.refl eN 29 (hb hby d130) rfl ?_
  refine uAN 30 hx hby d131 rfl rfl rfl ?_
  have f4 := (C2.safe (show h0.size > v by omega) (C1.safe (show h0.size > v by omega) L4))
  refine ginfo fun _ _ O3 => ?_
  refine gcallQ (y := mn101) hx (ow hw 90 rfl) (ow hw 91 rfl) (ow hw 93 rfl) (ow hw 92 rfl) (ow hw 94 rfl) (by decide) (fun hZ H hEL => Pay.of_met (W := 0) (own_putAt l Z a0 cx [] (b) (cs.length) (y) (v) (t) (ds) (kz) (cap) ((lo8s cs ++ zs)) vm2 h0 O3 eE eV eC P1 eA P3 f4 (by first | assumption | decide | omega) (by first | assumption | decide | omega) (by simp only [List.length_append, lo8s_len]; exact ez)) (ow hw 94 rfl) (ow hw 54 rfl) (by decide) (by decide) hZ H hEL) 33 (argsL := [(.int (Int32.ofNat (cs).length)), (.ref y)]) (rest := []) eE (lenOf own_pd133 rfl) rfl rfl (Nat.le_of_eq rfl) (by rw [hml]; rfl) (hb hby d132) rfl (by decide) (by decide) ?_
  rintro _ vm3 h3 C3 ⟨rfl, K3, q3_0, q3_1⟩
  have z3 := C3.2.1
  refine gat0 ?_
  have VL := q3_0
  rw [put_list] at VL
  refine uAN 34 hx hby d134 rfl rfl rfl ?_
  refine uD 35 hx hby d135 rfl rfl ?_
  have f5 := (eN.keep K3 (ninS (Exa.neArv (eE.keep K3) VL (ow hw 45 rfl)) nin0))
  refine ggetF (host := "") hx (Or.inl (ow hw 83 rfl)) Via.refl f5 38 (hb hby d136) rfl ?_
  refine uIN 39 hx hby d137 rfl rfl ?_
  refine uiadd 40 ((Int32.ofNat (cs).length) + (Int32.ofNat (ds).length)) hx hby d138 rfl rfl ?_
  refine gat (mkF m 40 #[vr b, vr y, vi (Int32.ofNat (ds).length)] [(.int (Int32.ofNat (cs.length + ds.length))), (.ref b)]) (by rw [addOf (by omega)]) ?_
  have f6 := (eE.keep K3)
  refine gputF (host := "") hx (Or.inl (ow hw 83 rfl)) Via.refl f5 f6 (Or.inl (ow hw 84 rfl)) (ow hw 45 rfl) (ty := .int) (by decide) rfl rfl P2 (fun al => Safe.exa al f6 (by decide) (by decide)) 43 (hb hby d139) rfl ?_
  intro h7 W7 C7
  have z7 := C7.2.1
  have F7 := f5.same W7
  refine uAN 44 hx hby d140 rfl rfl rfl ?_
  have N8 : Fld Z h7 b c2_ "count" "I" (.int (Int32.ofNat (cs ++ ds).length)) := by rw [List.length_append]; exact F7
  have f9 := (f6.wr W7)
  have f10 := ((eV.keep K3 (ninS (Exa.neArv f6 VL (ow hw 45 rfl)) nin0)).other W7 (Or.inr (slot_ne (Or.inl (ow hw 59 rfl)) (Or.inl (ow hw 84 rfl)) (by decide) (t := (.array .byte)) (t' := .int) (by decide) (by decide))))
  have f11 := ((eC.keep K3 (ninS (Exa.neArv f6 VL (ow hw 45 rfl)) nin0)).other W7 (Or.inr (slot_ne (Or.inl (ow hw 61 rfl)) (Or.inl (ow hw 84 rfl)) (by decide) (t := .byte) (t' := .int) (by decide) (by decide))))
  have f12 := (VL.other W7 (Ne.symm (Exa.neArv f6 VL (ow hw 45 rfl))))
  have f14 := (C7.safe (show h3.size > v by omega) q3_1)
  exact gretA hx hret rfl rfl (hb hby d141) (by decide) (by decide) (fun vq Cq => ⟨rfl, (((Keep.refl h0 [b, v]).trans K3 (allS (Or.inl (List.mem_of_getElem? (i := 1) rfl)) all0)).wr W7 (Or.inl (List.mem_of_getElem? (i := 0) rfl))), ⟨f9, f10, f11, N8, ⟨_, _, f12, by simp only [List.length_append, List.length_drop]; omega⟩, bapp eb P1.2.2.2.2.1, ecap⟩, (Cq.safe (show h7.size > v by omega) f14)⟩)
theorem d143 : decode y17_ 0 = .ok (.aload_n 0, 1) := by decide +kernel
theorem d144 : decode y17_ 1 = .ok (.aload_n 1, 1) := by decide +kernel
theorem d145 : decode y17_ 2 = .ok (.invokespecial 29, 3) := by decide +kernel
theorem own_pd146 : parseMethodDescriptor "(Ljava/lang/String;)Ljava/lang/AbstractStringBuilder;" = some ⟨[(.object "java/lang/String")], some (.object "java/lang/AbstractStringBuilder")⟩ := by decide +kernel
theorem d147 : decode y17_ 5 = .ok (.pop, 1) := by decide +kernel
theorem d148 : decode y17_ 6 = .ok (.aload_n 0, 1) := by decide +kernel
theorem d149 : decode y17_ 7 = .ok (.areturn, 1) := by decide +kernel
abbrev mn150 : MethodName := ⟨"java/lang/StringBuilder", "append", "(Ljava/lang/String;)Ljava/lang/StringBuilder;"⟩
theorem own_sbappend (l : Launch) (Z : State) (a0 : Array Value) (cx : Ctx Z a0) (ws : List Jvm.Cond) (b : Addr) (y : Addr) (v : Addr) (cap : Nat) (cs : List Int32) (t : Addr) (ds : List Int32) (vm0 : Vm) (h0 : Heap) (X00 : Ext Z.heap h0) (P0 : SBd Z h0 b v cap cs) (P1 : Str Z h0 y t ds) (P2 : Z.heap.size ≤ b) (P3 : Z.heap.size ≤ v) (P4 : Safe Z consts_1 vm0 h0 v) (hcd : (cs.length + ds.length ≤ cap)) (hvt : (v ≠ t)) :
    Met l mn150 y17_ 2 (some (.object c5_)) ws ({ frames := 4, cells := 0, slots := 0, locals := 61 } : Room) Z consts_1 vm0 h0 #[(.ref b), (.ref y)] (fun rv vm h => rv = some (.ref b) ∧ Keep h0 h [b, v] ∧ SBd Z h b v cap (cs ++ ds) ∧ Safe Z consts_1 vm h v) := by
  obtain ⟨hw, hEL, ⟨zc, Scs, hzc⟩, ⟨fm, Sfm, hfm⟩, hI0⟩ := id cx
  have hSA := own_SA hw
  refine Met.of_walk (a0 := a0) #[vr b, vr y] (plainFor_of_name own_pn52) X00 hEL (fun m => by first | (simp [entryFrame, mkF, argsToLocals, Value.category]; done) | rfl) ?_
  intro p e s m below meth c vm hx hby hml hret hnm hC0 hW0
  have lt_v : h0.size > v := P0.vlt
  have lt_b : h0.size > b := P0.1.lt
  have lt_y : h0.size > y := P1.1.lt
  have lt_t : h0.size > t := P1.tlt
  have L4 := hC0.safe lt_v P4
  have eE := P0.1
  refine uAN 1 hx hby d143 rfl rfl rfl ?_
  refine uAN 2 hx hby d144 rfl rfl rfl ?_
  refine ginfo fun _ _ O1 => ?_
  refine gcallU (y := mn142) hx (ow hw 67 rfl) (smOf (y := mn142) (ow hw 68 rfl) (nfSame (y' := mn114) (ow hw 88 rfl) (ow hw 86 rfl) rfl) (by decide)) (ow hw 68 rfl) (ow hw 69 rfl) (by decide) (ow hw 71 rfl) (fun hZ H hEL => Pay.of_met (W := 0) (own_asbappend l Z a0 cx [] (b) (y) (v) (cap) (cs) (t) (ds) vm h0 O1 P0 P1 P2 P3 L4 (by first | assumption | decide | omega) (by first | assumption | decide | omega)) (ow hw 71 rfl) (ow hw 54 rfl) (by decide) (by decide) hZ H hEL) 5 (argsL := [(.ref y)]) (rest := []) (Ins.self eE) (lenOf own_pd146 rfl) rfl rfl (Nat.le_of_eq rfl) (by rw [hml]; rfl) (hb hby d145) rfl (by decide) (by decide) ?_
  rintro _ vm1 h1 C1 ⟨rfl, K1, q1_0, q1_1⟩
  have z1 := C1.2.1
  refine gat1 ?_
  refine uP 6 hx hby d147 rfl rfl ?_
  refine uAN 7 hx hby d148 rfl rfl rfl ?_
  exact gretA hx hret rfl rfl (hb hby d149) (by decide) (by decide) (fun vq Cq => ⟨rfl, ((Keep.refl h0 [b, v]).trans K1 (allS (Or.inl (List.mem_of_getElem? (i := 0) rfl)) (allS (Or.inl (List.mem_of_getElem? (i := 1) rfl)) all0))), q1_0, (Cq.safe (show h1.size > v by omega) q1_1)⟩)
theorem d151 : decode y22_ 0 = .ok (.aload_n 0, 1) := by decide +kernel
theorem d152 : decode y22_ 1 = .ok (.getfield 15, 3) := by decide +kernel
theorem d153 : decode y22_ 4 = .ok (.areturn, 1) := by decide +kernel
abbrev mn154 : MethodName := ⟨"java/lang/AbstractStringBuilder", "getValue", "()[B"⟩
theorem own_getValue (l : Launch) (Z : State) (a0 : Array Value) (cx : Ctx Z a0) (ws : List Jvm.Cond) (x : Addr) (v : Addr) (vm0 : Vm) (h0 : Heap) (X00 : Ext Z.heap h0) (P0 : Fld Z h0 x c2_ "value" "[B" (.ref v)) :
    Met l mn154 y22_ 1 (some (.array .byte)) ws ({ frames := 0, cells := 0, slots := 0, locals := 0 } : Room) Z consts_1 vm0 h0 #[(.ref x)] (fun rv vm h => rv = some (.ref v) ∧ h0 = h) := by
  obtain ⟨hw, hEL, ⟨zc, Scs, hzc⟩, ⟨fm, Sfm, hfm⟩, hI0⟩ := id cx
  have hSA := own_SA hw
  refine Met.of_walk (a0 := a0) #[vr x] (plainFor_of_name own_pn45) X00 hEL (fun m => by first | (simp [entryFrame, mkF, argsToLocals, Value.category]; done) | rfl) ?_
  intro p e s m below meth c vm hx hby hml hret hnm hC0 hW0
  have lt_x : h0.size > x := P0.lt
  refine uAN 1 hx hby d151 rfl rfl rfl ?_
  refine ggetF (host := "") hx (Or.inl (ow hw 58 rfl)) Via.refl P0 4 (hb hby d152) rfl ?_
  exact gretA hx hret rfl rfl (hb hby d153) (by decide) (by decide) (fun vq Cq => ⟨rfl, rfl⟩)
theorem d155 : decode y24_ 0 = .ok (.aload_n 0, 1) := by decide +kernel
theorem d156 : decode y24_ 1 = .ok (.getfield 79, 3) := by decide +kernel
theorem d157 : decode y24_ 4 = .ok (.ireturn, 1) := by decide +kernel
abbrev mn158 : MethodName := ⟨"java/lang/AbstractStringBuilder", "length", "()I"⟩
theorem own_asblen (l : Launch) (Z : State) (a0 : Array Value) (cx : Ctx Z a0) (ws : List Jvm.Cond) (x : Addr) (n : Int32) (vm0 : Vm) (h0 : Heap) (X00 : Ext Z.heap h0) (P0 : Fld Z h0 x c2_ "count" "I" (.int n)) :
    Met l mn158 y24_ 1 (some .int) ws ({ frames := 0, cells := 0, slots := 0, locals := 0 } : Room) Z consts_1 vm0 h0 #[(.ref x)] (fun rv vm h => rv = some (.int n) ∧ h0 = h) := by
  obtain ⟨hw, hEL, ⟨zc, Scs, hzc⟩, ⟨fm, Sfm, hfm⟩, hI0⟩ := id cx
  have hSA := own_SA hw
  refine Met.of_walk (a0 := a0) #[vr x] (plainFor_of_name own_pn45) X00 hEL (fun m => by first | (simp [entryFrame, mkF, argsToLocals, Value.category]; done) | rfl) ?_
  intro p e s m below meth c vm hx hby hml hret hnm hC0 hW0
  have lt_x : h0.size > x := P0.lt
  refine uAN 1 hx hby d155 rfl rfl rfl ?_
  refine ggetF (host := "") hx (Or.inl (ow hw 83 rfl)) Via.refl P0 4 (hb hby d156) rfl ?_
  exact gretI hx hret (hb hby d157) (by decide) (by decide) (fun vq Cq => ⟨rfl, rfl⟩)
theorem d159 : decode y18_ 0 = .ok (.aload_n 0, 1) := by decide +kernel
theorem d160 : decode y18_ 1 = .ok (.invokespecial 343, 3) := by decide +kernel
theorem d161 : decode y18_ 4 = .ok (.ireturn, 1) := by decide +kernel
abbrev mn162 : MethodName := ⟨"java/lang/StringBuilder", "length", "()I"⟩
theorem own_sblen (l : Launch) (Z : State) (a0 : Array Value) (cx : Ctx Z a0) (ws : List Jvm.Cond) (x : Addr) (n : Int32) (vm0 : Vm) (h0 : Heap) (X00 : Ext Z.heap h0) (P0 : Exa Z h0 x c5_) (P1 : Fld Z h0 x c2_ "count" "I" (.int n)) :
    Met l mn162 y18_ 1 (some .int) ws ({ frames := 1, cells := 0, slots := 0, locals := 12 } : Room) Z consts_1 vm0 h0 #[(.ref x)] (fun rv vm h => rv = some (.int n) ∧ h0 = h) := by
  obtain ⟨hw, hEL, ⟨zc, Scs, hzc⟩, ⟨fm, Sfm, hfm⟩, hI0⟩ := id cx
  have hSA := own_SA hw
  refine Met.of_walk (a0 := a0) #[vr x] (plainFor_of_name own_pn52) X00 hEL (fun m => by first | (simp [entryFrame, mkF, argsToLocals, Value.category]; done) | rfl) ?_
  intro p e s m below meth c vm hx hby hml hret hnm hC0 hW0
  have lt_x : h0.size > x := P0.lt
  refine uAN 1 hx hby d159 rfl rfl rfl ?_
  refine ginfo fun _ _ O1 => ?_
  refine gcallU (y := mn158) hx (ow hw 156 rfl) (smOf (y := mn158) (ow hw 152 rfl) (nfSame (y' := mn114) (ow hw 88 rfl) (ow hw 86 rfl) rfl) (by decide)) (ow hw 152 rfl) (ow hw 69 rfl) (by decide) (ow hw 157 rfl) (fun hZ H hEL => Pay.of_met (W := 0) (own_asblen l Z a0 cx [] (x) (n) vm h0 O1 P1) (ow hw 157 rfl) (ow hw 54 rfl) (by decide) (by decide) hZ H hEL) 4 (argsL := []) (rest := []) (Ins.self P0) (lenOf own_pd119 rfl) rfl rfl (Nat.le_of_eq rfl) (by rw [hml]; rfl) (hb hby d160) rfl (by decide) (by decide) ?_
  rintro _ vm1 h1 C1 ⟨rfl, rfl⟩
  have z1 := C1.2.1
  refine gat1 ?_
  exact gretI hx hret (hb hby d161) (by decide) (by decide) (fun vq Cq => ⟨rfl, rfl⟩)
theorem d163 : decode y23_ 0 = .ok (.getstatic 18, 3) := by decide +kernel
theorem d164 : decode y23_ 3 = .ok (.ifCond .eq 14, 3) := by decide +kernel
theorem d165 : decode y23_ 6 = .ok (.aload_n 0, 1) := by decide +kernel
theorem d166 : decode y23_ 7 = .ok (.getfield 22, 3) := by decide +kernel
theorem d167 : decode y23_ 10 = .ok (.ifCond .ne 7, 3) := by decide +kernel
theorem d168 : decode y23_ 13 = .ok (.iconst 1, 1) := by decide +kernel
theorem d169 : decode y23_ 14 = .ok (.goto 4, 3) := by decide +kernel
theorem d170 : decode y23_ 18 = .ok (.ireturn, 1) := by decide +kernel
abbrev mn171 : MethodName := ⟨"java/lang/AbstractStringBuilder", "isLatin1", "()Z"⟩
theorem own_asblat (l : Launch) (Z : State) (a0 : Array Value) (cx : Ctx Z a0) (ws : List Jvm.Cond) (x : Addr) (vm0 : Vm) (h0 : Heap) (X00 : Ext Z.heap h0) (P0 : Fld Z h0 x c2_ "coder" "B" (.int (0 : Int32))) :
    Met l mn171 y23_ 1 (some .boolean) ws ({ frames := 0, cells := 0, slots := 0, locals := 0 } : Room) Z consts_1 vm0 h0 #[(.ref x)] (fun rv vm h => rv = some (.int (1 : Int32)) ∧ h0 = h) := by
  obtain ⟨hw, hEL, ⟨zc, Scs, hzc⟩, ⟨fm, Sfm, hfm⟩, hI0⟩ := id cx
  have hSA := own_SA hw
  refine Met.of_walk (a0 := a0) #[vr x] (plainFor_of_name own_pn45) X00 hEL (fun m => by first | (simp [entryFrame, mkF, argsToLocals, Value.category]; done) | rfl) ?_
  intro p e s m below meth c vm hx hby hml hret hnm hC0 hW0
  have lt_x : h0.size > x := P0.lt
  refine ggetS (host := "") hx (Or.inl (ow hw 57 rfl)) Via.refl Scs 3 (hb hby d163) rfl ?_
  refine uN 6 hx hby d164 rfl ((if0 _ _).trans (feq hzc).1) ?_
  refine uAN 7 hx hby d165 rfl rfl rfl ?_
  refine ggetF (host := "") hx (Or.inl (ow hw 60 rfl)) Via.refl P0 10 (hb hby d166) rfl ?_
  refine uN 13 hx hby d167 rfl ((if0 _ _).trans (teq (by decide)).2) ?_
  refine uKc 14 (1 : Int32) hx hby d168 rfl rfl ?_
  refine uG 18 hx hby d169 (by decide) (by decide) ?_
  exact gretN (t := .boolean) hx hret (by simp) (hb hby d170) (by decide) (by decide) (fun vq Cq => ⟨rfl, rfl⟩)
theorem d172 : decode y11_ 0 = .ok (.iload_n 1, 1) := by decide +kernel
theorem d173 : decode y11_ 1 = .ok (.iload_n 0, 1) := by decide +kernel
theorem d174 : decode y11_ 2 = .ok (.if_icmp .ge 35, 3) := by decide +kernel
theorem d175 : decode y11_ 37 = .ok (.return_, 1) := by decide +kernel
abbrev mn176 : MethodName := ⟨"java/util/Arrays", "checkLength", "(II)V"⟩
theorem own_pn177 : plainName "java/util/Arrays" = true := by first | (simp [plainName, overriddenIn]; done) | decide +kernel
theorem own_checkLength (l : Launch) (Z : State) (a0 : Array Value) (cx : Ctx Z a0) (ws : List Jvm.Cond) (x : Int32) (y : Int32) (vm0 : Vm) (h0 : Heap) (X00 : Ext Z.heap h0) (hxy : (¬ y < x)) :
    Met l mn176 y11_ 2 none ws ({ frames := 0, cells := 0, slots := 0, locals := 0 } : Room) Z consts_1 vm0 h0 #[(.int x), (.int y)] (fun rv vm h => rv = none ∧ h0 = h) := by
  obtain ⟨hw, hEL, ⟨zc, Scs, hzc⟩, ⟨fm, Sfm, hfm⟩, hI0⟩ := id cx
  have hSA := own_SA hw
  refine Met.of_walk (a0 := a0) #[vi x, vi y] (plainFor_of_name own_pn177) X00 hEL (fun m => by first | (simp [entryFrame, mkF, argsToLocals, Value.category]; done) | rfl) ?_
  intro p e s m below meth c vm hx hby hml hret hnm hC0 hW0
  refine uIN 1 hx hby d172 rfl rfl ?_
  refine uIN 2 hx hby d173 rfl rfl ?_
  refine uYc 37 hx hby d174 (flt hxy).2.1 (by decide) (by decide) ?_
  exact gretV hx hret (hb hby d175) (by decide) (by decide) (fun vq Cq => ⟨rfl, rfl⟩)
theorem d178 : decode y1_ 0 = .ok (.iload_n 0, 1) := by decide +kernel
theorem d179 : decode y1_ 1 = .ok (.iload_n 1, 1) := by decide +kernel
theorem d180 : decode y1_ 2 = .ok (.if_icmp .gt 7, 3) := by decide +kernel
theorem d181 : decode y1_ 9 = .ok (.iload_n 1, 1) := by decide +kernel
theorem d182 : decode y1_ 10 = .ok (.ireturn, 1) := by decide +kernel
abbrev mn183 : MethodName := ⟨"java/lang/Math", "min", "(II)I"⟩
theorem own_pn184 : plainFor mn183 = true := by first | decide +kernel | (simp [plainFor, plainName, overriddenIn]; done)
theorem own_min (l : Launch) (Z : State) (a0 : Array Value) (cx : Ctx Z a0) (ws : List Jvm.Cond) (x : Int32) (y : Int32) (vm0 : Vm) (h0 : Heap) (X00 : Ext Z.heap h0) (hyx : (y < x)) :
    Met l mn183 y1_ 2 (some .int) ws ({ frames := 0, cells := 0, slots := 0, locals := 0 } : Room) Z consts_1 vm0 h0 #[(.int x), (.int y)] (fun rv vm h => rv = some (.int y) ∧ h0 = h) := by
  obtain ⟨hw, hEL, ⟨zc, Scs, hzc⟩, ⟨fm, Sfm, hfm⟩, hI0⟩ := id cx
  have hSA := own_SA hw
  refine Met.of_walk (a0 := a0) #[vi x, vi y] own_pn184 X00 hEL (fun m => by first | (simp [entryFrame, mkF, argsToLocals, Value.category]; done) | rfl) ?_
  intro p e s m below meth c vm hx hby hml hret hnm hC0 hW0
  refine uIN 1 hx hby d178 rfl rfl ?_
  refine uIN 2 hx hby d179 rfl rfl ?_
  refine uYc 9 hx hby d180 (tlt hyx).2.2.1 (by decide) (by decide) ?_
  refine uIN 10 hx hby d181 rfl rfl ?_
  exact gretI hx hret (hb hby d182) (by decide) (by decide) (fun vq Cq => ⟨rfl, rfl⟩)
theorem d185 : decode y13_ 0 = .ok (.iload_n 1, 1) := by decide +kernel
theorem d186 : decode y13_ 1 = .ok (.iload_n 2, 1) := by decide +kernel
theorem d187 : decode y13_ 2 = .ok (.invokestatic 343, 3) := by decide +kernel
theorem own_pd188 : parseMethodDescriptor "(II)V" = some ⟨[.int, .int], none⟩ := by decide +kernel
theorem d189 : decode y13_ 5 = .ok (.iload_n 2, 1) := by decide +kernel
theorem d190 : decode y13_ 6 = .ok (.iload_n 1, 1) := by decide +kernel
theorem d191 : decode y13_ 7 = .ok (.isub, 1) := by decide +kernel
theorem d192 : decode y13_ 8 = .ok (.istore_n 3, 1) := by decide +kernel
theorem d193 : decode y13_ 9 = .ok (.iload_n 3, 1) := by decide +kernel
theorem d194 : decode y13_ 10 = .ok (.newarray .byte, 2) := by decide +kernel
theorem d195 : decode y13_ 12 = .ok (.astore 4, 2) := by decide +kernel
theorem d196 : decode y13_ 14 = .ok (.aload_n 0, 1) := by decide +kernel
theorem d197 : decode y13_ 15 = .ok (.iload_n 1, 1) := by decide +kernel
theorem d198 : decode y13_ 16 = .ok (.aload 4, 2) := by decide +kernel
theorem d199 : decode y13_ 18 = .ok (.iconst 0, 1) := by decide +kernel
theorem d200 : decode y13_ 19 = .ok (.aload_n 0, 1) := by decide +kernel
theorem d201 : decode y13_ 20 = .ok (.arraylength, 1) := by decide +kernel
theorem d202 : decode y13_ 21 = .ok (.iload_n 1, 1) := by decide +kernel
theorem d203 : decode y13_ 22 = .ok (.isub, 1) := by decide +kernel
theorem d204 : decode y13_ 23 = .ok (.iload_n 3, 1) := by decide +kernel
theorem d205 : decode y13_ 24 = .ok (.invokestatic 304, 3) := by decide +kernel
theorem own_pd206 : parseMethodDescriptor "(II)I" = some ⟨[.int, .int], some .int⟩ := by decide +kernel
theorem d207 : decode y13_ 27 = .ok (.invokestatic 150, 3) := by decide +kernel
theorem d208 : decode y13_ 30 = .ok (.aload 4, 2) := by decide +kernel
theorem d209 : decode y13_ 32 = .ok (.areturn, 1) := by decide +kernel
abbrev mn210 : MethodName := ⟨"java/util/Arrays", "copyOfRangeByte", "([BII)[B"⟩
theorem own_corb (l : Launch) (Z : State) (a0 : Array Value) (cx : Ctx Z a0) (ws : List Jvm.Cond) (a : Addr) (ka : ClassId) (cs : List Int32) (zs : List Value) (cap : Nat) (vm0 : Vm) (h0 : Heap) (X00 : Ext Z.heap h0) (P0 : Arv Z h0 a ka .byte (Int32.ofNat cap) (lo8s cs ++ zs) (.int (0 : Int32))) (hz : (cs.length + zs.length = cap)) (hlt : (cs.length < cap)) (h32 : (cs.length ≤ 32)) (hcap : (cap ≤ 4000)) :
    Met l mn210 y13_ 5 (some (.array .byte)) ws ({ frames := 1, cells := 1, slots := 32, locals := 18 } : Room) Z consts_1 vm0 h0 #[(.ref a), (.int (0 : Int32)), (.int (Int32.ofNat cs.length))] (fun rv vm h => ∃ (r : Addr), ∃ (kb : ClassId), rv = some (.ref r) ∧ Keep h0 h [] ∧ h0.size ≤ r ∧ Arv Z h r kb .byte (Int32.ofNat cs.length) (lo8s cs) (.int (0 : Int32))) := by
  obtain ⟨hw, hEL, ⟨zc, Scs, hzc⟩, ⟨fm, Sfm, hfm⟩, hI0⟩ := id cx
  have hSA := own_SA hw
  refine Met.of_walk (a0 := a0) #[vr a, vi (0 : Int32), vi (Int32.ofNat cs.length), un, un] (plainFor_of_name own_pn177) X00 hEL (fun m => by first | (simp [entryFrame, mkF, argsToLocals, Value.category]; done) | rfl) ?_
  intro p e s m below meth c vm hx hby hml hret hnm hC0 hW0
  have lt_a : h0.size > a := P0.lt
  refine uIN 1 hx hby d185 rfl rfl ?_
  refine uIN 2 hx hby d186 rfl rfl ?_
  refine ginfo fun _ _ O1 => ?_
  refine gcallS (y := mn176) hx (ow hw 166 rfl) (ow hw 167 rfl) (ow hw 161 rfl) (ow hw 168 rfl) (by decide) (fun hZ H hEL => Pay.of_met (W := 0) (own_checkLength l Z a0 cx [] ((0 : Int32)) ((Int32.ofNat cs.length)) vm h0 O1 (nn0 (by omega))) (ow hw 168 rfl) (ow hw 161 rfl) (by decide) (by decide) hZ H hEL) 5 (argsL := [(.int (0 : Int32)), (.int (Int32.ofNat cs.length))]) (rest := []) (lenOf own_pd188 rfl) rfl rfl (Nat.le_of_eq rfl) (by rw [hml]; rfl) (hb hby d187) rfl (by decide) (by decide) ?_
  rintro _ vm1 h1 C1 ⟨rfl, rfl⟩
  have z1 := C1.2.1
  refine gat0 ?_
  refine uIN 6 hx hby d189 rfl rfl ?_
  refine uIN 7 hx hby d190 rfl rfl ?_
  refine uisub 8 ((Int32.ofNat cs.length) - (0 : Int32)) hx hby d191 rfl rfl ?_
  refine gat (mkF m 8 #[vr a, vi (0 : Int32), vi (Int32.ofNat cs.length), un, un] [(.int (Int32.ofNat cs.length))]) (by rw [subOf0 (by omega)]) ?_
  refine uSIN 9 #[vr a, vi (0 : Int32), vi (Int32.ofNat cs.length), vi (Int32.ofNat cs.length), un] hx hby d192 rfl rfl ?_
  refine uIN 10 hx hby d193 rfl rfl ?_
  refine gnewPE hx (ow hw 15 rfl) (n := (Int32.ofNat cs.length)) (nn0 (by omega)) (cap := 32) (by rw [tn (by omega)]; exact h32) (by decide) (ad := "[B") (by decide) 12 (hb hby d194) rfl (by decide) (by decide) ?_
  intro b2 h2 k2 g2 E2 C2 V2 A2 n2 L2
  have z2 := C2.2.1
  have V2 : Arv Z h2 b2 k2 .byte (Int32.ofNat cs.length) (List.replicate cs.length (.int (0 : Int32))) (.int (0 : Int32)) := V2.pad (pad_rep [] (.int (0 : Int32)) cs.length)
  have lt_b2 : h2.size > b2 := V2.lt
  refine uSA 14 #[vr a, vi (0 : Int32), vi (Int32.ofNat cs.length), vi (Int32.ofNat cs.length), vr b2] hx hby d195 rfl rfl rfl ?_
  refine uAN 15 hx hby d196 rfl rfl rfl ?_
  refine uIN 16 hx hby d197 rfl rfl ?_
  refine uA 18 hx hby d198 rfl rfl rfl ?_
  refine uKc 19 (0 : Int32) hx hby d199 rfl rfl ?_
  refine uAN 20 hx hby d200 rfl rfl rfl ?_
  have f3 := (P0.ext E2)
  refine glen hx f3 21 (hb hby d201) rfl ?_
  refine uIN 22 hx hby d202 rfl rfl ?_
  refine uisub 23 ((Int32.ofNat cap) - (0 : Int32)) hx hby d203 rfl rfl ?_
  refine gat (mkF m 23 #[vr a, vi (0 : Int32), vi (Int32.ofNat cs.length), vi (Int32.ofNat cs.length), vr b2] [(.int (Int32.ofNat cap)), (.int (0 : Int32)), (.ref b2), (.int (0 : Int32)), (.ref a)]) (by rw [subOf0 hcap]) ?_
  refine uIN 24 hx hby d204 rfl rfl ?_
  refine ginfo fun _ _ O4 => ?_
  refine gcallS (y := mn183) hx (ow hw 169 rfl) (ow hw 170 rfl) (ow hw 171 rfl) (ow hw 172 rfl) (by decide) (fun hZ H hEL => Pay.of_met (W := 4) (own_min l Z a0 cx [] ((Int32.ofNat cap)) ((Int32.ofNat cs.length)) vm1 h2 O4 ((ltOf (by omega) hcap).mpr hlt)) (ow hw 172 rfl) (ow hw 171 rfl) (by decide) (by decide) hZ H hEL) 27 (argsL := [(.int (Int32.ofNat cap)), (.int (Int32.ofNat cs.length))]) (rest := [(.int (0 : Int32)), (.ref b2), (.int (0 : Int32)), (.ref a)]) (lenOf own_pd206 rfl) rfl rfl (Nat.le_of_eq rfl) (by rw [hml]; rfl) (hb hby d205) rfl (by decide) (by decide) ?_
  rintro _ vm4 h4 C4 ⟨rfl, rfl⟩
  have z4 := C4.2.1
  refine gat1 ?_
  have f6 := (C4.safe (show h2.size > b2 by omega) L2)
  refine gcopyN hx (ow hw 173 rfl) (ow hw 109 rfl) (ow hw 107 rfl) (ow hw 108 rfl) (0) (0) (cs.length) (cap) (cs.length) f3 V2 rfl rfl rfl rfl rfl (by omega) (by omega) (by omega) (by omega) (by simp only [List.length_append, lo8s_len]; exact hz) (by simp) n2 (fun _ => f6) 30 (W := 0) (Nat.le_of_eq rfl) (by rw [hml]; rfl) (hb hby d207) rfl (by decide) (by decide) ?_
  intro h5 K5 C5 V5
  have z5 := C5.2.1
  rw [pre_list] at V5
  refine uA 32 hx hby d208 rfl rfl rfl ?_
  exact gretA hx hret rfl rfl (hb hby d209) (by decide) (by decide) (fun vq Cq => ⟨b2, k2, rfl, (((Keep.refl h0 []).ext E2).trans K5 (allS (Or.inr (by omega)) all0)), (by omega), V5⟩)
theorem d211 : decode y12_ 0 = .ok (.iload_n 1, 1) := by decide +kernel
theorem d212 : decode y12_ 1 = .ok (.ifCond .ne 9, 3) := by decide +kernel
theorem d213 : decode y12_ 4 = .ok (.iload_n 2, 1) := by decide +kernel
theorem d214 : decode y12_ 5 = .ok (.aload_n 0, 1) := by decide +kernel
theorem d215 : decode y12_ 6 = .ok (.arraylength, 1) := by decide +kernel
theorem d216 : decode y12_ 7 = .ok (.if_icmp .eq 10, 3) := by decide +kernel
theorem d217 : decode y12_ 10 = .ok (.aload_n 0, 1) := by decide +kernel
theorem d218 : decode y12_ 11 = .ok (.iload_n 1, 1) := by decide +kernel
theorem d219 : decode y12_ 12 = .ok (.iload_n 2, 1) := by decide +kernel
theorem d220 : decode y12_ 13 = .ok (.invokestatic 339, 3) := by decide +kernel
theorem own_pd221 : parseMethodDescriptor "([BII)[B" = some ⟨[(.array .byte), .int, .int], some (.array .byte)⟩ := by decide +kernel
theorem d222 : decode y12_ 16 = .ok (.areturn, 1) := by decide +kernel
abbrev mn223 : MethodName := ⟨"java/util/Arrays", "copyOfRange", "([BII)[B"⟩
theorem own_cor (l : Launch) (Z : State) (a0 : Array Value) (cx : Ctx Z a0) (ws : List Jvm.Cond) (a : Addr) (ka : ClassId) (cs : List Int32) (zs : List Value) (cap : Nat) (vm0 : Vm) (h0 : Heap) (X00 : Ext Z.heap h0) (P0 : Arv Z h0 a ka .byte (Int32.ofNat cap) (lo8s cs ++ zs) (.int (0 : Int32))) (hz : (cs.length + zs.length = cap)) (hlt : (cs.length < cap)) (h32 : (cs.length ≤ 32)) (hcap : (cap ≤ 4000)) :
    Met l mn223 y12_ 3 (some (.array .byte)) ws ({ frames := 2, cells := 1, slots := 32, locals := 34 } : Room) Z consts_1 vm0 h0 #[(.ref a), (.int (0 : Int32)), (.int (Int32.ofNat cs.length))] (fun rv vm h => ∃ (r : Addr), ∃ (kb : ClassId), rv = some (.ref r) ∧ Keep h0 h [] ∧ h0.size ≤ r ∧ Arv Z h r kb .byte (Int32.ofNat cs.length) (lo8s cs) (.int (0 : Int32))) := by
  obtain ⟨hw, hEL, ⟨zc, Scs, hzc⟩, ⟨fm, Sfm, hfm⟩, hI0⟩ := id cx
  have hSA := own_SA hw
  refine Met.of_walk (a0 := a0) #[vr a, vi (0 : Int32), vi (Int32.ofNat cs.length)] (plainFor_of_name own_pn177) X00 hEL (fun m => by first | (simp [entryFrame, mkF, argsToLocals, Value.category]; done) | rfl) ?_
  intro p e s m below meth c vm hx hby hml hret hnm hC0 hW0
  have lt_a : h0.size > a := P0.lt
  refine uIN 1 hx hby d211 rfl rfl ?_
  refine uN 4 hx hby d212 rfl ((if0 _ _).trans (teq (by decide)).2) ?_
  refine uIN 5 hx hby d213 rfl rfl ?_
  refine uAN 6 hx hby d214 rfl rfl rfl ?_
  refine glen hx P0 7 (hb hby d215) rfl ?_
  refine uNc 10 hx hby d216 rfl (feq (fun q => absurd ((eqOf (by omega) hcap).mp q) (by omega))).1 ?_
  refine uAN 11 hx hby d217 rfl rfl rfl ?_
  refine uIN 12 hx hby d218 rfl rfl ?_
  refine uIN 13 hx hby d219 rfl rfl ?_
  refine ginfo fun _ _ O1 => ?_
  refine gcallS (y := mn210) hx (ow hw 163 rfl) (ow hw 164 rfl) (ow hw 161 rfl) (ow hw 165 rfl) (by decide) (fun hZ H hEL => Pay.of_met (W := 0) (own_corb l Z a0 cx [] (a) (ka) (cs) (zs) (cap) vm h0 O1 P0 (by first | assumption | decide | omega) (by first | assumption | decide | omega) (by first | assumption | decide | omega) (by first | assumption | decide | omega)) (ow hw 165 rfl) (ow hw 161 rfl) (by decide) (by decide) hZ H hEL) 16 (argsL := [(.ref a), (.int (0 : Int32)), (.int (Int32.ofNat cs.length))]) (rest := []) (lenOf own_pd221 rfl) rfl rfl (Nat.le_of_eq rfl) (by rw [hml]; rfl) (hb hby d220) rfl (by decide) (by decide) ?_
  rintro _ vm1 h1 C1 ⟨r1, kb1, rfl, K1, q1_0, q1_1⟩
  have z1 := C1.2.1
  have lt_r1 : h1.size > r1 := q1_1.lt
  refine gat1 ?_
  exact gretA hx hret rfl rfl (hb hby d222) (by decide) (by decide) (fun vq Cq => ⟨r1, kb1, rfl, ((Keep.refl h0 []).trans K1 all0), (by omega), q1_1⟩)
theorem d224 : decode y7_ 0 = .ok (.aload_n 0, 1) := by decide +kernel
theorem d225 : decode y7_ 1 = .ok (.invokespecial 1, 3) := by decide +kernel
theorem d226 : decode y7_ 4 = .ok (.aload_n 1, 1) := by decide +kernel
theorem d227 : decode y7_ 5 = .ok (.invokevirtual 552, 3) := by decide +kernel
theorem own_pd228 : parseMethodDescriptor "()[B" = some ⟨[], some (.array .byte)⟩ := by decide +kernel
theorem d229 : decode y7_ 8 = .ok (.astore_n 3, 1) := by decide +kernel
theorem d230 : decode y7_ 9 = .ok (.aload_n 1, 1) := by decide +kernel
theorem d231 : decode y7_ 10 = .ok (.invokevirtual 549, 3) := by decide +kernel
theorem d232 : decode y7_ 13 = .ok (.istore 4, 2) := by decide +kernel
theorem d233 : decode y7_ 15 = .ok (.aload_n 1, 1) := by decide +kernel
theorem d234 : decode y7_ 16 = .ok (.invokevirtual 1047, 3) := by decide +kernel
theorem own_pd235 : parseMethodDescriptor "()Z" = some ⟨[], some .boolean⟩ := by decide +kernel
theorem d236 : decode y7_ 19 = .ok (.ifCond .eq 22, 3) := by decide +kernel
theorem d237 : decode y7_ 22 = .ok (.aload_n 0, 1) := by decide +kernel
theorem d238 : decode y7_ 23 = .ok (.iconst 0, 1) := by decide +kernel
theorem d239 : decode y7_ 24 = .ok (.putfield 15, 3) := by decide +kernel
theorem d240 : decode y7_ 27 = .ok (.aload_n 0, 1) := by decide +kernel
theorem d241 : decode y7_ 28 = .ok (.aload_n 3, 1) := by decide +kernel
theorem d242 : decode y7_ 29 = .ok (.iconst 0, 1) := by decide +kernel
theorem d243 : decode y7_ 30 = .ok (.iload 4, 2) := by decide +kernel
theorem d244 : decode y7_ 32 = .ok (.invokestatic 54, 3) := by decide +kernel
theorem d245 : decode y7_ 35 = .ok (.putfield 9, 3) := by decide +kernel
theorem d246 : decode y7_ 38 = .ok (.goto 59, 3) := by decide +kernel
theorem d247 : decode y7_ 97 = .ok (.return_, 1) := by decide +kernel
abbrev mn248 : MethodName := ⟨"java/lang/String", "<init>", "(Ljava/lang/AbstractStringBuilder;Ljava/lang/Void;)V"⟩
theorem own_sinit5 (l : Launch) (Z : State) (a0 : Array Value) (cx : Ctx Z a0) (ws : List Jvm.Cond) (x : Addr) (b : Addr) (v0 : Value) (c0 : Value) (v : Addr) (cap : Nat) (cs : List Int32) (vm0 : Vm) (h0 : Heap) (X00 : Ext Z.heap h0) (P0 : Exa Z h0 x c4_) (P1 : Fld Z h0 x c4_ "value" "[B" v0) (P2 : Fld Z h0 x c4_ "coder" "B" c0) (P3 : Z.heap.size ≤ x) (P4 : Safe Z consts_1 vm0 h0 x) (P5 : SBd Z h0 b v cap cs) (hlt : (cs.length < cap)) (h32 : (cs.length ≤ 32)) :
    Met l mn248 y7_ 5 none ws ({ frames := 3, cells := 1, slots := 32, locals := 49 } : Room) Z consts_1 vm0 h0 #[(.ref x), (.ref b), .null] (fun rv vm h => ∃ (t : Addr), rv = none ∧ Keep h0 h [x] ∧ h0.size ≤ t ∧ Str Z h x t cs ∧ Safe Z consts_1 vm h x) := by
  obtain ⟨hw, hEL, ⟨zc, Scs, hzc⟩, ⟨fm, Sfm, hfm⟩, hI0⟩ := id cx
  have hSA := own_SA hw
  refine Met.of_walk (a0 := a0) #[vr x, vr b, .val .null, un, un] (plainFor_of_name own_pn14) X00 hEL (fun m => by first | (simp [entryFrame, mkF, argsToLocals, Value.category]; done) | rfl) ?_
  intro p e s m below meth c vm hx hby hml hret hnm hC0 hW0
  have lt_x : h0.size > x := P0.lt
  have L4 := hC0.safe lt_x P4
  have lt_v : h0.size > v := P5.vlt
  have lt_b : h0.size > b := P5.1.lt
  refine uAN 1 hx hby d224 rfl rfl rfl ?_
  refine ginitO hx (ow hw 11 rfl) (ow hw 12 rfl) (ow hw 13 rfl) 4 (W := 0) (Nat.le_of_eq rfl) (by rw [hml]; rfl) (hb hby d225) rfl (by decide) (by decide) ?_
  obtain ⟨eE, eV, eC, eN, ⟨kz, zs, eA, ez⟩, eb, ecap⟩ := P5
  refine uAN 5 hx hby d226 rfl rfl rfl ?_
  refine ginfo fun _ _ O2 => ?_
  refine gcallV (y := mn154) (z := mn154) hx (ow hw 145 rfl) (ow hw 146 rfl) (nfSel (ow hw 148 rfl)) (ow hw 148 rfl) (ow hw 147 rfl) (by decide) (fun hZ H hEL => Pay.of_met (W := 0) (own_getValue l Z a0 cx [] (b) (v) vm h0 O2 eV) (ow hw 149 rfl) (ow hw 54 rfl) (by decide) (by decide) hZ H hEL) 8 (argsL := []) (rest := []) eE (lenOf own_pd228 rfl) rfl rfl (Nat.le_of_eq rfl) (by rw [hml]; rfl) (hb hby d227) rfl (by decide) (by decide) ?_
  rintro _ vm2 h2 C2 ⟨rfl, rfl⟩
  have z2 := C2.2.1
  refine gat1 ?_
  refine uSAN 9 #[vr x, vr b, .val .null, vr v, un] hx hby d229 rfl rfl rfl ?_
  refine uAN 10 hx hby d230 rfl rfl rfl ?_
  refine ginfo fun _ _ O3 => ?_
  refine gcallV (y := mn158) (z := mn162) hx (ow hw 150 rfl) (ow hw 151 rfl) (nfSame (y' := mn114) (ow hw 88 rfl) (ow hw 86 rfl) rfl) (ow hw 153 rfl) (ow hw 154 rfl) (by decide) (fun hZ H hEL => Pay.of_met (W := 0) (own_sblen l Z a0 cx [] (b) ((Int32.ofNat (cs).length)) vm2 h0 O3 eE eN) (ow hw 155 rfl) (ow hw 46 rfl) (by decide) (by decide) hZ H hEL) 13 (argsL := []) (rest := []) eE (lenOf own_pd119 rfl) rfl rfl (Nat.le_of_eq rfl) (by rw [hml]; rfl) (hb hby d231) rfl (by decide) (by decide) ?_
  rintro _ vm3 h3 C3 ⟨rfl, rfl⟩
  have z3 := C3.2.1
  refine gat1 ?_
  refine uSI 15 #[vr x, vr b, .val .null, vr v, vi (Int32.ofNat (cs).length)] hx hby d232 rfl rfl ?_
  refine uAN 16 hx hby d233 rfl rfl rfl ?_
  refine ginfo fun _ _ O4 => ?_
  refine gcallV (y := mn171) (z := mn171) hx (ow hw 158 rfl) (ow hw 125 rfl) (nfSel (ow hw 127 rfl)) (ow hw 127 rfl) (ow hw 126 rfl) (by decide) (fun hZ H hEL => Pay.of_met (W := 0) (own_asblat l Z a0 cx [] (b) vm3 h0 O4 eC) (ow hw 128 rfl) (ow hw 54 rfl) (by decide) (by decide) hZ H hEL) 19 (argsL := []) (rest := []) eE (lenOf own_pd235 rfl) rfl rfl (Nat.le_of_eq rfl) (by rw [hml]; rfl) (hb hby d234) rfl (by decide) (by decide) ?_
  rintro _ vm4 h4 C4 ⟨rfl, rfl⟩
  have z4 := C4.2.1
  refine gat1 ?_
  refine uN 22 hx hby d236 rfl ((if0 _ _).trans (feq (by decide)).1) ?_
  refine uAN 23 hx hby d237 rfl rfl rfl ?_
  refine uKc 24 (0 : Int32) hx hby d238 rfl rfl ?_
  have f5 := (C4.safe (show h0.size > x by omega) (C3.safe (show h0.size > x by omega) (C2.safe (show h0.size > x by omega) L4)))
  refine gputF (host := "") hx (Or.inl (ow hw 21 rfl)) Via.refl P2 P0 (Or.inr ⟨(ow hw 17 rfl), rfl, hnm⟩) (ow hw 1 rfl) (ty := .byte) (by decide) rfl rfl P3 (fun _ => f5) 27 (hb hby d239) rfl ?_
  intro h6 W6 C6
  have z6 := C6.2.1
  have F6 := P2.same W6
  refine uAN 28 hx hby d240 rfl rfl rfl ?_
  refine uAN 29 hx hby d241 rfl rfl rfl ?_
  refine uKc 30 (0 : Int32) hx hby d242 rfl rfl ?_
  refine uI 32 hx hby d243 rfl rfl ?_
  have f8 := (eA.other W6 (Ne.symm (Exa.neArv P0 eA (ow hw 1 rfl))))
  refine ginfo fun _ _ O7 => ?_
  refine gcallS (y := mn223) hx (ow hw 159 rfl) (ow hw 160 rfl) (ow hw 161 rfl) (ow hw 162 rfl) (by decide) (fun hZ H hEL => Pay.of_met (W := 1) (own_cor l Z a0 cx [] (v) (kz) (cs) (zs) (cap) vm4 h6 O7 f8 ez (by first | assumption | decide | omega) (by first | assumption | decide | omega) ecap) (ow hw 162 rfl) (ow hw 161 rfl) (by decide) (by decide) hZ H hEL) 35 (argsL := [(.ref v), (.int (0 : Int32)), (.int (Int32.ofNat (cs).length))]) (rest := [(.ref x)]) (lenOf own_pd221 rfl) rfl rfl (Nat.le_of_eq rfl) (by rw [hml]; rfl) (hb hby d244) rfl (by decide) (by decide) ?_
  rintro _ vm7 h7 C7 ⟨r7, kb7, rfl, K7, q7_0, q7_1⟩
  have z7 := C7.2.1
  have lt_r7 : h7.size > r7 := q7_1.lt
  refine gat1 ?_
  have f9 := ((P1.other W6 (Or.inr (slot_ne (Or.inr (ow hw 16 rfl)) (Or.inr (ow hw 17 rfl)) (by decide) (t := (.array .byte)) (t' := .byte) (by decide) (by decide)))).keep K7 nin0)
  have f10 := ((P0.wr W6).keep K7)
  have f11 := (C7.safe (show h6.size > x by omega) (C6.safe (show h0.size > x by omega) f5))
  refine gputF (host := "") hx (Or.inl (ow hw 20 rfl)) Via.refl f9 f10 (Or.inr ⟨(ow hw 16 rfl), rfl, hnm⟩) (ow hw 1 rfl) (ty := (.array .byte)) (by decide) rfl rfl P3 (fun _ => f11) 38 (hb hby d245) rfl ?_
  intro h12 W12 C12
  have z12 := C12.2.1
  have F12 := f9.same W12
  refine uG 97 hx hby d246 (by decide) (by decide) ?_
  have f13 := (f10.wr W12)
  have f14 := ((F6.keep K7 nin0).other W12 (Or.inr (slot_ne (Or.inr (ow hw 17 rfl)) (Or.inr (ow hw 16 rfl)) (by decide) (t := .byte) (t' := (.array .byte)) (by decide) (by decide))))
  have f15 := (q7_1.other W12 (Nat.ne_of_gt (by omega)))
  have f17 := (C12.safe (show h7.size > x by omega) f11)
  exact gretV hx hret (hb hby d247) (by decide) (by decide) (fun vq Cq => ⟨r7, rfl, ((((Keep.refl h0 [x]).wr W6 (Or.inl (List.mem_of_getElem? (i := 0) rfl))).trans K7 all0).wr W12 (Or.inl (List.mem_of_getElem? (i := 0) rfl))), (by omega), ⟨f13, f14, F12, ⟨_, f15⟩, eb, by omega⟩, (Cq.safe (show h12.size > x by omega) f17)⟩)
theorem d249 : decode y10_ 0 = .ok (.aload_n 0, 1) := by decide +kernel
theorem d250 : decode y10_ 1 = .ok (.aload_n 1, 1) := by decide +kernel
theorem d251 : decode y10_ 2 = .ok (.aconst_null, 1) := by decide +kernel
theorem d252 : decode y10_ 3 = .ok (.invokespecial 489, 3) := by decide +kernel
theorem own_pd253 : parseMethodDescriptor "(Ljava/lang/AbstractStringBuilder;Ljava/lang/Void;)V" = some ⟨[(.object "java/lang/AbstractStringBuilder"), (.object "java/lang/Void")], none⟩ := by decide +kernel
theorem d254 : decode y10_ 6 = .ok (.return_, 1) := by decide +kernel
abbrev mn255 : MethodName := ⟨"java/lang/String", "<init>", "(Ljava/lang/StringBuilder;)V"⟩
theorem own_sinit3 (l : Launch) (Z : State) (a0 : Array Value) (cx : Ctx Z a0) (ws : List Jvm.Cond) (x : Addr) (b : Addr) (v0 : Value) (c0 : Value) (v : Addr) (cap : Nat) (cs : List Int32) (vm0 : Vm) (h0 : Heap) (X00 : Ext Z.heap h0) (P0 : Exa Z h0 x c4_) (P1 : Fld Z h0 x c4_ "value" "[B" v0) (P2 : Fld Z h0 x c4_ "coder" "B" c0) (P3 : Z.heap.size ≤ x) (P4 : Safe Z consts_1 vm0 h0 x) (P5 : SBd Z h0 b v cap cs) (hlt : (cs.length < cap)) (h32 : (cs.length ≤ 32)) :
    Met l mn255 y10_ 2 none ws ({ frames := 4, cells := 1, slots := 32, locals := 65 } : Room) Z consts_1 vm0 h0 #[(.ref x), (.ref b)] (fun rv vm h => ∃ (t : Addr), rv = none ∧ Keep h0 h [x] ∧ h0.size ≤ t ∧ Str Z h x t cs ∧ Safe Z consts_1 vm h x) := by
  obtain ⟨hw, hEL, ⟨zc, Scs, hzc⟩, ⟨fm, Sfm, hfm⟩, hI0⟩ := id cx
  have hSA := own_SA hw
  refine Met.of_walk (a0 := a0) #[vr x, vr b] (plainFor_of_name own_pn14) X00 hEL (fun m => by first | (simp [entryFrame, mkF, argsToLocals, Value.category]; done) | rfl) ?_
  intro p e s m below meth c vm hx hby hml hret hnm hC0 hW0
  have lt_x : h0.size > x := P0.lt
  have L4 := hC0.safe lt_x P4
  have lt_v : h0.size > v := P5.vlt
  have lt_b : h0.size > b := P5.1.lt
  refine uAN 1 hx hby d249 rfl rfl rfl ?_
  refine uAN 2 hx hby d250 rfl rfl rfl ?_
  refine uU 3 hx hby d251 rfl ?_
  refine ginfo fun _ _ O1 => ?_
  refine gcallI (y := mn248) hx rfl (ow hw 142 rfl) (ow hw 143 rfl) (ow hw 144 rfl) (by decide) (fun hZ H hEL => Pay.of_met (W := 0) (own_sinit5 l Z a0 cx [] (x) (b) (v0) (c0) (v) (cap) (cs) vm h0 O1 P0 P1 P2 P3 L4 P5 (by first | assumption | decide | omega) (by first | assumption | decide | omega)) (ow hw 144 rfl) (ow hw 2 rfl) (by decide) (by decide) hZ H hEL) (a := x) 6 (argsL := [(.ref b), .null]) (rest := []) (lenOf own_pd253 rfl) rfl rfl (Nat.le_of_eq rfl) (by rw [hml]; rfl) (hb hby d252) rfl (by decide) (by decide) ?_
  rintro _ vm1 h1 C1 ⟨t1, rfl, K1, q1_0, q1_1, q1_2⟩
  have z1 := C1.2.1
  have lt_t1 : h1.size > t1 := q1_1.tlt
  refine gat0 ?_
  exact gretV hx hret (hb hby d254) (by decide) (by decide) (fun vq Cq => ⟨t1, rfl, ((Keep.refl h0 [x]).trans K1 (allS (Or.inl (List.mem_of_getElem? (i := 0) rfl)) all0)), (by omega), q1_1, (Cq.safe (show h1.size > x by omega) q1_2)⟩)
theorem d256 : decode y16_ 0 = .ok (.new 18, 3) := by decide +kernel
theorem d257 : decode y16_ 3 = .ok (.dup, 1) := by decide +kernel
theorem d258 : decode y16_ 4 = .ok (.aload_n 0, 1) := by decide +kernel
theorem d259 : decode y16_ 5 = .ok (.invokespecial 137, 3) := by decide +kernel
theorem own_pd260 : parseMethodDescriptor "(Ljava/lang/StringBuilder;)V" = some ⟨[(.object "java/lang/StringBuilder")], none⟩ := by decide +kernel
theorem d261 : decode y16_ 8 = .ok (.areturn, 1) := by decide +kernel
abbrev mn262 : MethodName := ⟨"java/lang/StringBuilder", "toString", "()Ljava/lang/String;"⟩
theorem own_sbtostring (l : Launch) (Z : State) (a0 : Array Value) (cx : Ctx Z a0) (ws : List Jvm.Cond) (b : Addr) (v : Addr) (cap : Nat) (cs : List Int32) (vm0 : Vm) (h0 : Heap) (X00 : Ext Z.heap h0) (P0 : SBd Z h0 b v cap cs) (hlt : (cs.length < cap)) (h32 : (cs.length ≤ 32)) :
    Met l mn262 y16_ 1 (some (.object c4_)) ws ({ frames := 5, cells := 2, slots := 36, locals := 79 } : Room) Z consts_1 vm0 h0 #[(.ref b)] (fun rv vm h => ∃ (r : Addr), ∃ (t : Addr), rv = some (.ref r) ∧ Keep h0 h [] ∧ h0.size ≤ r ∧ h0.size ≤ t ∧ Str Z h r t cs) := by
  obtain ⟨hw, hEL, ⟨zc, Scs, hzc⟩, ⟨fm, Sfm, hfm⟩, hI0⟩ := id cx
  have hSA := own_SA hw
  refine Met.of_walk (a0 := a0) #[vr b] (plainFor_of_name own_pn52) X00 hEL (fun m => by first | (simp [entryFrame, mkF, argsToLocals, Value.category]; done) | rfl) ?_
  intro p e s m below meth c vm hx hby hml hret hnm hC0 hW0
  have lt_v : h0.size > v := P0.vlt
  have lt_b : h0.size > b := P0.1.lt
  have eE := P0.1
  refine gnewO hx (ow hw 138 rfl) (ow hw 1 rfl) (ow hw 2 rfl) 3 (hb hby d256) rfl (by decide) (by decide) ?_
  intro b1 h1 g1 E1 C1 A1 D1 n1 L1
  have z1 := C1.2.1
  have lt_b1 : h1.size > b1 := A1.lt
  have F1_value : Fld Z h1 b1 c4_ "value" "[B" .null := D1 (Or.inr (ow hw 16 rfl)) (ty := (.array .byte)) (by decide)
  have F1_coder : Fld Z h1 b1 c4_ "coder" "B" (.int (0 : Int32)) := D1 (Or.inr (ow hw 17 rfl)) (ty := .byte) (by decide)
  refine uD 4 hx hby d257 rfl rfl ?_
  refine uAN 5 hx hby d258 rfl rfl rfl ?_
  have f3 := (P0.ext E1)
  refine ginfo fun _ _ O2 => ?_
  refine gcallI (y := mn255) hx rfl (ow hw 139 rfl) (ow hw 140 rfl) (ow hw 141 rfl) (by decide) (fun hZ H hEL => Pay.of_met (W := 1) (own_sinit3 l Z a0 cx [] (b1) (b) (.null) ((.int (0 : Int32))) (v) (cap) (cs) vm h1 O2 A1 F1_value F1_coder n1 L1 f3 (by first | assumption | decide | omega) (by first | assumption | decide | omega)) (ow hw 141 rfl) (ow hw 2 rfl) (by decide) (by decide) hZ H hEL) (a := b1) 8 (argsL := [(.ref b)]) (rest := [(.ref b1)]) (lenOf own_pd260 rfl) rfl rfl (Nat.le_of_eq rfl) (by rw [hml]; rfl) (hb hby d259) rfl (by decide) (by decide) ?_
  rintro _ vm2 h2 C2 ⟨t2, rfl, K2, q2_0, q2_1, q2_2⟩
  have z2 := C2.2.1
  have lt_t2 : h2.size > t2 := q2_1.tlt
  refine gat0 ?_
  exact gretA hx hret rfl rfl (hb hby d261) (by decide) (by decide) (fun vq Cq => ⟨b1, t2, rfl, (((Keep.refl h0 []).ext E1).trans K2 (allS (Or.inr (by omega)) all0)), (by omega), (by omega), q2_1⟩)
open Jvm.Free.SBG (negI negI_div100 negI_rem negI_lt neg_negI negI_toInt)
def own_dn (n : Nat) : Nat := if n < 10 then 1 else if n < 100 then 2 else if n < 1000 then 3 else if n < 10000 then 4 else if n < 100000 then 5 else if n < 1000000 then 6 else if n < 10000000 then 7 else if n < 100000000 then 8 else if n < 1000000000 then 9 else 10
theorem own_dn_pos (n : Nat) : 1 ≤ own_dn n ∧ own_dn n ≤ 10 := by unfold own_dn; (repeat' split) <;> omega
theorem own_num_go : ∀ r, r < 100 → (48 : Int32) + Int32.ofNat r % 10 = Int32.ofNat (48 + r % 10) := by decide +kernel
theorem own_num_gt : ∀ r, r < 100 → (48 : Int32) + Int32.ofNat r / 10 = Int32.ofNat (48 + r / 10) := by decide +kernel
theorem own_hasR {c : Cell} {f : Nat → Value} : ∀ (n k : Nat), (∀ i, i < n → c.slots[k + i]? = some (f (k + i))) → HasL c k ((List.range' k n).map f)
  | 0, _, _ => trivial
  | n + 1, k, h => by
    rw [List.range'_succ]
    exact ⟨by simpa using h 0 (by omega), own_hasR n (k + 1) fun i hi => by
      have q := h (i + 1) (by omega)
      rwa [show k + (i + 1) = k + 1 + i by omega] at q⟩
theorem own_all {args : Array Value} {first s : State} {o : Option Outcome} {idx : List Nat} {t : Term} {c : Jvm.Cond} {a : Addr} {cell : Cell} (ht : t.eval args first o idx s = some (.ref a)) (hc : s.arrayAt? a = some cell) (h : (Jvm.Cond.all t c).value args first o s idx = some true) (i : Nat) (hi : i < cell.slots.size) : c.value args first o s (i :: idx) = some true := by
  simp only [Cond.value, ht, hc] at h
  have key : ∀ (l : List Nat) (b : Option Bool), l.foldl (fun acc i => match acc with | some true => c.value args first o s (i :: idx) | x => x) b = some true → b = some true ∧ (i ∈ l → c.value args first o s (i :: idx) = some true) := by
    intro l
    induction l with
    | nil => exact fun b hb => ⟨hb, fun q => nomatch q⟩
    | cons y r ih =>
      intro b hb
      obtain ⟨q1, q2⟩ := ih _ hb
      have hb' : b = some true := by
        cases b with
        | none => cases q1
        | some b => cases b with
          | false => cases q1
          | true => rfl
      subst hb'
      refine ⟨rfl, fun hm => ?_⟩
      cases hm with
      | head => exact q1
      | tail _ hm => exact q2 hm
  exact (key _ _ h).2 (List.mem_range.mpr hi)
theorem own_tbl {s : State} {args : Array Value} {n : String} {rhs : Term} {F : Nat → Nat} (hf : Fit s) (hx : (Jvm.Cond.exactly (Jvm.Term.static c3_ n "[B") "[B").before args s = true) (hl : (Jvm.Cond.eq (Jvm.Term.length (Jvm.Term.static c3_ n "[B")) (Jvm.Term.int (100 : Int32))).value args s none s [] = some true)
    (ha : (Jvm.Cond.all (Jvm.Term.static c3_ n "[B") (Jvm.Cond.eq (Jvm.Term.elem (Jvm.Term.static c3_ n "[B") (Jvm.Term.index (0 : Nat))) rhs)).before args s = true) (hr : ∀ r, r < 100 → rhs.eval args s none [r] s = some (.int (Int32.ofNat (F r)))) (harr : (Jvm.Cond.arrayClass Jvm.ClassFile.FieldType.byte).before args s = true) :
    ∃ (d : Addr) (k : ClassId), (Jvm.Term.static c3_ n "[B").eval args s none [] s = some (.ref d) ∧ Arv s s.heap d k .byte (100 : Int32) ((List.range' 0 100).map fun r => .int (Int32.ofNat (F r))) (.int 0) := by
  obtain ⟨d, cB, D, kB, hev, hfcB, hcellD, hkB, hstatD, hclsD, -⟩ := Cond.exactly_spec hx
  obtain ⟨cB', kB', comp, hnameB, hkB', hkindB⟩ := Cond.arrayClass_spec harr
  have eBA : ("[" ++ FieldType.toString .byte) = "[B" := by decide
  rw [eBA] at hnameB
  cases hfcB.symm.trans hnameB
  cases hkB.symm.trans hkB'
  obtain ⟨x, y, f1, f2, -, -⟩ := cmp_v (Or.inl hl)
  obtain ⟨zl, rfl⟩ : ∃ z, x = .int z := by
    obtain ⟨x', y', g1, g2, -, k2⟩ := cmp_v (Or.inl hl)
    cases f1.symm.trans g1
    cases (Option.some.inj g2 : Value.int 100 = y')
    exact k2
  obtain ⟨d', D', hev', harrAt, -⟩ := Term.length_spec f1
  cases hev.symm.trans hev'
  obtain ⟨hcellD', hknD, -, -⟩ := State.arrayAt?_spec harrAt
  cases hcellD.symm.trans hcellD'
  have A : Arr s s.heap d D .byte := ⟨hcellD, ⟨(fun q h => by rw [h] at hstatD; cases hstatD), kB, (by rw [hclsD]; exact hkB), comp, hkindB⟩, hknD⟩
  obtain ⟨h1, h2⟩ := lenI hl hev harrAt
  have hsz : D.slots.size = 100 := by
    have f5 := len_toInt h1
    rw [h2] at f5
    have : (100 : Int32).toInt = 100 := rfl
    omega
  refine ⟨d, D.cls, hev, Arv.start hf A h1 h2 (by decide) (by simp) (own_hasR 100 0 fun i hi => ?_)⟩
  have hv := own_all hev harrAt (Cond.before_iff.mp ha) i (by omega)
  obtain ⟨x, y, e1, e2, k1, k2⟩ := cmp_v (Or.inl hv)
  cases (Option.some.inj ((hr i hi).symm.trans e2))
  obtain ⟨z, rfl⟩ := k2
  rw [Cond.eq_ints e1 (hr i hi)] at hv
  have ez := of_decide_eq_true (Option.some.inj hv)
  have hn : ¬ (Int32.ofNat i) < 0 := nn0 (by omega)
  have hc : (Int32.ofNat i).toNatClampNeg = i := tn (by omega)
  have hj := idx_at (first := s) (o := none) (s := s) (args := args) hn
  rw [hc] at hj
  have q := elem_in e1 (by simpa only [Term.eval] using hev) hj A.1
  rw [hc] at q
  rw [Nat.zero_add, q.2, ez]
def own_abs (x : Int32) : Nat := x.toInt.natAbs
def own_sg (x : Int32) : Nat := if x < 0 then 1 else 0
def own_dc (n : Nat) : Int32 := Int32.ofNat (48 + n % 10)
def own_digs : Nat → Nat → List Int32
  | 0, _ => []
  | k + 1, n => own_digs k (n / 10) ++ [own_dc n]
def own_dec (x : Int32) : List Int32 := (if x < 0 then [(45 : Int32)] else []) ++ own_digs (own_dn (own_abs x)) (own_abs x)
theorem own_abs_le (x : Int32) : own_abs x ≤ 2 ^ 31 := by have r := rng32 x; unfold own_abs; omega
theorem own_neg1 {x : Int32} (h : x < (0 : Int32)) : x = negI (own_abs x) := by
  apply Int32.toInt_inj.mp
  have e0 : (0 : Int32).toInt = 0 := rfl
  rw [Int32.lt_iff_toInt_lt, e0] at h
  rw [negI_toInt (own_abs_le x)]; unfold own_abs; omega
theorem own_neg2 {x : Int32} (h : ¬ x < (0 : Int32)) : -x = negI (own_abs x) := by
  apply Int32.toInt_inj.mp
  have e0 : (0 : Int32).toInt = 0 := rfl
  rw [Int32.lt_iff_toInt_lt, e0] at h
  have q := c_ineg x
  have r := rng32 x
  have r2 := rng32 (-x)
  rw [negI_toInt (own_abs_le x)]; unfold own_abs; omega
theorem own_sg_le (x : Int32) : own_sg x ≤ 1 := by unfold own_sg; split <;> decide
theorem own_sg0 {x : Int32} (h : Int32.ofNat (own_sg x) = (0 : Int32)) : own_sg x = 0 ∧ ¬ x < 0 := by
  unfold own_sg at *
  split at h
  · exact absurd h (by decide)
  · rename_i q; exact ⟨if_neg q, q⟩
theorem own_sg1 {x : Int32} (h : ¬ Int32.ofNat (own_sg x) = (0 : Int32)) : own_sg x = 1 ∧ x < 0 := by
  unfold own_sg at *
  split at h
  · rename_i q; exact ⟨if_pos q, q⟩
  · exact absurd rfl h
theorem own_digs_len : ∀ k n, (own_digs k n).length = k
  | 0, _ => rfl
  | k + 1, n => by rw [own_digs, List.length_append, own_digs_len k]; rfl
theorem own_dec_len (x : Int32) : (own_dec x).length = own_sg x + own_dn (own_abs x) := by
  unfold own_dec own_sg
  rw [List.length_append, own_digs_len]
  split <;> rfl
theorem own_dec_le (x : Int32) : (own_dec x).length ≤ 11 := by
  have h := own_dec_len x
  have h1 := own_sg_le x
  have h2 := (own_dn_pos (own_abs x)).2
  omega
theorem own_b8of {n : Nat} (h : n ≤ 255) : B8 (Int32.ofNat n) := by
  have e0 : (0 : Int32).toInt = 0 := rfl
  have e1 : (255 : Int32).toInt = 255 := rfl
  unfold B8
  rw [Int32.lt_iff_toInt_lt, Int32.lt_iff_toInt_lt, Int32.toInt_ofNat_of_lt (by omega), e0, e1]
  omega
theorem own_dcB (n : Nat) : B8 (own_dc n) := own_b8of (by omega)
theorem own_digsB : ∀ k n, ∀ c ∈ own_digs k n, B8 c
  | 0, _, _, h => nomatch h
  | k + 1, n, c, h => by
    rw [own_digs, List.mem_append] at h
    rcases h with h | h
    · exact own_digsB k _ c h
    · cases List.mem_singleton.mp h; exact own_dcB n
theorem own_decB (x : Int32) : ∀ c ∈ own_dec x, B8 c := fun c h => by
  unfold own_dec at h
  rw [List.mem_append] at h
  rcases h with h | h
  · split at h
    · cases List.mem_singleton.mp h; exact ⟨by decide, by decide⟩
    · cases h
  · exact own_digsB _ _ c h
theorem own_d100 (k n : Nat) : own_digs (k + 2) n = own_digs k (n / 100) ++ [own_dc (n / 10), own_dc n] := by
  show (own_digs k (n / 10 / 10) ++ [own_dc (n / 10)]) ++ [own_dc n] = _
  rw [Nat.div_div_eq_div_mul, List.append_assoc]; rfl
theorem own_ltn {n : Nat} (hn : n ≤ 2 ^ 31) (k : Nat) (hk : k ≤ 2 ^ 31) (z : Int32) (hz : z = negI k) : z < negI n ↔ n < k := by subst hz; exact negI_lt hn k hk
theorem own_gtn {n : Nat} (hn : n ≤ 2 ^ 31) (k : Nat) (hk : k ≤ 2 ^ 31) (z : Int32) (hz : z = negI k) : negI n < z ↔ k < n := by subst hz; exact negI_lt hk n hn
theorem own_size {x : Int32} (k : Nat) (z : Int32) (hz : z = Int32.ofNat k) (hd : own_dn (own_abs x) = k) : z + Int32.ofNat (own_sg x) = Int32.ofNat (own_dec x).length := by
  have h1 := own_sg_le x
  have h2 := (own_dn_pos (own_abs x)).2
  rw [hz, own_dec_len, addOf (by omega), ← hd, Nat.add_comm]
theorem own_dec1 {a b : Nat} (h : a = b + 1) (h2 : a ≤ 4000) : Int32.ofNat a + (-1 : Int32) = Int32.ofNat b := by
  apply Int32.toInt_inj.mp
  have q := c_iadd (Int32.ofNat a) (-1)
  have r := rng32 (Int32.ofNat a + (-1))
  have e : (-1 : Int32).toInt = -1 := rfl
  rw [Int32.toInt_ofNat_of_lt (by omega), e] at q
  rw [Int32.toInt_ofNat_of_lt (by omega)]
  omega
theorem own_lt100 (n : Nat) : ¬ Int32.ofNat (n % 100) < 0 ∧ Int32.ofNat (n % 100) < (100 : Int32) := ⟨nn0 (by omega), (ltOf (b := 100) (by omega) (by omega)).mpr (by omega)⟩
theorem own_rget {f : Nat → Value} {r : Nat} (h : r < 100) {d : Value} : ((List.range' 0 100).map f).getD r d = f r := by
  rw [List.getD_eq_getElem?_getD, List.getElem?_map, List.getElem?_range' h]
  simp
theorem own_ones (n : Nat) : own_vO.getD (n % 100) (.int (0 : Int32)) = .int (own_dc n) := by
  rw [own_vO, own_rget (by omega), own_dc]
  exact congrArg (fun z => Value.int (Int32.ofNat z)) (by omega)
theorem own_tens (n : Nat) : own_vT.getD (n % 100) (.int (0 : Int32)) = .int (own_dc (n / 10)) := by
  rw [own_vT, own_rget (by omega), own_dc]
  exact congrArg (fun z => Value.int (Int32.ofNat z)) (by omega)
theorem own_negm {n : Nat} (h : n < 100) : -(negI n) = Int32.ofNat (n % 100) := by rw [neg_negI (by omega), Nat.mod_eq_of_lt h]
def own_w (vd : List Value) (p T : Nat) (ds : List Int32) : List Value := vd.take p ++ lo8s ds ++ vd.drop T
theorem own_w0 (vd : List Value) (T : Nat) : vd = own_w vd T T [] := by unfold own_w; simp [lo8s]
theorem own_wl {vd : List Value} {p T : Nat} {ds : List Int32} (h : p + ds.length = T) (hT : T ≤ vd.length) : (own_w vd p T ds).length = vd.length := by
  unfold own_w
  rw [List.length_append, List.length_append, List.length_take, List.length_drop, lo8s_len]; omega
theorem own_w1 {vd : List Value} {p q T : Nat} {ds : List Int32} {c : Int32} (hp : p = q + 1) (hT : p ≤ vd.length) : (own_w vd p T ds).set q (.int (c.toInt8.toInt32)) = own_w vd q T (c :: ds) := by
  subst hp
  unfold own_w
  have e : vd.take (q + 1) = vd.take q ++ [vd[q]'(by omega)] := by rw [List.take_add_one, List.getElem?_eq_getElem (by omega)]; rfl
  rw [e, List.append_assoc, List.append_assoc, List.set_append_right _ _ (by rw [List.length_take]; omega), List.length_take, show q - min q vd.length = 0 by omega]
  simp [lo8s]
theorem own_wend {vd : List Value} {p j T : Nat} {ds es : List Int32} (hp : p = j) (hd : ds = es) : own_w vd p T ds = vd.take j ++ lo8s es ++ vd.drop T := by rw [hp, hd]; rfl
theorem own_put2 {cs ds : List Int32} {zs : List Value} : ((lo8s cs ++ zs).take cs.length ++ lo8s ds ++ (lo8s cs ++ zs).drop (cs.length + ds.length)) = lo8s (cs ++ ds) ++ zs.drop ds.length := by
  have q := put_list (cs := cs) (ds := ds) (zs := zs)
  rwa [List.drop_zero, List.take_of_length_le (l := lo8s ds) (by rw [lo8s_len]; exact Nat.le_refl _)] at q
theorem own_dg2 {n : Nat} (h : 10 ≤ n) : 2 ≤ own_dn n := by unfold own_dn; (repeat' split) <;> omega
theorem own_dg3 {n : Nat} (h : 100 ≤ n) : 3 ≤ own_dn n := by unfold own_dn; (repeat' split) <;> omega
theorem own_dg4 {n : Nat} (h : 1000 ≤ n) : 4 ≤ own_dn n := by unfold own_dn; (repeat' split) <;> omega
theorem own_dg5 {n : Nat} (h : 10000 ≤ n) : 5 ≤ own_dn n := by unfold own_dn; (repeat' split) <;> omega
theorem own_dg6 {n : Nat} (h : 100000 ≤ n) : 6 ≤ own_dn n := by unfold own_dn; (repeat' split) <;> omega
theorem own_dg7 {n : Nat} (h : 1000000 ≤ n) : 7 ≤ own_dn n := by unfold own_dn; (repeat' split) <;> omega
theorem own_dg8 {n : Nat} (h : 10000000 ≤ n) : 8 ≤ own_dn n := by unfold own_dn; (repeat' split) <;> omega
theorem own_dg9 {n : Nat} (h : 100000000 ≤ n) : 9 ≤ own_dn n := by unfold own_dn; (repeat' split) <;> omega
theorem own_dg10 {n : Nat} (h : 1000000000 ≤ n) : 10 ≤ own_dn n := by unfold own_dn; (repeat' split) <;> omega
theorem own_du1 {n : Nat} (h : n < 10) : own_dn n ≤ 1 := by unfold own_dn; (repeat' split) <;> omega
theorem own_du2 {n : Nat} (h : n < 100) : own_dn n ≤ 2 := by unfold own_dn; (repeat' split) <;> omega
theorem own_du3 {n : Nat} (h : n < 1000) : own_dn n ≤ 3 := by unfold own_dn; (repeat' split) <;> omega
theorem own_du4 {n : Nat} (h : n < 10000) : own_dn n ≤ 4 := by unfold own_dn; (repeat' split) <;> omega
theorem own_du5 {n : Nat} (h : n < 100000) : own_dn n ≤ 5 := by unfold own_dn; (repeat' split) <;> omega
theorem own_du6 {n : Nat} (h : n < 1000000) : own_dn n ≤ 6 := by unfold own_dn; (repeat' split) <;> omega
theorem own_du7 {n : Nat} (h : n < 10000000) : own_dn n ≤ 7 := by unfold own_dn; (repeat' split) <;> omega
theorem own_du8 {n : Nat} (h : n < 100000000) : own_dn n ≤ 8 := by unfold own_dn; (repeat' split) <;> omega
theorem own_du9 {n : Nat} (h : n < 1000000000) : own_dn n ≤ 9 := by unfold own_dn; (repeat' split) <;> omega
theorem d263 : decode y4_ 0 = .ok (.iconst 1, 1) := by decide +kernel
theorem d264 : decode y4_ 1 = .ok (.istore_n 1, 1) := by decide +kernel
theorem d265 : decode y4_ 2 = .ok (.iload_n 0, 1) := by decide +kernel
theorem d266 : decode y4_ 3 = .ok (.ifCond .lt 8, 3) := by decide +kernel
theorem d267 : decode y4_ 6 = .ok (.iconst 0, 1) := by decide +kernel
theorem d268 : decode y4_ 7 = .ok (.istore_n 1, 1) := by decide +kernel
theorem d269 : decode y4_ 8 = .ok (.iload_n 0, 1) := by decide +kernel
theorem d270 : decode y4_ 9 = .ok (.ineg, 1) := by decide +kernel
theorem d271 : decode y4_ 10 = .ok (.istore_n 0, 1) := by decide +kernel
theorem d272 : decode y4_ 11 = .ok (.bipush (-10), 2) := by decide +kernel
theorem d273 : decode y4_ 13 = .ok (.istore_n 2, 1) := by decide +kernel
theorem d274 : decode y4_ 14 = .ok (.iconst 1, 1) := by decide +kernel
theorem d275 : decode y4_ 15 = .ok (.istore_n 3, 1) := by decide +kernel
theorem d276 : decode y4_ 16 = .ok (.iload_n 3, 1) := by decide +kernel
theorem d277 : decode y4_ 17 = .ok (.bipush 10, 2) := by decide +kernel
theorem d278 : decode y4_ 19 = .ok (.if_icmp .ge 23, 3) := by decide +kernel
theorem d279 : decode y4_ 22 = .ok (.iload_n 0, 1) := by decide +kernel
theorem d280 : decode y4_ 23 = .ok (.iload_n 2, 1) := by decide +kernel
theorem d281 : decode y4_ 24 = .ok (.if_icmp .le 7, 3) := by decide +kernel
theorem d282 : decode y4_ 27 = .ok (.iload_n 3, 1) := by decide +kernel
theorem d283 : decode y4_ 28 = .ok (.iload_n 1, 1) := by decide +kernel
theorem d284 : decode y4_ 29 = .ok (.iadd, 1) := by decide +kernel
theorem d285 : decode y4_ 30 = .ok (.ireturn, 1) := by decide +kernel
theorem d286 : decode y4_ 31 = .ok (.bipush 10, 2) := by decide +kernel
theorem d287 : decode y4_ 33 = .ok (.iload_n 2, 1) := by decide +kernel
theorem d288 : decode y4_ 34 = .ok (.imul, 1) := by decide +kernel
theorem d289 : decode y4_ 35 = .ok (.istore_n 2, 1) := by decide +kernel
theorem d290 : decode y4_ 36 = .ok (.iinc 3 1, 3) := by decide +kernel
theorem d291 : decode y4_ 39 = .ok (.goto (-23), 3) := by decide +kernel
theorem d292 : decode y4_ 42 = .ok (.bipush 10, 2) := by decide +kernel
theorem d293 : decode y4_ 44 = .ok (.iload_n 1, 1) := by decide +kernel
theorem d294 : decode y4_ 45 = .ok (.iadd, 1) := by decide +kernel
theorem d295 : decode y4_ 46 = .ok (.ireturn, 1) := by decide +kernel
abbrev mn296 : MethodName := ⟨"java/lang/Integer", "stringSize", "(I)I"⟩
theorem own_pn297 : plainName "java/lang/Integer" = true := by first | (simp [plainName, overriddenIn]; done) | decide +kernel
theorem own_stringSize (l : Launch) (Z : State) (a0 : Array Value) (cx : Ctx Z a0) (ws : List Jvm.Cond) (x : Int32) (vm0 : Vm) (h0 : Heap) (X00 : Ext Z.heap h0)  :
    Met l mn296 y4_ 4 (some .int) ws ({ frames := 0, cells := 0, slots := 0, locals := 0 } : Room) Z consts_1 vm0 h0 #[(.int x)] (fun rv vm h => rv = some (.int (Int32.ofNat (own_dec x).length)) ∧ Keep h0 h []) := by
  obtain ⟨hw, hEL, ⟨zc, Scs, hzc⟩, ⟨fm, Sfm, hfm⟩, hI0⟩ := id cx
  have hSA := own_SA hw
  refine Met.of_walk (a0 := a0) #[vi x, un, un, un] (plainFor_of_name own_pn297) X00 hEL (fun m => by first | (simp [entryFrame, mkF, argsToLocals, Value.category]; done) | rfl) ?_
  intro p e s m below meth c vm hx hby hml hret hnm hC0 hW0
  refine gjoin (fun vmJ hJ gJ => ∃ (nn1 : Int32), ∃ (sg1 : Int32), gJ = (mkF m 11 #[vi nn1, vi sg1, un, un] []) ∧ Keep h0 hJ [] ∧ CHr Z consts_1 vm h0 vmJ hJ ∧ (nn1 = negI (own_abs x)) ∧ (sg1 = Int32.ofNat (own_sg x))) 0 0 ?_ ?_
  · rintro vm1 h1 _ ⟨nn1, sg1, rfl, K1, C1, q1_0, q1_1⟩
    have z1 := C1.2.1
    refine gat (mkF m 11 #[vi (negI (own_abs x)), vi (Int32.ofNat (own_sg x)), un, un] []) (by rw [q1_0, q1_1]) ?_
    have hle := own_abs_le x
    refine uKb 13 (-10 : Int32) hx hby d272 rfl rfl ?_
    refine uSIN 14 #[vi (negI (own_abs x)), vi (Int32.ofNat (own_sg x)), vi (-10 : Int32), un] hx hby d273 rfl rfl ?_
    refine uKc 15 (1 : Int32) hx hby d274 rfl rfl ?_
    refine uSIN 16 #[vi (negI (own_abs x)), vi (Int32.ofNat (own_sg x)), vi (-10 : Int32), vi (1 : Int32)] hx hby d275 rfl rfl ?_
    refine uIN 17 hx hby d276 rfl rfl ?_
    refine uKb 19 (10 : Int32) hx hby d277 rfl rfl ?_
    refine uNc 22 hx hby d278 rfl (tlt (by decide)).2.1 ?_
    refine uIN 23 hx hby d279 rfl rfl ?_
    refine uIN 24 hx hby d280 rfl rfl ?_
    by_cases g : (-10 : Int32) < (negI (own_abs x))
    · refine uNc 27 hx hby d281 rfl (tlt g).2.2.2 ?_
      have m1 := (own_ltn hle 10 (by decide) (-10) (by decide +kernel)).mp g
      refine uIN 28 hx hby d282 rfl rfl ?_
      refine uIN 29 hx hby d283 rfl rfl ?_
      refine uiadd 30 ((1 : Int32) + (Int32.ofNat (own_sg x))) hx hby d284 rfl rfl ?_
      exact gretI hx hret (hb hby d285) (by decide) (by decide) (fun vq Cq => ⟨(congrArg (fun z => some (Value.int z)) (own_size 1 (1 : Int32) (by decide) (Nat.le_antisymm (own_du1 (by omega)) (own_dn_pos _).1))), ((Keep.refl h0 []).trans K1 all0)⟩)
    · refine uYc 31 hx hby d281 (flt g).2.2.2 (by decide) (by decide) ?_
      have m1 : ¬ own_abs x < 10 := fun q => g ((own_ltn hle 10 (by decide) (-10) (by decide +kernel)).mpr q)
      refine uKb 33 (10 : Int32) hx hby d286 rfl rfl ?_
      refine uIN 34 hx hby d287 rfl rfl ?_
      refine uimul 35 (-100 : Int32) hx hby d288 rfl (by decide) ?_
      refine uSIN 36 #[vi (negI (own_abs x)), vi (Int32.ofNat (own_sg x)), vi (-100 : Int32), vi (1 : Int32)] hx hby d289 rfl rfl ?_
      refine uInc 39 #[vi (negI (own_abs x)), vi (Int32.ofNat (own_sg x)), vi (-100 : Int32), vi (2 : Int32)] hx hby d290 rfl rfl rfl ?_
      refine uG 16 hx hby d291 (by decide) (by decide) ?_
      refine uIN 17 hx hby d276 rfl rfl ?_
      refine uKb 19 (10 : Int32) hx hby d277 rfl rfl ?_
      refine uNc 22 hx hby d278 rfl (tlt (by decide)).2.1 ?_
      refine uIN 23 hx hby d279 rfl rfl ?_
      refine uIN 24 hx hby d280 rfl rfl ?_
      by_cases g : (-100 : Int32) < (negI (own_abs x))
      · refine uNc 27 hx hby d281 rfl (tlt g).2.2.2 ?_
        have m2 := (own_ltn hle 100 (by decide) (-100) (by decide +kernel)).mp g
        refine uIN 28 hx hby d282 rfl rfl ?_
        refine uIN 29 hx hby d283 rfl rfl ?_
        refine uiadd 30 ((2 : Int32) + (Int32.ofNat (own_sg x))) hx hby d284 rfl rfl ?_
        exact gretI hx hret (hb hby d285) (by decide) (by decide) (fun vq Cq => ⟨(congrArg (fun z => some (Value.int z)) (own_size 2 (2 : Int32) (by decide) (Nat.le_antisymm (own_du2 (by omega)) (own_dg2 (by omega))))), ((Keep.refl h0 []).trans K1 all0)⟩)
      · refine uYc 31 hx hby d281 (flt g).2.2.2 (by decide) (by decide) ?_
        have m2 : ¬ own_abs x < 100 := fun q => g ((own_ltn hle 100 (by decide) (-100) (by decide +kernel)).mpr q)
        refine uKb 33 (10 : Int32) hx hby d286 rfl rfl ?_
        refine uIN 34 hx hby d287 rfl rfl ?_
        refine uimul 35 (-1000 : Int32) hx hby d288 rfl (by decide) ?_
        refine uSIN 36 #[vi (negI (own_abs x)), vi (Int32.ofNat (own_sg x)), vi (-1000 : Int32), vi (2 : Int32)] hx hby d289 rfl rfl ?_
        refine uInc 39 #[vi (negI (own_abs x)), vi (Int32.ofNat (own_sg x)), vi (-1000 : Int32), vi (3 : Int32)] hx hby d290 rfl rfl rfl ?_
        refine uG 16 hx hby d291 (by decide) (by decide) ?_
        refine uIN 17 hx hby d276 rfl rfl ?_
        refine uKb 19 (10 : Int32) hx hby d277 rfl rfl ?_
        refine uNc 22 hx hby d278 rfl (tlt (by decide)).2.1 ?_
        refine uIN 23 hx hby d279 rfl rfl ?_
        refine uIN 24 hx hby d280 rfl rfl ?_
        by_cases g : (-1000 : Int32) < (negI (own_abs x))
        · refine uNc 27 hx hby d281 rfl (tlt g).2.2.2 ?_
          have m3 := (own_ltn hle 1000 (by decide) (-1000) (by decide +kernel)).mp g
          refine uIN 28 hx hby d282 rfl rfl ?_
          refine uIN 29 hx hby d283 rfl rfl ?_
          refine uiadd 30 ((3 : Int32) + (Int32.ofNat (own_sg x))) hx hby d284 rfl rfl ?_
          exact gretI hx hret (hb hby d285) (by decide) (by decide) (fun vq Cq => ⟨(congrArg (fun z => some (Value.int z)) (own_size 3 (3 : Int32) (by decide) (Nat.le_antisymm (own_du3 (by omega)) (own_dg3 (by omega))))), ((Keep.refl h0 []).trans K1 all0)⟩)
        · refine uYc 31 hx hby d281 (flt g).2.2.2 (by decide) (by decide) ?_
          have m3 : ¬ own_abs x < 1000 := fun q => g ((own_ltn hle 1000 (by decide) (-1000) (by decide +kernel)).mpr q)
          refine uKb 33 (10 : Int32) hx hby d286 rfl rfl ?_
          refine uIN 34 hx hby d287 rfl rfl ?_
          refine uimul 35 (-10000 : Int32) hx hby d288 rfl (by decide) ?_
          refine uSIN 36 #[vi (negI (own_abs x)), vi (Int32.ofNat (own_sg x)), vi (-10000 : Int32), vi (3 : Int32)] hx hby d289 rfl rfl ?_
          refine uInc 39 #[vi (negI (own_abs x)), vi (Int32.ofNat (own_sg x)), vi (-10000 : Int32), vi (4 : Int32)] hx hby d290 rfl rfl rfl ?_
          refine uG 16 hx hby d291 (by decide) (by decide) ?_
          refine uIN 17 hx hby d276 rfl rfl ?_
          refine uKb 19 (10 : Int32) hx hby d277 rfl rfl ?_
          refine uNc 22 hx hby d278 rfl (tlt (by decide)).2.1 ?_
          refine uIN 23 hx hby d279 rfl rfl ?_
          refine uIN 24 hx hby d280 rfl rfl ?_
          by_cases g : (-10000 : Int32) < (negI (own_abs x))
          · refine uNc 27 hx hby d281 rfl (tlt g).2.2.2 ?_
            have m4 := (own_ltn hle 10000 (by decide) (-10000) (by decide +kernel)).mp g
            refine uIN 28 hx hby d282 rfl rfl ?_
            refine uIN 29 hx hby d283 rfl rfl ?_
            refine uiadd 30 ((4 : Int32) + (Int32.ofNat (own_sg x))) hx hby d284 rfl rfl ?_
            exact gretI hx hret (hb hby d285) (by decide) (by decide) (fun vq Cq => ⟨(congrArg (fun z => some (Value.int z)) (own_size 4 (4 : Int32) (by decide) (Nat.le_antisymm (own_du4 (by omega)) (own_dg4 (by omega))))), ((Keep.refl h0 []).trans K1 all0)⟩)
          · refine uYc 31 hx hby d281 (flt g).2.2.2 (by decide) (by decide) ?_
            have m4 : ¬ own_abs x < 10000 := fun q => g ((own_ltn hle 10000 (by decide) (-10000) (by decide +kernel)).mpr q)
            refine uKb 33 (10 : Int32) hx hby d286 rfl rfl ?_
            refine uIN 34 hx hby d287 rfl rfl ?_
            refine uimul 35 (-100000 : Int32) hx hby d288 rfl (by decide) ?_
            refine uSIN 36 #[vi (negI (own_abs x)), vi (Int32.ofNat (own_sg x)), vi (-100000 : Int32), vi (4 : Int32)] hx hby d289 rfl rfl ?_
            refine uInc 39 #[vi (negI (own_abs x)), vi (Int32.ofNat (own_sg x)), vi (-100000 : Int32), vi (5 : Int32)] hx hby d290 rfl rfl rfl ?_
            refine uG 16 hx hby d291 (by decide) (by decide) ?_
            refine uIN 17 hx hby d276 rfl rfl ?_
            refine uKb 19 (10 : Int32) hx hby d277 rfl rfl ?_
            refine uNc 22 hx hby d278 rfl (tlt (by decide)).2.1 ?_
            refine uIN 23 hx hby d279 rfl rfl ?_
            refine uIN 24 hx hby d280 rfl rfl ?_
            by_cases g : (-100000 : Int32) < (negI (own_abs x))
            · refine uNc 27 hx hby d281 rfl (tlt g).2.2.2 ?_
              have m5 := (own_ltn hle 100000 (by decide) (-100000) (by decide +kernel)).mp g
              refine uIN 28 hx hby d282 rfl rfl ?_
              refine uIN 29 hx hby d283 rfl rfl ?_
              refine uiadd 30 ((5 : Int32) + (Int32.ofNat (own_sg x))) hx hby d284 rfl rfl ?_
              exact gretI hx hret (hb hby d285) (by decide) (by decide) (fun vq Cq => ⟨(congrArg (fun z => some (Value.int z)) (own_size 5 (5 : Int32) (by decide) (Nat.le_antisymm (own_du5 (by omega)) (own_dg5 (by omega))))), ((Keep.refl h0 []).trans K1 all0)⟩)
            · refine uYc 31 hx hby d281 (flt g).2.2.2 (by decide) (by decide) ?_
              have m5 : ¬ own_abs x < 100000 := fun q => g ((own_ltn hle 100000 (by decide) (-100000) (by decide +kernel)).mpr q)
              refine uKb 33 (10 : Int32) hx hby d286 rfl rfl ?_
              refine uIN 34 hx hby d287 rfl rfl ?_
              refine uimul 35 (-1000000 : Int32) hx hby d288 rfl (by decide) ?_
              refine uSIN 36 #[vi (negI (own_abs x)), vi (Int32.ofNat (own_sg x)), vi (-1000000 : Int32), vi (5 : Int32)] hx hby d289 rfl rfl ?_
              refine uInc 39 #[vi (negI (own_abs x)), vi (Int32.ofNat (own_sg x)), vi (-1000000 : Int32), vi (6 : Int32)] hx hby d290 rfl rfl rfl ?_
              refine uG 16 hx hby d291 (by decide) (by decide) ?_
              refine uIN 17 hx hby d276 rfl rfl ?_
              refine uKb 19 (10 : Int32) hx hby d277 rfl rfl ?_
              refine uNc 22 hx hby d278 rfl (tlt (by decide)).2.1 ?_
              refine uIN 23 hx hby d279 rfl rfl ?_
              refine uIN 24 hx hby d280 rfl rfl ?_
              by_cases g : (-1000000 : Int32) < (negI (own_abs x))
              · refine uNc 27 hx hby d281 rfl (tlt g).2.2.2 ?_
                have m6 := (own_ltn hle 1000000 (by decide) (-1000000) (by decide +kernel)).mp g
                refine uIN 28 hx hby d282 rfl rfl ?_
                refine uIN 29 hx hby d283 rfl rfl ?_
                refine uiadd 30 ((6 : Int32) + (Int32.ofNat (own_sg x))) hx hby d284 rfl rfl ?_
                exact gretI hx hret (hb hby d285) (by decide) (by decide) (fun vq Cq => ⟨(congrArg (fun z => some (Value.int z)) (own_size 6 (6 : Int32) (by decide) (Nat.le_antisymm (own_du6 (by omega)) (own_dg6 (by omega))))), ((Keep.refl h0 []).trans K1 all0)⟩)
              · refine uYc 31 hx hby d281 (flt g).2.2.2 (by decide) (by decide) ?_
                have m6 : ¬ own_abs x < 1000000 := fun q => g ((own_ltn hle 1000000 (by decide) (-1000000) (by decide +kernel)).mpr q)
                refine uKb 33 (10 : Int32) hx hby d286 rfl rfl ?_
                refine uIN 34 hx hby d287 rfl rfl ?_
                refine uimul 35 (-10000000 : Int32) hx hby d288 rfl (by decide) ?_
                refine uSIN 36 #[vi (negI (own_abs x)), vi (Int32.ofNat (own_sg x)), vi (-10000000 : Int32), vi (6 : Int32)] hx hby d289 rfl rfl ?_
                refine uInc 39 #[vi (negI (own_abs x)), vi (Int32.ofNat (own_sg x)), vi (-10000000 : Int32), vi (7 : Int32)] hx hby d290 rfl rfl rfl ?_
                refine uG 16 hx hby d291 (by decide) (by decide) ?_
                refine uIN 17 hx hby d276 rfl rfl ?_
                refine uKb 19 (10 : Int32) hx hby d277 rfl rfl ?_
                refine uNc 22 hx hby d278 rfl (tlt (by decide)).2.1 ?_
                refine uIN 23 hx hby d279 rfl rfl ?_
                refine uIN 24 hx hby d280 rfl rfl ?_
                by_cases g : (-10000000 : Int32) < (negI (own_abs x))
                · refine uNc 27 hx hby d281 rfl (tlt g).2.2.2 ?_
                  have m7 := (own_ltn hle 10000000 (by decide) (-10000000) (by decide +kernel)).mp g
                  refine uIN 28 hx hby d282 rfl rfl ?_
                  refine uIN 29 hx hby d283 rfl rfl ?_
                  refine uiadd 30 ((7 : Int32) + (Int32.ofNat (own_sg x))) hx hby d284 rfl rfl ?_
                  exact gretI hx hret (hb hby d285) (by decide) (by decide) (fun vq Cq => ⟨(congrArg (fun z => some (Value.int z)) (own_size 7 (7 : Int32) (by decide) (Nat.le_antisymm (own_du7 (by omega)) (own_dg7 (by omega))))), ((Keep.refl h0 []).trans K1 all0)⟩)
                · refine uYc 31 hx hby d281 (flt g).2.2.2 (by decide) (by decide) ?_
                  have m7 : ¬ own_abs x < 10000000 := fun q => g ((own_ltn hle 10000000 (by decide) (-10000000) (by decide +kernel)).mpr q)
                  refine uKb 33 (10 : Int32) hx hby d286 rfl rfl ?_
                  refine uIN 34 hx hby d287 rfl rfl ?_
                  refine uimul 35 (-100000000 : Int32) hx hby d288 rfl (by decide) ?_
                  refine uSIN 36 #[vi (negI (own_abs x)), vi (Int32.ofNat (own_sg x)), vi (-100000000 : Int32), vi (7 : Int32)] hx hby d289 rfl rfl ?_
                  refine uInc 39 #[vi (negI (own_abs x)), vi (Int32.ofNat (own_sg x)), vi (-100000000 : Int32), vi (8 : Int32)] hx hby d290 rfl rfl rfl ?_
                  refine uG 16 hx hby d291 (by decide) (by decide) ?_
                  refine uIN 17 hx hby d276 rfl rfl ?_
                  refine uKb 19 (10 : Int32) hx hby d277 rfl rfl ?_
                  refine uNc 22 hx hby d278 rfl (tlt (by decide)).2.1 ?_
                  refine uIN 23 hx hby d279 rfl rfl ?_
                  refine uIN 24 hx hby d280 rfl rfl ?_
                  by_cases g : (-100000000 : Int32) < (negI (own_abs x))
                  · refine uNc 27 hx hby d281 rfl (tlt g).2.2.2 ?_
                    have m8 := (own_ltn hle 100000000 (by decide) (-100000000) (by decide +kernel)).mp g
                    refine uIN 28 hx hby d282 rfl rfl ?_
                    refine uIN 29 hx hby d283 rfl rfl ?_
                    refine uiadd 30 ((8 : Int32) + (Int32.ofNat (own_sg x))) hx hby d284 rfl rfl ?_
                    exact gretI hx hret (hb hby d285) (by decide) (by decide) (fun vq Cq => ⟨(congrArg (fun z => some (Value.int z)) (own_size 8 (8 : Int32) (by decide) (Nat.le_antisymm (own_du8 (by omega)) (own_dg8 (by omega))))), ((Keep.refl h0 []).trans K1 all0)⟩)
                  · refine uYc 31 hx hby d281 (flt g).2.2.2 (by decide) (by decide) ?_
                    have m8 : ¬ own_abs x < 100000000 := fun q => g ((own_ltn hle 100000000 (by decide) (-100000000) (by decide +kernel)).mpr q)
                    refine uKb 33 (10 : Int32) hx hby d286 rfl rfl ?_
                    refine uIN 34 hx hby d287 rfl rfl ?_
                    refine uimul 35 (-1000000000 : Int32) hx hby d288 rfl (by decide) ?_
                    refine uSIN 36 #[vi (negI (own_abs x)), vi (Int32.ofNat (own_sg x)), vi (-1000000000 : Int32), vi (8 : Int32)] hx hby d289 rfl rfl ?_
                    refine uInc 39 #[vi (negI (own_abs x)), vi (Int32.ofNat (own_sg x)), vi (-1000000000 : Int32), vi (9 : Int32)] hx hby d290 rfl rfl rfl ?_
                    refine uG 16 hx hby d291 (by decide) (by decide) ?_
                    refine uIN 17 hx hby d276 rfl rfl ?_
                    refine uKb 19 (10 : Int32) hx hby d277 rfl rfl ?_
                    refine uNc 22 hx hby d278 rfl (tlt (by decide)).2.1 ?_
                    refine uIN 23 hx hby d279 rfl rfl ?_
                    refine uIN 24 hx hby d280 rfl rfl ?_
                    by_cases g : (-1000000000 : Int32) < (negI (own_abs x))
                    · refine uNc 27 hx hby d281 rfl (tlt g).2.2.2 ?_
                      have m9 := (own_ltn hle 1000000000 (by decide) (-1000000000) (by decide +kernel)).mp g
                      refine uIN 28 hx hby d282 rfl rfl ?_
                      refine uIN 29 hx hby d283 rfl rfl ?_
                      refine uiadd 30 ((9 : Int32) + (Int32.ofNat (own_sg x))) hx hby d284 rfl rfl ?_
                      exact gretI hx hret (hb hby d285) (by decide) (by decide) (fun vq Cq => ⟨(congrArg (fun z => some (Value.int z)) (own_size 9 (9 : Int32) (by decide) (Nat.le_antisymm (own_du9 (by omega)) (own_dg9 (by omega))))), ((Keep.refl h0 []).trans K1 all0)⟩)
                    · refine uYc 31 hx hby d281 (flt g).2.2.2 (by decide) (by decide) ?_
                      have m9 : ¬ own_abs x < 1000000000 := fun q => g ((own_ltn hle 1000000000 (by decide) (-1000000000) (by decide +kernel)).mpr q)
                      refine uKb 33 (10 : Int32) hx hby d286 rfl rfl ?_
                      refine uIN 34 hx hby d287 rfl rfl ?_
                      refine uimul 35 (-1410065408 : Int32) hx hby d288 rfl (by decide) ?_
                      refine uSIN 36 #[vi (negI (own_abs x)), vi (Int32.ofNat (own_sg x)), vi (-1410065408 : Int32), vi (9 : Int32)] hx hby d289 rfl rfl ?_
                      refine uInc 39 #[vi (negI (own_abs x)), vi (Int32.ofNat (own_sg x)), vi (-1410065408 : Int32), vi (10 : Int32)] hx hby d290 rfl rfl rfl ?_
                      refine uG 16 hx hby d291 (by decide) (by decide) ?_
                      refine uIN 17 hx hby d276 rfl rfl ?_
                      refine uKb 19 (10 : Int32) hx hby d277 rfl rfl ?_
                      refine uYc 42 hx hby d278 (flt (by decide)).2.1 (by decide) (by decide) ?_
                      refine uKb 44 (10 : Int32) hx hby d292 rfl rfl ?_
                      refine uIN 45 hx hby d293 rfl rfl ?_
                      refine uiadd 46 ((10 : Int32) + (Int32.ofNat (own_sg x))) hx hby d294 rfl rfl ?_
                      exact gretI hx hret (hb hby d295) (by decide) (by decide) (fun vq Cq => ⟨(congrArg (fun z => some (Value.int z)) (own_size 10 (10 : Int32) (by decide) (Nat.le_antisymm (own_dn_pos _).2 (own_dg10 (by omega))))), ((Keep.refl h0 []).trans K1 all0)⟩)
  · intro J1
    refine uKc 1 (1 : Int32) hx hby d263 rfl rfl ?_
    refine uSIN 2 #[vi x, vi (1 : Int32), un, un] hx hby d264 rfl rfl ?_
    refine uIN 3 hx hby d265 rfl rfl ?_
    by_cases e1 : x < (0 : Int32)
    · refine uY 11 hx hby d266 ((if0 _ _).trans (tlt e1).1) (by decide) (by decide) ?_
      refine ginfo fun _ Hq _ => ?_
      exact gmono (by decide) (by decide) (J1 _ _ _ ⟨x, (1 : Int32), rfl, (Keep.refl h0 []), (CHr.refl Hq), (own_neg1 e1), (by rw [own_sg, if_pos e1]; rfl)⟩)
    · refine uN 6 hx hby d266 rfl ((if0 _ _).trans (flt e1).1) ?_
      refine uKc 7 (0 : Int32) hx hby d267 rfl rfl ?_
      refine uSIN 8 #[vi x, vi (0 : Int32), un, un] hx hby d268 rfl rfl ?_
      refine uIN 9 hx hby d269 rfl rfl ?_
      refine gs (mkF m 10 #[vi x, vi (0 : Int32), un, un] [(.int (-x))]) (fun _ _ A kq => XS.ineg A hx rfl (hb hby d270) rfl kq) ?_
      refine uSIN 11 #[vi (-x), vi (0 : Int32), un, un] hx hby d271 rfl rfl ?_
      refine ginfo fun _ Hq _ => ?_
      exact gmono (by decide) (by decide) (J1 _ _ _ ⟨(-x), (0 : Int32), rfl, (Keep.refl h0 []), (CHr.refl Hq), (own_neg2 e1), (by rw [own_sg, if_neg e1]; rfl)⟩)
theorem d298 : decode y3_ 0 = .ok (.iload_n 1, 1) := by decide +kernel
theorem d299 : decode y3_ 1 = .ok (.istore 5, 2) := by decide +kernel
theorem d300 : decode y3_ 3 = .ok (.iload_n 0, 1) := by decide +kernel
theorem d301 : decode y3_ 4 = .ok (.ifCond .ge 7, 3) := by decide +kernel
theorem d302 : decode y3_ 7 = .ok (.iconst 1, 1) := by decide +kernel
theorem d303 : decode y3_ 8 = .ok (.goto 4, 3) := by decide +kernel
theorem d304 : decode y3_ 12 = .ok (.istore 6, 2) := by decide +kernel
theorem d305 : decode y3_ 14 = .ok (.iload 6, 2) := by decide +kernel
theorem d306 : decode y3_ 16 = .ok (.ifCond .ne 6, 3) := by decide +kernel
theorem d307 : decode y3_ 11 = .ok (.iconst 0, 1) := by decide +kernel
theorem d308 : decode y3_ 19 = .ok (.iload_n 0, 1) := by decide +kernel
theorem d309 : decode y3_ 20 = .ok (.ineg, 1) := by decide +kernel
theorem d310 : decode y3_ 21 = .ok (.istore_n 0, 1) := by decide +kernel
theorem d311 : decode y3_ 22 = .ok (.iload_n 0, 1) := by decide +kernel
theorem d312 : decode y3_ 23 = .ok (.bipush (-100), 2) := by decide +kernel
theorem d313 : decode y3_ 25 = .ok (.if_icmp .gt 47, 3) := by decide +kernel
theorem d314 : decode y3_ 72 = .ok (.aload_n 2, 1) := by decide +kernel
theorem d315 : decode y3_ 73 = .ok (.iinc 5 (-1), 3) := by decide +kernel
theorem d316 : decode y3_ 76 = .ok (.iload 5, 2) := by decide +kernel
theorem d317 : decode y3_ 78 = .ok (.getstatic 83, 3) := by decide +kernel
theorem d318 : decode y3_ 81 = .ok (.iload_n 0, 1) := by decide +kernel
theorem d319 : decode y3_ 82 = .ok (.ineg, 1) := by decide +kernel
theorem d320 : decode y3_ 83 = .ok (.baload, 1) := by decide +kernel
theorem d321 : decode y3_ 84 = .ok (.bastore, 1) := by decide +kernel
theorem d322 : decode y3_ 85 = .ok (.iload_n 0, 1) := by decide +kernel
theorem d323 : decode y3_ 86 = .ok (.bipush (-9), 2) := by decide +kernel
theorem d324 : decode y3_ 88 = .ok (.if_icmp .ge 16, 3) := by decide +kernel
theorem d325 : decode y3_ 91 = .ok (.aload_n 2, 1) := by decide +kernel
theorem d326 : decode y3_ 92 = .ok (.iinc 5 (-1), 3) := by decide +kernel
theorem d327 : decode y3_ 95 = .ok (.iload 5, 2) := by decide +kernel
theorem d328 : decode y3_ 97 = .ok (.getstatic 87, 3) := by decide +kernel
theorem d329 : decode y3_ 100 = .ok (.iload_n 0, 1) := by decide +kernel
theorem d330 : decode y3_ 101 = .ok (.ineg, 1) := by decide +kernel
theorem d331 : decode y3_ 102 = .ok (.baload, 1) := by decide +kernel
theorem d332 : decode y3_ 103 = .ok (.bastore, 1) := by decide +kernel
theorem d333 : decode y3_ 104 = .ok (.iload 6, 2) := by decide +kernel
theorem d334 : decode y3_ 106 = .ok (.ifCond .eq 12, 3) := by decide +kernel
theorem d335 : decode y3_ 118 = .ok (.iload 5, 2) := by decide +kernel
theorem d336 : decode y3_ 120 = .ok (.ireturn, 1) := by decide +kernel
theorem d337 : decode y3_ 109 = .ok (.aload_n 2, 1) := by decide +kernel
theorem d338 : decode y3_ 110 = .ok (.iinc 5 (-1), 3) := by decide +kernel
theorem d339 : decode y3_ 113 = .ok (.iload 5, 2) := by decide +kernel
theorem d340 : decode y3_ 115 = .ok (.bipush 45, 2) := by decide +kernel
theorem d341 : decode y3_ 117 = .ok (.bastore, 1) := by decide +kernel
theorem d342 : decode y3_ 28 = .ok (.iload_n 0, 1) := by decide +kernel
theorem d343 : decode y3_ 29 = .ok (.bipush 100, 2) := by decide +kernel
theorem d344 : decode y3_ 31 = .ok (.idiv, 1) := by decide +kernel
theorem d345 : decode y3_ 32 = .ok (.istore_n 3, 1) := by decide +kernel
theorem d346 : decode y3_ 33 = .ok (.iload_n 3, 1) := by decide +kernel
theorem d347 : decode y3_ 34 = .ok (.bipush 100, 2) := by decide +kernel
theorem d348 : decode y3_ 36 = .ok (.imul, 1) := by decide +kernel
theorem d349 : decode y3_ 37 = .ok (.iload_n 0, 1) := by decide +kernel
theorem d350 : decode y3_ 38 = .ok (.isub, 1) := by decide +kernel
theorem d351 : decode y3_ 39 = .ok (.istore 4, 2) := by decide +kernel
theorem d352 : decode y3_ 41 = .ok (.iload_n 3, 1) := by decide +kernel
theorem d353 : decode y3_ 42 = .ok (.istore_n 0, 1) := by decide +kernel
theorem d354 : decode y3_ 43 = .ok (.aload_n 2, 1) := by decide +kernel
theorem d355 : decode y3_ 44 = .ok (.iinc 5 (-1), 3) := by decide +kernel
theorem d356 : decode y3_ 47 = .ok (.iload 5, 2) := by decide +kernel
theorem d357 : decode y3_ 49 = .ok (.getstatic 83, 3) := by decide +kernel
theorem d358 : decode y3_ 52 = .ok (.iload 4, 2) := by decide +kernel
theorem d359 : decode y3_ 54 = .ok (.baload, 1) := by decide +kernel
theorem d360 : decode y3_ 55 = .ok (.bastore, 1) := by decide +kernel
theorem d361 : decode y3_ 56 = .ok (.aload_n 2, 1) := by decide +kernel
theorem d362 : decode y3_ 57 = .ok (.iinc 5 (-1), 3) := by decide +kernel
theorem d363 : decode y3_ 60 = .ok (.iload 5, 2) := by decide +kernel
theorem d364 : decode y3_ 62 = .ok (.getstatic 87, 3) := by decide +kernel
theorem d365 : decode y3_ 65 = .ok (.iload 4, 2) := by decide +kernel
theorem d366 : decode y3_ 67 = .ok (.baload, 1) := by decide +kernel
theorem d367 : decode y3_ 68 = .ok (.bastore, 1) := by decide +kernel
theorem d368 : decode y3_ 69 = .ok (.goto (-47), 3) := by decide +kernel
abbrev mn369 : MethodName := ⟨"java/lang/Integer", "getChars", "(II[B)I"⟩
theorem own_getChars (l : Launch) (Z : State) (a0 : Array Value) (cx : Ctx Z a0) (ws : List Jvm.Cond) (x : Int32) (j : Nat) (b : Addr) (kb : ClassId) (M : Nat) (vd : List Value) (vm0 : Vm) (h0 : Heap) (X00 : Ext Z.heap h0) (P0 : Arv Z h0 b kb .byte (Int32.ofNat M) vd (.int (0 : Int32))) (P1 : Z.heap.size ≤ b) (P2 : Safe Z consts_1 vm0 h0 b) (hj : ((j + (own_dec x).length) ≤ M)) (hM : (M ≤ 4000)) (hvd : (vd.length = M)) :
    Met l mn369 y3_ 7 (some .int) ws ({ frames := 0, cells := 0, slots := 0, locals := 0 } : Room) Z consts_1 vm0 h0 #[(.int x), (.int (Int32.ofNat (j + (own_dec x).length))), (.ref b)] (fun rv vm h => rv = some (.int (Int32.ofNat j)) ∧ Keep h0 h [b] ∧ Arv Z h b kb .byte (Int32.ofNat M) (vd.take j ++ lo8s (own_dec x) ++ vd.drop (j + (own_dec x).length)) (.int (0 : Int32)) ∧ Safe Z consts_1 vm h b) := by
  obtain ⟨hw, hEL, ⟨zc, Scs, hzc⟩, ⟨fm, Sfm, hfm⟩, hI0⟩ := id cx
  have hSA := own_SA hw
  refine Met.of_walk (a0 := a0) #[vi x, vi (Int32.ofNat (j + (own_dec x).length)), vr b, un, un, un, un] (plainFor_of_name own_pn297) X00 hEL (fun m => by first | (simp [entryFrame, mkF, argsToLocals, Value.category]; done) | rfl) ?_
  intro p e s m below meth c vm hx hby hml hret hnm hC0 hW0
  have lt_b : h0.size > b := P0.lt
  have L2 := hC0.safe lt_b P2
  obtain ⟨dgo, dgt, kgo, kgt, Sgo, Vgo, Sgt, Vgt⟩ := hI0
  refine ginfo fun _ _ OI => ?_
  have hle := own_abs_le x
  have hD := own_dec_len x
  have hd1 := (own_dn_pos (own_abs x)).1
  have hD2 := own_dec_le x
  have hsgl := own_sg_le x
  have Wdgo := Vgo.ext OI
  have lt_dgo : h0.size > dgo := Wdgo.lt
  have Wdgt := Vgt.ext OI
  have lt_dgt : h0.size > dgt := Wdgt.lt
  have VB : Arv Z h0 b kb .byte (Int32.ofNat M) (own_w vd (j + (own_dec x).length) (j + (own_dec x).length) ([] : List Int32)) (.int (0 : Int32)) := Eq.mp (congrArg (fun z => Arv Z h0 b kb .byte (Int32.ofNat M) z (.int (0 : Int32))) (own_w0 vd (j + (own_dec x).length))) P0
  refine gjoin (fun vmJ hJ gJ => ∃ (nn2 : Int32), ∃ (sg2 : Int32), gJ = (mkF m 22 #[vi nn2, vi (Int32.ofNat (j + (own_dec x).length)), vr b, un, un, vi (Int32.ofNat (j + (own_dec x).length)), vi sg2] []) ∧ Keep h0 hJ [] ∧ CHr Z consts_1 vm h0 vmJ hJ ∧ (nn2 = negI (own_abs x)) ∧ (sg2 = Int32.ofNat (own_sg x))) 0 0 ?_ ?_
  · rintro vm2 h2 _ ⟨nn2, sg2, rfl, K2, C2, q2_0, q2_1⟩
    have z2 := C2.2.1
    refine gat (mkF m 22 #[vi (negI (own_abs x)), vi (Int32.ofNat (j + (own_dec x).length)), vr b, un, un, vi (Int32.ofNat (j + (own_dec x).length)), vi (Int32.ofNat (own_sg x))] []) (by rw [q2_0, q2_1]) ?_
    refine uIN 23 hx hby d311 rfl rfl ?_
    refine uKb 25 (-100 : Int32) hx hby d312 rfl rfl ?_
    by_cases g : (-100 : Int32) < (negI (own_abs x))
    · refine uYc 72 hx hby d313 (tlt g).2.2.1 (by decide) (by decide) ?_
      have m0 := (own_ltn (n := (own_abs x)) (by omega) 100 (by decide) (-100) (by decide +kernel)).mp g
      refine uAN 73 hx hby d314 rfl rfl rfl ?_
      refine uInc 76 #[vi (negI (own_abs x)), vi (Int32.ofNat (j + (own_dec x).length)), vr b, un, un, vi ((Int32.ofNat (j + (own_dec x).length)) + (-1 : Int32)), vi (Int32.ofNat (own_sg x))] hx hby d315 rfl rfl rfl ?_
      refine gat (mkF m 76 #[vi (negI (own_abs x)), vi (Int32.ofNat (j + (own_dec x).length)), vr b, un, un, vi (Int32.ofNat (j + (own_dec x).length - 1)), vi (Int32.ofNat (own_sg x))] [(.ref b)]) (by rw [own_dec1 (a := (j + (own_dec x).length)) (b := (j + (own_dec x).length - 1)) (by omega) (by omega)]) ?_
      refine uI 78 hx hby d316 rfl rfl ?_
      refine ggetS (host := "") hx (Or.inl (ow hw 132 rfl)) Via.refl Sgo 81 (hb hby d317) rfl ?_
      refine uIN 82 hx hby d318 rfl rfl ?_
      refine gs (mkF m 83 #[vi (negI (own_abs x)), vi (Int32.ofNat (j + (own_dec x).length)), vr b, un, un, vi (Int32.ofNat (j + (own_dec x).length - 1)), vi (Int32.ofNat (own_sg x))] [(.int (-(negI (own_abs x)))), (.ref dgo), (.int (Int32.ofNat (j + (own_dec x).length - 1))), (.ref b)]) (fun _ _ A kq => XS.ineg A hx rfl (hb hby d319) rfl kq) ?_
      refine gat (mkF m 83 #[vi (negI (own_abs x)), vi (Int32.ofNat (j + (own_dec x).length)), vr b, un, un, vi (Int32.ofNat (j + (own_dec x).length - 1)), vi (Int32.ofNat (own_sg x))] [(.int (Int32.ofNat ((own_abs x) % 100))), (.ref dgo), (.int (Int32.ofNat (j + (own_dec x).length - 1))), (.ref b)]) (by rw [own_negm (n := (own_abs x)) (by omega)]) ?_
      have f3 := (Wdgo.keep K2 nin0)
      refine gldB hx f3 (own_lt100 _) (i := ((own_abs x) % 100)) (tn (by omega)) (v := (.int (own_dc (own_abs x)))) (own_ones _) 84 (hb hby d320) rfl ?_
      have f4 := (VB.keep K2 nin0)
      have f6 := (C2.safe (show h0.size > b by omega) L2)
      refine gstB hx f4 ⟨nn0 (by omega), (ltOf (by omega) hM).mpr (by omega)⟩ (i := (j + (own_dec x).length - 1)) (tn (by omega)) (by rw [own_wl (by simp only [List.length_cons, List.length_nil]; omega) (by omega), hvd]; omega) (y := ((own_dc (own_abs x)).toInt8.toInt32)) rfl P1 (fun _ => f6) 85 (hb hby d321) rfl ?_
      intro h5 W5 C5 V5
      have z5 := C5.2.1
      have X7 : Arv Z h5 b kb .byte (Int32.ofNat M) (own_w vd (j + (own_dec x).length - 1) (j + (own_dec x).length) [(own_dc (own_abs x))]) (.int (0 : Int32)) := Eq.mp (congrArg (fun z => Arv Z h5 b kb .byte (Int32.ofNat M) z (.int (0 : Int32))) (own_w1 (p := (j + (own_dec x).length)) (q := (j + (own_dec x).length - 1)) (c := (own_dc (own_abs x))) (by omega) (by omega))) V5
      refine uIN 86 hx hby d322 rfl rfl ?_
      refine uKb 88 (-9 : Int32) hx hby d323 rfl rfl ?_
      by_cases g : (negI (own_abs x)) < (-9 : Int32)
      · refine uNc 91 hx hby d324 rfl (tlt g).2.1 ?_
        have m9 := (own_gtn (n := (own_abs x)) (by omega) 9 (by decide) (-9) (by decide +kernel)).mp g
        have hd9 := own_dg2 (n := own_abs x) (by omega)
        refine uAN 92 hx hby d325 rfl rfl rfl ?_
        refine uInc 95 #[vi (negI (own_abs x)), vi (Int32.ofNat (j + (own_dec x).length)), vr b, un, un, vi ((Int32.ofNat (j + (own_dec x).length - 1)) + (-1 : Int32)), vi (Int32.ofNat (own_sg x))] hx hby d326 rfl rfl rfl ?_
        refine gat (mkF m 95 #[vi (negI (own_abs x)), vi (Int32.ofNat (j + (own_dec x).length)), vr b, un, un, vi (Int32.ofNat (j + (own_dec x).length - 2)), vi (Int32.ofNat (own_sg x))] [(.ref b)]) (by rw [own_dec1 (a := (j + (own_dec x).length - 1)) (b := (j + (own_dec x).length - 2)) (by omega) (by omega)]) ?_
        refine uI 97 hx hby d327 rfl rfl ?_
        refine ggetS (host := "") hx (Or.inl (ow hw 224 rfl)) Via.refl Sgt 100 (hb hby d328) rfl ?_
        refine uIN 101 hx hby d329 rfl rfl ?_
        refine gs (mkF m 102 #[vi (negI (own_abs x)), vi (Int32.ofNat (j + (own_dec x).length)), vr b, un, un, vi (Int32.ofNat (j + (own_dec x).length - 2)), vi (Int32.ofNat (own_sg x))] [(.int (-(negI (own_abs x)))), (.ref dgt), (.int (Int32.ofNat (j + (own_dec x).length - 2))), (.ref b)]) (fun _ _ A kq => XS.ineg A hx rfl (hb hby d330) rfl kq) ?_
        refine gat (mkF m 102 #[vi (negI (own_abs x)), vi (Int32.ofNat (j + (own_dec x).length)), vr b, un, un, vi (Int32.ofNat (j + (own_dec x).length - 2)), vi (Int32.ofNat (own_sg x))] [(.int (Int32.ofNat ((own_abs x) % 100))), (.ref dgt), (.int (Int32.ofNat (j + (own_dec x).length - 2))), (.ref b)]) (by rw [own_negm (n := (own_abs x)) (by omega)]) ?_
        have f8 := ((Wdgt.keep K2 nin0).other W5 (Nat.ne_of_lt (Nat.lt_of_lt_of_le Vgt.lt P1)))
        refine gldB hx f8 (own_lt100 _) (i := ((own_abs x) % 100)) (tn (by omega)) (v := (.int (own_dc ((own_abs x) / 10)))) (own_tens _) 103 (hb hby d331) rfl ?_
        have f10 := (C5.safe (show h2.size > b by omega) f6)
        refine gstB hx X7 ⟨nn0 (by omega), (ltOf (by omega) hM).mpr (by omega)⟩ (i := (j + (own_dec x).length - 2)) (tn (by omega)) (by rw [own_wl (by simp only [List.length_cons, List.length_nil]; omega) (by omega), hvd]; omega) (y := ((own_dc ((own_abs x) / 10)).toInt8.toInt32)) rfl P1 (fun _ => f10) 104 (hb hby d332) rfl ?_
        intro h9 W9 C9 V9
        have z9 := C9.2.1
        have X11 : Arv Z h9 b kb .byte (Int32.ofNat M) (own_w vd (j + (own_dec x).length - 2) (j + (own_dec x).length) [(own_dc ((own_abs x) / 10)), (own_dc (own_abs x))]) (.int (0 : Int32)) := Eq.mp (congrArg (fun z => Arv Z h9 b kb .byte (Int32.ofNat M) z (.int (0 : Int32))) (own_w1 (p := (j + (own_dec x).length - 1)) (q := (j + (own_dec x).length - 2)) (c := (own_dc ((own_abs x) / 10))) (by omega) (by omega))) V9
        refine uI 106 hx hby d333 rfl rfl ?_
        by_cases g6 : (Int32.ofNat (own_sg x)) = (0 : Int32)
        · refine uY 118 hx hby d334 ((if0 _ _).trans (teq g6).1) (by decide) (by decide) ?_
          obtain ⟨e6, x6⟩ := own_sg0 g6
          have hdg : own_dn (own_abs x) = 2 := (Nat.le_antisymm (own_du2 (by omega)) (own_dg2 (by omega)))
          refine uI 120 hx hby d335 rfl rfl ?_
          have f13 := (C9.safe (show h5.size > b by omega) f10)
          exact gretI hx hret (hb hby d336) (by decide) (by decide) (fun vq Cq => ⟨(congrArg (fun z => some (Value.int z)) (congrArg Int32.ofNat (by omega))), ((((Keep.refl h0 [b]).trans K2 all0).wr W5 (Or.inl (List.mem_of_getElem? (i := 0) rfl))).wr W9 (Or.inl (List.mem_of_getElem? (i := 0) rfl))), (Eq.mp (congrArg (fun z => Arv Z h9 b kb .byte (Int32.ofNat M) z (.int (0 : Int32))) (own_wend (p := (j + (own_dec x).length - 2)) (ds := [(own_dc ((own_abs x) / 10)), (own_dc (own_abs x))]) (by omega) (by rw [own_dec, if_neg x6, hdg, (own_d100 0 (own_abs x) : own_digs 2 (own_abs x) = _)]; rfl))) X11), (Cq.safe (show h9.size > b by omega) f13)⟩)
        · refine uN 109 hx hby d334 rfl ((if0 _ _).trans (feq g6).1) ?_
          obtain ⟨e6, x6⟩ := own_sg1 g6
          have hdg : own_dn (own_abs x) = 2 := (Nat.le_antisymm (own_du2 (by omega)) (own_dg2 (by omega)))
          refine uAN 110 hx hby d337 rfl rfl rfl ?_
          refine uInc 113 #[vi (negI (own_abs x)), vi (Int32.ofNat (j + (own_dec x).length)), vr b, un, un, vi ((Int32.ofNat (j + (own_dec x).length - 2)) + (-1 : Int32)), vi (Int32.ofNat (own_sg x))] hx hby d338 rfl rfl rfl ?_
          refine gat (mkF m 113 #[vi (negI (own_abs x)), vi (Int32.ofNat (j + (own_dec x).length)), vr b, un, un, vi (Int32.ofNat (j + (own_dec x).length - 3)), vi (Int32.ofNat (own_sg x))] [(.ref b)]) (by rw [own_dec1 (a := (j + (own_dec x).length - 2)) (b := (j + (own_dec x).length - 3)) (by omega) (by omega)]) ?_
          refine uI 115 hx hby d339 rfl rfl ?_
          refine uKb 117 (45 : Int32) hx hby d340 rfl rfl ?_
          have f15 := (C9.safe (show h5.size > b by omega) f10)
          refine gstB hx X11 ⟨nn0 (by omega), (ltOf (by omega) hM).mpr (by omega)⟩ (i := (j + (own_dec x).length - 3)) (tn (by omega)) (by rw [own_wl (by simp only [List.length_cons, List.length_nil]; omega) (by omega), hvd]; omega) (y := ((45 : Int32).toInt8.toInt32)) rfl P1 (fun _ => f15) 118 (hb hby d341) rfl ?_
          intro h14 W14 C14 V14
          have z14 := C14.2.1
          have X16 : Arv Z h14 b kb .byte (Int32.ofNat M) (own_w vd (j + (own_dec x).length - 3) (j + (own_dec x).length) [(45 : Int32), (own_dc ((own_abs x) / 10)), (own_dc (own_abs x))]) (.int (0 : Int32)) := Eq.mp (congrArg (fun z => Arv Z h14 b kb .byte (Int32.ofNat M) z (.int (0 : Int32))) (own_w1 (p := (j + (own_dec x).length - 2)) (q := (j + (own_dec x).length - 3)) (c := (45 : Int32)) (by omega) (by omega))) V14
          refine uI 120 hx hby d335 rfl rfl ?_
          have f18 := (C14.safe (show h9.size > b by omega) f15)
          exact gretI hx hret (hb hby d336) (by decide) (by decide) (fun vq Cq => ⟨(congrArg (fun z => some (Value.int z)) (congrArg Int32.ofNat (by omega))), (((((Keep.refl h0 [b]).trans K2 all0).wr W5 (Or.inl (List.mem_of_getElem? (i := 0) rfl))).wr W9 (Or.inl (List.mem_of_getElem? (i := 0) rfl))).wr W14 (Or.inl (List.mem_of_getElem? (i := 0) rfl))), (Eq.mp (congrArg (fun z => Arv Z h14 b kb .byte (Int32.ofNat M) z (.int (0 : Int32))) (own_wend (p := (j + (own_dec x).length - 3)) (ds := [(45 : Int32), (own_dc ((own_abs x) / 10)), (own_dc (own_abs x))]) (by omega) (by rw [own_dec, if_pos x6, hdg, (own_d100 0 (own_abs x) : own_digs 2 (own_abs x) = _)]; rfl))) X16), (Cq.safe (show h14.size > b by omega) f18)⟩)
      · refine uYc 104 hx hby d324 (flt g).2.1 (by decide) (by decide) ?_
        have m9 : ¬ 9 < (own_abs x) := fun q => g ((own_gtn (n := (own_abs x)) (by omega) 9 (by decide) (-9) (by decide +kernel)).mpr q)
        refine uI 106 hx hby d333 rfl rfl ?_
        by_cases g6 : (Int32.ofNat (own_sg x)) = (0 : Int32)
        · refine uY 118 hx hby d334 ((if0 _ _).trans (teq g6).1) (by decide) (by decide) ?_
          obtain ⟨e6, x6⟩ := own_sg0 g6
          have hdg : own_dn (own_abs x) = 1 := (Nat.le_antisymm (own_du1 (by omega)) (own_dn_pos _).1)
          refine uI 120 hx hby d335 rfl rfl ?_
          have f20 := (C5.safe (show h2.size > b by omega) f6)
          exact gretI hx hret (hb hby d336) (by decide) (by decide) (fun vq Cq => ⟨(congrArg (fun z => some (Value.int z)) (congrArg Int32.ofNat (by omega))), (((Keep.refl h0 [b]).trans K2 all0).wr W5 (Or.inl (List.mem_of_getElem? (i := 0) rfl))), (Eq.mp (congrArg (fun z => Arv Z h5 b kb .byte (Int32.ofNat M) z (.int (0 : Int32))) (own_wend (p := (j + (own_dec x).length - 1)) (ds := [(own_dc (own_abs x))]) (by omega) (by rw [own_dec, if_neg x6, hdg]; rfl))) X7), (Cq.safe (show h5.size > b by omega) f20)⟩)
        · refine uN 109 hx hby d334 rfl ((if0 _ _).trans (feq g6).1) ?_
          obtain ⟨e6, x6⟩ := own_sg1 g6
          have hdg : own_dn (own_abs x) = 1 := (Nat.le_antisymm (own_du1 (by omega)) (own_dn_pos _).1)
          refine uAN 110 hx hby d337 rfl rfl rfl ?_
          refine uInc 113 #[vi (negI (own_abs x)), vi (Int32.ofNat (j + (own_dec x).length)), vr b, un, un, vi ((Int32.ofNat (j + (own_dec x).length - 1)) + (-1 : Int32)), vi (Int32.ofNat (own_sg x))] hx hby d338 rfl rfl rfl ?_
          refine gat (mkF m 113 #[vi (negI (own_abs x)), vi (Int32.ofNat (j + (own_dec x).length)), vr b, un, un, vi (Int32.ofNat (j + (own_dec x).length - 2)), vi (Int32.ofNat (own_sg x))] [(.ref b)]) (by rw [own_dec1 (a := (j + (own_dec x).length - 1)) (b := (j + (own_dec x).length - 2)) (by omega) (by omega)]) ?_
          refine uI 115 hx hby d339 rfl rfl ?_
          refine uKb 117 (45 : Int32) hx hby d340 rfl rfl ?_
          have f22 := (C5.safe (show h2.size > b by omega) f6)
          refine gstB hx X7 ⟨nn0 (by omega), (ltOf (by omega) hM).mpr (by omega)⟩ (i := (j + (own_dec x).length - 2)) (tn (by omega)) (by rw [own_wl (by simp only [List.length_cons, List.length_nil]; omega) (by omega), hvd]; omega) (y := ((45 : Int32).toInt8.toInt32)) rfl P1 (fun _ => f22) 118 (hb hby d341) rfl ?_
          intro h21 W21 C21 V21
          have z21 := C21.2.1
          have X23 : Arv Z h21 b kb .byte (Int32.ofNat M) (own_w vd (j + (own_dec x).length - 2) (j + (own_dec x).length) [(45 : Int32), (own_dc (own_abs x))]) (.int (0 : Int32)) := Eq.mp (congrArg (fun z => Arv Z h21 b kb .byte (Int32.ofNat M) z (.int (0 : Int32))) (own_w1 (p := (j + (own_dec x).length - 1)) (q := (j + (own_dec x).length - 2)) (c := (45 : Int32)) (by omega) (by omega))) V21
          refine uI 120 hx hby d335 rfl rfl ?_
          have f25 := (C21.safe (show h5.size > b by omega) f22)
          exact gretI hx hret (hb hby d336) (by decide) (by decide) (fun vq Cq => ⟨(congrArg (fun z => some (Value.int z)) (congrArg Int32.ofNat (by omega))), ((((Keep.refl h0 [b]).trans K2 all0).wr W5 (Or.inl (List.mem_of_getElem? (i := 0) rfl))).wr W21 (Or.inl (List.mem_of_getElem? (i := 0) rfl))), (Eq.mp (congrArg (fun z => Arv Z h21 b kb .byte (Int32.ofNat M) z (.int (0 : Int32))) (own_wend (p := (j + (own_dec x).length - 2)) (ds := [(45 : Int32), (own_dc (own_abs x))]) (by omega) (by rw [own_dec, if_pos x6, hdg]; rfl))) X23), (Cq.safe (show h21.size > b by omega) f25)⟩)
    · refine uNc 28 hx hby d313 rfl (flt g).2.2.1 ?_
      have m0 : ¬ (own_abs x) < 100 := fun q => g ((own_ltn (n := (own_abs x)) (by omega) 100 (by decide) (-100) (by decide +kernel)).mpr q)
      have hd2 := own_dg3 (n := own_abs x) (by omega)
      refine uIN 29 hx hby d342 rfl rfl ?_
      refine uKb 31 (100 : Int32) hx hby d343 rfl rfl ?_
      refine gs (mkF m 32 #[vi (negI (own_abs x)), vi (Int32.ofNat (j + (own_dec x).length)), vr b, un, un, vi (Int32.ofNat (j + (own_dec x).length)), vi (Int32.ofNat (own_sg x))] [(.int ((negI (own_abs x)) / (100 : Int32)))]) (fun _ _ A kq => XS.idiv A hx rfl (hb hby d344) rfl (by decide) kq) ?_
      refine gat (mkF m 32 #[vi (negI (own_abs x)), vi (Int32.ofNat (j + (own_dec x).length)), vr b, un, un, vi (Int32.ofNat (j + (own_dec x).length)), vi (Int32.ofNat (own_sg x))] [(.int (negI ((own_abs x) / 100)))]) (by rw [negI_div100 (n := (own_abs x)) (by omega)]) ?_
      refine uSIN 33 #[vi (negI (own_abs x)), vi (Int32.ofNat (j + (own_dec x).length)), vr b, vi (negI ((own_abs x) / 100)), un, vi (Int32.ofNat (j + (own_dec x).length)), vi (Int32.ofNat (own_sg x))] hx hby d345 rfl rfl ?_
      refine uIN 34 hx hby d346 rfl rfl ?_
      refine uKb 36 (100 : Int32) hx hby d347 rfl rfl ?_
      refine uimul 37 ((negI ((own_abs x) / 100)) * (100 : Int32)) hx hby d348 rfl rfl ?_
      refine uIN 38 hx hby d349 rfl rfl ?_
      refine uisub 39 (((negI ((own_abs x) / 100)) * (100 : Int32)) - (negI (own_abs x))) hx hby d350 rfl rfl ?_
      refine gat (mkF m 39 #[vi (negI (own_abs x)), vi (Int32.ofNat (j + (own_dec x).length)), vr b, vi (negI ((own_abs x) / 100)), un, vi (Int32.ofNat (j + (own_dec x).length)), vi (Int32.ofNat (own_sg x))] [(.int (Int32.ofNat ((own_abs x) % 100)))]) (by rw [negI_rem (n := (own_abs x)) (by omega)]) ?_
      refine uSI 41 #[vi (negI (own_abs x)), vi (Int32.ofNat (j + (own_dec x).length)), vr b, vi (negI ((own_abs x) / 100)), vi (Int32.ofNat ((own_abs x) % 100)), vi (Int32.ofNat (j + (own_dec x).length)), vi (Int32.ofNat (own_sg x))] hx hby d351 rfl rfl ?_
      refine uIN 42 hx hby d352 rfl rfl ?_
      refine uSIN 43 #[vi (negI ((own_abs x) / 100)), vi (Int32.ofNat (j + (own_dec x).length)), vr b, vi (negI ((own_abs x) / 100)), vi (Int32.ofNat ((own_abs x) % 100)), vi (Int32.ofNat (j + (own_dec x).length)), vi (Int32.ofNat (own_sg x))] hx hby d353 rfl rfl ?_
      refine uAN 44 hx hby d354 rfl rfl rfl ?_
      refine uInc 47 #[vi (negI ((own_abs x) / 100)), vi (Int32.ofNat (j + (own_dec x).length)), vr b, vi (negI ((own_abs x) / 100)), vi (Int32.ofNat ((own_abs x) % 100)), vi ((Int32.ofNat (j + (own_dec x).length)) + (-1 : Int32)), vi (Int32.ofNat (own_sg x))] hx hby d355 rfl rfl rfl ?_
      refine gat (mkF m 47 #[vi (negI ((own_abs x) / 100)), vi (Int32.ofNat (j + (own_dec x).length)), vr b, vi (negI ((own_abs x) / 100)), vi (Int32.ofNat ((own_abs x) % 100)), vi (Int32.ofNat (j + (own_dec x).length - 1)), vi (Int32.ofNat (own_sg x))] [(.ref b)]) (by rw [own_dec1 (a := (j + (own_dec x).length)) (b := (j + (own_dec x).length - 1)) (by omega) (by omega)]) ?_
      refine uI 49 hx hby d356 rfl rfl ?_
      refine ggetS (host := "") hx (Or.inl (ow hw 132 rfl)) Via.refl Sgo 52 (hb hby d357) rfl ?_
      refine uI 54 hx hby d358 rfl rfl ?_
      have f26 := (Wdgo.keep K2 nin0)
      refine gldB hx f26 (own_lt100 _) (i := ((own_abs x) % 100)) (tn (by omega)) (v := (.int (own_dc (own_abs x)))) (own_ones _) 55 (hb hby d359) rfl ?_
      have f27 := (VB.keep K2 nin0)
      have f29 := (C2.safe (show h0.size > b by omega) L2)
      refine gstB hx f27 ⟨nn0 (by omega), (ltOf (by omega) hM).mpr (by omega)⟩ (i := (j + (own_dec x).length - 1)) (tn (by omega)) (by rw [own_wl (by simp only [List.length_cons, List.length_nil]; omega) (by omega), hvd]; omega) (y := ((own_dc (own_abs x)).toInt8.toInt32)) rfl P1 (fun _ => f29) 56 (hb hby d360) rfl ?_
      intro h28 W28 C28 V28
      have z28 := C28.2.1
      have X30 : Arv Z h28 b kb .byte (Int32.ofNat M) (own_w vd (j + (own_dec x).length - 1) (j + (own_dec x).length) [(own_dc (own_abs x))]) (.int (0 : Int32)) := Eq.mp (congrArg (fun z => Arv Z h28 b kb .byte (Int32.ofNat M) z (.int (0 : Int32))) (own_w1 (p := (j + (own_dec x).length)) (q := (j + (own_dec x).length - 1)) (c := (own_dc (own_abs x))) (by omega) (by omega))) V28
      refine uAN 57 hx hby d361 rfl rfl rfl ?_
      refine uInc 60 #[vi (negI ((own_abs x) / 100)), vi (Int32.ofNat (j + (own_dec x).length)), vr b, vi (negI ((own_abs x) / 100)), vi (Int32.ofNat ((own_abs x) % 100)), vi ((Int32.ofNat (j + (own_dec x).length - 1)) + (-1 : Int32)), vi (Int32.ofNat (own_sg x))] hx hby d362 rfl rfl rfl ?_
      refine gat (mkF m 60 #[vi (negI ((own_abs x) / 100)), vi (Int32.ofNat (j + (own_dec x).length)), vr b, vi (negI ((own_abs x) / 100)), vi (Int32.ofNat ((own_abs x) % 100)), vi (Int32.ofNat (j + (own_dec x).length - 2)), vi (Int32.ofNat (own_sg x))] [(.ref b)]) (by rw [own_dec1 (a := (j + (own_dec x).length - 1)) (b := (j + (own_dec x).length - 2)) (by omega) (by omega)]) ?_
      refine uI 62 hx hby d363 rfl rfl ?_
      refine ggetS (host := "") hx (Or.inl (ow hw 224 rfl)) Via.refl Sgt 65 (hb hby d364) rfl ?_
      refine uI 67 hx hby d365 rfl rfl ?_
      have f31 := ((Wdgt.keep K2 nin0).other W28 (Nat.ne_of_lt (Nat.lt_of_lt_of_le Vgt.lt P1)))
      refine gldB hx f31 (own_lt100 _) (i := ((own_abs x) % 100)) (tn (by omega)) (v := (.int (own_dc ((own_abs x) / 10)))) (own_tens _) 68 (hb hby d366) rfl ?_
      have f33 := (C28.safe (show h2.size > b by omega) f29)
      refine gstB hx X30 ⟨nn0 (by omega), (ltOf (by omega) hM).mpr (by omega)⟩ (i := (j + (own_dec x).length - 2)) (tn (by omega)) (by rw [own_wl (by simp only [List.length_cons, List.length_nil]; omega) (by omega), hvd]; omega) (y := ((own_dc ((own_abs x) / 10)).toInt8.toInt32)) rfl P1 (fun _ => f33) 69 (hb hby d367) rfl ?_
      intro h32 W32 C32 V32
      have z32 := C32.2.1
      have X34 : Arv Z h32 b kb .byte (Int32.ofNat M) (own_w vd (j + (own_dec x).length - 2) (j + (own_dec x).length) [(own_dc ((own_abs x) / 10)), (own_dc (own_abs x))]) (.int (0 : Int32)) := Eq.mp (congrArg (fun z => Arv Z h32 b kb .byte (Int32.ofNat M) z (.int (0 : Int32))) (own_w1 (p := (j + (own_dec x).length - 1)) (q := (j + (own_dec x).length - 2)) (c := (own_dc ((own_abs x) / 10))) (by omega) (by omega))) V32
      refine uG 22 hx hby d368 (by decide) (by decide) ?_
      refine uIN 23 hx hby d311 rfl rfl ?_
      refine uKb 25 (-100 : Int32) hx hby d312 rfl rfl ?_
      by_cases g : (-100 : Int32) < (negI ((own_abs x) / 100))
      · refine uYc 72 hx hby d313 (tlt g).2.2.1 (by decide) (by decide) ?_
        have m1 := (own_ltn (n := ((own_abs x) / 100)) (by omega) 100 (by decide) (-100) (by decide +kernel)).mp g
        refine uAN 73 hx hby d314 rfl rfl rfl ?_
        refine uInc 76 #[vi (negI ((own_abs x) / 100)), vi (Int32.ofNat (j + (own_dec x).length)), vr b, vi (negI ((own_abs x) / 100)), vi (Int32.ofNat ((own_abs x) % 100)), vi ((Int32.ofNat (j + (own_dec x).length - 2)) + (-1 : Int32)), vi (Int32.ofNat (own_sg x))] hx hby d315 rfl rfl rfl ?_
        refine gat (mkF m 76 #[vi (negI ((own_abs x) / 100)), vi (Int32.ofNat (j + (own_dec x).length)), vr b, vi (negI ((own_abs x) / 100)), vi (Int32.ofNat ((own_abs x) % 100)), vi (Int32.ofNat (j + (own_dec x).length - 3)), vi (Int32.ofNat (own_sg x))] [(.ref b)]) (by rw [own_dec1 (a := (j + (own_dec x).length - 2)) (b := (j + (own_dec x).length - 3)) (by omega) (by omega)]) ?_
        refine uI 78 hx hby d316 rfl rfl ?_
        refine ggetS (host := "") hx (Or.inl (ow hw 132 rfl)) Via.refl Sgo 81 (hb hby d317) rfl ?_
        refine uIN 82 hx hby d318 rfl rfl ?_
        refine gs (mkF m 83 #[vi (negI ((own_abs x) / 100)), vi (Int32.ofNat (j + (own_dec x).length)), vr b, vi (negI ((own_abs x) / 100)), vi (Int32.ofNat ((own_abs x) % 100)), vi (Int32.ofNat (j + (own_dec x).length - 3)), vi (Int32.ofNat (own_sg x))] [(.int (-(negI ((own_abs x) / 100)))), (.ref dgo), (.int (Int32.ofNat (j + (own_dec x).length - 3))), (.ref b)]) (fun _ _ A kq => XS.ineg A hx rfl (hb hby d319) rfl kq) ?_
        refine gat (mkF m 83 #[vi (negI ((own_abs x) / 100)), vi (Int32.ofNat (j + (own_dec x).length)), vr b, vi (negI ((own_abs x) / 100)), vi (Int32.ofNat ((own_abs x) % 100)), vi (Int32.ofNat (j + (own_dec x).length - 3)), vi (Int32.ofNat (own_sg x))] [(.int (Int32.ofNat (((own_abs x) / 100) % 100))), (.ref dgo), (.int (Int32.ofNat (j + (own_dec x).length - 3))), (.ref b)]) (by rw [own_negm (n := ((own_abs x) / 100)) (by omega)]) ?_
        have f35 := ((f26.other W28 (Nat.ne_of_lt (Nat.lt_of_lt_of_le Vgo.lt P1))).other W32 (Nat.ne_of_lt (Nat.lt_of_lt_of_le Vgo.lt P1)))
        refine gldB hx f35 (own_lt100 _) (i := (((own_abs x) / 100) % 100)) (tn (by omega)) (v := (.int (own_dc ((own_abs x) / 100)))) (own_ones _) 84 (hb hby d320) rfl ?_
        have f37 := (C32.safe (show h28.size > b by omega) f33)
        refine gstB hx X34 ⟨nn0 (by omega), (ltOf (by omega) hM).mpr (by omega)⟩ (i := (j + (own_dec x).length - 3)) (tn (by omega)) (by rw [own_wl (by simp only [List.length_cons, List.length_nil]; omega) (by omega), hvd]; omega) (y := ((own_dc ((own_abs x) / 100)).toInt8.toInt32)) rfl P1 (fun _ => f37) 85 (hb hby d321) rfl ?_
        intro h36 W36 C36 V36
        have z36 := C36.2.1
        have X38 : Arv Z h36 b kb .byte (Int32.ofNat M) (own_w vd (j + (own_dec x).length - 3) (j + (own_dec x).length) [(own_dc ((own_abs x) / 100)), (own_dc ((own_abs x) / 10)), (own_dc (own_abs x))]) (.int (0 : Int32)) := Eq.mp (congrArg (fun z => Arv Z h36 b kb .byte (Int32.ofNat M) z (.int (0 : Int32))) (own_w1 (p := (j + (own_dec x).length - 2)) (q := (j + (own_dec x).length - 3)) (c := (own_dc ((own_abs x) / 100))) (by omega) (by omega))) V36
        refine uIN 86 hx hby d322 rfl rfl ?_
        refine uKb 88 (-9 : Int32) hx hby d323 rfl rfl ?_
        by_cases g : (negI ((own_abs x) / 100)) < (-9 : Int32)
        · refine uNc 91 hx hby d324 rfl (tlt g).2.1 ?_
          have m9 := (own_gtn (n := ((own_abs x) / 100)) (by omega) 9 (by decide) (-9) (by decide +kernel)).mp g
          have hd9 := own_dg4 (n := own_abs x) (by omega)
          refine uAN 92 hx hby d325 rfl rfl rfl ?_
          refine uInc 95 #[vi (negI ((own_abs x) / 100)), vi (Int32.ofNat (j + (own_dec x).length)), vr b, vi (negI ((own_abs x) / 100)), vi (Int32.ofNat ((own_abs x) % 100)), vi ((Int32.ofNat (j + (own_dec x).length - 3)) + (-1 : Int32)), vi (Int32.ofNat (own_sg x))] hx hby d326 rfl rfl rfl ?_
          refine gat (mkF m 95 #[vi (negI ((own_abs x) / 100)), vi (Int32.ofNat (j + (own_dec x).length)), vr b, vi (negI ((own_abs x) / 100)), vi (Int32.ofNat ((own_abs x) % 100)), vi (Int32.ofNat (j + (own_dec x).length - 4)), vi (Int32.ofNat (own_sg x))] [(.ref b)]) (by rw [own_dec1 (a := (j + (own_dec x).length - 3)) (b := (j + (own_dec x).length - 4)) (by omega) (by omega)]) ?_
          refine uI 97 hx hby d327 rfl rfl ?_
          refine ggetS (host := "") hx (Or.inl (ow hw 224 rfl)) Via.refl Sgt 100 (hb hby d328) rfl ?_
          refine uIN 101 hx hby d329 rfl rfl ?_
          refine gs (mkF m 102 #[vi (negI ((own_abs x) / 100)), vi (Int32.ofNat (j + (own_dec x).length)), vr b, vi (negI ((own_abs x) / 100)), vi (Int32.ofNat ((own_abs x) % 100)), vi (Int32.ofNat (j + (own_dec x).length - 4)), vi (Int32.ofNat (own_sg x))] [(.int (-(negI ((own_abs x) / 100)))), (.ref dgt), (.int (Int32.ofNat (j + (own_dec x).length - 4))), (.ref b)]) (fun _ _ A kq => XS.ineg A hx rfl (hb hby d330) rfl kq) ?_
          refine gat (mkF m 102 #[vi (negI ((own_abs x) / 100)), vi (Int32.ofNat (j + (own_dec x).length)), vr b, vi (negI ((own_abs x) / 100)), vi (Int32.ofNat ((own_abs x) % 100)), vi (Int32.ofNat (j + (own_dec x).length - 4)), vi (Int32.ofNat (own_sg x))] [(.int (Int32.ofNat (((own_abs x) / 100) % 100))), (.ref dgt), (.int (Int32.ofNat (j + (own_dec x).length - 4))), (.ref b)]) (by rw [own_negm (n := ((own_abs x) / 100)) (by omega)]) ?_
          have f39 := ((f31.other W32 (Nat.ne_of_lt (Nat.lt_of_lt_of_le Vgt.lt P1))).other W36 (Nat.ne_of_lt (Nat.lt_of_lt_of_le Vgt.lt P1)))
          refine gldB hx f39 (own_lt100 _) (i := (((own_abs x) / 100) % 100)) (tn (by omega)) (v := (.int (own_dc (((own_abs x) / 100) / 10)))) (own_tens _) 103 (hb hby d331) rfl ?_
          have f41 := (C36.safe (show h32.size > b by omega) f37)
          refine gstB hx X38 ⟨nn0 (by omega), (ltOf (by omega) hM).mpr (by omega)⟩ (i := (j + (own_dec x).length - 4)) (tn (by omega)) (by rw [own_wl (by simp only [List.length_cons, List.length_nil]; omega) (by omega), hvd]; omega) (y := ((own_dc (((own_abs x) / 100) / 10)).toInt8.toInt32)) rfl P1 (fun _ => f41) 104 (hb hby d332) rfl ?_
          intro h40 W40 C40 V40
          have z40 := C40.2.1
          have X42 : Arv Z h40 b kb .byte (Int32.ofNat M) (own_w vd (j + (own_dec x).length - 4) (j + (own_dec x).length) [(own_dc (((own_abs x) / 100) / 10)), (own_dc ((own_abs x) / 100)), (own_dc ((own_abs x) / 10)), (own_dc (own_abs x))]) (.int (0 : Int32)) := Eq.mp (congrArg (fun z => Arv Z h40 b kb .byte (Int32.ofNat M) z (.int (0 : Int32))) (own_w1 (p := (j + (own_dec x).length - 3)) (q := (j + (own_dec x).length - 4)) (c := (own_dc (((own_abs x) / 100) / 10))) (by omega) (by omega))) V40
          refine uI 106 hx hby d333 rfl rfl ?_
          by_cases g6 : (Int32.ofNat (own_sg x)) = (0 : Int32)
          · refine uY 118 hx hby d334 ((if0 _ _).trans (teq g6).1) (by decide) (by decide) ?_
            obtain ⟨e6, x6⟩ := own_sg0 g6
            have hdg : own_dn (own_abs x) = 4 := (Nat.le_antisymm (own_du4 (by omega)) (own_dg4 (by omega)))
            refine uI 120 hx hby d335 rfl rfl ?_
            have f44 := (C40.safe (show h36.size > b by omega) f41)
            exact gretI hx hret (hb hby d336) (by decide) (by decide) (fun vq Cq => ⟨(congrArg (fun z => some (Value.int z)) (congrArg Int32.ofNat (by omega))), ((((((Keep.refl h0 [b]).trans K2 all0).wr W28 (Or.inl (List.mem_of_getElem? (i := 0) rfl))).wr W32 (Or.inl (List.mem_of_getElem? (i := 0) rfl))).wr W36 (Or.inl (List.mem_of_getElem? (i := 0) rfl))).wr W40 (Or.inl (List.mem_of_getElem? (i := 0) rfl))), (Eq.mp (congrArg (fun z => Arv Z h40 b kb .byte (Int32.ofNat M) z (.int (0 : Int32))) (own_wend (p := (j + (own_dec x).length - 4)) (ds := [(own_dc (((own_abs x) / 100) / 10)), (own_dc ((own_abs x) / 100)), (own_dc ((own_abs x) / 10)), (own_dc (own_abs x))]) (by omega) (by rw [own_dec, if_neg x6, hdg, (own_d100 2 (own_abs x) : own_digs 4 (own_abs x) = _), (own_d100 0 ((own_abs x) / 100) : own_digs 2 ((own_abs x) / 100) = _)]; rfl))) X42), (Cq.safe (show h40.size > b by omega) f44)⟩)
          · refine uN 109 hx hby d334 rfl ((if0 _ _).trans (feq g6).1) ?_
            obtain ⟨e6, x6⟩ := own_sg1 g6
            have hdg : own_dn (own_abs x) = 4 := (Nat.le_antisymm (own_du4 (by omega)) (own_dg4 (by omega)))
            refine uAN 110 hx hby d337 rfl rfl rfl ?_
            refine uInc 113 #[vi (negI ((own_abs x) / 100)), vi (Int32.ofNat (j + (own_dec x).length)), vr b, vi (negI ((own_abs x) / 100)), vi (Int32.ofNat ((own_abs x) % 100)), vi ((Int32.ofNat (j + (own_dec x).length - 4)) + (-1 : Int32)), vi (Int32.ofNat (own_sg x))] hx hby d338 rfl rfl rfl ?_
            refine gat (mkF m 113 #[vi (negI ((own_abs x) / 100)), vi (Int32.ofNat (j + (own_dec x).length)), vr b, vi (negI ((own_abs x) / 100)), vi (Int32.ofNat ((own_abs x) % 100)), vi (Int32.ofNat (j + (own_dec x).length - 5)), vi (Int32.ofNat (own_sg x))] [(.ref b)]) (by rw [own_dec1 (a := (j + (own_dec x).length - 4)) (b := (j + (own_dec x).length - 5)) (by omega) (by omega)]) ?_
            refine uI 115 hx hby d339 rfl rfl ?_
            refine uKb 117 (45 : Int32) hx hby d340 rfl rfl ?_
            have f46 := (C40.safe (show h36.size > b by omega) f41)
            refine gstB hx X42 ⟨nn0 (by omega), (ltOf (by omega) hM).mpr (by omega)⟩ (i := (j + (own_dec x).length - 5)) (tn (by omega)) (by rw [own_wl (by simp only [List.length_cons, List.length_nil]; omega) (by omega), hvd]; omega) (y := ((45 : Int32).toInt8.toInt32)) rfl P1 (fun _ => f46) 118 (hb hby d341) rfl ?_
            intro h45 W45 C45 V45
            have z45 := C45.2.1
            have X47 : Arv Z h45 b kb .byte (Int32.ofNat M) (own_w vd (j + (own_dec x).length - 5) (j + (own_dec x).length) [(45 : Int32), (own_dc (((own_abs x) / 100) / 10)), (own_dc ((own_abs x) / 100)), (own_dc ((own_abs x) / 10)), (own_dc (own_abs x))]) (.int (0 : Int32)) := Eq.mp (congrArg (fun z => Arv Z h45 b kb .byte (Int32.ofNat M) z (.int (0 : Int32))) (own_w1 (p := (j + (own_dec x).length - 4)) (q := (j + (own_dec x).length - 5)) (c := (45 : Int32)) (by omega) (by omega))) V45
            refine uI 120 hx hby d335 rfl rfl ?_
            have f49 := (C45.safe (show h40.size > b by omega) f46)
            exact gretI hx hret (hb hby d336) (by decide) (by decide) (fun vq Cq => ⟨(congrArg (fun z => some (Value.int z)) (congrArg Int32.ofNat (by omega))), (((((((Keep.refl h0 [b]).trans K2 all0).wr W28 (Or.inl (List.mem_of_getElem? (i := 0) rfl))).wr W32 (Or.inl (List.mem_of_getElem? (i := 0) rfl))).wr W36 (Or.inl (List.mem_of_getElem? (i := 0) rfl))).wr W40 (Or.inl (List.mem_of_getElem? (i := 0) rfl))).wr W45 (Or.inl (List.mem_of_getElem? (i := 0) rfl))), (Eq.mp (congrArg (fun z => Arv Z h45 b kb .byte (Int32.ofNat M) z (.int (0 : Int32))) (own_wend (p := (j + (own_dec x).length - 5)) (ds := [(45 : Int32), (own_dc (((own_abs x) / 100) / 10)), (own_dc ((own_abs x) / 100)), (own_dc ((own_abs x) / 10)), (own_dc (own_abs x))]) (by omega) (by rw [own_dec, if_pos x6, hdg, (own_d100 2 (own_abs x) : own_digs 4 (own_abs x) = _), (own_d100 0 ((own_abs x) / 100) : own_digs 2 ((own_abs x) / 100) = _)]; rfl))) X47), (Cq.safe (show h45.size > b by omega) f49)⟩)
        · refine uYc 104 hx hby d324 (flt g).2.1 (by decide) (by decide) ?_
          have m9 : ¬ 9 < ((own_abs x) / 100) := fun q => g ((own_gtn (n := ((own_abs x) / 100)) (by omega) 9 (by decide) (-9) (by decide +kernel)).mpr q)
          refine uI 106 hx hby d333 rfl rfl ?_
          by_cases g6 : (Int32.ofNat (own_sg x)) = (0 : Int32)
          · refine uY 118 hx hby d334 ((if0 _ _).trans (teq g6).1) (by decide) (by decide) ?_
            obtain ⟨e6, x6⟩ := own_sg0 g6
            have hdg : own_dn (own_abs x) = 3 := (Nat.le_antisymm (own_du3 (by omega)) (own_dg3 (by omega)))
            refine uI 120 hx hby d335 rfl rfl ?_
            have f51 := (C36.safe (show h32.size > b by omega) f37)
            exact gretI hx hret (hb hby d336) (by decide) (by decide) (fun vq Cq => ⟨(congrArg (fun z => some (Value.int z)) (congrArg Int32.ofNat (by omega))), (((((Keep.refl h0 [b]).trans K2 all0).wr W28 (Or.inl (List.mem_of_getElem? (i := 0) rfl))).wr W32 (Or.inl (List.mem_of_getElem? (i := 0) rfl))).wr W36 (Or.inl (List.mem_of_getElem? (i := 0) rfl))), (Eq.mp (congrArg (fun z => Arv Z h36 b kb .byte (Int32.ofNat M) z (.int (0 : Int32))) (own_wend (p := (j + (own_dec x).length - 3)) (ds := [(own_dc ((own_abs x) / 100)), (own_dc ((own_abs x) / 10)), (own_dc (own_abs x))]) (by omega) (by rw [own_dec, if_neg x6, hdg, (own_d100 1 (own_abs x) : own_digs 3 (own_abs x) = _)]; rfl))) X38), (Cq.safe (show h36.size > b by omega) f51)⟩)
          · refine uN 109 hx hby d334 rfl ((if0 _ _).trans (feq g6).1) ?_
            obtain ⟨e6, x6⟩ := own_sg1 g6
            have hdg : own_dn (own_abs x) = 3 := (Nat.le_antisymm (own_du3 (by omega)) (own_dg3 (by omega)))
            refine uAN 110 hx hby d337 rfl rfl rfl ?_
            refine uInc 113 #[vi (negI ((own_abs x) / 100)), vi (Int32.ofNat (j + (own_dec x).length)), vr b, vi (negI ((own_abs x) / 100)), vi (Int32.ofNat ((own_abs x) % 100)), vi ((Int32.ofNat (j + (own_dec x).length - 3)) + (-1 : Int32)), vi (Int32.ofNat (own_sg x))] hx hby d338 rfl rfl rfl ?_
            refine gat (mkF m 113 #[vi (negI ((own_abs x) / 100)), vi (Int32.ofNat (j + (own_dec x).length)), vr b, vi (negI ((own_abs x) / 100)), vi (Int32.ofNat ((own_abs x) % 100)), vi (Int32.ofNat (j + (own_dec x).length - 4)), vi (Int32.ofNat (own_sg x))] [(.ref b)]) (by rw [own_dec1 (a := (j + (own_dec x).length - 3)) (b := (j + (own_dec x).length - 4)) (by omega) (by omega)]) ?_
            refine uI 115 hx hby d339 rfl rfl ?_
            refine uKb 117 (45 : Int32) hx hby d340 rfl rfl ?_
            have f53 := (C36.safe (show h32.size > b by omega) f37)
            refine gstB hx X38 ⟨nn0 (by omega), (ltOf (by omega) hM).mpr (by omega)⟩ (i := (j + (own_dec x).length - 4)) (tn (by omega)) (by rw [own_wl (by simp only [List.length_cons, List.length_nil]; omega) (by omega), hvd]; omega) (y := ((45 : Int32).toInt8.toInt32)) rfl P1 (fun _ => f53) 118 (hb hby d341) rfl ?_
            intro h52 W52 C52 V52
            have z52 := C52.2.1
            have X54 : Arv Z h52 b kb .byte (Int32.ofNat M) (own_w vd (j + (own_dec x).length - 4) (j + (own_dec x).length) [(45 : Int32), (own_dc ((own_abs x) / 100)), (own_dc ((own_abs x) / 10)), (own_dc (own_abs x))]) (.int (0 : Int32)) := Eq.mp (congrArg (fun z => Arv Z h52 b kb .byte (Int32.ofNat M) z (.int (0 : Int32))) (own_w1 (p := (j + (own_dec x).length - 3)) (q := (j + (own_dec x).length - 4)) (c := (45 : Int32)) (by omega) (by omega))) V52
            refine uI 120 hx hby d335 rfl rfl ?_
            have f56 := (C52.safe (show h36.size > b by omega) f53)
            exact gretI hx hret (hb hby d336) (by decide) (by decide) (fun vq Cq => ⟨(congrArg (fun z => some (Value.int z)) (congrArg Int32.ofNat (by omega))), ((((((Keep.refl h0 [b]).trans K2 all0).wr W28 (Or.inl (List.mem_of_getElem? (i := 0) rfl))).wr W32 (Or.inl (List.mem_of_getElem? (i := 0) rfl))).wr W36 (Or.inl (List.mem_of_getElem? (i := 0) rfl))).wr W52 (Or.inl (List.mem_of_getElem? (i := 0) rfl))), (Eq.mp (congrArg (fun z => Arv Z h52 b kb .byte (Int32.ofNat M) z (.int (0 : Int32))) (own_wend (p := (j + (own_dec x).length - 4)) (ds := [(45 : Int32), (own_dc ((own_abs x) / 100)), (own_dc ((own_abs x) / 10)), (own_dc (own_abs x))]) (by omega) (by rw [own_dec, if_pos x6, hdg, (own_d100 1 (own_abs x) : own_digs 3 (own_abs x) = _)]; rfl))) X54), (Cq.safe (show h52.size > b by omega) f56)⟩)
      · refine uNc 28 hx hby d313 rfl (flt g).2.2.1 ?_
        have m1 : ¬ ((own_abs x) / 100) < 100 := fun q => g ((own_ltn (n := ((own_abs x) / 100)) (by omega) 100 (by decide) (-100) (by decide +kernel)).mpr q)
        have hd3 := own_dg5 (n := own_abs x) (by omega)
        refine uIN 29 hx hby d342 rfl rfl ?_
        refine uKb 31 (100 : Int32) hx hby d343 rfl rfl ?_
        refine gs (mkF m 32 #[vi (negI ((own_abs x) / 100)), vi (Int32.ofNat (j + (own_dec x).length)), vr b, vi (negI ((own_abs x) / 100)), vi (Int32.ofNat ((own_abs x) % 100)), vi (Int32.ofNat (j + (own_dec x).length - 2)), vi (Int32.ofNat (own_sg x))] [(.int ((negI ((own_abs x) / 100)) / (100 : Int32)))]) (fun _ _ A kq => XS.idiv A hx rfl (hb hby d344) rfl (by decide) kq) ?_
        refine gat (mkF m 32 #[vi (negI ((own_abs x) / 100)), vi (Int32.ofNat (j + (own_dec x).length)), vr b, vi (negI ((own_abs x) / 100)), vi (Int32.ofNat ((own_abs x) % 100)), vi (Int32.ofNat (j + (own_dec x).length - 2)), vi (Int32.ofNat (own_sg x))] [(.int (negI (((own_abs x) / 100) / 100)))]) (by rw [negI_div100 (n := ((own_abs x) / 100)) (by omega)]) ?_
        refine uSIN 33 #[vi (negI ((own_abs x) / 100)), vi (Int32.ofNat (j + (own_dec x).length)), vr b, vi (negI (((own_abs x) / 100) / 100)), vi (Int32.ofNat ((own_abs x) % 100)), vi (Int32.ofNat (j + (own_dec x).length - 2)), vi (Int32.ofNat (own_sg x))] hx hby d345 rfl rfl ?_
        refine uIN 34 hx hby d346 rfl rfl ?_
        refine uKb 36 (100 : Int32) hx hby d347 rfl rfl ?_
        refine uimul 37 ((negI (((own_abs x) / 100) / 100)) * (100 : Int32)) hx hby d348 rfl rfl ?_
        refine uIN 38 hx hby d349 rfl rfl ?_
        refine uisub 39 (((negI (((own_abs x) / 100) / 100)) * (100 : Int32)) - (negI ((own_abs x) / 100))) hx hby d350 rfl rfl ?_
        refine gat (mkF m 39 #[vi (negI ((own_abs x) / 100)), vi (Int32.ofNat (j + (own_dec x).length)), vr b, vi (negI (((own_abs x) / 100) / 100)), vi (Int32.ofNat ((own_abs x) % 100)), vi (Int32.ofNat (j + (own_dec x).length - 2)), vi (Int32.ofNat (own_sg x))] [(.int (Int32.ofNat (((own_abs x) / 100) % 100)))]) (by rw [negI_rem (n := ((own_abs x) / 100)) (by omega)]) ?_
        refine uSI 41 #[vi (negI ((own_abs x) / 100)), vi (Int32.ofNat (j + (own_dec x).length)), vr b, vi (negI (((own_abs x) / 100) / 100)), vi (Int32.ofNat (((own_abs x) / 100) % 100)), vi (Int32.ofNat (j + (own_dec x).length - 2)), vi (Int32.ofNat (own_sg x))] hx hby d351 rfl rfl ?_
        refine uIN 42 hx hby d352 rfl rfl ?_
        refine uSIN 43 #[vi (negI (((own_abs x) / 100) / 100)), vi (Int32.ofNat (j + (own_dec x).length)), vr b, vi (negI (((own_abs x) / 100) / 100)), vi (Int32.ofNat (((own_abs x) / 100) % 100)), vi (Int32.ofNat (j + (own_dec x).length - 2)), vi (Int32.ofNat (own_sg x))] hx hby d353 rfl rfl ?_
        refine uAN 44 hx hby d354 rfl rfl rfl ?_
        refine uInc 47 #[vi (negI (((own_abs x) / 100) / 100)), vi (Int32.ofNat (j + (own_dec x).length)), vr b, vi (negI (((own_abs x) / 100) / 100)), vi (Int32.ofNat (((own_abs x) / 100) % 100)), vi ((Int32.ofNat (j + (own_dec x).length - 2)) + (-1 : Int32)), vi (Int32.ofNat (own_sg x))] hx hby d355 rfl rfl rfl ?_
        refine gat (mkF m 47 #[vi (negI (((own_abs x) / 100) / 100)), vi (Int32.ofNat (j + (own_dec x).length)), vr b, vi (negI (((own_abs x) / 100) / 100)), vi (Int32.ofNat (((own_abs x) / 100) % 100)), vi (Int32.ofNat (j + (own_dec x).length - 3)), vi (Int32.ofNat (own_sg x))] [(.ref b)]) (by rw [own_dec1 (a := (j + (own_dec x).length - 2)) (b := (j + (own_dec x).length - 3)) (by omega) (by omega)]) ?_
        refine uI 49 hx hby d356 rfl rfl ?_
        refine ggetS (host := "") hx (Or.inl (ow hw 132 rfl)) Via.refl Sgo 52 (hb hby d357) rfl ?_
        refine uI 54 hx hby d358 rfl rfl ?_
        have f57 := ((f26.other W28 (Nat.ne_of_lt (Nat.lt_of_lt_of_le Vgo.lt P1))).other W32 (Nat.ne_of_lt (Nat.lt_of_lt_of_le Vgo.lt P1)))
        refine gldB hx f57 (own_lt100 _) (i := (((own_abs x) / 100) % 100)) (tn (by omega)) (v := (.int (own_dc ((own_abs x) / 100)))) (own_ones _) 55 (hb hby d359) rfl ?_
        have f59 := (C32.safe (show h28.size > b by omega) f33)
        refine gstB hx X34 ⟨nn0 (by omega), (ltOf (by omega) hM).mpr (by omega)⟩ (i := (j + (own_dec x).length - 3)) (tn (by omega)) (by rw [own_wl (by simp only [List.length_cons, List.length_nil]; omega) (by omega), hvd]; omega) (y := ((own_dc ((own_abs x) / 100)).toInt8.toInt32)) rfl P1 (fun _ => f59) 56 (hb hby d360) rfl ?_
        intro h58 W58 C58 V58
        have z58 := C58.2.1
        have X60 : Arv Z h58 b kb .byte (Int32.ofNat M) (own_w vd (j + (own_dec x).length - 3) (j + (own_dec x).length) [(own_dc ((own_abs x) / 100)), (own_dc ((own_abs x) / 10)), (own_dc (own_abs x))]) (.int (0 : Int32)) := Eq.mp (congrArg (fun z => Arv Z h58 b kb .byte (Int32.ofNat M) z (.int (0 : Int32))) (own_w1 (p := (j + (own_dec x).length - 2)) (q := (j + (own_dec x).length - 3)) (c := (own_dc ((own_abs x) / 100))) (by omega) (by omega))) V58
        refine uAN 57 hx hby d361 rfl rfl rfl ?_
        refine uInc 60 #[vi (negI (((own_abs x) / 100) / 100)), vi (Int32.ofNat (j + (own_dec x).length)), vr b, vi (negI (((own_abs x) / 100) / 100)), vi (Int32.ofNat (((own_abs x) / 100) % 100)), vi ((Int32.ofNat (j + (own_dec x).length - 3)) + (-1 : Int32)), vi (Int32.ofNat (own_sg x))] hx hby d362 rfl rfl rfl ?_
        refine gat (mkF m 60 #[vi (negI (((own_abs x) / 100) / 100)), vi (Int32.ofNat (j + (own_dec x).length)), vr b, vi (negI (((own_abs x) / 100) / 100)), vi (Int32.ofNat (((own_abs x) / 100) % 100)), vi (Int32.ofNat (j + (own_dec x).length - 4)), vi (Int32.ofNat (own_sg x))] [(.ref b)]) (by rw [own_dec1 (a := (j + (own_dec x).length - 3)) (b := (j + (own_dec x).length - 4)) (by omega) (by omega)]) ?_
        refine uI 62 hx hby d363 rfl rfl ?_
        refine ggetS (host := "") hx (Or.inl (ow hw 224 rfl)) Via.refl Sgt 65 (hb hby d364) rfl ?_
        refine uI 67 hx hby d365 rfl rfl ?_
        have f61 := ((f31.other W32 (Nat.ne_of_lt (Nat.lt_of_lt_of_le Vgt.lt P1))).other W58 (Nat.ne_of_lt (Nat.lt_of_lt_of_le Vgt.lt P1)))
        refine gldB hx f61 (own_lt100 _) (i := (((own_abs x) / 100) % 100)) (tn (by omega)) (v := (.int (own_dc (((own_abs x) / 100) / 10)))) (own_tens _) 68 (hb hby d366) rfl ?_
        have f63 := (C58.safe (show h32.size > b by omega) f59)
        refine gstB hx X60 ⟨nn0 (by omega), (ltOf (by omega) hM).mpr (by omega)⟩ (i := (j + (own_dec x).length - 4)) (tn (by omega)) (by rw [own_wl (by simp only [List.length_cons, List.length_nil]; omega) (by omega), hvd]; omega) (y := ((own_dc (((own_abs x) / 100) / 10)).toInt8.toInt32)) rfl P1 (fun _ => f63) 69 (hb hby d367) rfl ?_
        intro h62 W62 C62 V62
        have z62 := C62.2.1
        have X64 : Arv Z h62 b kb .byte (Int32.ofNat M) (own_w vd (j + (own_dec x).length - 4) (j + (own_dec x).length) [(own_dc (((own_abs x) / 100) / 10)), (own_dc ((own_abs x) / 100)), (own_dc ((own_abs x) / 10)), (own_dc (own_abs x))]) (.int (0 : Int32)) := Eq.mp (congrArg (fun z => Arv Z h62 b kb .byte (Int32.ofNat M) z (.int (0 : Int32))) (own_w1 (p := (j + (own_dec x).length - 3)) (q := (j + (own_dec x).length - 4)) (c := (own_dc (((own_abs x) / 100) / 10))) (by omega) (by omega))) V62
        refine uG 22 hx hby d368 (by decide) (by decide) ?_
        refine uIN 23 hx hby d311 rfl rfl ?_
        refine uKb 25 (-100 : Int32) hx hby d312 rfl rfl ?_
        by_cases g : (-100 : Int32) < (negI (((own_abs x) / 100) / 100))
        · refine uYc 72 hx hby d313 (tlt g).2.2.1 (by decide) (by decide) ?_
          have m2 := (own_ltn (n := (((own_abs x) / 100) / 100)) (by omega) 100 (by decide) (-100) (by decide +kernel)).mp g
          refine uAN 73 hx hby d314 rfl rfl rfl ?_
          refine uInc 76 #[vi (negI (((own_abs x) / 100) / 100)), vi (Int32.ofNat (j + (own_dec x).length)), vr b, vi (negI (((own_abs x) / 100) / 100)), vi (Int32.ofNat (((own_abs x) / 100) % 100)), vi ((Int32.ofNat (j + (own_dec x).length - 4)) + (-1 : Int32)), vi (Int32.ofNat (own_sg x))] hx hby d315 rfl rfl rfl ?_
          refine gat (mkF m 76 #[vi (negI (((own_abs x) / 100) / 100)), vi (Int32.ofNat (j + (own_dec x).length)), vr b, vi (negI (((own_abs x) / 100) / 100)), vi (Int32.ofNat (((own_abs x) / 100) % 100)), vi (Int32.ofNat (j + (own_dec x).length - 5)), vi (Int32.ofNat (own_sg x))] [(.ref b)]) (by rw [own_dec1 (a := (j + (own_dec x).length - 4)) (b := (j + (own_dec x).length - 5)) (by omega) (by omega)]) ?_
          refine uI 78 hx hby d316 rfl rfl ?_
          refine ggetS (host := "") hx (Or.inl (ow hw 132 rfl)) Via.refl Sgo 81 (hb hby d317) rfl ?_
          refine uIN 82 hx hby d318 rfl rfl ?_
          refine gs (mkF m 83 #[vi (negI (((own_abs x) / 100) / 100)), vi (Int32.ofNat (j + (own_dec x).length)), vr b, vi (negI (((own_abs x) / 100) / 100)), vi (Int32.ofNat (((own_abs x) / 100) % 100)), vi (Int32.ofNat (j + (own_dec x).length - 5)), vi (Int32.ofNat (own_sg x))] [(.int (-(negI (((own_abs x) / 100) / 100)))), (.ref dgo), (.int (Int32.ofNat (j + (own_dec x).length - 5))), (.ref b)]) (fun _ _ A kq => XS.ineg A hx rfl (hb hby d319) rfl kq) ?_
          refine gat (mkF m 83 #[vi (negI (((own_abs x) / 100) / 100)), vi (Int32.ofNat (j + (own_dec x).length)), vr b, vi (negI (((own_abs x) / 100) / 100)), vi (Int32.ofNat (((own_abs x) / 100) % 100)), vi (Int32.ofNat (j + (own_dec x).length - 5)), vi (Int32.ofNat (own_sg x))] [(.int (Int32.ofNat ((((own_abs x) / 100) / 100) % 100))), (.ref dgo), (.int (Int32.ofNat (j + (own_dec x).length - 5))), (.ref b)]) (by rw [own_negm (n := (((own_abs x) / 100) / 100)) (by omega)]) ?_
          have f65 := ((f57.other W58 (Nat.ne_of_lt (Nat.lt_of_lt_of_le Vgo.lt P1))).other W62 (Nat.ne_of_lt (Nat.lt_of_lt_of_le Vgo.lt P1)))
          refine gldB hx f65 (own_lt100 _) (i := ((((own_abs x) / 100) / 100) % 100)) (tn (by omega)) (v := (.int (own_dc (((own_abs x) / 100) / 100)))) (own_ones _) 84 (hb hby d320) rfl ?_
          have f67 := (C62.safe (show h58.size > b by omega) f63)
          refine gstB hx X64 ⟨nn0 (by omega), (ltOf (by omega) hM).mpr (by omega)⟩ (i := (j + (own_dec x).length - 5)) (tn (by omega)) (by rw [own_wl (by simp only [List.length_cons, List.length_nil]; omega) (by omega), hvd]; omega) (y := ((own_dc (((own_abs x) / 100) / 100)).toInt8.toInt32)) rfl P1 (fun _ => f67) 85 (hb hby d321) rfl ?_
          intro h66 W66 C66 V66
          have z66 := C66.2.1
          have X68 : Arv Z h66 b kb .byte (Int32.ofNat M) (own_w vd (j + (own_dec x).length - 5) (j + (own_dec x).length) [(own_dc (((own_abs x) / 100) / 100)), (own_dc (((own_abs x) / 100) / 10)), (own_dc ((own_abs x) / 100)), (own_dc ((own_abs x) / 10)), (own_dc (own_abs x))]) (.int (0 : Int32)) := Eq.mp (congrArg (fun z => Arv Z h66 b kb .byte (Int32.ofNat M) z (.int (0 : Int32))) (own_w1 (p := (j + (own_dec x).length - 4)) (q := (j + (own_dec x).length - 5)) (c := (own_dc (((own_abs x) / 100) / 100))) (by omega) (by omega))) V66
          refine uIN 86 hx hby d322 rfl rfl ?_
          refine uKb 88 (-9 : Int32) hx hby d323 rfl rfl ?_
          by_cases g : (negI (((own_abs x) / 100) / 100)) < (-9 : Int32)
          · refine uNc 91 hx hby d324 rfl (tlt g).2.1 ?_
            have m9 := (own_gtn (n := (((own_abs x) / 100) / 100)) (by omega) 9 (by decide) (-9) (by decide +kernel)).mp g
            have hd9 := own_dg6 (n := own_abs x) (by omega)
            refine uAN 92 hx hby d325 rfl rfl rfl ?_
            refine uInc 95 #[vi (negI (((own_abs x) / 100) / 100)), vi (Int32.ofNat (j + (own_dec x).length)), vr b, vi (negI (((own_abs x) / 100) / 100)), vi (Int32.ofNat (((own_abs x) / 100) % 100)), vi ((Int32.ofNat (j + (own_dec x).length - 5)) + (-1 : Int32)), vi (Int32.ofNat (own_sg x))] hx hby d326 rfl rfl rfl ?_
            refine gat (mkF m 95 #[vi (negI (((own_abs x) / 100) / 100)), vi (Int32.ofNat (j + (own_dec x).length)), vr b, vi (negI (((own_abs x) / 100) / 100)), vi (Int32.ofNat (((own_abs x) / 100) % 100)), vi (Int32.ofNat (j + (own_dec x).length - 6)), vi (Int32.ofNat (own_sg x))] [(.ref b)]) (by rw [own_dec1 (a := (j + (own_dec x).length - 5)) (b := (j + (own_dec x).length - 6)) (by omega) (by omega)]) ?_
            refine uI 97 hx hby d327 rfl rfl ?_
            refine ggetS (host := "") hx (Or.inl (ow hw 224 rfl)) Via.refl Sgt 100 (hb hby d328) rfl ?_
            refine uIN 101 hx hby d329 rfl rfl ?_
            refine gs (mkF m 102 #[vi (negI (((own_abs x) / 100) / 100)), vi (Int32.ofNat (j + (own_dec x).length)), vr b, vi (negI (((own_abs x) / 100) / 100)), vi (Int32.ofNat (((own_abs x) / 100) % 100)), vi (Int32.ofNat (j + (own_dec x).length - 6)), vi (Int32.ofNat (own_sg x))] [(.int (-(negI (((own_abs x) / 100) / 100)))), (.ref dgt), (.int (Int32.ofNat (j + (own_dec x).length - 6))), (.ref b)]) (fun _ _ A kq => XS.ineg A hx rfl (hb hby d330) rfl kq) ?_
            refine gat (mkF m 102 #[vi (negI (((own_abs x) / 100) / 100)), vi (Int32.ofNat (j + (own_dec x).length)), vr b, vi (negI (((own_abs x) / 100) / 100)), vi (Int32.ofNat (((own_abs x) / 100) % 100)), vi (Int32.ofNat (j + (own_dec x).length - 6)), vi (Int32.ofNat (own_sg x))] [(.int (Int32.ofNat ((((own_abs x) / 100) / 100) % 100))), (.ref dgt), (.int (Int32.ofNat (j + (own_dec x).length - 6))), (.ref b)]) (by rw [own_negm (n := (((own_abs x) / 100) / 100)) (by omega)]) ?_
            have f69 := ((f61.other W62 (Nat.ne_of_lt (Nat.lt_of_lt_of_le Vgt.lt P1))).other W66 (Nat.ne_of_lt (Nat.lt_of_lt_of_le Vgt.lt P1)))
            refine gldB hx f69 (own_lt100 _) (i := ((((own_abs x) / 100) / 100) % 100)) (tn (by omega)) (v := (.int (own_dc ((((own_abs x) / 100) / 100) / 10)))) (own_tens _) 103 (hb hby d331) rfl ?_
            have f71 := (C66.safe (show h62.size > b by omega) f67)
            refine gstB hx X68 ⟨nn0 (by omega), (ltOf (by omega) hM).mpr (by omega)⟩ (i := (j + (own_dec x).length - 6)) (tn (by omega)) (by rw [own_wl (by simp only [List.length_cons, List.length_nil]; omega) (by omega), hvd]; omega) (y := ((own_dc ((((own_abs x) / 100) / 100) / 10)).toInt8.toInt32)) rfl P1 (fun _ => f71) 104 (hb hby d332) rfl ?_
            intro h70 W70 C70 V70
            have z70 := C70.2.1
            have X72 : Arv Z h70 b kb .byte (Int32.ofNat M) (own_w vd (j + (own_dec x).length - 6) (j + (own_dec x).length) [(own_dc ((((own_abs x) / 100) / 100) / 10)), (own_dc (((own_abs x) / 100) / 100)), (own_dc (((own_abs x) / 100) / 10)), (own_dc ((own_abs x) / 100)), (own_dc ((own_abs x) / 10)), (own_dc (own_abs x))]) (.int (0 : Int32)) := Eq.mp (congrArg (fun z => Arv Z h70 b kb .byte (Int32.ofNat M) z (.int (0 : Int32))) (own_w1 (p := (j + (own_dec x).length - 5)) (q := (j + (own_dec x).length - 6)) (c := (own_dc ((((own_abs x) / 100) / 100) / 10))) (by omega) (by omega))) V70
            refine uI 106 hx hby d333 rfl rfl ?_
            by_cases g6 : (Int32.ofNat (own_sg x)) = (0 : Int32)
            · refine uY 118 hx hby d334 ((if0 _ _).trans (teq g6).1) (by decide) (by decide) ?_
              obtain ⟨e6, x6⟩ := own_sg0 g6
              have hdg : own_dn (own_abs x) = 6 := (Nat.le_antisymm (own_du6 (by omega)) (own_dg6 (by omega)))
              refine uI 120 hx hby d335 rfl rfl ?_
              have f74 := (C70.safe (show h66.size > b by omega) f71)
              exact gretI hx hret (hb hby d336) (by decide) (by decide) (fun vq Cq => ⟨(congrArg (fun z => some (Value.int z)) (congrArg Int32.ofNat (by omega))), ((((((((Keep.refl h0 [b]).trans K2 all0).wr W28 (Or.inl (List.mem_of_getElem? (i := 0) rfl))).wr W32 (Or.inl (List.mem_of_getElem? (i := 0) rfl))).wr W58 (Or.inl (List.mem_of_getElem? (i := 0) rfl))).wr W62 (Or.inl (List.mem_of_getElem? (i := 0) rfl))).wr W66 (Or.inl (List.mem_of_getElem? (i := 0) rfl))).wr W70 (Or.inl (List.mem_of_getElem? (i := 0) rfl))), (Eq.mp (congrArg (fun z => Arv Z h70 b kb .byte (Int32.ofNat M) z (.int (0 : Int32))) (own_wend (p := (j + (own_dec x).length - 6)) (ds := [(own_dc ((((own_abs x) / 100) / 100) / 10)), (own_dc (((own_abs x) / 100) / 100)), (own_dc (((own_abs x) / 100) / 10)), (own_dc ((own_abs x) / 100)), (own_dc ((own_abs x) / 10)), (own_dc (own_abs x))]) (by omega) (by rw [own_dec, if_neg x6, hdg, (own_d100 4 (own_abs x) : own_digs 6 (own_abs x) = _), (own_d100 2 ((own_abs x) / 100) : own_digs 4 ((own_abs x) / 100) = _), (own_d100 0 (((own_abs x) / 100) / 100) : own_digs 2 (((own_abs x) / 100) / 100) = _)]; rfl))) X72), (Cq.safe (show h70.size > b by omega) f74)⟩)
            · refine uN 109 hx hby d334 rfl ((if0 _ _).trans (feq g6).1) ?_
              obtain ⟨e6, x6⟩ := own_sg1 g6
              have hdg : own_dn (own_abs x) = 6 := (Nat.le_antisymm (own_du6 (by omega)) (own_dg6 (by omega)))
              refine uAN 110 hx hby d337 rfl rfl rfl ?_
              refine uInc 113 #[vi (negI (((own_abs x) / 100) / 100)), vi (Int32.ofNat (j + (own_dec x).length)), vr b, vi (negI (((own_abs x) / 100) / 100)), vi (Int32.ofNat (((own_abs x) / 100) % 100)), vi ((Int32.ofNat (j + (own_dec x).length - 6)) + (-1 : Int32)), vi (Int32.ofNat (own_sg x))] hx hby d338 rfl rfl rfl ?_
              refine gat (mkF m 113 #[vi (negI (((own_abs x) / 100) / 100)), vi (Int32.ofNat (j + (own_dec x).length)), vr b, vi (negI (((own_abs x) / 100) / 100)), vi (Int32.ofNat (((own_abs x) / 100) % 100)), vi (Int32.ofNat (j + (own_dec x).length - 7)), vi (Int32.ofNat (own_sg x))] [(.ref b)]) (by rw [own_dec1 (a := (j + (own_dec x).length - 6)) (b := (j + (own_dec x).length - 7)) (by omega) (by omega)]) ?_
              refine uI 115 hx hby d339 rfl rfl ?_
              refine uKb 117 (45 : Int32) hx hby d340 rfl rfl ?_
              have f76 := (C70.safe (show h66.size > b by omega) f71)
              refine gstB hx X72 ⟨nn0 (by omega), (ltOf (by omega) hM).mpr (by omega)⟩ (i := (j + (own_dec x).length - 7)) (tn (by omega)) (by rw [own_wl (by simp only [List.length_cons, List.length_nil]; omega) (by omega), hvd]; omega) (y := ((45 : Int32).toInt8.toInt32)) rfl P1 (fun _ => f76) 118 (hb hby d341) rfl ?_
              intro h75 W75 C75 V75
              have z75 := C75.2.1
              have X77 : Arv Z h75 b kb .byte (Int32.ofNat M) (own_w vd (j + (own_dec x).length - 7) (j + (own_dec x).length) [(45 : Int32), (own_dc ((((own_abs x) / 100) / 100) / 10)), (own_dc (((own_abs x) / 100) / 100)), (own_dc (((own_abs x) / 100) / 10)), (own_dc ((own_abs x) / 100)), (own_dc ((own_abs x) / 10)), (own_dc (own_abs x))]) (.int (0 : Int32)) := Eq.mp (congrArg (fun z => Arv Z h75 b kb .byte (Int32.ofNat M) z (.int (0 : Int32))) (own_w1 (p := (j + (own_dec x).length - 6)) (q := (j + (own_dec x).length - 7)) (c := (45 : Int32)) (by omega) (by omega))) V75
              refine uI 120 hx hby d335 rfl rfl ?_
              have f79 := (C75.safe (show h70.size > b by omega) f76)
              exact gretI hx hret (hb hby d336) (by decide) (by decide) (fun vq Cq => ⟨(congrArg (fun z => some (Value.int z)) (congrArg Int32.ofNat (by omega))), (((((((((Keep.refl h0 [b]).trans K2 all0).wr W28 (Or.inl (List.mem_of_getElem? (i := 0) rfl))).wr W32 (Or.inl (List.mem_of_getElem? (i := 0) rfl))).wr W58 (Or.inl (List.mem_of_getElem? (i := 0) rfl))).wr W62 (Or.inl (List.mem_of_getElem? (i := 0) rfl))).wr W66 (Or.inl (List.mem_of_getElem? (i := 0) rfl))).wr W70 (Or.inl (List.mem_of_getElem? (i := 0) rfl))).wr W75 (Or.inl (List.mem_of_getElem? (i := 0) rfl))), (Eq.mp (congrArg (fun z => Arv Z h75 b kb .byte (Int32.ofNat M) z (.int (0 : Int32))) (own_wend (p := (j + (own_dec x).length - 7)) (ds := [(45 : Int32), (own_dc ((((own_abs x) / 100) / 100) / 10)), (own_dc (((own_abs x) / 100) / 100)), (own_dc (((own_abs x) / 100) / 10)), (own_dc ((own_abs x) / 100)), (own_dc ((own_abs x) / 10)), (own_dc (own_abs x))]) (by omega) (by rw [own_dec, if_pos x6, hdg, (own_d100 4 (own_abs x) : own_digs 6 (own_abs x) = _), (own_d100 2 ((own_abs x) / 100) : own_digs 4 ((own_abs x) / 100) = _), (own_d100 0 (((own_abs x) / 100) / 100) : own_digs 2 (((own_abs x) / 100) / 100) = _)]; rfl))) X77), (Cq.safe (show h75.size > b by omega) f79)⟩)
          · refine uYc 104 hx hby d324 (flt g).2.1 (by decide) (by decide) ?_
            have m9 : ¬ 9 < (((own_abs x) / 100) / 100) := fun q => g ((own_gtn (n := (((own_abs x) / 100) / 100)) (by omega) 9 (by decide) (-9) (by decide +kernel)).mpr q)
            refine uI 106 hx hby d333 rfl rfl ?_
            by_cases g6 : (Int32.ofNat (own_sg x)) = (0 : Int32)
            · refine uY 118 hx hby d334 ((if0 _ _).trans (teq g6).1) (by decide) (by decide) ?_
              obtain ⟨e6, x6⟩ := own_sg0 g6
              have hdg : own_dn (own_abs x) = 5 := (Nat.le_antisymm (own_du5 (by omega)) (own_dg5 (by omega)))
              refine uI 120 hx hby d335 rfl rfl ?_
              have f81 := (C66.safe (show h62.size > b by omega) f67)
              exact gretI hx hret (hb hby d336) (by decide) (by decide) (fun vq Cq => ⟨(congrArg (fun z => some (Value.int z)) (congrArg Int32.ofNat (by omega))), (((((((Keep.refl h0 [b]).trans K2 all0).wr W28 (Or.inl (List.mem_of_getElem? (i := 0) rfl))).wr W32 (Or.inl (List.mem_of_getElem? (i := 0) rfl))).wr W58 (Or.inl (List.mem_of_getElem? (i := 0) rfl))).wr W62 (Or.inl (List.mem_of_getElem? (i := 0) rfl))).wr W66 (Or.inl (List.mem_of_getElem? (i := 0) rfl))), (Eq.mp (congrArg (fun z => Arv Z h66 b kb .byte (Int32.ofNat M) z (.int (0 : Int32))) (own_wend (p := (j + (own_dec x).length - 5)) (ds := [(own_dc (((own_abs x) / 100) / 100)), (own_dc (((own_abs x) / 100) / 10)), (own_dc ((own_abs x) / 100)), (own_dc ((own_abs x) / 10)), (own_dc (own_abs x))]) (by omega) (by rw [own_dec, if_neg x6, hdg, (own_d100 3 (own_abs x) : own_digs 5 (own_abs x) = _), (own_d100 1 ((own_abs x) / 100) : own_digs 3 ((own_abs x) / 100) = _)]; rfl))) X68), (Cq.safe (show h66.size > b by omega) f81)⟩)
            · refine uN 109 hx hby d334 rfl ((if0 _ _).trans (feq g6).1) ?_
              obtain ⟨e6, x6⟩ := own_sg1 g6
              have hdg : own_dn (own_abs x) = 5 := (Nat.le_antisymm (own_du5 (by omega)) (own_dg5 (by omega)))
              refine uAN 110 hx hby d337 rfl rfl rfl ?_
              refine uInc 113 #[vi (negI (((own_abs x) / 100) / 100)), vi (Int32.ofNat (j + (own_dec x).length)), vr b, vi (negI (((own_abs x) / 100) / 100)), vi (Int32.ofNat (((own_abs x) / 100) % 100)), vi ((Int32.ofNat (j + (own_dec x).length - 5)) + (-1 : Int32)), vi (Int32.ofNat (own_sg x))] hx hby d338 rfl rfl rfl ?_
              refine gat (mkF m 113 #[vi (negI (((own_abs x) / 100) / 100)), vi (Int32.ofNat (j + (own_dec x).length)), vr b, vi (negI (((own_abs x) / 100) / 100)), vi (Int32.ofNat (((own_abs x) / 100) % 100)), vi (Int32.ofNat (j + (own_dec x).length - 6)), vi (Int32.ofNat (own_sg x))] [(.ref b)]) (by rw [own_dec1 (a := (j + (own_dec x).length - 5)) (b := (j + (own_dec x).length - 6)) (by omega) (by omega)]) ?_
              refine uI 115 hx hby d339 rfl rfl ?_
              refine uKb 117 (45 : Int32) hx hby d340 rfl rfl ?_
              have f83 := (C66.safe (show h62.size > b by omega) f67)
              refine gstB hx X68 ⟨nn0 (by omega), (ltOf (by omega) hM).mpr (by omega)⟩ (i := (j + (own_dec x).length - 6)) (tn (by omega)) (by rw [own_wl (by simp only [List.length_cons, List.length_nil]; omega) (by omega), hvd]; omega) (y := ((45 : Int32).toInt8.toInt32)) rfl P1 (fun _ => f83) 118 (hb hby d341) rfl ?_
              intro h82 W82 C82 V82
              have z82 := C82.2.1
              have X84 : Arv Z h82 b kb .byte (Int32.ofNat M) (own_w vd (j + (own_dec x).length - 6) (j + (own_dec x).length) [(45 : Int32), (own_dc (((own_abs x) / 100) / 100)), (own_dc (((own_abs x) / 100) / 10)), (own_dc ((own_abs x) / 100)), (own_dc ((own_abs x) / 10)), (own_dc (own_abs x))]) (.int (0 : Int32)) := Eq.mp (congrArg (fun z => Arv Z h82 b kb .byte (Int32.ofNat M) z (.int (0 : Int32))) (own_w1 (p := (j + (own_dec x).length - 5)) (q := (j + (own_dec x).length - 6)) (c := (45 : Int32)) (by omega) (by omega))) V82
              refine uI 120 hx hby d335 rfl rfl ?_
              have f86 := (C82.safe (show h66.size > b by omega) f83)
              exact gretI hx hret (hb hby d336) (by decide) (by decide) (fun vq Cq => ⟨(congrArg (fun z => some (Value.int z)) (congrArg Int32.ofNat (by omega))), ((((((((Keep.refl h0 [b]).trans K2 all0).wr W28 (Or.inl (List.mem_of_getElem? (i := 0) rfl))).wr W32 (Or.inl (List.mem_of_getElem? (i := 0) rfl))).wr W58 (Or.inl (List.mem_of_getElem? (i := 0) rfl))).wr W62 (Or.inl (List.mem_of_getElem? (i := 0) rfl))).wr W66 (Or.inl (List.mem_of_getElem? (i := 0) rfl))).wr W82 (Or.inl (List.mem_of_getElem? (i := 0) rfl))), (Eq.mp (congrArg (fun z => Arv Z h82 b kb .byte (Int32.ofNat M) z (.int (0 : Int32))) (own_wend (p := (j + (own_dec x).length - 6)) (ds := [(45 : Int32), (own_dc (((own_abs x) / 100) / 100)), (own_dc (((own_abs x) / 100) / 10)), (own_dc ((own_abs x) / 100)), (own_dc ((own_abs x) / 10)), (own_dc (own_abs x))]) (by omega) (by rw [own_dec, if_pos x6, hdg, (own_d100 3 (own_abs x) : own_digs 5 (own_abs x) = _), (own_d100 1 ((own_abs x) / 100) : own_digs 3 ((own_abs x) / 100) = _)]; rfl))) X84), (Cq.safe (show h82.size > b by omega) f86)⟩)
        · refine uNc 28 hx hby d313 rfl (flt g).2.2.1 ?_
          have m2 : ¬ (((own_abs x) / 100) / 100) < 100 := fun q => g ((own_ltn (n := (((own_abs x) / 100) / 100)) (by omega) 100 (by decide) (-100) (by decide +kernel)).mpr q)
          have hd4 := own_dg7 (n := own_abs x) (by omega)
          refine uIN 29 hx hby d342 rfl rfl ?_
          refine uKb 31 (100 : Int32) hx hby d343 rfl rfl ?_
          refine gs (mkF m 32 #[vi (negI (((own_abs x) / 100) / 100)), vi (Int32.ofNat (j + (own_dec x).length)), vr b, vi (negI (((own_abs x) / 100) / 100)), vi (Int32.ofNat (((own_abs x) / 100) % 100)), vi (Int32.ofNat (j + (own_dec x).length - 4)), vi (Int32.ofNat (own_sg x))] [(.int ((negI (((own_abs x) / 100) / 100)) / (100 : Int32)))]) (fun _ _ A kq => XS.idiv A hx rfl (hb hby d344) rfl (by decide) kq) ?_
          refine gat (mkF m 32 #[vi (negI (((own_abs x) / 100) / 100)), vi (Int32.ofNat (j + (own_dec x).length)), vr b, vi (negI (((own_abs x) / 100) / 100)), vi (Int32.ofNat (((own_abs x) / 100) % 100)), vi (Int32.ofNat (j + (own_dec x).length - 4)), vi (Int32.ofNat (own_sg x))] [(.int (negI ((((own_abs x) / 100) / 100) / 100)))]) (by rw [negI_div100 (n := (((own_abs x) / 100) / 100)) (by omega)]) ?_
          refine uSIN 33 #[vi (negI (((own_abs x) / 100) / 100)), vi (Int32.ofNat (j + (own_dec x).length)), vr b, vi (negI ((((own_abs x) / 100) / 100) / 100)), vi (Int32.ofNat (((own_abs x) / 100) % 100)), vi (Int32.ofNat (j + (own_dec x).length - 4)), vi (Int32.ofNat (own_sg x))] hx hby d345 rfl rfl ?_
          refine uIN 34 hx hby d346 rfl rfl ?_
          refine uKb 36 (100 : Int32) hx hby d347 rfl rfl ?_
          refine uimul 37 ((negI ((((own_abs x) / 100) / 100) / 100)) * (100 : Int32)) hx hby d348 rfl rfl ?_
          refine uIN 38 hx hby d349 rfl rfl ?_
          refine uisub 39 (((negI ((((own_abs x) / 100) / 100) / 100)) * (100 : Int32)) - (negI (((own_abs x) / 100) / 100))) hx hby d350 rfl rfl ?_
          refine gat (mkF m 39 #[vi (negI (((own_abs x) / 100) / 100)), vi (Int32.ofNat (j + (own_dec x).length)), vr b, vi (negI ((((own_abs x) / 100) / 100) / 100)), vi (Int32.ofNat (((own_abs x) / 100) % 100)), vi (Int32.ofNat (j + (own_dec x).length - 4)), vi (Int32.ofNat (own_sg x))] [(.int (Int32.ofNat ((((own_abs x) / 100) / 100) % 100)))]) (by rw [negI_rem (n := (((own_abs x) / 100) / 100)) (by omega)]) ?_
          refine uSI 41 #[vi (negI (((own_abs x) / 100) / 100)), vi (Int32.ofNat (j + (own_dec x).length)), vr b, vi (negI ((((own_abs x) / 100) / 100) / 100)), vi (Int32.ofNat ((((own_abs x) / 100) / 100) % 100)), vi (Int32.ofNat (j + (own_dec x).length - 4)), vi (Int32.ofNat (own_sg x))] hx hby d351 rfl rfl ?_
          refine uIN 42 hx hby d352 rfl rfl ?_
          refine uSIN 43 #[vi (negI ((((own_abs x) / 100) / 100) / 100)), vi (Int32.ofNat (j + (own_dec x).length)), vr b, vi (negI ((((own_abs x) / 100) / 100) / 100)), vi (Int32.ofNat ((((own_abs x) / 100) / 100) % 100)), vi (Int32.ofNat (j + (own_dec x).length - 4)), vi (Int32.ofNat (own_sg x))] hx hby d353 rfl rfl ?_
          refine uAN 44 hx hby d354 rfl rfl rfl ?_
          refine uInc 47 #[vi (negI ((((own_abs x) / 100) / 100) / 100)), vi (Int32.ofNat (j + (own_dec x).length)), vr b, vi (negI ((((own_abs x) / 100) / 100) / 100)), vi (Int32.ofNat ((((own_abs x) / 100) / 100) % 100)), vi ((Int32.ofNat (j + (own_dec x).length - 4)) + (-1 : Int32)), vi (Int32.ofNat (own_sg x))] hx hby d355 rfl rfl rfl ?_
          refine gat (mkF m 47 #[vi (negI ((((own_abs x) / 100) / 100) / 100)), vi (Int32.ofNat (j + (own_dec x).length)), vr b, vi (negI ((((own_abs x) / 100) / 100) / 100)), vi (Int32.ofNat ((((own_abs x) / 100) / 100) % 100)), vi (Int32.ofNat (j + (own_dec x).length - 5)), vi (Int32.ofNat (own_sg x))] [(.ref b)]) (by rw [own_dec1 (a := (j + (own_dec x).length - 4)) (b := (j + (own_dec x).length - 5)) (by omega) (by omega)]) ?_
          refine uI 49 hx hby d356 rfl rfl ?_
          refine ggetS (host := "") hx (Or.inl (ow hw 132 rfl)) Via.refl Sgo 52 (hb hby d357) rfl ?_
          refine uI 54 hx hby d358 rfl rfl ?_
          have f87 := ((f57.other W58 (Nat.ne_of_lt (Nat.lt_of_lt_of_le Vgo.lt P1))).other W62 (Nat.ne_of_lt (Nat.lt_of_lt_of_le Vgo.lt P1)))
          refine gldB hx f87 (own_lt100 _) (i := ((((own_abs x) / 100) / 100) % 100)) (tn (by omega)) (v := (.int (own_dc (((own_abs x) / 100) / 100)))) (own_ones _) 55 (hb hby d359) rfl ?_
          have f89 := (C62.safe (show h58.size > b by omega) f63)
          refine gstB hx X64 ⟨nn0 (by omega), (ltOf (by omega) hM).mpr (by omega)⟩ (i := (j + (own_dec x).length - 5)) (tn (by omega)) (by rw [own_wl (by simp only [List.length_cons, List.length_nil]; omega) (by omega), hvd]; omega) (y := ((own_dc (((own_abs x) / 100) / 100)).toInt8.toInt32)) rfl P1 (fun _ => f89) 56 (hb hby d360) rfl ?_
          intro h88 W88 C88 V88
          have z88 := C88.2.1
          have X90 : Arv Z h88 b kb .byte (Int32.ofNat M) (own_w vd (j + (own_dec x).length - 5) (j + (own_dec x).length) [(own_dc (((own_abs x) / 100) / 100)), (own_dc (((own_abs x) / 100) / 10)), (own_dc ((own_abs x) / 100)), (own_dc ((own_abs x) / 10)), (own_dc (own_abs x))]) (.int (0 : Int32)) := Eq.mp (congrArg (fun z => Arv Z h88 b kb .byte (Int32.ofNat M) z (.int (0 : Int32))) (own_w1 (p := (j + (own_dec x).length - 4)) (q := (j + (own_dec x).length - 5)) (c := (own_dc (((own_abs x) / 100) / 100))) (by omega) (by omega))) V88
          refine uAN 57 hx hby d361 rfl rfl rfl ?_
          refine uInc 60 #[vi (negI ((((own_abs x) / 100) / 100) / 100)), vi (Int32.ofNat (j + (own_dec x).length)), vr b, vi (negI ((((own_abs x) / 100) / 100) / 100)), vi (Int32.ofNat ((((own_abs x) / 100) / 100) % 100)), vi ((Int32.ofNat (j + (own_dec x).length - 5)) + (-1 : Int32)), vi (Int32.ofNat (own_sg x))] hx hby d362 rfl rfl rfl ?_
          refine gat (mkF m 60 #[vi (negI ((((own_abs x) / 100) / 100) / 100)), vi (Int32.ofNat (j + (own_dec x).length)), vr b, vi (negI ((((own_abs x) / 100) / 100) / 100)), vi (Int32.ofNat ((((own_abs x) / 100) / 100) % 100)), vi (Int32.ofNat (j + (own_dec x).length - 6)), vi (Int32.ofNat (own_sg x))] [(.ref b)]) (by rw [own_dec1 (a := (j + (own_dec x).length - 5)) (b := (j + (own_dec x).length - 6)) (by omega) (by omega)]) ?_
          refine uI 62 hx hby d363 rfl rfl ?_
          refine ggetS (host := "") hx (Or.inl (ow hw 224 rfl)) Via.refl Sgt 65 (hb hby d364) rfl ?_
          refine uI 67 hx hby d365 rfl rfl ?_
          have f91 := ((f61.other W62 (Nat.ne_of_lt (Nat.lt_of_lt_of_le Vgt.lt P1))).other W88 (Nat.ne_of_lt (Nat.lt_of_lt_of_le Vgt.lt P1)))
          refine gldB hx f91 (own_lt100 _) (i := ((((own_abs x) / 100) / 100) % 100)) (tn (by omega)) (v := (.int (own_dc ((((own_abs x) / 100) / 100) / 10)))) (own_tens _) 68 (hb hby d366) rfl ?_
          have f93 := (C88.safe (show h62.size > b by omega) f89)
          refine gstB hx X90 ⟨nn0 (by omega), (ltOf (by omega) hM).mpr (by omega)⟩ (i := (j + (own_dec x).length - 6)) (tn (by omega)) (by rw [own_wl (by simp only [List.length_cons, List.length_nil]; omega) (by omega), hvd]; omega) (y := ((own_dc ((((own_abs x) / 100) / 100) / 10)).toInt8.toInt32)) rfl P1 (fun _ => f93) 69 (hb hby d367) rfl ?_
          intro h92 W92 C92 V92
          have z92 := C92.2.1
          have X94 : Arv Z h92 b kb .byte (Int32.ofNat M) (own_w vd (j + (own_dec x).length - 6) (j + (own_dec x).length) [(own_dc ((((own_abs x) / 100) / 100) / 10)), (own_dc (((own_abs x) / 100) / 100)), (own_dc (((own_abs x) / 100) / 10)), (own_dc ((own_abs x) / 100)), (own_dc ((own_abs x) / 10)), (own_dc (own_abs x))]) (.int (0 : Int32)) := Eq.mp (congrArg (fun z => Arv Z h92 b kb .byte (Int32.ofNat M) z (.int (0 : Int32))) (own_w1 (p := (j + (own_dec x).length - 5)) (q := (j + (own_dec x).length - 6)) (c := (own_dc ((((own_abs x) / 100) / 100) / 10))) (by omega) (by omega))) V92
          refine uG 22 hx hby d368 (by decide) (by decide) ?_
          refine uIN 23 hx hby d311 rfl rfl ?_
          refine uKb 25 (-100 : Int32) hx hby d312 rfl rfl ?_
          by_cases g : (-100 : Int32) < (negI ((((own_abs x) / 100) / 100) / 100))
          · refine uYc 72 hx hby d313 (tlt g).2.2.1 (by decide) (by decide) ?_
            have m3 := (own_ltn (n := ((((own_abs x) / 100) / 100) / 100)) (by omega) 100 (by decide) (-100) (by decide +kernel)).mp g
            refine uAN 73 hx hby d314 rfl rfl rfl ?_
            refine uInc 76 #[vi (negI ((((own_abs x) / 100) / 100) / 100)), vi (Int32.ofNat (j + (own_dec x).length)), vr b, vi (negI ((((own_abs x) / 100) / 100) / 100)), vi (Int32.ofNat ((((own_abs x) / 100) / 100) % 100)), vi ((Int32.ofNat (j + (own_dec x).length - 6)) + (-1 : Int32)), vi (Int32.ofNat (own_sg x))] hx hby d315 rfl rfl rfl ?_
            refine gat (mkF m 76 #[vi (negI ((((own_abs x) / 100) / 100) / 100)), vi (Int32.ofNat (j + (own_dec x).length)), vr b, vi (negI ((((own_abs x) / 100) / 100) / 100)), vi (Int32.ofNat ((((own_abs x) / 100) / 100) % 100)), vi (Int32.ofNat (j + (own_dec x).length - 7)), vi (Int32.ofNat (own_sg x))] [(.ref b)]) (by rw [own_dec1 (a := (j + (own_dec x).length - 6)) (b := (j + (own_dec x).length - 7)) (by omega) (by omega)]) ?_
            refine uI 78 hx hby d316 rfl rfl ?_
            refine ggetS (host := "") hx (Or.inl (ow hw 132 rfl)) Via.refl Sgo 81 (hb hby d317) rfl ?_
            refine uIN 82 hx hby d318 rfl rfl ?_
            refine gs (mkF m 83 #[vi (negI ((((own_abs x) / 100) / 100) / 100)), vi (Int32.ofNat (j + (own_dec x).length)), vr b, vi (negI ((((own_abs x) / 100) / 100) / 100)), vi (Int32.ofNat ((((own_abs x) / 100) / 100) % 100)), vi (Int32.ofNat (j + (own_dec x).length - 7)), vi (Int32.ofNat (own_sg x))] [(.int (-(negI ((((own_abs x) / 100) / 100) / 100)))), (.ref dgo), (.int (Int32.ofNat (j + (own_dec x).length - 7))), (.ref b)]) (fun _ _ A kq => XS.ineg A hx rfl (hb hby d319) rfl kq) ?_
            refine gat (mkF m 83 #[vi (negI ((((own_abs x) / 100) / 100) / 100)), vi (Int32.ofNat (j + (own_dec x).length)), vr b, vi (negI ((((own_abs x) / 100) / 100) / 100)), vi (Int32.ofNat ((((own_abs x) / 100) / 100) % 100)), vi (Int32.ofNat (j + (own_dec x).length - 7)), vi (Int32.ofNat (own_sg x))] [(.int (Int32.ofNat (((((own_abs x) / 100) / 100) / 100) % 100))), (.ref dgo), (.int (Int32.ofNat (j + (own_dec x).length - 7))), (.ref b)]) (by rw [own_negm (n := ((((own_abs x) / 100) / 100) / 100)) (by omega)]) ?_
            have f95 := ((f87.other W88 (Nat.ne_of_lt (Nat.lt_of_lt_of_le Vgo.lt P1))).other W92 (Nat.ne_of_lt (Nat.lt_of_lt_of_le Vgo.lt P1)))
            refine gldB hx f95 (own_lt100 _) (i := (((((own_abs x) / 100) / 100) / 100) % 100)) (tn (by omega)) (v := (.int (own_dc ((((own_abs x) / 100) / 100) / 100)))) (own_ones _) 84 (hb hby d320) rfl ?_
            have f97 := (C92.safe (show h88.size > b by omega) f93)
            refine gstB hx X94 ⟨nn0 (by omega), (ltOf (by omega) hM).mpr (by omega)⟩ (i := (j + (own_dec x).length - 7)) (tn (by omega)) (by rw [own_wl (by simp only [List.length_cons, List.length_nil]; omega) (by omega), hvd]; omega) (y := ((own_dc ((((own_abs x) / 100) / 100) / 100)).toInt8.toInt32)) rfl P1 (fun _ => f97) 85 (hb hby d321) rfl ?_
            intro h96 W96 C96 V96
            have z96 := C96.2.1
            have X98 : Arv Z h96 b kb .byte (Int32.ofNat M) (own_w vd (j + (own_dec x).length - 7) (j + (own_dec x).length) [(own_dc ((((own_abs x) / 100) / 100) / 100)), (own_dc ((((own_abs x) / 100) / 100) / 10)), (own_dc (((own_abs x) / 100) / 100)), (own_dc (((own_abs x) / 100) / 10)), (own_dc ((own_abs x) / 100)), (own_dc ((own_abs x) / 10)), (own_dc (own_abs x))]) (.int (0 : Int32)) := Eq.mp (congrArg (fun z => Arv Z h96 b kb .byte (Int32.ofNat M) z (.int (0 : Int32))) (own_w1 (p := (j + (own_dec x).length - 6)) (q := (j + (own_dec x).length - 7)) (c := (own_dc ((((own_abs x) / 100) / 100) / 100))) (by omega) (by omega))) V96
            refine uIN 86 hx hby d322 rfl rfl ?_
            refine uKb 88 (-9 : Int32) hx hby d323 rfl rfl ?_
            by_cases g : (negI ((((own_abs x) / 100) / 100) / 100)) < (-9 : Int32)
            · refine uNc 91 hx hby d324 rfl (tlt g).2.1 ?_
              have m9 := (own_gtn (n := ((((own_abs x) / 100) / 100) / 100)) (by omega) 9 (by decide) (-9) (by decide +kernel)).mp g
              have hd9 := own_dg8 (n := own_abs x) (by omega)
              refine uAN 92 hx hby d325 rfl rfl rfl ?_
              refine uInc 95 #[vi (negI ((((own_abs x) / 100) / 100) / 100)), vi (Int32.ofNat (j + (own_dec x).length)), vr b, vi (negI ((((own_abs x) / 100) / 100) / 100)), vi (Int32.ofNat ((((own_abs x) / 100) / 100) % 100)), vi ((Int32.ofNat (j + (own_dec x).length - 7)) + (-1 : Int32)), vi (Int32.ofNat (own_sg x))] hx hby d326 rfl rfl rfl ?_
              refine gat (mkF m 95 #[vi (negI ((((own_abs x) / 100) / 100) / 100)), vi (Int32.ofNat (j + (own_dec x).length)), vr b, vi (negI ((((own_abs x) / 100) / 100) / 100)), vi (Int32.ofNat ((((own_abs x) / 100) / 100) % 100)), vi (Int32.ofNat (j + (own_dec x).length - 8)), vi (Int32.ofNat (own_sg x))] [(.ref b)]) (by rw [own_dec1 (a := (j + (own_dec x).length - 7)) (b := (j + (own_dec x).length - 8)) (by omega) (by omega)]) ?_
              refine uI 97 hx hby d327 rfl rfl ?_
              refine ggetS (host := "") hx (Or.inl (ow hw 224 rfl)) Via.refl Sgt 100 (hb hby d328) rfl ?_
              refine uIN 101 hx hby d329 rfl rfl ?_
              refine gs (mkF m 102 #[vi (negI ((((own_abs x) / 100) / 100) / 100)), vi (Int32.ofNat (j + (own_dec x).length)), vr b, vi (negI ((((own_abs x) / 100) / 100) / 100)), vi (Int32.ofNat ((((own_abs x) / 100) / 100) % 100)), vi (Int32.ofNat (j + (own_dec x).length - 8)), vi (Int32.ofNat (own_sg x))] [(.int (-(negI ((((own_abs x) / 100) / 100) / 100)))), (.ref dgt), (.int (Int32.ofNat (j + (own_dec x).length - 8))), (.ref b)]) (fun _ _ A kq => XS.ineg A hx rfl (hb hby d330) rfl kq) ?_
              refine gat (mkF m 102 #[vi (negI ((((own_abs x) / 100) / 100) / 100)), vi (Int32.ofNat (j + (own_dec x).length)), vr b, vi (negI ((((own_abs x) / 100) / 100) / 100)), vi (Int32.ofNat ((((own_abs x) / 100) / 100) % 100)), vi (Int32.ofNat (j + (own_dec x).length - 8)), vi (Int32.ofNat (own_sg x))] [(.int (Int32.ofNat (((((own_abs x) / 100) / 100) / 100) % 100))), (.ref dgt), (.int (Int32.ofNat (j + (own_dec x).length - 8))), (.ref b)]) (by rw [own_negm (n := ((((own_abs x) / 100) / 100) / 100)) (by omega)]) ?_
              have f99 := ((f91.other W92 (Nat.ne_of_lt (Nat.lt_of_lt_of_le Vgt.lt P1))).other W96 (Nat.ne_of_lt (Nat.lt_of_lt_of_le Vgt.lt P1)))
              refine gldB hx f99 (own_lt100 _) (i := (((((own_abs x) / 100) / 100) / 100) % 100)) (tn (by omega)) (v := (.int (own_dc (((((own_abs x) / 100) / 100) / 100) / 10)))) (own_tens _) 103 (hb hby d331) rfl ?_
              have f101 := (C96.safe (show h92.size > b by omega) f97)
              refine gstB hx X98 ⟨nn0 (by omega), (ltOf (by omega) hM).mpr (by omega)⟩ (i := (j + (own_dec x).length - 8)) (tn (by omega)) (by rw [own_wl (by simp only [List.length_cons, List.length_nil]; omega) (by omega), hvd]; omega) (y := ((own_dc (((((own_abs x) / 100) / 100) / 100) / 10)).toInt8.toInt32)) rfl P1 (fun _ => f101) 104 (hb hby d332) rfl ?_
              intro h100 W100 C100 V100
              have z100 := C100.2.1
              have X102 : Arv Z h100 b kb .byte (Int32.ofNat M) (own_w vd (j + (own_dec x).length - 8) (j + (own_dec x).length) [(own_dc (((((own_abs x) / 100) / 100) / 100) / 10)), (own_dc ((((own_abs x) / 100) / 100) / 100)), (own_dc ((((own_abs x) / 100) / 100) / 10)), (own_dc (((own_abs x) / 100) / 100)), (own_dc (((own_abs x) / 100) / 10)), (own_dc ((own_abs x) / 100)), (own_dc ((own_abs x) / 10)), (own_dc (own_abs x))]) (.int (0 : Int32)) := Eq.mp (congrArg (fun z => Arv Z h100 b kb .byte (Int32.ofNat M) z (.int (0 : Int32))) (own_w1 (p := (j + (own_dec x).length - 7)) (q := (j + (own_dec x).length - 8)) (c := (own_dc (((((own_abs x) / 100) / 100) / 100) / 10))) (by omega) (by omega))) V100
              refine uI 106 hx hby d333 rfl rfl ?_
              by_cases g6 : (Int32.ofNat (own_sg x)) = (0 : Int32)
              · refine uY 118 hx hby d334 ((if0 _ _).trans (teq g6).1) (by decide) (by decide) ?_
                obtain ⟨e6, x6⟩ := own_sg0 g6
                have hdg : own_dn (own_abs x) = 8 := (Nat.le_antisymm (own_du8 (by omega)) (own_dg8 (by omega)))
                refine uI 120 hx hby d335 rfl rfl ?_
                have f104 := (C100.safe (show h96.size > b by omega) f101)
                exact gretI hx hret (hb hby d336) (by decide) (by decide) (fun vq Cq => ⟨(congrArg (fun z => some (Value.int z)) (congrArg Int32.ofNat (by omega))), ((((((((((Keep.refl h0 [b]).trans K2 all0).wr W28 (Or.inl (List.mem_of_getElem? (i := 0) rfl))).wr W32 (Or.inl (List.mem_of_getElem? (i := 0) rfl))).wr W58 (Or.inl (List.mem_of_getElem? (i := 0) rfl))).wr W62 (Or.inl (List.mem_of_getElem? (i := 0) rfl))).wr W88 (Or.inl (List.mem_of_getElem? (i := 0) rfl))).wr W92 (Or.inl (List.mem_of_getElem? (i := 0) rfl))).wr W96 (Or.inl (List.mem_of_getElem? (i := 0) rfl))).wr W100 (Or.inl (List.mem_of_getElem? (i := 0) rfl))), (Eq.mp (congrArg (fun z => Arv Z h100 b kb .byte (Int32.ofNat M) z (.int (0 : Int32))) (own_wend (p := (j + (own_dec x).length - 8)) (ds := [(own_dc (((((own_abs x) / 100) / 100) / 100) / 10)), (own_dc ((((own_abs x) / 100) / 100) / 100)), (own_dc ((((own_abs x) / 100) / 100) / 10)), (own_dc (((own_abs x) / 100) / 100)), (own_dc (((own_abs x) / 100) / 10)), (own_dc ((own_abs x) / 100)), (own_dc ((own_abs x) / 10)), (own_dc (own_abs x))]) (by omega) (by rw [own_dec, if_neg x6, hdg, (own_d100 6 (own_abs x) : own_digs 8 (own_abs x) = _), (own_d100 4 ((own_abs x) / 100) : own_digs 6 ((own_abs x) / 100) = _), (own_d100 2 (((own_abs x) / 100) / 100) : own_digs 4 (((own_abs x) / 100) / 100) = _), (own_d100 0 ((((own_abs x) / 100) / 100) / 100) : own_digs 2 ((((own_abs x) / 100) / 100) / 100) = _)]; rfl))) X102), (Cq.safe (show h100.size > b by omega) f104)⟩)
              · refine uN 109 hx hby d334 rfl ((if0 _ _).trans (feq g6).1) ?_
                obtain ⟨e6, x6⟩ := own_sg1 g6
                have hdg : own_dn (own_abs x) = 8 := (Nat.le_antisymm (own_du8 (by omega)) (own_dg8 (by omega)))
                refine uAN 110 hx hby d337 rfl rfl rfl ?_
                refine uInc 113 #[vi (negI ((((own_abs x) / 100) / 100) / 100)), vi (Int32.ofNat (j + (own_dec x).length)), vr b, vi (negI ((((own_abs x) / 100) / 100) / 100)), vi (Int32.ofNat ((((own_abs x) / 100) / 100) % 100)), vi ((Int32.ofNat (j + (own_dec x).length - 8)) + (-1 : Int32)), vi (Int32.ofNat (own_sg x))] hx hby d338 rfl rfl rfl ?_
                refine gat (mkF m 113 #[vi (negI ((((own_abs x) / 100) / 100) / 100)), vi (Int32.ofNat (j + (own_dec x).length)), vr b, vi (negI ((((own_abs x) / 100) / 100) / 100)), vi (Int32.ofNat ((((own_abs x) / 100) / 100) % 100)), vi (Int32.ofNat (j + (own_dec x).length - 9)), vi (Int32.ofNat (own_sg x))] [(.ref b)]) (by rw [own_dec1 (a := (j + (own_dec x).length - 8)) (b := (j + (own_dec x).length - 9)) (by omega) (by omega)]) ?_
                refine uI 115 hx hby d339 rfl rfl ?_
                refine uKb 117 (45 : Int32) hx hby d340 rfl rfl ?_
                have f106 := (C100.safe (show h96.size > b by omega) f101)
                refine gstB hx X102 ⟨nn0 (by omega), (ltOf (by omega) hM).mpr (by omega)⟩ (i := (j + (own_dec x).length - 9)) (tn (by omega)) (by rw [own_wl (by simp only [List.length_cons, List.length_nil]; omega) (by omega), hvd]; omega) (y := ((45 : Int32).toInt8.toInt32)) rfl P1 (fun _ => f106) 118 (hb hby d341) rfl ?_
                intro h105 W105 C105 V105
                have z105 := C105.2.1
                have X107 : Arv Z h105 b kb .byte (Int32.ofNat M) (own_w vd (j + (own_dec x).length - 9) (j + (own_dec x).length) [(45 : Int32), (own_dc (((((own_abs x) / 100) / 100) / 100) / 10)), (own_dc ((((own_abs x) / 100) / 100) / 100)), (own_dc ((((own_abs x) / 100) / 100) / 10)), (own_dc (((own_abs x) / 100) / 100)), (own_dc (((own_abs x) / 100) / 10)), (own_dc ((own_abs x) / 100)), (own_dc ((own_abs x) / 10)), (own_dc (own_abs x))]) (.int (0 : Int32)) := Eq.mp (congrArg (fun z => Arv Z h105 b kb .byte (Int32.ofNat M) z (.int (0 : Int32))) (own_w1 (p := (j + (own_dec x).length - 8)) (q := (j + (own_dec x).length - 9)) (c := (45 : Int32)) (by omega) (by omega))) V105
                refine uI 120 hx hby d335 rfl rfl ?_
                have f109 := (C105.safe (show h100.size > b by omega) f106)
                exact gretI hx hret (hb hby d336) (by decide) (by decide) (fun vq Cq => ⟨(congrArg (fun z => some (Value.int z)) (congrArg Int32.ofNat (by omega))), (((((((((((Keep.refl h0 [b]).trans K2 all0).wr W28 (Or.inl (List.mem_of_getElem? (i := 0) rfl))).wr W32 (Or.inl (List.mem_of_getElem? (i := 0) rfl))).wr W58 (Or.inl (List.mem_of_getElem? (i := 0) rfl))).wr W62 (Or.inl (List.mem_of_getElem? (i := 0) rfl))).wr W88 (Or.inl (List.mem_of_getElem? (i := 0) rfl))).wr W92 (Or.inl (List.mem_of_getElem? (i := 0) rfl))).wr W96 (Or.inl (List.mem_of_getElem? (i := 0) rfl))).wr W100 (Or.inl (List.mem_of_getElem? (i := 0) rfl))).wr W105 (Or.inl (List.mem_of_getElem? (i := 0) rfl))), (Eq.mp (congrArg (fun z => Arv Z h105 b kb .byte (Int32.ofNat M) z (.int (0 : Int32))) (own_wend (p := (j + (own_dec x).length - 9)) (ds := [(45 : Int32), (own_dc (((((own_abs x) / 100) / 100) / 100) / 10)), (own_dc ((((own_abs x) / 100) / 100) / 100)), (own_dc ((((own_abs x) / 100) / 100) / 10)), (own_dc (((own_abs x) / 100) / 100)), (own_dc (((own_abs x) / 100) / 10)), (own_dc ((own_abs x) / 100)), (own_dc ((own_abs x) / 10)), (own_dc (own_abs x))]) (by omega) (by rw [own_dec, if_pos x6, hdg, (own_d100 6 (own_abs x) : own_digs 8 (own_abs x) = _), (own_d100 4 ((own_abs x) / 100) : own_digs 6 ((own_abs x) / 100) = _), (own_d100 2 (((own_abs x) / 100) / 100) : own_digs 4 (((own_abs x) / 100) / 100) = _), (own_d100 0 ((((own_abs x) / 100) / 100) / 100) : own_digs 2 ((((own_abs x) / 100) / 100) / 100) = _)]; rfl))) X107), (Cq.safe (show h105.size > b by omega) f109)⟩)
            · refine uYc 104 hx hby d324 (flt g).2.1 (by decide) (by decide) ?_
              have m9 : ¬ 9 < ((((own_abs x) / 100) / 100) / 100) := fun q => g ((own_gtn (n := ((((own_abs x) / 100) / 100) / 100)) (by omega) 9 (by decide) (-9) (by decide +kernel)).mpr q)
              refine uI 106 hx hby d333 rfl rfl ?_
              by_cases g6 : (Int32.ofNat (own_sg x)) = (0 : Int32)
              · refine uY 118 hx hby d334 ((if0 _ _).trans (teq g6).1) (by decide) (by decide) ?_
                obtain ⟨e6, x6⟩ := own_sg0 g6
                have hdg : own_dn (own_abs x) = 7 := (Nat.le_antisymm (own_du7 (by omega)) (own_dg7 (by omega)))
                refine uI 120 hx hby d335 rfl rfl ?_
                have f111 := (C96.safe (show h92.size > b by omega) f97)
                exact gretI hx hret (hb hby d336) (by decide) (by decide) (fun vq Cq => ⟨(congrArg (fun z => some (Value.int z)) (congrArg Int32.ofNat (by omega))), (((((((((Keep.refl h0 [b]).trans K2 all0).wr W28 (Or.inl (List.mem_of_getElem? (i := 0) rfl))).wr W32 (Or.inl (List.mem_of_getElem? (i := 0) rfl))).wr W58 (Or.inl (List.mem_of_getElem? (i := 0) rfl))).wr W62 (Or.inl (List.mem_of_getElem? (i := 0) rfl))).wr W88 (Or.inl (List.mem_of_getElem? (i := 0) rfl))).wr W92 (Or.inl (List.mem_of_getElem? (i := 0) rfl))).wr W96 (Or.inl (List.mem_of_getElem? (i := 0) rfl))), (Eq.mp (congrArg (fun z => Arv Z h96 b kb .byte (Int32.ofNat M) z (.int (0 : Int32))) (own_wend (p := (j + (own_dec x).length - 7)) (ds := [(own_dc ((((own_abs x) / 100) / 100) / 100)), (own_dc ((((own_abs x) / 100) / 100) / 10)), (own_dc (((own_abs x) / 100) / 100)), (own_dc (((own_abs x) / 100) / 10)), (own_dc ((own_abs x) / 100)), (own_dc ((own_abs x) / 10)), (own_dc (own_abs x))]) (by omega) (by rw [own_dec, if_neg x6, hdg, (own_d100 5 (own_abs x) : own_digs 7 (own_abs x) = _), (own_d100 3 ((own_abs x) / 100) : own_digs 5 ((own_abs x) / 100) = _), (own_d100 1 (((own_abs x) / 100) / 100) : own_digs 3 (((own_abs x) / 100) / 100) = _)]; rfl))) X98), (Cq.safe (show h96.size > b by omega) f111)⟩)
              · refine uN 109 hx hby d334 rfl ((if0 _ _).trans (feq g6).1) ?_
                obtain ⟨e6, x6⟩ := own_sg1 g6
                have hdg : own_dn (own_abs x) = 7 := (Nat.le_antisymm (own_du7 (by omega)) (own_dg7 (by omega)))
                refine uAN 110 hx hby d337 rfl rfl rfl ?_
                refine uInc 113 #[vi (negI ((((own_abs x) / 100) / 100) / 100)), vi (Int32.ofNat (j + (own_dec x).length)), vr b, vi (negI ((((own_abs x) / 100) / 100) / 100)), vi (Int32.ofNat ((((own_abs x) / 100) / 100) % 100)), vi ((Int32.ofNat (j + (own_dec x).length - 7)) + (-1 : Int32)), vi (Int32.ofNat (own_sg x))] hx hby d338 rfl rfl rfl ?_
                refine gat (mkF m 113 #[vi (negI ((((own_abs x) / 100) / 100) / 100)), vi (Int32.ofNat (j + (own_dec x).length)), vr b, vi (negI ((((own_abs x) / 100) / 100) / 100)), vi (Int32.ofNat ((((own_abs x) / 100) / 100) % 100)), vi (Int32.ofNat (j + (own_dec x).length - 8)), vi (Int32.ofNat (own_sg x))] [(.ref b)]) (by rw [own_dec1 (a := (j + (own_dec x).length - 7)) (b := (j + (own_dec x).length - 8)) (by omega) (by omega)]) ?_
                refine uI 115 hx hby d339 rfl rfl ?_
                refine uKb 117 (45 : Int32) hx hby d340 rfl rfl ?_
                have f113 := (C96.safe (show h92.size > b by omega) f97)
                refine gstB hx X98 ⟨nn0 (by omega), (ltOf (by omega) hM).mpr (by omega)⟩ (i := (j + (own_dec x).length - 8)) (tn (by omega)) (by rw [own_wl (by simp only [List.length_cons, List.length_nil]; omega) (by omega), hvd]; omega) (y := ((45 : Int32).toInt8.toInt32)) rfl P1 (fun _ => f113) 118 (hb hby d341) rfl ?_
                intro h112 W112 C112 V112
                have z112 := C112.2.1
                have X114 : Arv Z h112 b kb .byte (Int32.ofNat M) (own_w vd (j + (own_dec x).length - 8) (j + (own_dec x).length) [(45 : Int32), (own_dc ((((own_abs x) / 100) / 100) / 100)), (own_dc ((((own_abs x) / 100) / 100) / 10)), (own_dc (((own_abs x) / 100) / 100)), (own_dc (((own_abs x) / 100) / 10)), (own_dc ((own_abs x) / 100)), (own_dc ((own_abs x) / 10)), (own_dc (own_abs x))]) (.int (0 : Int32)) := Eq.mp (congrArg (fun z => Arv Z h112 b kb .byte (Int32.ofNat M) z (.int (0 : Int32))) (own_w1 (p := (j + (own_dec x).length - 7)) (q := (j + (own_dec x).length - 8)) (c := (45 : Int32)) (by omega) (by omega))) V112
                refine uI 120 hx hby d335 rfl rfl ?_
                have f116 := (C112.safe (show h96.size > b by omega) f113)
                exact gretI hx hret (hb hby d336) (by decide) (by decide) (fun vq Cq => ⟨(congrArg (fun z => some (Value.int z)) (congrArg Int32.ofNat (by omega))), ((((((((((Keep.refl h0 [b]).trans K2 all0).wr W28 (Or.inl (List.mem_of_getElem? (i := 0) rfl))).wr W32 (Or.inl (List.mem_of_getElem? (i := 0) rfl))).wr W58 (Or.inl (List.mem_of_getElem? (i := 0) rfl))).wr W62 (Or.inl (List.mem_of_getElem? (i := 0) rfl))).wr W88 (Or.inl (List.mem_of_getElem? (i := 0) rfl))).wr W92 (Or.inl (List.mem_of_getElem? (i := 0) rfl))).wr W96 (Or.inl (List.mem_of_getElem? (i := 0) rfl))).wr W112 (Or.inl (List.mem_of_getElem? (i := 0) rfl))), (Eq.mp (congrArg (fun z => Arv Z h112 b kb .byte (Int32.ofNat M) z (.int (0 : Int32))) (own_wend (p := (j + (own_dec x).length - 8)) (ds := [(45 : Int32), (own_dc ((((own_abs x) / 100) / 100) / 100)), (own_dc ((((own_abs x) / 100) / 100) / 10)), (own_dc (((own_abs x) / 100) / 100)), (own_dc (((own_abs x) / 100) / 10)), (own_dc ((own_abs x) / 100)), (own_dc ((own_abs x) / 10)), (own_dc (own_abs x))]) (by omega) (by rw [own_dec, if_pos x6, hdg, (own_d100 5 (own_abs x) : own_digs 7 (own_abs x) = _), (own_d100 3 ((own_abs x) / 100) : own_digs 5 ((own_abs x) / 100) = _), (own_d100 1 (((own_abs x) / 100) / 100) : own_digs 3 (((own_abs x) / 100) / 100) = _)]; rfl))) X114), (Cq.safe (show h112.size > b by omega) f116)⟩)
          · refine uNc 28 hx hby d313 rfl (flt g).2.2.1 ?_
            have m3 : ¬ ((((own_abs x) / 100) / 100) / 100) < 100 := fun q => g ((own_ltn (n := ((((own_abs x) / 100) / 100) / 100)) (by omega) 100 (by decide) (-100) (by decide +kernel)).mpr q)
            have hd5 := own_dg9 (n := own_abs x) (by omega)
            refine uIN 29 hx hby d342 rfl rfl ?_
            refine uKb 31 (100 : Int32) hx hby d343 rfl rfl ?_
            refine gs (mkF m 32 #[vi (negI ((((own_abs x) / 100) / 100) / 100)), vi (Int32.ofNat (j + (own_dec x).length)), vr b, vi (negI ((((own_abs x) / 100) / 100) / 100)), vi (Int32.ofNat ((((own_abs x) / 100) / 100) % 100)), vi (Int32.ofNat (j + (own_dec x).length - 6)), vi (Int32.ofNat (own_sg x))] [(.int ((negI ((((own_abs x) / 100) / 100) / 100)) / (100 : Int32)))]) (fun _ _ A kq => XS.idiv A hx rfl (hb hby d344) rfl (by decide) kq) ?_
            refine gat (mkF m 32 #[vi (negI ((((own_abs x) / 100) / 100) / 100)), vi (Int32.ofNat (j + (own_dec x).length)), vr b, vi (negI ((((own_abs x) / 100) / 100) / 100)), vi (Int32.ofNat ((((own_abs x) / 100) / 100) % 100)), vi (Int32.ofNat (j + (own_dec x).length - 6)), vi (Int32.ofNat (own_sg x))] [(.int (negI (((((own_abs x) / 100) / 100) / 100) / 100)))]) (by rw [negI_div100 (n := ((((own_abs x) / 100) / 100) / 100)) (by omega)]) ?_
            refine uSIN 33 #[vi (negI ((((own_abs x) / 100) / 100) / 100)), vi (Int32.ofNat (j + (own_dec x).length)), vr b, vi (negI (((((own_abs x) / 100) / 100) / 100) / 100)), vi (Int32.ofNat ((((own_abs x) / 100) / 100) % 100)), vi (Int32.ofNat (j + (own_dec x).length - 6)), vi (Int32.ofNat (own_sg x))] hx hby d345 rfl rfl ?_
            refine uIN 34 hx hby d346 rfl rfl ?_
            refine uKb 36 (100 : Int32) hx hby d347 rfl rfl ?_
            refine uimul 37 ((negI (((((own_abs x) / 100) / 100) / 100) / 100)) * (100 : Int32)) hx hby d348 rfl rfl ?_
            refine uIN 38 hx hby d349 rfl rfl ?_
            refine uisub 39 (((negI (((((own_abs x) / 100) / 100) / 100) / 100)) * (100 : Int32)) - (negI ((((own_abs x) / 100) / 100) / 100))) hx hby d350 rfl rfl ?_
            refine gat (mkF m 39 #[vi (negI ((((own_abs x) / 100) / 100) / 100)), vi (Int32.ofNat (j + (own_dec x).length)), vr b, vi (negI (((((own_abs x) / 100) / 100) / 100) / 100)), vi (Int32.ofNat ((((own_abs x) / 100) / 100) % 100)), vi (Int32.ofNat (j + (own_dec x).length - 6)), vi (Int32.ofNat (own_sg x))] [(.int (Int32.ofNat (((((own_abs x) / 100) / 100) / 100) % 100)))]) (by rw [negI_rem (n := ((((own_abs x) / 100) / 100) / 100)) (by omega)]) ?_
            refine uSI 41 #[vi (negI ((((own_abs x) / 100) / 100) / 100)), vi (Int32.ofNat (j + (own_dec x).length)), vr b, vi (negI (((((own_abs x) / 100) / 100) / 100) / 100)), vi (Int32.ofNat (((((own_abs x) / 100) / 100) / 100) % 100)), vi (Int32.ofNat (j + (own_dec x).length - 6)), vi (Int32.ofNat (own_sg x))] hx hby d351 rfl rfl ?_
            refine uIN 42 hx hby d352 rfl rfl ?_
            refine uSIN 43 #[vi (negI (((((own_abs x) / 100) / 100) / 100) / 100)), vi (Int32.ofNat (j + (own_dec x).length)), vr b, vi (negI (((((own_abs x) / 100) / 100) / 100) / 100)), vi (Int32.ofNat (((((own_abs x) / 100) / 100) / 100) % 100)), vi (Int32.ofNat (j + (own_dec x).length - 6)), vi (Int32.ofNat (own_sg x))] hx hby d353 rfl rfl ?_
            refine uAN 44 hx hby d354 rfl rfl rfl ?_
            refine uInc 47 #[vi (negI (((((own_abs x) / 100) / 100) / 100) / 100)), vi (Int32.ofNat (j + (own_dec x).length)), vr b, vi (negI (((((own_abs x) / 100) / 100) / 100) / 100)), vi (Int32.ofNat (((((own_abs x) / 100) / 100) / 100) % 100)), vi ((Int32.ofNat (j + (own_dec x).length - 6)) + (-1 : Int32)), vi (Int32.ofNat (own_sg x))] hx hby d355 rfl rfl rfl ?_
            refine gat (mkF m 47 #[vi (negI (((((own_abs x) / 100) / 100) / 100) / 100)), vi (Int32.ofNat (j + (own_dec x).length)), vr b, vi (negI (((((own_abs x) / 100) / 100) / 100) / 100)), vi (Int32.ofNat (((((own_abs x) / 100) / 100) / 100) % 100)), vi (Int32.ofNat (j + (own_dec x).length - 7)), vi (Int32.ofNat (own_sg x))] [(.ref b)]) (by rw [own_dec1 (a := (j + (own_dec x).length - 6)) (b := (j + (own_dec x).length - 7)) (by omega) (by omega)]) ?_
            refine uI 49 hx hby d356 rfl rfl ?_
            refine ggetS (host := "") hx (Or.inl (ow hw 132 rfl)) Via.refl Sgo 52 (hb hby d357) rfl ?_
            refine uI 54 hx hby d358 rfl rfl ?_
            have f117 := ((f87.other W88 (Nat.ne_of_lt (Nat.lt_of_lt_of_le Vgo.lt P1))).other W92 (Nat.ne_of_lt (Nat.lt_of_lt_of_le Vgo.lt P1)))
            refine gldB hx f117 (own_lt100 _) (i := (((((own_abs x) / 100) / 100) / 100) % 100)) (tn (by omega)) (v := (.int (own_dc ((((own_abs x) / 100) / 100) / 100)))) (own_ones _) 55 (hb hby d359) rfl ?_
            have f119 := (C92.safe (show h88.size > b by omega) f93)
            refine gstB hx X94 ⟨nn0 (by omega), (ltOf (by omega) hM).mpr (by omega)⟩ (i := (j + (own_dec x).length - 7)) (tn (by omega)) (by rw [own_wl (by simp only [List.length_cons, List.length_nil]; omega) (by omega), hvd]; omega) (y := ((own_dc ((((own_abs x) / 100) / 100) / 100)).toInt8.toInt32)) rfl P1 (fun _ => f119) 56 (hb hby d360) rfl ?_
            intro h118 W118 C118 V118
            have z118 := C118.2.1
            have X120 : Arv Z h118 b kb .byte (Int32.ofNat M) (own_w vd (j + (own_dec x).length - 7) (j + (own_dec x).length) [(own_dc ((((own_abs x) / 100) / 100) / 100)), (own_dc ((((own_abs x) / 100) / 100) / 10)), (own_dc (((own_abs x) / 100) / 100)), (own_dc (((own_abs x) / 100) / 10)), (own_dc ((own_abs x) / 100)), (own_dc ((own_abs x) / 10)), (own_dc (own_abs x))]) (.int (0 : Int32)) := Eq.mp (congrArg (fun z => Arv Z h118 b kb .byte (Int32.ofNat M) z (.int (0 : Int32))) (own_w1 (p := (j + (own_dec x).length - 6)) (q := (j + (own_dec x).length - 7)) (c := (own_dc ((((own_abs x) / 100) / 100) / 100))) (by omega) (by omega))) V118
            refine uAN 57 hx hby d361 rfl rfl rfl ?_
            refine uInc 60 #[vi (negI (((((own_abs x) / 100) / 100) / 100) / 100)), vi (Int32.ofNat (j + (own_dec x).length)), vr b, vi (negI (((((own_abs x) / 100) / 100) / 100) / 100)), vi (Int32.ofNat (((((own_abs x) / 100) / 100) / 100) % 100)), vi ((Int32.ofNat (j + (own_dec x).length - 7)) + (-1 : Int32)), vi (Int32.ofNat (own_sg x))] hx hby d362 rfl rfl rfl ?_
            refine gat (mkF m 60 #[vi (negI (((((own_abs x) / 100) / 100) / 100) / 100)), vi (Int32.ofNat (j + (own_dec x).length)), vr b, vi (negI (((((own_abs x) / 100) / 100) / 100) / 100)), vi (Int32.ofNat (((((own_abs x) / 100) / 100) / 100) % 100)), vi (Int32.ofNat (j + (own_dec x).length - 8)), vi (Int32.ofNat (own_sg x))] [(.ref b)]) (by rw [own_dec1 (a := (j + (own_dec x).length - 7)) (b := (j + (own_dec x).length - 8)) (by omega) (by omega)]) ?_
            refine uI 62 hx hby d363 rfl rfl ?_
            refine ggetS (host := "") hx (Or.inl (ow hw 224 rfl)) Via.refl Sgt 65 (hb hby d364) rfl ?_
            refine uI 67 hx hby d365 rfl rfl ?_
            have f121 := ((f91.other W92 (Nat.ne_of_lt (Nat.lt_of_lt_of_le Vgt.lt P1))).other W118 (Nat.ne_of_lt (Nat.lt_of_lt_of_le Vgt.lt P1)))
            refine gldB hx f121 (own_lt100 _) (i := (((((own_abs x) / 100) / 100) / 100) % 100)) (tn (by omega)) (v := (.int (own_dc (((((own_abs x) / 100) / 100) / 100) / 10)))) (own_tens _) 68 (hb hby d366) rfl ?_
            have f123 := (C118.safe (show h92.size > b by omega) f119)
            refine gstB hx X120 ⟨nn0 (by omega), (ltOf (by omega) hM).mpr (by omega)⟩ (i := (j + (own_dec x).length - 8)) (tn (by omega)) (by rw [own_wl (by simp only [List.length_cons, List.length_nil]; omega) (by omega), hvd]; omega) (y := ((own_dc (((((own_abs x) / 100) / 100) / 100) / 10)).toInt8.toInt32)) rfl P1 (fun _ => f123) 69 (hb hby d367) rfl ?_
            intro h122 W122 C122 V122
            have z122 := C122.2.1
            have X124 : Arv Z h122 b kb .byte (Int32.ofNat M) (own_w vd (j + (own_dec x).length - 8) (j + (own_dec x).length) [(own_dc (((((own_abs x) / 100) / 100) / 100) / 10)), (own_dc ((((own_abs x) / 100) / 100) / 100)), (own_dc ((((own_abs x) / 100) / 100) / 10)), (own_dc (((own_abs x) / 100) / 100)), (own_dc (((own_abs x) / 100) / 10)), (own_dc ((own_abs x) / 100)), (own_dc ((own_abs x) / 10)), (own_dc (own_abs x))]) (.int (0 : Int32)) := Eq.mp (congrArg (fun z => Arv Z h122 b kb .byte (Int32.ofNat M) z (.int (0 : Int32))) (own_w1 (p := (j + (own_dec x).length - 7)) (q := (j + (own_dec x).length - 8)) (c := (own_dc (((((own_abs x) / 100) / 100) / 100) / 10))) (by omega) (by omega))) V122
            refine uG 22 hx hby d368 (by decide) (by decide) ?_
            refine uIN 23 hx hby d311 rfl rfl ?_
            refine uKb 25 (-100 : Int32) hx hby d312 rfl rfl ?_
            refine uYc 72 hx hby d313 (tlt ((own_ltn (n := (((((own_abs x) / 100) / 100) / 100) / 100)) (by omega) 100 (by decide) (-100) (by decide +kernel)).mpr (by omega))).2.2.1 (by decide) (by decide) ?_
            refine uAN 73 hx hby d314 rfl rfl rfl ?_
            refine uInc 76 #[vi (negI (((((own_abs x) / 100) / 100) / 100) / 100)), vi (Int32.ofNat (j + (own_dec x).length)), vr b, vi (negI (((((own_abs x) / 100) / 100) / 100) / 100)), vi (Int32.ofNat (((((own_abs x) / 100) / 100) / 100) % 100)), vi ((Int32.ofNat (j + (own_dec x).length - 8)) + (-1 : Int32)), vi (Int32.ofNat (own_sg x))] hx hby d315 rfl rfl rfl ?_
            refine gat (mkF m 76 #[vi (negI (((((own_abs x) / 100) / 100) / 100) / 100)), vi (Int32.ofNat (j + (own_dec x).length)), vr b, vi (negI (((((own_abs x) / 100) / 100) / 100) / 100)), vi (Int32.ofNat (((((own_abs x) / 100) / 100) / 100) % 100)), vi (Int32.ofNat (j + (own_dec x).length - 9)), vi (Int32.ofNat (own_sg x))] [(.ref b)]) (by rw [own_dec1 (a := (j + (own_dec x).length - 8)) (b := (j + (own_dec x).length - 9)) (by omega) (by omega)]) ?_
            refine uI 78 hx hby d316 rfl rfl ?_
            refine ggetS (host := "") hx (Or.inl (ow hw 132 rfl)) Via.refl Sgo 81 (hb hby d317) rfl ?_
            refine uIN 82 hx hby d318 rfl rfl ?_
            refine gs (mkF m 83 #[vi (negI (((((own_abs x) / 100) / 100) / 100) / 100)), vi (Int32.ofNat (j + (own_dec x).length)), vr b, vi (negI (((((own_abs x) / 100) / 100) / 100) / 100)), vi (Int32.ofNat (((((own_abs x) / 100) / 100) / 100) % 100)), vi (Int32.ofNat (j + (own_dec x).length - 9)), vi (Int32.ofNat (own_sg x))] [(.int (-(negI (((((own_abs x) / 100) / 100) / 100) / 100)))), (.ref dgo), (.int (Int32.ofNat (j + (own_dec x).length - 9))), (.ref b)]) (fun _ _ A kq => XS.ineg A hx rfl (hb hby d319) rfl kq) ?_
            refine gat (mkF m 83 #[vi (negI (((((own_abs x) / 100) / 100) / 100) / 100)), vi (Int32.ofNat (j + (own_dec x).length)), vr b, vi (negI (((((own_abs x) / 100) / 100) / 100) / 100)), vi (Int32.ofNat (((((own_abs x) / 100) / 100) / 100) % 100)), vi (Int32.ofNat (j + (own_dec x).length - 9)), vi (Int32.ofNat (own_sg x))] [(.int (Int32.ofNat ((((((own_abs x) / 100) / 100) / 100) / 100) % 100))), (.ref dgo), (.int (Int32.ofNat (j + (own_dec x).length - 9))), (.ref b)]) (by rw [own_negm (n := (((((own_abs x) / 100) / 100) / 100) / 100)) (by omega)]) ?_
            have f125 := ((f117.other W118 (Nat.ne_of_lt (Nat.lt_of_lt_of_le Vgo.lt P1))).other W122 (Nat.ne_of_lt (Nat.lt_of_lt_of_le Vgo.lt P1)))
            refine gldB hx f125 (own_lt100 _) (i := ((((((own_abs x) / 100) / 100) / 100) / 100) % 100)) (tn (by omega)) (v := (.int (own_dc (((((own_abs x) / 100) / 100) / 100) / 100)))) (own_ones _) 84 (hb hby d320) rfl ?_
            have f127 := (C122.safe (show h118.size > b by omega) f123)
            refine gstB hx X124 ⟨nn0 (by omega), (ltOf (by omega) hM).mpr (by omega)⟩ (i := (j + (own_dec x).length - 9)) (tn (by omega)) (by rw [own_wl (by simp only [List.length_cons, List.length_nil]; omega) (by omega), hvd]; omega) (y := ((own_dc (((((own_abs x) / 100) / 100) / 100) / 100)).toInt8.toInt32)) rfl P1 (fun _ => f127) 85 (hb hby d321) rfl ?_
            intro h126 W126 C126 V126
            have z126 := C126.2.1
            have X128 : Arv Z h126 b kb .byte (Int32.ofNat M) (own_w vd (j + (own_dec x).length - 9) (j + (own_dec x).length) [(own_dc (((((own_abs x) / 100) / 100) / 100) / 100)), (own_dc (((((own_abs x) / 100) / 100) / 100) / 10)), (own_dc ((((own_abs x) / 100) / 100) / 100)), (own_dc ((((own_abs x) / 100) / 100) / 10)), (own_dc (((own_abs x) / 100) / 100)), (own_dc (((own_abs x) / 100) / 10)), (own_dc ((own_abs x) / 100)), (own_dc ((own_abs x) / 10)), (own_dc (own_abs x))]) (.int (0 : Int32)) := Eq.mp (congrArg (fun z => Arv Z h126 b kb .byte (Int32.ofNat M) z (.int (0 : Int32))) (own_w1 (p := (j + (own_dec x).length - 8)) (q := (j + (own_dec x).length - 9)) (c := (own_dc (((((own_abs x) / 100) / 100) / 100) / 100))) (by omega) (by omega))) V126
            refine uIN 86 hx hby d322 rfl rfl ?_
            refine uKb 88 (-9 : Int32) hx hby d323 rfl rfl ?_
            by_cases g : (negI (((((own_abs x) / 100) / 100) / 100) / 100)) < (-9 : Int32)
            · refine uNc 91 hx hby d324 rfl (tlt g).2.1 ?_
              have m9 := (own_gtn (n := (((((own_abs x) / 100) / 100) / 100) / 100)) (by omega) 9 (by decide) (-9) (by decide +kernel)).mp g
              have hd9 := own_dg10 (n := own_abs x) (by omega)
              refine uAN 92 hx hby d325 rfl rfl rfl ?_
              refine uInc 95 #[vi (negI (((((own_abs x) / 100) / 100) / 100) / 100)), vi (Int32.ofNat (j + (own_dec x).length)), vr b, vi (negI (((((own_abs x) / 100) / 100) / 100) / 100)), vi (Int32.ofNat (((((own_abs x) / 100) / 100) / 100) % 100)), vi ((Int32.ofNat (j + (own_dec x).length - 9)) + (-1 : Int32)), vi (Int32.ofNat (own_sg x))] hx hby d326 rfl rfl rfl ?_
              refine gat (mkF m 95 #[vi (negI (((((own_abs x) / 100) / 100) / 100) / 100)), vi (Int32.ofNat (j + (own_dec x).length)), vr b, vi (negI (((((own_abs x) / 100) / 100) / 100) / 100)), vi (Int32.ofNat (((((own_abs x) / 100) / 100) / 100) % 100)), vi (Int32.ofNat (j + (own_dec x).length - 10)), vi (Int32.ofNat (own_sg x))] [(.ref b)]) (by rw [own_dec1 (a := (j + (own_dec x).length - 9)) (b := (j + (own_dec x).length - 10)) (by omega) (by omega)]) ?_
              refine uI 97 hx hby d327 rfl rfl ?_
              refine ggetS (host := "") hx (Or.inl (ow hw 224 rfl)) Via.refl Sgt 100 (hb hby d328) rfl ?_
              refine uIN 101 hx hby d329 rfl rfl ?_
              refine gs (mkF m 102 #[vi (negI (((((own_abs x) / 100) / 100) / 100) / 100)), vi (Int32.ofNat (j + (own_dec x).length)), vr b, vi (negI (((((own_abs x) / 100) / 100) / 100) / 100)), vi (Int32.ofNat (((((own_abs x) / 100) / 100) / 100) % 100)), vi (Int32.ofNat (j + (own_dec x).length - 10)), vi (Int32.ofNat (own_sg x))] [(.int (-(negI (((((own_abs x) / 100) / 100) / 100) / 100)))), (.ref dgt), (.int (Int32.ofNat (j + (own_dec x).length - 10))), (.ref b)]) (fun _ _ A kq => XS.ineg A hx rfl (hb hby d330) rfl kq) ?_
              refine gat (mkF m 102 #[vi (negI (((((own_abs x) / 100) / 100) / 100) / 100)), vi (Int32.ofNat (j + (own_dec x).length)), vr b, vi (negI (((((own_abs x) / 100) / 100) / 100) / 100)), vi (Int32.ofNat (((((own_abs x) / 100) / 100) / 100) % 100)), vi (Int32.ofNat (j + (own_dec x).length - 10)), vi (Int32.ofNat (own_sg x))] [(.int (Int32.ofNat ((((((own_abs x) / 100) / 100) / 100) / 100) % 100))), (.ref dgt), (.int (Int32.ofNat (j + (own_dec x).length - 10))), (.ref b)]) (by rw [own_negm (n := (((((own_abs x) / 100) / 100) / 100) / 100)) (by omega)]) ?_
              have f129 := ((f121.other W122 (Nat.ne_of_lt (Nat.lt_of_lt_of_le Vgt.lt P1))).other W126 (Nat.ne_of_lt (Nat.lt_of_lt_of_le Vgt.lt P1)))
              refine gldB hx f129 (own_lt100 _) (i := ((((((own_abs x) / 100) / 100) / 100) / 100) % 100)) (tn (by omega)) (v := (.int (own_dc ((((((own_abs x) / 100) / 100) / 100) / 100) / 10)))) (own_tens _) 103 (hb hby d331) rfl ?_
              have f131 := (C126.safe (show h122.size > b by omega) f127)
              refine gstB hx X128 ⟨nn0 (by omega), (ltOf (by omega) hM).mpr (by omega)⟩ (i := (j + (own_dec x).length - 10)) (tn (by omega)) (by rw [own_wl (by simp only [List.length_cons, List.length_nil]; omega) (by omega), hvd]; omega) (y := ((own_dc ((((((own_abs x) / 100) / 100) / 100) / 100) / 10)).toInt8.toInt32)) rfl P1 (fun _ => f131) 104 (hb hby d332) rfl ?_
              intro h130 W130 C130 V130
              have z130 := C130.2.1
              have X132 : Arv Z h130 b kb .byte (Int32.ofNat M) (own_w vd (j + (own_dec x).length - 10) (j + (own_dec x).length) [(own_dc ((((((own_abs x) / 100) / 100) / 100) / 100) / 10)), (own_dc (((((own_abs x) / 100) / 100) / 100) / 100)), (own_dc (((((own_abs x) / 100) / 100) / 100) / 10)), (own_dc ((((own_abs x) / 100) / 100) / 100)), (own_dc ((((own_abs x) / 100) / 100) / 10)), (own_dc (((own_abs x) / 100) / 100)), (own_dc (((own_abs x) / 100) / 10)), (own_dc ((own_abs x) / 100)), (own_dc ((own_abs x) / 10)), (own_dc (own_abs x))]) (.int (0 : Int32)) := Eq.mp (congrArg (fun z => Arv Z h130 b kb .byte (Int32.ofNat M) z (.int (0 : Int32))) (own_w1 (p := (j + (own_dec x).length - 9)) (q := (j + (own_dec x).length - 10)) (c := (own_dc ((((((own_abs x) / 100) / 100) / 100) / 100) / 10))) (by omega) (by omega))) V130
              refine uI 106 hx hby d333 rfl rfl ?_
              by_cases g6 : (Int32.ofNat (own_sg x)) = (0 : Int32)
              · refine uY 118 hx hby d334 ((if0 _ _).trans (teq g6).1) (by decide) (by decide) ?_
                obtain ⟨e6, x6⟩ := own_sg0 g6
                have hdg : own_dn (own_abs x) = 10 := (Nat.le_antisymm (own_dn_pos _).2 (own_dg10 (by omega)))
                refine uI 120 hx hby d335 rfl rfl ?_
                have f134 := (C130.safe (show h126.size > b by omega) f131)
                exact gretI hx hret (hb hby d336) (by decide) (by decide) (fun vq Cq => ⟨(congrArg (fun z => some (Value.int z)) (congrArg Int32.ofNat (by omega))), ((((((((((((Keep.refl h0 [b]).trans K2 all0).wr W28 (Or.inl (List.mem_of_getElem? (i := 0) rfl))).wr W32 (Or.inl (List.mem_of_getElem? (i := 0) rfl))).wr W58 (Or.inl (List.mem_of_getElem? (i := 0) rfl))).wr W62 (Or.inl (List.mem_of_getElem? (i := 0) rfl))).wr W88 (Or.inl (List.mem_of_getElem? (i := 0) rfl))).wr W92 (Or.inl (List.mem_of_getElem? (i := 0) rfl))).wr W118 (Or.inl (List.mem_of_getElem? (i := 0) rfl))).wr W122 (Or.inl (List.mem_of_getElem? (i := 0) rfl))).wr W126 (Or.inl (List.mem_of_getElem? (i := 0) rfl))).wr W130 (Or.inl (List.mem_of_getElem? (i := 0) rfl))), (Eq.mp (congrArg (fun z => Arv Z h130 b kb .byte (Int32.ofNat M) z (.int (0 : Int32))) (own_wend (p := (j + (own_dec x).length - 10)) (ds := [(own_dc ((((((own_abs x) / 100) / 100) / 100) / 100) / 10)), (own_dc (((((own_abs x) / 100) / 100) / 100) / 100)), (own_dc (((((own_abs x) / 100) / 100) / 100) / 10)), (own_dc ((((own_abs x) / 100) / 100) / 100)), (own_dc ((((own_abs x) / 100) / 100) / 10)), (own_dc (((own_abs x) / 100) / 100)), (own_dc (((own_abs x) / 100) / 10)), (own_dc ((own_abs x) / 100)), (own_dc ((own_abs x) / 10)), (own_dc (own_abs x))]) (by omega) (by rw [own_dec, if_neg x6, hdg, (own_d100 8 (own_abs x) : own_digs 10 (own_abs x) = _), (own_d100 6 ((own_abs x) / 100) : own_digs 8 ((own_abs x) / 100) = _), (own_d100 4 (((own_abs x) / 100) / 100) : own_digs 6 (((own_abs x) / 100) / 100) = _), (own_d100 2 ((((own_abs x) / 100) / 100) / 100) : own_digs 4 ((((own_abs x) / 100) / 100) / 100) = _), (own_d100 0 (((((own_abs x) / 100) / 100) / 100) / 100) : own_digs 2 (((((own_abs x) / 100) / 100) / 100) / 100) = _)]; rfl))) X132), (Cq.safe (show h130.size > b by omega) f134)⟩)
              · refine uN 109 hx hby d334 rfl ((if0 _ _).trans (feq g6).1) ?_
                obtain ⟨e6, x6⟩ := own_sg1 g6
                have hdg : own_dn (own_abs x) = 10 := (Nat.le_antisymm (own_dn_pos _).2 (own_dg10 (by omega)))
                refine uAN 110 hx hby d337 rfl rfl rfl ?_
                refine uInc 113 #[vi (negI (((((own_abs x) / 100) / 100) / 100) / 100)), vi (Int32.ofNat (j + (own_dec x).length)), vr b, vi (negI (((((own_abs x) / 100) / 100) / 100) / 100)), vi (Int32.ofNat (((((own_abs x) / 100) / 100) / 100) % 100)), vi ((Int32.ofNat (j + (own_dec x).length - 10)) + (-1 : Int32)), vi (Int32.ofNat (own_sg x))] hx hby d338 rfl rfl rfl ?_
                refine gat (mkF m 113 #[vi (negI (((((own_abs x) / 100) / 100) / 100) / 100)), vi (Int32.ofNat (j + (own_dec x).length)), vr b, vi (negI (((((own_abs x) / 100) / 100) / 100) / 100)), vi (Int32.ofNat (((((own_abs x) / 100) / 100) / 100) % 100)), vi (Int32.ofNat (j + (own_dec x).length - 11)), vi (Int32.ofNat (own_sg x))] [(.ref b)]) (by rw [own_dec1 (a := (j + (own_dec x).length - 10)) (b := (j + (own_dec x).length - 11)) (by omega) (by omega)]) ?_
                refine uI 115 hx hby d339 rfl rfl ?_
                refine uKb 117 (45 : Int32) hx hby d340 rfl rfl ?_
                have f136 := (C130.safe (show h126.size > b by omega) f131)
                refine gstB hx X132 ⟨nn0 (by omega), (ltOf (by omega) hM).mpr (by omega)⟩ (i := (j + (own_dec x).length - 11)) (tn (by omega)) (by rw [own_wl (by simp only [List.length_cons, List.length_nil]; omega) (by omega), hvd]; omega) (y := ((45 : Int32).toInt8.toInt32)) rfl P1 (fun _ => f136) 118 (hb hby d341) rfl ?_
                intro h135 W135 C135 V135
                have z135 := C135.2.1
                have X137 : Arv Z h135 b kb .byte (Int32.ofNat M) (own_w vd (j + (own_dec x).length - 11) (j + (own_dec x).length) [(45 : Int32), (own_dc ((((((own_abs x) / 100) / 100) / 100) / 100) / 10)), (own_dc (((((own_abs x) / 100) / 100) / 100) / 100)), (own_dc (((((own_abs x) / 100) / 100) / 100) / 10)), (own_dc ((((own_abs x) / 100) / 100) / 100)), (own_dc ((((own_abs x) / 100) / 100) / 10)), (own_dc (((own_abs x) / 100) / 100)), (own_dc (((own_abs x) / 100) / 10)), (own_dc ((own_abs x) / 100)), (own_dc ((own_abs x) / 10)), (own_dc (own_abs x))]) (.int (0 : Int32)) := Eq.mp (congrArg (fun z => Arv Z h135 b kb .byte (Int32.ofNat M) z (.int (0 : Int32))) (own_w1 (p := (j + (own_dec x).length - 10)) (q := (j + (own_dec x).length - 11)) (c := (45 : Int32)) (by omega) (by omega))) V135
                refine uI 120 hx hby d335 rfl rfl ?_
                have f139 := (C135.safe (show h130.size > b by omega) f136)
                exact gretI hx hret (hb hby d336) (by decide) (by decide) (fun vq Cq => ⟨(congrArg (fun z => some (Value.int z)) (congrArg Int32.ofNat (by omega))), (((((((((((((Keep.refl h0 [b]).trans K2 all0).wr W28 (Or.inl (List.mem_of_getElem? (i := 0) rfl))).wr W32 (Or.inl (List.mem_of_getElem? (i := 0) rfl))).wr W58 (Or.inl (List.mem_of_getElem? (i := 0) rfl))).wr W62 (Or.inl (List.mem_of_getElem? (i := 0) rfl))).wr W88 (Or.inl (List.mem_of_getElem? (i := 0) rfl))).wr W92 (Or.inl (List.mem_of_getElem? (i := 0) rfl))).wr W118 (Or.inl (List.mem_of_getElem? (i := 0) rfl))).wr W122 (Or.inl (List.mem_of_getElem? (i := 0) rfl))).wr W126 (Or.inl (List.mem_of_getElem? (i := 0) rfl))).wr W130 (Or.inl (List.mem_of_getElem? (i := 0) rfl))).wr W135 (Or.inl (List.mem_of_getElem? (i := 0) rfl))), (Eq.mp (congrArg (fun z => Arv Z h135 b kb .byte (Int32.ofNat M) z (.int (0 : Int32))) (own_wend (p := (j + (own_dec x).length - 11)) (ds := [(45 : Int32), (own_dc ((((((own_abs x) / 100) / 100) / 100) / 100) / 10)), (own_dc (((((own_abs x) / 100) / 100) / 100) / 100)), (own_dc (((((own_abs x) / 100) / 100) / 100) / 10)), (own_dc ((((own_abs x) / 100) / 100) / 100)), (own_dc ((((own_abs x) / 100) / 100) / 10)), (own_dc (((own_abs x) / 100) / 100)), (own_dc (((own_abs x) / 100) / 10)), (own_dc ((own_abs x) / 100)), (own_dc ((own_abs x) / 10)), (own_dc (own_abs x))]) (by omega) (by rw [own_dec, if_pos x6, hdg, (own_d100 8 (own_abs x) : own_digs 10 (own_abs x) = _), (own_d100 6 ((own_abs x) / 100) : own_digs 8 ((own_abs x) / 100) = _), (own_d100 4 (((own_abs x) / 100) / 100) : own_digs 6 (((own_abs x) / 100) / 100) = _), (own_d100 2 ((((own_abs x) / 100) / 100) / 100) : own_digs 4 ((((own_abs x) / 100) / 100) / 100) = _), (own_d100 0 (((((own_abs x) / 100) / 100) / 100) / 100) : own_digs 2 (((((own_abs x) / 100) / 100) / 100) / 100) = _)]; rfl))) X137), (Cq.safe (show h135.size > b by omega) f139)⟩)
            · refine uYc 104 hx hby d324 (flt g).2.1 (by decide) (by decide) ?_
              have m9 : ¬ 9 < (((((own_abs x) / 100) / 100) / 100) / 100) := fun q => g ((own_gtn (n := (((((own_abs x) / 100) / 100) / 100) / 100)) (by omega) 9 (by decide) (-9) (by decide +kernel)).mpr q)
              refine uI 106 hx hby d333 rfl rfl ?_
              by_cases g6 : (Int32.ofNat (own_sg x)) = (0 : Int32)
              · refine uY 118 hx hby d334 ((if0 _ _).trans (teq g6).1) (by decide) (by decide) ?_
                obtain ⟨e6, x6⟩ := own_sg0 g6
                have hdg : own_dn (own_abs x) = 9 := (Nat.le_antisymm (own_du9 (by omega)) (own_dg9 (by omega)))
                refine uI 120 hx hby d335 rfl rfl ?_
                have f141 := (C126.safe (show h122.size > b by omega) f127)
                exact gretI hx hret (hb hby d336) (by decide) (by decide) (fun vq Cq => ⟨(congrArg (fun z => some (Value.int z)) (congrArg Int32.ofNat (by omega))), (((((((((((Keep.refl h0 [b]).trans K2 all0).wr W28 (Or.inl (List.mem_of_getElem? (i := 0) rfl))).wr W32 (Or.inl (List.mem_of_getElem? (i := 0) rfl))).wr W58 (Or.inl (List.mem_of_getElem? (i := 0) rfl))).wr W62 (Or.inl (List.mem_of_getElem? (i := 0) rfl))).wr W88 (Or.inl (List.mem_of_getElem? (i := 0) rfl))).wr W92 (Or.inl (List.mem_of_getElem? (i := 0) rfl))).wr W118 (Or.inl (List.mem_of_getElem? (i := 0) rfl))).wr W122 (Or.inl (List.mem_of_getElem? (i := 0) rfl))).wr W126 (Or.inl (List.mem_of_getElem? (i := 0) rfl))), (Eq.mp (congrArg (fun z => Arv Z h126 b kb .byte (Int32.ofNat M) z (.int (0 : Int32))) (own_wend (p := (j + (own_dec x).length - 9)) (ds := [(own_dc (((((own_abs x) / 100) / 100) / 100) / 100)), (own_dc (((((own_abs x) / 100) / 100) / 100) / 10)), (own_dc ((((own_abs x) / 100) / 100) / 100)), (own_dc ((((own_abs x) / 100) / 100) / 10)), (own_dc (((own_abs x) / 100) / 100)), (own_dc (((own_abs x) / 100) / 10)), (own_dc ((own_abs x) / 100)), (own_dc ((own_abs x) / 10)), (own_dc (own_abs x))]) (by omega) (by rw [own_dec, if_neg x6, hdg, (own_d100 7 (own_abs x) : own_digs 9 (own_abs x) = _), (own_d100 5 ((own_abs x) / 100) : own_digs 7 ((own_abs x) / 100) = _), (own_d100 3 (((own_abs x) / 100) / 100) : own_digs 5 (((own_abs x) / 100) / 100) = _), (own_d100 1 ((((own_abs x) / 100) / 100) / 100) : own_digs 3 ((((own_abs x) / 100) / 100) / 100) = _)]; rfl))) X128), (Cq.safe (show h126.size > b by omega) f141)⟩)
              · refine uN 109 hx hby d334 rfl ((if0 _ _).trans (feq g6).1) ?_
                obtain ⟨e6, x6⟩ := own_sg1 g6
                have hdg : own_dn (own_abs x) = 9 := (Nat.le_antisymm (own_du9 (by omega)) (own_dg9 (by omega)))
                refine uAN 110 hx hby d337 rfl rfl rfl ?_
                refine uInc 113 #[vi (negI (((((own_abs x) / 100) / 100) / 100) / 100)), vi (Int32.ofNat (j + (own_dec x).length)), vr b, vi (negI (((((own_abs x) / 100) / 100) / 100) / 100)), vi (Int32.ofNat (((((own_abs x) / 100) / 100) / 100) % 100)), vi ((Int32.ofNat (j + (own_dec x).length - 9)) + (-1 : Int32)), vi (Int32.ofNat (own_sg x))] hx hby d338 rfl rfl rfl ?_
                refine gat (mkF m 113 #[vi (negI (((((own_abs x) / 100) / 100) / 100) / 100)), vi (Int32.ofNat (j + (own_dec x).length)), vr b, vi (negI (((((own_abs x) / 100) / 100) / 100) / 100)), vi (Int32.ofNat (((((own_abs x) / 100) / 100) / 100) % 100)), vi (Int32.ofNat (j + (own_dec x).length - 10)), vi (Int32.ofNat (own_sg x))] [(.ref b)]) (by rw [own_dec1 (a := (j + (own_dec x).length - 9)) (b := (j + (own_dec x).length - 10)) (by omega) (by omega)]) ?_
                refine uI 115 hx hby d339 rfl rfl ?_
                refine uKb 117 (45 : Int32) hx hby d340 rfl rfl ?_
                have f143 := (C126.safe (show h122.size > b by omega) f127)
                refine gstB hx X128 ⟨nn0 (by omega), (ltOf (by omega) hM).mpr (by omega)⟩ (i := (j + (own_dec x).length - 10)) (tn (by omega)) (by rw [own_wl (by simp only [List.length_cons, List.length_nil]; omega) (by omega), hvd]; omega) (y := ((45 : Int32).toInt8.toInt32)) rfl P1 (fun _ => f143) 118 (hb hby d341) rfl ?_
                intro h142 W142 C142 V142
                have z142 := C142.2.1
                have X144 : Arv Z h142 b kb .byte (Int32.ofNat M) (own_w vd (j + (own_dec x).length - 10) (j + (own_dec x).length) [(45 : Int32), (own_dc (((((own_abs x) / 100) / 100) / 100) / 100)), (own_dc (((((own_abs x) / 100) / 100) / 100) / 10)), (own_dc ((((own_abs x) / 100) / 100) / 100)), (own_dc ((((own_abs x) / 100) / 100) / 10)), (own_dc (((own_abs x) / 100) / 100)), (own_dc (((own_abs x) / 100) / 10)), (own_dc ((own_abs x) / 100)), (own_dc ((own_abs x) / 10)), (own_dc (own_abs x))]) (.int (0 : Int32)) := Eq.mp (congrArg (fun z => Arv Z h142 b kb .byte (Int32.ofNat M) z (.int (0 : Int32))) (own_w1 (p := (j + (own_dec x).length - 9)) (q := (j + (own_dec x).length - 10)) (c := (45 : Int32)) (by omega) (by omega))) V142
                refine uI 120 hx hby d335 rfl rfl ?_
                have f146 := (C142.safe (show h126.size > b by omega) f143)
                exact gretI hx hret (hb hby d336) (by decide) (by decide) (fun vq Cq => ⟨(congrArg (fun z => some (Value.int z)) (congrArg Int32.ofNat (by omega))), ((((((((((((Keep.refl h0 [b]).trans K2 all0).wr W28 (Or.inl (List.mem_of_getElem? (i := 0) rfl))).wr W32 (Or.inl (List.mem_of_getElem? (i := 0) rfl))).wr W58 (Or.inl (List.mem_of_getElem? (i := 0) rfl))).wr W62 (Or.inl (List.mem_of_getElem? (i := 0) rfl))).wr W88 (Or.inl (List.mem_of_getElem? (i := 0) rfl))).wr W92 (Or.inl (List.mem_of_getElem? (i := 0) rfl))).wr W118 (Or.inl (List.mem_of_getElem? (i := 0) rfl))).wr W122 (Or.inl (List.mem_of_getElem? (i := 0) rfl))).wr W126 (Or.inl (List.mem_of_getElem? (i := 0) rfl))).wr W142 (Or.inl (List.mem_of_getElem? (i := 0) rfl))), (Eq.mp (congrArg (fun z => Arv Z h142 b kb .byte (Int32.ofNat M) z (.int (0 : Int32))) (own_wend (p := (j + (own_dec x).length - 10)) (ds := [(45 : Int32), (own_dc (((((own_abs x) / 100) / 100) / 100) / 100)), (own_dc (((((own_abs x) / 100) / 100) / 100) / 10)), (own_dc ((((own_abs x) / 100) / 100) / 100)), (own_dc ((((own_abs x) / 100) / 100) / 10)), (own_dc (((own_abs x) / 100) / 100)), (own_dc (((own_abs x) / 100) / 10)), (own_dc ((own_abs x) / 100)), (own_dc ((own_abs x) / 10)), (own_dc (own_abs x))]) (by omega) (by rw [own_dec, if_pos x6, hdg, (own_d100 7 (own_abs x) : own_digs 9 (own_abs x) = _), (own_d100 5 ((own_abs x) / 100) : own_digs 7 ((own_abs x) / 100) = _), (own_d100 3 (((own_abs x) / 100) / 100) : own_digs 5 (((own_abs x) / 100) / 100) = _), (own_d100 1 ((((own_abs x) / 100) / 100) / 100) : own_digs 3 ((((own_abs x) / 100) / 100) / 100) = _)]; rfl))) X144), (Cq.safe (show h142.size > b by omega) f146)⟩)
  · intro J2
    refine uIN 1 hx hby d298 rfl rfl ?_
    refine uSI 3 #[vi x, vi (Int32.ofNat (j + (own_dec x).length)), vr b, un, un, vi (Int32.ofNat (j + (own_dec x).length)), un] hx hby d299 rfl rfl ?_
    refine uIN 4 hx hby d300 rfl rfl ?_
    by_cases e1 : x < (0 : Int32)
    · refine uN 7 hx hby d301 rfl ((if0 _ _).trans (tlt e1).2.1) ?_
      refine uKc 8 (1 : Int32) hx hby d302 rfl rfl ?_
      refine uG 12 hx hby d303 (by decide) (by decide) ?_
      refine uSI 14 #[vi x, vi (Int32.ofNat (j + (own_dec x).length)), vr b, un, un, vi (Int32.ofNat (j + (own_dec x).length)), vi (1 : Int32)] hx hby d304 rfl rfl ?_
      refine uI 16 hx hby d305 rfl rfl ?_
      refine uY 22 hx hby d306 ((if0 _ _).trans (feq (by decide)).2) (by decide) (by decide) ?_
      refine ginfo fun _ Hq _ => ?_
      exact gmono (by decide) (by decide) (J2 _ _ _ ⟨x, (1 : Int32), rfl, (Keep.refl h0 []), (CHr.refl Hq), (own_neg1 e1), (by rw [own_sg, if_pos e1]; rfl)⟩)
    · refine uY 11 hx hby d301 ((if0 _ _).trans (flt e1).2.1) (by decide) (by decide) ?_
      refine uKc 12 (0 : Int32) hx hby d307 rfl rfl ?_
      refine uSI 14 #[vi x, vi (Int32.ofNat (j + (own_dec x).length)), vr b, un, un, vi (Int32.ofNat (j + (own_dec x).length)), vi (0 : Int32)] hx hby d304 rfl rfl ?_
      refine uI 16 hx hby d305 rfl rfl ?_
      refine uN 19 hx hby d306 rfl ((if0 _ _).trans (teq (by decide)).2) ?_
      refine uIN 20 hx hby d308 rfl rfl ?_
      refine gs (mkF m 21 #[vi x, vi (Int32.ofNat (j + (own_dec x).length)), vr b, un, un, vi (Int32.ofNat (j + (own_dec x).length)), vi (0 : Int32)] [(.int (-x))]) (fun _ _ A kq => XS.ineg A hx rfl (hb hby d309) rfl kq) ?_
      refine uSIN 22 #[vi (-x), vi (Int32.ofNat (j + (own_dec x).length)), vr b, un, un, vi (Int32.ofNat (j + (own_dec x).length)), vi (0 : Int32)] hx hby d310 rfl rfl ?_
      refine ginfo fun _ Hq _ => ?_
      exact gmono (by decide) (by decide) (J2 _ _ _ ⟨(-x), (0 : Int32), rfl, (Keep.refl h0 []), (CHr.refl Hq), (own_neg2 e1), (by rw [own_sg, if_neg e1]; rfl)⟩)
theorem d370 : decode y21_ 0 = .ok (.aload_n 0, 1) := by decide +kernel
theorem d371 : decode y21_ 1 = .ok (.getfield 79, 3) := by decide +kernel
theorem d372 : decode y21_ 4 = .ok (.istore_n 2, 1) := by decide +kernel
theorem d373 : decode y21_ 5 = .ok (.iload_n 2, 1) := by decide +kernel
theorem d374 : decode y21_ 6 = .ok (.iload_n 1, 1) := by decide +kernel
theorem d375 : decode y21_ 7 = .ok (.invokestatic 245, 3) := by decide +kernel
theorem own_pd376 : parseMethodDescriptor "(I)I" = some ⟨[.int], some .int⟩ := by decide +kernel
theorem d377 : decode y21_ 10 = .ok (.iadd, 1) := by decide +kernel
theorem d378 : decode y21_ 11 = .ok (.istore_n 3, 1) := by decide +kernel
theorem d379 : decode y21_ 12 = .ok (.aload_n 0, 1) := by decide +kernel
theorem d380 : decode y21_ 13 = .ok (.iload_n 3, 1) := by decide +kernel
theorem d381 : decode y21_ 14 = .ok (.invokevirtual 100, 3) := by decide +kernel
theorem d382 : decode y21_ 17 = .ok (.aload_n 0, 1) := by decide +kernel
theorem d383 : decode y21_ 18 = .ok (.invokevirtual 83, 3) := by decide +kernel
theorem d384 : decode y21_ 21 = .ok (.ifCond .eq 16, 3) := by decide +kernel
theorem d385 : decode y21_ 24 = .ok (.iload_n 1, 1) := by decide +kernel
theorem d386 : decode y21_ 25 = .ok (.iload_n 3, 1) := by decide +kernel
theorem d387 : decode y21_ 26 = .ok (.aload_n 0, 1) := by decide +kernel
theorem d388 : decode y21_ 27 = .ok (.getfield 15, 3) := by decide +kernel
theorem d389 : decode y21_ 30 = .ok (.invokestatic 248, 3) := by decide +kernel
theorem own_pd390 : parseMethodDescriptor "(II[B)I" = some ⟨[.int, .int, (.array .byte)], some .int⟩ := by decide +kernel
theorem d391 : decode y21_ 33 = .ok (.pop, 1) := by decide +kernel
theorem d392 : decode y21_ 34 = .ok (.goto 14, 3) := by decide +kernel
theorem d393 : decode y21_ 48 = .ok (.aload_n 0, 1) := by decide +kernel
theorem d394 : decode y21_ 49 = .ok (.iload_n 3, 1) := by decide +kernel
theorem d395 : decode y21_ 50 = .ok (.putfield 79, 3) := by decide +kernel
theorem d396 : decode y21_ 53 = .ok (.aload_n 0, 1) := by decide +kernel
theorem d397 : decode y21_ 54 = .ok (.areturn, 1) := by decide +kernel
abbrev mn398 : MethodName := ⟨"java/lang/AbstractStringBuilder", "append", "(I)Ljava/lang/AbstractStringBuilder;"⟩
theorem own_asbI (l : Launch) (Z : State) (a0 : Array Value) (cx : Ctx Z a0) (ws : List Jvm.Cond) (b : Addr) (x : Int32) (v : Addr) (cap : Nat) (cs : List Int32) (vm0 : Vm) (h0 : Heap) (X00 : Ext Z.heap h0) (P0 : SBd Z h0 b v cap cs) (P1 : Z.heap.size ≤ b) (P2 : Z.heap.size ≤ v) (P3 : Safe Z consts_1 vm0 h0 v) (hcd : (cs.length + (own_dec x).length ≤ cap)) :
    Met l mn398 y21_ 4 (some (.object c2_)) ws ({ frames := 1, cells := 0, slots := 0, locals := 18 } : Room) Z consts_1 vm0 h0 #[(.ref b), (.int x)] (fun rv vm h => rv = some (.ref b) ∧ Keep h0 h [b, v] ∧ SBd Z h b v cap (cs ++ (own_dec x)) ∧ Safe Z consts_1 vm h v) := by
  obtain ⟨hw, hEL, ⟨zc, Scs, hzc⟩, ⟨fm, Sfm, hfm⟩, hI0⟩ := id cx
  have hSA := own_SA hw
  refine Met.of_walk (a0 := a0) #[vr b, vi x, un, un] (plainFor_of_name own_pn45) X00 hEL (fun m => by first | (simp [entryFrame, mkF, argsToLocals, Value.category]; done) | rfl) ?_
  intro p e s m below meth c vm hx hby hml hret hnm hC0 hW0
  have lt_v : h0.size > v := P0.vlt
  have lt_b : h0.size > b := P0.1.lt
  have L3 := hC0.safe lt_v P3
  obtain ⟨eE, eV, eC, eN, ⟨kz, zs, eA, ez⟩, eb, ecap⟩ := P0
  refine uAN 1 hx hby d370 rfl rfl rfl ?_
  refine ggetF (host := "") hx (Or.inl (ow hw 83 rfl)) Via.refl eN 4 (hb hby d371) rfl ?_
  refine uSIN 5 #[vr b, vi x, vi (Int32.ofNat (cs).length), un] hx hby d372 rfl rfl ?_
  refine uIN 6 hx hby d373 rfl rfl ?_
  refine uIN 7 hx hby d374 rfl rfl ?_
  refine ginfo fun _ _ O1 => ?_
  refine gcallS (y := mn296) hx (ow hw 120 rfl) (ow hw 121 rfl) (ow hw 122 rfl) (ow hw 123 rfl) (by decide) (fun hZ H hEL => Pay.of_met (W := 1) (own_stringSize l Z a0 cx [] (x) vm h0 O1 ) (ow hw 123 rfl) (ow hw 122 rfl) (by decide) (by decide) hZ H hEL) 10 (argsL := [(.int x)]) (rest := [(.int (Int32.ofNat (cs).length))]) (lenOf own_pd376 rfl) rfl rfl (Nat.le_of_eq rfl) (by rw [hml]; rfl) (hb hby d375) rfl (by decide) (by decide) ?_
  rintro _ vm1 h1 C1 ⟨rfl, K1⟩
  have z1 := C1.2.1
  refine gat1 ?_
  refine uiadd 11 ((Int32.ofNat (cs).length) + (Int32.ofNat (own_dec x).length)) hx hby d377 rfl rfl ?_
  refine gat (mkF m 11 #[vr b, vi x, vi (Int32.ofNat (cs).length), un] [(.int (Int32.ofNat (cs.length + (own_dec x).length)))]) (by rw [addOf (by omega)]) ?_
  refine uSIN 12 #[vr b, vi x, vi (Int32.ofNat (cs).length), vi (Int32.ofNat (cs.length + (own_dec x).length))] hx hby d378 rfl rfl ?_
  refine uAN 13 hx hby d379 rfl rfl rfl ?_
  refine uIN 14 hx hby d380 rfl rfl ?_
  have f3 := (eV.keep K1 nin0)
  have f4 := (eC.keep K1 nin0)
  have f5 := (eA.keep K1 nin0)
  refine ginfo fun _ _ O2 => ?_
  have f6 := (eE.keep K1)
  refine gcallQ (y := mn114) hx (ow hw 85 rfl) (ow hw 86 rfl) (ow hw 88 rfl) (ow hw 87 rfl) (ow hw 89 rfl) (by decide) (fun hZ H hEL => Pay.of_met (W := 0) (own_ensure l Z a0 cx [] (b) (cs.length + (own_dec x).length) (v) (kz) (cap) ((lo8s cs ++ zs)) vm1 h1 O2 f3 f4 f5 (by first | assumption | decide | omega) (by first | assumption | decide | omega)) (ow hw 89 rfl) (ow hw 54 rfl) (by decide) (by decide) hZ H hEL) 17 (argsL := [(.int (Int32.ofNat (cs.length + (own_dec x).length)))]) (rest := []) f6 (lenOf own_pd49 rfl) rfl rfl (Nat.le_of_eq rfl) (by rw [hml]; rfl) (hb hby d381) rfl (by decide) (by decide) ?_
  rintro _ vm2 h2 C2 ⟨rfl, rfl⟩
  have z2 := C2.2.1
  refine gat0 ?_
  refine uAN 18 hx hby d382 rfl rfl rfl ?_
  refine ginfo fun _ _ O7 => ?_
  refine gcallV (y := mn171) (z := mn171) hx (ow hw 124 rfl) (ow hw 125 rfl) (nfSel (ow hw 127 rfl)) (ow hw 127 rfl) (ow hw 126 rfl) (by decide) (fun hZ H hEL => Pay.of_met (W := 0) (own_asblat l Z a0 cx [] (b) vm2 h1 O7 f4) (ow hw 128 rfl) (ow hw 54 rfl) (by decide) (by decide) hZ H hEL) 21 (argsL := []) (rest := []) f6 (lenOf own_pd235 rfl) rfl rfl (Nat.le_of_eq rfl) (by rw [hml]; rfl) (hb hby d383) rfl (by decide) (by decide) ?_
  rintro _ vm7 h7 C7 ⟨rfl, rfl⟩
  have z7 := C7.2.1
  refine gat1 ?_
  refine uN 24 hx hby d384 rfl ((if0 _ _).trans (feq (by decide)).1) ?_
  refine uIN 25 hx hby d385 rfl rfl ?_
  refine uIN 26 hx hby d386 rfl rfl ?_
  refine uAN 27 hx hby d387 rfl rfl rfl ?_
  refine ggetF (host := "") hx (Or.inl (ow hw 58 rfl)) Via.refl f3 30 (hb hby d388) rfl ?_
  have f9 := (C7.safe (show h1.size > v by omega) (C2.safe (show h1.size > v by omega) (C1.safe (show h0.size > v by omega) L3)))
  refine ginfo fun _ _ O8 => ?_
  refine gcallS (y := mn369) hx (ow hw 129 rfl) (ow hw 130 rfl) (ow hw 122 rfl) (ow hw 131 rfl) (by decide) (fun hZ H hEL => Pay.of_met (W := 0) (own_getChars l Z a0 cx [] (x) (cs.length) (v) (kz) (cap) ((lo8s cs ++ zs)) vm7 h1 O8 f5 P2 f9 (by first | assumption | decide | omega) (by first | assumption | decide | omega) (by simp only [List.length_append, lo8s_len]; exact ez)) (ow hw 131 rfl) (ow hw 122 rfl) (by decide) (by decide) hZ H hEL) 33 (argsL := [(.int x), (.int (Int32.ofNat (cs.length + (own_dec x).length))), (.ref v)]) (rest := []) (lenOf own_pd390 rfl) rfl rfl (Nat.le_of_eq rfl) (by rw [hml]; rfl) (hb hby d389) rfl (by decide) (by decide) ?_
  rintro _ vm8 h8 C8 ⟨rfl, K8, q8_0, q8_1⟩
  have z8 := C8.2.1
  refine gat1 ?_
  have VL := q8_0
  rw [own_put2] at VL
  refine uP 34 hx hby d391 rfl rfl ?_
  refine uG 48 hx hby d392 (by decide) (by decide) ?_
  refine uAN 49 hx hby d393 rfl rfl rfl ?_
  refine uIN 50 hx hby d394 rfl rfl ?_
  have f10 := ((eN.keep K1 nin0).keep K8 (ninS (Exa.neArv (f6.keep K8) VL (ow hw 45 rfl)) nin0))
  have f11 := (f6.keep K8)
  refine gputF (host := "") hx (Or.inl (ow hw 83 rfl)) Via.refl f10 f11 (Or.inl (ow hw 84 rfl)) (ow hw 45 rfl) (ty := .int) (by decide) rfl rfl P1 (fun al => Safe.exa al f11 (by decide) (by decide)) 53 (hb hby d395) rfl ?_
  intro h12 W12 C12
  have z12 := C12.2.1
  have F12 := f10.same W12
  refine uAN 54 hx hby d396 rfl rfl rfl ?_
  have N13 : Fld Z h12 b c2_ "count" "I" (.int (Int32.ofNat (cs ++ (own_dec x)).length)) := by rw [List.length_append]; exact F12
  have f14 := (f11.wr W12)
  have f15 := ((f3.keep K8 (ninS (Exa.neArv f11 VL (ow hw 45 rfl)) nin0)).other W12 (Or.inr (slot_ne (Or.inl (ow hw 59 rfl)) (Or.inl (ow hw 84 rfl)) (by decide) (t := (.array .byte)) (t' := .int) (by decide) (by decide))))
  have f16 := ((f4.keep K8 (ninS (Exa.neArv f11 VL (ow hw 45 rfl)) nin0)).other W12 (Or.inr (slot_ne (Or.inl (ow hw 61 rfl)) (Or.inl (ow hw 84 rfl)) (by decide) (t := .byte) (t' := .int) (by decide) (by decide))))
  have f17 := (VL.other W12 (Ne.symm (Exa.neArv f11 VL (ow hw 45 rfl))))
  have f19 := (C12.safe (show h8.size > v by omega) q8_1)
  exact gretA hx hret rfl rfl (hb hby d397) (by decide) (by decide) (fun vq Cq => ⟨rfl, ((((Keep.refl h0 [b, v]).trans K1 all0).trans K8 (allS (Or.inl (List.mem_of_getElem? (i := 1) rfl)) all0)).wr W12 (Or.inl (List.mem_of_getElem? (i := 0) rfl))), ⟨f14, f15, f16, N13, ⟨_, _, f17, by simp only [List.length_append, List.length_drop]; omega⟩, bapp eb (own_decB x), ecap⟩, (Cq.safe (show h12.size > v by omega) f19)⟩)
theorem d399 : decode y14_ 0 = .ok (.aload_n 0, 1) := by decide +kernel
theorem d400 : decode y14_ 1 = .ok (.iload_n 1, 1) := by decide +kernel
theorem d401 : decode y14_ 2 = .ok (.invokespecial 53, 3) := by decide +kernel
theorem own_pd402 : parseMethodDescriptor "(I)Ljava/lang/AbstractStringBuilder;" = some ⟨[.int], some (.object "java/lang/AbstractStringBuilder")⟩ := by decide +kernel
theorem d403 : decode y14_ 5 = .ok (.pop, 1) := by decide +kernel
theorem d404 : decode y14_ 6 = .ok (.aload_n 0, 1) := by decide +kernel
theorem d405 : decode y14_ 7 = .ok (.areturn, 1) := by decide +kernel
abbrev mn406 : MethodName := ⟨"java/lang/StringBuilder", "append", "(I)Ljava/lang/StringBuilder;"⟩
theorem own_sbI (l : Launch) (Z : State) (a0 : Array Value) (cx : Ctx Z a0) (ws : List Jvm.Cond) (b : Addr) (x : Int32) (v : Addr) (cap : Nat) (cs : List Int32) (vm0 : Vm) (h0 : Heap) (X00 : Ext Z.heap h0) (P0 : SBd Z h0 b v cap cs) (P1 : Z.heap.size ≤ b) (P2 : Z.heap.size ≤ v) (P3 : Safe Z consts_1 vm0 h0 v) (hcd : (cs.length + (own_dec x).length ≤ cap)) :
    Met l mn406 y14_ 2 (some (.object c5_)) ws ({ frames := 2, cells := 0, slots := 0, locals := 33 } : Room) Z consts_1 vm0 h0 #[(.ref b), (.int x)] (fun rv vm h => rv = some (.ref b) ∧ Keep h0 h [b, v] ∧ SBd Z h b v cap (cs ++ (own_dec x)) ∧ Safe Z consts_1 vm h v) := by
  obtain ⟨hw, hEL, ⟨zc, Scs, hzc⟩, ⟨fm, Sfm, hfm⟩, hI0⟩ := id cx
  have hSA := own_SA hw
  refine Met.of_walk (a0 := a0) #[vr b, vi x] (plainFor_of_name own_pn52) X00 hEL (fun m => by first | (simp [entryFrame, mkF, argsToLocals, Value.category]; done) | rfl) ?_
  intro p e s m below meth c vm hx hby hml hret hnm hC0 hW0
  have lt_v : h0.size > v := P0.vlt
  have lt_b : h0.size > b := P0.1.lt
  have L3 := hC0.safe lt_v P3
  have eE := P0.1
  refine uAN 1 hx hby d399 rfl rfl rfl ?_
  refine uIN 2 hx hby d400 rfl rfl ?_
  refine ginfo fun _ _ O1 => ?_
  refine gcallU (y := mn398) hx (ow hw 116 rfl) (smOf (y := mn398) (ow hw 117 rfl) (nfSame (y' := mn114) (ow hw 88 rfl) (ow hw 86 rfl) rfl) (by decide)) (ow hw 117 rfl) (ow hw 69 rfl) (by decide) (ow hw 119 rfl) (fun hZ H hEL => Pay.of_met (W := 0) (own_asbI l Z a0 cx [] (b) (x) (v) (cap) (cs) vm h0 O1 P0 P1 P2 L3 (by first | assumption | decide | omega)) (ow hw 119 rfl) (ow hw 54 rfl) (by decide) (by decide) hZ H hEL) 5 (argsL := [(.int x)]) (rest := []) (Ins.self eE) (lenOf own_pd402 rfl) rfl rfl (Nat.le_of_eq rfl) (by rw [hml]; rfl) (hb hby d401) rfl (by decide) (by decide) ?_
  rintro _ vm1 h1 C1 ⟨rfl, K1, q1_0, q1_1⟩
  have z1 := C1.2.1
  refine gat1 ?_
  refine uP 6 hx hby d403 rfl rfl ?_
  refine uAN 7 hx hby d404 rfl rfl rfl ?_
  exact gretA hx hret rfl rfl (hb hby d405) (by decide) (by decide) (fun vq Cq => ⟨rfl, ((Keep.refl h0 [b, v]).trans K1 (allS (Or.inl (List.mem_of_getElem? (i := 0) rfl)) (allS (Or.inl (List.mem_of_getElem? (i := 1) rfl)) all0))), q1_0, (Cq.safe (show h1.size > v by omega) q1_1)⟩)
theorem d407 : decode y32_ 0 = .ok (.aload_n 0, 1) := by decide +kernel
theorem d408 : decode y32_ 1 = .ok (.invokespecial 1, 3) := by decide +kernel
theorem d409 : decode y32_ 4 = .ok (.aload_n 0, 1) := by decide +kernel
theorem d410 : decode y32_ 5 = .ok (.aload_n 1, 1) := by decide +kernel
theorem d411 : decode y32_ 6 = .ok (.ldc 7, 2) := by decide +kernel
theorem d412 : decode y32_ 8 = .ok (.invokestatic 9, 3) := by decide +kernel
theorem own_pd413 : parseMethodDescriptor "(Ljava/lang/Object;Ljava/lang/String;)Ljava/lang/Object;" = some ⟨[(.object "java/lang/Object"), (.object "java/lang/String")], some (.object "java/lang/Object")⟩ := by decide +kernel
theorem d414 : decode y32_ 11 = .ok (.checkcast 15, 3) := by decide +kernel
theorem d415 : decode y32_ 14 = .ok (.putfield 17, 3) := by decide +kernel
theorem d416 : decode y32_ 17 = .ok (.aload_n 0, 1) := by decide +kernel
theorem d417 : decode y32_ 18 = .ok (.iload_n 2, 1) := by decide +kernel
theorem d418 : decode y32_ 19 = .ok (.putfield 23, 3) := by decide +kernel
theorem d419 : decode y32_ 22 = .ok (.return_, 1) := by decide +kernel
abbrev mn420 : MethodName := ⟨"com/example/tasks_to_members/taskstomembers/core/Task", "<init>", "(Ljava/lang/String;I)V"⟩
theorem own_pn421 : plainName "com/example/tasks_to_members/taskstomembers/core/Task" = true := by first | (simp [plainName, overriddenIn]; done) | decide +kernel
theorem own_tinit (l : Launch) (Z : State) (a0 : Array Value) (cx : Ctx Z a0) (ws : List Jvm.Cond) (x : Addr) (y : Addr) (t : Addr) (cs : List Int32) (n : Int32) (u0 : Value) (u1 : Int32) (vm0 : Vm) (h0 : Heap) (X00 : Ext Z.heap h0) (P0 : Exa Z h0 x c1_) (P1 : Fld Z h0 x c1_ c6_ c0_ u0) (P2 : Fld Z h0 x c1_ "partition" "I" (.int u1)) (P3 : Z.heap.size ≤ x) (P4 : Safe Z consts_1 vm0 h0 x) (P5 : Str Z h0 y t cs) :
    Met l mn420 y32_ 3 none ws ({ frames := 1, cells := 2, slots := 60, locals := 14 } : Room) Z consts_1 vm0 h0 #[(.ref x), (.ref y), (.int n)] (fun rv vm h => rv = none ∧ Keep h0 h [x] ∧ Fld Z h x c1_ c6_ c0_ (.ref y) ∧ Fld Z h x c1_ "partition" "I" (.int n)) := by
  obtain ⟨hw, hEL, ⟨zc, Scs, hzc⟩, ⟨fm, Sfm, hfm⟩, hI0⟩ := id cx
  have hSA := own_SA hw
  refine Met.of_walk (a0 := a0) #[vr x, vr y, vi n] (plainFor_of_name own_pn421) X00 hEL (fun m => by first | (simp [entryFrame, mkF, argsToLocals, Value.category]; done) | rfl) ?_
  intro p e s m below meth c vm hx hby hml hret hnm hC0 hW0
  have lt_x : h0.size > x := P0.lt
  have L4 := hC0.safe lt_x P4
  have lt_y : h0.size > y := P5.1.lt
  have lt_t : h0.size > t := P5.tlt
  refine uAN 1 hx hby d407 rfl rfl rfl ?_
  refine ginitO hx (ow hw 28 rfl) (ow hw 12 rfl) (ow hw 13 rfl) 4 (W := 0) (Nat.le_of_eq rfl) (by rw [hml]; rfl) (hb hby d408) rfl (by decide) (by decide) ?_
  refine uAN 5 hx hby d409 rfl rfl rfl ?_
  refine uAN 6 hx hby d410 rfl rfl rfl ?_
  refine gldcR hx (ow hw 29 rfl) hSA (by decide) (n := 56) (by decide) (by decide) (vs := [Value.int (115 : Int32), Value.int (117 : Int32), Value.int (98 : Int32), Value.int (116 : Int32), Value.int (111 : Int32), Value.int (112 : Int32), Value.int (111 : Int32), Value.int (108 : Int32), Value.int (111 : Int32), Value.int (103 : Int32), Value.int (121 : Int32), Value.int (32 : Int32), Value.int (105 : Int32), Value.int (100 : Int32)]) (z := (14 : Int32)) (by decide +kernel) (by decide) (by decide) 8 (hb hby d411) rfl (by decide) (by decide) ?_
  intro b2 t2 k2 vm2 h2 E2 C2 Q2a Q2b Q2c Q2d Q2e
  have z2 := C2.2.1
  have S2 : Str Z h2 b2 t2 [(115 : Int32), (117 : Int32), (98 : Int32), (116 : Int32), (111 : Int32), (112 : Int32), (111 : Int32), (108 : Int32), (111 : Int32), (103 : Int32), (121 : Int32), (32 : Int32), (105 : Int32), (100 : Int32)] := Str.lit Q2a Q2b Q2c Q2d (by decide) rfl rfl (by decide)
  have lt_b2 : h2.size > b2 := S2.1.lt
  have lt_t2 : h2.size > t2 := S2.tlt
  have f3 := (C2.safe (show h0.size > x by omega) L4)
  have ne2_x := Q2e x f3
  refine ginfo fun _ _ O4 => ?_
  refine gcallS (y := mn29) hx (ow hw 30 rfl) (ow hw 31 rfl) (ow hw 32 rfl) (ow hw 33 rfl) (by decide) (fun hZ H hEL => Pay.of_met (W := 1) (own_require2 l Z a0 cx [] (y) (b2) vm2 h2 O4 ) (ow hw 33 rfl) (ow hw 32 rfl) (by decide) (by decide) hZ H hEL) 11 (argsL := [(.ref y), (.ref b2)]) (rest := [(.ref x)]) (lenOf own_pd413 rfl) rfl rfl (Nat.le_of_eq rfl) (by rw [hml]; rfl) (hb hby d412) rfl (by decide) (by decide) ?_
  rintro _ vm4 h4 C4 ⟨rfl, rfl⟩
  have z4 := C4.2.1
  refine gat1 ?_
  refine gcast hx (ow hw 34 rfl) (Ins.self (P5.1.ext E2)) 14 (hb hby d414) rfl ?_
  have f5 := (P1.ext E2)
  have f6 := (P0.ext E2)
  have f7 := (C4.safe (show h2.size > x by omega) f3)
  refine gputF (host := "") hx (Or.inl (ow hw 35 rfl)) Via.refl f5 f6 (Or.inr ⟨(ow hw 36 rfl), rfl, hnm⟩) (ow hw 23 rfl) (ty := (.object c4_)) (by decide) rfl rfl P3 (fun _ => f7) 17 (hb hby d415) rfl ?_
  intro h8 W8 C8
  have z8 := C8.2.1
  have F8 := f5.same W8
  refine uAN 18 hx hby d416 rfl rfl rfl ?_
  refine uIN 19 hx hby d417 rfl rfl ?_
  have f9 := ((P2.ext E2).other W8 (Or.inr (slot_ne (Or.inr (ow hw 38 rfl)) (Or.inr (ow hw 36 rfl)) (by decide) (t := .int) (t' := (.object c4_)) (by decide) (by decide))))
  have f10 := (f6.wr W8)
  have f11 := (C8.safe (show h2.size > x by omega) f7)
  refine gputF (host := "") hx (Or.inl (ow hw 37 rfl)) Via.refl f9 f10 (Or.inr ⟨(ow hw 38 rfl), rfl, hnm⟩) (ow hw 23 rfl) (ty := .int) (by decide) rfl rfl P3 (fun _ => f11) 22 (hb hby d418) rfl ?_
  intro h12 W12 C12
  have z12 := C12.2.1
  have F12 := f9.same W12
  have f14 := (F8.other W12 (Or.inr (slot_ne (Or.inr (ow hw 36 rfl)) (Or.inr (ow hw 38 rfl)) (by decide) (t := (.object c4_)) (t' := .int) (by decide) (by decide))))
  exact gretV hx hret (hb hby d419) (by decide) (by decide) (fun vq Cq => ⟨rfl, ((((Keep.refl h0 [x]).ext E2).wr W8 (Or.inl (List.mem_of_getElem? (i := 0) rfl))).wr W12 (Or.inl (List.mem_of_getElem? (i := 0) rfl))), f14, F12⟩)
theorem own_tx (cs : List Int32) (x : Int32) : ((([] : List Int32) ++ cs) ++ [(95 : Int32)]) ++ (own_dec x) = cs ++ (95 : Int32) :: own_dec x := by simp
theorem d422 : decode y33_ 0 = .ok (.new 45, 3) := by decide +kernel
theorem d423 : decode y33_ 3 = .ok (.dup, 1) := by decide +kernel
theorem d424 : decode y33_ 4 = .ok (.invokespecial 47, 3) := by decide +kernel
theorem own_pd425 : parseMethodDescriptor "()V" = some ⟨[], none⟩ := by decide +kernel
theorem d426 : decode y33_ 7 = .ok (.aload_n 0, 1) := by decide +kernel
theorem d427 : decode y33_ 8 = .ok (.getfield 17, 3) := by decide +kernel
theorem d428 : decode y33_ 11 = .ok (.invokevirtual 48, 3) := by decide +kernel
theorem own_pd429 : parseMethodDescriptor "(Ljava/lang/String;)Ljava/lang/StringBuilder;" = some ⟨[(.object "java/lang/String")], some (.object "java/lang/StringBuilder")⟩ := by decide +kernel
theorem d430 : decode y33_ 14 = .ok (.ldc 52, 2) := by decide +kernel
theorem d431 : decode y33_ 16 = .ok (.invokevirtual 48, 3) := by decide +kernel
theorem d432 : decode y33_ 19 = .ok (.aload_n 0, 1) := by decide +kernel
theorem d433 : decode y33_ 20 = .ok (.getfield 23, 3) := by decide +kernel
theorem d434 : decode y33_ 23 = .ok (.invokevirtual 54, 3) := by decide +kernel
theorem own_pd435 : parseMethodDescriptor "(I)Ljava/lang/StringBuilder;" = some ⟨[.int], some (.object "java/lang/StringBuilder")⟩ := by decide +kernel
theorem d436 : decode y33_ 26 = .ok (.invokevirtual 57, 3) := by decide +kernel
theorem own_pd437 : parseMethodDescriptor "()Ljava/lang/String;" = some ⟨[], some (.object "java/lang/String")⟩ := by decide +kernel
theorem d438 : decode y33_ 29 = .ok (.areturn, 1) := by decide +kernel
abbrev mn439 : MethodName := ⟨"com/example/tasks_to_members/taskstomembers/core/Task", "toString", "()Ljava/lang/String;"⟩
theorem own_tstr (l : Launch) (Z : State) (a0 : Array Value) (cx : Ctx Z a0) (ws : List Jvm.Cond) (y : Addr) (s0 : Addr) (t0 : Addr) (cs : List Int32) (x : Int32) (vm0 : Vm) (h0 : Heap) (X00 : Ext Z.heap h0) (P0 : Fld Z h0 y c1_ c6_ c0_ (.ref s0)) (P1 : Fld Z h0 y c1_ "partition" "I" (.int x)) (P2 : Str Z h0 s0 t0 cs) (hcs : (cs.length ≤ 3)) (P4 : Exa Z h0 y c1_) :
    Met l mn439 y33_ 1 (some (.object c4_)) ws ({ frames := 6, cells := 6, slots := 64, locals := 91 } : Room) Z consts_1 vm0 h0 #[(.ref y)] (fun rv vm h => ∃ (r : Addr), ∃ (t : Addr), rv = some (.ref r) ∧ Keep h0 h [] ∧ h0.size ≤ r ∧ Str Z h r t (cs ++ (95 : Int32) :: own_dec x)) := by
  obtain ⟨hw, hEL, ⟨zc, Scs, hzc⟩, ⟨fm, Sfm, hfm⟩, hI0⟩ := id cx
  have hSA := own_SA hw
  refine Met.of_walk (a0 := a0) #[vr y] (plainFor_of_name own_pn421) X00 hEL (fun m => by first | (simp [entryFrame, mkF, argsToLocals, Value.category]; done) | rfl) ?_
  intro p e s m below meth c vm hx hby hml hret hnm hC0 hW0
  have lt_y : h0.size > y := P0.lt
  have lt_s0 : h0.size > s0 := P2.1.lt
  have lt_t0 : h0.size > t0 := P2.tlt
  have hD2 := own_dec_le x
  refine gnewO hx (ow hw 44 rfl) (ow hw 45 rfl) (ow hw 46 rfl) 3 (hb hby d422) rfl (by decide) (by decide) ?_
  intro b1 h1 g1 E1 C1 A1 D1 n1 L1
  have z1 := C1.2.1
  have lt_b1 : h1.size > b1 := A1.lt
  have F1_value : Fld Z h1 b1 c2_ "value" "[B" .null := D1 (Or.inl (ow hw 59 rfl)) (ty := (.array .byte)) (by decide)
  have F1_coder : Fld Z h1 b1 c2_ "coder" "B" (.int (0 : Int32)) := D1 (Or.inl (ow hw 61 rfl)) (ty := .byte) (by decide)
  have F1_count : Fld Z h1 b1 c2_ "count" "I" (.int (0 : Int32)) := D1 (Or.inl (ow hw 84 rfl)) (ty := .int) (by decide)
  refine uD 4 hx hby d423 rfl rfl ?_
  refine ginfo fun _ _ O2 => ?_
  refine gcallI (y := mn51) hx rfl (ow hw 47 rfl) (ow hw 48 rfl) (ow hw 49 rfl) (by decide) (fun hZ H hEL => Pay.of_met (W := 1) (own_sbinit l Z a0 cx [] (b1) (.null) ((.int (0 : Int32))) vm h1 O2 A1 F1_value F1_coder F1_count n1) (ow hw 49 rfl) (ow hw 46 rfl) (by decide) (by decide) hZ H hEL) (a := b1) 7 (argsL := []) (rest := [(.ref b1)]) (lenOf own_pd425 rfl) rfl rfl (Nat.le_of_eq rfl) (by rw [hml]; rfl) (hb hby d424) rfl (by decide) (by decide) ?_
  rintro _ vm2 h2 C2 ⟨v2, rfl, K2, q2_0, q2_1, q2_2, q2_3, q2_4⟩
  have z2 := C2.2.1
  have lt_v2 : h2.size > v2 := q2_0.vlt
  refine gat0 ?_
  refine uAN 8 hx hby d426 rfl rfl rfl ?_
  have f3 := ((P0.ext E1).keep K2 (ninS (Nat.ne_of_lt (by omega)) nin0))
  refine ggetF (host := "") hx (Or.inl (ow hw 35 rfl)) Via.refl f3 11 (hb hby d427) rfl ?_
  have f5 := ((P2.ext E1).keep K2 (ninS (Nat.ne_of_lt (by omega)) nin0) (ninS (Nat.ne_of_lt (by omega)) nin0))
  refine ginfo fun _ _ O4 => ?_
  have f6 := (A1.keep K2)
  refine gcallV (y := mn150) (z := mn150) hx (ow hw 62 rfl) (ow hw 63 rfl) (nfSel (ow hw 65 rfl)) (ow hw 65 rfl) (ow hw 64 rfl) (by decide) (fun hZ H hEL => Pay.of_met (W := 0) (own_sbappend l Z a0 cx [] (b1) (s0) (v2) (16) (([] : List Int32)) (t0) (cs) vm2 h2 O4 q2_0 f5 n1 q2_2 q2_3 (by simp only [List.length_nil]; omega) (Nat.ne_of_gt (by omega))) (ow hw 66 rfl) (ow hw 46 rfl) (by decide) (by decide) hZ H hEL) 14 (argsL := [(.ref s0)]) (rest := []) f6 (lenOf own_pd429 rfl) rfl rfl (Nat.le_of_eq rfl) (by rw [hml]; rfl) (hb hby d428) rfl (by decide) (by decide) ?_
  rintro _ vm4 h4 C4 ⟨rfl, K4, q4_0, q4_1⟩
  have z4 := C4.2.1
  refine gat1 ?_
  refine gldcR hx (ow hw 110 rfl) hSA (by decide) (n := 4) (by decide) (by decide) (vs := [Value.int (95 : Int32)]) (z := (1 : Int32)) (by decide +kernel) (by decide) (by decide) 16 (hb hby d430) rfl (by decide) (by decide) ?_
  intro b7 t7 k7 vm7 h7 E7 C7 Q7a Q7b Q7c Q7d Q7e
  have z7 := C7.2.1
  have S7 : Str Z h7 b7 t7 [(95 : Int32)] := Str.lit Q7a Q7b Q7c Q7d (by decide) rfl rfl (by decide)
  have lt_b7 : h7.size > b7 := S7.1.lt
  have lt_t7 : h7.size > t7 := S7.tlt
  have f8 := (C7.safe (show h4.size > b1 by omega) (C4.safe (show h2.size > b1 by omega) (C2.safe (show h1.size > b1 by omega) L1)))
  have ne7_b1 := Q7e b1 f8
  have f9 := (C7.safe (show h4.size > v2 by omega) q4_1)
  have ne7_v2 := Q7e v2 f9
  have f11 := (q4_0.ext E7)
  refine ginfo fun _ _ O10 => ?_
  have f12 := ((f6.keep K4).ext E7)
  refine gcallV (y := mn150) (z := mn150) hx (ow hw 62 rfl) (ow hw 63 rfl) (nfSel (ow hw 65 rfl)) (ow hw 65 rfl) (ow hw 64 rfl) (by decide) (fun hZ H hEL => Pay.of_met (W := 0) (own_sbappend l Z a0 cx [] (b1) (b7) (v2) (16) ((([] : List Int32) ++ cs)) (t7) ([(95 : Int32)]) vm7 h7 O10 f11 S7 n1 q2_2 f9 (by simp only [List.length_append, List.length_nil, List.length_cons]; omega) ne7_v2.2) (ow hw 66 rfl) (ow hw 46 rfl) (by decide) (by decide) hZ H hEL) 19 (argsL := [(.ref b7)]) (rest := []) f12 (lenOf own_pd429 rfl) rfl rfl (Nat.le_of_eq rfl) (by rw [hml]; rfl) (hb hby d431) rfl (by decide) (by decide) ?_
  rintro _ vm10 h10 C10 ⟨rfl, K10, q10_0, q10_1⟩
  have z10 := C10.2.1
  refine gat1 ?_
  refine uAN 20 hx hby d432 rfl rfl rfl ?_
  have f13 := (((((P1.ext E1).keep K2 (ninS (Nat.ne_of_lt (by omega)) nin0)).keep K4 (ninS (Nat.ne_of_lt (by omega)) (ninS (Nat.ne_of_lt (by omega)) nin0))).ext E7).keep K10 (ninS (Nat.ne_of_lt (by omega)) (ninS (Nat.ne_of_lt (by omega)) nin0)))
  refine ggetF (host := "") hx (Or.inl (ow hw 37 rfl)) Via.refl f13 23 (hb hby d433) rfl ?_
  refine ginfo fun _ _ O14 => ?_
  have f15 := (f12.keep K10)
  refine gcallV (y := mn406) (z := mn406) hx (ow hw 111 rfl) (ow hw 112 rfl) (nfSel (ow hw 114 rfl)) (ow hw 114 rfl) (ow hw 113 rfl) (by decide) (fun hZ H hEL => Pay.of_met (W := 0) (own_sbI l Z a0 cx [] (b1) (x) (v2) (16) (((([] : List Int32) ++ cs) ++ [(95 : Int32)])) vm10 h10 O14 q10_0 n1 q2_2 q10_1 (by simp only [List.length_append, List.length_nil, List.length_cons]; omega)) (ow hw 115 rfl) (ow hw 46 rfl) (by decide) (by decide) hZ H hEL) 26 (argsL := [(.int x)]) (rest := []) f15 (lenOf own_pd435 rfl) rfl rfl (Nat.le_of_eq rfl) (by rw [hml]; rfl) (hb hby d434) rfl (by decide) (by decide) ?_
  rintro _ vm14 h14 C14 ⟨rfl, K14, q14_0, q14_1⟩
  have z14 := C14.2.1
  refine gat1 ?_
  refine ginfo fun _ _ O16 => ?_
  have f17 := (f15.keep K14)
  refine gcallV (y := mn262) (z := mn262) hx (ow hw 133 rfl) (ow hw 134 rfl) (nfSel (ow hw 136 rfl)) (ow hw 136 rfl) (ow hw 135 rfl) (by decide) (fun hZ H hEL => Pay.of_met (W := 0) (own_sbtostring l Z a0 cx [] (b1) (v2) (16) ((((([] : List Int32) ++ cs) ++ [(95 : Int32)]) ++ (own_dec x))) vm14 h14 O16 q14_0 (by simp only [List.length_append, List.length_nil, List.length_cons]; omega) (by simp only [List.length_append, List.length_nil, List.length_cons]; omega)) (ow hw 137 rfl) (ow hw 46 rfl) (by decide) (by decide) hZ H hEL) 29 (argsL := []) (rest := []) f17 (lenOf own_pd437 rfl) rfl rfl (Nat.le_of_eq rfl) (by rw [hml]; rfl) (hb hby d436) rfl (by decide) (by decide) ?_
  rintro _ vm16 h16 C16 ⟨r16, t16, rfl, K16, q16_0, q16_1, q16_2⟩
  have z16 := C16.2.1
  have lt_r16 : h16.size > r16 := q16_2.1.lt
  have lt_t16 : h16.size > t16 := q16_2.tlt
  refine gat1 ?_
  exact gretA hx hret rfl rfl (hb hby d438) (by decide) (by decide) (fun vq Cq => ⟨r16, t16, rfl, ((((((((Keep.refl h0 []).ext E1).trans K2 (allS (Or.inr (by omega)) all0)).trans K4 (allS (Or.inr (by omega)) (allS (Or.inr (by omega)) all0))).ext E7).trans K10 (allS (Or.inr (by omega)) (allS (Or.inr (by omega)) all0))).trans K14 (allS (Or.inr (by omega)) (allS (Or.inr (by omega)) all0))).trans K16 all0), (by omega), (by rw [← own_tx cs x]; exact q16_2)⟩)
theorem own_j64 {n : Nat} (h : n < 2 ^ 63) : (Int64.ofNat n).toInt = n := Int64.toInt_ofNat_of_lt h
theorem own_jbm {x : Int} (h1 : -2 ^ 63 ≤ x) (h2 : x < 2 ^ 63) : x.bmod (2 ^ 64) = x := Int.bmod_eq_of_le (by omega) (by omega)
theorem own_i2j (x : Int32) : x.toInt64.toInt = x.toInt := Int32.toInt_toInt64 x
theorem own_lcj {n : Nat} (hn : n ≤ 2 ^ 31) (k : Nat) (hk : k ≤ 2 ^ 31) (z : Int64) (hz : z = Int64.ofNat k) : lcmpW (Int64.ofNat n) z < (0 : Int32) ↔ n < k := by
  subst hz
  rw [lw_lt, Int64.lt_iff_toInt_lt, own_j64 (by omega), own_j64 (by omega)]; omega
theorem own_jabs1 {x : Int32} (h : lcmpW x.toInt64 (0 : Int64) < (0 : Int32)) : -x.toInt64 = Int64.ofNat (own_abs x) := by
  have e0 : (0 : Int64).toInt = 0 := rfl
  rw [lw_lt, Int64.lt_iff_toInt_lt, e0, own_i2j] at h
  have r := rng32 x
  have l := own_abs_le x
  apply Int64.toInt_inj.mp
  rw [Int64.toInt_neg, own_i2j, own_j64 (by omega), own_jbm (by omega) (by omega)]; unfold own_abs; omega
theorem own_jabs2 {x : Int32} (h : ¬ lcmpW x.toInt64 (0 : Int64) < (0 : Int32)) : x.toInt64 = Int64.ofNat (own_abs x) := by
  have e0 : (0 : Int64).toInt = 0 := rfl
  rw [lw_lt, Int64.lt_iff_toInt_lt, e0, own_i2j] at h
  have r := rng32 x
  have l := own_abs_le x
  apply Int64.toInt_inj.mp
  rw [own_i2j, own_j64 (by omega)]; unfold own_abs; omega
theorem own_p10le {e : Nat} (h : e ≤ 9) : 10 ^ e ≤ 1000000000 := Nat.le_trans (Nat.pow_le_pow_right (by decide) h) (by decide)
theorem own_p10ne {e : Nat} (h : e ≤ 9) : Int64.ofNat (10 ^ e) ≠ 0 := fun q => by
  have l := own_p10le h
  have p := Nat.pow_pos (n := e) (show 0 < 10 by decide)
  have := congrArg Int64.toInt q
  have e0 : (0 : Int64).toInt = 0 := rfl
  rw [own_j64 (by omega), e0] at this
  omega
theorem own_jdiv {n d : Nat} (hn : n ≤ 2 ^ 31) (hd : 1 ≤ d) (hd2 : d ≤ 1000000000) : Int64.ofNat n / Int64.ofNat d = Int64.ofNat (n / d) := by
  apply Int64.toInt_inj.mp
  have l : n / d ≤ n := Nat.div_le_self n d
  have l2 : (0 : Int) ≤ (n : Int) / (d : Int) := Int.ediv_nonneg (by omega) (by omega)
  rw [Int64.toInt_div, own_j64 (by omega), own_j64 (by omega), own_j64 (by omega), Int.tdiv_eq_ediv_of_nonneg (by omega), own_jbm (by omega) (by omega)]
  exact (Int.natCast_ediv n d).symm
theorem own_jrem {n : Nat} (hn : n ≤ 2 ^ 31) : Int64.ofNat n - Int64.ofNat n / (10 : Int64) * (10 : Int64) = Int64.ofNat (n % 10) := by
  have e : (10 : Int64) = Int64.ofNat 10 := rfl
  rw [e, own_jdiv hn (by decide) (by decide)]
  apply Int64.toInt_inj.mp
  rw [Int64.toInt_sub, Int64.toInt_mul, own_j64 (by omega), own_j64 (by omega), own_j64 (by omega), own_j64 (by omega), own_jbm (x := ((n / 10 : Nat) : Int) * ((10 : Nat) : Int)) (by omega) (by omega), own_jbm (by omega) (by omega)]
  omega
theorem own_j2i {n : Nat} (h : n < 10) : (Int64.ofNat n).toInt32 = Int32.ofNat n := by
  apply Int32.toInt_inj.mp
  rw [Int64.toInt_toInt32, own_j64 (by omega), Int32.toInt_ofNat_of_lt (by omega)]
  exact Int.bmod_eq_of_le (by omega) (by omega)
theorem own_48 (n : Nat) : (48 : Int32) + Int32.ofNat (n % 10) = own_dc n := by
  have e : (48 : Int32) = Int32.ofNat 48 := rfl
  rw [e, addOf (by omega)]; rfl
theorem own_dcc (n : Nat) : (own_dc n).toUInt32.toUInt16.toUInt32.toInt32 = own_dc n := by
  have q := c_i2c (own_dc n)
  have r := own_dcB n
  have e0 : (0 : Int32).toInt = 0 := rfl
  have e2 : (255 : Int32).toInt = 255 := rfl
  unfold B8 at r
  rw [Int32.lt_iff_toInt_lt, Int32.lt_iff_toInt_lt, e0, e2] at r
  apply Int32.toInt_inj.mp
  omega
theorem own_digs_get : ∀ (k n q : Nat), q < k → (own_digs k n).getD q 0 = own_dc (n / 10 ^ (k - 1 - q))
  | 0, _, _, h => nomatch h
  | k + 1, n, q, h => by
    rw [own_digs, List.getD_eq_getElem?_getD]
    by_cases e : q < k
    · rw [List.getElem?_append_left (by rw [own_digs_len]; exact e), ← List.getD_eq_getElem?_getD, own_digs_get k (n / 10) q e, Nat.div_div_eq_div_mul, ← Nat.pow_succ', show k + 1 - 1 - q = k - 1 - q + 1 by omega]
    · have e2 : q = k := by omega
      subst e2
      rw [List.getElem?_append_right (by rw [own_digs_len]; exact Nat.le_refl _), own_digs_len]
      simp
theorem own_txlen (cs : List Int32) (x : Int32) : (cs ++ (95 : Int32) :: own_dec x).length = cs.length + 1 + own_sg x + own_dn (own_abs x) := by
  rw [List.length_append, List.length_cons, own_dec_len]; omega
theorem own_tx0 {cs : List Int32} {x : Int32} {i : Nat} (h : i < cs.length) : (cs ++ (95 : Int32) :: own_dec x).getD i 0 = cs.getD i 0 := by
  rw [List.getD_eq_getElem?_getD, List.getElem?_append_left h, ← List.getD_eq_getElem?_getD]
theorem own_tx1 {cs : List Int32} {x : Int32} : (cs ++ (95 : Int32) :: own_dec x).getD cs.length 0 = 95 := by
  rw [List.getD_eq_getElem?_getD, List.getElem?_append_right (Nat.le_refl _)]; simp
theorem own_tx2 {cs : List Int32} {x : Int32} (h : x < 0) : (cs ++ (95 : Int32) :: own_dec x).getD (cs.length + 1) 0 = 45 := by
  rw [List.getD_eq_getElem?_getD, List.getElem?_append_right (by omega), own_dec, if_pos h]; simp
theorem own_tx3 {cs : List Int32} {x : Int32} {q : Nat} (h : q < own_dn (own_abs x)) : (cs ++ (95 : Int32) :: own_dec x).getD (cs.length + 1 + own_sg x + q) 0 = own_dc (own_abs x / 10 ^ (own_dn (own_abs x) - 1 - q)) := by
  rw [← own_digs_get _ _ _ h, List.getD_eq_getElem?_getD, List.getElem?_append_right (by omega), show cs.length + 1 + own_sg x + q - cs.length = (own_sg x + q) + 1 by omega, List.getElem?_cons_succ, own_dec, own_sg, List.getD_eq_getElem?_getD]
  split
  · rw [List.getElem?_append_right (by simp), show 1 + q - [(45 : Int32)].length = q by simp]
  · simp
theorem own_subN {a b : Nat} (h : b ≤ a) (h2 : a ≤ 4000) : Int32.ofNat a - Int32.ofNat b = Int32.ofNat (a - b) := by
  apply Int32.toInt_inj.mp
  have q := c_isub (Int32.ofNat a) (Int32.ofNat b)
  have r := rng32 (Int32.ofNat a - Int32.ofNat b)
  rw [Int32.toInt_ofNat_of_lt (by omega), Int32.toInt_ofNat_of_lt (by omega)] at q
  rw [Int32.toInt_ofNat_of_lt (by omega)]
  omega
theorem own_sub1 {a : Nat} (h : 1 ≤ a) (h2 : a ≤ 4000) : Int32.ofNat a - (1 : Int32) = Int32.ofNat (a - 1) := own_subN (b := 1) h h2
theorem own_add1 {a : Nat} (h2 : a ≤ 3000) : Int32.ofNat a + (1 : Int32) = Int32.ofNat (a + 1) := addOf (b := 1) (by omega)
def own_pin (n : Int32) (cs : List Int32) (c1 c2 c3 : Int32) : Prop := n = Int32.ofNat cs.length ∧ cs.length ≤ 3 ∧ (0 < cs.length → cs.getD 0 0 = c1) ∧ (1 < cs.length → cs.getD 1 0 = c2) ∧ (2 < cs.length → cs.getD 2 0 = c3)
theorem own_pin0 {n c1 c2 c3 : Int32} (h : n = (0 : Int32)) : own_pin n ([] : List Int32) c1 c2 c3 := ⟨h, by decide, by simp, by simp, by simp⟩
theorem own_pin1 {n c1 c2 c3 : Int32} (h : n = (1 : Int32)) : own_pin n [c1] c1 c2 c3 := ⟨h, by simp, by simp, by simp, by simp⟩
theorem own_pin2 {n c1 c2 c3 : Int32} (h : n = (2 : Int32)) : own_pin n [c1, c2] c1 c2 c3 := ⟨h, by simp, by simp, by simp, by simp⟩
theorem own_pin3 {x c1 c2 c3 : Int32} (h0 : ¬ (x &&& (3 : Int32)) = (0 : Int32)) (h1 : ¬ (x &&& (3 : Int32)) = (1 : Int32)) (h2 : ¬ (x &&& (3 : Int32)) = (2 : Int32)) : own_pin (x &&& (3 : Int32)) [c1, c2, c3] c1 c2 c3 := by
  refine ⟨?_, by simp, by simp, by simp, by simp⟩
  have h := c_mask x 3 2 (by decide) (by decide)
  have e0 : (0 : Int32).toInt = 0 := rfl
  have e1 : (1 : Int32).toInt = 1 := rfl
  have e2 : (2 : Int32).toInt = 2 := rfl
  have e3 : (Int32.ofNat [c1, c2, c3].length).toInt = 3 := rfl
  simp only [← Int32.toInt_inj, e0, e1, e2, e3] at *
  omega
theorem d440 : decode y0_ 0 = .ok (.lload_n 0, 1) := by decide +kernel
theorem d441 : decode y0_ 1 = .ok (.lconst 0, 1) := by decide +kernel
theorem d442 : decode y0_ 2 = .ok (.lcmp, 1) := by decide +kernel
theorem d443 : decode y0_ 3 = .ok (.ifCond .ge 8, 3) := by decide +kernel
theorem d444 : decode y0_ 6 = .ok (.lload_n 0, 1) := by decide +kernel
theorem d445 : decode y0_ 7 = .ok (.lneg, 1) := by decide +kernel
theorem d446 : decode y0_ 8 = .ok (.goto 4, 3) := by decide +kernel
theorem d447 : decode y0_ 12 = .ok (.lreturn, 1) := by decide +kernel
theorem d448 : decode y0_ 11 = .ok (.lload_n 0, 1) := by decide +kernel
abbrev mn449 : MethodName := ⟨"java/lang/Math", "abs", "(J)J"⟩
theorem own_pn450 : plainFor mn449 = true := by first | decide +kernel | (simp [plainFor, plainName, overriddenIn]; done)
theorem own_absJ (l : Launch) (Z : State) (a0 : Array Value) (cx : Ctx Z a0) (ws : List Jvm.Cond) (x : Int32) (vm0 : Vm) (h0 : Heap) (X00 : Ext Z.heap h0)  :
    Met l mn449 y0_ 2 (some .long) ws ({ frames := 0, cells := 0, slots := 0, locals := 0 } : Room) Z consts_1 vm0 h0 #[(.long (x.toInt64))] (fun rv vm h => rv = some (.long (Int64.ofNat (own_abs x))) ∧ h0 = h) := by
  obtain ⟨hw, hEL, ⟨zc, Scs, hzc⟩, ⟨fm, Sfm, hfm⟩, hI0⟩ := id cx
  have hSA := own_SA hw
  refine Met.of_walk (a0 := a0) #[.val (.long (x.toInt64)), .second] own_pn450 X00 hEL (fun m => by first | (simp [entryFrame, mkF, argsToLocals, Value.category]; done) | rfl) ?_
  intro p e s m below meth c vm hx hby hml hret hnm hC0 hW0
  refine gs (mkF m 1 #[.val (.long (x.toInt64)), .second] [(.long (x.toInt64))]) (fun _ _ A kq => XS.lloadN A hx rfl (hb hby d440) rfl  kq) ?_
  refine gs (mkF m 2 #[.val (.long (x.toInt64)), .second] [(.long (0 : Int64)), (.long (x.toInt64))]) (fun _ _ A kq => XS.lconst A hx rfl (hb hby d441) kq) ?_
  refine gs (mkF m 3 #[.val (.long (x.toInt64)), .second] [(.int (lcmpW (x.toInt64) (0 : Int64)))]) (fun _ _ A kq => XS.lcmp A hx rfl (hb hby d442) rfl kq) ?_
  by_cases g : (lcmpW (x.toInt64) (0 : Int64)) < (0 : Int32)
  · refine uN 6 hx hby d443 rfl ((if0 _ _).trans (tlt g).2.1) ?_
    refine gs (mkF m 7 #[.val (.long (x.toInt64)), .second] [(.long (x.toInt64))]) (fun _ _ A kq => XS.lloadN A hx rfl (hb hby d444) rfl  kq) ?_
    refine gs (mkF m 8 #[.val (.long (x.toInt64)), .second] [(.long (-(x.toInt64)))]) (fun _ _ A kq => XS.lneg A hx rfl (hb hby d445) rfl kq) ?_
    refine uG 12 hx hby d446 (by decide) (by decide) ?_
    exact gretJ hx hret (hb hby d447) (by decide) (by decide) (fun vq Cq => ⟨(congrArg (fun z => some (Value.long z)) (own_jabs1 g)), rfl⟩)
  · refine uY 11 hx hby d443 ((if0 _ _).trans (flt g).2.1) (by decide) (by decide) ?_
    refine gs (mkF m 12 #[.val (.long (x.toInt64)), .second] [(.long (x.toInt64))]) (fun _ _ A kq => XS.lloadN A hx rfl (hb hby d448) rfl  kq) ?_
    exact gretJ hx hret (hb hby d447) (by decide) (by decide) (fun vq Cq => ⟨(congrArg (fun z => some (Value.long z)) (own_jabs2 g)), rfl⟩)
theorem d451 : decode y29_ 0 = .ok (.lload_n 0, 1) := by decide +kernel
theorem d452 : decode y29_ 1 = .ok (.ldc2_w 7, 3) := by decide +kernel
theorem d453 : decode y29_ 4 = .ok (.lcmp, 1) := by decide +kernel
theorem d454 : decode y29_ 5 = .ok (.ifCond .ge 5, 3) := by decide +kernel
theorem d455 : decode y29_ 8 = .ok (.iconst 1, 1) := by decide +kernel
theorem d456 : decode y29_ 9 = .ok (.ireturn, 1) := by decide +kernel
theorem d457 : decode y29_ 10 = .ok (.lload_n 0, 1) := by decide +kernel
theorem d458 : decode y29_ 11 = .ok (.ldc2_w 9, 3) := by decide +kernel
theorem d459 : decode y29_ 14 = .ok (.lcmp, 1) := by decide +kernel
theorem d460 : decode y29_ 15 = .ok (.ifCond .ge 5, 3) := by decide +kernel
theorem d461 : decode y29_ 18 = .ok (.iconst 2, 1) := by decide +kernel
theorem d462 : decode y29_ 19 = .ok (.ireturn, 1) := by decide +kernel
theorem d463 : decode y29_ 20 = .ok (.lload_n 0, 1) := by decide +kernel
theorem d464 : decode y29_ 21 = .ok (.ldc2_w 11, 3) := by decide +kernel
theorem d465 : decode y29_ 24 = .ok (.lcmp, 1) := by decide +kernel
theorem d466 : decode y29_ 25 = .ok (.ifCond .ge 5, 3) := by decide +kernel
theorem d467 : decode y29_ 28 = .ok (.iconst 3, 1) := by decide +kernel
theorem d468 : decode y29_ 29 = .ok (.ireturn, 1) := by decide +kernel
theorem d469 : decode y29_ 30 = .ok (.lload_n 0, 1) := by decide +kernel
theorem d470 : decode y29_ 31 = .ok (.ldc2_w 13, 3) := by decide +kernel
theorem d471 : decode y29_ 34 = .ok (.lcmp, 1) := by decide +kernel
theorem d472 : decode y29_ 35 = .ok (.ifCond .ge 5, 3) := by decide +kernel
theorem d473 : decode y29_ 38 = .ok (.iconst 4, 1) := by decide +kernel
theorem d474 : decode y29_ 39 = .ok (.ireturn, 1) := by decide +kernel
theorem d475 : decode y29_ 40 = .ok (.lload_n 0, 1) := by decide +kernel
theorem d476 : decode y29_ 41 = .ok (.ldc2_w 15, 3) := by decide +kernel
theorem d477 : decode y29_ 44 = .ok (.lcmp, 1) := by decide +kernel
theorem d478 : decode y29_ 45 = .ok (.ifCond .ge 5, 3) := by decide +kernel
theorem d479 : decode y29_ 48 = .ok (.iconst 5, 1) := by decide +kernel
theorem d480 : decode y29_ 49 = .ok (.ireturn, 1) := by decide +kernel
theorem d481 : decode y29_ 50 = .ok (.lload_n 0, 1) := by decide +kernel
theorem d482 : decode y29_ 51 = .ok (.ldc2_w 17, 3) := by decide +kernel
theorem d483 : decode y29_ 54 = .ok (.lcmp, 1) := by decide +kernel
theorem d484 : decode y29_ 55 = .ok (.ifCond .ge 6, 3) := by decide +kernel
theorem d485 : decode y29_ 58 = .ok (.bipush 6, 2) := by decide +kernel
theorem d486 : decode y29_ 60 = .ok (.ireturn, 1) := by decide +kernel
theorem d487 : decode y29_ 61 = .ok (.lload_n 0, 1) := by decide +kernel
theorem d488 : decode y29_ 62 = .ok (.ldc2_w 19, 3) := by decide +kernel
theorem d489 : decode y29_ 65 = .ok (.lcmp, 1) := by decide +kernel
theorem d490 : decode y29_ 66 = .ok (.ifCond .ge 6, 3) := by decide +kernel
theorem d491 : decode y29_ 69 = .ok (.bipush 7, 2) := by decide +kernel
theorem d492 : decode y29_ 71 = .ok (.ireturn, 1) := by decide +kernel
theorem d493 : decode y29_ 72 = .ok (.lload_n 0, 1) := by decide +kernel
theorem d494 : decode y29_ 73 = .ok (.ldc2_w 21, 3) := by decide +kernel
theorem d495 : decode y29_ 76 = .ok (.lcmp, 1) := by decide +kernel
theorem d496 : decode y29_ 77 = .ok (.ifCond .ge 6, 3) := by decide +kernel
theorem d497 : decode y29_ 80 = .ok (.bipush 8, 2) := by decide +kernel
theorem d498 : decode y29_ 82 = .ok (.ireturn, 1) := by decide +kernel
theorem d499 : decode y29_ 83 = .ok (.lload_n 0, 1) := by decide +kernel
theorem d500 : decode y29_ 84 = .ok (.ldc2_w 23, 3) := by decide +kernel
theorem d501 : decode y29_ 87 = .ok (.lcmp, 1) := by decide +kernel
theorem d502 : decode y29_ 88 = .ok (.ifCond .ge 6, 3) := by decide +kernel
theorem d503 : decode y29_ 91 = .ok (.bipush 9, 2) := by decide +kernel
theorem d504 : decode y29_ 93 = .ok (.ireturn, 1) := by decide +kernel
theorem d505 : decode y29_ 94 = .ok (.bipush 10, 2) := by decide +kernel
theorem d506 : decode y29_ 96 = .ok (.ireturn, 1) := by decide +kernel
abbrev mn507 : MethodName := ⟨"com/example/tasks_to_members/taskstomembers/core/TaskToStringPinLaw", "digits", "(J)I"⟩
theorem own_pn508 : plainName "com/example/tasks_to_members/taskstomembers/core/TaskToStringPinLaw" = true := by first | (simp [plainName, overriddenIn]; done) | decide +kernel
theorem own_digitsJ (l : Launch) (Z : State) (a0 : Array Value) (cx : Ctx Z a0) (ws : List Jvm.Cond) (n : Nat) (vm0 : Vm) (h0 : Heap) (X00 : Ext Z.heap h0) (hle : (n ≤ 2 ^ 31)) :
    Met l mn507 y29_ 2 (some .int) ws ({ frames := 0, cells := 0, slots := 0, locals := 0 } : Room) Z consts_1 vm0 h0 #[(.long (Int64.ofNat n))] (fun rv vm h => rv = some (.int (Int32.ofNat (own_dn n))) ∧ h0 = h) := by
  obtain ⟨hw, hEL, ⟨zc, Scs, hzc⟩, ⟨fm, Sfm, hfm⟩, hI0⟩ := id cx
  have hSA := own_SA hw
  refine Met.of_walk (a0 := a0) #[.val (.long (Int64.ofNat n)), .second] (plainFor_of_name own_pn508) X00 hEL (fun m => by first | (simp [entryFrame, mkF, argsToLocals, Value.category]; done) | rfl) ?_
  intro p e s m below meth c vm hx hby hml hret hnm hC0 hW0
  refine gs (mkF m 1 #[.val (.long (Int64.ofNat n)), .second] [(.long (Int64.ofNat n))]) (fun _ _ A kq => XS.lloadN A hx rfl (hb hby d451) rfl  kq) ?_
  refine gldcJ hx (ow hw 181 rfl) 4 (hb hby d452) rfl ?_
  refine gs (mkF m 5 #[.val (.long (Int64.ofNat n)), .second] [(.int (lcmpW (Int64.ofNat n) (10 : Int64)))]) (fun _ _ A kq => XS.lcmp A hx rfl (hb hby d453) rfl kq) ?_
  by_cases g : (lcmpW (Int64.ofNat n) (10 : Int64)) < (0 : Int32)
  · refine uN 8 hx hby d454 rfl ((if0 _ _).trans (tlt g).2.1) ?_
    have m1 := (own_lcj hle 10 (by decide) (10) (by decide)).mp g
    refine uKc 9 (1 : Int32) hx hby d455 rfl rfl ?_
    exact gretI hx hret (hb hby d456) (by decide) (by decide) (fun vq Cq => ⟨(congrArg (fun z => some (Value.int z)) (congrArg Int32.ofNat (Eq.symm (Nat.le_antisymm (own_du1 (by omega)) (own_dn_pos _).1)))), rfl⟩)
  · refine uY 10 hx hby d454 ((if0 _ _).trans (flt g).2.1) (by decide) (by decide) ?_
    have m1 : ¬ n < 10 := fun q => g ((own_lcj hle 10 (by decide) (10) (by decide)).mpr q)
    refine gs (mkF m 11 #[.val (.long (Int64.ofNat n)), .second] [(.long (Int64.ofNat n))]) (fun _ _ A kq => XS.lloadN A hx rfl (hb hby d457) rfl  kq) ?_
    refine gldcJ hx (ow hw 225 rfl) 14 (hb hby d458) rfl ?_
    refine gs (mkF m 15 #[.val (.long (Int64.ofNat n)), .second] [(.int (lcmpW (Int64.ofNat n) (100 : Int64)))]) (fun _ _ A kq => XS.lcmp A hx rfl (hb hby d459) rfl kq) ?_
    by_cases g : (lcmpW (Int64.ofNat n) (100 : Int64)) < (0 : Int32)
    · refine uN 18 hx hby d460 rfl ((if0 _ _).trans (tlt g).2.1) ?_
      have m2 := (own_lcj hle 100 (by decide) (100) (by decide)).mp g
      refine uKc 19 (2 : Int32) hx hby d461 rfl rfl ?_
      exact gretI hx hret (hb hby d462) (by decide) (by decide) (fun vq Cq => ⟨(congrArg (fun z => some (Value.int z)) (congrArg Int32.ofNat (Eq.symm (Nat.le_antisymm (own_du2 (by omega)) (own_dg2 (by omega)))))), rfl⟩)
    · refine uY 20 hx hby d460 ((if0 _ _).trans (flt g).2.1) (by decide) (by decide) ?_
      have m2 : ¬ n < 100 := fun q => g ((own_lcj hle 100 (by decide) (100) (by decide)).mpr q)
      refine gs (mkF m 21 #[.val (.long (Int64.ofNat n)), .second] [(.long (Int64.ofNat n))]) (fun _ _ A kq => XS.lloadN A hx rfl (hb hby d463) rfl  kq) ?_
      refine gldcJ hx (ow hw 226 rfl) 24 (hb hby d464) rfl ?_
      refine gs (mkF m 25 #[.val (.long (Int64.ofNat n)), .second] [(.int (lcmpW (Int64.ofNat n) (1000 : Int64)))]) (fun _ _ A kq => XS.lcmp A hx rfl (hb hby d465) rfl kq) ?_
      by_cases g : (lcmpW (Int64.ofNat n) (1000 : Int64)) < (0 : Int32)
      · refine uN 28 hx hby d466 rfl ((if0 _ _).trans (tlt g).2.1) ?_
        have m3 := (own_lcj hle 1000 (by decide) (1000) (by decide)).mp g
        refine uKc 29 (3 : Int32) hx hby d467 rfl rfl ?_
        exact gretI hx hret (hb hby d468) (by decide) (by decide) (fun vq Cq => ⟨(congrArg (fun z => some (Value.int z)) (congrArg Int32.ofNat (Eq.symm (Nat.le_antisymm (own_du3 (by omega)) (own_dg3 (by omega)))))), rfl⟩)
      · refine uY 30 hx hby d466 ((if0 _ _).trans (flt g).2.1) (by decide) (by decide) ?_
        have m3 : ¬ n < 1000 := fun q => g ((own_lcj hle 1000 (by decide) (1000) (by decide)).mpr q)
        refine gs (mkF m 31 #[.val (.long (Int64.ofNat n)), .second] [(.long (Int64.ofNat n))]) (fun _ _ A kq => XS.lloadN A hx rfl (hb hby d469) rfl  kq) ?_
        refine gldcJ hx (ow hw 227 rfl) 34 (hb hby d470) rfl ?_
        refine gs (mkF m 35 #[.val (.long (Int64.ofNat n)), .second] [(.int (lcmpW (Int64.ofNat n) (10000 : Int64)))]) (fun _ _ A kq => XS.lcmp A hx rfl (hb hby d471) rfl kq) ?_
        by_cases g : (lcmpW (Int64.ofNat n) (10000 : Int64)) < (0 : Int32)
        · refine uN 38 hx hby d472 rfl ((if0 _ _).trans (tlt g).2.1) ?_
          have m4 := (own_lcj hle 10000 (by decide) (10000) (by decide)).mp g
          refine uKc 39 (4 : Int32) hx hby d473 rfl rfl ?_
          exact gretI hx hret (hb hby d474) (by decide) (by decide) (fun vq Cq => ⟨(congrArg (fun z => some (Value.int z)) (congrArg Int32.ofNat (Eq.symm (Nat.le_antisymm (own_du4 (by omega)) (own_dg4 (by omega)))))), rfl⟩)
        · refine uY 40 hx hby d472 ((if0 _ _).trans (flt g).2.1) (by decide) (by decide) ?_
          have m4 : ¬ n < 10000 := fun q => g ((own_lcj hle 10000 (by decide) (10000) (by decide)).mpr q)
          refine gs (mkF m 41 #[.val (.long (Int64.ofNat n)), .second] [(.long (Int64.ofNat n))]) (fun _ _ A kq => XS.lloadN A hx rfl (hb hby d475) rfl  kq) ?_
          refine gldcJ hx (ow hw 228 rfl) 44 (hb hby d476) rfl ?_
          refine gs (mkF m 45 #[.val (.long (Int64.ofNat n)), .second] [(.int (lcmpW (Int64.ofNat n) (100000 : Int64)))]) (fun _ _ A kq => XS.lcmp A hx rfl (hb hby d477) rfl kq) ?_
          by_cases g : (lcmpW (Int64.ofNat n) (100000 : Int64)) < (0 : Int32)
          · refine uN 48 hx hby d478 rfl ((if0 _ _).trans (tlt g).2.1) ?_
            have m5 := (own_lcj hle 100000 (by decide) (100000) (by decide)).mp g
            refine uKc 49 (5 : Int32) hx hby d479 rfl rfl ?_
            exact gretI hx hret (hb hby d480) (by decide) (by decide) (fun vq Cq => ⟨(congrArg (fun z => some (Value.int z)) (congrArg Int32.ofNat (Eq.symm (Nat.le_antisymm (own_du5 (by omega)) (own_dg5 (by omega)))))), rfl⟩)
          · refine uY 50 hx hby d478 ((if0 _ _).trans (flt g).2.1) (by decide) (by decide) ?_
            have m5 : ¬ n < 100000 := fun q => g ((own_lcj hle 100000 (by decide) (100000) (by decide)).mpr q)
            refine gs (mkF m 51 #[.val (.long (Int64.ofNat n)), .second] [(.long (Int64.ofNat n))]) (fun _ _ A kq => XS.lloadN A hx rfl (hb hby d481) rfl  kq) ?_
            refine gldcJ hx (ow hw 229 rfl) 54 (hb hby d482) rfl ?_
            refine gs (mkF m 55 #[.val (.long (Int64.ofNat n)), .second] [(.int (lcmpW (Int64.ofNat n) (1000000 : Int64)))]) (fun _ _ A kq => XS.lcmp A hx rfl (hb hby d483) rfl kq) ?_
            by_cases g : (lcmpW (Int64.ofNat n) (1000000 : Int64)) < (0 : Int32)
            · refine uN 58 hx hby d484 rfl ((if0 _ _).trans (tlt g).2.1) ?_
              have m6 := (own_lcj hle 1000000 (by decide) (1000000) (by decide)).mp g
              refine uKb 60 (6 : Int32) hx hby d485 rfl rfl ?_
              exact gretI hx hret (hb hby d486) (by decide) (by decide) (fun vq Cq => ⟨(congrArg (fun z => some (Value.int z)) (congrArg Int32.ofNat (Eq.symm (Nat.le_antisymm (own_du6 (by omega)) (own_dg6 (by omega)))))), rfl⟩)
            · refine uY 61 hx hby d484 ((if0 _ _).trans (flt g).2.1) (by decide) (by decide) ?_
              have m6 : ¬ n < 1000000 := fun q => g ((own_lcj hle 1000000 (by decide) (1000000) (by decide)).mpr q)
              refine gs (mkF m 62 #[.val (.long (Int64.ofNat n)), .second] [(.long (Int64.ofNat n))]) (fun _ _ A kq => XS.lloadN A hx rfl (hb hby d487) rfl  kq) ?_
              refine gldcJ hx (ow hw 230 rfl) 65 (hb hby d488) rfl ?_
              refine gs (mkF m 66 #[.val (.long (Int64.ofNat n)), .second] [(.int (lcmpW (Int64.ofNat n) (10000000 : Int64)))]) (fun _ _ A kq => XS.lcmp A hx rfl (hb hby d489) rfl kq) ?_
              by_cases g : (lcmpW (Int64.ofNat n) (10000000 : Int64)) < (0 : Int32)
              · refine uN 69 hx hby d490 rfl ((if0 _ _).trans (tlt g).2.1) ?_
                have m7 := (own_lcj hle 10000000 (by decide) (10000000) (by decide)).mp g
                refine uKb 71 (7 : Int32) hx hby d491 rfl rfl ?_
                exact gretI hx hret (hb hby d492) (by decide) (by decide) (fun vq Cq => ⟨(congrArg (fun z => some (Value.int z)) (congrArg Int32.ofNat (Eq.symm (Nat.le_antisymm (own_du7 (by omega)) (own_dg7 (by omega)))))), rfl⟩)
              · refine uY 72 hx hby d490 ((if0 _ _).trans (flt g).2.1) (by decide) (by decide) ?_
                have m7 : ¬ n < 10000000 := fun q => g ((own_lcj hle 10000000 (by decide) (10000000) (by decide)).mpr q)
                refine gs (mkF m 73 #[.val (.long (Int64.ofNat n)), .second] [(.long (Int64.ofNat n))]) (fun _ _ A kq => XS.lloadN A hx rfl (hb hby d493) rfl  kq) ?_
                refine gldcJ hx (ow hw 231 rfl) 76 (hb hby d494) rfl ?_
                refine gs (mkF m 77 #[.val (.long (Int64.ofNat n)), .second] [(.int (lcmpW (Int64.ofNat n) (100000000 : Int64)))]) (fun _ _ A kq => XS.lcmp A hx rfl (hb hby d495) rfl kq) ?_
                by_cases g : (lcmpW (Int64.ofNat n) (100000000 : Int64)) < (0 : Int32)
                · refine uN 80 hx hby d496 rfl ((if0 _ _).trans (tlt g).2.1) ?_
                  have m8 := (own_lcj hle 100000000 (by decide) (100000000) (by decide)).mp g
                  refine uKb 82 (8 : Int32) hx hby d497 rfl rfl ?_
                  exact gretI hx hret (hb hby d498) (by decide) (by decide) (fun vq Cq => ⟨(congrArg (fun z => some (Value.int z)) (congrArg Int32.ofNat (Eq.symm (Nat.le_antisymm (own_du8 (by omega)) (own_dg8 (by omega)))))), rfl⟩)
                · refine uY 83 hx hby d496 ((if0 _ _).trans (flt g).2.1) (by decide) (by decide) ?_
                  have m8 : ¬ n < 100000000 := fun q => g ((own_lcj hle 100000000 (by decide) (100000000) (by decide)).mpr q)
                  refine gs (mkF m 84 #[.val (.long (Int64.ofNat n)), .second] [(.long (Int64.ofNat n))]) (fun _ _ A kq => XS.lloadN A hx rfl (hb hby d499) rfl  kq) ?_
                  refine gldcJ hx (ow hw 232 rfl) 87 (hb hby d500) rfl ?_
                  refine gs (mkF m 88 #[.val (.long (Int64.ofNat n)), .second] [(.int (lcmpW (Int64.ofNat n) (1000000000 : Int64)))]) (fun _ _ A kq => XS.lcmp A hx rfl (hb hby d501) rfl kq) ?_
                  by_cases g : (lcmpW (Int64.ofNat n) (1000000000 : Int64)) < (0 : Int32)
                  · refine uN 91 hx hby d502 rfl ((if0 _ _).trans (tlt g).2.1) ?_
                    have m9 := (own_lcj hle 1000000000 (by decide) (1000000000) (by decide)).mp g
                    refine uKb 93 (9 : Int32) hx hby d503 rfl rfl ?_
                    exact gretI hx hret (hb hby d504) (by decide) (by decide) (fun vq Cq => ⟨(congrArg (fun z => some (Value.int z)) (congrArg Int32.ofNat (Eq.symm (Nat.le_antisymm (own_du9 (by omega)) (own_dg9 (by omega)))))), rfl⟩)
                  · refine uY 94 hx hby d502 ((if0 _ _).trans (flt g).2.1) (by decide) (by decide) ?_
                    have m9 : ¬ n < 1000000000 := fun q => g ((own_lcj hle 1000000000 (by decide) (1000000000) (by decide)).mpr q)
                    refine uKb 96 (10 : Int32) hx hby d505 rfl rfl ?_
                    exact gretI hx hret (hb hby d506) (by decide) (by decide) (fun vq Cq => ⟨(congrArg (fun z => some (Value.int z)) (congrArg Int32.ofNat (Eq.symm (Nat.le_antisymm (own_dn_pos _).2 (own_dg10 (by omega)))))), rfl⟩)
theorem own_eq0 {e : Nat} (he : e ≤ 9) : ¬ (0 : Int32) < Int32.ofNat e ↔ e = 0 := by rw [show (0 : Int32) = Int32.ofNat 0 from rfl, ltOf (by omega) (by omega)]; omega
theorem d509 : decode y28_ 0 = .ok (.iload_n 0, 1) := by decide +kernel
theorem d510 : decode y28_ 1 = .ok (.ifCond .gt 5, 3) := by decide +kernel
theorem d511 : decode y28_ 6 = .ok (.iload_n 0, 1) := by decide +kernel
theorem d512 : decode y28_ 7 = .ok (.iconst 1, 1) := by decide +kernel
theorem d513 : decode y28_ 8 = .ok (.if_icmp .ne 7, 3) := by decide +kernel
theorem d514 : decode y28_ 11 = .ok (.ldc2_w 7, 3) := by decide +kernel
theorem d515 : decode y28_ 14 = .ok (.lreturn, 1) := by decide +kernel
theorem d516 : decode y28_ 15 = .ok (.iload_n 0, 1) := by decide +kernel
theorem d517 : decode y28_ 16 = .ok (.iconst 2, 1) := by decide +kernel
theorem d518 : decode y28_ 17 = .ok (.if_icmp .ne 7, 3) := by decide +kernel
theorem d519 : decode y28_ 20 = .ok (.ldc2_w 9, 3) := by decide +kernel
theorem d520 : decode y28_ 23 = .ok (.lreturn, 1) := by decide +kernel
theorem d521 : decode y28_ 24 = .ok (.iload_n 0, 1) := by decide +kernel
theorem d522 : decode y28_ 25 = .ok (.iconst 3, 1) := by decide +kernel
theorem d523 : decode y28_ 26 = .ok (.if_icmp .ne 7, 3) := by decide +kernel
theorem d524 : decode y28_ 29 = .ok (.ldc2_w 11, 3) := by decide +kernel
theorem d525 : decode y28_ 32 = .ok (.lreturn, 1) := by decide +kernel
theorem d526 : decode y28_ 33 = .ok (.iload_n 0, 1) := by decide +kernel
theorem d527 : decode y28_ 34 = .ok (.iconst 4, 1) := by decide +kernel
theorem d528 : decode y28_ 35 = .ok (.if_icmp .ne 7, 3) := by decide +kernel
theorem d529 : decode y28_ 38 = .ok (.ldc2_w 13, 3) := by decide +kernel
theorem d530 : decode y28_ 41 = .ok (.lreturn, 1) := by decide +kernel
theorem d531 : decode y28_ 42 = .ok (.iload_n 0, 1) := by decide +kernel
theorem d532 : decode y28_ 43 = .ok (.iconst 5, 1) := by decide +kernel
theorem d533 : decode y28_ 44 = .ok (.if_icmp .ne 7, 3) := by decide +kernel
theorem d534 : decode y28_ 47 = .ok (.ldc2_w 15, 3) := by decide +kernel
theorem d535 : decode y28_ 50 = .ok (.lreturn, 1) := by decide +kernel
theorem d536 : decode y28_ 51 = .ok (.iload_n 0, 1) := by decide +kernel
theorem d537 : decode y28_ 52 = .ok (.bipush 6, 2) := by decide +kernel
theorem d538 : decode y28_ 54 = .ok (.if_icmp .ne 7, 3) := by decide +kernel
theorem d539 : decode y28_ 57 = .ok (.ldc2_w 17, 3) := by decide +kernel
theorem d540 : decode y28_ 60 = .ok (.lreturn, 1) := by decide +kernel
theorem d541 : decode y28_ 61 = .ok (.iload_n 0, 1) := by decide +kernel
theorem d542 : decode y28_ 62 = .ok (.bipush 7, 2) := by decide +kernel
theorem d543 : decode y28_ 64 = .ok (.if_icmp .ne 7, 3) := by decide +kernel
theorem d544 : decode y28_ 67 = .ok (.ldc2_w 19, 3) := by decide +kernel
theorem d545 : decode y28_ 70 = .ok (.lreturn, 1) := by decide +kernel
theorem d546 : decode y28_ 71 = .ok (.iload_n 0, 1) := by decide +kernel
theorem d547 : decode y28_ 72 = .ok (.bipush 8, 2) := by decide +kernel
theorem d548 : decode y28_ 74 = .ok (.if_icmp .ne 7, 3) := by decide +kernel
theorem d549 : decode y28_ 77 = .ok (.ldc2_w 21, 3) := by decide +kernel
theorem d550 : decode y28_ 80 = .ok (.lreturn, 1) := by decide +kernel
theorem d551 : decode y28_ 81 = .ok (.ldc2_w 23, 3) := by decide +kernel
theorem d552 : decode y28_ 84 = .ok (.lreturn, 1) := by decide +kernel
theorem d553 : decode y28_ 4 = .ok (.lconst 1, 1) := by decide +kernel
theorem d554 : decode y28_ 5 = .ok (.lreturn, 1) := by decide +kernel
abbrev mn555 : MethodName := ⟨"com/example/tasks_to_members/taskstomembers/core/TaskToStringPinLaw", "pow10", "(I)J"⟩
theorem own_pow10 (l : Launch) (Z : State) (a0 : Array Value) (cx : Ctx Z a0) (ws : List Jvm.Cond) (u : Nat) (vm0 : Vm) (h0 : Heap) (X00 : Ext Z.heap h0) (he : (u ≤ 9)) :
    Met l mn555 y28_ 1 (some .long) ws ({ frames := 0, cells := 0, slots := 0, locals := 0 } : Room) Z consts_1 vm0 h0 #[(.int (Int32.ofNat u))] (fun rv vm h => rv = some (.long (Int64.ofNat (10 ^ u))) ∧ h0 = h) := by
  obtain ⟨hw, hEL, ⟨zc, Scs, hzc⟩, ⟨fm, Sfm, hfm⟩, hI0⟩ := id cx
  have hSA := own_SA hw
  refine Met.of_walk (a0 := a0) #[vi (Int32.ofNat u)] (plainFor_of_name own_pn508) X00 hEL (fun m => by first | (simp [entryFrame, mkF, argsToLocals, Value.category]; done) | rfl) ?_
  intro p e s m below meth c vm hx hby hml hret hnm hC0 hW0
  refine uIN 1 hx hby d509 rfl rfl ?_
  by_cases g : (0 : Int32) < (Int32.ofNat u)
  · refine uY 6 hx hby d510 ((if0 _ _).trans (tlt g).2.2.1) (by decide) (by decide) ?_
    have m0 : ¬ u = 0 := fun q => absurd g ((own_eq0 he).mpr q)
    refine uIN 7 hx hby d511 rfl rfl ?_
    refine uKc 8 (1 : Int32) hx hby d512 rfl rfl ?_
    by_cases g : (Int32.ofNat u) = (1 : Int32)
    · refine uNc 11 hx hby d513 rfl (teq g).2 ?_
      have m1 := (eqOf (b := 1) (by omega) (by decide)).mp g
      refine gldcJ hx (ow hw 181 rfl) 14 (hb hby d514) rfl ?_
      exact gretJ hx hret (hb hby d515) (by decide) (by decide) (fun vq Cq => ⟨(congrArg (fun z => some (Value.long z)) (by rw [show u = 1 by omega]; rfl)), rfl⟩)
    · refine uYc 15 hx hby d513 (feq g).2 (by decide) (by decide) ?_
      have m1 : ¬ u = 1 := fun q => g (congrArg Int32.ofNat q)
      refine uIN 16 hx hby d516 rfl rfl ?_
      refine uKc 17 (2 : Int32) hx hby d517 rfl rfl ?_
      by_cases g : (Int32.ofNat u) = (2 : Int32)
      · refine uNc 20 hx hby d518 rfl (teq g).2 ?_
        have m2 := (eqOf (b := 2) (by omega) (by decide)).mp g
        refine gldcJ hx (ow hw 225 rfl) 23 (hb hby d519) rfl ?_
        exact gretJ hx hret (hb hby d520) (by decide) (by decide) (fun vq Cq => ⟨(congrArg (fun z => some (Value.long z)) (by rw [show u = 2 by omega]; rfl)), rfl⟩)
      · refine uYc 24 hx hby d518 (feq g).2 (by decide) (by decide) ?_
        have m2 : ¬ u = 2 := fun q => g (congrArg Int32.ofNat q)
        refine uIN 25 hx hby d521 rfl rfl ?_
        refine uKc 26 (3 : Int32) hx hby d522 rfl rfl ?_
        by_cases g : (Int32.ofNat u) = (3 : Int32)
        · refine uNc 29 hx hby d523 rfl (teq g).2 ?_
          have m3 := (eqOf (b := 3) (by omega) (by decide)).mp g
          refine gldcJ hx (ow hw 226 rfl) 32 (hb hby d524) rfl ?_
          exact gretJ hx hret (hb hby d525) (by decide) (by decide) (fun vq Cq => ⟨(congrArg (fun z => some (Value.long z)) (by rw [show u = 3 by omega]; rfl)), rfl⟩)
        · refine uYc 33 hx hby d523 (feq g).2 (by decide) (by decide) ?_
          have m3 : ¬ u = 3 := fun q => g (congrArg Int32.ofNat q)
          refine uIN 34 hx hby d526 rfl rfl ?_
          refine uKc 35 (4 : Int32) hx hby d527 rfl rfl ?_
          by_cases g : (Int32.ofNat u) = (4 : Int32)
          · refine uNc 38 hx hby d528 rfl (teq g).2 ?_
            have m4 := (eqOf (b := 4) (by omega) (by decide)).mp g
            refine gldcJ hx (ow hw 227 rfl) 41 (hb hby d529) rfl ?_
            exact gretJ hx hret (hb hby d530) (by decide) (by decide) (fun vq Cq => ⟨(congrArg (fun z => some (Value.long z)) (by rw [show u = 4 by omega]; rfl)), rfl⟩)
          · refine uYc 42 hx hby d528 (feq g).2 (by decide) (by decide) ?_
            have m4 : ¬ u = 4 := fun q => g (congrArg Int32.ofNat q)
            refine uIN 43 hx hby d531 rfl rfl ?_
            refine uKc 44 (5 : Int32) hx hby d532 rfl rfl ?_
            by_cases g : (Int32.ofNat u) = (5 : Int32)
            · refine uNc 47 hx hby d533 rfl (teq g).2 ?_
              have m5 := (eqOf (b := 5) (by omega) (by decide)).mp g
              refine gldcJ hx (ow hw 228 rfl) 50 (hb hby d534) rfl ?_
              exact gretJ hx hret (hb hby d535) (by decide) (by decide) (fun vq Cq => ⟨(congrArg (fun z => some (Value.long z)) (by rw [show u = 5 by omega]; rfl)), rfl⟩)
            · refine uYc 51 hx hby d533 (feq g).2 (by decide) (by decide) ?_
              have m5 : ¬ u = 5 := fun q => g (congrArg Int32.ofNat q)
              refine uIN 52 hx hby d536 rfl rfl ?_
              refine uKb 54 (6 : Int32) hx hby d537 rfl rfl ?_
              by_cases g : (Int32.ofNat u) = (6 : Int32)
              · refine uNc 57 hx hby d538 rfl (teq g).2 ?_
                have m6 := (eqOf (b := 6) (by omega) (by decide)).mp g
                refine gldcJ hx (ow hw 229 rfl) 60 (hb hby d539) rfl ?_
                exact gretJ hx hret (hb hby d540) (by decide) (by decide) (fun vq Cq => ⟨(congrArg (fun z => some (Value.long z)) (by rw [show u = 6 by omega]; rfl)), rfl⟩)
              · refine uYc 61 hx hby d538 (feq g).2 (by decide) (by decide) ?_
                have m6 : ¬ u = 6 := fun q => g (congrArg Int32.ofNat q)
                refine uIN 62 hx hby d541 rfl rfl ?_
                refine uKb 64 (7 : Int32) hx hby d542 rfl rfl ?_
                by_cases g : (Int32.ofNat u) = (7 : Int32)
                · refine uNc 67 hx hby d543 rfl (teq g).2 ?_
                  have m7 := (eqOf (b := 7) (by omega) (by decide)).mp g
                  refine gldcJ hx (ow hw 230 rfl) 70 (hb hby d544) rfl ?_
                  exact gretJ hx hret (hb hby d545) (by decide) (by decide) (fun vq Cq => ⟨(congrArg (fun z => some (Value.long z)) (by rw [show u = 7 by omega]; rfl)), rfl⟩)
                · refine uYc 71 hx hby d543 (feq g).2 (by decide) (by decide) ?_
                  have m7 : ¬ u = 7 := fun q => g (congrArg Int32.ofNat q)
                  refine uIN 72 hx hby d546 rfl rfl ?_
                  refine uKb 74 (8 : Int32) hx hby d547 rfl rfl ?_
                  by_cases g : (Int32.ofNat u) = (8 : Int32)
                  · refine uNc 77 hx hby d548 rfl (teq g).2 ?_
                    have m8 := (eqOf (b := 8) (by omega) (by decide)).mp g
                    refine gldcJ hx (ow hw 231 rfl) 80 (hb hby d549) rfl ?_
                    exact gretJ hx hret (hb hby d550) (by decide) (by decide) (fun vq Cq => ⟨(congrArg (fun z => some (Value.long z)) (by rw [show u = 8 by omega]; rfl)), rfl⟩)
                  · refine uYc 81 hx hby d548 (feq g).2 (by decide) (by decide) ?_
                    have m8 : ¬ u = 8 := fun q => g (congrArg Int32.ofNat q)
                    refine gldcJ hx (ow hw 232 rfl) 84 (hb hby d551) rfl ?_
                    exact gretJ hx hret (hb hby d552) (by decide) (by decide) (fun vq Cq => ⟨(congrArg (fun z => some (Value.long z)) (by rw [show u = 9 by omega]; rfl)), rfl⟩)
  · refine uN 4 hx hby d510 rfl ((if0 _ _).trans (flt g).2.2.1) ?_
    have m0 := (own_eq0 he).mp g
    refine gs (mkF m 5 #[vi (Int32.ofNat u)] [(.long (1 : Int64))]) (fun _ _ A kq => XS.lconst A hx rfl (hb hby d553) kq) ?_
    exact gretJ hx hret (hb hby d554) (by decide) (by decide) (fun vq Cq => ⟨(congrArg (fun z => some (Value.long z)) (by rw [show u = 0 by omega]; rfl)), rfl⟩)
theorem d556 : decode y30_ 0 = .ok (.iload_n 1, 1) := by decide +kernel
theorem d557 : decode y30_ 1 = .ok (.iload_n 2, 1) := by decide +kernel
theorem d558 : decode y30_ 2 = .ok (.if_icmp .lt 5, 3) := by decide +kernel
theorem d559 : decode y30_ 7 = .ok (.aload_n 0, 1) := by decide +kernel
theorem d560 : decode y30_ 8 = .ok (.iload_n 1, 1) := by decide +kernel
theorem d561 : decode y30_ 9 = .ok (.invokevirtual 25, 3) := by decide +kernel
theorem own_pd562 : parseMethodDescriptor "(I)C" = some ⟨[.int], some .char⟩ := by decide +kernel
abbrev mn563 : MethodName := ⟨"java/lang/String", "charAt", "(I)C"⟩
theorem d564 : decode y30_ 12 = .ok (.iload_n 3, 1) := by decide +kernel
theorem d565 : decode y30_ 13 = .ok (.if_icmp .ne 7, 3) := by decide +kernel
theorem d566 : decode y30_ 16 = .ok (.iconst 1, 1) := by decide +kernel
theorem d567 : decode y30_ 17 = .ok (.goto 4, 3) := by decide +kernel
theorem d568 : decode y30_ 21 = .ok (.ireturn, 1) := by decide +kernel
theorem d569 : decode y30_ 5 = .ok (.iconst 1, 1) := by decide +kernel
theorem d570 : decode y30_ 6 = .ok (.ireturn, 1) := by decide +kernel
abbrev mn571 : MethodName := ⟨"com/example/tasks_to_members/taskstomembers/core/TaskToStringPinLaw", "charOk", "(Ljava/lang/String;IIC)Z"⟩
theorem own_charOk (l : Launch) (Z : State) (a0 : Array Value) (cx : Ctx Z a0) (ws : List Jvm.Cond) (r : Addr) (t : Addr) (cs : List Int32) (x : Int32) (i : Nat) (ch : Int32) (vm0 : Vm) (h0 : Heap) (X00 : Ext Z.heap h0) (P0 : Str Z h0 r t (cs ++ (95 : Int32) :: own_dec x)) (hcs : (cs.length ≤ 3)) (hi : (i ≤ 2)) (hch : (i < cs.length → cs.getD i 0 = ch)) :
    Met l mn571 y30_ 4 (some .boolean) ws ({ frames := 4, cells := 0, slots := 0, locals := 53 } : Room) Z consts_1 vm0 h0 #[(.ref r), (.int (Int32.ofNat i)), (.int (Int32.ofNat cs.length)), (.int ch)] (fun rv vm h => rv = some (.int (1 : Int32)) ∧ h0 = h) := by
  obtain ⟨hw, hEL, ⟨zc, Scs, hzc⟩, ⟨fm, Sfm, hfm⟩, hI0⟩ := id cx
  have hSA := own_SA hw
  refine Met.of_walk (a0 := a0) #[vr r, vi (Int32.ofNat i), vi (Int32.ofNat cs.length), vi ch] (plainFor_of_name own_pn508) X00 hEL (fun m => by first | (simp [entryFrame, mkF, argsToLocals, Value.category]; done) | rfl) ?_
  intro p e s m below meth c vm hx hby hml hret hnm hC0 hW0
  have lt_r : h0.size > r := P0.1.lt
  have lt_t : h0.size > t := P0.tlt
  refine uIN 1 hx hby d556 rfl rfl ?_
  refine uIN 2 hx hby d557 rfl rfl ?_
  by_cases g : (Int32.ofNat i) < (Int32.ofNat cs.length)
  · refine uYc 7 hx hby d558 (tlt g).1 (by decide) (by decide) ?_
    have hq : i < cs.length := (ltOf (by omega) (by omega)).mp g
    refine uAN 8 hx hby d559 rfl rfl rfl ?_
    refine uIN 9 hx hby d560 rfl rfl ?_
    refine ginfo fun _ _ O1 => ?_
    refine gcallV (y := mn563) (z := mn563) hx (ow hw 186 rfl) (ow hw 187 rfl) (nfSel (ow hw 189 rfl)) (ow hw 189 rfl) (ow hw 188 rfl) (by decide) (fun hZ H hEL => own_payChN (W := 0) (own_wChN hw) (ow hw 1 rfl) Scs hzc Sfm hfm O1 (i := i) (y := ch) P0 (by rw [own_txlen]; omega) rfl ((own_tx0 hq).trans (hch hq)) (by decide) (by decide) hZ H hEL) 12 (argsL := [(.int (Int32.ofNat i))]) (rest := []) P0.1 (lenOf own_pd562 rfl) rfl rfl (Nat.le_of_eq rfl) (by rw [hml]; rfl) (hb hby d561) rfl (by decide) (by decide) ?_
    rintro _ vm1 h1 C1 ⟨rfl, rfl⟩
    have z1 := C1.2.1
    refine gat1 ?_
    refine uIN 13 hx hby d564 rfl rfl ?_
    refine uNc 16 hx hby d565 rfl (teq rfl).2 ?_
    refine uKc 17 (1 : Int32) hx hby d566 rfl rfl ?_
    refine uG 21 hx hby d567 (by decide) (by decide) ?_
    exact gretN (t := .boolean) hx hret (by simp) (hb hby d568) (by decide) (by decide) (fun vq Cq => ⟨rfl, rfl⟩)
  · refine uNc 5 hx hby d558 rfl (flt g).1 ?_
    skip
    refine uKc 6 (1 : Int32) hx hby d569 rfl rfl ?_
    exact gretN (t := .boolean) hx hret (by simp) (hb hby d570) (by decide) (by decide) (fun vq Cq => ⟨rfl, rfl⟩)
theorem d572 : decode y31_ 0 = .ok (.iload 5, 2) := by decide +kernel
theorem d573 : decode y31_ 2 = .ok (.iload 4, 2) := by decide +kernel
theorem d574 : decode y31_ 4 = .ok (.if_icmp .lt 5, 3) := by decide +kernel
theorem d575 : decode y31_ 9 = .ok (.lload_n 2, 1) := by decide +kernel
theorem d576 : decode y31_ 10 = .ok (.iload 4, 2) := by decide +kernel
theorem d577 : decode y31_ 12 = .ok (.iconst 1, 1) := by decide +kernel
theorem d578 : decode y31_ 13 = .ok (.isub, 1) := by decide +kernel
theorem d579 : decode y31_ 14 = .ok (.iload 5, 2) := by decide +kernel
theorem d580 : decode y31_ 16 = .ok (.isub, 1) := by decide +kernel
theorem d581 : decode y31_ 17 = .ok (.invokestatic 31, 3) := by decide +kernel
theorem own_pd582 : parseMethodDescriptor "(I)J" = some ⟨[.int], some .long⟩ := by decide +kernel
theorem d583 : decode y31_ 20 = .ok (.ldiv, 1) := by decide +kernel
theorem d584 : decode y31_ 21 = .ok (.ldc2_w 7, 3) := by decide +kernel
theorem d585 : decode y31_ 24 = .ok (.lrem, 1) := by decide +kernel
theorem d586 : decode y31_ 25 = .ok (.lstore 6, 2) := by decide +kernel
theorem d587 : decode y31_ 27 = .ok (.aload_n 0, 1) := by decide +kernel
theorem d588 : decode y31_ 28 = .ok (.iload_n 1, 1) := by decide +kernel
theorem d589 : decode y31_ 29 = .ok (.iload 5, 2) := by decide +kernel
theorem d590 : decode y31_ 31 = .ok (.iadd, 1) := by decide +kernel
theorem d591 : decode y31_ 32 = .ok (.invokevirtual 25, 3) := by decide +kernel
theorem d592 : decode y31_ 35 = .ok (.bipush 48, 2) := by decide +kernel
theorem d593 : decode y31_ 37 = .ok (.lload 6, 2) := by decide +kernel
theorem d594 : decode y31_ 39 = .ok (.l2i, 1) := by decide +kernel
theorem d595 : decode y31_ 40 = .ok (.iadd, 1) := by decide +kernel
theorem d596 : decode y31_ 41 = .ok (.i2c, 1) := by decide +kernel
theorem d597 : decode y31_ 42 = .ok (.if_icmp .ne 7, 3) := by decide +kernel
theorem d598 : decode y31_ 45 = .ok (.iconst 1, 1) := by decide +kernel
theorem d599 : decode y31_ 46 = .ok (.goto 4, 3) := by decide +kernel
theorem d600 : decode y31_ 50 = .ok (.ireturn, 1) := by decide +kernel
theorem d601 : decode y31_ 7 = .ok (.iconst 1, 1) := by decide +kernel
theorem d602 : decode y31_ 8 = .ok (.ireturn, 1) := by decide +kernel
abbrev mn603 : MethodName := ⟨"com/example/tasks_to_members/taskstomembers/core/TaskToStringPinLaw", "digitOk", "(Ljava/lang/String;IJII)Z"⟩
theorem own_digitOk (l : Launch) (Z : State) (a0 : Array Value) (cx : Ctx Z a0) (ws : List Jvm.Cond) (r : Addr) (t : Addr) (cs : List Int32) (x : Int32) (q : Nat) (vm0 : Vm) (h0 : Heap) (X00 : Ext Z.heap h0) (P0 : Str Z h0 r t (cs ++ (95 : Int32) :: own_dec x)) (hcs : (cs.length ≤ 3)) (hq9 : (q ≤ 9)) :
    Met l mn603 y31_ 8 (some .boolean) ws ({ frames := 4, cells := 0, slots := 0, locals := 53 } : Room) Z consts_1 vm0 h0 #[(.ref r), (.int (Int32.ofNat (cs.length + 1 + own_sg x))), (.long (Int64.ofNat (own_abs x))), (.int (Int32.ofNat (own_dn (own_abs x)))), (.int (Int32.ofNat q))] (fun rv vm h => rv = some (.int (1 : Int32)) ∧ h0 = h) := by
  obtain ⟨hw, hEL, ⟨zc, Scs, hzc⟩, ⟨fm, Sfm, hfm⟩, hI0⟩ := id cx
  have hSA := own_SA hw
  refine Met.of_walk (a0 := a0) #[vr r, vi (Int32.ofNat (cs.length + 1 + own_sg x)), .val (.long (Int64.ofNat (own_abs x))), .second, vi (Int32.ofNat (own_dn (own_abs x))), vi (Int32.ofNat q), un, un] (plainFor_of_name own_pn508) X00 hEL (fun m => by first | (simp [entryFrame, mkF, argsToLocals, Value.category]; done) | rfl) ?_
  intro p e s m below meth c vm hx hby hml hret hnm hC0 hW0
  have lt_r : h0.size > r := P0.1.lt
  have lt_t : h0.size > t := P0.tlt
  have hle := own_abs_le x
  have hdp := own_dn_pos (own_abs x)
  have hsg := own_sg_le x
  refine uI 2 hx hby d572 rfl rfl ?_
  refine uI 4 hx hby d573 rfl rfl ?_
  by_cases g : (Int32.ofNat q) < (Int32.ofNat (own_dn (own_abs x)))
  · refine uYc 9 hx hby d574 (tlt g).1 (by decide) (by decide) ?_
    have hq : q < own_dn (own_abs x) := (ltOf (by omega) (by omega)).mp g
    have hdl : (own_abs x / 10 ^ (own_dn (own_abs x) - 1 - q)) ≤ 2 ^ 31 := Nat.le_trans (Nat.div_le_self _ _) hle
    refine gs (mkF m 10 #[vr r, vi (Int32.ofNat (cs.length + 1 + own_sg x)), .val (.long (Int64.ofNat (own_abs x))), .second, vi (Int32.ofNat (own_dn (own_abs x))), vi (Int32.ofNat q), un, un] [(.long (Int64.ofNat (own_abs x)))]) (fun _ _ A kq => XS.lloadN A hx rfl (hb hby d575) rfl  kq) ?_
    refine uI 12 hx hby d576 rfl rfl ?_
    refine uKc 13 (1 : Int32) hx hby d577 rfl rfl ?_
    refine uisub 14 ((Int32.ofNat (own_dn (own_abs x))) - (1 : Int32)) hx hby d578 rfl rfl ?_
    refine gat (mkF m 14 #[vr r, vi (Int32.ofNat (cs.length + 1 + own_sg x)), .val (.long (Int64.ofNat (own_abs x))), .second, vi (Int32.ofNat (own_dn (own_abs x))), vi (Int32.ofNat q), un, un] [(.int (Int32.ofNat (own_dn (own_abs x) - 1))), (.long (Int64.ofNat (own_abs x)))]) (by rw [own_sub1 (by omega) (by omega)]) ?_
    refine uI 16 hx hby d579 rfl rfl ?_
    refine uisub 17 ((Int32.ofNat (own_dn (own_abs x) - 1)) - (Int32.ofNat q)) hx hby d580 rfl rfl ?_
    refine gat (mkF m 17 #[vr r, vi (Int32.ofNat (cs.length + 1 + own_sg x)), .val (.long (Int64.ofNat (own_abs x))), .second, vi (Int32.ofNat (own_dn (own_abs x))), vi (Int32.ofNat q), un, un] [(.int (Int32.ofNat (own_dn (own_abs x) - 1 - q))), (.long (Int64.ofNat (own_abs x)))]) (by rw [own_subN (by omega) (by omega)]) ?_
    refine ginfo fun _ _ O1 => ?_
    refine gcallS (y := mn555) hx (ow hw 211 rfl) (ow hw 212 rfl) (ow hw 179 rfl) (ow hw 213 rfl) (by decide) (fun hZ H hEL => Pay.of_met (W := 2) (own_pow10 l Z a0 cx [] ((own_dn (own_abs x) - 1 - q)) vm h0 O1 (by first | assumption | decide | omega)) (ow hw 213 rfl) (ow hw 179 rfl) (by decide) (by decide) hZ H hEL) 20 (argsL := [(.int (Int32.ofNat (own_dn (own_abs x) - 1 - q)))]) (rest := [(.long (Int64.ofNat (own_abs x)))]) (lenOf own_pd582 rfl) rfl rfl (Nat.le_of_eq rfl) (by rw [hml]; rfl) (hb hby d581) rfl (by decide) (by decide) ?_
    rintro _ vm1 h1 C1 ⟨rfl, rfl⟩
    have z1 := C1.2.1
    refine gat1 ?_
    refine gs (mkF m 21 #[vr r, vi (Int32.ofNat (cs.length + 1 + own_sg x)), .val (.long (Int64.ofNat (own_abs x))), .second, vi (Int32.ofNat (own_dn (own_abs x))), vi (Int32.ofNat q), un, un] [(.long ((Int64.ofNat (own_abs x)) / (Int64.ofNat (10 ^ (own_dn (own_abs x) - 1 - q)))))]) (fun _ _ A kq => XS.ldiv A hx rfl (hb hby d583) rfl (own_p10ne (by omega)) kq) ?_
    refine gat (mkF m 21 #[vr r, vi (Int32.ofNat (cs.length + 1 + own_sg x)), .val (.long (Int64.ofNat (own_abs x))), .second, vi (Int32.ofNat (own_dn (own_abs x))), vi (Int32.ofNat q), un, un] [(.long (Int64.ofNat (own_abs x / 10 ^ (own_dn (own_abs x) - 1 - q))))]) (by rw [own_jdiv hle (Nat.pow_pos (by decide)) (own_p10le (by omega))]) ?_
    refine gldcJ hx (ow hw 181 rfl) 24 (hb hby d584) rfl ?_
    refine gs (mkF m 25 #[vr r, vi (Int32.ofNat (cs.length + 1 + own_sg x)), .val (.long (Int64.ofNat (own_abs x))), .second, vi (Int32.ofNat (own_dn (own_abs x))), vi (Int32.ofNat q), un, un] [(.long ((Int64.ofNat (own_abs x / 10 ^ (own_dn (own_abs x) - 1 - q))) - ((Int64.ofNat (own_abs x / 10 ^ (own_dn (own_abs x) - 1 - q))) / (10 : Int64)) * (10 : Int64)))]) (fun _ _ A kq => XS.lrem A hx rfl (hb hby d585) rfl (by decide) kq) ?_
    refine gat (mkF m 25 #[vr r, vi (Int32.ofNat (cs.length + 1 + own_sg x)), .val (.long (Int64.ofNat (own_abs x))), .second, vi (Int32.ofNat (own_dn (own_abs x))), vi (Int32.ofNat q), un, un] [(.long (Int64.ofNat ((own_abs x / 10 ^ (own_dn (own_abs x) - 1 - q)) % 10)))]) (by rw [own_jrem hdl]) ?_
    refine gs (mkF m 27 #[vr r, vi (Int32.ofNat (cs.length + 1 + own_sg x)), .val (.long (Int64.ofNat (own_abs x))), .second, vi (Int32.ofNat (own_dn (own_abs x))), vi (Int32.ofNat q), .val (.long (Int64.ofNat ((own_abs x / 10 ^ (own_dn (own_abs x) - 1 - q)) % 10))), .second] []) (fun _ _ A kq => XS.lstore A hx rfl (hb hby d586) rfl (l' := #[vr r, vi (Int32.ofNat (cs.length + 1 + own_sg x)), .val (.long (Int64.ofNat (own_abs x))), .second, vi (Int32.ofNat (own_dn (own_abs x))), vi (Int32.ofNat q), .val (.long (Int64.ofNat ((own_abs x / 10 ^ (own_dn (own_abs x) - 1 - q)) % 10))), .second]) rfl kq) ?_
    refine uAN 28 hx hby d587 rfl rfl rfl ?_
    refine uIN 29 hx hby d588 rfl rfl ?_
    refine uI 31 hx hby d589 rfl rfl ?_
    refine uiadd 32 ((Int32.ofNat (cs.length + 1 + own_sg x)) + (Int32.ofNat q)) hx hby d590 rfl rfl ?_
    refine gat (mkF m 32 #[vr r, vi (Int32.ofNat (cs.length + 1 + own_sg x)), .val (.long (Int64.ofNat (own_abs x))), .second, vi (Int32.ofNat (own_dn (own_abs x))), vi (Int32.ofNat q), .val (.long (Int64.ofNat ((own_abs x / 10 ^ (own_dn (own_abs x) - 1 - q)) % 10))), .second] [(.int (Int32.ofNat (cs.length + 1 + own_sg x + q))), (.ref r)]) (by rw [addOf (by omega)]) ?_
    refine ginfo fun _ _ O3 => ?_
    refine gcallV (y := mn563) (z := mn563) hx (ow hw 186 rfl) (ow hw 187 rfl) (nfSel (ow hw 189 rfl)) (ow hw 189 rfl) (ow hw 188 rfl) (by decide) (fun hZ H hEL => own_payChN (W := 0) (own_wChN hw) (ow hw 1 rfl) Scs hzc Sfm hfm O3 (i := (cs.length + 1 + own_sg x + q)) (y := (own_dc (own_abs x / 10 ^ (own_dn (own_abs x) - 1 - q)))) P0 (by rw [own_txlen]; omega) rfl (own_tx3 hq) (by decide) (by decide) hZ H hEL) 35 (argsL := [(.int (Int32.ofNat (cs.length + 1 + own_sg x + q)))]) (rest := []) P0.1 (lenOf own_pd562 rfl) rfl rfl (Nat.le_of_eq rfl) (by rw [hml]; rfl) (hb hby d591) rfl (by decide) (by decide) ?_
    rintro _ vm3 h3 C3 ⟨rfl, rfl⟩
    have z3 := C3.2.1
    refine gat1 ?_
    refine uKb 37 (48 : Int32) hx hby d592 rfl rfl ?_
    refine gs (mkF m 39 #[vr r, vi (Int32.ofNat (cs.length + 1 + own_sg x)), .val (.long (Int64.ofNat (own_abs x))), .second, vi (Int32.ofNat (own_dn (own_abs x))), vi (Int32.ofNat q), .val (.long (Int64.ofNat ((own_abs x / 10 ^ (own_dn (own_abs x) - 1 - q)) % 10))), .second] [(.long (Int64.ofNat ((own_abs x / 10 ^ (own_dn (own_abs x) - 1 - q)) % 10))), (.int (48 : Int32)), (.int (own_dc (own_abs x / 10 ^ (own_dn (own_abs x) - 1 - q))))]) (fun _ _ A kq => XS.lload A hx rfl (hb hby d593) rfl  kq) ?_
    refine gs (mkF m 40 #[vr r, vi (Int32.ofNat (cs.length + 1 + own_sg x)), .val (.long (Int64.ofNat (own_abs x))), .second, vi (Int32.ofNat (own_dn (own_abs x))), vi (Int32.ofNat q), .val (.long (Int64.ofNat ((own_abs x / 10 ^ (own_dn (own_abs x) - 1 - q)) % 10))), .second] [(.int ((Int64.ofNat ((own_abs x / 10 ^ (own_dn (own_abs x) - 1 - q)) % 10)).toInt32)), (.int (48 : Int32)), (.int (own_dc (own_abs x / 10 ^ (own_dn (own_abs x) - 1 - q))))]) (fun _ _ A kq => XS.l2i A hx rfl (hb hby d594) rfl kq) ?_
    refine gat (mkF m 40 #[vr r, vi (Int32.ofNat (cs.length + 1 + own_sg x)), .val (.long (Int64.ofNat (own_abs x))), .second, vi (Int32.ofNat (own_dn (own_abs x))), vi (Int32.ofNat q), .val (.long (Int64.ofNat ((own_abs x / 10 ^ (own_dn (own_abs x) - 1 - q)) % 10))), .second] [(.int (Int32.ofNat ((own_abs x / 10 ^ (own_dn (own_abs x) - 1 - q)) % 10))), (.int (48 : Int32)), (.int (own_dc (own_abs x / 10 ^ (own_dn (own_abs x) - 1 - q))))]) (by rw [own_j2i (Nat.mod_lt _ (by decide))]) ?_
    refine uiadd 41 ((48 : Int32) + (Int32.ofNat ((own_abs x / 10 ^ (own_dn (own_abs x) - 1 - q)) % 10))) hx hby d595 rfl rfl ?_
    refine gat (mkF m 41 #[vr r, vi (Int32.ofNat (cs.length + 1 + own_sg x)), .val (.long (Int64.ofNat (own_abs x))), .second, vi (Int32.ofNat (own_dn (own_abs x))), vi (Int32.ofNat q), .val (.long (Int64.ofNat ((own_abs x / 10 ^ (own_dn (own_abs x) - 1 - q)) % 10))), .second] [(.int (own_dc (own_abs x / 10 ^ (own_dn (own_abs x) - 1 - q)))), (.int (own_dc (own_abs x / 10 ^ (own_dn (own_abs x) - 1 - q))))]) (by rw [own_48]) ?_
    refine gi2c hx (own_dcc _) 42 (hb hby d596) rfl ?_
    refine uNc 45 hx hby d597 rfl (teq rfl).2 ?_
    refine uKc 46 (1 : Int32) hx hby d598 rfl rfl ?_
    refine uG 50 hx hby d599 (by decide) (by decide) ?_
    exact gretN (t := .boolean) hx hret (by simp) (hb hby d600) (by decide) (by decide) (fun vq Cq => ⟨rfl, rfl⟩)
  · refine uNc 7 hx hby d574 rfl (flt g).1 ?_
    skip
    refine uKc 8 (1 : Int32) hx hby d601 rfl rfl ?_
    exact gretN (t := .boolean) hx hret (by simp) (hb hby d602) (by decide) (by decide) (fun vq Cq => ⟨rfl, rfl⟩)
theorem own_sgA {x : Int32} (h : x < (0 : Int32)) : (1 : Int32) = Int32.ofNat (own_sg x) := by rw [own_sg, if_pos h]; rfl
theorem own_sgB {x : Int32} (h : ¬ x < (0 : Int32)) : (0 : Int32) = Int32.ofNat (own_sg x) := by rw [own_sg, if_neg h]; rfl
theorem own_sgC {x : Int32} (h : ¬ Int32.ofNat (own_sg x) = (0 : Int32)) : (1 : Int32) = Int32.ofNat (own_sg x) := by rw [(own_sg1 h).1]; rfl
theorem own_sum {n g d : Nat} (h : n + 1 + g + d ≤ 3000) : Int32.ofNat (n + 1 + g + d) = ((Int32.ofNat n + (1 : Int32)) + Int32.ofNat g) + Int32.ofNat d := by rw [own_add1 (by omega), addOf (by omega), addOf (by omega)]
theorem own_pd604 : parseMethodDescriptor "([C)V" = some ⟨[(.array .char)], none⟩ := by decide +kernel
theorem own_pd605 : parseMethodDescriptor "(Ljava/lang/String;I)V" = some ⟨[(.object "java/lang/String"), .int], none⟩ := by decide +kernel
theorem own_pd606 : parseMethodDescriptor "(J)J" = some ⟨[.long], some .long⟩ := by decide +kernel
theorem own_pd607 : parseMethodDescriptor "(J)I" = some ⟨[.long], some .int⟩ := by decide +kernel
theorem own_pd608 : parseMethodDescriptor "(Ljava/lang/String;IIC)Z" = some ⟨[(.object "java/lang/String"), .int, .int, .char], some .boolean⟩ := by decide +kernel
theorem own_pd609 : parseMethodDescriptor "(Ljava/lang/String;IJII)Z" = some ⟨[(.object "java/lang/String"), .int, .long, .int, .int], some .boolean⟩ := by decide +kernel
theorem own_law (l : Launch) (Z : State) (a0 : Array Value) (cx : Ctx Z a0) (ws : List Jvm.Cond) (x0 : Int32) (x1 : Int32) (x2 : Int32) (x3 : Int32) (x4 : Int32) (vm0 : Vm) (h0 : Heap) (X00 : Ext Z.heap h0)  :
    Met l x code maxLocals ret ws room_1 Z consts_1 vm0 h0 #[(.int x0), (.int x1), (.int x2), (.int x3), (.int x4)] (fun rv vm h => rv = some (.int (1 : Int32)) ∧ Keep h0 h []) := by
  obtain ⟨hw, hEL, ⟨zc, Scs, hzc⟩, ⟨fm, Sfm, hfm⟩, hI0⟩ := id cx
  have hSA := own_SA hw
  refine Met.of_walk (a0 := a0) #[vi x0, vi x1, vi x2, vi x3, vi x4, un, un, un, un, un, un, un, un, un, un, un, un, un] (plainFor_of_name own_pn508) X00 hEL (fun m => by first | (simp [entryFrame, mkF, argsToLocals, Value.category, maxLocals]; done) | rfl) ?_
  intro p e s m below meth c vm hx hby hml hret hnm hC0 hW0
  refine uIN 1 hx hby at_0 rfl rfl ?_
  refine uKc 2 (3 : Int32) hx hby at_1 rfl rfl ?_
  refine uiand 3 (x0 &&& (3 : Int32)) hx hby at_2 rfl rfl ?_
  refine uSI 5 #[vi x0, vi x1, vi x2, vi x3, vi x4, vi (x0 &&& (3 : Int32)), un, un, un, un, un, un, un, un, un, un, un, un] hx hby at_3 rfl rfl ?_
  refine uIN 6 hx hby at_5 rfl rfl ?_
  refine uKs 9 (255 : Int32) hx hby at_6 rfl rfl ?_
  refine uiand 10 (x1 &&& (255 : Int32)) hx hby at_9 rfl rfl ?_
  refine gi2c hx (i2c_mask _) 11 (hb hby at_10) rfl ?_
  refine uSI 13 #[vi x0, vi x1, vi x2, vi x3, vi x4, vi (x0 &&& (3 : Int32)), vi (x1 &&& (255 : Int32)), un, un, un, un, un, un, un, un, un, un, un] hx hby at_11 rfl rfl ?_
  refine uIN 14 hx hby at_13 rfl rfl ?_
  refine uKs 17 (255 : Int32) hx hby at_14 rfl rfl ?_
  refine uiand 18 (x2 &&& (255 : Int32)) hx hby at_17 rfl rfl ?_
  refine gi2c hx (i2c_mask _) 19 (hb hby at_18) rfl ?_
  refine uSI 21 #[vi x0, vi x1, vi x2, vi x3, vi x4, vi (x0 &&& (3 : Int32)), vi (x1 &&& (255 : Int32)), vi (x2 &&& (255 : Int32)), un, un, un, un, un, un, un, un, un, un] hx hby at_19 rfl rfl ?_
  refine uIN 22 hx hby at_21 rfl rfl ?_
  refine uKs 25 (255 : Int32) hx hby at_22 rfl rfl ?_
  refine uiand 26 (x3 &&& (255 : Int32)) hx hby at_25 rfl rfl ?_
  refine gi2c hx (i2c_mask _) 27 (hb hby at_26) rfl ?_
  refine uSI 29 #[vi x0, vi x1, vi x2, vi x3, vi x4, vi (x0 &&& (3 : Int32)), vi (x1 &&& (255 : Int32)), vi (x2 &&& (255 : Int32)), vi (x3 &&& (255 : Int32)), un, un, un, un, un, un, un, un, un] hx hby at_27 rfl rfl ?_
  refine gjoin (fun vmJ hJ gJ => ∃ (sx1 : Addr), ∃ (tx1 : Addr), ∃ (cs1 : List Int32), gJ = (mkF m 133 #[vi x0, vi x1, vi x2, vi x3, vi x4, vi (x0 &&& (3 : Int32)), vi (x1 &&& (255 : Int32)), vi (x2 &&& (255 : Int32)), vi (x3 &&& (255 : Int32)), vr sx1, un, un, un, un, un, un, un, un] []) ∧ Keep h0 hJ [] ∧ CHr Z consts_1 vm h0 vmJ hJ ∧ Str Z hJ sx1 tx1 cs1 ∧ (own_pin (x0 &&& (3 : Int32)) cs1 (x1 &&& (255 : Int32)) (x2 &&& (255 : Int32)) (x3 &&& (255 : Int32)))) 6 12 ?_ ?_
  · rintro vm1 h1 _ ⟨sx1, tx1, cs1, rfl, K1, C1, q1_0, q1_1⟩
    have z1 := C1.2.1
    have lt_sx1 : h1.size > sx1 := q1_0.1.lt
    have lt_tx1 : h1.size > tx1 := q1_0.tlt
    obtain ⟨pn, hcs, pc1, pc2, pc3⟩ := q1_1
    refine gat (mkF m 133 #[vi x0, vi x1, vi x2, vi x3, vi x4, vi (Int32.ofNat cs1.length), vi (x1 &&& (255 : Int32)), vi (x2 &&& (255 : Int32)), vi (x3 &&& (255 : Int32)), vr sx1, un, un, un, un, un, un, un, un] []) (by rw [pn]) ?_
    have hle := own_abs_le x4
    have hdp := own_dn_pos (own_abs x4)
    have hsg := own_sg_le x4
    refine gnewO hx (ow hw 22 rfl) (ow hw 23 rfl) (ow hw 24 rfl) 136 (hb hby at_133) rfl (by decide) (by decide) ?_
    intro b36 h36 g36 E36 C36 A36 D36 n36 L36
    have z36 := C36.2.1
    have lt_b36 : h36.size > b36 := A36.lt
    have F36_subtopologyId : Fld Z h36 b36 c1_ c6_ c0_ .null := D36 (Or.inr (ow hw 36 rfl)) (ty := (.object c4_)) (by decide)
    have F36_partition : Fld Z h36 b36 c1_ "partition" "I" (.int (0 : Int32)) := D36 (Or.inr (ow hw 38 rfl)) (ty := .int) (by decide)
    refine uD 137 hx hby at_136 rfl rfl ?_
    refine uA 139 hx hby at_137 rfl rfl rfl ?_
    refine uI 141 hx hby at_139 rfl rfl ?_
    have f38 := (q1_0.ext E36)
    refine ginfo fun _ _ O37 => ?_
    refine gcallI (y := mn420) hx rfl (ow hw 25 rfl) (ow hw 26 rfl) (ow hw 27 rfl) (by decide) (fun hZ H hEL => Pay.of_met (W := 1) (own_tinit l Z a0 cx [] (b36) (sx1) (tx1) (cs1) (x4) (.null) ((0 : Int32)) vm1 h36 O37 A36 F36_subtopologyId F36_partition n36 L36 f38) (ow hw 27 rfl) (ow hw 24 rfl) (by decide) (by decide) hZ H hEL) (a := b36) 144 (argsL := [(.ref sx1), (.int x4)]) (rest := [(.ref b36)]) (lenOf own_pd605 rfl) rfl rfl (Nat.le_of_eq rfl) (by rw [hml]; rfl) (hb hby at_141) rfl (by decide) (by decide) ?_
    rintro _ vm37 h37 C37 ⟨rfl, K37, q37_0, q37_1⟩
    have z37 := C37.2.1
    refine gat0 ?_
    refine uSA 146 #[vi x0, vi x1, vi x2, vi x3, vi x4, vi (Int32.ofNat cs1.length), vi (x1 &&& (255 : Int32)), vi (x2 &&& (255 : Int32)), vi (x3 &&& (255 : Int32)), vr sx1, vr b36, un, un, un, un, un, un, un] hx hby at_144 rfl rfl rfl ?_
    refine uA 148 hx hby at_146 rfl rfl rfl ?_
    have f40 := (f38.keep K37 (ninS (Nat.ne_of_lt (by omega)) nin0) (ninS (Nat.ne_of_lt (by omega)) nin0))
    have f41 := (A36.keep K37)
    refine ginfo fun _ _ O39 => ?_
    refine gcallV (y := mn439) (z := mn439) hx (ow hw 39 rfl) (ow hw 40 rfl) (nfSel (ow hw 42 rfl)) (ow hw 42 rfl) (ow hw 41 rfl) (by decide) (fun hZ H hEL => Pay.of_met (W := 0) (own_tstr l Z a0 cx [] (b36) (sx1) (tx1) (cs1) (x4) vm37 h37 O39 q37_0 q37_1 f40 hcs f41) (ow hw 43 rfl) (ow hw 24 rfl) (by decide) (by decide) hZ H hEL) 151 (argsL := []) (rest := []) f41 (lenOf own_pd437 rfl) rfl rfl (Nat.le_of_eq rfl) (by rw [hml]; rfl) (hb hby at_148) rfl (by decide) (by decide) ?_
    rintro _ vm39 h39 C39 ⟨r39, t39, rfl, K39, q39_0, q39_1⟩
    have z39 := C39.2.1
    have lt_r39 : h39.size > r39 := q39_1.1.lt
    have lt_t39 : h39.size > t39 := q39_1.tlt
    refine gat1 ?_
    refine uSA 153 #[vi x0, vi x1, vi x2, vi x3, vi x4, vi (Int32.ofNat cs1.length), vi (x1 &&& (255 : Int32)), vi (x2 &&& (255 : Int32)), vi (x3 &&& (255 : Int32)), vr sx1, vr b36, vr r39, un, un, un, un, un, un] hx hby at_151 rfl rfl rfl ?_
    refine uA 155 hx hby at_153 rfl rfl rfl ?_
    refine uY1 160 hx hby at_155 (by decide) (by decide) ?_
    refine gjoin (fun vmJ hJ gJ => ∃ (b1242 : Int32), gJ = (mkF m 170 #[vi x0, vi x1, vi x2, vi x3, vi x4, vi (Int32.ofNat cs1.length), vi (x1 &&& (255 : Int32)), vi (x2 &&& (255 : Int32)), vi (x3 &&& (255 : Int32)), vr sx1, vr b36, vr r39, un, un, un, un, un, un] [(.int b1242)]) ∧ Keep h39 hJ [] ∧ CHr Z consts_1 vm39 h39 vmJ hJ ∧ (b1242 = (Int32.ofNat (own_sg x4)))) 15 138 ?_ ?_
    · rintro vm42 h42 _ ⟨b1242, rfl, K42, C42, q42_0⟩
      have z42 := C42.2.1
      refine gat (mkF m 170 #[vi x0, vi x1, vi x2, vi x3, vi x4, vi (Int32.ofNat cs1.length), vi (x1 &&& (255 : Int32)), vi (x2 &&& (255 : Int32)), vi (x3 &&& (255 : Int32)), vr sx1, vr b36, vr r39, un, un, un, un, un, un] [(.int (Int32.ofNat (own_sg x4)))]) (by rw [q42_0]) ?_
      refine uSI 172 #[vi x0, vi x1, vi x2, vi x3, vi x4, vi (Int32.ofNat cs1.length), vi (x1 &&& (255 : Int32)), vi (x2 &&& (255 : Int32)), vi (x3 &&& (255 : Int32)), vr sx1, vr b36, vr r39, vi (Int32.ofNat (own_sg x4)), un, un, un, un, un] hx hby at_170 rfl rfl ?_
      refine uI 174 hx hby at_172 rfl rfl ?_
      refine gs (mkF m 175 #[vi x0, vi x1, vi x2, vi x3, vi x4, vi (Int32.ofNat cs1.length), vi (x1 &&& (255 : Int32)), vi (x2 &&& (255 : Int32)), vi (x3 &&& (255 : Int32)), vr sx1, vr b36, vr r39, vi (Int32.ofNat (own_sg x4)), un, un, un, un, un] [(.long (x4.toInt64))]) (fun _ _ A kq => XS.i2l A hx rfl (hb hby at_174) rfl kq) ?_
      refine ginfo fun _ _ O43 => ?_
      refine gcallS (y := mn449) hx (ow hw 174 rfl) (ow hw 175 rfl) (ow hw 171 rfl) (ow hw 176 rfl) (by decide) (fun hZ H hEL => Pay.of_met (W := 0) (own_absJ l Z a0 cx [] (x4) vm42 h42 O43 ) (ow hw 176 rfl) (ow hw 171 rfl) (by decide) (by decide) hZ H hEL) 178 (argsL := [(.long (x4.toInt64))]) (rest := []) (lenOf own_pd606 rfl) rfl rfl (Nat.le_of_eq rfl) (by rw [hml]; rfl) (hb hby at_175) rfl (by decide) (by decide) ?_
      rintro _ vm43 h43 C43 ⟨rfl, rfl⟩
      have z43 := C43.2.1
      refine gat1 ?_
      refine gs (mkF m 180 #[vi x0, vi x1, vi x2, vi x3, vi x4, vi (Int32.ofNat cs1.length), vi (x1 &&& (255 : Int32)), vi (x2 &&& (255 : Int32)), vi (x3 &&& (255 : Int32)), vr sx1, vr b36, vr r39, vi (Int32.ofNat (own_sg x4)), .val (.long (Int64.ofNat (own_abs x4))), .second, un, un, un] []) (fun _ _ A kq => XS.lstore A hx rfl (hb hby at_178) rfl (l' := #[vi x0, vi x1, vi x2, vi x3, vi x4, vi (Int32.ofNat cs1.length), vi (x1 &&& (255 : Int32)), vi (x2 &&& (255 : Int32)), vi (x3 &&& (255 : Int32)), vr sx1, vr b36, vr r39, vi (Int32.ofNat (own_sg x4)), .val (.long (Int64.ofNat (own_abs x4))), .second, un, un, un]) rfl kq) ?_
      refine gs (mkF m 182 #[vi x0, vi x1, vi x2, vi x3, vi x4, vi (Int32.ofNat cs1.length), vi (x1 &&& (255 : Int32)), vi (x2 &&& (255 : Int32)), vi (x3 &&& (255 : Int32)), vr sx1, vr b36, vr r39, vi (Int32.ofNat (own_sg x4)), .val (.long (Int64.ofNat (own_abs x4))), .second, un, un, un] [(.long (Int64.ofNat (own_abs x4)))]) (fun _ _ A kq => XS.lload A hx rfl (hb hby at_180) rfl  kq) ?_
      refine ginfo fun _ _ O44 => ?_
      refine gcallS (y := mn507) hx (ow hw 177 rfl) (ow hw 178 rfl) (ow hw 179 rfl) (ow hw 180 rfl) (by decide) (fun hZ H hEL => Pay.of_met (W := 0) (own_digitsJ l Z a0 cx [] ((own_abs x4)) vm43 h42 O44 hle) (ow hw 180 rfl) (ow hw 179 rfl) (by decide) (by decide) hZ H hEL) 185 (argsL := [(.long (Int64.ofNat (own_abs x4)))]) (rest := []) (lenOf own_pd607 rfl) rfl rfl (Nat.le_of_eq rfl) (by rw [hml]; rfl) (hb hby at_182) rfl (by decide) (by decide) ?_
      rintro _ vm44 h44 C44 ⟨rfl, rfl⟩
      have z44 := C44.2.1
      refine gat1 ?_
      refine uSI 187 #[vi x0, vi x1, vi x2, vi x3, vi x4, vi (Int32.ofNat cs1.length), vi (x1 &&& (255 : Int32)), vi (x2 &&& (255 : Int32)), vi (x3 &&& (255 : Int32)), vr sx1, vr b36, vr r39, vi (Int32.ofNat (own_sg x4)), .val (.long (Int64.ofNat (own_abs x4))), .second, vi (Int32.ofNat (own_dn (own_abs x4))), un, un] hx hby at_185 rfl rfl ?_
      refine gjoin (fun vmJ hJ gJ => ∃ (b1645 : Int32), gJ = (mkF m 197 #[vi x0, vi x1, vi x2, vi x3, vi x4, vi (Int32.ofNat cs1.length), vi (x1 &&& (255 : Int32)), vi (x2 &&& (255 : Int32)), vi (x3 &&& (255 : Int32)), vr sx1, vr b36, vr r39, vi (Int32.ofNat (own_sg x4)), .val (.long (Int64.ofNat (own_abs x4))), .second, vi (Int32.ofNat (own_dn (own_abs x4))), un, un] [(.int b1645)]) ∧ Keep h42 hJ [] ∧ CHr Z consts_1 vm44 h42 vmJ hJ ∧ (b1645 = (Int32.ofNat (own_sg x4)))) 15 138 ?_ ?_
      · rintro vm45 h45 _ ⟨b1645, rfl, K45, C45, q45_0⟩
        have z45 := C45.2.1
        refine gat (mkF m 197 #[vi x0, vi x1, vi x2, vi x3, vi x4, vi (Int32.ofNat cs1.length), vi (x1 &&& (255 : Int32)), vi (x2 &&& (255 : Int32)), vi (x3 &&& (255 : Int32)), vr sx1, vr b36, vr r39, vi (Int32.ofNat (own_sg x4)), .val (.long (Int64.ofNat (own_abs x4))), .second, vi (Int32.ofNat (own_dn (own_abs x4))), un, un] [(.int (Int32.ofNat (own_sg x4)))]) (by rw [q45_0]) ?_
        refine uSI 199 #[vi x0, vi x1, vi x2, vi x3, vi x4, vi (Int32.ofNat cs1.length), vi (x1 &&& (255 : Int32)), vi (x2 &&& (255 : Int32)), vi (x3 &&& (255 : Int32)), vr sx1, vr b36, vr r39, vi (Int32.ofNat (own_sg x4)), .val (.long (Int64.ofNat (own_abs x4))), .second, vi (Int32.ofNat (own_dn (own_abs x4))), vi (Int32.ofNat (own_sg x4)), un] hx hby at_197 rfl rfl ?_
        refine uA 201 hx hby at_199 rfl rfl rfl ?_
        have f47 := ((q39_1.keep K42 nin0 nin0).keep K45 nin0 nin0)
        refine ginfo fun _ _ O46 => ?_
        refine gcallV (y := mn120) (z := mn120) hx (ow hw 182 rfl) (ow hw 73 rfl) (nfSel (ow hw 75 rfl)) (ow hw 75 rfl) (ow hw 74 rfl) (by decide) (fun hZ H hEL => own_payLen (W := 0) (own_wLen hw) (ow hw 1 rfl) Scs hzc O46 (N := (Int32.ofNat (cs1.length + 1 + own_sg x4 + own_dn (own_abs x4)))) f47 (congrArg Int32.ofNat (own_txlen _ _)) (by decide) (by decide) hZ H hEL) 204 (argsL := []) (rest := []) f47.1 (lenOf own_pd119 rfl) rfl rfl (Nat.le_of_eq rfl) (by rw [hml]; rfl) (hb hby at_201) rfl (by decide) (by decide) ?_
        rintro _ vm46 h46 C46 ⟨rfl, rfl⟩
        have z46 := C46.2.1
        refine gat1 ?_
        refine uI 206 hx hby at_204 rfl rfl ?_
        refine uKc 207 (1 : Int32) hx hby at_206 rfl rfl ?_
        refine uiadd 208 ((Int32.ofNat cs1.length) + (1 : Int32)) hx hby at_207 rfl rfl ?_
        refine uI 210 hx hby at_208 rfl rfl ?_
        refine uiadd 211 (((Int32.ofNat cs1.length) + (1 : Int32)) + (Int32.ofNat (own_sg x4))) hx hby at_210 rfl rfl ?_
        refine uI 213 hx hby at_211 rfl rfl ?_
        refine uiadd 214 ((((Int32.ofNat cs1.length) + (1 : Int32)) + (Int32.ofNat (own_sg x4))) + (Int32.ofNat (own_dn (own_abs x4)))) hx hby at_213 rfl rfl ?_
        refine uYc 219 hx hby at_214 (teq (own_sum (by omega))).1 (by decide) (by decide) ?_
        refine uA 221 hx hby at_219 rfl rfl rfl ?_
        refine uKc 222 (0 : Int32) hx hby at_221 rfl rfl ?_
        refine uI 224 hx hby at_222 rfl rfl ?_
        refine uI 226 hx hby at_224 rfl rfl ?_
        refine ginfo fun _ _ O48 => ?_
        refine gcallS (y := mn571) hx (ow hw 183 rfl) (ow hw 184 rfl) (ow hw 179 rfl) (ow hw 185 rfl) (by decide) (fun hZ H hEL => Pay.of_met (W := 0) (own_charOk l Z a0 cx [] (r39) (t39) (cs1) (x4) (0) ((x1 &&& (255 : Int32))) vm46 h45 O48 f47 hcs (by decide) pc1) (ow hw 185 rfl) (ow hw 179 rfl) (by decide) (by decide) hZ H hEL) 229 (argsL := [(.ref r39), (.int (0 : Int32)), (.int (Int32.ofNat cs1.length)), (.int (x1 &&& (255 : Int32)))]) (rest := []) (lenOf own_pd608 rfl) rfl rfl (Nat.le_of_eq rfl) (by rw [hml]; rfl) (hb hby at_226) rfl (by decide) (by decide) ?_
        rintro _ vm48 h48 C48 ⟨rfl, rfl⟩
        have z48 := C48.2.1
        refine gat1 ?_
        refine uY 234 hx hby at_229 ((if0 _ _).trans (feq (by decide)).2) (by decide) (by decide) ?_
        refine uA 236 hx hby at_234 rfl rfl rfl ?_
        refine uKc 237 (1 : Int32) hx hby at_236 rfl rfl ?_
        refine uI 239 hx hby at_237 rfl rfl ?_
        refine uI 241 hx hby at_239 rfl rfl ?_
        refine ginfo fun _ _ O49 => ?_
        refine gcallS (y := mn571) hx (ow hw 183 rfl) (ow hw 184 rfl) (ow hw 179 rfl) (ow hw 185 rfl) (by decide) (fun hZ H hEL => Pay.of_met (W := 0) (own_charOk l Z a0 cx [] (r39) (t39) (cs1) (x4) (1) ((x2 &&& (255 : Int32))) vm48 h45 O49 f47 hcs (by decide) pc2) (ow hw 185 rfl) (ow hw 179 rfl) (by decide) (by decide) hZ H hEL) 244 (argsL := [(.ref r39), (.int (1 : Int32)), (.int (Int32.ofNat cs1.length)), (.int (x2 &&& (255 : Int32)))]) (rest := []) (lenOf own_pd608 rfl) rfl rfl (Nat.le_of_eq rfl) (by rw [hml]; rfl) (hb hby at_241) rfl (by decide) (by decide) ?_
        rintro _ vm49 h49 C49 ⟨rfl, rfl⟩
        have z49 := C49.2.1
        refine gat1 ?_
        refine uY 249 hx hby at_244 ((if0 _ _).trans (feq (by decide)).2) (by decide) (by decide) ?_
        refine uA 251 hx hby at_249 rfl rfl rfl ?_
        refine uKc 252 (2 : Int32) hx hby at_251 rfl rfl ?_
        refine uI 254 hx hby at_252 rfl rfl ?_
        refine uI 256 hx hby at_254 rfl rfl ?_
        refine ginfo fun _ _ O50 => ?_
        refine gcallS (y := mn571) hx (ow hw 183 rfl) (ow hw 184 rfl) (ow hw 179 rfl) (ow hw 185 rfl) (by decide) (fun hZ H hEL => Pay.of_met (W := 0) (own_charOk l Z a0 cx [] (r39) (t39) (cs1) (x4) (2) ((x3 &&& (255 : Int32))) vm49 h45 O50 f47 hcs (by decide) pc3) (ow hw 185 rfl) (ow hw 179 rfl) (by decide) (by decide) hZ H hEL) 259 (argsL := [(.ref r39), (.int (2 : Int32)), (.int (Int32.ofNat cs1.length)), (.int (x3 &&& (255 : Int32)))]) (rest := []) (lenOf own_pd608 rfl) rfl rfl (Nat.le_of_eq rfl) (by rw [hml]; rfl) (hb hby at_256) rfl (by decide) (by decide) ?_
        rintro _ vm50 h50 C50 ⟨rfl, rfl⟩
        have z50 := C50.2.1
        refine gat1 ?_
        refine uY 264 hx hby at_259 ((if0 _ _).trans (feq (by decide)).2) (by decide) (by decide) ?_
        refine uA 266 hx hby at_264 rfl rfl rfl ?_
        refine uI 268 hx hby at_266 rfl rfl ?_
        refine ginfo fun _ _ O51 => ?_
        refine gcallV (y := mn563) (z := mn563) hx (ow hw 186 rfl) (ow hw 187 rfl) (nfSel (ow hw 189 rfl)) (ow hw 189 rfl) (ow hw 188 rfl) (by decide) (fun hZ H hEL => own_payChN (W := 0) (own_wChN hw) (ow hw 1 rfl) Scs hzc Sfm hfm O51 (i := cs1.length) (y := (95 : Int32)) f47 (by rw [own_txlen]; omega) rfl own_tx1 (by decide) (by decide) hZ H hEL) 271 (argsL := [(.int (Int32.ofNat cs1.length))]) (rest := []) f47.1 (lenOf own_pd562 rfl) rfl rfl (Nat.le_of_eq rfl) (by rw [hml]; rfl) (hb hby at_268) rfl (by decide) (by decide) ?_
        rintro _ vm51 h51 C51 ⟨rfl, rfl⟩
        have z51 := C51.2.1
        refine gat1 ?_
        refine uKb 273 (95 : Int32) hx hby at_271 rfl rfl ?_
        refine uYc 278 hx hby at_273 (teq (by decide)).1 (by decide) (by decide) ?_
        refine gjoin (fun vmJ hJ gJ => gJ = (mkF m 299 #[vi x0, vi x1, vi x2, vi x3, vi x4, vi (Int32.ofNat cs1.length), vi (x1 &&& (255 : Int32)), vi (x2 &&& (255 : Int32)), vi (x3 &&& (255 : Int32)), vr sx1, vr b36, vr r39, vi (Int32.ofNat (own_sg x4)), .val (.long (Int64.ofNat (own_abs x4))), .second, vi (Int32.ofNat (own_dn (own_abs x4))), vi (Int32.ofNat (own_sg x4)), un] []) ∧ Keep h45 hJ [] ∧ CHr Z consts_1 vm51 h45 vmJ hJ) 15 138 ?_ ?_
        · rintro vm52 h52 _ ⟨rfl, K52, C52⟩
          have z52 := C52.2.1
          refine uI 301 hx hby at_299 rfl rfl ?_
          refine uKc 302 (1 : Int32) hx hby at_301 rfl rfl ?_
          refine uiadd 303 ((Int32.ofNat cs1.length) + (1 : Int32)) hx hby at_302 rfl rfl ?_
          refine gat (mkF m 303 #[vi x0, vi x1, vi x2, vi x3, vi x4, vi (Int32.ofNat cs1.length), vi (x1 &&& (255 : Int32)), vi (x2 &&& (255 : Int32)), vi (x3 &&& (255 : Int32)), vr sx1, vr b36, vr r39, vi (Int32.ofNat (own_sg x4)), .val (.long (Int64.ofNat (own_abs x4))), .second, vi (Int32.ofNat (own_dn (own_abs x4))), vi (Int32.ofNat (own_sg x4)), un] [(.int (Int32.ofNat (cs1.length + 1)))]) (by rw [own_add1 (by omega)]) ?_
          refine uI 305 hx hby at_303 rfl rfl ?_
          refine uiadd 306 ((Int32.ofNat (cs1.length + 1)) + (Int32.ofNat (own_sg x4))) hx hby at_305 rfl rfl ?_
          refine gat (mkF m 306 #[vi x0, vi x1, vi x2, vi x3, vi x4, vi (Int32.ofNat cs1.length), vi (x1 &&& (255 : Int32)), vi (x2 &&& (255 : Int32)), vi (x3 &&& (255 : Int32)), vr sx1, vr b36, vr r39, vi (Int32.ofNat (own_sg x4)), .val (.long (Int64.ofNat (own_abs x4))), .second, vi (Int32.ofNat (own_dn (own_abs x4))), vi (Int32.ofNat (own_sg x4)), un] [(.int (Int32.ofNat (cs1.length + 1 + own_sg x4)))]) (by rw [addOf (by omega)]) ?_
          refine uSI 308 #[vi x0, vi x1, vi x2, vi x3, vi x4, vi (Int32.ofNat cs1.length), vi (x1 &&& (255 : Int32)), vi (x2 &&& (255 : Int32)), vi (x3 &&& (255 : Int32)), vr sx1, vr b36, vr r39, vi (Int32.ofNat (own_sg x4)), .val (.long (Int64.ofNat (own_abs x4))), .second, vi (Int32.ofNat (own_dn (own_abs x4))), vi (Int32.ofNat (own_sg x4)), vi (Int32.ofNat (cs1.length + 1 + own_sg x4))] hx hby at_306 rfl rfl ?_
          refine uA 310 hx hby at_308 rfl rfl rfl ?_
          refine uI 312 hx hby at_310 rfl rfl ?_
          refine gs (mkF m 314 #[vi x0, vi x1, vi x2, vi x3, vi x4, vi (Int32.ofNat cs1.length), vi (x1 &&& (255 : Int32)), vi (x2 &&& (255 : Int32)), vi (x3 &&& (255 : Int32)), vr sx1, vr b36, vr r39, vi (Int32.ofNat (own_sg x4)), .val (.long (Int64.ofNat (own_abs x4))), .second, vi (Int32.ofNat (own_dn (own_abs x4))), vi (Int32.ofNat (own_sg x4)), vi (Int32.ofNat (cs1.length + 1 + own_sg x4))] [(.long (Int64.ofNat (own_abs x4))), (.int (Int32.ofNat (cs1.length + 1 + own_sg x4))), (.ref r39)]) (fun _ _ A kq => XS.lload A hx rfl (hb hby at_312) rfl  kq) ?_
          refine uI 316 hx hby at_314 rfl rfl ?_
          refine uKc 317 (0 : Int32) hx hby at_316 rfl rfl ?_
          have f55 := (f47.keep K52 nin0 nin0)
          refine ginfo fun _ _ O54 => ?_
          refine gcallS (y := mn603) hx (ow hw 208 rfl) (ow hw 209 rfl) (ow hw 179 rfl) (ow hw 210 rfl) (by decide) (fun hZ H hEL => Pay.of_met (W := 0) (own_digitOk l Z a0 cx [] (r39) (t39) (cs1) (x4) (0) vm52 h52 O54 f55 hcs (by decide)) (ow hw 210 rfl) (ow hw 179 rfl) (by decide) (by decide) hZ H hEL) 320 (argsL := [(.ref r39), (.int (Int32.ofNat (cs1.length + 1 + own_sg x4))), (.long (Int64.ofNat (own_abs x4))), (.int (Int32.ofNat (own_dn (own_abs x4)))), (.int (0 : Int32))]) (rest := []) (lenOf own_pd609 rfl) rfl rfl (Nat.le_of_eq rfl) (by rw [hml]; rfl) (hb hby at_317) rfl (by decide) (by decide) ?_
          rintro _ vm54 h54 C54 ⟨rfl, rfl⟩
          have z54 := C54.2.1
          refine gat1 ?_
          refine uN 323 hx hby at_320 rfl ((if0 _ _).trans (feq (by decide)).1) ?_
          refine uA 325 hx hby at_323 rfl rfl rfl ?_
          refine uI 327 hx hby at_325 rfl rfl ?_
          refine gs (mkF m 329 #[vi x0, vi x1, vi x2, vi x3, vi x4, vi (Int32.ofNat cs1.length), vi (x1 &&& (255 : Int32)), vi (x2 &&& (255 : Int32)), vi (x3 &&& (255 : Int32)), vr sx1, vr b36, vr r39, vi (Int32.ofNat (own_sg x4)), .val (.long (Int64.ofNat (own_abs x4))), .second, vi (Int32.ofNat (own_dn (own_abs x4))), vi (Int32.ofNat (own_sg x4)), vi (Int32.ofNat (cs1.length + 1 + own_sg x4))] [(.long (Int64.ofNat (own_abs x4))), (.int (Int32.ofNat (cs1.length + 1 + own_sg x4))), (.ref r39)]) (fun _ _ A kq => XS.lload A hx rfl (hb hby at_327) rfl  kq) ?_
          refine uI 331 hx hby at_329 rfl rfl ?_
          refine uKc 332 (1 : Int32) hx hby at_331 rfl rfl ?_
          refine ginfo fun _ _ O56 => ?_
          refine gcallS (y := mn603) hx (ow hw 208 rfl) (ow hw 209 rfl) (ow hw 179 rfl) (ow hw 210 rfl) (by decide) (fun hZ H hEL => Pay.of_met (W := 0) (own_digitOk l Z a0 cx [] (r39) (t39) (cs1) (x4) (1) vm54 h52 O56 f55 hcs (by decide)) (ow hw 210 rfl) (ow hw 179 rfl) (by decide) (by decide) hZ H hEL) 335 (argsL := [(.ref r39), (.int (Int32.ofNat (cs1.length + 1 + own_sg x4))), (.long (Int64.ofNat (own_abs x4))), (.int (Int32.ofNat (own_dn (own_abs x4)))), (.int (1 : Int32))]) (rest := []) (lenOf own_pd609 rfl) rfl rfl (Nat.le_of_eq rfl) (by rw [hml]; rfl) (hb hby at_332) rfl (by decide) (by decide) ?_
          rintro _ vm56 h56 C56 ⟨rfl, rfl⟩
          have z56 := C56.2.1
          refine gat1 ?_
          refine uN 338 hx hby at_335 rfl ((if0 _ _).trans (feq (by decide)).1) ?_
          refine uA 340 hx hby at_338 rfl rfl rfl ?_
          refine uI 342 hx hby at_340 rfl rfl ?_
          refine gs (mkF m 344 #[vi x0, vi x1, vi x2, vi x3, vi x4, vi (Int32.ofNat cs1.length), vi (x1 &&& (255 : Int32)), vi (x2 &&& (255 : Int32)), vi (x3 &&& (255 : Int32)), vr sx1, vr b36, vr r39, vi (Int32.ofNat (own_sg x4)), .val (.long (Int64.ofNat (own_abs x4))), .second, vi (Int32.ofNat (own_dn (own_abs x4))), vi (Int32.ofNat (own_sg x4)), vi (Int32.ofNat (cs1.length + 1 + own_sg x4))] [(.long (Int64.ofNat (own_abs x4))), (.int (Int32.ofNat (cs1.length + 1 + own_sg x4))), (.ref r39)]) (fun _ _ A kq => XS.lload A hx rfl (hb hby at_342) rfl  kq) ?_
          refine uI 346 hx hby at_344 rfl rfl ?_
          refine uKc 347 (2 : Int32) hx hby at_346 rfl rfl ?_
          refine ginfo fun _ _ O57 => ?_
          refine gcallS (y := mn603) hx (ow hw 208 rfl) (ow hw 209 rfl) (ow hw 179 rfl) (ow hw 210 rfl) (by decide) (fun hZ H hEL => Pay.of_met (W := 0) (own_digitOk l Z a0 cx [] (r39) (t39) (cs1) (x4) (2) vm56 h52 O57 f55 hcs (by decide)) (ow hw 210 rfl) (ow hw 179 rfl) (by decide) (by decide) hZ H hEL) 350 (argsL := [(.ref r39), (.int (Int32.ofNat (cs1.length + 1 + own_sg x4))), (.long (Int64.ofNat (own_abs x4))), (.int (Int32.ofNat (own_dn (own_abs x4)))), (.int (2 : Int32))]) (rest := []) (lenOf own_pd609 rfl) rfl rfl (Nat.le_of_eq rfl) (by rw [hml]; rfl) (hb hby at_347) rfl (by decide) (by decide) ?_
          rintro _ vm57 h57 C57 ⟨rfl, rfl⟩
          have z57 := C57.2.1
          refine gat1 ?_
          refine uN 353 hx hby at_350 rfl ((if0 _ _).trans (feq (by decide)).1) ?_
          refine uA 355 hx hby at_353 rfl rfl rfl ?_
          refine uI 357 hx hby at_355 rfl rfl ?_
          refine gs (mkF m 359 #[vi x0, vi x1, vi x2, vi x3, vi x4, vi (Int32.ofNat cs1.length), vi (x1 &&& (255 : Int32)), vi (x2 &&& (255 : Int32)), vi (x3 &&& (255 : Int32)), vr sx1, vr b36, vr r39, vi (Int32.ofNat (own_sg x4)), .val (.long (Int64.ofNat (own_abs x4))), .second, vi (Int32.ofNat (own_dn (own_abs x4))), vi (Int32.ofNat (own_sg x4)), vi (Int32.ofNat (cs1.length + 1 + own_sg x4))] [(.long (Int64.ofNat (own_abs x4))), (.int (Int32.ofNat (cs1.length + 1 + own_sg x4))), (.ref r39)]) (fun _ _ A kq => XS.lload A hx rfl (hb hby at_357) rfl  kq) ?_
          refine uI 361 hx hby at_359 rfl rfl ?_
          refine uKc 362 (3 : Int32) hx hby at_361 rfl rfl ?_
          refine ginfo fun _ _ O58 => ?_
          refine gcallS (y := mn603) hx (ow hw 208 rfl) (ow hw 209 rfl) (ow hw 179 rfl) (ow hw 210 rfl) (by decide) (fun hZ H hEL => Pay.of_met (W := 0) (own_digitOk l Z a0 cx [] (r39) (t39) (cs1) (x4) (3) vm57 h52 O58 f55 hcs (by decide)) (ow hw 210 rfl) (ow hw 179 rfl) (by decide) (by decide) hZ H hEL) 365 (argsL := [(.ref r39), (.int (Int32.ofNat (cs1.length + 1 + own_sg x4))), (.long (Int64.ofNat (own_abs x4))), (.int (Int32.ofNat (own_dn (own_abs x4)))), (.int (3 : Int32))]) (rest := []) (lenOf own_pd609 rfl) rfl rfl (Nat.le_of_eq rfl) (by rw [hml]; rfl) (hb hby at_362) rfl (by decide) (by decide) ?_
          rintro _ vm58 h58 C58 ⟨rfl, rfl⟩
          have z58 := C58.2.1
          refine gat1 ?_
          refine uN 368 hx hby at_365 rfl ((if0 _ _).trans (feq (by decide)).1) ?_
          refine uA 370 hx hby at_368 rfl rfl rfl ?_
          refine uI 372 hx hby at_370 rfl rfl ?_
          refine gs (mkF m 374 #[vi x0, vi x1, vi x2, vi x3, vi x4, vi (Int32.ofNat cs1.length), vi (x1 &&& (255 : Int32)), vi (x2 &&& (255 : Int32)), vi (x3 &&& (255 : Int32)), vr sx1, vr b36, vr r39, vi (Int32.ofNat (own_sg x4)), .val (.long (Int64.ofNat (own_abs x4))), .second, vi (Int32.ofNat (own_dn (own_abs x4))), vi (Int32.ofNat (own_sg x4)), vi (Int32.ofNat (cs1.length + 1 + own_sg x4))] [(.long (Int64.ofNat (own_abs x4))), (.int (Int32.ofNat (cs1.length + 1 + own_sg x4))), (.ref r39)]) (fun _ _ A kq => XS.lload A hx rfl (hb hby at_372) rfl  kq) ?_
          refine uI 376 hx hby at_374 rfl rfl ?_
          refine uKc 377 (4 : Int32) hx hby at_376 rfl rfl ?_
          refine ginfo fun _ _ O59 => ?_
          refine gcallS (y := mn603) hx (ow hw 208 rfl) (ow hw 209 rfl) (ow hw 179 rfl) (ow hw 210 rfl) (by decide) (fun hZ H hEL => Pay.of_met (W := 0) (own_digitOk l Z a0 cx [] (r39) (t39) (cs1) (x4) (4) vm58 h52 O59 f55 hcs (by decide)) (ow hw 210 rfl) (ow hw 179 rfl) (by decide) (by decide) hZ H hEL) 380 (argsL := [(.ref r39), (.int (Int32.ofNat (cs1.length + 1 + own_sg x4))), (.long (Int64.ofNat (own_abs x4))), (.int (Int32.ofNat (own_dn (own_abs x4)))), (.int (4 : Int32))]) (rest := []) (lenOf own_pd609 rfl) rfl rfl (Nat.le_of_eq rfl) (by rw [hml]; rfl) (hb hby at_377) rfl (by decide) (by decide) ?_
          rintro _ vm59 h59 C59 ⟨rfl, rfl⟩
          have z59 := C59.2.1
          refine gat1 ?_
          refine uN 383 hx hby at_380 rfl ((if0 _ _).trans (feq (by decide)).1) ?_
          refine uA 385 hx hby at_383 rfl rfl rfl ?_
          refine uI 387 hx hby at_385 rfl rfl ?_
          refine gs (mkF m 389 #[vi x0, vi x1, vi x2, vi x3, vi x4, vi (Int32.ofNat cs1.length), vi (x1 &&& (255 : Int32)), vi (x2 &&& (255 : Int32)), vi (x3 &&& (255 : Int32)), vr sx1, vr b36, vr r39, vi (Int32.ofNat (own_sg x4)), .val (.long (Int64.ofNat (own_abs x4))), .second, vi (Int32.ofNat (own_dn (own_abs x4))), vi (Int32.ofNat (own_sg x4)), vi (Int32.ofNat (cs1.length + 1 + own_sg x4))] [(.long (Int64.ofNat (own_abs x4))), (.int (Int32.ofNat (cs1.length + 1 + own_sg x4))), (.ref r39)]) (fun _ _ A kq => XS.lload A hx rfl (hb hby at_387) rfl  kq) ?_
          refine uI 391 hx hby at_389 rfl rfl ?_
          refine uKc 392 (5 : Int32) hx hby at_391 rfl rfl ?_
          refine ginfo fun _ _ O60 => ?_
          refine gcallS (y := mn603) hx (ow hw 208 rfl) (ow hw 209 rfl) (ow hw 179 rfl) (ow hw 210 rfl) (by decide) (fun hZ H hEL => Pay.of_met (W := 0) (own_digitOk l Z a0 cx [] (r39) (t39) (cs1) (x4) (5) vm59 h52 O60 f55 hcs (by decide)) (ow hw 210 rfl) (ow hw 179 rfl) (by decide) (by decide) hZ H hEL) 395 (argsL := [(.ref r39), (.int (Int32.ofNat (cs1.length + 1 + own_sg x4))), (.long (Int64.ofNat (own_abs x4))), (.int (Int32.ofNat (own_dn (own_abs x4)))), (.int (5 : Int32))]) (rest := []) (lenOf own_pd609 rfl) rfl rfl (Nat.le_of_eq rfl) (by rw [hml]; rfl) (hb hby at_392) rfl (by decide) (by decide) ?_
          rintro _ vm60 h60 C60 ⟨rfl, rfl⟩
          have z60 := C60.2.1
          refine gat1 ?_
          refine uN 398 hx hby at_395 rfl ((if0 _ _).trans (feq (by decide)).1) ?_
          refine uA 400 hx hby at_398 rfl rfl rfl ?_
          refine uI 402 hx hby at_400 rfl rfl ?_
          refine gs (mkF m 404 #[vi x0, vi x1, vi x2, vi x3, vi x4, vi (Int32.ofNat cs1.length), vi (x1 &&& (255 : Int32)), vi (x2 &&& (255 : Int32)), vi (x3 &&& (255 : Int32)), vr sx1, vr b36, vr r39, vi (Int32.ofNat (own_sg x4)), .val (.long (Int64.ofNat (own_abs x4))), .second, vi (Int32.ofNat (own_dn (own_abs x4))), vi (Int32.ofNat (own_sg x4)), vi (Int32.ofNat (cs1.length + 1 + own_sg x4))] [(.long (Int64.ofNat (own_abs x4))), (.int (Int32.ofNat (cs1.length + 1 + own_sg x4))), (.ref r39)]) (fun _ _ A kq => XS.lload A hx rfl (hb hby at_402) rfl  kq) ?_
          refine uI 406 hx hby at_404 rfl rfl ?_
          refine uKb 408 (6 : Int32) hx hby at_406 rfl rfl ?_
          refine ginfo fun _ _ O61 => ?_
          refine gcallS (y := mn603) hx (ow hw 208 rfl) (ow hw 209 rfl) (ow hw 179 rfl) (ow hw 210 rfl) (by decide) (fun hZ H hEL => Pay.of_met (W := 0) (own_digitOk l Z a0 cx [] (r39) (t39) (cs1) (x4) (6) vm60 h52 O61 f55 hcs (by decide)) (ow hw 210 rfl) (ow hw 179 rfl) (by decide) (by decide) hZ H hEL) 411 (argsL := [(.ref r39), (.int (Int32.ofNat (cs1.length + 1 + own_sg x4))), (.long (Int64.ofNat (own_abs x4))), (.int (Int32.ofNat (own_dn (own_abs x4)))), (.int (6 : Int32))]) (rest := []) (lenOf own_pd609 rfl) rfl rfl (Nat.le_of_eq rfl) (by rw [hml]; rfl) (hb hby at_408) rfl (by decide) (by decide) ?_
          rintro _ vm61 h61 C61 ⟨rfl, rfl⟩
          have z61 := C61.2.1
          refine gat1 ?_
          refine uN 414 hx hby at_411 rfl ((if0 _ _).trans (feq (by decide)).1) ?_
          refine uA 416 hx hby at_414 rfl rfl rfl ?_
          refine uI 418 hx hby at_416 rfl rfl ?_
          refine gs (mkF m 420 #[vi x0, vi x1, vi x2, vi x3, vi x4, vi (Int32.ofNat cs1.length), vi (x1 &&& (255 : Int32)), vi (x2 &&& (255 : Int32)), vi (x3 &&& (255 : Int32)), vr sx1, vr b36, vr r39, vi (Int32.ofNat (own_sg x4)), .val (.long (Int64.ofNat (own_abs x4))), .second, vi (Int32.ofNat (own_dn (own_abs x4))), vi (Int32.ofNat (own_sg x4)), vi (Int32.ofNat (cs1.length + 1 + own_sg x4))] [(.long (Int64.ofNat (own_abs x4))), (.int (Int32.ofNat (cs1.length + 1 + own_sg x4))), (.ref r39)]) (fun _ _ A kq => XS.lload A hx rfl (hb hby at_418) rfl  kq) ?_
          refine uI 422 hx hby at_420 rfl rfl ?_
          refine uKb 424 (7 : Int32) hx hby at_422 rfl rfl ?_
          refine ginfo fun _ _ O62 => ?_
          refine gcallS (y := mn603) hx (ow hw 208 rfl) (ow hw 209 rfl) (ow hw 179 rfl) (ow hw 210 rfl) (by decide) (fun hZ H hEL => Pay.of_met (W := 0) (own_digitOk l Z a0 cx [] (r39) (t39) (cs1) (x4) (7) vm61 h52 O62 f55 hcs (by decide)) (ow hw 210 rfl) (ow hw 179 rfl) (by decide) (by decide) hZ H hEL) 427 (argsL := [(.ref r39), (.int (Int32.ofNat (cs1.length + 1 + own_sg x4))), (.long (Int64.ofNat (own_abs x4))), (.int (Int32.ofNat (own_dn (own_abs x4)))), (.int (7 : Int32))]) (rest := []) (lenOf own_pd609 rfl) rfl rfl (Nat.le_of_eq rfl) (by rw [hml]; rfl) (hb hby at_424) rfl (by decide) (by decide) ?_
          rintro _ vm62 h62 C62 ⟨rfl, rfl⟩
          have z62 := C62.2.1
          refine gat1 ?_
          refine uN 430 hx hby at_427 rfl ((if0 _ _).trans (feq (by decide)).1) ?_
          refine uA 432 hx hby at_430 rfl rfl rfl ?_
          refine uI 434 hx hby at_432 rfl rfl ?_
          refine gs (mkF m 436 #[vi x0, vi x1, vi x2, vi x3, vi x4, vi (Int32.ofNat cs1.length), vi (x1 &&& (255 : Int32)), vi (x2 &&& (255 : Int32)), vi (x3 &&& (255 : Int32)), vr sx1, vr b36, vr r39, vi (Int32.ofNat (own_sg x4)), .val (.long (Int64.ofNat (own_abs x4))), .second, vi (Int32.ofNat (own_dn (own_abs x4))), vi (Int32.ofNat (own_sg x4)), vi (Int32.ofNat (cs1.length + 1 + own_sg x4))] [(.long (Int64.ofNat (own_abs x4))), (.int (Int32.ofNat (cs1.length + 1 + own_sg x4))), (.ref r39)]) (fun _ _ A kq => XS.lload A hx rfl (hb hby at_434) rfl  kq) ?_
          refine uI 438 hx hby at_436 rfl rfl ?_
          refine uKb 440 (8 : Int32) hx hby at_438 rfl rfl ?_
          refine ginfo fun _ _ O63 => ?_
          refine gcallS (y := mn603) hx (ow hw 208 rfl) (ow hw 209 rfl) (ow hw 179 rfl) (ow hw 210 rfl) (by decide) (fun hZ H hEL => Pay.of_met (W := 0) (own_digitOk l Z a0 cx [] (r39) (t39) (cs1) (x4) (8) vm62 h52 O63 f55 hcs (by decide)) (ow hw 210 rfl) (ow hw 179 rfl) (by decide) (by decide) hZ H hEL) 443 (argsL := [(.ref r39), (.int (Int32.ofNat (cs1.length + 1 + own_sg x4))), (.long (Int64.ofNat (own_abs x4))), (.int (Int32.ofNat (own_dn (own_abs x4)))), (.int (8 : Int32))]) (rest := []) (lenOf own_pd609 rfl) rfl rfl (Nat.le_of_eq rfl) (by rw [hml]; rfl) (hb hby at_440) rfl (by decide) (by decide) ?_
          rintro _ vm63 h63 C63 ⟨rfl, rfl⟩
          have z63 := C63.2.1
          refine gat1 ?_
          refine uN 446 hx hby at_443 rfl ((if0 _ _).trans (feq (by decide)).1) ?_
          refine uA 448 hx hby at_446 rfl rfl rfl ?_
          refine uI 450 hx hby at_448 rfl rfl ?_
          refine gs (mkF m 452 #[vi x0, vi x1, vi x2, vi x3, vi x4, vi (Int32.ofNat cs1.length), vi (x1 &&& (255 : Int32)), vi (x2 &&& (255 : Int32)), vi (x3 &&& (255 : Int32)), vr sx1, vr b36, vr r39, vi (Int32.ofNat (own_sg x4)), .val (.long (Int64.ofNat (own_abs x4))), .second, vi (Int32.ofNat (own_dn (own_abs x4))), vi (Int32.ofNat (own_sg x4)), vi (Int32.ofNat (cs1.length + 1 + own_sg x4))] [(.long (Int64.ofNat (own_abs x4))), (.int (Int32.ofNat (cs1.length + 1 + own_sg x4))), (.ref r39)]) (fun _ _ A kq => XS.lload A hx rfl (hb hby at_450) rfl  kq) ?_
          refine uI 454 hx hby at_452 rfl rfl ?_
          refine uKb 456 (9 : Int32) hx hby at_454 rfl rfl ?_
          refine ginfo fun _ _ O64 => ?_
          refine gcallS (y := mn603) hx (ow hw 208 rfl) (ow hw 209 rfl) (ow hw 179 rfl) (ow hw 210 rfl) (by decide) (fun hZ H hEL => Pay.of_met (W := 0) (own_digitOk l Z a0 cx [] (r39) (t39) (cs1) (x4) (9) vm63 h52 O64 f55 hcs (by decide)) (ow hw 210 rfl) (ow hw 179 rfl) (by decide) (by decide) hZ H hEL) 459 (argsL := [(.ref r39), (.int (Int32.ofNat (cs1.length + 1 + own_sg x4))), (.long (Int64.ofNat (own_abs x4))), (.int (Int32.ofNat (own_dn (own_abs x4)))), (.int (9 : Int32))]) (rest := []) (lenOf own_pd609 rfl) rfl rfl (Nat.le_of_eq rfl) (by rw [hml]; rfl) (hb hby at_456) rfl (by decide) (by decide) ?_
          rintro _ vm64 h64 C64 ⟨rfl, rfl⟩
          have z64 := C64.2.1
          refine gat1 ?_
          refine uN 462 hx hby at_459 rfl ((if0 _ _).trans (feq (by decide)).1) ?_
          refine uKc 463 (1 : Int32) hx hby at_462 rfl rfl ?_
          refine uG 467 hx hby at_463 (by decide) (by decide) ?_
          exact gretN (t := .boolean) hx hret (by simp) (hb hby at_467) (by decide) (by decide) (fun vq Cq => ⟨rfl, ((((((((Keep.refl h0 []).trans K1 all0).ext E36).trans K37 (allS (Or.inr (by omega)) all0)).trans K39 all0).trans K42 all0).trans K45 all0).trans K52 all0)⟩)
        · intro J52
          refine uI 280 hx hby at_278 rfl rfl ?_
          by_cases g : (Int32.ofNat (own_sg x4)) = (0 : Int32)
          · refine uY 299 hx hby at_280 ((if0 _ _).trans (teq g).1) (by decide) (by decide) ?_
            refine ginfo fun _ Hq _ => ?_
            exact gmono (by decide) (by decide) (J52 _ _ _ ⟨rfl, (Keep.refl h45 []), (CHr.refl Hq)⟩)
          · refine uN 283 hx hby at_280 rfl ((if0 _ _).trans (feq g).1) ?_
            refine uA 285 hx hby at_283 rfl rfl rfl ?_
            refine uI 287 hx hby at_285 rfl rfl ?_
            refine uKc 288 (1 : Int32) hx hby at_287 rfl rfl ?_
            refine uiadd 289 ((Int32.ofNat cs1.length) + (1 : Int32)) hx hby at_288 rfl rfl ?_
            refine gat (mkF m 289 #[vi x0, vi x1, vi x2, vi x3, vi x4, vi (Int32.ofNat cs1.length), vi (x1 &&& (255 : Int32)), vi (x2 &&& (255 : Int32)), vi (x3 &&& (255 : Int32)), vr sx1, vr b36, vr r39, vi (Int32.ofNat (own_sg x4)), .val (.long (Int64.ofNat (own_abs x4))), .second, vi (Int32.ofNat (own_dn (own_abs x4))), vi (Int32.ofNat (own_sg x4)), un] [(.int (Int32.ofNat (cs1.length + 1))), (.ref r39)]) (by rw [own_add1 (by omega)]) ?_
            refine ginfo fun _ _ O53 => ?_
            refine gcallV (y := mn563) (z := mn563) hx (ow hw 186 rfl) (ow hw 187 rfl) (nfSel (ow hw 189 rfl)) (ow hw 189 rfl) (ow hw 188 rfl) (by decide) (fun hZ H hEL => own_payChN (W := 0) (own_wChN hw) (ow hw 1 rfl) Scs hzc Sfm hfm O53 (i := (cs1.length + 1)) (y := (45 : Int32)) f47 (by rw [own_txlen]; omega) rfl (own_tx2 (own_sg1 g).2) (by decide) (by decide) hZ H hEL) 292 (argsL := [(.int (Int32.ofNat (cs1.length + 1)))]) (rest := []) f47.1 (lenOf own_pd562 rfl) rfl rfl (Nat.le_of_eq rfl) (by rw [hml]; rfl) (hb hby at_289) rfl (by decide) (by decide) ?_
            rintro _ vm53 h53 C53 ⟨rfl, rfl⟩
            have z53 := C53.2.1
            refine gat1 ?_
            refine uKb 294 (45 : Int32) hx hby at_292 rfl rfl ?_
            refine uYc 299 hx hby at_294 (teq (by decide)).1 (by decide) (by decide) ?_
            exact gmono (by decide) (by decide) (J52 _ _ _ ⟨rfl, (Keep.refl h45 []), C53⟩)
      · intro J45
        refine uI 189 hx hby at_187 rfl rfl ?_
        by_cases g : (Int32.ofNat (own_sg x4)) = (0 : Int32)
        · refine uY 196 hx hby at_189 ((if0 _ _).trans (teq g).1) (by decide) (by decide) ?_
          refine uKc 197 (0 : Int32) hx hby at_196 rfl rfl ?_
          refine ginfo fun _ Hq _ => ?_
          exact gmono (by decide) (by decide) (J45 _ _ _ ⟨(0 : Int32), rfl, (Keep.refl h42 []), (CHr.refl Hq), (Eq.symm g)⟩)
        · refine uN 192 hx hby at_189 rfl ((if0 _ _).trans (feq g).1) ?_
          refine uKc 193 (1 : Int32) hx hby at_192 rfl rfl ?_
          refine uG 197 hx hby at_193 (by decide) (by decide) ?_
          refine ginfo fun _ Hq _ => ?_
          exact gmono (by decide) (by decide) (J45 _ _ _ ⟨(1 : Int32), rfl, (Keep.refl h42 []), (CHr.refl Hq), (own_sgC g)⟩)
    · intro J42
      refine uI 162 hx hby at_160 rfl rfl ?_
      by_cases g : x4 < (0 : Int32)
      · refine uN 165 hx hby at_162 rfl ((if0 _ _).trans (tlt g).2.1) ?_
        refine uKc 166 (1 : Int32) hx hby at_165 rfl rfl ?_
        refine uG 170 hx hby at_166 (by decide) (by decide) ?_
        refine ginfo fun _ Hq _ => ?_
        exact gmono (by decide) (by decide) (J42 _ _ _ ⟨(1 : Int32), rfl, (Keep.refl h39 []), (CHr.refl Hq), (own_sgA g)⟩)
      · refine uY 169 hx hby at_162 ((if0 _ _).trans (flt g).2.1) (by decide) (by decide) ?_
        refine uKc 170 (0 : Int32) hx hby at_169 rfl rfl ?_
        refine ginfo fun _ Hq _ => ?_
        exact gmono (by decide) (by decide) (J42 _ _ _ ⟨(0 : Int32), rfl, (Keep.refl h39 []), (CHr.refl Hq), (own_sgB g)⟩)
  · intro J1
    refine uI 31 hx hby at_29 rfl rfl ?_
    by_cases aa0 : (x0 &&& (3 : Int32)) = (0 : Int32)
    · refine uN 34 hx hby at_31 rfl ((if0 _ _).trans (teq aa0).2) ?_
      refine gnewO hx (ow hw 0 rfl) (ow hw 1 rfl) (ow hw 2 rfl) 37 (hb hby at_34) rfl (by decide) (by decide) ?_
      intro b2 h2 g2 E2 C2 A2 D2 n2 L2
      have z2 := C2.2.1
      have lt_b2 : h2.size > b2 := A2.lt
      have F2_value : Fld Z h2 b2 c4_ "value" "[B" .null := D2 (Or.inr (ow hw 16 rfl)) (ty := (.array .byte)) (by decide)
      have F2_coder : Fld Z h2 b2 c4_ "coder" "B" (.int (0 : Int32)) := D2 (Or.inr (ow hw 17 rfl)) (ty := .byte) (by decide)
      refine uD 38 hx hby at_37 rfl rfl ?_
      refine uKc 39 (0 : Int32) hx hby at_38 rfl rfl ?_
      refine gnewPE hx (ow hw 3 rfl) (n := (0 : Int32)) (by decide) (cap := 0) (by decide) (by decide) (ad := "[C") (by decide) 41 (hb hby at_39) rfl (by decide) (by decide) ?_
      intro b3 h3 k3 g3 E3 C3 V3 A3 n3 L3
      have z3 := C3.2.1
      have V3 : Arv Z h3 b3 k3 .char (0 : Int32) [] (.int (0 : Int32)) := V3.pad (pad_rep [] (.int (0 : Int32)) 0)
      have lt_b3 : h3.size > b3 := V3.lt
      have f5 := (A2.ext E3)
      have f6 := (F2_value.ext E3)
      have f7 := (F2_coder.ext E3)
      have f8 := (C3.safe (show h2.size > b2 by omega) L2)
      refine ginfo fun _ _ O4 => ?_
      refine gcallI (y := mn24) hx rfl (ow hw 4 rfl) (ow hw 5 rfl) (ow hw 6 rfl) (by decide) (fun hZ H hEL => Pay.of_met (W := 1) (own_emp1 l Z a0 cx [] (b2) (b3) (.null) ((.int (0 : Int32))) (k3) vm h3 O4 f5 f6 f7 n2 f8 V3) (ow hw 6 rfl) (ow hw 2 rfl) (by decide) (by decide) hZ H hEL) (a := b2) 44 (argsL := [(.ref b3)]) (rest := [(.ref b2)]) (lenOf own_pd604 rfl) rfl rfl (Nat.le_of_eq rfl) (by rw [hml]; rfl) (hb hby at_41) rfl (by decide) (by decide) ?_
      rintro _ vm4 h4 C4 ⟨t4, rfl, K4, q4_0, q4_1⟩
      have z4 := C4.2.1
      have lt_t4 : h4.size > t4 := q4_0.tlt
      refine gat0 ?_
      refine uSA 46 #[vi x0, vi x1, vi x2, vi x3, vi x4, vi (x0 &&& (3 : Int32)), vi (x1 &&& (255 : Int32)), vi (x2 &&& (255 : Int32)), vi (x3 &&& (255 : Int32)), vr b2, un, un, un, un, un, un, un, un] hx hby at_44 rfl rfl rfl ?_
      refine uG 133 hx hby at_46 (by decide) (by decide) ?_
      exact gmono (by decide) (by decide) (J1 _ _ _ ⟨b2, t4, ([] : List Int32), rfl, ((((Keep.refl h0 []).ext E2).ext E3).trans K4 (allS (Or.inr (by omega)) all0)), ((C2.trans C3).trans C4), q4_0, (own_pin0 aa0)⟩)
    · refine uY 49 hx hby at_31 ((if0 _ _).trans (feq aa0).2) (by decide) (by decide) ?_
      refine uI 51 hx hby at_49 rfl rfl ?_
      refine uKc 52 (1 : Int32) hx hby at_51 rfl rfl ?_
      by_cases aa1 : (x0 &&& (3 : Int32)) = (1 : Int32)
      · refine uNc 55 hx hby at_52 rfl (teq aa1).2 ?_
        refine gnewO hx (ow hw 0 rfl) (ow hw 1 rfl) (ow hw 2 rfl) 58 (hb hby at_55) rfl (by decide) (by decide) ?_
        intro b9 h9 g9 E9 C9 A9 D9 n9 L9
        have z9 := C9.2.1
        have lt_b9 : h9.size > b9 := A9.lt
        have F9_value : Fld Z h9 b9 c4_ "value" "[B" .null := D9 (Or.inr (ow hw 16 rfl)) (ty := (.array .byte)) (by decide)
        have F9_coder : Fld Z h9 b9 c4_ "coder" "B" (.int (0 : Int32)) := D9 (Or.inr (ow hw 17 rfl)) (ty := .byte) (by decide)
        refine uD 59 hx hby at_58 rfl rfl ?_
        refine uKc 60 (1 : Int32) hx hby at_59 rfl rfl ?_
        refine gnewPE hx (ow hw 3 rfl) (n := (1 : Int32)) (by decide) (cap := 1) (by decide) (by decide) (ad := "[C") (by decide) 62 (hb hby at_60) rfl (by decide) (by decide) ?_
        intro b10 h10 k10 g10 E10 C10 V10 A10 n10 L10
        have z10 := C10.2.1
        have V10 : Arv Z h10 b10 k10 .char (1 : Int32) [(.int (0 : Int32))] (.int (0 : Int32)) := V10.pad (pad_rep [] (.int (0 : Int32)) 1)
        have lt_b10 : h10.size > b10 := V10.lt
        refine uD 63 hx hby at_62 rfl rfl ?_
        refine uKc 64 (0 : Int32) hx hby at_63 rfl rfl ?_
        refine uI 66 hx hby at_64 rfl rfl ?_
        refine gstC hx V10 ⟨by decide, by decide⟩ (i := 0) rfl (Nat.le_of_ble_eq_true rfl) (y := (x1 &&& (255 : Int32))) (narC _) n10 67 (hb hby at_66) rfl ?_
        intro h11 W11 C11 V11
        have z11 := C11.2.1
        replace V11 : Arv Z h11 b10 k10 .char (1 : Int32) [(.int (x1 &&& (255 : Int32)))] (.int (0 : Int32)) := V11
        have f13 := ((A9.ext E10).wr W11)
        have f14 := ((F9_value.ext E10).other W11 (Or.inl (Nat.ne_of_lt (by omega))))
        have f15 := ((F9_coder.ext E10).other W11 (Or.inl (Nat.ne_of_lt (by omega))))
        have f16 := (C11.safe (show h10.size > b9 by omega) (C10.safe (show h9.size > b9 by omega) L9))
        refine ginfo fun _ _ O12 => ?_
        refine gcallI (y := mn24) hx rfl (ow hw 4 rfl) (ow hw 5 rfl) (ow hw 6 rfl) (by decide) (fun hZ H hEL => own_payNew (W := 1) (own_wNew hw) (ow hw 1 rfl) Scs hzc O12 (cs := [(x1 &&& (255 : Int32))]) (n := 1) n9 f13 f14 f15 V11 rfl rfl (by decide) (by decide) (bcons (b255 _) bnil) f16 (by decide) (by decide) hZ H hEL) (a := b9) 70 (argsL := [(.ref b10)]) (rest := [(.ref b9)]) (lenOf own_pd604 rfl) rfl rfl (Nat.le_of_eq rfl) (by rw [hml]; rfl) (hb hby at_67) rfl (by decide) (by decide) ?_
        rintro _ vm12 h12 C12 ⟨t12, rfl, K12, g12, S12⟩
        have z12 := C12.2.1
        have lt_t12 : h12.size > t12 := S12.tlt
        refine gat0 ?_
        refine uSA 72 #[vi x0, vi x1, vi x2, vi x3, vi x4, vi (x0 &&& (3 : Int32)), vi (x1 &&& (255 : Int32)), vi (x2 &&& (255 : Int32)), vi (x3 &&& (255 : Int32)), vr b9, un, un, un, un, un, un, un, un] hx hby at_70 rfl rfl rfl ?_
        refine uG 133 hx hby at_72 (by decide) (by decide) ?_
        exact gmono (by decide) (by decide) (J1 _ _ _ ⟨b9, t12, [(x1 &&& (255 : Int32))], rfl, (((((Keep.refl h0 []).ext E9).ext E10).wr W11 (Or.inr (by omega))).trans K12 (allS (Or.inr (by omega)) all0)), (((C9.trans C10).trans C11).trans C12), S12, (own_pin1 aa1)⟩)
      · refine uYc 75 hx hby at_52 (feq aa1).2 (by decide) (by decide) ?_
        refine uI 77 hx hby at_75 rfl rfl ?_
        refine uKc 78 (2 : Int32) hx hby at_77 rfl rfl ?_
        by_cases aa2 : (x0 &&& (3 : Int32)) = (2 : Int32)
        · refine uNc 81 hx hby at_78 rfl (teq aa2).2 ?_
          refine gnewO hx (ow hw 0 rfl) (ow hw 1 rfl) (ow hw 2 rfl) 84 (hb hby at_81) rfl (by decide) (by decide) ?_
          intro b17 h17 g17 E17 C17 A17 D17 n17 L17
          have z17 := C17.2.1
          have lt_b17 : h17.size > b17 := A17.lt
          have F17_value : Fld Z h17 b17 c4_ "value" "[B" .null := D17 (Or.inr (ow hw 16 rfl)) (ty := (.array .byte)) (by decide)
          have F17_coder : Fld Z h17 b17 c4_ "coder" "B" (.int (0 : Int32)) := D17 (Or.inr (ow hw 17 rfl)) (ty := .byte) (by decide)
          refine uD 85 hx hby at_84 rfl rfl ?_
          refine uKc 86 (2 : Int32) hx hby at_85 rfl rfl ?_
          refine gnewPE hx (ow hw 3 rfl) (n := (2 : Int32)) (by decide) (cap := 2) (by decide) (by decide) (ad := "[C") (by decide) 88 (hb hby at_86) rfl (by decide) (by decide) ?_
          intro b18 h18 k18 g18 E18 C18 V18 A18 n18 L18
          have z18 := C18.2.1
          have V18 : Arv Z h18 b18 k18 .char (2 : Int32) [(.int (0 : Int32)), (.int (0 : Int32))] (.int (0 : Int32)) := V18.pad (pad_rep [] (.int (0 : Int32)) 2)
          have lt_b18 : h18.size > b18 := V18.lt
          refine uD 89 hx hby at_88 rfl rfl ?_
          refine uKc 90 (0 : Int32) hx hby at_89 rfl rfl ?_
          refine uI 92 hx hby at_90 rfl rfl ?_
          refine gstC hx V18 ⟨by decide, by decide⟩ (i := 0) rfl (Nat.le_of_ble_eq_true rfl) (y := (x1 &&& (255 : Int32))) (narC _) n18 93 (hb hby at_92) rfl ?_
          intro h19 W19 C19 V19
          have z19 := C19.2.1
          replace V19 : Arv Z h19 b18 k18 .char (2 : Int32) [(.int (x1 &&& (255 : Int32))), (.int (0 : Int32))] (.int (0 : Int32)) := V19
          refine uD 94 hx hby at_93 rfl rfl ?_
          refine uKc 95 (1 : Int32) hx hby at_94 rfl rfl ?_
          refine uI 97 hx hby at_95 rfl rfl ?_
          refine gstC hx V19 ⟨by decide, by decide⟩ (i := 1) rfl (Nat.le_of_ble_eq_true rfl) (y := (x2 &&& (255 : Int32))) (narC _) n18 98 (hb hby at_97) rfl ?_
          intro h20 W20 C20 V20
          have z20 := C20.2.1
          replace V20 : Arv Z h20 b18 k18 .char (2 : Int32) [(.int (x1 &&& (255 : Int32))), (.int (x2 &&& (255 : Int32)))] (.int (0 : Int32)) := V20
          have f22 := (((A17.ext E18).wr W19).wr W20)
          have f23 := (((F17_value.ext E18).other W19 (Or.inl (Nat.ne_of_lt (by omega)))).other W20 (Or.inl (Nat.ne_of_lt (by omega))))
          have f24 := (((F17_coder.ext E18).other W19 (Or.inl (Nat.ne_of_lt (by omega)))).other W20 (Or.inl (Nat.ne_of_lt (by omega))))
          have f25 := (C20.safe (show h19.size > b17 by omega) (C19.safe (show h18.size > b17 by omega) (C18.safe (show h17.size > b17 by omega) L17)))
          refine ginfo fun _ _ O21 => ?_
          refine gcallI (y := mn24) hx rfl (ow hw 4 rfl) (ow hw 5 rfl) (ow hw 6 rfl) (by decide) (fun hZ H hEL => own_payNew (W := 1) (own_wNew hw) (ow hw 1 rfl) Scs hzc O21 (cs := [(x1 &&& (255 : Int32)), (x2 &&& (255 : Int32))]) (n := 2) n17 f22 f23 f24 V20 rfl rfl (by decide) (by decide) (bcons (b255 _) (bcons (b255 _) bnil)) f25 (by decide) (by decide) hZ H hEL) (a := b17) 101 (argsL := [(.ref b18)]) (rest := [(.ref b17)]) (lenOf own_pd604 rfl) rfl rfl (Nat.le_of_eq rfl) (by rw [hml]; rfl) (hb hby at_98) rfl (by decide) (by decide) ?_
          rintro _ vm21 h21 C21 ⟨t21, rfl, K21, g21, S21⟩
          have z21 := C21.2.1
          have lt_t21 : h21.size > t21 := S21.tlt
          refine gat0 ?_
          refine uSA 103 #[vi x0, vi x1, vi x2, vi x3, vi x4, vi (x0 &&& (3 : Int32)), vi (x1 &&& (255 : Int32)), vi (x2 &&& (255 : Int32)), vi (x3 &&& (255 : Int32)), vr b17, un, un, un, un, un, un, un, un] hx hby at_101 rfl rfl rfl ?_
          refine uG 133 hx hby at_103 (by decide) (by decide) ?_
          exact gmono (by decide) (by decide) (J1 _ _ _ ⟨b17, t21, [(x1 &&& (255 : Int32)), (x2 &&& (255 : Int32))], rfl, ((((((Keep.refl h0 []).ext E17).ext E18).wr W19 (Or.inr (by omega))).wr W20 (Or.inr (by omega))).trans K21 (allS (Or.inr (by omega)) all0)), ((((C17.trans C18).trans C19).trans C20).trans C21), S21, (own_pin2 aa2)⟩)
        · refine uYc 106 hx hby at_78 (feq aa2).2 (by decide) (by decide) ?_
          refine gnewO hx (ow hw 0 rfl) (ow hw 1 rfl) (ow hw 2 rfl) 109 (hb hby at_106) rfl (by decide) (by decide) ?_
          intro b26 h26 g26 E26 C26 A26 D26 n26 L26
          have z26 := C26.2.1
          have lt_b26 : h26.size > b26 := A26.lt
          have F26_value : Fld Z h26 b26 c4_ "value" "[B" .null := D26 (Or.inr (ow hw 16 rfl)) (ty := (.array .byte)) (by decide)
          have F26_coder : Fld Z h26 b26 c4_ "coder" "B" (.int (0 : Int32)) := D26 (Or.inr (ow hw 17 rfl)) (ty := .byte) (by decide)
          refine uD 110 hx hby at_109 rfl rfl ?_
          refine uKc 111 (3 : Int32) hx hby at_110 rfl rfl ?_
          refine gnewPE hx (ow hw 3 rfl) (n := (3 : Int32)) (by decide) (cap := 3) (by decide) (by decide) (ad := "[C") (by decide) 113 (hb hby at_111) rfl (by decide) (by decide) ?_
          intro b27 h27 k27 g27 E27 C27 V27 A27 n27 L27
          have z27 := C27.2.1
          have V27 : Arv Z h27 b27 k27 .char (3 : Int32) [(.int (0 : Int32)), (.int (0 : Int32)), (.int (0 : Int32))] (.int (0 : Int32)) := V27.pad (pad_rep [] (.int (0 : Int32)) 3)
          have lt_b27 : h27.size > b27 := V27.lt
          refine uD 114 hx hby at_113 rfl rfl ?_
          refine uKc 115 (0 : Int32) hx hby at_114 rfl rfl ?_
          refine uI 117 hx hby at_115 rfl rfl ?_
          refine gstC hx V27 ⟨by decide, by decide⟩ (i := 0) rfl (Nat.le_of_ble_eq_true rfl) (y := (x1 &&& (255 : Int32))) (narC _) n27 118 (hb hby at_117) rfl ?_
          intro h28 W28 C28 V28
          have z28 := C28.2.1
          replace V28 : Arv Z h28 b27 k27 .char (3 : Int32) [(.int (x1 &&& (255 : Int32))), (.int (0 : Int32)), (.int (0 : Int32))] (.int (0 : Int32)) := V28
          refine uD 119 hx hby at_118 rfl rfl ?_
          refine uKc 120 (1 : Int32) hx hby at_119 rfl rfl ?_
          refine uI 122 hx hby at_120 rfl rfl ?_
          refine gstC hx V28 ⟨by decide, by decide⟩ (i := 1) rfl (Nat.le_of_ble_eq_true rfl) (y := (x2 &&& (255 : Int32))) (narC _) n27 123 (hb hby at_122) rfl ?_
          intro h29 W29 C29 V29
          have z29 := C29.2.1
          replace V29 : Arv Z h29 b27 k27 .char (3 : Int32) [(.int (x1 &&& (255 : Int32))), (.int (x2 &&& (255 : Int32))), (.int (0 : Int32))] (.int (0 : Int32)) := V29
          refine uD 124 hx hby at_123 rfl rfl ?_
          refine uKc 125 (2 : Int32) hx hby at_124 rfl rfl ?_
          refine uI 127 hx hby at_125 rfl rfl ?_
          refine gstC hx V29 ⟨by decide, by decide⟩ (i := 2) rfl (Nat.le_of_ble_eq_true rfl) (y := (x3 &&& (255 : Int32))) (narC _) n27 128 (hb hby at_127) rfl ?_
          intro h30 W30 C30 V30
          have z30 := C30.2.1
          replace V30 : Arv Z h30 b27 k27 .char (3 : Int32) [(.int (x1 &&& (255 : Int32))), (.int (x2 &&& (255 : Int32))), (.int (x3 &&& (255 : Int32)))] (.int (0 : Int32)) := V30
          have f32 := ((((A26.ext E27).wr W28).wr W29).wr W30)
          have f33 := ((((F26_value.ext E27).other W28 (Or.inl (Nat.ne_of_lt (by omega)))).other W29 (Or.inl (Nat.ne_of_lt (by omega)))).other W30 (Or.inl (Nat.ne_of_lt (by omega))))
          have f34 := ((((F26_coder.ext E27).other W28 (Or.inl (Nat.ne_of_lt (by omega)))).other W29 (Or.inl (Nat.ne_of_lt (by omega)))).other W30 (Or.inl (Nat.ne_of_lt (by omega))))
          have f35 := (C30.safe (show h29.size > b26 by omega) (C29.safe (show h28.size > b26 by omega) (C28.safe (show h27.size > b26 by omega) (C27.safe (show h26.size > b26 by omega) L26))))
          refine ginfo fun _ _ O31 => ?_
          refine gcallI (y := mn24) hx rfl (ow hw 4 rfl) (ow hw 5 rfl) (ow hw 6 rfl) (by decide) (fun hZ H hEL => own_payNew (W := 1) (own_wNew hw) (ow hw 1 rfl) Scs hzc O31 (cs := [(x1 &&& (255 : Int32)), (x2 &&& (255 : Int32)), (x3 &&& (255 : Int32))]) (n := 3) n26 f32 f33 f34 V30 rfl rfl (by decide) (by decide) (bcons (b255 _) (bcons (b255 _) (bcons (b255 _) bnil))) f35 (by decide) (by decide) hZ H hEL) (a := b26) 131 (argsL := [(.ref b27)]) (rest := [(.ref b26)]) (lenOf own_pd604 rfl) rfl rfl (Nat.le_of_eq rfl) (by rw [hml]; rfl) (hb hby at_128) rfl (by decide) (by decide) ?_
          rintro _ vm31 h31 C31 ⟨t31, rfl, K31, g31, S31⟩
          have z31 := C31.2.1
          have lt_t31 : h31.size > t31 := S31.tlt
          refine gat0 ?_
          refine uSA 133 #[vi x0, vi x1, vi x2, vi x3, vi x4, vi (x0 &&& (3 : Int32)), vi (x1 &&& (255 : Int32)), vi (x2 &&& (255 : Int32)), vi (x3 &&& (255 : Int32)), vr b26, un, un, un, un, un, un, un, un] hx hby at_131 rfl rfl rfl ?_
          exact gmono (by decide) (by decide) (J1 _ _ _ ⟨b26, t31, [(x1 &&& (255 : Int32)), (x2 &&& (255 : Int32)), (x3 &&& (255 : Int32))], rfl, (((((((Keep.refl h0 []).ext E26).ext E27).wr W28 (Or.inr (by omega))).wr W29 (Or.inr (by omega))).wr W30 (Or.inr (by omega))).trans K31 (allS (Or.inr (by omega)) all0)), (((((C26.trans C27).trans C28).trans C29).trans C30).trans C31), S31, (own_pin3 aa0 aa1 aa2)⟩)
theorem comes_1 {Post : Tables → Env → Array Value → State → Outcome → State → Prop} (hpost : ∀ tb e args s v u, (limb_1_1.after args s (.returned v) u = true ∧ limb_1_2.after args s (.returned v) u = true ∧ True) → ReturnedEndW s (.returned v) u (Jvm.fieldLocs frame_1_writes args s ++ Jvm.arrayLocs frame_1_arrays args s ++ Jvm.staticLocs frame_1_statics s) 32 3264 → Post tb e args s (.returned v) u) :
    ArmFor flags0 classFile x code maxLocals ret World_1 tables_1 room_1 Calls_1 rest_1 Pre_1 Post := by
  intro l hfl _ _ p e ha hc hk s m args below hf hA hF happ hP
  obtain ⟨hcalls, hrest, hpre⟩ := hP
  obtain ⟨-, -, -, hnamed, -, -, -, hat⟩ := (Spec.applies_iff hf).mp happ
  obtain ⟨hg, hn⟩ := and_e (Cond.before_iff.mp (show (Jvm.Cond.and given_1 narrow_1).before args s = true from hpre))
  obtain ⟨gc, g0⟩ := and_e hg
  obtain ⟨ga0, g1⟩ := and_e g0
  obtain ⟨ga1, g2⟩ := and_e g1
  obtain ⟨ga2, g3⟩ := and_e g2
  obtain ⟨ga3, g4⟩ := and_e g3
  have ga4 := g4
  obtain ⟨w0, w1, w2, w3, w4, rfl⟩ : ∃ w0 w1 w2 w3 w4 : Value, args = #[w0, w1, w2, w3, w4] := by
    have hs : args.size = 5 := by simpa [Cond.value, given_1] using gc
    obtain ⟨L⟩ := args
    match L, hs with
    | [w0, w1, w2, w3, w4], _ => exact ⟨w0, w1, w2, w3, w4, rfl⟩
  have hw := fun d (hd : d ∈ tables_1) => atoms_spec (ws := Jvm.Cond.code x code maxLocals ret :: tables_1) hat d (List.mem_cons_of_mem _ hd)
  have hfit : Fit s := fun {y c} hc i hi => by
    obtain ⟨ha, rfl⟩ := Array.getElem?_eq_some_iff.mp hc
    have q := List.all_eq_true.mp ((Array.all_eq_true_iff_forall_mem.mp hF) _ (Array.getElem_mem ha)) i (List.mem_range.mpr hi)
    simpa [Array.getElem?_eq_getElem hi] using q
  obtain ⟨hsets, hown0⟩ := atoms_of _ (rest_1_c_eq ▸ (show rest_1_c.before _ s = true from hrest))
  obtain ⟨i0, ei0⟩ := is_v ga0
  obtain rfl : w0 = (.int i0) := Option.some.inj ei0
  obtain ⟨i1, ei1⟩ := is_v ga1
  obtain rfl : w1 = (.int i1) := Option.some.inj ei1
  obtain ⟨i2, ei2⟩ := is_v ga2
  obtain rfl : w2 = (.int i2) := Option.some.inj ei2
  obtain ⟨i3, ei3⟩ := is_v ga3
  obtain rfl : w3 = (.int i3) := Option.some.inj ei3
  obtain ⟨i4, ei4⟩ := is_v ga4
  obtain rfl : w4 = (.int i4) := Option.some.inj ei4
  obtain ⟨zc, eG⟩ := is_v (Cond.before_iff.mp (hsets _ (List.mem_of_getElem? (i := 1) rfl)))
  have Scs := Sta.start eG (Or.inl (hsets _ (List.mem_of_getElem? (i := 0) rfl)))
  have hcw := hsets _ (List.mem_of_getElem? (i := 2) rfl)
  have hzc : ¬ zc = 0 := by
    have q := not_v (Cond.before_iff.mp hcw)
    intro z
    have q2 := eq_i (x := .int zc) (y := .int 0) eG (Term.int_eval (0)) (by rw [z])
    rw [q2] at q; cases q
  obtain ⟨fm, eF, hfm⟩ := isR_v (Cond.before_iff.mp (hsets _ (List.mem_of_getElem? (i := 8) rfl)))
  have Sfm := Sta.start eF (Or.inl (hsets _ (List.mem_of_getElem? (i := 7) rfl)))
  have hEL : EW s _ consts_1 := (EW.cons (ow hw 29 rfl) (by decide +kernel) (EW.cons (ow hw 110 rfl) (by decide +kernel) (EW.cons (ow hw 14 rfl) (by decide +kernel) EW.nil)))
  have hCH : CHv s consts_1 s.vm s.heap := CHv.start hEL (fun p hp => hcalls.1 p hp) hcw (ow hw 15 rfl) (ow hw 1 rfl)
  obtain ⟨dg_go, kg_go, e_go, V_go⟩ := own_tbl (F := fun r => 48 + r % 10) hfit (hsets _ (List.mem_of_getElem? (i := 12) rfl)) (Cond.before_iff.mp (hsets _ (List.mem_of_getElem? (i := 13) rfl))) (hsets _ (List.mem_of_getElem? (i := 14) rfl)) (fun r hr => by rw [← own_num_go r hr]; rfl) (ow hw 15 rfl)
  obtain ⟨dg_gt, kg_gt, e_gt, V_gt⟩ := own_tbl (F := fun r => 48 + r / 10) hfit (hsets _ (List.mem_of_getElem? (i := 17) rfl)) (Cond.before_iff.mp (hsets _ (List.mem_of_getElem? (i := 18) rfl))) (hsets _ (List.mem_of_getElem? (i := 19) rfl)) (fun r hr => by rw [← own_num_gt r hr]; rfl) (ow hw 15 rfl)
  have hI0 : (∃ dg_go dg_gt : Addr, ∃ kg_go kg_gt : ClassId, Sta s s.heap c3_ "DigitOnes" "[B" (.ref dg_go) ∧ Arv s s.heap dg_go kg_go .byte (100 : Int32) own_vO (.int 0) ∧ Sta s s.heap c3_ "DigitTens" "[B" (.ref dg_gt) ∧ Arv s s.heap dg_gt kg_gt .byte (100 : Int32) own_vT (.int 0)) := ⟨dg_go, dg_gt, kg_go, kg_gt, Sta.start e_go (Or.inl (hsets _ (List.mem_of_getElem? (i := 11) rfl))), V_go, Sta.start e_gt (Or.inl (hsets _ (List.mem_of_getElem? (i := 16) rfl))), V_gt⟩
  have cx : Ctx s _ := ⟨hw, hEL, ⟨zc, Scs, hzc⟩, ⟨fm, Sfm, hfm⟩, hI0⟩
  obtain ⟨n, o, h1, h2, h3, _, L, rfl, ⟨N, ⟨rfl, -⟩⟩, -, hq⟩ := own_law l s _ cx tables_1 i0 i1 i2 i3 i4 s.vm s.heap ⟨Nat.le_refl _, fun _ _ q => q⟩ p e ha hc hk s m _ below hf ((Spec.applies_iff_loose hf).mp happ).1 ⟨rfl, State.Warmed39.refl s, rfl, CHr.refl hCH, State.Warmed39.of_rootvm (s := s) rfl (State.Warmed39.refl s)⟩ trivial
  refine ⟨n, _, h1, h2, h3, hpost _ _ _ _ _ _ ⟨Cond.after_iff.mpr rfl, Cond.after_iff.mpr (eq_i res_at (Term.int_eval (1)) rfl), trivial⟩ ⟨hq.1, hq.2.1, hq.2.2.1, (hq.2.2.2.sift fun y hy => Or.inr (N y hy)).mono (by decide) (by decide)⟩⟩
theorem main_1_1 : Claimed_1_1 := comes_1 fun _ _ _ _ _ _ h hF => ⟨h.1, hF⟩
theorem main_1_2 : Claimed_1_2 := comes_1 fun _ _ _ _ _ _ h hF => ⟨h.2.1, hF⟩
end Jvm.Pilot.@@N@@
namespace Jvm.Pilot.@@N@@
open Jvm Jvm.ClassFile Sem Op Lib Jvm.Free Jvm.Stand Jvm.Pilot.@@N@@.Jvm.D
/-! MADE BY PROGRAM (witnessworld.py) out of the Statement's table words and the real class files: 29 classes; the members and pool entries that the words name. The judged class is class 1, her method 5. -/
namespace start1
open Jvm.ClassFile
def u (s : String) : CpInfo := .utf8 (stringToUtf16 s)
/-- a pool by its gaps: so many unusable entries, then the entry; so many at the end -/
def gap : Nat → List CpInfo → List CpInfo
  | 0, r => r
  | n + 1, r => .unusable :: gap n r
def poolList (es : List (Nat × CpInfo)) (last : Nat) : List CpInfo := es.foldr (fun e r => gap e.1 (e.2 :: r)) (gap last [])
def pool (es : List (Nat × CpInfo)) (last : Nat) : Array CpInfo := ⟨poolList es last⟩
def fileOf (pool : Array CpInfo) (this : Nat) (attrs : Array Attribute := #[]) (ms : Array MethodInfo := #[]) (fl : Nat := 33) (sup : Nat := 0) (ifs : Array Nat := #[]) (fds : Array FieldInfo := #[]) : ClassFile where
  minorVersion := 0
  majorVersion := 65
  constantPool := pool
  accessFlags := fl
  thisClass := this
  superClass := sup
  interfaces := ifs
  fields := fds
  methods := ms
  attributes := attrs
def plain (name : String) (sup : Option ClassId) : Class where
  name := name
  kind := .ordinary
  loader := none
  accessFlags := 33
  super := sup
  interfaces := #[]
  cf := none
  fields := #[]
  methods := #[]
  instanceTypes := #[]
  staticTypes := #[]
  resolved := #[]
  callSites := []
  init := .initialized
  statics := none
  mirror := none

def pool0 : Array CpInfo := pool [(5, u "<init>"), (0, u "()V"), (1, .class_ 10), (1, u "java/lang/Object")] 113

def k0c0 : Code := { maxStack := 0, maxLocals := 1, code := object_method_1_code, exceptionTable := #[], attributes := #[] }
def k0m0 : Method := { name := "<init>", desc := "()V", sig := { parameters := [], returnType := none }, accessFlags := 1, code := some k0c0 }
/-- java/lang/Object -/
def k0 : Class := { plain "java/lang/Object" none with
  accessFlags := 33
  interfaces := #[]
  cf := some (fileOf pool0 8 #[] #[{ accessFlags := 1, nameIndex := 5, descriptorIndex := 6, attributes := #[] }] 33 0 #[] #[])
  fields := #[]
  methods := #[k0m0]
  instanceTypes := #[]
  staticTypes := #[]
  resolved := Array.replicate 124 none
  statics := none }

def pool1 : Array CpInfo := pool [(2, .class_ 4), (1, u "java/lang/Object"), (0, u "<init>"), (0, u "()V"), (0, .long 10), (1, .long 100), (1, .long 1000), (1, .long 10000), (1, .long 100000), (1, .long 1000000), (1, .long 10000000), (1, .long 100000000), (1, .long 1000000000), (1, .methodref 26 27), (0, .class_ 28), (0, .nameAndType 29 30), (0, u "java/lang/String"), (0, u "charAt"), (0, u "(I)C"), (0, .methodref 32 33), (0, .class_ 34), (0, .nameAndType 35 36), (0, u "com/example/tasks_to_members/taskstomembers/core/TaskToStringPinLaw"), (0, u "pow10"), (0, u "(I)J"), (0, .methodref 26 38), (0, .nameAndType 5 39), (0, u "([C)V"), (0, .class_ 41), (0, u "com/example/tasks_to_members/taskstomembers/core/Task"), (0, .methodref 40 43), (0, .nameAndType 5 44), (0, u "(Ljava/lang/String;I)V"), (0, .methodref 40 46), (0, .nameAndType 47 48), (0, u "toString"), (0, u "()Ljava/lang/String;"), (0, .methodref 50 51), (0, .class_ 52), (0, .nameAndType 53 54), (0, u "java/lang/Math"), (0, u "abs"), (0, u "(J)J"), (0, .methodref 32 56), (0, .nameAndType 57 58), (0, u "digits"), (0, u "(J)I"), (0, .methodref 26 60), (0, .nameAndType 61 62), (0, u "length"), (0, u "()I"), (0, .methodref 32 64), (0, .nameAndType 65 66), (0, u "charOk"), (0, u "(Ljava/lang/String;IIC)Z"), (0, .methodref 32 68), (0, .nameAndType 69 70), (0, u "digitOk"), (0, u "(Ljava/lang/String;IJII)Z"), (3, u "law"), (0, u "(IIIII)Z")] 2

def k1m0 : Method := { name := "<init>", desc := "()V", sig := { parameters := [], returnType := none }, accessFlags := 1, code := none }
def k1c1 : Code := { maxStack := 2, maxLocals := 1, code := method_2_code, exceptionTable := #[], attributes := #[] }
def k1m1 : Method := { name := "pow10", desc := "(I)J", sig := { parameters := [.int], returnType := some .long }, accessFlags := 10, code := some k1c1 }
def k1c2 : Code := { maxStack := 4, maxLocals := 2, code := method_3_code, exceptionTable := #[], attributes := #[] }
def k1m2 : Method := { name := "digits", desc := "(J)I", sig := { parameters := [.long], returnType := some .int }, accessFlags := 10, code := some k1c2 }
def k1c3 : Code := { maxStack := 2, maxLocals := 4, code := method_4_code, exceptionTable := #[], attributes := #[] }
def k1m3 : Method := { name := "charOk", desc := "(Ljava/lang/String;IIC)Z", sig := { parameters := [(.object "java/lang/String"), .int, .int, .char], returnType := some .boolean }, accessFlags := 10, code := some k1c3 }
def k1c4 : Code := { maxStack := 4, maxLocals := 8, code := method_5_code, exceptionTable := #[], attributes := #[] }
def k1m4 : Method := { name := "digitOk", desc := "(Ljava/lang/String;IJII)Z", sig := { parameters := [(.object "java/lang/String"), .int, .long, .int, .int], returnType := some .boolean }, accessFlags := 10, code := some k1c4 }
def k1c5 : Code := { maxStack := 6, maxLocals := 18, code := code, exceptionTable := #[], attributes := #[] }
def k1m5 : Method := { name := "law", desc := "(IIIII)Z", sig := { parameters := [.int, .int, .int, .int, .int], returnType := some .boolean }, accessFlags := 9, code := some k1c5 }
/-- com/example/tasks_to_members/taskstomembers/core/TaskToStringPinLaw -/
def k1 : Class := { plain "com/example/tasks_to_members/taskstomembers/core/TaskToStringPinLaw" (some 0) with
  accessFlags := 49
  interfaces := #[]
  cf := some (fileOf pool1 32 #[] #[{ accessFlags := 1, nameIndex := 5, descriptorIndex := 6, attributes := #[] }, { accessFlags := 10, nameIndex := 35, descriptorIndex := 36, attributes := #[] }, { accessFlags := 10, nameIndex := 57, descriptorIndex := 58, attributes := #[] }, { accessFlags := 10, nameIndex := 65, descriptorIndex := 66, attributes := #[] }, { accessFlags := 10, nameIndex := 69, descriptorIndex := 70, attributes := #[] }, { accessFlags := 9, nameIndex := 74, descriptorIndex := 75, attributes := #[] }] 49 2 #[] #[])
  fields := #[]
  methods := #[k1m0, k1m1, k1m2, k1m3, k1m4, k1m5]
  instanceTypes := #[]
  staticTypes := #[]
  resolved := Array.replicate 78 none
  statics := none }

def pool2 : Array CpInfo := pool [(1, .class_ 2), (0, u "java/io/Serializable"), (0, .class_ 4), (0, u "java/lang/Object")] 2

/-- java/io/Serializable -/
def k2 : Class := { plain "java/io/Serializable" (some 0) with
  accessFlags := 1537
  interfaces := #[]
  cf := some (fileOf pool2 1 #[] #[] 1537 3 #[] #[])
  fields := #[]
  methods := #[]
  instanceTypes := #[]
  staticTypes := #[]
  resolved := Array.replicate 7 none
  statics := none }

def pool3 : Array CpInfo := pool [(1, .class_ 2), (0, u "java/lang/Comparable"), (0, .class_ 4), (0, u "java/lang/Object")] 7

/-- java/lang/Comparable -/
def k3 : Class := { plain "java/lang/Comparable" (some 0) with
  accessFlags := 1537
  interfaces := #[]
  cf := some (fileOf pool3 1 #[] #[] 1537 3 #[] #[])
  fields := #[]
  methods := #[]
  instanceTypes := #[]
  staticTypes := #[]
  resolved := Array.replicate 12 none
  statics := none }

def pool4 : Array CpInfo := pool [(2, .class_ 4), (1, u "java/lang/CharSequence"), (42, .class_ 48), (0, u "java/lang/CharSequence$1CodePointIterator"), (10, .class_ 60), (0, u "java/lang/CharSequence$1CharIterator"), (5, .class_ 67), (0, u "java/lang/Object")] 63

/-- java/lang/CharSequence -/
def k4 : Class := { plain "java/lang/CharSequence" (some 0) with
  accessFlags := 1537
  interfaces := #[]
  cf := some (fileOf pool4 2 #[.nestMembers #[47, 59]] #[] 1537 66 #[] #[])
  fields := #[]
  methods := #[]
  instanceTypes := #[]
  staticTypes := #[]
  resolved := Array.replicate 131 none
  statics := none }

def pool5 : Array CpInfo := pool [(1, .class_ 2), (0, u "java/lang/constant/Constable"), (0, .class_ 4), (0, u "java/lang/Object")] 6

/-- java/lang/constant/Constable -/
def k5 : Class := { plain "java/lang/constant/Constable" (some 0) with
  accessFlags := 1537
  interfaces := #[]
  cf := some (fileOf pool5 1 #[] #[] 1537 3 #[] #[])
  fields := #[]
  methods := #[]
  instanceTypes := #[]
  staticTypes := #[]
  resolved := Array.replicate 11 none
  statics := none }

def pool6 : Array CpInfo := pool [(1, .class_ 2), (0, u "java/lang/constant/ConstantDesc"), (0, .class_ 4), (0, u "java/lang/Object")] 32

/-- java/lang/constant/ConstantDesc -/
def k6 : Class := { plain "java/lang/constant/ConstantDesc" (some 0) with
  accessFlags := 1537
  interfaces := #[]
  cf := some (fileOf pool6 1 #[] #[] 1537 3 #[] #[])
  fields := #[]
  methods := #[]
  instanceTypes := #[]
  staticTypes := #[]
  resolved := Array.replicate 37 none
  statics := none }

def pool7 : Array CpInfo := pool [(1, .methodref 2 3), (0, .class_ 4), (0, .nameAndType 5 6), (0, u "java/lang/Object"), (0, u "<init>"), (0, u "()V"), (0, .string 8), (0, u ""), (0, .fieldref 10 11), (0, .class_ 12), (0, .nameAndType 13 14), (0, u "java/lang/String"), (0, u "value"), (0, u "[B"), (0, .fieldref 10 16), (0, .nameAndType 17 18), (0, u "coder"), (0, u "B"), (2, u "hash"), (0, u "I"), (2, u "hashIsZero"), (0, u "Z"), (0, .methodref 10 28), (0, .nameAndType 5 29), (0, u "([CIILjava/lang/Void;)V"), (8, .fieldref 10 39), (0, .nameAndType 40 26), (0, u "COMPACT_STRINGS"), (1, .class_ 44), (1, u "java/lang/StringUTF16"), (0, u "compress"), (1, .methodref 42 48), (0, .nameAndType 49 50), (0, u "coderFromArrayLen"), (0, u "([BI)B"), (3, .methodref 55 56), (0, .class_ 57), (0, .nameAndType 58 59), (0, u "java/util/Arrays"), (0, u "copyOfRange"), (0, u "([BII)[B"), (47, .class_ 109), (1, u "java/lang/StringLatin1"), (32, u "()Z"), (34, .methodref 42 178), (0, .nameAndType 45 179), (0, u "([CII)[B"), (13, .class_ 195), (1, u "java/lang/System"), (16, .methodref 193 213), (0, .nameAndType 214 215), (0, u "arraycopy"), (0, u "(Ljava/lang/Object;ILjava/lang/Object;II)V"), (118, u "()I"), (0, .methodref 10 336), (0, .nameAndType 17 337), (0, u "()B"), (2, u "()[B"), (22, u "([BI)C"), (27, u "(II)V"), (35, u "(I)C"), (61, .methodref 10 490), (0, .nameAndType 5 491), (0, u "(Ljava/lang/AbstractStringBuilder;Ljava/lang/Void;)V"), (0, .methodref 10 493), (0, .nameAndType 494 142), (0, u "isLatin1"), (0, .methodref 107 496), (0, .nameAndType 497 363), (0, u "charAt"), (3, u "checkIndex"), (4, .nameAndType 507 334), (0, u "length"), (24, u "getBytes"), (16, .methodref 550 506), (0, .class_ 551), (0, u "java/lang/AbstractStringBuilder"), (0, .methodref 550 553), (0, .nameAndType 554 340), (0, u "getValue"), (20, .class_ 576), (0, u "java/lang/CharSequence"), (22, u "CASE_INSENSITIVE_ORDER"), (0, u "Ljava/util/Comparator;"), (220, u "([BIB)V"), (188, u "([C)V"), (36, .methodref 550 493), (5, .fieldref 1054 1055), (0, .class_ 1056), (0, .nameAndType 1057 1058), (0, u "jdk/internal/util/Preconditions"), (0, u "SIOOBE_FORMATTER"), (0, u "Ljava/util/function/BiFunction;"), (0, .methodref 1054 1060), (0, .nameAndType 501 1061), (0, u "(IILjava/util/function/BiFunction;)I"), (39, u "serialPersistentFields"), (0, u "[Ljava/io/ObjectStreamField;"), (0, .class_ 1104), (0, u "java/lang/String$CaseInsensitiveComparator"), (1, .class_ 1107), (0, u "java/io/Serializable"), (0, .class_ 1109), (0, u "java/lang/Comparable"), (0, .class_ 1111), (0, u "java/lang/constant/Constable"), (0, .class_ 1113), (0, u "java/lang/constant/ConstantDesc"), (2, u "serialVersionUID"), (0, u "J"), (3, u "REPL"), (0, u "C"), (2, u "LATIN1"), (1, u "UTF16"), (105, u "(Ljava/lang/StringBuilder;)V")] 217

def k7m0 : Method := { name := "<init>", desc := "()V", sig := { parameters := [], returnType := none }, accessFlags := 1, code := none }
def k7c1 : Code := { maxStack := 5, maxLocals := 2, code := jdk_42_method_3_code, exceptionTable := #[], attributes := #[] }
def k7m1 : Method := { name := "<init>", desc := "([C)V", sig := { parameters := [(.array .char)], returnType := none }, accessFlags := 1, code := some k7c1 }
def k7c2 : Code := { maxStack := 3, maxLocals := 2, code := jdk_42_method_53_code, exceptionTable := #[], attributes := #[] }
def k7m2 : Method := { name := "<init>", desc := "(Ljava/lang/StringBuilder;)V", sig := { parameters := [(.object "java/lang/StringBuilder")], returnType := none }, accessFlags := 1, code := some k7c2 }
def k7c3 : Code := { maxStack := 2, maxLocals := 1, code := jdk_42_method_54_code, exceptionTable := #[], attributes := #[] }
def k7m3 : Method := { name := "length", desc := "()I", sig := { parameters := [], returnType := some .int }, accessFlags := 1, code := some k7c3 }
def k7c4 : Code := { maxStack := 2, maxLocals := 2, code := jdk_42_method_56_code, exceptionTable := #[], attributes := #[] }
def k7m4 : Method := { name := "charAt", desc := "(I)C", sig := { parameters := [.int], returnType := some .char }, accessFlags := 1, code := some k7c4 }
def k7c5 : Code := { maxStack := 5, maxLocals := 4, code := jdk_42_method_147_code, exceptionTable := #[], attributes := #[] }
def k7m5 : Method := { name := "getBytes", desc := "([BIB)V", sig := { parameters := [(.array .byte), .int, .byte], returnType := none }, accessFlags := 0, code := some k7c5 }
def k7c6 : Code := { maxStack := 4, maxLocals := 6, code := jdk_42_method_149_code, exceptionTable := #[], attributes := #[] }
def k7m6 : Method := { name := "<init>", desc := "([CIILjava/lang/Void;)V", sig := { parameters := [(.array .char), .int, .int, (.object "java/lang/Void")], returnType := none }, accessFlags := 2, code := some k7c6 }
def k7c7 : Code := { maxStack := 5, maxLocals := 5, code := jdk_42_method_150_code, exceptionTable := #[], attributes := #[] }
def k7m7 : Method := { name := "<init>", desc := "(Ljava/lang/AbstractStringBuilder;Ljava/lang/Void;)V", sig := { parameters := [(.object "java/lang/AbstractStringBuilder"), (.object "java/lang/Void")], returnType := none }, accessFlags := 0, code := some k7c7 }
def k7c8 : Code := { maxStack := 1, maxLocals := 1, code := jdk_42_method_152_code, exceptionTable := #[], attributes := #[] }
def k7m8 : Method := { name := "coder", desc := "()B", sig := { parameters := [], returnType := some .byte }, accessFlags := 0, code := some k7c8 }
def k7c9 : Code := { maxStack := 1, maxLocals := 1, code := jdk_42_method_154_code, exceptionTable := #[], attributes := #[] }
def k7m9 : Method := { name := "isLatin1", desc := "()Z", sig := { parameters := [], returnType := some .boolean }, accessFlags := 0, code := some k7c9 }
def k7c10 : Code := { maxStack := 3, maxLocals := 2, code := jdk_42_method_155_code, exceptionTable := #[], attributes := #[] }
def k7m10 : Method := { name := "checkIndex", desc := "(II)V", sig := { parameters := [.int, .int], returnType := none }, accessFlags := 8, code := some k7c10 }
/-- java/lang/String -/
def k7 : Class := { plain "java/lang/String" (some 0) with
  accessFlags := 49
  interfaces := #[2, 3, 4, 5, 6]
  cf := some (fileOf pool7 10 #[.nestMembers #[1103]] #[{ accessFlags := 1, nameIndex := 5, descriptorIndex := 6, attributes := #[] }, { accessFlags := 1, nameIndex := 5, descriptorIndex := 1010, attributes := #[] }, { accessFlags := 1, nameIndex := 5, descriptorIndex := 1233, attributes := #[] }, { accessFlags := 1, nameIndex := 507, descriptorIndex := 334, attributes := #[] }, { accessFlags := 1, nameIndex := 497, descriptorIndex := 427, attributes := #[] }, { accessFlags := 0, nameIndex := 532, descriptorIndex := 821, attributes := #[] }, { accessFlags := 2, nameIndex := 5, descriptorIndex := 29, attributes := #[] }, { accessFlags := 0, nameIndex := 5, descriptorIndex := 491, attributes := #[] }, { accessFlags := 0, nameIndex := 17, descriptorIndex := 337, attributes := #[] }, { accessFlags := 0, nameIndex := 494, descriptorIndex := 142, attributes := #[] }, { accessFlags := 8, nameIndex := 501, descriptorIndex := 391, attributes := #[] }] 49 2 #[1106, 1108, 575, 1110, 1112] #[{ accessFlags := 18, nameIndex := 13, descriptorIndex := 14, attributes := #[] }, { accessFlags := 18, nameIndex := 17, descriptorIndex := 18, attributes := #[] }, { accessFlags := 2, nameIndex := 21, descriptorIndex := 22, attributes := #[] }, { accessFlags := 2, nameIndex := 25, descriptorIndex := 26, attributes := #[] }, { accessFlags := 26, nameIndex := 1116, descriptorIndex := 1117, attributes := #[] }, { accessFlags := 24, nameIndex := 40, descriptorIndex := 26, attributes := #[] }, { accessFlags := 26, nameIndex := 1101, descriptorIndex := 1102, attributes := #[] }, { accessFlags := 26, nameIndex := 1121, descriptorIndex := 1122, attributes := #[] }, { accessFlags := 25, nameIndex := 599, descriptorIndex := 600, attributes := #[] }, { accessFlags := 24, nameIndex := 1125, descriptorIndex := 18, attributes := #[] }, { accessFlags := 24, nameIndex := 1127, descriptorIndex := 18, attributes := #[] }])
  fields := #[{ name := "value", type := (.array .byte), accessFlags := 18, slot := 0, constantValue := 0 }, { name := "coder", type := .byte, accessFlags := 18, slot := 1, constantValue := 0 }, { name := "hash", type := .int, accessFlags := 2, slot := 2, constantValue := 0 }, { name := "hashIsZero", type := .boolean, accessFlags := 2, slot := 3, constantValue := 0 }, { name := "serialVersionUID", type := .long, accessFlags := 26, slot := 0, constantValue := 0 }, { name := "COMPACT_STRINGS", type := .boolean, accessFlags := 24, slot := 1, constantValue := 0 }, { name := "serialPersistentFields", type := (.array (.object "java/io/ObjectStreamField")), accessFlags := 26, slot := 2, constantValue := 0 }, { name := "REPL", type := .char, accessFlags := 26, slot := 3, constantValue := 0 }, { name := "CASE_INSENSITIVE_ORDER", type := (.object "java/util/Comparator"), accessFlags := 25, slot := 4, constantValue := 0 }, { name := "LATIN1", type := .byte, accessFlags := 24, slot := 5, constantValue := 0 }, { name := "UTF16", type := .byte, accessFlags := 24, slot := 6, constantValue := 0 }]
  methods := #[k7m0, k7m1, k7m2, k7m3, k7m4, k7m5, k7m6, k7m7, k7m8, k7m9, k7m10]
  instanceTypes := #[(.array .byte), .byte, .int, .boolean]
  staticTypes := #[.long, .boolean, (.array (.object "java/io/ObjectStreamField")), .char, (.object "java/util/Comparator"), .byte, .byte]
  resolved := Array.replicate 1451 none
  statics := some 0 }

def pool8 : Array CpInfo := pool [(1, .methodref 2 3), (0, .class_ 4), (0, .nameAndType 5 6), (0, u "java/lang/Object"), (0, u "<init>"), (0, u "()V"), (0, .string 8), (0, u "subtopology id"), (0, .methodref 10 11), (0, .class_ 12), (0, .nameAndType 13 14), (0, u "java/util/Objects"), (0, u "requireNonNull"), (0, u "(Ljava/lang/Object;Ljava/lang/String;)Ljava/lang/Object;"), (0, .class_ 16), (0, u "java/lang/String"), (0, .fieldref 18 19), (0, .class_ 20), (0, .nameAndType 21 22), (0, u "com/example/tasks_to_members/taskstomembers/core/Task"), (0, u "subtopologyId"), (0, u "Ljava/lang/String;"), (0, .fieldref 18 24), (0, .nameAndType 25 26), (0, u "partition"), (0, u "I"), (18, .class_ 46), (0, u "java/lang/StringBuilder"), (0, .methodref 45 3), (0, .methodref 45 49), (0, .nameAndType 50 51), (0, u "append"), (0, u "(Ljava/lang/String;)Ljava/lang/StringBuilder;"), (0, .string 53), (0, u "_"), (0, .methodref 45 55), (0, .nameAndType 50 56), (0, u "(I)Ljava/lang/StringBuilder;"), (0, .methodref 45 58), (0, .nameAndType 59 60), (0, u "toString"), (0, u "()Ljava/lang/String;"), (3, .class_ 65), (0, u "java/lang/Comparable"), (0, u "(Ljava/lang/String;I)V")] 9

def k8c0 : Code := { maxStack := 3, maxLocals := 3, code := prog_6_method_1_code, exceptionTable := #[], attributes := #[] }
def k8m0 : Method := { name := "<init>", desc := "(Ljava/lang/String;I)V", sig := { parameters := [(.object "java/lang/String"), .int], returnType := none }, accessFlags := 1, code := some k8c0 }
def k8c1 : Code := { maxStack := 2, maxLocals := 1, code := prog_6_method_7_code, exceptionTable := #[], attributes := #[] }
def k8m1 : Method := { name := "toString", desc := "()Ljava/lang/String;", sig := { parameters := [], returnType := some (.object "java/lang/String") }, accessFlags := 1, code := some k8c1 }
/-- com/example/tasks_to_members/taskstomembers/core/Task -/
def k8 : Class := { plain "com/example/tasks_to_members/taskstomembers/core/Task" (some 0) with
  accessFlags := 49
  interfaces := #[3]
  cf := some (fileOf pool8 18 #[] #[{ accessFlags := 1, nameIndex := 5, descriptorIndex := 66, attributes := #[] }, { accessFlags := 1, nameIndex := 59, descriptorIndex := 60, attributes := #[] }] 49 2 #[64] #[{ accessFlags := 18, nameIndex := 21, descriptorIndex := 22, attributes := #[] }, { accessFlags := 18, nameIndex := 25, descriptorIndex := 26, attributes := #[] }])
  fields := #[{ name := "subtopologyId", type := (.object "java/lang/String"), accessFlags := 18, slot := 0, constantValue := 0 }, { name := "partition", type := .int, accessFlags := 18, slot := 1, constantValue := 0 }]
  methods := #[k8m0, k8m1]
  instanceTypes := #[(.object "java/lang/String"), .int]
  staticTypes := #[]
  resolved := Array.replicate 76 none
  statics := none }

def pool9 : Array CpInfo := pool [(2, .class_ 4), (1, u "java/lang/Object"), (0, u "<init>"), (0, u "()V"), (35, .class_ 44), (1, u "java/util/Objects"), (0, u "requireNonNull"), (48, u "(Ljava/lang/Object;Ljava/lang/String;)Ljava/lang/Object;")] 89

def k9m0 : Method := { name := "<init>", desc := "()V", sig := { parameters := [], returnType := none }, accessFlags := 2, code := none }
def k9c1 : Code := { maxStack := 3, maxLocals := 2, code := jdk_31_method_11_code, exceptionTable := #[], attributes := #[] }
def k9m1 : Method := { name := "requireNonNull", desc := "(Ljava/lang/Object;Ljava/lang/String;)Ljava/lang/Object;", sig := { parameters := [(.object "java/lang/Object"), (.object "java/lang/String")], returnType := some (.object "java/lang/Object") }, accessFlags := 9, code := some k9c1 }
/-- java/util/Objects -/
def k9 : Class := { plain "java/util/Objects" (some 0) with
  accessFlags := 49
  interfaces := #[]
  cf := some (fileOf pool9 42 #[] #[{ accessFlags := 2, nameIndex := 5, descriptorIndex := 6, attributes := #[] }, { accessFlags := 9, nameIndex := 45, descriptorIndex := 94, attributes := #[] }] 49 2 #[] #[])
  fields := #[]
  methods := #[k9m0, k9m1]
  instanceTypes := #[]
  staticTypes := #[]
  resolved := Array.replicate 184 none
  statics := none }

def pool10 : Array CpInfo := pool [(1, .class_ 2), (0, u "java/lang/Appendable"), (0, .class_ 4), (0, u "java/lang/Object")] 9

/-- java/lang/Appendable -/
def k10 : Class := { plain "java/lang/Appendable" (some 0) with
  accessFlags := 1537
  interfaces := #[]
  cf := some (fileOf pool10 1 #[] #[] 1537 3 #[] #[])
  fields := #[]
  methods := #[]
  instanceTypes := #[]
  staticTypes := #[]
  resolved := Array.replicate 14 none
  statics := none }

def pool11 : Array CpInfo := pool [(1, .class_ 2), (0, u "java/lang/String"), (0, .methodref 4 5), (0, .class_ 6), (0, .nameAndType 7 8), (0, u "java/lang/Object"), (0, u "<init>"), (0, u "()V"), (1, .class_ 12), (1, u "java/lang/AbstractStringBuilder"), (0, u "EMPTYVALUE"), (0, u "[B"), (0, .fieldref 10 16), (0, .nameAndType 17 14), (0, u "value"), (0, .fieldref 1 19), (0, .nameAndType 20 21), (0, u "COMPACT_STRINGS"), (0, u "Z"), (0, .fieldref 10 23), (0, .nameAndType 24 25), (0, u "coder"), (0, u "B"), (6, .methodref 1 33), (0, .nameAndType 34 35), (0, u "length"), (0, u "()I"), (0, .class_ 37), (0, u "java/lang/Integer"), (2, .methodref 1 41), (0, .nameAndType 24 42), (0, u "()B"), (2, u "append"), (0, u "(Ljava/lang/String;)Ljava/lang/AbstractStringBuilder;"), (1, .class_ 49), (0, u "java/lang/CharSequence"), (19, u "(Ljava/lang/String;)V"), (5, u "maybeLatin1"), (3, .fieldref 10 80), (0, .nameAndType 81 82), (0, u "count"), (0, u "I"), (0, .methodref 10 84), (0, .nameAndType 85 86), (0, u "isLatin1"), (0, u "()Z"), (13, .methodref 10 101), (0, .nameAndType 102 103), (0, u "ensureCapacityInternal"), (0, u "(I)V"), (3, u "(I)I"), (80, u "getChars"), (19, .methodref 10 209), (0, .nameAndType 210 211), (0, u "putStringAt"), (0, u "(ILjava/lang/String;)V"), (5, u "inflateIfNeededFor"), (2, .nameAndType 221 222), (0, u "getBytes"), (0, u "([BIB)V"), (22, .methodref 36 246), (0, .nameAndType 247 107), (0, u "stringSize"), (0, .methodref 36 249), (0, .nameAndType 188 250), (0, u "(II[B)I"), (146, .methodref 10 398), (0, .nameAndType 217 69), (0, .methodref 1 220), (3, u "()[B"), (40, .class_ 445), (0, u "java/lang/Appendable"), (65, u "(I)Ljava/lang/AbstractStringBuilder;"), (40, u "getValue")] 56

def k11m0 : Method := { name := "<init>", desc := "()V", sig := { parameters := [], returnType := none }, accessFlags := 0, code := none }
def k11c1 : Code := { maxStack := 2, maxLocals := 2, code := jdk_68_method_2_code, exceptionTable := #[], attributes := #[] }
def k11m1 : Method := { name := "<init>", desc := "(I)V", sig := { parameters := [.int], returnType := none }, accessFlags := 0, code := some k11c1 }
def k11c2 : Code := { maxStack := 1, maxLocals := 1, code := jdk_68_method_6_code, exceptionTable := #[], attributes := #[] }
def k11m2 : Method := { name := "length", desc := "()I", sig := { parameters := [], returnType := some .int }, accessFlags := 1, code := some k11c2 }
def k11c3 : Code := { maxStack := 4, maxLocals := 3, code := jdk_68_method_9_code, exceptionTable := #[], attributes := #[] }
def k11m3 : Method := { name := "ensureCapacityInternal", desc := "(I)V", sig := { parameters := [.int], returnType := none }, accessFlags := 2, code := some k11c3 }
def k11c4 : Code := { maxStack := 3, maxLocals := 3, code := jdk_68_method_22_code, exceptionTable := #[], attributes := #[] }
def k11m4 : Method := { name := "append", desc := "(Ljava/lang/String;)Ljava/lang/AbstractStringBuilder;", sig := { parameters := [(.object "java/lang/String")], returnType := some (.object "java/lang/AbstractStringBuilder") }, accessFlags := 1, code := some k11c4 }
def k11c5 : Code := { maxStack := 4, maxLocals := 4, code := jdk_68_method_32_code, exceptionTable := #[], attributes := #[] }
def k11m5 : Method := { name := "append", desc := "(I)Ljava/lang/AbstractStringBuilder;", sig := { parameters := [.int], returnType := some (.object "java/lang/AbstractStringBuilder") }, accessFlags := 1, code := some k11c5 }
def k11c6 : Code := { maxStack := 1, maxLocals := 1, code := jdk_68_method_64_code, exceptionTable := #[], attributes := #[] }
def k11m6 : Method := { name := "getValue", desc := "()[B", sig := { parameters := [], returnType := some (.array .byte) }, accessFlags := 16, code := some k11c6 }
def k11c7 : Code := { maxStack := 1, maxLocals := 1, code := jdk_68_method_68_code, exceptionTable := #[], attributes := #[] }
def k11m7 : Method := { name := "isLatin1", desc := "()Z", sig := { parameters := [], returnType := some .boolean }, accessFlags := 16, code := some k11c7 }
def k11c8 : Code := { maxStack := 2, maxLocals := 2, code := jdk_68_method_71_code, exceptionTable := #[], attributes := #[] }
def k11m8 : Method := { name := "inflateIfNeededFor", desc := "(Ljava/lang/String;)V", sig := { parameters := [(.object "java/lang/String")], returnType := none }, accessFlags := 2, code := some k11c8 }
def k11c9 : Code := { maxStack := 4, maxLocals := 3, code := jdk_68_method_73_code, exceptionTable := #[], attributes := #[] }
def k11m9 : Method := { name := "putStringAt", desc := "(ILjava/lang/String;)V", sig := { parameters := [.int, (.object "java/lang/String")], returnType := none }, accessFlags := 2, code := some k11c9 }
/-- java/lang/AbstractStringBuilder -/
def k11 : Class := { plain "java/lang/AbstractStringBuilder" (some 0) with
  accessFlags := 1056
  interfaces := #[10, 4]
  cf := some (fileOf pool11 10 #[] #[{ accessFlags := 0, nameIndex := 7, descriptorIndex := 8, attributes := #[] }, { accessFlags := 0, nameIndex := 7, descriptorIndex := 103, attributes := #[] }, { accessFlags := 1, nameIndex := 34, descriptorIndex := 35, attributes := #[] }, { accessFlags := 2, nameIndex := 102, descriptorIndex := 103, attributes := #[] }, { accessFlags := 1, nameIndex := 45, descriptorIndex := 46, attributes := #[] }, { accessFlags := 1, nameIndex := 45, descriptorIndex := 511, attributes := #[] }, { accessFlags := 16, nameIndex := 552, descriptorIndex := 403, attributes := #[] }, { accessFlags := 16, nameIndex := 85, descriptorIndex := 86, attributes := #[] }, { accessFlags := 2, nameIndex := 217, descriptorIndex := 69, attributes := #[] }, { accessFlags := 2, nameIndex := 210, descriptorIndex := 211, attributes := #[] }] 1056 4 #[444, 48] #[{ accessFlags := 0, nameIndex := 17, descriptorIndex := 14, attributes := #[] }, { accessFlags := 0, nameIndex := 24, descriptorIndex := 25, attributes := #[] }, { accessFlags := 0, nameIndex := 75, descriptorIndex := 21, attributes := #[] }, { accessFlags := 0, nameIndex := 81, descriptorIndex := 82, attributes := #[] }, { accessFlags := 26, nameIndex := 13, descriptorIndex := 14, attributes := #[] }])
  fields := #[{ name := "value", type := (.array .byte), accessFlags := 0, slot := 0, constantValue := 0 }, { name := "coder", type := .byte, accessFlags := 0, slot := 1, constantValue := 0 }, { name := "maybeLatin1", type := .boolean, accessFlags := 0, slot := 2, constantValue := 0 }, { name := "count", type := .int, accessFlags := 0, slot := 3, constantValue := 0 }, { name := "EMPTYVALUE", type := (.array .byte), accessFlags := 26, slot := 0, constantValue := 0 }]
  methods := #[k11m0, k11m1, k11m2, k11m3, k11m4, k11m5, k11m6, k11m7, k11m8, k11m9]
  instanceTypes := #[(.array .byte), .byte, .boolean, .int]
  staticTypes := #[(.array .byte)]
  resolved := Array.replicate 609 none
  statics := none }

def pool12 : Array CpInfo := pool [(1, .methodref 2 3), (0, .class_ 4), (0, .nameAndType 5 6), (0, u "java/lang/AbstractStringBuilder"), (0, u "<init>"), (0, u "(I)V"), (11, .class_ 20), (1, u "java/lang/String"), (3, .class_ 26), (1, u "java/lang/StringBuilder"), (0, u "append"), (0, u "(Ljava/lang/String;)Ljava/lang/StringBuilder;"), (0, .methodref 2 30), (0, .nameAndType 27 31), (0, u "(Ljava/lang/String;)Ljava/lang/AbstractStringBuilder;"), (21, .methodref 2 54), (0, .nameAndType 27 55), (0, u "(I)Ljava/lang/AbstractStringBuilder;"), (81, .methodref 18 138), (0, .nameAndType 5 139), (0, u "(Ljava/lang/StringBuilder;)V"), (5, u "()V"), (10, u "()I"), (111, u "(I)Ljava/lang/StringBuilder;"), (74, .methodref 2 344), (0, .nameAndType 345 156), (0, u "length"), (3, .class_ 350), (0, u "java/lang/Appendable"), (0, .class_ 352), (0, u "java/io/Serializable"), (0, .class_ 354), (0, u "java/lang/Comparable"), (0, .class_ 356), (0, u "java/lang/CharSequence"), (0, u "serialVersionUID"), (0, u "J"), (40, u "toString"), (0, u "()Ljava/lang/String;")] 21

def k12c0 : Code := { maxStack := 2, maxLocals := 1, code := jdk_67_method_1_code, exceptionTable := #[], attributes := #[] }
def k12m0 : Method := { name := "<init>", desc := "()V", sig := { parameters := [], returnType := none }, accessFlags := 1, code := some k12c0 }
def k12c1 : Code := { maxStack := 2, maxLocals := 2, code := jdk_67_method_7_code, exceptionTable := #[], attributes := #[] }
def k12m1 : Method := { name := "append", desc := "(Ljava/lang/String;)Ljava/lang/StringBuilder;", sig := { parameters := [(.object "java/lang/String")], returnType := some (.object "java/lang/StringBuilder") }, accessFlags := 1, code := some k12c1 }
def k12c2 : Code := { maxStack := 2, maxLocals := 2, code := jdk_67_method_15_code, exceptionTable := #[], attributes := #[] }
def k12m2 : Method := { name := "append", desc := "(I)Ljava/lang/StringBuilder;", sig := { parameters := [.int], returnType := some (.object "java/lang/StringBuilder") }, accessFlags := 1, code := some k12c2 }
def k12c3 : Code := { maxStack := 3, maxLocals := 1, code := jdk_67_method_42_code, exceptionTable := #[], attributes := #[] }
def k12m3 : Method := { name := "toString", desc := "()Ljava/lang/String;", sig := { parameters := [], returnType := some (.object "java/lang/String") }, accessFlags := 1, code := some k12c3 }
def k12c4 : Code := { maxStack := 1, maxLocals := 1, code := jdk_67_method_93_code, exceptionTable := #[], attributes := #[] }
def k12m4 : Method := { name := "length", desc := "()I", sig := { parameters := [], returnType := some .int }, accessFlags := 4161, code := some k12c4 }
/-- java/lang/StringBuilder -/
def k12 : Class := { plain "java/lang/StringBuilder" (some 11) with
  accessFlags := 49
  interfaces := #[10, 2, 3, 4]
  cf := some (fileOf pool12 24 #[] #[{ accessFlags := 1, nameIndex := 5, descriptorIndex := 145, attributes := #[] }, { accessFlags := 1, nameIndex := 27, descriptorIndex := 28, attributes := #[] }, { accessFlags := 1, nameIndex := 27, descriptorIndex := 268, attributes := #[] }, { accessFlags := 1, nameIndex := 399, descriptorIndex := 400, attributes := #[] }, { accessFlags := 4161, nameIndex := 345, descriptorIndex := 156, attributes := #[] }] 49 2 #[349, 351, 353, 355] #[{ accessFlags := 24, nameIndex := 357, descriptorIndex := 358, attributes := #[] }])
  fields := #[{ name := "serialVersionUID", type := .long, accessFlags := 24, slot := 0, constantValue := 0 }]
  methods := #[k12m0, k12m1, k12m2, k12m3, k12m4]
  instanceTypes := #[(.array .byte), .byte, .boolean, .int]
  staticTypes := #[.long]
  resolved := Array.replicate 422 none
  statics := none }

def pool13 : Array CpInfo := pool [(2, .class_ 4), (1, u "java/lang/Object"), (0, u "<init>"), (0, u "()V"), (1, .class_ 10), (1, u "java/lang/System"), (0, u "allowSecurityManager"), (0, u "I"), (16, u "cons"), (0, u "Ljava/io/Console;"), (77, .class_ 110), (1, u "java/lang/System$CallersHolder"), (43, u "initialErrStream"), (0, u "Ljava/io/PrintStream;"), (19, u "security"), (0, u "Ljava/lang/SecurityManager;"), (31, .class_ 209), (0, u "java/lang/System$1"), (7, u "props"), (0, u "Ljava/util/Properties;"), (2, u "lineSeparator"), (0, u "Ljava/lang/String;"), (96, .class_ 321), (1, u "java/lang/System$LoggerFinder"), (5, .class_ 328), (0, u "java/lang/System$Logger"), (67, u "err"), (2, u "out"), (91, u "notSupportedJnuEncoding"), (15, u "in"), (17, u "initialIn"), (0, u "Ljava/io/InputStream;"), (35, u "bootLayer"), (0, u "Ljava/lang/ModuleLayer;"), (99, .class_ 664), (0, u "java/lang/System$2"), (9, u "NEVER"), (2, u "MAYBE"), (49, u "arraycopy"), (0, u "(Ljava/lang/Object;ILjava/lang/Object;II)V"), (72, .class_ 802), (0, u "java/lang/System$Logger$Level")] 31

def k13m0 : Method := { name := "<init>", desc := "()V", sig := { parameters := [], returnType := none }, accessFlags := 2, code := none }
def k13m1 : Method := { name := "arraycopy", desc := "(Ljava/lang/Object;ILjava/lang/Object;II)V", sig := { parameters := [(.object "java/lang/Object"), .int, (.object "java/lang/Object"), .int, .int], returnType := none }, accessFlags := 265, code := none }
/-- java/lang/System -/
def k13 : Class := { plain "java/lang/System" (some 0) with
  accessFlags := 49
  interfaces := #[]
  cf := some (fileOf pool13 8 #[.nestMembers #[319, 327, 801, 108, 663, 208]] #[{ accessFlags := 2, nameIndex := 5, descriptorIndex := 6, attributes := #[] }, { accessFlags := 265, nameIndex := 727, descriptorIndex := 728, attributes := #[] }] 49 2 #[] #[{ accessFlags := 25, nameIndex := 507, descriptorIndex := 526, attributes := #[] }, { accessFlags := 25, nameIndex := 399, descriptorIndex := 155, attributes := #[] }, { accessFlags := 25, nameIndex := 396, descriptorIndex := 155, attributes := #[] }, { accessFlags := 10, nameIndex := 525, descriptorIndex := 526, attributes := #[] }, { accessFlags := 26, nameIndex := 674, descriptorIndex := 12, attributes := #[] }, { accessFlags := 26, nameIndex := 677, descriptorIndex := 12, attributes := #[] }, { accessFlags := 10, nameIndex := 11, descriptorIndex := 12, attributes := #[] }, { accessFlags := 74, nameIndex := 175, descriptorIndex := 176, attributes := #[] }, { accessFlags := 10, nameIndex := 491, descriptorIndex := 222, attributes := #[] }, { accessFlags := 74, nameIndex := 29, descriptorIndex := 30, attributes := #[] }, { accessFlags := 74, nameIndex := 154, descriptorIndex := 155, attributes := #[] }, { accessFlags := 10, nameIndex := 217, descriptorIndex := 218, attributes := #[] }, { accessFlags := 10, nameIndex := 221, descriptorIndex := 222, attributes := #[] }, { accessFlags := 8, nameIndex := 562, descriptorIndex := 563, attributes := #[] }])
  fields := #[{ name := "in", type := (.object "java/io/InputStream"), accessFlags := 25, slot := 0, constantValue := 0 }, { name := "out", type := (.object "java/io/PrintStream"), accessFlags := 25, slot := 1, constantValue := 0 }, { name := "err", type := (.object "java/io/PrintStream"), accessFlags := 25, slot := 2, constantValue := 0 }, { name := "initialIn", type := (.object "java/io/InputStream"), accessFlags := 10, slot := 3, constantValue := 0 }, { name := "NEVER", type := .int, accessFlags := 26, slot := 4, constantValue := 0 }, { name := "MAYBE", type := .int, accessFlags := 26, slot := 5, constantValue := 0 }, { name := "allowSecurityManager", type := .int, accessFlags := 10, slot := 6, constantValue := 0 }, { name := "security", type := (.object "java/lang/SecurityManager"), accessFlags := 74, slot := 7, constantValue := 0 }, { name := "notSupportedJnuEncoding", type := (.object "java/lang/String"), accessFlags := 10, slot := 8, constantValue := 0 }, { name := "cons", type := (.object "java/io/Console"), accessFlags := 74, slot := 9, constantValue := 0 }, { name := "initialErrStream", type := (.object "java/io/PrintStream"), accessFlags := 74, slot := 10, constantValue := 0 }, { name := "props", type := (.object "java/util/Properties"), accessFlags := 10, slot := 11, constantValue := 0 }, { name := "lineSeparator", type := (.object "java/lang/String"), accessFlags := 10, slot := 12, constantValue := 0 }, { name := "bootLayer", type := (.object "java/lang/ModuleLayer"), accessFlags := 8, slot := 13, constantValue := 0 }]
  methods := #[k13m0, k13m1]
  instanceTypes := #[]
  staticTypes := #[(.object "java/io/InputStream"), (.object "java/io/PrintStream"), (.object "java/io/PrintStream"), (.object "java/io/InputStream"), .int, .int, .int, (.object "java/lang/SecurityManager"), (.object "java/lang/String"), (.object "java/io/Console"), (.object "java/io/PrintStream"), (.object "java/util/Properties"), (.object "java/lang/String"), (.object "java/lang/ModuleLayer")]
  resolved := Array.replicate 834 none
  statics := none }

def pool14 : Array CpInfo := pool [(2, .class_ 4), (1, u "java/lang/Object"), (0, u "<init>"), (0, u "()V"), (1, .class_ 10), (1, u "java/lang/Number"), (2, .class_ 14), (0, u "java/io/Serializable"), (0, u "serialVersionUID"), (0, u "J")] 20

def k14m0 : Method := { name := "<init>", desc := "()V", sig := { parameters := [], returnType := none }, accessFlags := 1, code := none }
/-- java/lang/Number -/
def k14 : Class := { plain "java/lang/Number" (some 0) with
  accessFlags := 1057
  interfaces := #[2]
  cf := some (fileOf pool14 8 #[] #[{ accessFlags := 1, nameIndex := 5, descriptorIndex := 6, attributes := #[] }] 1057 2 #[13] #[{ accessFlags := 26, nameIndex := 15, descriptorIndex := 16, attributes := #[] }])
  fields := #[{ name := "serialVersionUID", type := .long, accessFlags := 26, slot := 0, constantValue := 0 }]
  methods := #[k14m0]
  instanceTypes := #[]
  staticTypes := #[.long]
  resolved := Array.replicate 37 none
  statics := none }

def pool15 : Array CpInfo := pool [(1, .class_ 2), (0, u "java/lang/Integer"), (16, u "digits"), (0, u "[C"), (33, u "(I)I"), (19, u "stringSize"), (2, u "getChars"), (0, u "(II[B)I"), (4, .fieldref 1 84), (0, .nameAndType 85 86), (0, u "DigitOnes"), (0, u "[B"), (0, .fieldref 1 88), (0, .nameAndType 89 86), (0, u "DigitTens"), (99, .class_ 190), (0, u "java/lang/Integer$IntegerCache"), (3, u "I"), (8, .class_ 204), (0, u "java/lang/Number"), (2, u "value"), (94, u "TYPE"), (0, u "Ljava/lang/Class;"), (0, .class_ 305), (0, u "java/lang/Comparable"), (0, .class_ 307), (0, u "java/lang/constant/Constable"), (0, .class_ 309), (0, u "java/lang/constant/ConstantDesc"), (0, u "MIN_VALUE"), (1, u "MAX_VALUE"), (3, u "SIZE"), (1, u "BYTES"), (1, u "serialVersionUID"), (0, u "J")] 131

def k15c0 : Code := { maxStack := 4, maxLocals := 7, code := jdk_33_method_12_code, exceptionTable := #[], attributes := #[] }
def k15m0 : Method := { name := "getChars", desc := "(II[B)I", sig := { parameters := [.int, .int, (.array .byte)], returnType := some .int }, accessFlags := 8, code := some k15c0 }
def k15c1 : Code := { maxStack := 2, maxLocals := 4, code := jdk_33_method_13_code, exceptionTable := #[], attributes := #[] }
def k15m1 : Method := { name := "stringSize", desc := "(I)I", sig := { parameters := [.int], returnType := some .int }, accessFlags := 8, code := some k15c1 }
/-- java/lang/Integer -/
def k15 : Class := { plain "java/lang/Integer" (some 14) with
  accessFlags := 49
  interfaces := #[3, 5, 6]
  cf := some (fileOf pool15 1 #[.nestMembers #[189]] #[{ accessFlags := 8, nameIndex := 77, descriptorIndex := 78, attributes := #[] }, { accessFlags := 8, nameIndex := 74, descriptorIndex := 54, attributes := #[] }] 49 203 #[304, 306, 308] #[{ accessFlags := 25, nameIndex := 310, descriptorIndex := 194, attributes := #[] }, { accessFlags := 25, nameIndex := 312, descriptorIndex := 194, attributes := #[] }, { accessFlags := 25, nameIndex := 302, descriptorIndex := 303, attributes := #[] }, { accessFlags := 24, nameIndex := 19, descriptorIndex := 20, attributes := #[] }, { accessFlags := 24, nameIndex := 89, descriptorIndex := 86, attributes := #[] }, { accessFlags := 24, nameIndex := 85, descriptorIndex := 86, attributes := #[] }, { accessFlags := 18, nameIndex := 207, descriptorIndex := 194, attributes := #[] }, { accessFlags := 25, nameIndex := 316, descriptorIndex := 194, attributes := #[] }, { accessFlags := 25, nameIndex := 318, descriptorIndex := 194, attributes := #[] }, { accessFlags := 26, nameIndex := 320, descriptorIndex := 321, attributes := #[] }])
  fields := #[{ name := "MIN_VALUE", type := .int, accessFlags := 25, slot := 0, constantValue := 0 }, { name := "MAX_VALUE", type := .int, accessFlags := 25, slot := 1, constantValue := 0 }, { name := "TYPE", type := (.object "java/lang/Class"), accessFlags := 25, slot := 2, constantValue := 0 }, { name := "digits", type := (.array .char), accessFlags := 24, slot := 3, constantValue := 0 }, { name := "DigitTens", type := (.array .byte), accessFlags := 24, slot := 4, constantValue := 0 }, { name := "DigitOnes", type := (.array .byte), accessFlags := 24, slot := 5, constantValue := 0 }, { name := "value", type := .int, accessFlags := 18, slot := 0, constantValue := 0 }, { name := "SIZE", type := .int, accessFlags := 25, slot := 6, constantValue := 0 }, { name := "BYTES", type := .int, accessFlags := 25, slot := 7, constantValue := 0 }, { name := "serialVersionUID", type := .long, accessFlags := 26, slot := 8, constantValue := 0 }]
  methods := #[k15m0, k15m1]
  instanceTypes := #[.int]
  staticTypes := #[.int, .int, (.object "java/lang/Class"), (.array .char), (.array .byte), (.array .byte), .int, .int, .long]
  resolved := Array.replicate 453 none
  statics := some 1 }

def pool16 : Array CpInfo := pool [(2, .class_ 4), (1, u "java/lang/Object"), (0, u "<init>"), (0, u "()V"), (7, .class_ 16), (1, u "java/util/Arrays"), (57, .class_ 76), (1, u "java/util/Arrays$NaturalOrder"), (36, .class_ 115), (1, u "java/util/Arrays$LegacyMergeSort"), (1, u "Z"), (21, u "copyOfRange"), (10, .methodref 151 152), (0, .class_ 153), (0, .nameAndType 154 155), (0, u "java/lang/System"), (0, u "arraycopy"), (0, u "(Ljava/lang/Object;ILjava/lang/Object;II)V"), (148, .methodref 305 306), (0, .class_ 307), (0, .nameAndType 308 309), (0, u "java/lang/Math"), (0, u "min"), (0, u "(II)I"), (29, .methodref 14 340), (0, .nameAndType 341 342), (0, u "copyOfRangeByte"), (0, u "([BII)[B"), (0, .methodref 14 344), (0, .nameAndType 345 346), (0, u "checkLength"), (0, u "(II)V"), (28, .class_ 376), (0, u "java/util/Arrays$ArrayList"), (68, u "$assertionsDisabled"), (269, u "MIN_ARRAY_SORT_GRAN"), (0, u "I"), (2, u "INSERTIONSORT_THRESHOLD"), (255, .class_ 976), (0, u "java/util/Arrays$ArrayItr")] 52

def k16m0 : Method := { name := "<init>", desc := "()V", sig := { parameters := [], returnType := none }, accessFlags := 2, code := none }
def k16c1 : Code := { maxStack := 4, maxLocals := 2, code := jdk_65_method_131_code, exceptionTable := #[], attributes := #[] }
def k16m1 : Method := { name := "checkLength", desc := "(II)V", sig := { parameters := [.int, .int], returnType := none }, accessFlags := 10, code := some k16c1 }
def k16c2 : Code := { maxStack := 3, maxLocals := 3, code := jdk_65_method_132_code, exceptionTable := #[], attributes := #[] }
def k16m2 : Method := { name := "copyOfRange", desc := "([BII)[B", sig := { parameters := [(.array .byte), .int, .int], returnType := some (.array .byte) }, accessFlags := 9, code := some k16c2 }
def k16c3 : Code := { maxStack := 6, maxLocals := 5, code := jdk_65_method_133_code, exceptionTable := #[], attributes := #[] }
def k16m3 : Method := { name := "copyOfRangeByte", desc := "([BII)[B", sig := { parameters := [(.array .byte), .int, .int], returnType := some (.array .byte) }, accessFlags := 10, code := some k16c3 }
/-- java/util/Arrays -/
def k16 : Class := { plain "java/util/Arrays" (some 0) with
  accessFlags := 49
  interfaces := #[]
  cf := some (fileOf pool16 14 #[.nestMembers #[975, 375, 113, 74]] #[{ accessFlags := 2, nameIndex := 5, descriptorIndex := 6, attributes := #[] }, { accessFlags := 10, nameIndex := 345, descriptorIndex := 346, attributes := #[] }, { accessFlags := 9, nameIndex := 139, descriptorIndex := 342, attributes := #[] }, { accessFlags := 10, nameIndex := 341, descriptorIndex := 342, attributes := #[] }] 49 2 #[] #[{ accessFlags := 26, nameIndex := 715, descriptorIndex := 716, attributes := #[] }, { accessFlags := 26, nameIndex := 719, descriptorIndex := 716, attributes := #[] }, { accessFlags := 4120, nameIndex := 445, descriptorIndex := 117, attributes := #[] }])
  fields := #[{ name := "MIN_ARRAY_SORT_GRAN", type := .int, accessFlags := 26, slot := 0, constantValue := 0 }, { name := "INSERTIONSORT_THRESHOLD", type := .int, accessFlags := 26, slot := 1, constantValue := 0 }, { name := "$assertionsDisabled", type := .boolean, accessFlags := 4120, slot := 2, constantValue := 0 }]
  methods := #[k16m0, k16m1, k16m2, k16m3]
  instanceTypes := #[]
  staticTypes := #[.int, .int, .boolean]
  resolved := Array.replicate 1029 none
  statics := none }

def pool17 : Array CpInfo := pool [(1, .class_ 2), (0, u "java/lang/Math"), (1, .class_ 6), (1, u "java/lang/Object"), (0, u "<init>"), (0, u "()V"), (89, .class_ 100), (1, u "java/lang/Math$RandomNumberGeneratorHolder"), (23, u "abs"), (0, u "(J)J"), (46, u "negativeZeroFloatBits"), (0, u "J"), (2, u "negativeZeroDoubleBits"), (24, u "min"), (43, u "$assertionsDisabled"), (0, u "Z"), (88, u "(II)I"), (2, u "twoToTheDoubleScaleDown"), (0, u "D"), (4, u "twoToTheDoubleScaleUp"), (9, u "E"), (3, u "PI"), (2, u "TAU"), (2, u "DEGREES_TO_RADIANS"), (0, u "RADIANS_TO_DEGREES")] 94

def k17m0 : Method := { name := "<init>", desc := "()V", sig := { parameters := [], returnType := none }, accessFlags := 2, code := none }
def k17c1 : Code := { maxStack := 4, maxLocals := 2, code := jdk_29_method_61_code, exceptionTable := #[], attributes := #[] }
def k17m1 : Method := { name := "abs", desc := "(J)J", sig := { parameters := [.long], returnType := some .long }, accessFlags := 9, code := some k17c1 }
def k17c2 : Code := { maxStack := 2, maxLocals := 2, code := jdk_29_method_69_code, exceptionTable := #[], attributes := #[] }
def k17m2 : Method := { name := "min", desc := "(II)I", sig := { parameters := [.int, .int], returnType := some .int }, accessFlags := 9, code := some k17c2 }
/-- java/lang/Math -/
def k17 : Class := { plain "java/lang/Math" (some 0) with
  accessFlags := 49
  interfaces := #[]
  cf := some (fileOf pool17 1 #[.nestMembers #[98]] #[{ accessFlags := 2, nameIndex := 7, descriptorIndex := 8, attributes := #[] }, { accessFlags := 9, nameIndex := 124, descriptorIndex := 125, attributes := #[] }, { accessFlags := 9, nameIndex := 201, descriptorIndex := 335, attributes := #[] }] 49 4 #[] #[{ accessFlags := 25, nameIndex := 354, descriptorIndex := 339, attributes := #[] }, { accessFlags := 25, nameIndex := 358, descriptorIndex := 339, attributes := #[] }, { accessFlags := 25, nameIndex := 361, descriptorIndex := 339, attributes := #[] }, { accessFlags := 26, nameIndex := 364, descriptorIndex := 339, attributes := #[] }, { accessFlags := 26, nameIndex := 365, descriptorIndex := 339, attributes := #[] }, { accessFlags := 26, nameIndex := 172, descriptorIndex := 173, attributes := #[] }, { accessFlags := 26, nameIndex := 176, descriptorIndex := 173, attributes := #[] }, { accessFlags := 8, nameIndex := 344, descriptorIndex := 339, attributes := #[] }, { accessFlags := 8, nameIndex := 338, descriptorIndex := 339, attributes := #[] }, { accessFlags := 4120, nameIndex := 245, descriptorIndex := 246, attributes := #[] }])
  fields := #[{ name := "E", type := .double, accessFlags := 25, slot := 0, constantValue := 0 }, { name := "PI", type := .double, accessFlags := 25, slot := 1, constantValue := 0 }, { name := "TAU", type := .double, accessFlags := 25, slot := 2, constantValue := 0 }, { name := "DEGREES_TO_RADIANS", type := .double, accessFlags := 26, slot := 3, constantValue := 0 }, { name := "RADIANS_TO_DEGREES", type := .double, accessFlags := 26, slot := 4, constantValue := 0 }, { name := "negativeZeroFloatBits", type := .long, accessFlags := 26, slot := 5, constantValue := 0 }, { name := "negativeZeroDoubleBits", type := .long, accessFlags := 26, slot := 6, constantValue := 0 }, { name := "twoToTheDoubleScaleUp", type := .double, accessFlags := 8, slot := 7, constantValue := 0 }, { name := "twoToTheDoubleScaleDown", type := .double, accessFlags := 8, slot := 8, constantValue := 0 }, { name := "$assertionsDisabled", type := .boolean, accessFlags := 4120, slot := 9, constantValue := 0 }]
  methods := #[k17m0, k17m1, k17m2]
  instanceTypes := #[]
  staticTypes := #[.double, .double, .double, .double, .double, .long, .long, .double, .double, .boolean]
  resolved := Array.replicate 460 none
  statics := none }

def pool18 : Array CpInfo := pool [(1, .class_ 2), (0, u "java/lang/String"), (1, .class_ 6), (1, u "java/lang/Object"), (0, u "<init>"), (0, u "()V"), (0, .methodref 1 10), (0, .nameAndType 11 12), (0, u "checkIndex"), (0, u "(II)V"), (1, .class_ 16), (1, u "java/lang/StringLatin1"), (36, u "([BI)C"), (67, u "$assertionsDisabled"), (0, u "Z"), (98, .class_ 223), (1, u "java/lang/StringLatin1$LinesSpliterator"), (28, u "charAt"), (137, .class_ 391), (0, u "java/lang/StringLatin1$CharsSpliterator")] 3

def k18m0 : Method := { name := "<init>", desc := "()V", sig := { parameters := [], returnType := none }, accessFlags := 0, code := none }
def k18c1 : Code := { maxStack := 2, maxLocals := 2, code := jdk_43_method_2_code, exceptionTable := #[], attributes := #[] }
def k18m1 : Method := { name := "charAt", desc := "([BI)C", sig := { parameters := [(.array .byte), .int], returnType := some .char }, accessFlags := 9, code := some k18c1 }
/-- java/lang/StringLatin1 -/
def k18 : Class := { plain "java/lang/StringLatin1" (some 0) with
  accessFlags := 48
  interfaces := #[]
  cf := some (fileOf pool18 14 #[.nestMembers #[390, 221]] #[{ accessFlags := 0, nameIndex := 7, descriptorIndex := 8, attributes := #[] }, { accessFlags := 9, nameIndex := 252, descriptorIndex := 53, attributes := #[] }] 48 4 #[] #[{ accessFlags := 4120, nameIndex := 121, descriptorIndex := 122, attributes := #[] }])
  fields := #[{ name := "$assertionsDisabled", type := .boolean, accessFlags := 4120, slot := 0, constantValue := 0 }]
  methods := #[k18m0, k18m1]
  instanceTypes := #[]
  staticTypes := #[.boolean]
  resolved := Array.replicate 395 none
  statics := none }

def pool19 : Array CpInfo := pool [(2, .class_ 4), (1, u "java/lang/Object"), (0, u "<init>"), (0, u "()V"), (17, .class_ 26), (1, u "jdk/internal/util/Preconditions"), (6, u "checkIndex"), (21, .class_ 56), (0, u "jdk/internal/util/Preconditions$4"), (57, .class_ 115), (0, u "jdk/internal/util/Preconditions$1"), (7, u "SIOOBE_FORMATTER"), (0, u "Ljava/util/function/BiFunction;"), (0, .class_ 126), (0, u "jdk/internal/util/Preconditions$2"), (3, u "AIOOBE_FORMATTER"), (0, .class_ 132), (0, u "jdk/internal/util/Preconditions$3"), (3, u "IOOBE_FORMATTER"), (41, u "(IILjava/util/function/BiFunction;)I")] 15

def k19m0 : Method := { name := "<init>", desc := "()V", sig := { parameters := [], returnType := none }, accessFlags := 1, code := none }
def k19c1 : Code := { maxStack := 3, maxLocals := 3, code := jdk_41_method_11_code, exceptionTable := #[], attributes := #[] }
def k19m1 : Method := { name := "checkIndex", desc := "(IILjava/util/function/BiFunction;)I", sig := { parameters := [.int, .int, (.object "java/util/function/BiFunction")], returnType := some .int }, accessFlags := 9, code := some k19c1 }
/-- jdk/internal/util/Preconditions -/
def k19 : Class := { plain "jdk/internal/util/Preconditions" (some 0) with
  accessFlags := 33
  interfaces := #[]
  cf := some (fileOf pool19 24 #[.nestMembers #[55, 131, 125, 114]] #[{ accessFlags := 1, nameIndex := 5, descriptorIndex := 6, attributes := #[] }, { accessFlags := 9, nameIndex := 33, descriptorIndex := 178, attributes := #[] }] 33 2 #[] #[{ accessFlags := 25, nameIndex := 123, descriptorIndex := 124, attributes := #[] }, { accessFlags := 25, nameIndex := 130, descriptorIndex := 124, attributes := #[] }, { accessFlags := 25, nameIndex := 136, descriptorIndex := 124, attributes := #[] }])
  fields := #[{ name := "SIOOBE_FORMATTER", type := (.object "java/util/function/BiFunction"), accessFlags := 25, slot := 0, constantValue := 0 }, { name := "AIOOBE_FORMATTER", type := (.object "java/util/function/BiFunction"), accessFlags := 25, slot := 1, constantValue := 0 }, { name := "IOOBE_FORMATTER", type := (.object "java/util/function/BiFunction"), accessFlags := 25, slot := 2, constantValue := 0 }]
  methods := #[k19m0, k19m1]
  instanceTypes := #[]
  staticTypes := #[(.object "java/util/function/BiFunction"), (.object "java/util/function/BiFunction"), (.object "java/util/function/BiFunction")]
  resolved := Array.replicate 194 none
  statics := some 2 }

def pool20 : Array CpInfo := pool [(6, .class_ 8), (1, u "java/lang/Object"), (0, u "<init>"), (0, u "()V"), (1, .class_ 14), (1, u "java/lang/StringUTF16"), (31, u "$assertionsDisabled"), (0, u "Z"), (13, u "HI_BYTE_SHIFT"), (0, u "I"), (2, u "LO_BYTE_SHIFT"), (49, .methodref 12 116), (0, .nameAndType 117 118), (0, u "compress"), (0, u "([CI[BII)I"), (3, u "([CII)[B"), (138, u "coderFromArrayLen"), (0, u "([BI)B"), (106, .class_ 371), (1, u "java/lang/StringUTF16$LinesSpliterator"), (58, u "MAX_LENGTH"), (196, .class_ 628), (0, u "java/lang/StringUTF16$CodePointsSpliterator"), (0, .class_ 630), (0, u "java/lang/StringUTF16$CharsSpliterator")] 4

def k20m0 : Method := { name := "<init>", desc := "()V", sig := { parameters := [], returnType := none }, accessFlags := 0, code := none }
def k20c1 : Code := { maxStack := 2, maxLocals := 2, code := jdk_52_method_15_code, exceptionTable := #[], attributes := #[] }
def k20m1 : Method := { name := "coderFromArrayLen", desc := "([BI)B", sig := { parameters := [(.array .byte), .int], returnType := some .byte }, accessFlags := 8, code := some k20c1 }
def k20c2 : Code := { maxStack := 5, maxLocals := 6, code := jdk_52_method_16_code, exceptionTable := #[], attributes := #[] }
def k20m2 : Method := { name := "compress", desc := "([CII)[B", sig := { parameters := [(.array .char), .int, .int], returnType := some (.array .byte) }, accessFlags := 9, code := some k20c2 }
def k20c3 : Code := { maxStack := 3, maxLocals := 7, code := jdk_52_method_21_code, exceptionTable := #[], attributes := #[] }
def k20m3 : Method := { name := "compress", desc := "([CI[BII)I", sig := { parameters := [(.array .char), .int, (.array .byte), .int, .int], returnType := some .int }, accessFlags := 9, code := some k20c3 }
/-- java/lang/StringUTF16 -/
def k20 : Class := { plain "java/lang/StringUTF16" (some 0) with
  accessFlags := 48
  interfaces := #[]
  cf := some (fileOf pool20 12 #[.nestMembers #[627, 629, 369]] #[{ accessFlags := 0, nameIndex := 9, descriptorIndex := 10, attributes := #[] }, { accessFlags := 8, nameIndex := 261, descriptorIndex := 262, attributes := #[] }, { accessFlags := 9, nameIndex := 117, descriptorIndex := 122, attributes := #[] }, { accessFlags := 9, nameIndex := 117, descriptorIndex := 118, attributes := #[] }] 48 6 #[] #[{ accessFlags := 26, nameIndex := 61, descriptorIndex := 62, attributes := #[] }, { accessFlags := 26, nameIndex := 65, descriptorIndex := 62, attributes := #[] }, { accessFlags := 24, nameIndex := 430, descriptorIndex := 62, attributes := #[] }, { accessFlags := 4120, nameIndex := 46, descriptorIndex := 47, attributes := #[] }])
  fields := #[{ name := "HI_BYTE_SHIFT", type := .int, accessFlags := 26, slot := 0, constantValue := 0 }, { name := "LO_BYTE_SHIFT", type := .int, accessFlags := 26, slot := 1, constantValue := 0 }, { name := "MAX_LENGTH", type := .int, accessFlags := 24, slot := 2, constantValue := 0 }, { name := "$assertionsDisabled", type := .boolean, accessFlags := 4120, slot := 3, constantValue := 0 }]
  methods := #[k20m0, k20m1, k20m2, k20m3]
  instanceTypes := #[]
  staticTypes := #[.int, .int, .int, .boolean]
  resolved := Array.replicate 635 none
  statics := none }

def pool21 : Array CpInfo := pool [(9, u "<init>"), (6, .class_ 18), (1, u "java/lang/Object"), (0, u "()V"), (1, .class_ 23), (1, u "jdk/internal/util/ArraysSupport"), (0, u "LOG2_ARRAY_LONG_INDEX_SCALE"), (0, u "I"), (2, u "U"), (0, u "Ljdk/internal/misc/Unsafe;"), (8, u "BIG_ENDIAN"), (0, u "Z"), (8, u "LOG2_BYTE_BIT_SIZE"), (4, u "LOG2_ARRAY_INT_INDEX_SCALE"), (54, u "JLA"), (0, u "Ljdk/internal/access/JavaLangAccess;"), (11, u "LOG2_ARRAY_BOOLEAN_INDEX_SCALE"), (9, u "LOG2_ARRAY_BYTE_INDEX_SCALE"), (5, u "LOG2_ARRAY_CHAR_INDEX_SCALE"), (5, u "LOG2_ARRAY_SHORT_INDEX_SCALE"), (18, u "LOG2_ARRAY_FLOAT_INDEX_SCALE"), (24, u "LOG2_ARRAY_DOUBLE_INDEX_SCALE"), (89, u "T_BOOLEAN"), (2, u "T_CHAR"), (1, u "T_FLOAT"), (1, u "T_DOUBLE"), (1, u "T_BYTE"), (1, u "T_SHORT"), (1, u "T_INT"), (1, u "T_LONG"), (1, u "SOFT_MAX_ARRAY_LENGTH")] 83

def k21m0 : Method := { name := "<init>", desc := "()V", sig := { parameters := [], returnType := none }, accessFlags := 2, code := none }
/-- jdk/internal/util/ArraysSupport -/
def k21 : Class := { plain "jdk/internal/util/ArraysSupport" (some 0) with
  accessFlags := 33
  interfaces := #[]
  cf := some (fileOf pool21 21 #[] #[{ accessFlags := 2, nameIndex := 9, descriptorIndex := 19, attributes := #[] }] 33 16 #[] #[{ accessFlags := 24, nameIndex := 28, descriptorIndex := 29, attributes := #[] }, { accessFlags := 26, nameIndex := 38, descriptorIndex := 39, attributes := #[] }, { accessFlags := 25, nameIndex := 121, descriptorIndex := 25, attributes := #[] }, { accessFlags := 25, nameIndex := 131, descriptorIndex := 25, attributes := #[] }, { accessFlags := 25, nameIndex := 137, descriptorIndex := 25, attributes := #[] }, { accessFlags := 25, nameIndex := 143, descriptorIndex := 25, attributes := #[] }, { accessFlags := 25, nameIndex := 53, descriptorIndex := 25, attributes := #[] }, { accessFlags := 25, nameIndex := 24, descriptorIndex := 25, attributes := #[] }, { accessFlags := 25, nameIndex := 162, descriptorIndex := 25, attributes := #[] }, { accessFlags := 25, nameIndex := 187, descriptorIndex := 25, attributes := #[] }, { accessFlags := 26, nameIndex := 48, descriptorIndex := 25, attributes := #[] }, { accessFlags := 25, nameIndex := 277, descriptorIndex := 25, attributes := #[] }, { accessFlags := 25, nameIndex := 280, descriptorIndex := 25, attributes := #[] }, { accessFlags := 25, nameIndex := 282, descriptorIndex := 25, attributes := #[] }, { accessFlags := 25, nameIndex := 284, descriptorIndex := 25, attributes := #[] }, { accessFlags := 25, nameIndex := 286, descriptorIndex := 25, attributes := #[] }, { accessFlags := 25, nameIndex := 288, descriptorIndex := 25, attributes := #[] }, { accessFlags := 25, nameIndex := 290, descriptorIndex := 25, attributes := #[] }, { accessFlags := 25, nameIndex := 292, descriptorIndex := 25, attributes := #[] }, { accessFlags := 26, nameIndex := 108, descriptorIndex := 109, attributes := #[] }, { accessFlags := 25, nameIndex := 294, descriptorIndex := 25, attributes := #[] }])
  fields := #[{ name := "U", type := (.object "jdk/internal/misc/Unsafe"), accessFlags := 24, slot := 0, constantValue := 0 }, { name := "BIG_ENDIAN", type := .boolean, accessFlags := 26, slot := 1, constantValue := 0 }, { name := "LOG2_ARRAY_BOOLEAN_INDEX_SCALE", type := .int, accessFlags := 25, slot := 2, constantValue := 0 }, { name := "LOG2_ARRAY_BYTE_INDEX_SCALE", type := .int, accessFlags := 25, slot := 3, constantValue := 0 }, { name := "LOG2_ARRAY_CHAR_INDEX_SCALE", type := .int, accessFlags := 25, slot := 4, constantValue := 0 }, { name := "LOG2_ARRAY_SHORT_INDEX_SCALE", type := .int, accessFlags := 25, slot := 5, constantValue := 0 }, { name := "LOG2_ARRAY_INT_INDEX_SCALE", type := .int, accessFlags := 25, slot := 6, constantValue := 0 }, { name := "LOG2_ARRAY_LONG_INDEX_SCALE", type := .int, accessFlags := 25, slot := 7, constantValue := 0 }, { name := "LOG2_ARRAY_FLOAT_INDEX_SCALE", type := .int, accessFlags := 25, slot := 8, constantValue := 0 }, { name := "LOG2_ARRAY_DOUBLE_INDEX_SCALE", type := .int, accessFlags := 25, slot := 9, constantValue := 0 }, { name := "LOG2_BYTE_BIT_SIZE", type := .int, accessFlags := 26, slot := 10, constantValue := 0 }, { name := "T_BOOLEAN", type := .int, accessFlags := 25, slot := 11, constantValue := 0 }, { name := "T_CHAR", type := .int, accessFlags := 25, slot := 12, constantValue := 0 }, { name := "T_FLOAT", type := .int, accessFlags := 25, slot := 13, constantValue := 0 }, { name := "T_DOUBLE", type := .int, accessFlags := 25, slot := 14, constantValue := 0 }, { name := "T_BYTE", type := .int, accessFlags := 25, slot := 15, constantValue := 0 }, { name := "T_SHORT", type := .int, accessFlags := 25, slot := 16, constantValue := 0 }, { name := "T_INT", type := .int, accessFlags := 25, slot := 17, constantValue := 0 }, { name := "T_LONG", type := .int, accessFlags := 25, slot := 18, constantValue := 0 }, { name := "JLA", type := (.object "jdk/internal/access/JavaLangAccess"), accessFlags := 26, slot := 19, constantValue := 0 }, { name := "SOFT_MAX_ARRAY_LENGTH", type := .int, accessFlags := 25, slot := 20, constantValue := 0 }]
  methods := #[k21m0]
  instanceTypes := #[]
  staticTypes := #[(.object "jdk/internal/misc/Unsafe"), .boolean, .int, .int, .int, .int, .int, .int, .int, .int, .int, .int, .int, .int, .int, .int, .int, .int, .int, (.object "jdk/internal/access/JavaLangAccess"), .int]
  resolved := Array.replicate 378 none
  statics := none }

def pool22 : Array CpInfo := pool [(1, u "java/lang/Cloneable"), (0, .class_ 1), (0, u "java/lang/Object"), (0, .class_ 3)] 3

/-- java/lang/Cloneable -/
def k22 : Class := { plain "java/lang/Cloneable" (some 0) with
  accessFlags := 1537
  interfaces := #[]
  cf := some (fileOf pool22 2 #[] #[] 1537 4 #[] #[])
  fields := #[]
  methods := #[]
  instanceTypes := #[]
  staticTypes := #[]
  resolved := Array.replicate 8 none
  statics := none }

/-- the primitive byte -/
def k23 : Class := { plain "byte" none with kind := .primitive 'B', accessFlags := 0x411 }
/-- [B -/
def k24 : Class := { plain "[B" (some 0) with kind := .array 23 .byte, interfaces := #[22, 2], accessFlags := 1041 }

/-- the primitive char -/
def k25 : Class := { plain "char" none with kind := .primitive 'C', accessFlags := 0x411 }
/-- [C -/
def k26 : Class := { plain "[C" (some 0) with kind := .array 25 .char, interfaces := #[22, 2], accessFlags := 1041 }

/-- the primitive int -/
def k27 : Class := { plain "int" none with kind := .primitive 'I', accessFlags := 0x411 }
/-- [I -/
def k28 : Class := { plain "[I" (some 0) with kind := .array 27 .int, interfaces := #[22, 2], accessFlags := 1041 }

def heap : Heap := #[{ cls := 7, slots := #[.long 0, .int 1, .null, .int 0, .null, .int 0, .int 0], vm := .statics 7 },
  { cls := 15, slots := #[.int 0, .int 0, .null, .null, .ref 4, .ref 3, .int 0, .int 0, .long 0], vm := .statics 15 },
  { cls := 19, slots := #[.null, .null, .null], vm := .statics 19 },
  { cls := 24, slots := #[.int 48, .int 49, .int 50, .int 51, .int 52, .int 53, .int 54, .int 55, .int 56, .int 57, .int 48, .int 49, .int 50, .int 51, .int 52, .int 53, .int 54, .int 55, .int 56, .int 57, .int 48, .int 49, .int 50, .int 51, .int 52, .int 53, .int 54, .int 55, .int 56, .int 57, .int 48, .int 49, .int 50, .int 51, .int 52, .int 53, .int 54, .int 55, .int 56, .int 57, .int 48, .int 49, .int 50, .int 51, .int 52, .int 53, .int 54, .int 55, .int 56, .int 57, .int 48, .int 49, .int 50, .int 51, .int 52, .int 53, .int 54, .int 55, .int 56, .int 57, .int 48, .int 49, .int 50, .int 51, .int 52, .int 53, .int 54, .int 55, .int 56, .int 57, .int 48, .int 49, .int 50, .int 51, .int 52, .int 53, .int 54, .int 55, .int 56, .int 57, .int 48, .int 49, .int 50, .int 51, .int 52, .int 53, .int 54, .int 55, .int 56, .int 57, .int 48, .int 49, .int 50, .int 51, .int 52, .int 53, .int 54, .int 55, .int 56, .int 57], vm := .none },
  { cls := 24, slots := #[.int 48, .int 48, .int 48, .int 48, .int 48, .int 48, .int 48, .int 48, .int 48, .int 48, .int 49, .int 49, .int 49, .int 49, .int 49, .int 49, .int 49, .int 49, .int 49, .int 49, .int 50, .int 50, .int 50, .int 50, .int 50, .int 50, .int 50, .int 50, .int 50, .int 50, .int 51, .int 51, .int 51, .int 51, .int 51, .int 51, .int 51, .int 51, .int 51, .int 51, .int 52, .int 52, .int 52, .int 52, .int 52, .int 52, .int 52, .int 52, .int 52, .int 52, .int 53, .int 53, .int 53, .int 53, .int 53, .int 53, .int 53, .int 53, .int 53, .int 53, .int 54, .int 54, .int 54, .int 54, .int 54, .int 54, .int 54, .int 54, .int 54, .int 54, .int 55, .int 55, .int 55, .int 55, .int 55, .int 55, .int 55, .int 55, .int 55, .int 55, .int 56, .int 56, .int 56, .int 56, .int 56, .int 56, .int 56, .int 56, .int 56, .int 56, .int 57, .int 57, .int 57, .int 57, .int 57, .int 57, .int 57, .int 57, .int 57, .int 57], vm := .none }]
def classes : Array Class := #[k0, k1, k2, k3, k4, k5, k6, k7, k8, k9, k10, k11, k12, k13, k14, k15, k16, k17, k18, k19, k20, k21, k22, k23, k24, k25, k26, k27, k28]
def interned : List (Array UInt16 × Addr) := []
def slotsUsed : Nat := 219
def theMethod : MethodId := ⟨1, 5⟩
def args0 : Array Value := #[.int 2, .int 65, .int 66, .int 67, .int 120]
def aboutOver (below : List Frame) : State where
  vm := { classes := classes, interned := interned.toArray }
  heap := heap
  slotsUsed := slotsUsed
  threads := #[{ frames := .invoking theMethod args0 :: below }]
def below0 : List Frame := [.native { method := ⟨0, 0⟩, args := #[] }]
def about1 : State := aboutOver below0
def p0 : Program := .bare "" "" ""
def e0 : Env := launch0.env 0 0 0
theorem w_frames : about1.frames = Frame.invoking theMethod args0 :: below0 := rfl
set_option maxRecDepth 65536 in
theorem w_args : argsFit about1.vm theMethod args0 = true := by decide +kernel
set_option maxRecDepth 65536 in
theorem w_heap : heapFits about1 = true := by decide +kernel
set_option maxRecDepth 65536 in
theorem w_runnable : about1.curStatus? = some .runnable := by decide +kernel
set_option maxRecDepth 65536 in
theorem w_alone : about1.alone = true := by decide +kernel
set_option maxRecDepth 65536 in
theorem w_named : about1.methodNamed? x = some theMethod := by decide +kernel
set_option maxRecDepth 65536 in
theorem w_hears : about1.hears theMethod below0 = true := by decide +kernel
set_option maxRecDepth 65536 in
theorem w_ripe : about1.ripe theMethod args0 below0 = true := by decide +kernel
theorem w_running : about1.status = .running := rfl
set_option maxRecDepth 65536 in
theorem w_room : about1.hasRoom e0.platform room_1 = true :=
  launch0.hasRoom_least _ room_1 (by decide +kernel) (by decide +kernel) (by decide +kernel) (by decide +kernel) (by decide +kernel) (by decide +kernel)
theorem allAtoms_all (ts : List Jvm.Cond) (a : Array Jvm.Value) (st : Jvm.State) : (allAtoms ts).before a st = ts.all (fun c => c.before a st) := by
  induction ts with
  | nil => rfl
  | cons c t ih =>
    show (Jvm.Cond.and c (allAtoms t)).before a st = _
    rw [Jvm.Cond.before_and, ih, List.all_cons]
def words1 : List Jvm.Cond := Jvm.Cond.code x code maxLocals ret :: tables_1
/-- a 'code' word, met by the world's own term for the bytes: nothing is compared byte by byte -/
theorem code_word {y : MethodName} {bytes : ByteArray} {mx : Nat} {rt : Option FieldType} {a : Array Value} {s : State} {m : MethodId} {meth : Method} {c : Code} (h1 : s.methodNamed? y = some m) (h2 : s.vm.method? m = some meth) (h3 : meth.code = some c) (h4 : c.code = bytes)
    (h5 : (c.maxLocals == mx && c.exceptionTable.isEmpty && decide (c.maxStack ≤ mostOperands) && decide (meth.sig.returnType = rt) && !meth.locks && decide (parseMethodDescriptor y.desc = some meth.sig)) = true) : (Jvm.Cond.code y bytes mx rt).before a s = true := by
  simp only [Bool.and_eq_true, beq_iff_eq, Bool.not_eq_true', decide_eq_true_eq] at h5
  obtain ⟨⟨⟨⟨⟨g1, g2⟩, g3⟩, g4⟩, g5⟩, g6⟩ := h5
  simp [Cond.before, Cond.holds, Cond.value, h1, h2, h3, h4, g1, g2, g3, g4, g5, g6]
def isCode : Jvm.Cond → Bool
  | .code _ _ _ _ => true
  | _ => false
theorem all_split {L : List Jvm.Cond} {P : Jvm.Cond → Bool} (h1 : L.all (fun c => isCode c || P c) = true) (h2 : ∀ c ∈ L.filter isCode, P c = true) : L.all P = true := by
  refine List.all_eq_true.mpr fun c hc => ?_
  have h := List.all_eq_true.mp h1 c hc
  rcases Bool.eq_false_or_eq_true (isCode c) with hi | hi
  · exact h2 c (List.mem_filter.mpr ⟨hc, hi⟩)
  · simpa [hi] using h
set_option maxRecDepth 65536 in
theorem w_c0 : (Jvm.Cond.code x code maxLocals ret).before args0 about1 = true := code_word (m := ⟨1, 5⟩) (meth := k1m5) (c := k1c5) (by decide +kernel) rfl rfl rfl (by decide +kernel)
set_option maxRecDepth 65536 in
theorem w_c1 : (Jvm.Cond.code ({ cls := "java/lang/String", name := "<init>", desc := "([C)V" } : Jvm.MethodName) jdk_42_method_3_code (2 : Nat) (Option.none : Option Jvm.ClassFile.FieldType)).before args0 about1 = true := code_word (m := ⟨7, 1⟩) (meth := k7m1) (c := k7c1) (by decide +kernel) rfl rfl rfl (by decide +kernel)
set_option maxRecDepth 65536 in
theorem w_c2 : (Jvm.Cond.code ({ cls := "java/lang/String", name := "<init>", desc := "([CIILjava/lang/Void;)V" } : Jvm.MethodName) jdk_42_method_149_code (6 : Nat) (Option.none : Option Jvm.ClassFile.FieldType)).before args0 about1 = true := code_word (m := ⟨7, 6⟩) (meth := k7m6) (c := k7c6) (by decide +kernel) rfl rfl rfl (by decide +kernel)
set_option maxRecDepth 65536 in
theorem w_c3 : (Jvm.Cond.code ({ cls := "java/lang/Object", name := "<init>", desc := "()V" } : Jvm.MethodName) object_method_1_code (1 : Nat) (Option.none : Option Jvm.ClassFile.FieldType)).before args0 about1 = true := code_word (m := ⟨0, 0⟩) (meth := k0m0) (c := k0c0) (by decide +kernel) rfl rfl rfl (by decide +kernel)
set_option maxRecDepth 65536 in
theorem w_c4 : (Jvm.Cond.code ({ cls := "com/example/tasks_to_members/taskstomembers/core/Task", name := "<init>", desc := "(Ljava/lang/String;I)V" } : Jvm.MethodName) prog_6_method_1_code (3 : Nat) (Option.none : Option Jvm.ClassFile.FieldType)).before args0 about1 = true := code_word (m := ⟨8, 0⟩) (meth := k8m0) (c := k8c0) (by decide +kernel) rfl rfl rfl (by decide +kernel)
set_option maxRecDepth 65536 in
theorem w_c5 : (Jvm.Cond.code ({ cls := "java/util/Objects", name := "requireNonNull", desc := "(Ljava/lang/Object;Ljava/lang/String;)Ljava/lang/Object;" } : Jvm.MethodName) jdk_31_method_11_code (2 : Nat) (Option.some (Jvm.ClassFile.FieldType.object "java/lang/Object"))).before args0 about1 = true := code_word (m := ⟨9, 1⟩) (meth := k9m1) (c := k9c1) (by decide +kernel) rfl rfl rfl (by decide +kernel)
set_option maxRecDepth 65536 in
theorem w_c6 : (Jvm.Cond.code ({ cls := "com/example/tasks_to_members/taskstomembers/core/Task", name := "toString", desc := "()Ljava/lang/String;" } : Jvm.MethodName) prog_6_method_7_code (1 : Nat) (Option.some (Jvm.ClassFile.FieldType.object "java/lang/String"))).before args0 about1 = true := code_word (m := ⟨8, 1⟩) (meth := k8m1) (c := k8c1) (by decide +kernel) rfl rfl rfl (by decide +kernel)
set_option maxRecDepth 65536 in
theorem w_c7 : (Jvm.Cond.code ({ cls := "java/lang/StringBuilder", name := "<init>", desc := "()V" } : Jvm.MethodName) jdk_67_method_1_code (1 : Nat) (Option.none : Option Jvm.ClassFile.FieldType)).before args0 about1 = true := code_word (m := ⟨12, 0⟩) (meth := k12m0) (c := k12c0) (by decide +kernel) rfl rfl rfl (by decide +kernel)
set_option maxRecDepth 65536 in
theorem w_c8 : (Jvm.Cond.code ({ cls := "java/lang/AbstractStringBuilder", name := "<init>", desc := "(I)V" } : Jvm.MethodName) jdk_68_method_2_code (2 : Nat) (Option.none : Option Jvm.ClassFile.FieldType)).before args0 about1 = true := code_word (m := ⟨11, 1⟩) (meth := k11m1) (c := k11c1) (by decide +kernel) rfl rfl rfl (by decide +kernel)
set_option maxRecDepth 65536 in
theorem w_c9 : (Jvm.Cond.code ({ cls := "java/lang/StringBuilder", name := "append", desc := "(Ljava/lang/String;)Ljava/lang/StringBuilder;" } : Jvm.MethodName) jdk_67_method_7_code (2 : Nat) (Option.some (Jvm.ClassFile.FieldType.object "java/lang/StringBuilder"))).before args0 about1 = true := code_word (m := ⟨12, 1⟩) (meth := k12m1) (c := k12c1) (by decide +kernel) rfl rfl rfl (by decide +kernel)
set_option maxRecDepth 65536 in
theorem w_c10 : (Jvm.Cond.code ({ cls := "java/lang/AbstractStringBuilder", name := "append", desc := "(Ljava/lang/String;)Ljava/lang/AbstractStringBuilder;" } : Jvm.MethodName) jdk_68_method_22_code (3 : Nat) (Option.some (Jvm.ClassFile.FieldType.object "java/lang/AbstractStringBuilder"))).before args0 about1 = true := code_word (m := ⟨11, 4⟩) (meth := k11m4) (c := k11c4) (by decide +kernel) rfl rfl rfl (by decide +kernel)
set_option maxRecDepth 65536 in
theorem w_c11 : (Jvm.Cond.code ({ cls := "java/lang/String", name := "length", desc := "()I" } : Jvm.MethodName) jdk_42_method_54_code (1 : Nat) (Option.some Jvm.ClassFile.FieldType.int)).before args0 about1 = true := code_word (m := ⟨7, 3⟩) (meth := k7m3) (c := k7c3) (by decide +kernel) rfl rfl rfl (by decide +kernel)
set_option maxRecDepth 65536 in
theorem w_c12 : (Jvm.Cond.code ({ cls := "java/lang/String", name := "coder", desc := "()B" } : Jvm.MethodName) jdk_42_method_152_code (1 : Nat) (Option.some Jvm.ClassFile.FieldType.byte)).before args0 about1 = true := code_word (m := ⟨7, 8⟩) (meth := k7m8) (c := k7c8) (by decide +kernel) rfl rfl rfl (by decide +kernel)
set_option maxRecDepth 65536 in
theorem w_c13 : (Jvm.Cond.code ({ cls := "java/lang/AbstractStringBuilder", name := "ensureCapacityInternal", desc := "(I)V" } : Jvm.MethodName) jdk_68_method_9_code (3 : Nat) (Option.none : Option Jvm.ClassFile.FieldType)).before args0 about1 = true := code_word (m := ⟨11, 3⟩) (meth := k11m3) (c := k11c3) (by decide +kernel) rfl rfl rfl (by decide +kernel)
set_option maxRecDepth 65536 in
theorem w_c14 : (Jvm.Cond.code ({ cls := "java/lang/AbstractStringBuilder", name := "putStringAt", desc := "(ILjava/lang/String;)V" } : Jvm.MethodName) jdk_68_method_73_code (3 : Nat) (Option.none : Option Jvm.ClassFile.FieldType)).before args0 about1 = true := code_word (m := ⟨11, 9⟩) (meth := k11m9) (c := k11c9) (by decide +kernel) rfl rfl rfl (by decide +kernel)
set_option maxRecDepth 65536 in
theorem w_c15 : (Jvm.Cond.code ({ cls := "java/lang/AbstractStringBuilder", name := "inflateIfNeededFor", desc := "(Ljava/lang/String;)V" } : Jvm.MethodName) jdk_68_method_71_code (2 : Nat) (Option.none : Option Jvm.ClassFile.FieldType)).before args0 about1 = true := code_word (m := ⟨11, 8⟩) (meth := k11m8) (c := k11c8) (by decide +kernel) rfl rfl rfl (by decide +kernel)
set_option maxRecDepth 65536 in
theorem w_c16 : (Jvm.Cond.code ({ cls := "java/lang/String", name := "getBytes", desc := "([BIB)V" } : Jvm.MethodName) jdk_42_method_147_code (4 : Nat) (Option.none : Option Jvm.ClassFile.FieldType)).before args0 about1 = true := code_word (m := ⟨7, 5⟩) (meth := k7m5) (c := k7c5) (by decide +kernel) rfl rfl rfl (by decide +kernel)
set_option maxRecDepth 65536 in
theorem w_c17 : (Jvm.Cond.code ({ cls := "java/lang/StringBuilder", name := "append", desc := "(I)Ljava/lang/StringBuilder;" } : Jvm.MethodName) jdk_67_method_15_code (2 : Nat) (Option.some (Jvm.ClassFile.FieldType.object "java/lang/StringBuilder"))).before args0 about1 = true := code_word (m := ⟨12, 2⟩) (meth := k12m2) (c := k12c2) (by decide +kernel) rfl rfl rfl (by decide +kernel)
set_option maxRecDepth 65536 in
theorem w_c18 : (Jvm.Cond.code ({ cls := "java/lang/AbstractStringBuilder", name := "append", desc := "(I)Ljava/lang/AbstractStringBuilder;" } : Jvm.MethodName) jdk_68_method_32_code (4 : Nat) (Option.some (Jvm.ClassFile.FieldType.object "java/lang/AbstractStringBuilder"))).before args0 about1 = true := code_word (m := ⟨11, 5⟩) (meth := k11m5) (c := k11c5) (by decide +kernel) rfl rfl rfl (by decide +kernel)
set_option maxRecDepth 65536 in
theorem w_c19 : (Jvm.Cond.code ({ cls := "java/lang/Integer", name := "stringSize", desc := "(I)I" } : Jvm.MethodName) jdk_33_method_13_code (4 : Nat) (Option.some Jvm.ClassFile.FieldType.int)).before args0 about1 = true := code_word (m := ⟨15, 1⟩) (meth := k15m1) (c := k15c1) (by decide +kernel) rfl rfl rfl (by decide +kernel)
set_option maxRecDepth 65536 in
theorem w_c20 : (Jvm.Cond.code ({ cls := "java/lang/AbstractStringBuilder", name := "isLatin1", desc := "()Z" } : Jvm.MethodName) jdk_68_method_68_code (1 : Nat) (Option.some Jvm.ClassFile.FieldType.boolean)).before args0 about1 = true := code_word (m := ⟨11, 7⟩) (meth := k11m7) (c := k11c7) (by decide +kernel) rfl rfl rfl (by decide +kernel)
set_option maxRecDepth 65536 in
theorem w_c21 : (Jvm.Cond.code ({ cls := "java/lang/Integer", name := "getChars", desc := "(II[B)I" } : Jvm.MethodName) jdk_33_method_12_code (7 : Nat) (Option.some Jvm.ClassFile.FieldType.int)).before args0 about1 = true := code_word (m := ⟨15, 0⟩) (meth := k15m0) (c := k15c0) (by decide +kernel) rfl rfl rfl (by decide +kernel)
set_option maxRecDepth 65536 in
theorem w_c22 : (Jvm.Cond.code ({ cls := "java/lang/StringBuilder", name := "toString", desc := "()Ljava/lang/String;" } : Jvm.MethodName) jdk_67_method_42_code (1 : Nat) (Option.some (Jvm.ClassFile.FieldType.object "java/lang/String"))).before args0 about1 = true := code_word (m := ⟨12, 3⟩) (meth := k12m3) (c := k12c3) (by decide +kernel) rfl rfl rfl (by decide +kernel)
set_option maxRecDepth 65536 in
theorem w_c23 : (Jvm.Cond.code ({ cls := "java/lang/String", name := "<init>", desc := "(Ljava/lang/StringBuilder;)V" } : Jvm.MethodName) jdk_42_method_53_code (2 : Nat) (Option.none : Option Jvm.ClassFile.FieldType)).before args0 about1 = true := code_word (m := ⟨7, 2⟩) (meth := k7m2) (c := k7c2) (by decide +kernel) rfl rfl rfl (by decide +kernel)
set_option maxRecDepth 65536 in
theorem w_c24 : (Jvm.Cond.code ({ cls := "java/lang/String", name := "<init>", desc := "(Ljava/lang/AbstractStringBuilder;Ljava/lang/Void;)V" } : Jvm.MethodName) jdk_42_method_150_code (5 : Nat) (Option.none : Option Jvm.ClassFile.FieldType)).before args0 about1 = true := code_word (m := ⟨7, 7⟩) (meth := k7m7) (c := k7c7) (by decide +kernel) rfl rfl rfl (by decide +kernel)
set_option maxRecDepth 65536 in
theorem w_c25 : (Jvm.Cond.code ({ cls := "java/lang/AbstractStringBuilder", name := "getValue", desc := "()[B" } : Jvm.MethodName) jdk_68_method_64_code (1 : Nat) (Option.some (Jvm.ClassFile.FieldType.array Jvm.ClassFile.FieldType.byte))).before args0 about1 = true := code_word (m := ⟨11, 6⟩) (meth := k11m6) (c := k11c6) (by decide +kernel) rfl rfl rfl (by decide +kernel)
set_option maxRecDepth 65536 in
theorem w_c26 : (Jvm.Cond.code ({ cls := "java/lang/StringBuilder", name := "length", desc := "()I" } : Jvm.MethodName) jdk_67_method_93_code (1 : Nat) (Option.some Jvm.ClassFile.FieldType.int)).before args0 about1 = true := code_word (m := ⟨12, 4⟩) (meth := k12m4) (c := k12c4) (by decide +kernel) rfl rfl rfl (by decide +kernel)
set_option maxRecDepth 65536 in
theorem w_c27 : (Jvm.Cond.code ({ cls := "java/lang/AbstractStringBuilder", name := "length", desc := "()I" } : Jvm.MethodName) jdk_68_method_6_code (1 : Nat) (Option.some Jvm.ClassFile.FieldType.int)).before args0 about1 = true := code_word (m := ⟨11, 2⟩) (meth := k11m2) (c := k11c2) (by decide +kernel) rfl rfl rfl (by decide +kernel)
set_option maxRecDepth 65536 in
theorem w_c28 : (Jvm.Cond.code ({ cls := "java/util/Arrays", name := "copyOfRange", desc := "([BII)[B" } : Jvm.MethodName) jdk_65_method_132_code (3 : Nat) (Option.some (Jvm.ClassFile.FieldType.array Jvm.ClassFile.FieldType.byte))).before args0 about1 = true := code_word (m := ⟨16, 2⟩) (meth := k16m2) (c := k16c2) (by decide +kernel) rfl rfl rfl (by decide +kernel)
set_option maxRecDepth 65536 in
theorem w_c29 : (Jvm.Cond.code ({ cls := "java/util/Arrays", name := "copyOfRangeByte", desc := "([BII)[B" } : Jvm.MethodName) jdk_65_method_133_code (5 : Nat) (Option.some (Jvm.ClassFile.FieldType.array Jvm.ClassFile.FieldType.byte))).before args0 about1 = true := code_word (m := ⟨16, 3⟩) (meth := k16m3) (c := k16c3) (by decide +kernel) rfl rfl rfl (by decide +kernel)
set_option maxRecDepth 65536 in
theorem w_c30 : (Jvm.Cond.code ({ cls := "java/util/Arrays", name := "checkLength", desc := "(II)V" } : Jvm.MethodName) jdk_65_method_131_code (2 : Nat) (Option.none : Option Jvm.ClassFile.FieldType)).before args0 about1 = true := code_word (m := ⟨16, 1⟩) (meth := k16m1) (c := k16c1) (by decide +kernel) rfl rfl rfl (by decide +kernel)
set_option maxRecDepth 65536 in
theorem w_c31 : (Jvm.Cond.code ({ cls := "java/lang/Math", name := "min", desc := "(II)I" } : Jvm.MethodName) jdk_29_method_69_code (2 : Nat) (Option.some Jvm.ClassFile.FieldType.int)).before args0 about1 = true := code_word (m := ⟨17, 2⟩) (meth := k17m2) (c := k17c2) (by decide +kernel) rfl rfl rfl (by decide +kernel)
set_option maxRecDepth 65536 in
theorem w_c32 : (Jvm.Cond.code ({ cls := "java/lang/Math", name := "abs", desc := "(J)J" } : Jvm.MethodName) jdk_29_method_61_code (2 : Nat) (Option.some Jvm.ClassFile.FieldType.long)).before args0 about1 = true := code_word (m := ⟨17, 1⟩) (meth := k17m1) (c := k17c1) (by decide +kernel) rfl rfl rfl (by decide +kernel)
set_option maxRecDepth 65536 in
theorem w_c33 : (Jvm.Cond.code ({ cls := "com/example/tasks_to_members/taskstomembers/core/TaskToStringPinLaw", name := "digits", desc := "(J)I" } : Jvm.MethodName) method_3_code (2 : Nat) (Option.some Jvm.ClassFile.FieldType.int)).before args0 about1 = true := code_word (m := ⟨1, 2⟩) (meth := k1m2) (c := k1c2) (by decide +kernel) rfl rfl rfl (by decide +kernel)
set_option maxRecDepth 65536 in
theorem w_c34 : (Jvm.Cond.code ({ cls := "com/example/tasks_to_members/taskstomembers/core/TaskToStringPinLaw", name := "charOk", desc := "(Ljava/lang/String;IIC)Z" } : Jvm.MethodName) method_4_code (4 : Nat) (Option.some Jvm.ClassFile.FieldType.boolean)).before args0 about1 = true := code_word (m := ⟨1, 3⟩) (meth := k1m3) (c := k1c3) (by decide +kernel) rfl rfl rfl (by decide +kernel)
set_option maxRecDepth 65536 in
theorem w_c35 : (Jvm.Cond.code ({ cls := "java/lang/String", name := "charAt", desc := "(I)C" } : Jvm.MethodName) jdk_42_method_56_code (2 : Nat) (Option.some Jvm.ClassFile.FieldType.char)).before args0 about1 = true := code_word (m := ⟨7, 4⟩) (meth := k7m4) (c := k7c4) (by decide +kernel) rfl rfl rfl (by decide +kernel)
set_option maxRecDepth 65536 in
theorem w_c36 : (Jvm.Cond.code ({ cls := "java/lang/String", name := "isLatin1", desc := "()Z" } : Jvm.MethodName) jdk_42_method_154_code (1 : Nat) (Option.some Jvm.ClassFile.FieldType.boolean)).before args0 about1 = true := code_word (m := ⟨7, 9⟩) (meth := k7m9) (c := k7c9) (by decide +kernel) rfl rfl rfl (by decide +kernel)
set_option maxRecDepth 65536 in
theorem w_c37 : (Jvm.Cond.code ({ cls := "java/lang/StringLatin1", name := "charAt", desc := "([BI)C" } : Jvm.MethodName) jdk_43_method_2_code (2 : Nat) (Option.some Jvm.ClassFile.FieldType.char)).before args0 about1 = true := code_word (m := ⟨18, 1⟩) (meth := k18m1) (c := k18c1) (by decide +kernel) rfl rfl rfl (by decide +kernel)
set_option maxRecDepth 65536 in
theorem w_c38 : (Jvm.Cond.code ({ cls := "java/lang/String", name := "checkIndex", desc := "(II)V" } : Jvm.MethodName) jdk_42_method_155_code (2 : Nat) (Option.none : Option Jvm.ClassFile.FieldType)).before args0 about1 = true := code_word (m := ⟨7, 10⟩) (meth := k7m10) (c := k7c10) (by decide +kernel) rfl rfl rfl (by decide +kernel)
set_option maxRecDepth 65536 in
theorem w_c39 : (Jvm.Cond.code ({ cls := "jdk/internal/util/Preconditions", name := "checkIndex", desc := "(IILjava/util/function/BiFunction;)I" } : Jvm.MethodName) jdk_41_method_11_code (3 : Nat) (Option.some Jvm.ClassFile.FieldType.int)).before args0 about1 = true := code_word (m := ⟨19, 1⟩) (meth := k19m1) (c := k19c1) (by decide +kernel) rfl rfl rfl (by decide +kernel)
set_option maxRecDepth 65536 in
theorem w_c40 : (Jvm.Cond.code ({ cls := "com/example/tasks_to_members/taskstomembers/core/TaskToStringPinLaw", name := "digitOk", desc := "(Ljava/lang/String;IJII)Z" } : Jvm.MethodName) method_5_code (8 : Nat) (Option.some Jvm.ClassFile.FieldType.boolean)).before args0 about1 = true := code_word (m := ⟨1, 4⟩) (meth := k1m4) (c := k1c4) (by decide +kernel) rfl rfl rfl (by decide +kernel)
set_option maxRecDepth 65536 in
theorem w_c41 : (Jvm.Cond.code ({ cls := "com/example/tasks_to_members/taskstomembers/core/TaskToStringPinLaw", name := "pow10", desc := "(I)J" } : Jvm.MethodName) method_2_code (1 : Nat) (Option.some Jvm.ClassFile.FieldType.long)).before args0 about1 = true := code_word (m := ⟨1, 1⟩) (meth := k1m1) (c := k1c1) (by decide +kernel) rfl rfl rfl (by decide +kernel)
set_option maxRecDepth 65536 in
theorem w_c42 : (Jvm.Cond.code ({ cls := "java/lang/StringUTF16", name := "compress", desc := "([CII)[B" } : Jvm.MethodName) jdk_52_method_16_code (6 : Nat) (Option.some (Jvm.ClassFile.FieldType.array Jvm.ClassFile.FieldType.byte))).before args0 about1 = true := code_word (m := ⟨20, 2⟩) (meth := k20m2) (c := k20c2) (by decide +kernel) rfl rfl rfl (by decide +kernel)
set_option maxRecDepth 65536 in
theorem w_c43 : (Jvm.Cond.code ({ cls := "java/lang/StringUTF16", name := "compress", desc := "([CI[BII)I" } : Jvm.MethodName) jdk_52_method_21_code (7 : Nat) (Option.some Jvm.ClassFile.FieldType.int)).before args0 about1 = true := code_word (m := ⟨20, 3⟩) (meth := k20m3) (c := k20c3) (by decide +kernel) rfl rfl rfl (by decide +kernel)
set_option maxRecDepth 65536 in
theorem w_c44 : (Jvm.Cond.code ({ cls := "java/lang/StringUTF16", name := "coderFromArrayLen", desc := "([BI)B" } : Jvm.MethodName) jdk_52_method_15_code (2 : Nat) (Option.some Jvm.ClassFile.FieldType.byte)).before args0 about1 = true := code_word (m := ⟨20, 1⟩) (meth := k20m1) (c := k20c1) (by decide +kernel) rfl rfl rfl (by decide +kernel)
def codes1 : List Jvm.Cond := [Jvm.Cond.code x code maxLocals ret, Jvm.Cond.code ({ cls := "java/lang/String", name := "<init>", desc := "([C)V" } : Jvm.MethodName) jdk_42_method_3_code (2 : Nat) (Option.none : Option Jvm.ClassFile.FieldType), Jvm.Cond.code ({ cls := "java/lang/String", name := "<init>", desc := "([CIILjava/lang/Void;)V" } : Jvm.MethodName) jdk_42_method_149_code (6 : Nat) (Option.none : Option Jvm.ClassFile.FieldType), Jvm.Cond.code ({ cls := "java/lang/Object", name := "<init>", desc := "()V" } : Jvm.MethodName) object_method_1_code (1 : Nat) (Option.none : Option Jvm.ClassFile.FieldType), Jvm.Cond.code ({ cls := "com/example/tasks_to_members/taskstomembers/core/Task", name := "<init>", desc := "(Ljava/lang/String;I)V" } : Jvm.MethodName) prog_6_method_1_code (3 : Nat) (Option.none : Option Jvm.ClassFile.FieldType), Jvm.Cond.code ({ cls := "java/util/Objects", name := "requireNonNull", desc := "(Ljava/lang/Object;Ljava/lang/String;)Ljava/lang/Object;" } : Jvm.MethodName) jdk_31_method_11_code (2 : Nat) (Option.some (Jvm.ClassFile.FieldType.object "java/lang/Object")), Jvm.Cond.code ({ cls := "com/example/tasks_to_members/taskstomembers/core/Task", name := "toString", desc := "()Ljava/lang/String;" } : Jvm.MethodName) prog_6_method_7_code (1 : Nat) (Option.some (Jvm.ClassFile.FieldType.object "java/lang/String")), Jvm.Cond.code ({ cls := "java/lang/StringBuilder", name := "<init>", desc := "()V" } : Jvm.MethodName) jdk_67_method_1_code (1 : Nat) (Option.none : Option Jvm.ClassFile.FieldType), Jvm.Cond.code ({ cls := "java/lang/AbstractStringBuilder", name := "<init>", desc := "(I)V" } : Jvm.MethodName) jdk_68_method_2_code (2 : Nat) (Option.none : Option Jvm.ClassFile.FieldType), Jvm.Cond.code ({ cls := "java/lang/StringBuilder", name := "append", desc := "(Ljava/lang/String;)Ljava/lang/StringBuilder;" } : Jvm.MethodName) jdk_67_method_7_code (2 : Nat) (Option.some (Jvm.ClassFile.FieldType.object "java/lang/StringBuilder")), Jvm.Cond.code ({ cls := "java/lang/AbstractStringBuilder", name := "append", desc := "(Ljava/lang/String;)Ljava/lang/AbstractStringBuilder;" } : Jvm.MethodName) jdk_68_method_22_code (3 : Nat) (Option.some (Jvm.ClassFile.FieldType.object "java/lang/AbstractStringBuilder")), Jvm.Cond.code ({ cls := "java/lang/String", name := "length", desc := "()I" } : Jvm.MethodName) jdk_42_method_54_code (1 : Nat) (Option.some Jvm.ClassFile.FieldType.int), Jvm.Cond.code ({ cls := "java/lang/String", name := "coder", desc := "()B" } : Jvm.MethodName) jdk_42_method_152_code (1 : Nat) (Option.some Jvm.ClassFile.FieldType.byte), Jvm.Cond.code ({ cls := "java/lang/AbstractStringBuilder", name := "ensureCapacityInternal", desc := "(I)V" } : Jvm.MethodName) jdk_68_method_9_code (3 : Nat) (Option.none : Option Jvm.ClassFile.FieldType), Jvm.Cond.code ({ cls := "java/lang/AbstractStringBuilder", name := "putStringAt", desc := "(ILjava/lang/String;)V" } : Jvm.MethodName) jdk_68_method_73_code (3 : Nat) (Option.none : Option Jvm.ClassFile.FieldType), Jvm.Cond.code ({ cls := "java/lang/AbstractStringBuilder", name := "inflateIfNeededFor", desc := "(Ljava/lang/String;)V" } : Jvm.MethodName) jdk_68_method_71_code (2 : Nat) (Option.none : Option Jvm.ClassFile.FieldType), Jvm.Cond.code ({ cls := "java/lang/String", name := "getBytes", desc := "([BIB)V" } : Jvm.MethodName) jdk_42_method_147_code (4 : Nat) (Option.none : Option Jvm.ClassFile.FieldType), Jvm.Cond.code ({ cls := "java/lang/StringBuilder", name := "append", desc := "(I)Ljava/lang/StringBuilder;" } : Jvm.MethodName) jdk_67_method_15_code (2 : Nat) (Option.some (Jvm.ClassFile.FieldType.object "java/lang/StringBuilder")), Jvm.Cond.code ({ cls := "java/lang/AbstractStringBuilder", name := "append", desc := "(I)Ljava/lang/AbstractStringBuilder;" } : Jvm.MethodName) jdk_68_method_32_code (4 : Nat) (Option.some (Jvm.ClassFile.FieldType.object "java/lang/AbstractStringBuilder")), Jvm.Cond.code ({ cls := "java/lang/Integer", name := "stringSize", desc := "(I)I" } : Jvm.MethodName) jdk_33_method_13_code (4 : Nat) (Option.some Jvm.ClassFile.FieldType.int), Jvm.Cond.code ({ cls := "java/lang/AbstractStringBuilder", name := "isLatin1", desc := "()Z" } : Jvm.MethodName) jdk_68_method_68_code (1 : Nat) (Option.some Jvm.ClassFile.FieldType.boolean), Jvm.Cond.code ({ cls := "java/lang/Integer", name := "getChars", desc := "(II[B)I" } : Jvm.MethodName) jdk_33_method_12_code (7 : Nat) (Option.some Jvm.ClassFile.FieldType.int), Jvm.Cond.code ({ cls := "java/lang/StringBuilder", name := "toString", desc := "()Ljava/lang/String;" } : Jvm.MethodName) jdk_67_method_42_code (1 : Nat) (Option.some (Jvm.ClassFile.FieldType.object "java/lang/String")), Jvm.Cond.code ({ cls := "java/lang/String", name := "<init>", desc := "(Ljava/lang/StringBuilder;)V" } : Jvm.MethodName) jdk_42_method_53_code (2 : Nat) (Option.none : Option Jvm.ClassFile.FieldType), Jvm.Cond.code ({ cls := "java/lang/String", name := "<init>", desc := "(Ljava/lang/AbstractStringBuilder;Ljava/lang/Void;)V" } : Jvm.MethodName) jdk_42_method_150_code (5 : Nat) (Option.none : Option Jvm.ClassFile.FieldType), Jvm.Cond.code ({ cls := "java/lang/AbstractStringBuilder", name := "getValue", desc := "()[B" } : Jvm.MethodName) jdk_68_method_64_code (1 : Nat) (Option.some (Jvm.ClassFile.FieldType.array Jvm.ClassFile.FieldType.byte)), Jvm.Cond.code ({ cls := "java/lang/StringBuilder", name := "length", desc := "()I" } : Jvm.MethodName) jdk_67_method_93_code (1 : Nat) (Option.some Jvm.ClassFile.FieldType.int), Jvm.Cond.code ({ cls := "java/lang/AbstractStringBuilder", name := "length", desc := "()I" } : Jvm.MethodName) jdk_68_method_6_code (1 : Nat) (Option.some Jvm.ClassFile.FieldType.int), Jvm.Cond.code ({ cls := "java/util/Arrays", name := "copyOfRange", desc := "([BII)[B" } : Jvm.MethodName) jdk_65_method_132_code (3 : Nat) (Option.some (Jvm.ClassFile.FieldType.array Jvm.ClassFile.FieldType.byte)), Jvm.Cond.code ({ cls := "java/util/Arrays", name := "copyOfRangeByte", desc := "([BII)[B" } : Jvm.MethodName) jdk_65_method_133_code (5 : Nat) (Option.some (Jvm.ClassFile.FieldType.array Jvm.ClassFile.FieldType.byte)), Jvm.Cond.code ({ cls := "java/util/Arrays", name := "checkLength", desc := "(II)V" } : Jvm.MethodName) jdk_65_method_131_code (2 : Nat) (Option.none : Option Jvm.ClassFile.FieldType), Jvm.Cond.code ({ cls := "java/lang/Math", name := "min", desc := "(II)I" } : Jvm.MethodName) jdk_29_method_69_code (2 : Nat) (Option.some Jvm.ClassFile.FieldType.int), Jvm.Cond.code ({ cls := "java/lang/Math", name := "abs", desc := "(J)J" } : Jvm.MethodName) jdk_29_method_61_code (2 : Nat) (Option.some Jvm.ClassFile.FieldType.long), Jvm.Cond.code ({ cls := "com/example/tasks_to_members/taskstomembers/core/TaskToStringPinLaw", name := "digits", desc := "(J)I" } : Jvm.MethodName) method_3_code (2 : Nat) (Option.some Jvm.ClassFile.FieldType.int), Jvm.Cond.code ({ cls := "com/example/tasks_to_members/taskstomembers/core/TaskToStringPinLaw", name := "charOk", desc := "(Ljava/lang/String;IIC)Z" } : Jvm.MethodName) method_4_code (4 : Nat) (Option.some Jvm.ClassFile.FieldType.boolean), Jvm.Cond.code ({ cls := "java/lang/String", name := "charAt", desc := "(I)C" } : Jvm.MethodName) jdk_42_method_56_code (2 : Nat) (Option.some Jvm.ClassFile.FieldType.char), Jvm.Cond.code ({ cls := "java/lang/String", name := "isLatin1", desc := "()Z" } : Jvm.MethodName) jdk_42_method_154_code (1 : Nat) (Option.some Jvm.ClassFile.FieldType.boolean), Jvm.Cond.code ({ cls := "java/lang/StringLatin1", name := "charAt", desc := "([BI)C" } : Jvm.MethodName) jdk_43_method_2_code (2 : Nat) (Option.some Jvm.ClassFile.FieldType.char), Jvm.Cond.code ({ cls := "java/lang/String", name := "checkIndex", desc := "(II)V" } : Jvm.MethodName) jdk_42_method_155_code (2 : Nat) (Option.none : Option Jvm.ClassFile.FieldType), Jvm.Cond.code ({ cls := "jdk/internal/util/Preconditions", name := "checkIndex", desc := "(IILjava/util/function/BiFunction;)I" } : Jvm.MethodName) jdk_41_method_11_code (3 : Nat) (Option.some Jvm.ClassFile.FieldType.int), Jvm.Cond.code ({ cls := "com/example/tasks_to_members/taskstomembers/core/TaskToStringPinLaw", name := "digitOk", desc := "(Ljava/lang/String;IJII)Z" } : Jvm.MethodName) method_5_code (8 : Nat) (Option.some Jvm.ClassFile.FieldType.boolean), Jvm.Cond.code ({ cls := "com/example/tasks_to_members/taskstomembers/core/TaskToStringPinLaw", name := "pow10", desc := "(I)J" } : Jvm.MethodName) method_2_code (1 : Nat) (Option.some Jvm.ClassFile.FieldType.long), Jvm.Cond.code ({ cls := "java/lang/StringUTF16", name := "compress", desc := "([CII)[B" } : Jvm.MethodName) jdk_52_method_16_code (6 : Nat) (Option.some (Jvm.ClassFile.FieldType.array Jvm.ClassFile.FieldType.byte)), Jvm.Cond.code ({ cls := "java/lang/StringUTF16", name := "compress", desc := "([CI[BII)I" } : Jvm.MethodName) jdk_52_method_21_code (7 : Nat) (Option.some Jvm.ClassFile.FieldType.int), Jvm.Cond.code ({ cls := "java/lang/StringUTF16", name := "coderFromArrayLen", desc := "([BI)B" } : Jvm.MethodName) jdk_52_method_15_code (2 : Nat) (Option.some Jvm.ClassFile.FieldType.byte)]
set_option maxRecDepth 65536 in
theorem codes_eq : words1.filter isCode = codes1 := rfl
theorem w_codes : ∀ c ∈ words1.filter isCode, c.before args0 about1 = true := by
  rw [codes_eq]
  intro c hc
  simp only [codes1, List.mem_cons, List.not_mem_nil, or_false] at hc
  rcases hc with rfl | rfl | rfl | rfl | rfl | rfl | rfl | rfl | rfl | rfl | rfl | rfl | rfl | rfl | rfl | rfl | rfl | rfl | rfl | rfl | rfl | rfl | rfl | rfl | rfl | rfl | rfl | rfl | rfl | rfl | rfl | rfl | rfl | rfl | rfl | rfl | rfl | rfl | rfl | rfl | rfl | rfl | rfl | rfl | rfl
  · exact w_c0
  · exact w_c1
  · exact w_c2
  · exact w_c3
  · exact w_c4
  · exact w_c5
  · exact w_c6
  · exact w_c7
  · exact w_c8
  · exact w_c9
  · exact w_c10
  · exact w_c11
  · exact w_c12
  · exact w_c13
  · exact w_c14
  · exact w_c15
  · exact w_c16
  · exact w_c17
  · exact w_c18
  · exact w_c19
  · exact w_c20
  · exact w_c21
  · exact w_c22
  · exact w_c23
  · exact w_c24
  · exact w_c25
  · exact w_c26
  · exact w_c27
  · exact w_c28
  · exact w_c29
  · exact w_c30
  · exact w_c31
  · exact w_c32
  · exact w_c33
  · exact w_c34
  · exact w_c35
  · exact w_c36
  · exact w_c37
  · exact w_c38
  · exact w_c39
  · exact w_c40
  · exact w_c41
  · exact w_c42
  · exact w_c43
  · exact w_c44
set_option maxRecDepth 65536 in
theorem w_t1 : (words1.take 24).all (fun c => isCode c || c.before args0 about1) = true := by decide +kernel
set_option maxRecDepth 65536 in
theorem w_t2 : ((words1.drop 24).take 24).all (fun c => isCode c || c.before args0 about1) = true := by decide +kernel
set_option maxRecDepth 65536 in
theorem w_t3 : (((words1.drop 24).drop 24).take 24).all (fun c => isCode c || c.before args0 about1) = true := by decide +kernel
set_option maxRecDepth 65536 in
theorem w_t4 : ((((words1.drop 24).drop 24).drop 24).take 24).all (fun c => isCode c || c.before args0 about1) = true := by decide +kernel
set_option maxRecDepth 65536 in
theorem w_t5 : (((((words1.drop 24).drop 24).drop 24).drop 24).take 24).all (fun c => isCode c || c.before args0 about1) = true := by decide +kernel
set_option maxRecDepth 65536 in
theorem w_t6 : ((((((words1.drop 24).drop 24).drop 24).drop 24).drop 24).take 24).all (fun c => isCode c || c.before args0 about1) = true := by decide +kernel
set_option maxRecDepth 65536 in
theorem w_t7 : (((((((words1.drop 24).drop 24).drop 24).drop 24).drop 24).drop 24).take 24).all (fun c => isCode c || c.before args0 about1) = true := by decide +kernel
set_option maxRecDepth 65536 in
theorem w_t8 : ((((((((words1.drop 24).drop 24).drop 24).drop 24).drop 24).drop 24).drop 24).take 24).all (fun c => isCode c || c.before args0 about1) = true := by decide +kernel
set_option maxRecDepth 65536 in
theorem w_t9 : (((((((((words1.drop 24).drop 24).drop 24).drop 24).drop 24).drop 24).drop 24).drop 24).take 24).all (fun c => isCode c || c.before args0 about1) = true := by decide +kernel
set_option maxRecDepth 65536 in
theorem w_t10 : (((((((((words1.drop 24).drop 24).drop 24).drop 24).drop 24).drop 24).drop 24).drop 24).drop 24).all (fun c => isCode c || c.before args0 about1) = true := by decide +kernel
theorem w_tables : (allAtoms (Jvm.Cond.code x code maxLocals ret :: tables_1)).before args0 about1 = true := by
  rw [allAtoms_all]
  show words1.all (fun c => c.before args0 about1) = true
  refine all_split ?_ w_codes
  rw [← List.take_append_drop 24 words1, List.all_append, w_t1, ← List.take_append_drop 24 (words1.drop 24), List.all_append, w_t2, ← List.take_append_drop 24 ((words1.drop 24).drop 24), List.all_append, w_t3, ← List.take_append_drop 24 (((words1.drop 24).drop 24).drop 24), List.all_append, w_t4, ← List.take_append_drop 24 ((((words1.drop 24).drop 24).drop 24).drop 24), List.all_append, w_t5, ← List.take_append_drop 24 (((((words1.drop 24).drop 24).drop 24).drop 24).drop 24), List.all_append, w_t6, ← List.take_append_drop 24 ((((((words1.drop 24).drop 24).drop 24).drop 24).drop 24).drop 24), List.all_append, w_t7, ← List.take_append_drop 24 (((((((words1.drop 24).drop 24).drop 24).drop 24).drop 24).drop 24).drop 24), List.all_append, w_t8, ← List.take_append_drop 24 ((((((((words1.drop 24).drop 24).drop 24).drop 24).drop 24).drop 24).drop 24).drop 24), List.all_append, w_t9, w_t10]
  rfl
set_option maxRecDepth 65536 in
theorem w_rest : rest_1_c.before args0 about1 = true := by decide +kernel
set_option maxRecDepth 65536 in
theorem w_case : (Jvm.Cond.and given_1 narrow_1).before args0 about1 = true := by decide +kernel
set_option maxRecDepth 65536 in
theorem w_consts : constsHeld consts_1 about1 := Jvm.Lit.constsHeldB_iff.mp (by decide +kernel)
theorem w_applies : (headSpec (Jvm.Cond.code x code maxLocals ret :: tables_1) room_1).applies x e0.platform about1 = true :=
  (Spec.applies_iff w_frames).mpr ⟨w_running, w_runnable, w_alone, w_named, w_hears, w_ripe, w_room, w_tables⟩
theorem atStart : AtStart classFile x code maxLocals ret World_1 tables_1 room_1 Calls_1 rest_1 Pre_1 launch0 p0 e0 about1 theMethod args0 below0 :=
  ⟨lists_1, trivial, launch0.admits_env _ _ _, launch0.least_env, fairChoices_fair.cas, fairChoices_fair.clock, w_frames, w_args, w_heap, w_applies, ⟨w_consts, trivial⟩, w_rest, w_case⟩
end start1
theorem witness_1 : WitnessClaimed_1 := ⟨start1.p0, start1.e0, start1.about1, start1.theMethod, start1.args0, start1.below0, start1.atStart⟩
end Jvm.Pilot.@@N@@
