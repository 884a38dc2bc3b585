import JvmDerived
import JvmDerived.Pilot.@@N@@Statement
import JvmDerived.Pilot.@@N@@Code
set_option linter.unusedVariables false
set_option linter.unusedSimpArgs false
namespace Jvm.OwnKit
open Sem ClassFile Op Lib Bundle Jvm.Stand Jvm.Free Jvm.LawKit Jvm.RoadKit
section Kit
variable {p : Program} {l : Launch} {e : Env} {R : Room} {s : State} {m : MethodId} {args : Array Value} {below : List Frame} {meth : Method} {c : Code} {Z : State} {a0 : Array Value} {EL : List (String × Nat)} {own : String} {Q : Option Value → Vm → Heap → Prop} {vm : Vm} {h : Heap} {cells slots : Nat} {g : JFrame}
/-- the k-th word -/
theorem ow {L : List Jvm.Cond} (hw : ∀ d ∈ L, d.before a0 Z = true) (k : Nat) {d : Jvm.Cond} (q : L[k]? = some d) : d.before a0 Z = true := hw _ (List.mem_of_getElem? q)
abbrev vr (a : Addr) : Slot := .val (.ref a)
abbrev vi (x : Int32) : Slot := .val (.int x)
abbrev un : Slot := .unset
/-- a standing place of a walk that may have interned: tables vm, heap h, usage -/
def St (p : Program) (l : Launch) (e : Env) (R : Room) (s : State) (m : MethodId) (args : Array Value) (below : List Frame) (meth : Method) (c : Code) (Z : State) (a0 : Array Value) (EL : List (String × Nat)) (own : String) (vm : Vm) (T : State) (h : Heap) (cells slots : Nat) : Prop :=
  ∃ (locs : List Loc) (k0 : Nat), Stand p l e R (s.setVm vm) m args below meth c T locs cells slots ∧ T.heap = h ∧ Z.Warmed39 vm ∧ vm.findClass own = some m.cls ∧ s.Since vm k0 ∧ k0 ≤ h.size ∧ Fr Z.heap.size locs ∧ CHr Z EL s.vm s.heap vm h ∧ Ext Z.heap s.heap ∧ EW Z a0 EL ∧ p.tables.exec = Jvm.exec ∧ meth.locks = false
/-- from every such place with this frame the method ends as Q says -/
def Go (p : Program) (l : Launch) (e : Env) (R : Room) (s : State) (m : MethodId) (args : Array Value) (below : List Frame) (meth : Method) (c : Code) (Z : State) (a0 : Array Value) (EL : List (String × Nat)) (own : String) (Q : Option Value → Vm → Heap → Prop) (vm : Vm) (h : Heap) (cells slots : Nat) (g : JFrame) : Prop :=
  ∀ T, St p l e R s m args below meth c Z a0 EL own vm T h cells slots → ∃ s₂ o, Steps p.tables e below (T.setTop g) s₂ ∧ s₂.status = .running ∧ Ended s₂ below o ∧
    ∃ v L, o = .returned v ∧ (Fr Z.heap.size L ∧ Q v s₂.vm s₂.heap) ∧ CHr Z EL s.vm s.heap s₂.vm s₂.heap ∧ ReturnedEndW s o s₂ L R.cells R.slots
/-- a plain step -/
theorem gs (g' : JFrame) (st : ∀ T target, At T m c below → Steps p.tables e below (T.setTop g') target → Steps p.tables e below (T.setTop g) target)
    (k : Go p l e R s m args below meth c Z a0 EL own Q vm h cells slots g') : Go p l e R s m args below meth c Z a0 EL own Q vm h cells slots g := fun T X => by
  obtain ⟨s2, o, q1, q2⟩ := k T X
  obtain ⟨locs, k0, X', -⟩ := X
  exact ⟨s2, o, st _ _ X'.here q1, q2⟩
theorem gat (g' : JFrame) (q : g = g') (k : Go p l e R s m args below meth c Z a0 EL own Q vm h cells slots g') : Go p l e R s m args below meth c Z a0 EL own Q vm h cells slots g := q ▸ k
/-- a step that asks the standing place -/
theorem gx (g' : JFrame) (st : ∀ T locs, Stand p l e R (s.setVm vm) m args below meth c T locs cells slots → Z.Warmed39 vm → vm.findClass own = some m.cls → T.heap = h → ∀ target, Steps p.tables e below (T.setTop g') target → Steps p.tables e below (T.setTop g) target)
    (k : Go p l e R s m args below meth c Z a0 EL own Q vm h cells slots g') : Go p l e R s m args below meth c Z a0 EL own Q vm h cells slots g := fun T X => by
  obtain ⟨s2, o, q1, q2⟩ := k T X
  obtain ⟨locs, k0, X', eT, hZ, hown, -⟩ := X
  exact ⟨s2, o, st _ _ X' hZ hown eT _ q1, q2⟩
/-- a step to another state, the heap as it was -/
theorem gy (g' : JFrame) (st : ∀ T locs, Stand p l e R (s.setVm vm) m args below meth c T locs cells slots → Z.Warmed39 vm → vm.findClass own = some m.cls → T.heap = h → ∃ T', Stand p l e R (s.setVm vm) m args below meth c T' locs cells slots ∧ T'.heap = h ∧ ∀ target, Steps p.tables e below (T'.setTop g') target → Steps p.tables e below (T.setTop g) target)
    (k : Go p l e R s m args below meth c Z a0 EL own Q vm h cells slots g') : Go p l e R s m args below meth c Z a0 EL own Q vm h cells slots g := fun T X => by
  obtain ⟨locs, k0, X', eT, hZ, hown, r⟩ := X
  obtain ⟨T', X1, e1, s1⟩ := st T locs X' hZ hown eT
  obtain ⟨s2, o, q1, q2⟩ := k T' ⟨locs, k0, X1, e1, hZ, hown, r⟩
  exact ⟨s2, o, s1 _ q1, q2⟩
/-- what the standing place knows -/
theorem ginfo (k : Z.Warmed39 vm → CHv Z EL vm h → Ext Z.heap h → Go p l e R s m args below meth c Z a0 EL own Q vm h cells slots g) : Go p l e R s m args below meth c Z a0 EL own Q vm h cells slots g := fun T X => by
  have X0 := X
  obtain ⟨locs, k0, X', eT, hZ, hown, hS, hk, N, H, E0, r⟩ := X
  refine k hZ H.1 ⟨?_, ?_⟩ T X0
  · exact Nat.le_trans E0.1 H.2.1
  · intro b cl hcl
    have hb := (Array.getElem?_eq_some_iff.mp hcl).1
    obtain ⟨c', h1, h2, -, h4⟩ := X'.same.2.2.2.2.2 b cl (show s.heap[b]? = some cl from E0.2 b cl hcl)
    have hsl : c'.slots = cl.slots := Array.ext_getElem? fun i => h4 i fun hm => absurd (N _ hm) (Nat.not_le.mpr hb)
    have hcc : c' = cl := by rw [h2, hsl]
    have h1' : T.heap[b]? = some c' := h1
    rw [← eT, ← hcc]; exact h1'
theorem gmono {cells' slots' : Nat} (hc : cells ≤ cells') (hs : slots ≤ slots') (k : Go p l e R s m args below meth c Z a0 EL own Q vm h cells' slots' g) : Go p l e R s m args below meth c Z a0 EL own Q vm h cells slots g := fun T X => by
  obtain ⟨locs, k0, X', r⟩ := X
  exact k T ⟨locs, k0, { X' with same := X'.same.mono hc hs }, r⟩
/-- the heap grows at its end -/
theorem gnew {cells' slots' : Nat} {P : Heap → Prop} (g' : Heap → JFrame)
    (st : ∀ T locs, Stand p l e R (s.setVm vm) m args below meth c T locs cells slots → Z.Warmed39 vm → vm.findClass own = some m.cls → T.heap = h → ∃ T' h', Stand p l e R (s.setVm vm) m args below meth c T' locs cells' slots' ∧ T'.heap = h' ∧ Ext h h' ∧ P h' ∧ ∀ target, Steps p.tables e below (T'.setTop (g' h')) target → Steps p.tables e below (T.setTop g) target)
    (k : ∀ h', Ext h h' → CHr Z EL vm h vm h' → P h' → Z.heap.size ≤ h.size → Safe Z EL vm h' h.size → Go p l e R s m args below meth c Z a0 EL own Q vm h' cells' slots' (g' h')) : Go p l e R s m args below meth c Z a0 EL own Q vm h cells slots g := fun T X => by
  obtain ⟨locs, k0, X', eT, hZ, hown, hS, hk, N, H, E0, r⟩ := X
  obtain ⟨T', h', X1, e1, E, hP, s1⟩ := st T locs X' hZ hown eT
  obtain ⟨s2, o, q1, q2⟩ := k h' E (CHr.ext E H.1) hP (Nat.le_trans E0.1 H.2.1) (Safe.ext E H.1 (Safe.new (Nat.le_refl _))) T' ⟨locs, k0, X1, e1, hZ, hown, hS, Nat.le_trans hk E.1, N, H.trans (CHr.ext E H.1), E0, r⟩
  exact ⟨s2, o, s1 _ q1, q2⟩
/-- one place is written -/
theorem gwr (g' : JFrame) {a : Addr} {sl : Nat} {v : Value} (ha : Z.heap.size ≤ a) (hs : Z.vm.Alike vm → Safe Z EL vm h a)
    (st : ∀ T locs, Stand p l e R (s.setVm vm) m args below meth c T locs cells slots → Z.Warmed39 vm → vm.findClass own = some m.cls → T.heap = h → ∃ T' h', Stand p l e R (s.setVm vm) m args below meth c T' (locs ++ [⟨a, sl⟩]) cells slots ∧ T'.heap = h' ∧ Wr h h' a sl v ∧ ∀ target, Steps p.tables e below (T'.setTop g') target → Steps p.tables e below (T.setTop g) target)
    (k : ∀ h', Wr h h' a sl v → CHr Z EL vm h vm h' → Go p l e R s m args below meth c Z a0 EL own Q vm h' cells slots g') : Go p l e R s m args below meth c Z a0 EL own Q vm h cells slots g := fun T X => by
  obtain ⟨locs, k0, X', eT, hZ, hown, hS, hk, N, H, E0, r⟩ := X
  obtain ⟨T', h', X1, e1, W, s1⟩ := st T locs X' hZ hown eT
  obtain ⟨s2, o, q1, q2⟩ := k h' W (CHr.wr W (hs hZ.alike) H.1) T' ⟨_, k0, X1, e1, hZ, hown, hS, by rw [W.size]; exact hk, Fr.snoc X1 N ha, H.trans (CHr.wr W (hs hZ.alike) H.1), E0, r⟩
  exact ⟨s2, o, s1 _ q1, q2⟩
/-- the end -/
theorem gret {v : Option Value} (hv : meth.sig.returnType = none → v = none) (hc : cells ≤ R.cells) (hs : slots ≤ R.slots)
    (st : ∀ T locs fs, Stand p l e R (s.setVm vm) m args below meth c T locs cells slots → (∀ (f : JFrame) (acts : List Action), f.method = m → f.locked = none → f.entered = [] → (doReturn e (T.setTop f) acts v).1 = T.setFrames fs) → Steps p.tables e below (T.setTop g) (T.setFrames fs))
    (hq : ∀ vm', CHr Z EL vm h vm' h → Q v vm' h) : Go p l e R s m args below meth c Z a0 EL own Q vm h cells slots g := fun T X => by
  obtain ⟨locs, k0, X', eT, hZ, hown, hS, hk, N, H, E0, hw, hx, hlk⟩ := X
  obtain ⟨fs, hr, hrun, hend, hW⟩ := X'.leaveW hS (by rw [eT]; exact hk) hv hlk
  have C1 : CHr Z EL vm h T.vm h := CHv.at X' hZ hw H.1
  refine ⟨_, _, st T locs fs X' hr, hrun, hend, v, locs, rfl, ⟨N, ?_⟩, ?_, ?_⟩
  · show Q v T.vm T.heap
    rw [eT]; exact hq _ C1
  · show CHr Z EL s.vm s.heap T.vm T.heap
    rw [eT]; exact H.trans C1
  · exact ⟨hW.1, hW.2.1, hW.2.2.1, hW.2.2.2.mono hc hs⟩
theorem gretI {pc : Nat} {Ls : Array Slot} {z : Int32} {rest : List Value} (hx : p.tables.exec = Jvm.exec) (hret : meth.sig.returnType = some .int) (hd : decode c.code pc = .ok (.ireturn, 1)) (hc : cells ≤ R.cells) (hs : slots ≤ R.slots)
    (hq : ∀ vm', CHr Z EL vm h vm' h → Q (some (.int z)) vm' h) : Go p l e R s m args below meth c Z a0 EL own Q vm h cells slots (mkF m pc Ls (.int z :: rest)) :=
  gret (v := some (.int z)) (fun q => by rw [hret] at q; cases q) hc hs (fun T locs fs X hr => retOut X hx hret rfl (Or.inl ⟨rfl, Or.inl rfl, z, rfl⟩) hd hr) hq
theorem gretN {t : FieldType} {pc : Nat} {Ls : Array Slot} {z : Int32} {rest : List Value} (hx : p.tables.exec = Jvm.exec) (hret : meth.sig.returnType = some t) (ht : t = .boolean ∨ t = .byte ∨ t = .char ∨ t = .short) (hd : decode c.code pc = .ok (.ireturn, 1)) (hc : cells ≤ R.cells) (hs : slots ≤ R.slots)
    (hq : ∀ vm', CHr Z EL vm h vm' h → Q (some (.int (nar t z))) vm' h) : Go p l e R s m args below meth c Z a0 EL own Q vm h cells slots (mkF m pc Ls (.int z :: rest)) :=
  gret (v := some (.int (nar t z))) (fun q => by rw [hret] at q; cases q) hc hs (fun T locs fs X hr => retN X hx hret ht hd hr) hq
theorem gretA {t : FieldType} {pc : Nat} {Ls : Array Slot} {v : Value} {rest : List Value} (hx : p.tables.exec = Jvm.exec) (hret : meth.sig.returnType = some t) (ht : t.isReference = true) (hv : v.isRef = true) (hd : decode c.code pc = .ok (.areturn, 1)) (hc : cells ≤ R.cells) (hs : slots ≤ R.slots)
    (hq : ∀ vm', CHr Z EL vm h vm' h → Q (some v) vm' h) : Go p l e R s m args below meth c Z a0 EL own Q vm h cells slots (mkF m pc Ls (v :: rest)) :=
  gret (v := some v) (fun q => by rw [hret] at q; cases q) hc hs (fun T locs fs X hr => retOut X hx hret (by cases t <;> first | (cases ht; done) | (cases v <;> first | rfl | (cases hv; done))) (Or.inr (Or.inr (Or.inr (Or.inr ⟨rfl, ht, hv⟩)))) hd hr) hq
theorem gretV {pc : Nat} {Ls : Array Slot} (hx : p.tables.exec = Jvm.exec) (hret : meth.sig.returnType = none) (hd : decode c.code pc = .ok (.return_, 1)) (hc : cells ≤ R.cells) (hs : slots ≤ R.slots)
    (hq : ∀ vm', CHr Z EL vm h vm' h → Q none vm' h) : Go p l e R s m args below meth c Z a0 EL own Q vm h cells slots (mkF m pc Ls []) :=
  gret (v := none) (fun _ => rfl) hc hs (fun T locs fs X hr => X.returnOut hx hret hd hr) hq
/-! contracts -/
def Met (l : Launch) (y : MethodName) (bytes : ByteArray) (maxL : Nat) (ret : Option FieldType) (ws : List Jvm.Cond) (rm : Room) (Z : State) (EL : List (String × Nat)) (vm0 : Vm) (h0 : Heap) (as' : Array Value) (Q : Option Value → Vm → Heap → Prop) : Prop :=
  MetFree l y (head1 (Jvm.Cond.code y bytes maxL ret :: ws) rm) (fun a U => a = as' ∧ Z.Warmed39 U.vm ∧ U.heap = h0 ∧ CHr Z EL vm0 h0 U.vm h0 ∧ (Z.setVm vm0).Warmed39 U.vm) (fun _ _ _ _ _ => True)
    (fun _ U o U' => ∃ v L, o = .returned v ∧ (Fr Z.heap.size L ∧ Q v U'.vm U'.heap) ∧ CHr Z EL U.vm U.heap U'.vm U'.heap ∧ ReturnedEndW U o U' L rm.cells rm.slots)
theorem Met.of_walk {y : MethodName} {bytes : ByteArray} {maxL : Nat} {ret : Option FieldType} {ws : List Jvm.Cond} {rm : Room} {vm0 : Vm} {h0 : Heap} {as' : Array Value} (L0 : Array Slot) (hpn : plainFor y = true) (X00 : Ext Z.heap h0) (hEL : EW Z a0 EL)
    (hef : ∀ m, entryFrame m as' maxL = mkF m 0 L0 [])
    (walk : ∀ (p : Program) (e : Env) (s : State) (m : MethodId) (below : List Frame) (meth : Method) (c : Code) (vm : Vm), p.tables.exec = Jvm.exec → c.code = bytes → c.maxLocals = maxL → meth.sig.returnType = ret → meth.name = y.name → CHr Z EL vm0 h0 vm h0 → (Z.setVm vm0).Warmed39 vm →
      Go p l e rm s m as' below meth c Z a0 EL y.cls Q vm h0 0 0 (mkF m 0 L0 [])) : Met l y bytes maxL ret ws rm Z EL vm0 h0 as' Q := by
  refine MetFree.of_bodySF hpn hisR ?_
  intro p e s m args below meth c s₁ Bd hml0 hP hK
  obtain ⟨rfl, hZ, hh, hC, hW0⟩ := hP
  have X0 : Stand p l e rm s m args below meth c s₁ [] 0 0 := Stand.of_body Bd
  have e0 : s₁.heap = h0 := by rw [← hh, Bd.state]; rfl
  obtain ⟨s2, o, q1, q2⟩ := walk p e s m below meth c s.vm Bd.exec Bd.bytes hml0 Bd.returns (name_of_methodNamed Bd.named Bd.method).1 hC hW0 s₁
    ⟨[], 0, X0, e0, hZ, findClass_of_methodNamed Bd.named, (State.WarmedH.refl s).since 0, Nat.zero_le _, Fr.nil _, by rw [hh]; exact CHr.refl hC.1, by rw [hh]; exact X00, hEL, Bd.exec, Bd.notSynchronized⟩
  exact ⟨s2, o, by rw [hef]; exact q1, q2⟩
def Pay (l : Launch) (R : Room) (p : Program) (e : Env) (below : List Frame) (s : State) (args : Array Value) (Z : State) (EL : List (String × Nat)) (vm : Vm) (h : Heap) (y : MethodName) (len W : Nat) (as' : Array Value) (rc rs : Nat) (Q : Option Value → Vm → Heap → Prop) : Prop :=
  BackS l R p e below (s.setVm vm) args y len W (fun A a => a = as' ∧ A.U.heap = h ∧ A.cells + rc ≤ R.cells ∧ A.slots + rs ≤ R.slots)
    (fun A _ v B => ∃ L, (Fr Z.heap.size L ∧ Q v B.U.vm B.U.heap) ∧ B.locs = A.locs ++ L ∧ B.cells = A.cells + rc ∧ B.slots = A.slots + rs ∧ CHr Z EL vm h B.U.vm B.U.heap)
theorem Pay.of_met {y : MethodName} {bytes : ByteArray} {maxL : Nat} {ret : Option FieldType} {rm : Room} {len W : Nat} {as' : Array Value} (hM : Met l y bytes maxL ret [] rm Z EL vm h as' Q)
    (wc : (Jvm.Cond.code y bytes maxL ret).before a0 Z = true) (wz : (Jvm.Cond.initialized y.cls).before a0 Z = true) (hf : rm.frames + 1 ≤ R.frames) (hl : W + (maxL + 11) + rm.locals ≤ R.locals) (hZ : Z.Warmed39 vm) (H : CHv Z EL vm h) (hEL : EW Z a0 EL) :
    Pay l R p e below s args Z EL vm h y len W as' rm.cells rm.slots Q :=
  BackS.of_freeW (bytes := bytes) (maxL := maxL) (ret := ret) (E := fun _ first o t L k n => k = rm.cells ∧ n = rm.slots ∧ (∃ v, o = .returned v ∧ (Fr Z.heap.size L ∧ Q v t.vm t.heap)) ∧ CHr Z EL first.vm first.heap t.vm t.heap) hM hf hl
    (fun m meth c A a Y hp => have hU : Z.Warmed39 A.U.vm := wtrans (s := s.setVm vm) hZ Y.warmed
      ⟨by show (Jvm.Cond.and _ .tt).before a A.U = true; rw [Cond.before_and, mv hU wc]; rfl, mv hU wc, mv hU wz, hp.2.2.1, hp.2.2.2⟩)
    (fun m meth c A a g mk Y hp => ⟨hp.1, wtrans (s := s.setVm vm) hZ Y.warmed, hp.2.1, (show CHr Z EL vm h A.U.vm h from CHv.at Y hZ hEL H), State.Warmed39.of_rootvm (s := s.setVm vm) rfl (show (s.setVm vm).Warmed39 A.U.vm from Y.warmed.wide)⟩) (fun _ _ _ _ _ _ _ _ _ => trivial)
    (fun _ _ _ _ ⟨v, L, h1, h2, h3, h4⟩ => ⟨L, _, _, h4, rfl, rfl, ⟨v, h1, h2⟩, h3⟩)
    (fun m meth c A a g mk v t L k n Y hp _ _ ⟨e1, e2, ⟨v', e3, e4⟩, e5⟩ => by
      cases e3; subst e1 e2
      refine ⟨L, e4, rfl, rfl, rfl, (CHv.at Y hZ hEL H).trans ?_⟩
      rw [← hp.2.1]; exact e5)
theorem Pay.mono {y : MethodName} {len W rc rs : Nat} {as' : Array Value} {Q' : Option Value → Vm → Heap → Prop} (hP : Pay l R p e below s args Z EL vm h y len W as' rc rs Q) (hq : ∀ v vm' h', Q v vm' h' → Q' v vm' h') : Pay l R p e below s args Z EL vm h y len W as' rc rs Q' := by
  intro m meth c A g ig mk a X hg hsize hdg hW hn hp
  obtain ⟨v, B, X', h1, h2, ⟨L, ⟨q1, q2⟩, r⟩, st⟩ := hP m meth c A g ig mk a X hg hsize hdg hW hn hp
  exact ⟨v, B, X', h1, h2, ⟨L, ⟨q1, hq _ _ _ q2⟩, r⟩, st⟩
/-- behind any call -/
theorem gback {y : MethodName} {rc rs : Nat} {as' : Array Value} {Q' : Option Value → Vm → Heap → Prop} {rest : List Value} {pc' : Nat} {L : Array Slot}
    (st : ∀ T locs, Stand p l e R (s.setVm vm) m args below meth c T locs cells slots → Z.Warmed39 vm → vm.findClass own = some m.cls → T.heap = h → CHv Z EL vm h → EW Z a0 EL →
      ∃ (v : Option Value) (vm₁ : Vm) (B : Pt), (s.setVm vm).WarmedH vm₁ ∧ Stand p l e R ((s.setVm vm).setVm B.U.vm) m args below meth c B.U B.locs B.cells B.slots ∧ (s.setVm vm).Since B.U.vm B.U.heap.size ∧ T.heap.size ≤ B.U.heap.size ∧
        (∃ L, (Fr Z.heap.size L ∧ Q' v B.U.vm B.U.heap) ∧ B.locs = locs ++ L ∧ B.cells = cells + rc ∧ B.slots = slots + rs ∧ CHr Z EL vm h B.U.vm B.U.heap) ∧ Steps p.tables e below (T.setTop g) (B.U.setTop (mkF m pc' L (v.toList ++ rest))))
    (k : ∀ v vm' h', CHr Z EL vm h vm' h' → Q' v vm' h' → Go p l e R s m args below meth c Z a0 EL own Q vm' h' (cells + rc) (slots + rs) (mkF m pc' L (v.toList ++ rest))) : Go p l e R s m args below meth c Z a0 EL own Q vm h cells slots g := fun T X => by
  obtain ⟨locs, k0, X', eT, hZ, hown, hS, hk, N, H, E0, hEL, hx, hlk⟩ := X
  obtain ⟨v, vm1, ⟨U, Lx, cx, sx⟩, hW1, X1, hS1, hgr, ⟨L1, ⟨hF, hQ⟩, hl, hc, hs, hC⟩, s1⟩ := st T locs X' hZ hown eT H.1 hEL
  dsimp only [Pt.U, Pt.locs, Pt.cells, Pt.slots] at X1 hS1 hgr hF hQ hl hc hs hC s1
  subst hl hc hs
  obtain ⟨s2, o, q1, q2⟩ := k v U.vm U.heap hC hQ U ⟨_, U.heap.size, X1, rfl, State.Warmed39.trans (t := s.setVm vm) hZ hS1.1, (hS1.1.alike.findClass _ _).trans hown, hS.trans hS1 (Nat.le_trans hk (by rw [← eT]; exact hgr)), Nat.le_refl _, Fr.app N hF, H.trans hC, E0, hEL, hx, hlk⟩
  exact ⟨s2, o, s1.trans q1, q2⟩
end Kit
end Jvm.OwnKit
namespace Jvm.OwnKit
open Sem ClassFile Op Lib Bundle Jvm.Stand Jvm.Free Jvm.LawKit Jvm.RoadKit
section Kit2
variable {p : Program} {l : Launch} {e : Env} {R : Room} {s : State} {m : MethodId} {args : Array Value} {below : List Frame} {meth : Method} {c : Code} {Z : State} {a0 : Array Value} {EL : List (String × Nat)} {own : String} {Q : Option Value → Vm → Heap → Prop} {vm : Vm} {h : Heap} {cells slots : Nat} {g : JFrame}
/-! calls -/
theorem gcallS {index : Nat} {y : MethodName} {bytes : ByteArray} {maxL : Nat} {ret : Option FieldType} (hx : p.tables.exec = Jvm.exec) (wl : (Cond.methodLink own index y).before a0 Z = true) (wst : (Cond.static y).before a0 Z = true) (wz : (Cond.initialized y.cls).before a0 Z = true) (wc : (Cond.code y bytes maxL ret).before a0 Z = true)
    (hy : y.cls ≠ "java/lang/invoke/MethodHandle" ∧ y.cls ≠ "java/lang/invoke/VarHandle") {W rc rs : Nat} {as' : Array Value} {Q' : Option Value → Vm → Heap → Prop} (hP : Z.Warmed39 vm → CHv Z EL vm h → EW Z a0 EL → Pay l R p e below s args Z EL vm h y 3 W as' rc rs Q')
    {pc : Nat} (pc' : Nat) {L : Array Slot} {S argsL rest : List Value} (hlen : ∀ sig, parseMethodDescriptor y.desc = some sig → argsL.length = sig.parameters.length) (has : argsL.toArray = as') (hstk : S = argsL.reverse ++ rest) (hW : (rest.map fun v => v.category).sum ≤ W) (hml : L.size = c.maxLocals)
    (hd : decode c.code pc = .ok (.invokestatic index, 3)) (hp : pc + 3 = pc') (hc : cells + rc ≤ R.cells) (hs : slots + rs ≤ R.slots)
    (k : ∀ v vm' h', CHr Z EL vm h vm' h' → Q' v vm' h' → Go p l e R s m args below meth c Z a0 EL own Q vm' h' (cells + rc) (slots + rs) (mkF m pc' L (v.toList ++ rest))) : Go p l e R s m args below meth c Z a0 EL own Q vm h cells slots (mkF m pc L S) :=
  gback (y := y) (as' := as') (fun T locs X hZ hown eT H hEL => by
    subst has hp hstk
    exact callSS (s := s.setVm vm) X hx hown (mvT hZ wl) (mvT hZ wst) (mvT hZ wz) (mvT hZ wc) hy (hP hZ H hEL) (g := mkF m pc L _) rfl hml hlen rfl (by show 2 * 0 + _ ≤ _; omega) hd (fun _ _ => ⟨rfl, eT, hc, hs⟩)) k
theorem gcallI {index : Nat} {y : MethodName} {bytes : ByteArray} {maxL : Nat} (hx : p.tables.exec = Jvm.exec) (hyi : y.name = "<init>") (wl : (Cond.methodLink own index y).before a0 Z = true) (wi : (Cond.instanceMethod y).before a0 Z = true) (wc : (Cond.code y bytes maxL none).before a0 Z = true)
    (hy : y.cls ≠ "java/lang/invoke/MethodHandle" ∧ y.cls ≠ "java/lang/invoke/VarHandle") {W rc rs : Nat} {as' : Array Value} {Q' : Option Value → Vm → Heap → Prop} (hP : Z.Warmed39 vm → CHv Z EL vm h → EW Z a0 EL → Pay l R p e below s args Z EL vm h y 3 W as' rc rs Q')
    {pc : Nat} (pc' : Nat) {L : Array Slot} {S argsL rest : List Value} {a : Addr} (hlen : ∀ sig, parseMethodDescriptor y.desc = some sig → argsL.length = sig.parameters.length) (has : (.ref a :: argsL).toArray = as') (hstk : S = argsL.reverse ++ .ref a :: rest) (hW : (rest.map fun v => v.category).sum ≤ W) (hml : L.size = c.maxLocals)
    (hd : decode c.code pc = .ok (.invokespecial index, 3)) (hp : pc + 3 = pc') (hc : cells + rc ≤ R.cells) (hs : slots + rs ≤ R.slots)
    (k : ∀ v vm' h', CHr Z EL vm h vm' h' → Q' v vm' h' → Go p l e R s m args below meth c Z a0 EL own Q vm' h' (cells + rc) (slots + rs) (mkF m pc' L (v.toList ++ rest))) : Go p l e R s m args below meth c Z a0 EL own Q vm h cells slots (mkF m pc L S) :=
  gback (y := y) (as' := as') (fun T locs X hZ hown eT H hEL => by
    subst has hp hstk
    exact X.specialBackS (s := s.setVm vm) hx hyi hown (mvT hZ wl) (mvT hZ wi) (mvT hZ wc) hy (hP hZ H hEL) (g := mkF m pc L _) rfl hml (Steps.refl _) hlen rfl (by show 2 * 0 + _ ≤ _; omega) hd (fun _ _ => ⟨rfl, eT, hc, hs⟩)) k
theorem gcallV {index : Nat} {C : String} {y z : MethodName} (hx : p.tables.exec = Jvm.exec) (wl : (Cond.methodLink own index y).before a0 Z = true) (wd : (Cond.declares y).before a0 Z = true) (nf : ∀ (U : State), Z.Warmed39 U.vm → NotFace U y) (wsel : (Cond.selects C y z).before a0 Z = true) (wi : (Cond.instanceMethod z).before a0 Z = true)
    (hy : y.cls ≠ "java/lang/invoke/MethodHandle" ∧ y.cls ≠ "java/lang/invoke/VarHandle") {W rc rs : Nat} {as' : Array Value} {Q' : Option Value → Vm → Heap → Prop} (hP : Z.Warmed39 vm → CHv Z EL vm h → EW Z a0 EL → Pay l R p e below s args Z EL vm h z 3 W as' rc rs Q')
    {pc : Nat} (pc' : Nat) {L : Array Slot} {S argsL rest : List Value} {a : Addr} (E : Exa Z h a C) (hlen : ∀ sig, parseMethodDescriptor y.desc = some sig → argsL.length = sig.parameters.length) (has : (.ref a :: argsL).toArray = as') (hstk : S = argsL.reverse ++ .ref a :: rest) (hW : (rest.map fun v => v.category).sum ≤ W) (hml : L.size = c.maxLocals)
    (hd : decode c.code pc = .ok (.invokevirtual index, 3)) (hp : pc + 3 = pc') (hc : cells + rc ≤ R.cells) (hs : slots + rs ≤ R.slots)
    (k : ∀ v vm' h', CHr Z EL vm h vm' h' → Q' v vm' h' → Go p l e R s m args below meth c Z a0 EL own Q vm' h' (cells + rc) (slots + rs) (mkF m pc' L (v.toList ++ rest))) : Go p l e R s m args below meth c Z a0 EL own Q vm h cells slots (mkF m pc L S) :=
  gback (y := z) (as' := as') (fun T locs X hZ hown eT H hEL => by
    subst has hp hstk
    obtain ⟨cB, kB, h1, h2, h3⟩ := isOf (s := s.setVm vm) hZ eT E
    exact X.virtualBackS (s := s.setVm vm) hx hown (mvT hZ wl) (mvT hZ wd) (nf _ hZ) (mvT hZ wsel) (mvT hZ wi) hy (hP hZ H hEL) h1 h3 (g := mkF m pc L _) rfl hml (Steps.refl _) hlen rfl (by show 2 * 0 + _ ≤ _; omega) hd (fun _ _ => ⟨rfl, eT, hc, hs⟩)) k
theorem nfSel {C : String} {y : MethodName} (w : (Cond.selects C y y).before a0 Z = true) : ∀ (U : State), Z.Warmed39 U.vm → NotFace U y := fun U hU => notFace_of_selects (args := #[]) (mvT hU w)
/-- Object.<init> -/
theorem ginitO {idx : Nat} (hx : p.tables.exec = Jvm.exec) (w1 : (Cond.methodLink own idx Lib.objectInit).before a0 Z = true) (w2 : (Cond.instanceMethod Lib.objectInit).before a0 Z = true) (w3 : (Cond.code Lib.objectInit ⟨#[0xb1]⟩ 1 none).before a0 Z = true)
    {pc : Nat} (pc' : Nat) {L : Array Slot} {rest : List Value} {a : Addr} {W : Nat} (hW : (rest.map fun v => v.category).sum ≤ W) (hml : L.size = c.maxLocals) (hd : decode c.code pc = .ok (.invokespecial idx, 3)) (hp : pc + 3 = pc') (hf : 1 ≤ R.frames) (hl : W + 12 ≤ R.locals)
    (k : Go p l e R s m args below meth c Z a0 EL own Q vm h cells slots (mkF m pc' L rest)) : Go p l e R s m args below meth c Z a0 EL own Q vm h cells slots (mkF m pc L (.ref a :: rest)) :=
  gy _ (fun T locs X hZ hown eT => by
    subst hp
    exact initO (s := s.setVm vm) X hx hZ hown w1 w2 w3 eT (g := mkF m pc L (.ref a :: rest)) rfl hml rfl hd hf (W := W) (by show 2 * 0 + _ ≤ _; omega) hl) k
/-! fields -/
theorem ggetF {R0 O n d host : String} {index : Nat} (hx : p.tables.exec = Jvm.exec) (w : (Cond.fieldLink own index R0 n d).before a0 Z = true ∨ (Cond.fieldLinkNest own index R0 n d host).before a0 Z = true) (via : Via Z R0 O n d) {a : Addr} {v : Value} (F : Fld Z h a O n d v)
    {pc : Nat} (pc' : Nat) {L : Array Slot} {rest : List Value} (hd : decode c.code pc = .ok (.getfield index, 3)) (hp : pc + 3 = pc')
    (k : Go p l e R s m args below meth c Z a0 EL own Q vm h cells slots (mkF m pc' L (v :: rest))) : Go p l e R s m args below meth c Z a0 EL own Q vm h cells slots (mkF m pc L (.ref a :: rest)) :=
  gy _ (fun T locs X hZ hown eT => by
    subst hp
    exact getF (s := s.setVm vm) X hx hZ hown (host := host) w via eT F (g := mkF m pc L (.ref a :: rest)) rfl rfl hd) k
theorem ggetS {R0 O n d host : String} {index : Nat} (hx : p.tables.exec = Jvm.exec) (w : (Cond.fieldLink own index R0 n d).before a0 Z = true ∨ (Cond.fieldLinkNest own index R0 n d host).before a0 Z = true) (via : Via Z R0 O n d) {v : Value} (F : Sta Z Z.heap O n d v)
    {pc : Nat} (pc' : Nat) {L : Array Slot} {S : List Value} (hd : decode c.code pc = .ok (.getstatic index, 3)) (hp : pc + 3 = pc')
    (k : Go p l e R s m args below meth c Z a0 EL own Q vm h cells slots (mkF m pc' L (v :: S))) : Go p l e R s m args below meth c Z a0 EL own Q vm h cells slots (mkF m pc L S) :=
  ginfo fun _ _ E => gy _ (fun T locs X hZ hown eT => by
    subst hp
    exact getS2 (s := s.setVm vm) X hx hZ hown (host := host) w via eT (F.ext E) (g := mkF m pc L S) rfl hd) k
theorem gputF {R0 O n d host C : String} {index kk : Nat} {ty : FieldType} (hx : p.tables.exec = Jvm.exec) (w : (Cond.fieldLink own index R0 n d).before a0 Z = true ∨ (Cond.fieldLinkNest own index R0 n d host).before a0 Z = true) (via : Via Z R0 O n d) {a : Addr} {v old : Value} (F : Fld Z h a O n d old) (E : Exa Z h a C)
    (Lw : (Cond.lays C O n d).before a0 Z = true ∨ ((Cond.laysFinal C O n d).before a0 Z = true ∧ own = O ∧ meth.name = "<init>")) (wi : (Cond.instantiable C kk).before a0 Z = true) (hty : parseFieldDescriptor d = some ty) (hn : narrow ty v = v) (hf : fits ty v = true) (ha : Z.heap.size ≤ a) (hs : Z.vm.Alike vm → Safe Z EL vm h a)
    {pc : Nat} (pc' : Nat) {L : Array Slot} {rest : List Value} (hd : decode c.code pc = .ok (.putfield index, 3)) (hp : pc + 3 = pc')
    (k : ∀ h', Wr h h' a (Jvm.RoadKit.slotOf Z O n d) v → CHr Z EL vm h vm h' → Go p l e R s m args below meth c Z a0 EL own Q vm h' cells slots (mkF m pc' L rest)) : Go p l e R s m args below meth c Z a0 EL own Q vm h cells slots (mkF m pc L (v :: .ref a :: rest)) :=
  gwr _ ha hs (fun T locs X hZ hown eT => by
    subst hp
    exact putF (s := s.setVm vm) X hx hZ hown (host := host) w via eT F E Lw wi hty hn hf (g := mkF m pc L (v :: .ref a :: rest)) rfl rfl hd) k
/-! objects and arrays are made -/
theorem gnewO {C : String} {index n : Nat} (hx : p.tables.exec = Jvm.exec) (w : (Cond.classLink own index C).before a0 Z = true) (wi : (Cond.instantiable C n).before a0 Z = true) (wz : (Cond.initialized C).before a0 Z = true)
    {pc : Nat} (pc' : Nat) {L : Array Slot} {S : List Value} (hd : decode c.code pc = .ok (.new index, 3)) (hp : pc + 3 = pc') (hc : cells + 1 ≤ R.cells) (hl : slots + n ≤ R.slots)
    (k : ∀ (b : Addr) (h' : Heap), h.size = b → Ext h h' → CHr Z EL vm h vm h' → Exa Z h' b C → (∀ {O nm d : String} {ty : FieldType}, Laid Z a0 C O nm d → parseFieldDescriptor d = some ty → Fld Z h' b O nm d (defaultValue ty)) → Z.heap.size ≤ b → Safe Z EL vm h' b → Go p l e R s m args below meth c Z a0 EL own Q vm h' (cells + 1) (slots + n) (mkF m pc' L (.ref b :: S))) :
    Go p l e R s m args below meth c Z a0 EL own Q vm h cells slots (mkF m pc L S) :=
  gnew (P := fun h' => Exa Z h' h.size C ∧ ∀ (O nm d : String) (ty : FieldType), Laid Z a0 C O nm d → parseFieldDescriptor d = some ty → Fld Z h' h.size O nm d (defaultValue ty)) (fun _ => mkF m pc' L (.ref h.size :: S))
    (fun T locs X hZ hown eT => by
      subst hp
      obtain ⟨T', h', X', e', E, A, D, -, st⟩ := newO (s := s.setVm vm) X hx hZ hown w wi wz eT (g := mkF m pc L S) rfl hd hc hl
      exact ⟨T', h', X', e', E, ⟨A, fun _ _ _ _ q r => D q r⟩, st⟩)
    (fun h' E hC hP hz hs => k _ h' rfl E hC hP.1 (fun q r => hP.2 _ _ _ _ q r) hz hs)
/-! arrays are written and read -/
theorem gstC {a : Addr} {kc : ClassId} {n : Int32} {vs : List Value} {d : Value} {j x y : Int32} {i : Nat} (hx : p.tables.exec = Jvm.exec) (F : Arv Z h a kc .char n vs d) (hin : ¬ j < 0 ∧ j < n) (hj : j.toNatClampNeg = i) (hi : i < vs.length) (hy : nar .char x = y) (ha : Z.heap.size ≤ a)
    {pc : Nat} (pc' : Nat) {L : Array Slot} {rest : List Value} (hd : decode c.code pc = .ok (.castore, 1)) (hp : pc + 1 = pc')
    (k : ∀ h', Wr h h' a i (.int y) → CHr Z EL vm h vm h' → Arv Z h' a kc .char n (vs.set i (.int y)) d → Go p l e R s m args below meth c Z a0 EL own Q vm h' cells slots (mkF m pc' L rest)) : Go p l e R s m args below meth c Z a0 EL own Q vm h cells slots (mkF m pc L (.int x :: .int j :: .ref a :: rest)) := by
  subst hy hj hp
  obtain ⟨cl, Ar, q1, q2, q3, q4, q5⟩ := F
  exact gwr _ ha (fun al => Safe.arr al Ar (by decide)) (fun T locs X hZ hown eT => stC (s := s.setVm vm) X hx hZ eT Ar (j := j) (inb_of q2 hin) (g := mkF m pc L (.int x :: .int j :: .ref a :: rest)) rfl rfl hd) fun h' W hC => k h' W hC (Arv.set Ar q1 q2 q3 q4 q5 (fits_nar_char _) W _ rfl hi)
theorem gstB {a : Addr} {kc : ClassId} {n : Int32} {vs : List Value} {d : Value} {j x y : Int32} {i : Nat} (hx : p.tables.exec = Jvm.exec) (F : Arv Z h a kc .byte n vs d) (hin : ¬ j < 0 ∧ j < n) (hj : j.toNatClampNeg = i) (hi : i < vs.length) (hy : nar .byte x = y) (ha : Z.heap.size ≤ a) (hs : Z.vm.Alike vm → Safe Z EL vm h a)
    {pc : Nat} (pc' : Nat) {L : Array Slot} {rest : List Value} (hd : decode c.code pc = .ok (.bastore, 1)) (hp : pc + 1 = pc')
    (k : ∀ h', Wr h h' a i (.int y) → CHr Z EL vm h vm h' → Arv Z h' a kc .byte n (vs.set i (.int y)) d → Go p l e R s m args below meth c Z a0 EL own Q vm h' cells slots (mkF m pc' L rest)) : Go p l e R s m args below meth c Z a0 EL own Q vm h cells slots (mkF m pc L (.int x :: .int j :: .ref a :: rest)) := by
  subst hy hj hp
  obtain ⟨cl, Ar, q1, q2, q3, q4, q5⟩ := F
  exact gwr _ ha hs (fun T locs X hZ hown eT => stB (s := s.setVm vm) X hx hZ eT Ar (j := j) (inb_of q2 hin) (g := mkF m pc L (.int x :: .int j :: .ref a :: rest)) rfl rfl hd) fun h' W hC => k h' W hC (Arv.set Ar q1 q2 q3 q4 q5 (fits_nar_byte _) W _ rfl hi)
theorem gldC {a : Addr} {kc : ClassId} {n : Int32} {vs : List Value} {d v : Value} {j : Int32} {i : Nat} (hx : p.tables.exec = Jvm.exec) (F : Arv Z h a kc .char n vs d) (hin : ¬ j < 0 ∧ j < n) (hj : j.toNatClampNeg = i) (hv : vs.getD i d = v)
    {pc : Nat} (pc' : Nat) {L : Array Slot} {rest : List Value} (hd : decode c.code pc = .ok (.caload, 1)) (hp : pc + 1 = pc')
    (k : Go p l e R s m args below meth c Z a0 EL own Q vm h cells slots (mkF m pc' L (v :: rest))) : Go p l e R s m args below meth c Z a0 EL own Q vm h cells slots (mkF m pc L (.int j :: .ref a :: rest)) := by
  subst hj hp
  obtain ⟨cl, Ar, q1, q2, q3, q4, q5⟩ := F
  exact gx _ (fun T locs X hZ hown eT => X.caload (s := s.setVm vm) hx (by rw [eT]; exact Ar.1) (State.isArrayOf_alike hZ.alike Ar.2.1) Ar.2.2 (inb_of q2 hin) (q4.at (inb_of q2 hin) hv) (g := mkF m pc L (.int j :: .ref a :: rest)) rfl rfl hd) k
theorem gldB {a : Addr} {kc : ClassId} {n : Int32} {vs : List Value} {d v : Value} {j : Int32} {i : Nat} (hx : p.tables.exec = Jvm.exec) (F : Arv Z h a kc .byte n vs d) (hin : ¬ j < 0 ∧ j < n) (hj : j.toNatClampNeg = i) (hv : vs.getD i d = v)
    {pc : Nat} (pc' : Nat) {L : Array Slot} {rest : List Value} (hd : decode c.code pc = .ok (.baload, 1)) (hp : pc + 1 = pc')
    (k : Go p l e R s m args below meth c Z a0 EL own Q vm h cells slots (mkF m pc' L (v :: rest))) : Go p l e R s m args below meth c Z a0 EL own Q vm h cells slots (mkF m pc L (.int j :: .ref a :: rest)) := by
  subst hj hp
  obtain ⟨cl, Ar, q1, q2, q3, q4, q5⟩ := F
  exact gx _ (fun T locs X hZ hown eT => X.baloadBytes (s := s.setVm vm) hx (by rw [eT]; exact Ar.1) (State.isArrayOf_alike hZ.alike Ar.2.1) Ar.2.2 (inb_of q2 hin) (q4.at (inb_of q2 hin) hv) (g := mkF m pc L (.int j :: .ref a :: rest)) rfl rfl hd) k
theorem glen {a : Addr} {kc : ClassId} {ty : FieldType} {n : Int32} {vs : List Value} {d : Value} (hx : p.tables.exec = Jvm.exec) (F : Arv Z h a kc ty n vs d)
    {pc : Nat} (pc' : Nat) {L : Array Slot} {rest : List Value} (hd : decode c.code pc = .ok (.arraylength, 1)) (hp : pc + 1 = pc')
    (k : Go p l e R s m args below meth c Z a0 EL own Q vm h cells slots (mkF m pc' L (.int n :: rest))) : Go p l e R s m args below meth c Z a0 EL own Q vm h cells slots (mkF m pc L (.ref a :: rest)) := by
  subst hp
  obtain ⟨cl, Ar, q1, q2, q3, q4, q5⟩ := F
  exact gx _ (fun T locs X hZ hown eT t kk => X.arraylength (s := s.setVm vm) hx (by rw [eT]; exact Ar.1) (State.isArrayOf_alike hZ.alike Ar.2.1) (g := mkF m pc L (.ref a :: rest)) rfl rfl hd t (by rw [len_of q2 q3]; exact kk)) k
/-! casts, constants -/
theorem gldcI {index : Nat} {v : Int32} (hx : p.tables.exec = Jvm.exec) (w : (Cond.constant own index v).before a0 Z = true) {pc : Nat} (pc' : Nat) {L : Array Slot} {S : List Value} (hd : decode c.code pc = .ok (.ldc index, 2)) (hp : pc + 2 = pc')
    (k : Go p l e R s m args below meth c Z a0 EL own Q vm h cells slots (mkF m pc' L (.int v :: S))) : Go p l e R s m args below meth c Z a0 EL own Q vm h cells slots (mkF m pc L S) :=
  gx _ (fun T locs X hZ hown eT => by
    subst hp
    exact X.ldcInt (s := s.setVm vm) hx hown (mvT hZ w) (g := mkF m pc L S) rfl hd) k
/-- ldc of a String constant of EL, read -/
theorem gldcR {index : Nat} {text : String} (hx : p.tables.exec = Jvm.exec) (w : (Cond.stringLink own index text).before a0 Z = true) (wS : ∀ a ∈ Bundle.stringAtoms, a.before a0 Z = true) (hmem : (own, index) ∈ EL) {n : Nat} (hn : 4 * text.toList.length ≤ n) (hbig : n ≤ 536870912)
    {vs : List Value} {z : Int32} (ht : (∀ c ∈ text.toList, c.toNat < 256) ∧ text.toList.map (fun c => Value.int (Jvm.Lit.byteI c.toNat.toUInt16)) = vs) (hz : ¬ z < 0) (hlz : z.toNatClampNeg = vs.length)
    {pc : Nat} (pc' : Nat) {L : Array Slot} {S : List Value} (hd : decode c.code pc = .ok (.ldc index, 2)) (hp : pc + 2 = pc') (hc : cells + 2 ≤ R.cells) (hl : slots + (n + 4) ≤ R.slots)
    (k : ∀ (a b : Addr) (kb : ClassId) (vm' : Vm) (h' : Heap), Ext h h' → CHr Z EL vm h vm' h' → Exa Z h' a "java/lang/String" → Fld Z h' a "java/lang/String" "coder" "B" (.int 0) → Fld Z h' a "java/lang/String" "value" "[B" (.ref b) → Arv Z h' b kb .byte z vs (.int 0) → (∀ x, Safe Z EL vm' h' x → x ≠ a ∧ x ≠ b) →
      Go p l e R s m args below meth c Z a0 EL own Q vm' h' (cells + 2) (slots + (n + 4)) (mkF m pc' L (.ref a :: S))) : Go p l e R s m args below meth c Z a0 EL own Q vm h cells slots (mkF m pc L S) := fun T X => by
  subst hp
  obtain ⟨locs, k0, X', eT, hZ, hown, hS, hk, N, H, E0, hEL, hx', hlk⟩ := X
  obtain ⟨a, T', h', k1, b, kb, X1, e1, E, hS1, hk1, hZ1, ho1, F1, F2, F3, F4, -, -, hC, -, F5, st⟩ := ldcCH X' hx hZ hown w wS eT hS hk hEL hmem H.1 ht hz hlz (g := mkF m pc L S) rfl hd hn hbig hc hl
  obtain ⟨s2, o, q1, q2⟩ := k a b kb T'.vm h' E hC F1 F2 F3 F4 F5 T' ⟨locs, k1, X1, e1, hZ1, ho1, hS1, hk1, N, H.trans hC, E0, hEL, hx', hlk⟩
  exact ⟨s2, o, st _ q1, q2⟩
end Kit2
end Jvm.OwnKit
namespace Jvm.OwnKit
open Sem ClassFile Op Lib Bundle Jvm.Stand Jvm.Free Jvm.LawKit Jvm.RoadKit
section Kit3
variable {p : Program} {l : Launch} {e : Env} {R : Room} {s : State} {m : MethodId} {args : Array Value} {below : List Frame} {meth : Method} {c : Code} {Z : State} {a0 : Array Value} {EL : List (String × Nat)} {own : String} {Q : Option Value → Vm → Heap → Prop} {vm : Vm} {h h' : Heap} {cells slots : Nat} {g : JFrame}
theorem gi2c {x y : Int32} (hx : p.tables.exec = Jvm.exec) (hy : x.toUInt32.toUInt16.toUInt32.toInt32 = y) {pc : Nat} (pc' : Nat) {L : Array Slot} {rest : List Value} (hd : decode c.code pc = .ok (.i2c, 1)) (hp : pc + 1 = pc')
    (k : Go p l e R s m args below meth c Z a0 EL own Q vm h cells slots (mkF m pc' L (.int y :: rest))) : Go p l e R s m args below meth c Z a0 EL own Q vm h cells slots (mkF m pc L (.int x :: rest)) := by
  subst hy hp
  exact gs _ (fun _ _ A k => XS.i2c A hx rfl hd rfl k) k
theorem narC (x : Int32) : nar .char (x &&& 255) = x &&& 255 := i2c_mask x
theorem narC2 (x : Int32) : nar .char (x.toUInt32.toUInt16.toUInt32.toInt32) = x.toUInt32.toUInt16.toUInt32.toInt32 := by
  show (x.toUInt32.toUInt16.toUInt32.toInt32).toUInt32.toUInt16.toUInt32.toInt32 = _
  simp only [UInt32.toUInt32_toInt32, UInt16.toUInt16_toUInt32]
/-- a char of 0 to 255 -/
def B8 (c : Int32) : Prop := ¬ c < 0 ∧ ¬ (255 : Int32) < c
theorem bnil : ∀ c ∈ ([] : List Int32), B8 c := fun _ q => nomatch q
theorem bcons {a : Int32} {L : List Int32} (q : B8 a) (r : ∀ c ∈ L, B8 c) : ∀ c ∈ a :: L, B8 c := fun c z => (List.mem_cons.mp z).elim (fun u => u ▸ q) (r c)
/-- an ordinary Latin-1 String and its bytes -/
def Str (Z : State) (h : Heap) (a t : Addr) (cs : List Int32) : Prop := Exa Z h a "java/lang/String" ∧ Fld Z h a "java/lang/String" "coder" "B" (.int 0) ∧ Fld Z h a "java/lang/String" "value" "[B" (.ref t) ∧
  (∃ kb, Arv Z h t kb .byte (Int32.ofNat cs.length) ((cs.map fun c => c.toInt8.toInt32).map Value.int) (.int 0)) ∧ (∀ c ∈ cs, B8 c) ∧ cs.length ≤ 4000
variable {a t o : Addr} {cs : List Int32} {ws : List Addr} {sl : Nat} {v : Value}
theorem Str.ext (F : Str Z h a t cs) (E : Ext h h') : Str Z h' a t cs := by
  obtain ⟨f1, f2, f3, ⟨kb, f4⟩, f5⟩ := F
  exact ⟨f1.ext E, f2.ext E, f3.ext E, ⟨kb, f4.ext E⟩, f5⟩
theorem Str.keep (F : Str Z h a t cs) (K : Keep h h' ws) (q : a ∉ ws) (r : t ∉ ws) : Str Z h' a t cs := by
  obtain ⟨f1, f2, f3, ⟨kb, f4⟩, f5⟩ := F
  exact ⟨f1.keep K, f2.keep K q, f3.keep K q, ⟨kb, f4.keep K r⟩, f5⟩
theorem Str.other (F : Str Z h a t cs) (W : Wr h h' o sl v) (q : a ≠ o) (r : t ≠ o) : Str Z h' a t cs := by
  obtain ⟨f1, f2, f3, ⟨kb, f4⟩, f5⟩ := F
  exact ⟨f1.wr W, f2.other W (Or.inl q), f3.other W (Or.inl q), ⟨kb, f4.other W r⟩, f5⟩
theorem Str.tlt (F : Str Z h a t cs) : t < h.size := by
  obtain ⟨f1, f2, f3, ⟨kb, f4⟩, f5⟩ := F
  exact f4.lt
theorem Str.lit {kb : ClassId} {z : Int32} {vs : List Value} (E : Exa Z h a "java/lang/String") (C : Fld Z h a "java/lang/String" "coder" "B" (.int 0)) (V : Fld Z h a "java/lang/String" "value" "[B" (.ref t)) (A : Arv Z h t kb .byte z vs (.int 0)) (hb : ∀ c ∈ cs, ¬ c < 0 ∧ ¬ (255 : Int32) < c)
    (hz : z = Int32.ofNat cs.length) (hv : vs = (cs.map fun c => c.toInt8.toInt32).map Value.int) (hl : cs.length ≤ 4000) : Str Z h a t cs := ⟨E, C, V, ⟨kb, by rw [← hz, ← hv]; exact A⟩, hb, hl⟩
end Kit3
end Jvm.OwnKit
namespace Jvm.OwnKit
open Sem ClassFile Op Lib Bundle Jvm.Stand Jvm.Free Jvm.LawKit Jvm.RoadKit
section Kit4
variable {p : Program} {l : Launch} {e : Env} {R : Room} {s : State} {m : MethodId} {args : Array Value} {below : List Frame} {meth : Method} {c : Code} {Z : State} {a0 : Array Value} {EL : List (String × Nat)} {own : String} {Q : Option Value → Vm → Heap → Prop} {vm : Vm} {h h' : Heap} {cells slots : Nat} {g : JFrame}
/-- roads that meet -/
theorem gjoin (P : Vm → Heap → JFrame → Prop) (cells' slots' : Nat) (k1 : ∀ vm' h' g', P vm' h' g' → Go p l e R s m args below meth c Z a0 EL own Q vm' h' cells' slots' g')
    (k2 : (∀ vm' h' g', P vm' h' g' → Go p l e R s m args below meth c Z a0 EL own Q vm' h' cells' slots' g') → Go p l e R s m args below meth c Z a0 EL own Q vm h cells slots g) : Go p l e R s m args below meth c Z a0 EL own Q vm h cells slots g := k2 k1
variable {b : Addr} {cs : List Int32} {ws : List Addr} {sl : Nat} {v : Value} {o : Addr}
theorem narB (x : Int32) : nar .byte (x.toInt8.toInt32) = x.toInt8.toInt32 := by
  show (x.toInt8.toInt32).toInt8.toInt32 = _
  simp
/-! out of the case's words -/
theorem staI {C n d : String} {y : Int32} (w : (Cond.eq (Term.static C n d) (Term.int y)).before args s = true) (wi : (Cond.initializedFor C n d).before args s = true) : Sta s s.heap C n d (.int y) := by
  have w := Cond.before_iff.mp w
  obtain ⟨x, y', e1, e2, k1, k2⟩ := cmp_v (Or.inl w)
  cases (Option.some.inj e2 : Value.int y = y')
  obtain ⟨z, rfl⟩ := k2
  have e3 : z = y := by
    generalize Term.static C n d = t at *
    simpa [Cond.value, Term.eval, e1] using w
  subst e3
  exact Sta.start e1 (Or.inl wi)
theorem eqI {t : Term} {x y : Int32} {idx : List Nat} (h1 : t.eval args s none idx s = some (.int x)) (h2 : (Cond.eq t (Term.int y)).value args s none s idx = some true) : x = y := by simpa [Cond.value, Term.eval, h1] using h2
theorem lenlt {t : Term} {v : Value} {aa : Addr} {cl : Cell} (h : (Term.length t).eval args s none [] s = some v) (ht : t.eval args s none [] s = some (.ref aa)) (hA : s.arrayAt? aa = some cl) : cl.slots.size < 2 ^ 31 := by
  apply Decidable.byContradiction
  intro hb
  simp [Term.eval, ht, hA, hb] at h
theorem lenI {t : Term} {n : Int32} {aa : Addr} {cl : Cell} (w : (Cond.eq (Term.length t) (Term.int n)).value args s none s [] = some true) (ht : t.eval args s none [] s = some (.ref aa)) (hA : s.arrayAt? aa = some cl) : cl.slots.size < 2 ^ 31 ∧ cl.slots.size.toInt32 = n := by
  obtain ⟨x, y, f1, f2, -, -⟩ := cmp_v (Or.inl w)
  have hb := lenlt f1 ht hA
  exact ⟨hb, eqI (len_f ht hA hb) w⟩
theorem fldI {t : Term} {aa : Addr} {C n d : String} {y : Int32} (ht : t.eval args s none [] s = some (.ref aa)) (w : (Cond.eq (Term.field t C n d) (Term.int y)).value args s none s [] = some true) : Fld s s.heap aa C n d (.int y) := by
  obtain ⟨x, y', e1, e2, k1, k2⟩ := cmp_v (Or.inl w)
  cases (Option.some.inj e2 : Value.int y = y')
  obtain ⟨z, rfl⟩ := k2
  have := eqI e1 w
  subst this
  exact Fld.start ((fld_at ht).symm.trans e1)
theorem Str.start {t : Term} {cs : List Int32} {n : Int32} {aa : Addr} (hf : Fit s) (ev : t.eval args s none [] s = some (.ref aa)) (wE : (Cond.exactly t "java/lang/String").value args s none s [] = some true) (wC : (Cond.eq (Term.field t "java/lang/String" "coder" "B") (Term.int 0)).value args s none s [] = some true)
    (wA : (Cond.arrayOf (Term.field t "java/lang/String" "value" "[B") .byte).value args s none s [] = some true) (wL : (Cond.eq (Term.length (Term.field t "java/lang/String" "value" "[B")) (Term.int n)).value args s none s [] = some true) (hn : n = Int32.ofNat cs.length) (hl : cs.length ≤ 4000) (hb : ∀ c ∈ cs, B8 c)
    (H : ∀ (tt : Addr) (cl : Cell), (Term.field t "java/lang/String" "value" "[B").eval args s none [] s = some (.ref tt) → s.heap[tt]? = some cl → HasL cl 0 ((cs.map fun c => c.toInt8.toInt32).map Value.int)) : ∃ tt, Str s s.heap aa tt cs := by
  obtain ⟨tt, et⟩ := arr_v wA
  obtain ⟨cl, Ar⟩ := Arr.start et wA
  have hA : s.arrayAt? tt = some cl := Ar.fin (Vm.Alike.refl _)
  obtain ⟨h1, h2⟩ := lenI wL et hA
  have hz : ¬ n < 0 := by rw [hn, Int32.lt_iff_toInt_lt, Int32.toInt_ofNat_of_lt (by omega)]; simp
  have hz2 : n.toNatClampNeg = cs.length := by rw [hn, Int32.toNatClampNeg, Int32.toInt_ofNat_of_lt (by omega)]; rfl
  refine ⟨tt, Exa.start ev wE, fldI ev wC, Fld.start ((fld_at ev).symm.trans et), ⟨cl.cls, ?_⟩, hb, hl⟩
  rw [← hn]
  exact Arv.start hf Ar h1 h2 hz (by rw [hz2]; simp) (H tt cl et Ar.1)
end Kit4
end Jvm.OwnKit
namespace Jvm.OwnKit
open Sem ClassFile Op Lib Bundle Jvm.Stand Jvm.Free Jvm.LawKit Jvm.RoadKit
section Kit5
variable {p : Program} {l : Launch} {e : Env} {R : Room} {s : State} {m : MethodId} {args : Array Value} {below : List Frame} {meth : Method} {c : Code} {Z : State} {a0 : Array Value} {EL : List (String × Nat)} {own : String} {Q : Option Value → Vm → Heap → Prop} {vm : Vm} {h h' : Heap} {cells slots : Nat} {g : JFrame}
/-! arrays of bytes are copied -/
theorem tn {n : Nat} (h : n < 2147483648) : (Int32.ofNat n).toNatClampNeg = n := by rw [Int32.toNatClampNeg, Int32.toInt_ofNat_of_lt (by omega)]; rfl
theorem nn0 {n : Nat} (h : n < 2147483648) : ¬ Int32.ofNat n < 0 := by rw [Int32.lt_iff_toInt_lt, Int32.toInt_ofNat_of_lt (by omega)]; simp
/-! a StringBuilder of Latin-1 signs -/
abbrev lo8s (cs : List Int32) : List Value := (cs.map fun c => c.toInt8.toInt32).map Value.int
variable {b v t o : Addr} {cap : Nat} {cs ds : List Int32} {ws : List Addr} {sl : Nat} {w : Value}
theorem addOf {a b : Nat} (h : a + b ≤ 4000) : Int32.ofNat a + Int32.ofNat b = Int32.ofNat (a + b) := by
  apply Int32.toInt_inj.mp
  have q := c_iadd (Int32.ofNat a) (Int32.ofNat b)
  have r := rng32 (Int32.ofNat a + Int32.ofNat b)
  rw [Int32.toInt_ofNat_of_lt (by omega), Int32.toInt_ofNat_of_lt (by omega)] at q
  rw [Int32.toInt_ofNat_of_lt (by omega)]
  omega
theorem ltOf {a b : Nat} (ha : a ≤ 4000) (hb : b ≤ 4000) : Int32.ofNat a < Int32.ofNat b ↔ a < b := by
  rw [Int32.lt_iff_toInt_lt, Int32.toInt_ofNat_of_lt (by omega), Int32.toInt_ofNat_of_lt (by omega)]; omega
theorem eqOf {a b : Nat} (ha : a ≤ 4000) (hb : b ≤ 4000) : Int32.ofNat a = Int32.ofNat b ↔ a = b := by
  rw [← Int32.toInt_inj, Int32.toInt_ofNat_of_lt (by omega), Int32.toInt_ofNat_of_lt (by omega)]; omega
theorem shr0 {a : Nat} (h : a ≤ 4000) : (Int32.ofNat a >>> ((0 : Int32) &&& 31)) = Int32.ofNat a := by
  apply Int32.toInt_inj.mp
  rw [c_ishr _ 0 0 (by decide)]; simp
end Kit5
end Jvm.OwnKit
namespace Jvm.OwnKit
open Sem ClassFile Op Lib Bundle Jvm.Stand Jvm.Free Jvm.LawKit Jvm.RoadKit
section Kit6
variable {p : Program} {l : Launch} {e : Env} {R : Room} {s : State} {m : MethodId} {args : Array Value} {below : List Frame} {meth : Method} {c : Code} {Z : State} {a0 : Array Value} {EL : List (String × Nat)} {own : String} {Q : Option Value → Vm → Heap → Prop} {vm : Vm} {h h' : Heap} {cells slots : Nat} {g : JFrame}
/-- a private method reached by invokevirtual, the word 'selects' at the receiver's class -/
theorem gnewPE {aty : ArrayType} {ad : String} (hx : p.tables.exec = Jvm.exec) (w : (Cond.arrayClass (newarray.typeOf aty)).before a0 Z = true) {n : Int32} (hn : ¬ n < 0) {cap : Nat} (hcap : n.toNatClampNeg ≤ cap) (hb : cap * 8 ≤ 536870912) (had : "[" ++ (newarray.typeOf aty).toString = ad)
    {pc : Nat} (pc' : Nat) {L : Array Slot} {S : List Value} (hd : decode c.code pc = .ok (.newarray aty, 2)) (hp : pc + 2 = pc') (hc : cells + 1 ≤ R.cells) (hl : slots + cap ≤ R.slots)
    (k : ∀ (b : Addr) (h' : Heap) (cA : ClassId), h.size = b → Ext h h' → CHr Z EL vm h vm h' → Arv Z h' b cA (newarray.typeOf aty) n [] (defaultValue (newarray.typeOf aty)) → Exa Z h' b ad → Z.heap.size ≤ b → Safe Z EL vm h' b → Go p l e R s m args below meth c Z a0 EL own Q vm h' (cells + 1) (slots + cap) (mkF m pc' L (.ref b :: S))) :
    Go p l e R s m args below meth c Z a0 EL own Q vm h cells slots (mkF m pc L (.int n :: S)) :=
  gnew (P := fun h' => ∃ cA, Arv Z h' h.size cA (newarray.typeOf aty) n [] (defaultValue (newarray.typeOf aty)) ∧ Exa Z h' h.size ad) (fun _ => mkF m pc' L (.ref h.size :: S))
    (fun T locs X hZ hown eT => by
      subst hp
      obtain ⟨T', h', cA, X', e', E, A, XE, st⟩ := newPE (s := s.setVm vm) X hx hZ w eT (g := mkF m pc L (.int n :: S)) rfl hd rfl hn hcap hb hc hl had
      exact ⟨T', h', X', e', E, ⟨cA, Arv.new A hn, XE⟩, st⟩)
    (fun h' E hC hP hz hs => by obtain ⟨cA, V, XE⟩ := hP; exact k _ h' cA rfl E hC V XE hz hs)
end Kit6
end Jvm.OwnKit
namespace Jvm.OwnKit
open Sem ClassFile Op Lib Bundle Jvm.Stand Jvm.Free Jvm.LawKit Jvm.RoadKit
section Kit7
variable {p : Program} {l : Launch} {e : Env} {R : Room} {s : State} {m : MethodId} {args : Array Value} {below : List Frame} {meth : Method} {c : Code} {Z : State} {a0 : Array Value} {EL : List (String × Nat)} {own : String} {Q : Option Value → Vm → Heap → Prop} {vm : Vm} {h h' : Heap} {cells slots : Nat} {g : JFrame}
end Kit7
end Jvm.OwnKit
namespace Jvm.OwnKit
open Sem ClassFile Op Lib Bundle Jvm.Stand Jvm.Free Jvm.LawKit Jvm.RoadKit
section Kit8
variable {p : Program} {l : Launch} {e : Env} {R : Room} {s : State} {m : MethodId} {args : Array Value} {below : List Frame} {meth : Method} {c : Code} {Z : State} {a0 : Array Value} {EL : List (String × Nat)} {own : String} {Q : Option Value → Vm → Heap → Prop} {vm : Vm} {h h' : Heap} {cells slots : Nat} {g : JFrame}
variable {bytes : ByteArray} {pc n : Nat} {nf : Fin 4} {L : Array Slot} {S : List Value} {v : Value} {z y : Int32} {i : Int}
theorem uA (pc' : Nat) (hx : p.tables.exec = Jvm.exec) (hby : c.code = bytes) (hd : decode bytes pc = .ok (.aload n, 2)) (hp : pc + 2 = pc') (hl : L[n]? = some (.val v)) (hv : v.isRef = true) (k : Go p l e R s m args below meth c Z a0 EL own Q vm h cells slots (mkF m pc' L (v :: S))) : Go p l e R s m args below meth c Z a0 EL own Q vm h cells slots (mkF m pc L S) := by
  subst hp
  exact gs _ (fun _ _ A kq => XS.aload A hx rfl (hb hby hd) hl hv kq) k
theorem uAN (pc' : Nat) (hx : p.tables.exec = Jvm.exec) (hby : c.code = bytes) (hd : decode bytes pc = .ok (.aload_n nf, 1)) (hp : pc + 1 = pc') (hl : L[nf.val]? = some (.val v)) (hv : v.isRef = true) (k : Go p l e R s m args below meth c Z a0 EL own Q vm h cells slots (mkF m pc' L (v :: S))) : Go p l e R s m args below meth c Z a0 EL own Q vm h cells slots (mkF m pc L S) := by
  subst hp
  exact gs _ (fun _ _ A kq => XS.aloadN A hx rfl (hb hby hd) hl hv kq) k
theorem uI (pc' : Nat) (hx : p.tables.exec = Jvm.exec) (hby : c.code = bytes) (hd : decode bytes pc = .ok (.iload n, 2)) (hp : pc + 2 = pc') (hl : L[n]? = some (.val (.int z))) (k : Go p l e R s m args below meth c Z a0 EL own Q vm h cells slots (mkF m pc' L (.int z :: S))) : Go p l e R s m args below meth c Z a0 EL own Q vm h cells slots (mkF m pc L S) := by
  subst hp
  exact gs _ (fun _ _ A kq => XS.iload A hx rfl (hb hby hd) hl kq) k
theorem uIN (pc' : Nat) (hx : p.tables.exec = Jvm.exec) (hby : c.code = bytes) (hd : decode bytes pc = .ok (.iload_n nf, 1)) (hp : pc + 1 = pc') (hl : L[nf.val]? = some (.val (.int z))) (k : Go p l e R s m args below meth c Z a0 EL own Q vm h cells slots (mkF m pc' L (.int z :: S))) : Go p l e R s m args below meth c Z a0 EL own Q vm h cells slots (mkF m pc L S) := by
  subst hp
  exact gs _ (fun _ _ A kq => XS.iloadN A hx rfl (hb hby hd) hl kq) k
theorem uD (pc' : Nat) (hx : p.tables.exec = Jvm.exec) (hby : c.code = bytes) (hd : decode bytes pc = .ok (.dup, 1)) (hp : pc + 1 = pc') (hc : v.category = 1) (k : Go p l e R s m args below meth c Z a0 EL own Q vm h cells slots (mkF m pc' L (v :: v :: S))) : Go p l e R s m args below meth c Z a0 EL own Q vm h cells slots (mkF m pc L (v :: S)) := by
  subst hp
  exact gs _ (fun _ _ A kq => XS.dup A hx rfl (hb hby hd) rfl hc kq) k
theorem uP (pc' : Nat) (hx : p.tables.exec = Jvm.exec) (hby : c.code = bytes) (hd : decode bytes pc = .ok (.pop, 1)) (hp : pc + 1 = pc') (hc : v.category = 1) (k : Go p l e R s m args below meth c Z a0 EL own Q vm h cells slots (mkF m pc' L S)) : Go p l e R s m args below meth c Z a0 EL own Q vm h cells slots (mkF m pc L (v :: S)) := by
  subst hp
  exact gs _ (fun _ _ A kq => XS.pop A hx rfl (hb hby hd) rfl hc kq) k
theorem uU (pc' : Nat) (hx : p.tables.exec = Jvm.exec) (hby : c.code = bytes) (hd : decode bytes pc = .ok (.aconst_null, 1)) (hp : pc + 1 = pc') (k : Go p l e R s m args below meth c Z a0 EL own Q vm h cells slots (mkF m pc' L (.null :: S))) : Go p l e R s m args below meth c Z a0 EL own Q vm h cells slots (mkF m pc L S) := by
  subst hp
  exact gs _ (fun _ _ A kq => XS.aconstNull A hx rfl (hb hby hd) kq) k
theorem uG (pc' : Nat) (hx : p.tables.exec = Jvm.exec) (hby : c.code = bytes) (hd : decode bytes pc = .ok (.goto i, 3)) (ho : 0 ≤ (pc : Int) + i) (hp : ((pc : Int) + i).toNat = pc') (k : Go p l e R s m args below meth c Z a0 EL own Q vm h cells slots (mkF m pc' L S)) : Go p l e R s m args below meth c Z a0 EL own Q vm h cells slots (mkF m pc L S) := gs _ (fun _ _ A kq => XS.goto A hx rfl (pc0 := pc) (pc' := pc') rfl (hb hby hd) ho hp kq) k
end Kit8
end Jvm.OwnKit
namespace Jvm.OwnKit
open Sem ClassFile Op Lib Bundle Jvm.Stand Jvm.Free Jvm.LawKit Jvm.RoadKit
section Kit9
variable {p : Program} {l : Launch} {e : Env} {R : Room} {s : State} {m : MethodId} {args : Array Value} {below : List Frame} {meth : Method} {c : Code} {Z : State} {a0 : Array Value} {EL : List (String × Nat)} {own : String} {Q : Option Value → Vm → Heap → Prop} {vm : Vm} {h h' : Heap} {cells slots : Nat} {g : JFrame}
variable {bytes : ByteArray} {pc n : Nat} {nf : Fin 4} {L : Array Slot} {S : List Value} {v : Value} {z y : Int32} {i : Int}
variable {cd : ClassFile.Cond} {b : Addr}
theorem uKc (pc' : Nat) (z : Int32) (hx : p.tables.exec = Jvm.exec) (hby : c.code = bytes) (hd : decode bytes pc = .ok (.iconst i, 1)) (hp : pc + 1 = pc') (hz : Int32.ofInt i = z) (k : Go p l e R s m args below meth c Z a0 EL own Q vm h cells slots (mkF m pc' L (.int z :: S))) : Go p l e R s m args below meth c Z a0 EL own Q vm h cells slots (mkF m pc L S) := by
  subst hp hz
  exact gs _ (fun _ _ A kq => XS.iconst A hx rfl (hb hby hd) kq) k
theorem uKb (pc' : Nat) (z : Int32) (hx : p.tables.exec = Jvm.exec) (hby : c.code = bytes) (hd : decode bytes pc = .ok (.bipush i, 2)) (hp : pc + 2 = pc') (hz : (Int8.ofInt i).toInt32 = z) (k : Go p l e R s m args below meth c Z a0 EL own Q vm h cells slots (mkF m pc' L (.int z :: S))) : Go p l e R s m args below meth c Z a0 EL own Q vm h cells slots (mkF m pc L S) := by
  subst hp hz
  exact gs _ (fun _ _ A kq => XS.bipush A hx rfl (hb hby hd) kq) k
theorem uKs (pc' : Nat) (z : Int32) (hx : p.tables.exec = Jvm.exec) (hby : c.code = bytes) (hd : decode bytes pc = .ok (.sipush i, 3)) (hp : pc + 3 = pc') (hz : (Int16.ofInt i).toInt32 = z) (k : Go p l e R s m args below meth c Z a0 EL own Q vm h cells slots (mkF m pc' L (.int z :: S))) : Go p l e R s m args below meth c Z a0 EL own Q vm h cells slots (mkF m pc L S) := by
  subst hp hz
  exact gs _ (fun _ _ A kq => XS.sipush A hx rfl (hb hby hd) kq) k
theorem uiadd (pc' : Nat) (w : Int32) (hx : p.tables.exec = Jvm.exec) (hby : c.code = bytes) (hd : decode bytes pc = .ok (.iadd, 1)) (hp : pc + 1 = pc') (hw : z + y = w) (k : Go p l e R s m args below meth c Z a0 EL own Q vm h cells slots (mkF m pc' L (.int w :: S))) : Go p l e R s m args below meth c Z a0 EL own Q vm h cells slots (mkF m pc L (.int y :: .int z :: S)) := by
  subst hp hw
  exact gs _ (fun _ _ A kq => XS.iadd A hx rfl (hb hby hd) rfl kq) k
theorem uisub (pc' : Nat) (w : Int32) (hx : p.tables.exec = Jvm.exec) (hby : c.code = bytes) (hd : decode bytes pc = .ok (.isub, 1)) (hp : pc + 1 = pc') (hw : z - y = w) (k : Go p l e R s m args below meth c Z a0 EL own Q vm h cells slots (mkF m pc' L (.int w :: S))) : Go p l e R s m args below meth c Z a0 EL own Q vm h cells slots (mkF m pc L (.int y :: .int z :: S)) := by
  subst hp hw
  exact gs _ (fun _ _ A kq => XS.isub A hx rfl (hb hby hd) rfl kq) k
theorem uiand (pc' : Nat) (w : Int32) (hx : p.tables.exec = Jvm.exec) (hby : c.code = bytes) (hd : decode bytes pc = .ok (.iand, 1)) (hp : pc + 1 = pc') (hw : z &&& y = w) (k : Go p l e R s m args below meth c Z a0 EL own Q vm h cells slots (mkF m pc' L (.int w :: S))) : Go p l e R s m args below meth c Z a0 EL own Q vm h cells slots (mkF m pc L (.int y :: .int z :: S)) := by
  subst hp hw
  exact gs _ (fun _ _ A kq => XS.iand A hx rfl (hb hby hd) rfl kq) k
theorem uior (pc' : Nat) (w : Int32) (hx : p.tables.exec = Jvm.exec) (hby : c.code = bytes) (hd : decode bytes pc = .ok (.ior, 1)) (hp : pc + 1 = pc') (hw : z ||| y = w) (k : Go p l e R s m args below meth c Z a0 EL own Q vm h cells slots (mkF m pc' L (.int w :: S))) : Go p l e R s m args below meth c Z a0 EL own Q vm h cells slots (mkF m pc L (.int y :: .int z :: S)) := by
  subst hp hw
  exact gs _ (fun _ _ A kq => XS.ior A hx rfl (hb hby hd) rfl kq) k
theorem uixor (pc' : Nat) (w : Int32) (hx : p.tables.exec = Jvm.exec) (hby : c.code = bytes) (hd : decode bytes pc = .ok (.ixor, 1)) (hp : pc + 1 = pc') (hw : z ^^^ y = w) (k : Go p l e R s m args below meth c Z a0 EL own Q vm h cells slots (mkF m pc' L (.int w :: S))) : Go p l e R s m args below meth c Z a0 EL own Q vm h cells slots (mkF m pc L (.int y :: .int z :: S)) := by
  subst hp hw
  exact gs _ (fun _ _ A kq => XS.ixor A hx rfl (hb hby hd) rfl kq) k
theorem uSI (pc' : Nat) (L' : Array Slot) (hx : p.tables.exec = Jvm.exec) (hby : c.code = bytes) (hd : decode bytes pc = .ok (.istore n, 2)) (hp : pc + 2 = pc') (hl : storeLocals L n (.int z) = some L') (k : Go p l e R s m args below meth c Z a0 EL own Q vm h cells slots (mkF m pc' L' S)) : Go p l e R s m args below meth c Z a0 EL own Q vm h cells slots (mkF m pc L (.int z :: S)) := by
  subst hp
  exact gs _ (fun _ _ A kq => XS.istore A hx rfl (hb hby hd) rfl hl kq) k
theorem uSIN (pc' : Nat) (L' : Array Slot) (hx : p.tables.exec = Jvm.exec) (hby : c.code = bytes) (hd : decode bytes pc = .ok (.istore_n nf, 1)) (hp : pc + 1 = pc') (hl : storeLocals L nf.val (.int z) = some L') (k : Go p l e R s m args below meth c Z a0 EL own Q vm h cells slots (mkF m pc' L' S)) : Go p l e R s m args below meth c Z a0 EL own Q vm h cells slots (mkF m pc L (.int z :: S)) := by
  subst hp
  exact gs _ (fun _ _ A kq => XS.istoreN A hx rfl (hb hby hd) rfl hl kq) k
theorem uSA (pc' : Nat) (L' : Array Slot) (hx : p.tables.exec = Jvm.exec) (hby : c.code = bytes) (hd : decode bytes pc = .ok (.astore n, 2)) (hp : pc + 2 = pc') (hv : v.isRef = true) (hl : storeLocals L n v = some L') (k : Go p l e R s m args below meth c Z a0 EL own Q vm h cells slots (mkF m pc' L' S)) : Go p l e R s m args below meth c Z a0 EL own Q vm h cells slots (mkF m pc L (v :: S)) := by
  subst hp
  exact gs _ (fun _ _ A kq => XS.astore A hx rfl (hb hby hd) rfl hv hl kq) k
theorem uSAN (pc' : Nat) (L' : Array Slot) (hx : p.tables.exec = Jvm.exec) (hby : c.code = bytes) (hd : decode bytes pc = .ok (.astore_n nf, 1)) (hp : pc + 1 = pc') (hv : v.isRef = true) (hl : storeLocals L nf.val v = some L') (k : Go p l e R s m args below meth c Z a0 EL own Q vm h cells slots (mkF m pc' L' S)) : Go p l e R s m args below meth c Z a0 EL own Q vm h cells slots (mkF m pc L (v :: S)) := by
  subst hp
  exact gs _ (fun _ _ A kq => XS.astoreN A hx rfl (hb hby hd) rfl hv hl kq) k
theorem uInc (pc' : Nat) (L' : Array Slot) (hx : p.tables.exec = Jvm.exec) (hby : c.code = bytes) (hd : decode bytes pc = .ok (.iinc n i, 3)) (hp : pc + 3 = pc') (hl : L[n]? = some (.val (.int z))) (hl' : storeLocals L n (.int (z + Int32.ofInt i)) = some L') (k : Go p l e R s m args below meth c Z a0 EL own Q vm h cells slots (mkF m pc' L' S)) : Go p l e R s m args below meth c Z a0 EL own Q vm h cells slots (mkF m pc L S) := by
  subst hp
  exact gs _ (fun _ _ A kq => XS.iinc A hx rfl (hb hby hd) hl hl' kq) k
theorem uN (pc' : Nat) (hx : p.tables.exec = Jvm.exec) (hby : c.code = bytes) (hd : decode bytes pc = .ok (.ifCond cd i, 3)) (hp : pc + 3 = pc') (hc : ifCond.holds cd z = false) (k : Go p l e R s m args below meth c Z a0 EL own Q vm h cells slots (mkF m pc' L S)) : Go p l e R s m args below meth c Z a0 EL own Q vm h cells slots (mkF m pc L (.int z :: S)) := by
  subst hp
  exact gs _ (fun _ _ A kq => XS.ifNo A hx rfl (hb hby hd) rfl hc kq) k
theorem uNc (pc' : Nat) (hx : p.tables.exec = Jvm.exec) (hby : c.code = bytes) (hd : decode bytes pc = .ok (.if_icmp cd i, 3)) (hp : pc + 3 = pc') (hc : if_icmp.holds cd z y = false) (k : Go p l e R s m args below meth c Z a0 EL own Q vm h cells slots (mkF m pc' L S)) : Go p l e R s m args below meth c Z a0 EL own Q vm h cells slots (mkF m pc L (.int y :: .int z :: S)) := by
  subst hp
  exact gs _ (fun _ _ A kq => XS.icmpNo A hx rfl (hb hby hd) rfl hc kq) k
theorem uY (pc' : Nat) (hx : p.tables.exec = Jvm.exec) (hby : c.code = bytes) (hd : decode bytes pc = .ok (.ifCond cd i, 3)) (hc : ifCond.holds cd z = true) (ho : 0 ≤ (pc : Int) + i) (hp : ((pc : Int) + i).toNat = pc') (k : Go p l e R s m args below meth c Z a0 EL own Q vm h cells slots (mkF m pc' L S)) : Go p l e R s m args below meth c Z a0 EL own Q vm h cells slots (mkF m pc L (.int z :: S)) := gs _ (fun _ _ A kq => XS.ifYes A hx rfl (pc0 := pc) (pc' := pc') rfl (hb hby hd) rfl hc ho hp kq) k
theorem uYc (pc' : Nat) (hx : p.tables.exec = Jvm.exec) (hby : c.code = bytes) (hd : decode bytes pc = .ok (.if_icmp cd i, 3)) (hc : if_icmp.holds cd z y = true) (ho : 0 ≤ (pc : Int) + i) (hp : ((pc : Int) + i).toNat = pc') (k : Go p l e R s m args below meth c Z a0 EL own Q vm h cells slots (mkF m pc' L S)) : Go p l e R s m args below meth c Z a0 EL own Q vm h cells slots (mkF m pc L (.int y :: .int z :: S)) := gs _ (fun _ _ A kq => XS.icmpYes A hx rfl (pc0 := pc) (pc' := pc') rfl (hb hby hd) rfl hc ho hp kq) k
theorem gat1 (k : Go p l e R s m args below meth c Z a0 EL own Q vm h cells slots (mkF m pc L (v :: S))) : Go p l e R s m args below meth c Z a0 EL own Q vm h cells slots (mkF m pc L ((some v).toList ++ S)) := k
theorem gat0 (k : Go p l e R s m args below meth c Z a0 EL own Q vm h cells slots (mkF m pc L S)) : Go p l e R s m args below meth c Z a0 EL own Q vm h cells slots (mkF m pc L ((none : Option Value).toList ++ S)) := k
end Kit9
end Jvm.OwnKit
/- laws to paste: StrChars.pair_says (cut by pick.py; bodies as the Statement names them) -/
namespace Jvm.Pilot.@@N@@
namespace StrChars
open Jvm Sem ClassFile Op Lib Jvm.Stand Jvm.Free.XT Jvm.Free.ALB Jvm.Free.JM Jvm.Free
open Jvm.Lib.Cold (StaticIs)
/-- the byte that i2b leaves of a char -/
def lo8 (x : Int32) : Int32 := x.toInt8.toInt32
end StrChars
namespace StrChars
open Jvm Sem ClassFile Op Lib Jvm.Stand Jvm.Free.XT Jvm.Free.ALB Jvm.Free.JM Jvm.Free
open Jvm.Lib.Cold (StaticIs)
def hi8 (x : Int32) : Int32 := lo8 (x >>> ((8 : Int32) &&& 31))
/-- what StringUTF16.getChar makes of two bytes -/
def pairCh (u v : Int32) : Int32 := (((u &&& 255) <<< ((0 : Int32) &&& 31)) ||| ((v &&& 255) <<< ((8 : Int32) &&& 31))).toUInt32.toUInt16.toUInt32.toInt32
theorem lo8_and (x : Int32) : (lo8 x &&& 255).toBitVec.toNat = x.toBitVec.toNat % 256 := by
  have h : (lo8 x).toBitVec = (x.toBitVec.signExtend 8).signExtend 32 := by rw [lo8, Int8.toBitVec_toInt32, Int32.toBitVec_toInt8]
  rw [Int32.toBitVec_and, BitVec.toNat_and, h]
  have e : ((x.toBitVec.signExtend 8).signExtend 32).toNat % 256 = x.toBitVec.toNat % 256 := by
    rw [BitVec.toNat_signExtend]
    have hlt := x.toBitVec.isLt
    simp only [BitVec.toNat_setWidth, BitVec.toNat_signExtend]
    split <;> split <;> omega
  rw [← e]
  exact Nat.and_two_pow_sub_one_eq_mod _ 8
theorem pair_says {c : Int32} (h0 : ¬ c < 0) (h1 : ¬ 65535 < c) : pairCh (lo8 c) (hi8 c) = c := by
  rw [Int32.lt_iff_toInt_lt] at h0 h1
  have e0 : (0 : Int32).toInt = 0 := rfl
  have e1 : (65535 : Int32).toInt = 65535 := rfl
  have hc : c.toInt = c.toBitVec.toNat := by
    have := c.toBitVec.isLt
    have e : c.toInt = c.toBitVec.toInt := rfl
    rw [e] at h0 h1
    rw [e]
    rw [BitVec.toInt_eq_toNat_cond] at h0 h1 ⊢
    split at h0 <;> split <;> omega
  have hn : c.toBitVec.toNat < 65536 := by omega
  have a1 := lo8_and c
  have a2 : (hi8 c &&& 255).toBitVec.toNat = c.toBitVec.toNat / 256 := by
    rw [hi8, lo8_and]
    have e : ((8 : Int32) &&& 31) = 8 := by decide
    rw [e, Int32.toBitVec_shiftRight]
    have e2 : ((8 : Int32).toBitVec.smod 32) = 8#32 := by decide
    rw [e2, BitVec.sshiftRight_eq', BitVec.toNat_sshiftRight_of_msb_false (by rw [BitVec.msb_eq_false_iff_two_mul_lt]; omega)]
    show c.toBitVec.toNat >>> 8 % 256 = _
    rw [Nat.shiftRight_eq_div_pow]
    omega
  unfold pairCh
  apply Int32.toBitVec_inj.mp
  apply BitVec.eq_of_toNat_eq
  have f0 : ((0 : Int32) &&& 31) = 0 := by decide
  have f8 : ((8 : Int32) &&& 31) = 8 := by decide
  rw [f0, f8]
  have g : (((lo8 c &&& 255) <<< (0 : Int32)) ||| ((hi8 c &&& 255) <<< (8 : Int32))).toBitVec.toNat = c.toBitVec.toNat := by
    rw [Int32.toBitVec_or, Int32.toBitVec_shiftLeft, Int32.toBitVec_shiftLeft]
    have s0 : ((0 : Int32).toBitVec.smod 32) = 0#32 := by decide
    have s8 : ((8 : Int32).toBitVec.smod 32) = 8#32 := by decide
    rw [s0, s8, BitVec.toNat_or]
    simp only [BitVec.shiftLeft_eq', BitVec.toNat_shiftLeft, a1, a2]
    show (c.toBitVec.toNat % 256) <<< 0 % 2 ^ 32 ||| (c.toBitVec.toNat / 256) <<< 8 % 2 ^ 32 = _
    rw [Nat.shiftLeft_zero, Nat.mod_eq_of_lt (show c.toBitVec.toNat % 256 < 2 ^ 32 by omega), Nat.mod_eq_of_lt (show (c.toBitVec.toNat / 256) <<< 8 < 2 ^ 32 by rw [Nat.shiftLeft_eq]; omega), Nat.or_comm, ← Nat.shiftLeft_add_eq_or_of_lt (by omega), Nat.shiftLeft_eq]
    omega
  show BitVec.toNat (((((lo8 c &&& 255) <<< (0 : Int32)) ||| ((hi8 c &&& 255) <<< (8 : Int32))).toBitVec.setWidth 16).setWidth 32) = _
  rw [BitVec.toNat_setWidth, BitVec.toNat_setWidth, g]
  omega
end StrChars
end Jvm.Pilot.@@N@@
namespace Jvm.Pilot.@@N@@
set_option maxRecDepth 65536
set_option maxHeartbeats 40000000
open Jvm Jvm.ClassFile Sem Op Lib Jvm.Free Jvm.Stand Jvm.LawKit Jvm.RoadKit Bundle Jvm.Pilot.@@N@@.Jvm.D Jvm.OwnKit
def Ctx (Z : State) (a0 : Array Value) : Prop := (∀ d ∈ tables_1, d.before a0 Z = true) ∧ EW Z a0 consts_1 ∧ (∃ zc : Int32, Sta Z Z.heap "java/lang/String" "COMPACT_STRINGS" "Z" (.int zc) ∧ ¬ zc = 0) ∧ (∃ fm : Value, Sta Z Z.heap "jdk/internal/util/Preconditions" "SIOOBE_FORMATTER" "Ljava/util/function/BiFunction;" fm ∧ fm.isRef = true) ∧ Sta Z Z.heap "java/lang/StringUTF16" "$assertionsDisabled" "Z" (.int 1) ∧ Sta Z Z.heap "java/lang/StringUTF16" "HI_BYTE_SHIFT" "I" (.int 0) ∧ Sta Z Z.heap "java/lang/StringUTF16" "LO_BYTE_SHIFT" "I" (.int 8)
theorem own_SA {Z : State} {a0 : Array Value} (hw : ∀ d ∈ tables_1, d.before a0 Z = true) : ∀ a ∈ Bundle.stringAtoms, a.before a0 Z = true := fun d hd => hw d ((by decide +kernel : ∀ d ∈ Bundle.stringAtoms, d ∈ tables_1) d hd)
abbrev c0_ : String := "java/lang/String"
abbrev y0_ : ByteArray := jdk_29_method_69_code
abbrev y1_ : ByteArray := jdk_33_method_40_code
abbrev y2_ : ByteArray := jdk_41_method_11_code
abbrev y3_ : ByteArray := jdk_42_method_149_code
abbrev y4_ : ByteArray := jdk_42_method_152_code
abbrev y5_ : ByteArray := jdk_42_method_154_code
abbrev y6_ : ByteArray := jdk_42_method_155_code
abbrev y7_ : ByteArray := jdk_42_method_3_code
abbrev y8_ : ByteArray := jdk_42_method_54_code
abbrev y9_ : ByteArray := jdk_42_method_56_code
abbrev y10_ : ByteArray := jdk_43_method_2_code
abbrev y11_ : ByteArray := jdk_52_method_14_code
abbrev y12_ : ByteArray := jdk_52_method_15_code
abbrev y13_ : ByteArray := jdk_52_method_16_code
abbrev y14_ : ByteArray := jdk_52_method_21_code
abbrev y15_ : ByteArray := jdk_52_method_2_code
abbrev y16_ : ByteArray := jdk_52_method_3_code
abbrev y17_ : ByteArray := jdk_52_method_4_code
abbrev y18_ : ByteArray := jdk_52_method_5_code
abbrev y19_ : ByteArray := jdk_52_method_6_code
abbrev y20_ : ByteArray := jdk_52_method_83_code
abbrev y21_ : ByteArray := jdk_52_method_91_code
abbrev y22_ : ByteArray := jdk_89_method_16_code
abbrev y23_ : ByteArray := method_3_code
abbrev y24_ : ByteArray := method_4_code
abbrev y25_ : ByteArray := method_5_code
abbrev y26_ : ByteArray := method_6_code
abbrev y27_ : ByteArray := method_7_code
abbrev y28_ : ByteArray := method_8_code
abbrev y29_ : ByteArray := method_9_code
abbrev y30_ : ByteArray := prog_14_method_7_code
abbrev y31_ : ByteArray := prog_14_method_8_code
theorem own_pairE {c : Int32} (h : ¬ c < 0 ∧ ¬ (65535 : Int32) < c) : StrChars.pairCh ((c >>> ((0 : Int32) &&& 31)).toInt8.toInt32) ((c >>> ((8 : Int32) &&& 31)).toInt8.toInt32) = c := by
  have e : (c >>> ((0 : Int32) &&& 31)) = c := by
    apply Int32.toInt_inj.mp
    rw [c_ishr c 0 0 (by decide)]; simp
  rw [e]
  have q := StrChars.pair_says h.1 h.2
  unfold StrChars.lo8 StrChars.hi8 StrChars.lo8 at q
  exact q
theorem own_pair {c : Int32} (h : ¬ c < 0 ∧ ¬ (65535 : Int32) < c) (hc : (255 : Int32) < c) : (255 : Int32) < StrChars.pairCh ((c >>> ((0 : Int32) &&& 31)).toInt8.toInt32) ((c >>> ((8 : Int32) &&& 31)).toInt8.toInt32) := by rw [own_pairE h]; exact hc
def own_prs (cs : List Int32) : List Value := cs.flatMap fun c => [.int ((c >>> ((0 : Int32) &&& 31)).toInt8.toInt32), .int ((c >>> ((8 : Int32) &&& 31)).toInt8.toInt32)]
def Txt (Z : State) (h : Heap) (a t : Addr) (cs : List Int32) : Prop := Exa Z h a c0_ ∧ Fld Z h a c0_ "value" "[B" (.ref t) ∧ cs.length ≤ 4 ∧ (∀ c ∈ cs, ¬ c < 0 ∧ ¬ (65535 : Int32) < c) ∧ ((Fld Z h a c0_ "coder" "B" (.int (0 : Int32)) ∧ (∀ c ∈ cs, B8 c) ∧ ∃ k, Arv Z h t k .byte (Int32.ofNat cs.length) (lo8s cs) (.int (0 : Int32))) ∨ (Fld Z h a c0_ "coder" "B" (.int (1 : Int32)) ∧ ∃ k, Arv Z h t k .byte (Int32.ofNat (2 * cs.length)) (own_prs cs) (.int (0 : Int32))))
theorem Txt.ext {Z : State} {h h' : Heap} {a t : Addr} {cs : List Int32} (F : Txt Z h a t cs) (E : Ext h h') : Txt Z h' a t cs := by
  obtain ⟨f1, f2, f3, f4, f5⟩ := F
  refine ⟨f1.ext E, f2.ext E, f3, f4, ?_⟩
  rcases f5 with ⟨g1, g2, k, g3⟩ | ⟨g1, k, g3⟩
  · exact Or.inl ⟨g1.ext E, g2, k, g3.ext E⟩
  · exact Or.inr ⟨g1.ext E, k, g3.ext E⟩
theorem Txt.keep {Z : State} {h h' : Heap} {a t : Addr} {cs : List Int32} {ws : List Addr} (F : Txt Z h a t cs) (K : Keep h h' ws) (q : a ∉ ws) (r : t ∉ ws) : Txt Z h' a t cs := by
  obtain ⟨f1, f2, f3, f4, f5⟩ := F
  refine ⟨f1.keep K, f2.keep K q, f3, f4, ?_⟩
  rcases f5 with ⟨g1, g2, k, g3⟩ | ⟨g1, k, g3⟩
  · exact Or.inl ⟨g1.keep K q, g2, k, g3.keep K r⟩
  · exact Or.inr ⟨g1.keep K q, k, g3.keep K r⟩
theorem Txt.wr {Z : State} {h h' : Heap} {a t o : Addr} {cs : List Int32} {sl : Nat} {v : Value} (F : Txt Z h a t cs) (W : Wr h h' o sl v) (q : a ≠ o) (r : t ≠ o) : Txt Z h' a t cs := by
  obtain ⟨f1, f2, f3, f4, f5⟩ := F
  refine ⟨f1.wr W, f2.other W (Or.inl q), f3, f4, ?_⟩
  rcases f5 with ⟨g1, g2, k, g3⟩ | ⟨g1, k, g3⟩
  · exact Or.inl ⟨g1.other W (Or.inl q), g2, k, g3.other W r⟩
  · exact Or.inr ⟨g1.other W (Or.inl q), k, g3.other W r⟩
theorem Txt.tlt {Z : State} {h : Heap} {a t : Addr} {cs : List Int32} (F : Txt Z h a t cs) : t < h.size := by
  obtain ⟨f1, f2, f3, f4, f5⟩ := F
  rcases f5 with ⟨g1, g2, k, g3⟩ | ⟨g1, k, g3⟩ <;> exact g3.lt
theorem d0 : decode y14_ 0 = .ok (.iconst 0, 1) := by decide +kernel
theorem d1 : decode y14_ 1 = .ok (.istore 5, 2) := by decide +kernel
theorem d2 : decode y14_ 3 = .ok (.iload 5, 2) := by decide +kernel
theorem d3 : decode y14_ 5 = .ok (.iload 4, 2) := by decide +kernel
theorem d4 : decode y14_ 7 = .ok (.if_icmp .ge 37, 3) := by decide +kernel
theorem d5 : decode y14_ 10 = .ok (.aload_n 0, 1) := by decide +kernel
theorem d6 : decode y14_ 11 = .ok (.iload_n 1, 1) := by decide +kernel
theorem d7 : decode y14_ 12 = .ok (.caload, 1) := by decide +kernel
theorem d8 : decode y14_ 13 = .ok (.istore 6, 2) := by decide +kernel
theorem d9 : decode y14_ 15 = .ok (.iload 6, 2) := by decide +kernel
theorem d10 : decode y14_ 17 = .ok (.sipush 255, 3) := by decide +kernel
theorem d11 : decode y14_ 20 = .ok (.if_icmp .le 6, 3) := by decide +kernel
theorem d12 : decode y14_ 23 = .ok (.iload 5, 2) := by decide +kernel
theorem d13 : decode y14_ 25 = .ok (.ireturn, 1) := by decide +kernel
abbrev mn14 : MethodName := ⟨"java/lang/StringUTF16", "compress", "([CI[BII)I"⟩
theorem own_pn15 : plainName "java/lang/StringUTF16" = true := by first | (simp [plainName, overriddenIn]; done) | decide +kernel
theorem own_c5_1_0 (l : Launch) (Z : State) (a0 : Array Value) (cx : Ctx Z a0) (ws : List Jvm.Cond) (a : Addr) (d : Addr) (kc : ClassId) (kd : ClassId) (c0 : Int32) (vm0 : Vm) (h0 : Heap) (X00 : Ext Z.heap h0) (P0 : Arv Z h0 a kc .char (1 : Int32) [(.int c0)] (.int (0 : Int32))) (P1 : Arv Z h0 d kd .byte (1 : Int32) [(.int (0 : Int32))] (.int (0 : Int32))) (P2 : Z.heap.size ≤ d) (P3 : Safe Z consts_1 vm0 h0 d) (hne : (a ≠ d)) (P5 : ((255 : Int32) < c0)) :
    Met l mn14 y14_ 7 (some .int) ws ({ frames := 0, cells := 0, slots := 0, locals := 0 } : Room) Z consts_1 vm0 h0 #[(.ref a), (.int (0 : Int32)), (.ref d), (.int (0 : Int32)), (.int (1 : Int32))] (fun rv vm h => rv = some (.int (0 : Int32)) ∧ Keep h0 h [d] ∧ Arv Z h d kd .byte (1 : Int32) [(.int (0 : Int32))] (.int (0 : Int32))) := by
  obtain ⟨hw, hEL, ⟨zc, Scs, hzc⟩, ⟨fm, Sfm, hfm⟩, Sad, Shi, Slo⟩ := id cx
  have hSA := own_SA hw
  refine Met.of_walk (a0 := a0) #[vr a, vi (0 : Int32), vr d, vi (0 : Int32), vi (1 : Int32), un, un] (plainFor_of_name own_pn15) X00 hEL (fun m => by first | (simp [entryFrame, mkF, argsToLocals, Value.category]; done) | rfl) ?_
  intro p e s m below meth c vm hx hby hml hret hnm hC0 hW0
  have lt_a : h0.size > a := P0.lt
  have lt_d : h0.size > d := P1.lt
  have L3 := hC0.safe lt_d P3
  refine uKc 1 (0 : Int32) hx hby d0 rfl rfl ?_
  refine uSI 3 #[vr a, vi (0 : Int32), vr d, vi (0 : Int32), vi (1 : Int32), vi (0 : Int32), un] hx hby d1 rfl rfl ?_
  refine uI 5 hx hby d2 rfl rfl ?_
  refine uI 7 hx hby d3 rfl rfl ?_
  refine uNc 10 hx hby d4 rfl (tlt (by decide)).2.1 ?_
  refine uAN 11 hx hby d5 rfl rfl rfl ?_
  refine uIN 12 hx hby d6 rfl rfl ?_
  refine gldC hx P0 ⟨by decide, by decide⟩ (i := 0) rfl (v := (.int c0)) rfl 13 (hb hby d7) rfl ?_
  refine uSI 15 #[vr a, vi (0 : Int32), vr d, vi (0 : Int32), vi (1 : Int32), vi (0 : Int32), vi c0] hx hby d8 rfl rfl ?_
  refine uI 17 hx hby d9 rfl rfl ?_
  refine uKs 20 (255 : Int32) hx hby d10 rfl rfl ?_
  refine uNc 23 hx hby d11 rfl (tlt P5).2.2.2 ?_
  refine uI 25 hx hby d12 rfl rfl ?_
  exact gretI hx hret (hb hby d13) (by decide) (by decide) (fun vq Cq => ⟨rfl, (Keep.refl h0 [d]), P1⟩)
theorem d16 : decode y14_ 26 = .ok (.aload_n 2, 1) := by decide +kernel
theorem d17 : decode y14_ 27 = .ok (.iload_n 3, 1) := by decide +kernel
theorem d18 : decode y14_ 28 = .ok (.iload 6, 2) := by decide +kernel
theorem d19 : decode y14_ 30 = .ok (.i2b, 1) := by decide +kernel
theorem d20 : decode y14_ 31 = .ok (.bastore, 1) := by decide +kernel
theorem d21 : decode y14_ 32 = .ok (.iinc 1 1, 3) := by decide +kernel
theorem d22 : decode y14_ 35 = .ok (.iinc 3 1, 3) := by decide +kernel
theorem d23 : decode y14_ 38 = .ok (.iinc 5 1, 3) := by decide +kernel
theorem d24 : decode y14_ 41 = .ok (.goto (-38), 3) := by decide +kernel
theorem d25 : decode y14_ 44 = .ok (.iload 4, 2) := by decide +kernel
theorem d26 : decode y14_ 46 = .ok (.ireturn, 1) := by decide +kernel
theorem own_c5_1_1 (l : Launch) (Z : State) (a0 : Array Value) (cx : Ctx Z a0) (ws : List Jvm.Cond) (a : Addr) (d : Addr) (kc : ClassId) (kd : ClassId) (c0 : Int32) (vm0 : Vm) (h0 : Heap) (X00 : Ext Z.heap h0) (P0 : Arv Z h0 a kc .char (1 : Int32) [(.int c0)] (.int (0 : Int32))) (P1 : Arv Z h0 d kd .byte (1 : Int32) [(.int (0 : Int32))] (.int (0 : Int32))) (P2 : Z.heap.size ≤ d) (P3 : Safe Z consts_1 vm0 h0 d) (hne : (a ≠ d)) (P5 : (¬ (255 : Int32) < c0)) :
    Met l mn14 y14_ 7 (some .int) ws ({ frames := 0, cells := 0, slots := 0, locals := 0 } : Room) Z consts_1 vm0 h0 #[(.ref a), (.int (0 : Int32)), (.ref d), (.int (0 : Int32)), (.int (1 : Int32))] (fun rv vm h => rv = some (.int (1 : Int32)) ∧ Keep h0 h [d] ∧ Arv Z h d kd .byte (1 : Int32) [(.int (c0.toInt8.toInt32))] (.int (0 : Int32))) := by
  obtain ⟨hw, hEL, ⟨zc, Scs, hzc⟩, ⟨fm, Sfm, hfm⟩, Sad, Shi, Slo⟩ := id cx
  have hSA := own_SA hw
  refine Met.of_walk (a0 := a0) #[vr a, vi (0 : Int32), vr d, vi (0 : Int32), vi (1 : Int32), un, un] (plainFor_of_name own_pn15) X00 hEL (fun m => by first | (simp [entryFrame, mkF, argsToLocals, Value.category]; done) | rfl) ?_
  intro p e s m below meth c vm hx hby hml hret hnm hC0 hW0
  have lt_a : h0.size > a := P0.lt
  have lt_d : h0.size > d := P1.lt
  have L3 := hC0.safe lt_d P3
  refine uKc 1 (0 : Int32) hx hby d0 rfl rfl ?_
  refine uSI 3 #[vr a, vi (0 : Int32), vr d, vi (0 : Int32), vi (1 : Int32), vi (0 : Int32), un] hx hby d1 rfl rfl ?_
  refine uI 5 hx hby d2 rfl rfl ?_
  refine uI 7 hx hby d3 rfl rfl ?_
  refine uNc 10 hx hby d4 rfl (tlt (by decide)).2.1 ?_
  refine uAN 11 hx hby d5 rfl rfl rfl ?_
  refine uIN 12 hx hby d6 rfl rfl ?_
  refine gldC hx P0 ⟨by decide, by decide⟩ (i := 0) rfl (v := (.int c0)) rfl 13 (hb hby d7) rfl ?_
  refine uSI 15 #[vr a, vi (0 : Int32), vr d, vi (0 : Int32), vi (1 : Int32), vi (0 : Int32), vi c0] hx hby d8 rfl rfl ?_
  refine uI 17 hx hby d9 rfl rfl ?_
  refine uKs 20 (255 : Int32) hx hby d10 rfl rfl ?_
  refine uYc 26 hx hby d11 (flt P5).2.2.2 (by decide) (by decide) ?_
  refine uAN 27 hx hby d16 rfl rfl rfl ?_
  refine uIN 28 hx hby d17 rfl rfl ?_
  refine uI 30 hx hby d18 rfl rfl ?_
  refine gs (mkF m 31 #[vr a, vi (0 : Int32), vr d, vi (0 : Int32), vi (1 : Int32), vi (0 : Int32), vi c0] [(.int (c0.toInt8.toInt32)), (.int (0 : Int32)), (.ref d)]) (fun _ _ A kq => XS.i2b A hx rfl (hb hby d19) rfl kq) ?_
  refine gstB hx P1 ⟨by decide, by decide⟩ (i := 0) rfl (Nat.le_of_ble_eq_true rfl) (y := (c0.toInt8.toInt32)) (narB _) P2 (fun _ => L3) 32 (hb hby d20) rfl ?_
  intro h1 W1 C1 V1
  have z1 := C1.2.1
  replace V1 : Arv Z h1 d kd .byte (1 : Int32) [(.int (c0.toInt8.toInt32))] (.int (0 : Int32)) := V1
  refine uInc 35 #[vr a, vi (1 : Int32), vr d, vi (0 : Int32), vi (1 : Int32), vi (0 : Int32), vi c0] hx hby d21 rfl rfl rfl ?_
  refine uInc 38 #[vr a, vi (1 : Int32), vr d, vi (1 : Int32), vi (1 : Int32), vi (0 : Int32), vi c0] hx hby d22 rfl rfl rfl ?_
  refine uInc 41 #[vr a, vi (1 : Int32), vr d, vi (1 : Int32), vi (1 : Int32), vi (1 : Int32), vi c0] hx hby d23 rfl rfl rfl ?_
  refine uG 3 hx hby d24 (by decide) (by decide) ?_
  refine uI 5 hx hby d2 rfl rfl ?_
  refine uI 7 hx hby d3 rfl rfl ?_
  refine uYc 44 hx hby d4 (flt (by decide)).2.1 (by decide) (by decide) ?_
  refine uI 46 hx hby d25 rfl rfl ?_
  exact gretI hx hret (hb hby d26) (by decide) (by decide) (fun vq Cq => ⟨rfl, ((Keep.refl h0 [d]).wr W1 (Or.inl (List.mem_of_getElem? (i := 0) rfl))), V1⟩)
theorem d27 : decode y16_ 0 = .ok (.iload_n 0, 1) := by decide +kernel
theorem d28 : decode y16_ 1 = .ok (.ifCond .ge 11, 3) := by decide +kernel
theorem d29 : decode y16_ 12 = .ok (.iload_n 0, 1) := by decide +kernel
theorem d30 : decode y16_ 13 = .ok (.ldc 20, 2) := by decide +kernel
theorem d31 : decode y16_ 15 = .ok (.if_icmp .lt 40, 3) := by decide +kernel
theorem d32 : decode y16_ 55 = .ok (.iload_n 0, 1) := by decide +kernel
theorem d33 : decode y16_ 56 = .ok (.iconst 1, 1) := by decide +kernel
theorem d34 : decode y16_ 57 = .ok (.ishl, 1) := by decide +kernel
theorem d35 : decode y16_ 58 = .ok (.ireturn, 1) := by decide +kernel
abbrev mn36 : MethodName := ⟨"java/lang/StringUTF16", "newBytesLength", "(I)I"⟩
theorem own_nbl1 (l : Launch) (Z : State) (a0 : Array Value) (cx : Ctx Z a0) (ws : List Jvm.Cond)  (vm0 : Vm) (h0 : Heap) (X00 : Ext Z.heap h0)  :
    Met l mn36 y16_ 1 (some .int) ws ({ frames := 0, cells := 0, slots := 0, locals := 0 } : Room) Z consts_1 vm0 h0 #[(.int (1 : Int32))] (fun rv vm h => rv = some (.int (2 : Int32)) ∧ h0 = h) := by
  obtain ⟨hw, hEL, ⟨zc, Scs, hzc⟩, ⟨fm, Sfm, hfm⟩, Sad, Shi, Slo⟩ := id cx
  have hSA := own_SA hw
  refine Met.of_walk (a0 := a0) #[vi (1 : Int32)] (plainFor_of_name own_pn15) X00 hEL (fun m => by first | (simp [entryFrame, mkF, argsToLocals, Value.category]; done) | rfl) ?_
  intro p e s m below meth c vm hx hby hml hret hnm hC0 hW0
  refine uIN 1 hx hby d27 rfl rfl ?_
  refine uY 12 hx hby d28 ((if0 _ _).trans (flt (by decide)).2.1) (by decide) (by decide) ?_
  refine uIN 13 hx hby d29 rfl rfl ?_
  refine gldcI hx (ow hw 87 rfl) 15 (hb hby d30) rfl ?_
  refine uYc 55 hx hby d31 (tlt (by decide)).1 (by decide) (by decide) ?_
  refine uIN 56 hx hby d32 rfl rfl ?_
  refine uKc 57 (1 : Int32) hx hby d33 rfl rfl ?_
  refine gs (mkF m 58 #[vi (1 : Int32)] [(.int (2 : Int32))]) (fun _ _ A kq => XS.ishl A hx rfl (hb hby d34) rfl kq) ?_
  exact gretI hx hret (hb hby d35) (by decide) (by decide) (fun vq Cq => ⟨rfl, rfl⟩)
theorem d37 : decode y15_ 0 = .ok (.iload_n 0, 1) := by decide +kernel
theorem d38 : decode y15_ 1 = .ok (.invokestatic 11, 3) := by decide +kernel
theorem own_pd39 : parseMethodDescriptor "(I)I" = some ⟨[.int], some .int⟩ := by decide +kernel
theorem d40 : decode y15_ 4 = .ok (.newarray .byte, 2) := by decide +kernel
theorem d41 : decode y15_ 6 = .ok (.areturn, 1) := by decide +kernel
abbrev mn42 : MethodName := ⟨"java/lang/StringUTF16", "newBytesFor", "(I)[B"⟩
theorem own_nbf1 (l : Launch) (Z : State) (a0 : Array Value) (cx : Ctx Z a0) (ws : List Jvm.Cond)  (vm0 : Vm) (h0 : Heap) (X00 : Ext Z.heap h0)  :
    Met l mn42 y15_ 1 (some (.array .byte)) ws ({ frames := 1, cells := 1, slots := 2, locals := 12 } : Room) Z consts_1 vm0 h0 #[(.int (1 : Int32))] (fun rv vm h => ∃ (r : Addr), ∃ (kb : ClassId), rv = some (.ref r) ∧ Keep h0 h [] ∧ h0.size ≤ r ∧ Z.heap.size ≤ r ∧ Safe Z consts_1 vm h r ∧ Arv Z h r kb .byte (2 : Int32) [(.int (0 : Int32)), (.int (0 : Int32))] (.int (0 : Int32))) := by
  obtain ⟨hw, hEL, ⟨zc, Scs, hzc⟩, ⟨fm, Sfm, hfm⟩, Sad, Shi, Slo⟩ := id cx
  have hSA := own_SA hw
  refine Met.of_walk (a0 := a0) #[vi (1 : Int32)] (plainFor_of_name own_pn15) X00 hEL (fun m => by first | (simp [entryFrame, mkF, argsToLocals, Value.category]; done) | rfl) ?_
  intro p e s m below meth c vm hx hby hml hret hnm hC0 hW0
  refine uIN 1 hx hby d37 rfl rfl ?_
  refine ginfo fun _ _ O1 => ?_
  refine gcallS (y := mn36) hx (ow hw 84 rfl) (ow hw 85 rfl) (ow hw 73 rfl) (ow hw 86 rfl) (by decide) (fun hZ H hEL => Pay.of_met (W := 0) (own_nbl1 l Z a0 cx []  vm h0 O1 ) (ow hw 86 rfl) (ow hw 73 rfl) (by decide) (by decide) hZ H hEL) 4 (argsL := [(.int (1 : Int32))]) (rest := []) (lenOf own_pd39 rfl) rfl rfl (Nat.le_of_eq rfl) (by rw [hml]; rfl) (hb hby d38) rfl (by decide) (by decide) ?_
  rintro _ vm1 h1 C1 ⟨rfl, rfl⟩
  have z1 := C1.2.1
  refine gat1 ?_
  refine gnewPE hx (ow hw 29 rfl) (n := (2 : Int32)) (by decide) (cap := 2) (by decide) (by decide) (ad := "[B") (by decide) 6 (hb hby d40) rfl (by decide) (by decide) ?_
  intro b2 h2 k2 g2 E2 C2 V2 A2 n2 L2
  have z2 := C2.2.1
  have V2 : Arv Z h2 b2 k2 .byte (2 : Int32) [(.int (0 : Int32)), (.int (0 : Int32))] (.int (0 : Int32)) := V2.pad (pad_rep [] (.int (0 : Int32)) 2)
  have lt_b2 : h2.size > b2 := V2.lt
  exact gretA hx hret rfl rfl (hb hby d41) (by decide) (by decide) (fun vq Cq => ⟨b2, k2, rfl, ((Keep.refl h0 []).ext E2), (by omega), n2, (Cq.safe (show h2.size > b2 by omega) L2), V2⟩)
theorem d43 : decode y17_ 0 = .ok (.getstatic 44, 3) := by decide +kernel
theorem d44 : decode y17_ 3 = .ok (.ifCond .ne 25, 3) := by decide +kernel
theorem d45 : decode y17_ 28 = .ok (.iload_n 1, 1) := by decide +kernel
theorem d46 : decode y17_ 29 = .ok (.iconst 1, 1) := by decide +kernel
theorem d47 : decode y17_ 30 = .ok (.ishl, 1) := by decide +kernel
theorem d48 : decode y17_ 31 = .ok (.istore_n 1, 1) := by decide +kernel
theorem d49 : decode y17_ 32 = .ok (.aload_n 0, 1) := by decide +kernel
theorem d50 : decode y17_ 33 = .ok (.iload_n 1, 1) := by decide +kernel
theorem d51 : decode y17_ 34 = .ok (.iinc 1 1, 3) := by decide +kernel
theorem d52 : decode y17_ 37 = .ok (.iload_n 2, 1) := by decide +kernel
theorem d53 : decode y17_ 38 = .ok (.getstatic 59, 3) := by decide +kernel
theorem d54 : decode y17_ 41 = .ok (.ishr, 1) := by decide +kernel
theorem d55 : decode y17_ 42 = .ok (.i2b, 1) := by decide +kernel
theorem d56 : decode y17_ 43 = .ok (.bastore, 1) := by decide +kernel
theorem d57 : decode y17_ 44 = .ok (.aload_n 0, 1) := by decide +kernel
theorem d58 : decode y17_ 45 = .ok (.iload_n 1, 1) := by decide +kernel
theorem d59 : decode y17_ 46 = .ok (.iload_n 2, 1) := by decide +kernel
theorem d60 : decode y17_ 47 = .ok (.getstatic 63, 3) := by decide +kernel
theorem d61 : decode y17_ 50 = .ok (.ishr, 1) := by decide +kernel
theorem d62 : decode y17_ 51 = .ok (.i2b, 1) := by decide +kernel
theorem d63 : decode y17_ 52 = .ok (.bastore, 1) := by decide +kernel
theorem d64 : decode y17_ 53 = .ok (.return_, 1) := by decide +kernel
abbrev mn65 : MethodName := ⟨"java/lang/StringUTF16", "putChar", "([BII)V"⟩
theorem own_pc1_0 (l : Launch) (Z : State) (a0 : Array Value) (cx : Ctx Z a0) (ws : List Jvm.Cond) (a : Addr) (ch : Int32) (ka : ClassId) (u0 : Value) (u1 : Value) (vm0 : Vm) (h0 : Heap) (X00 : Ext Z.heap h0) (P0 : Arv Z h0 a ka .byte (2 : Int32) [u0, u1] (.int (0 : Int32))) (P1 : Z.heap.size ≤ a) (P2 : Safe Z consts_1 vm0 h0 a) :
    Met l mn65 y17_ 3 none ws ({ frames := 0, cells := 0, slots := 0, locals := 0 } : Room) Z consts_1 vm0 h0 #[(.ref a), (.int (0 : Int32)), (.int ch)] (fun rv vm h => rv = none ∧ Keep h0 h [a] ∧ Arv Z h a ka .byte (2 : Int32) [(.int ((ch >>> ((0 : Int32) &&& 31)).toInt8.toInt32)), (.int ((ch >>> ((8 : Int32) &&& 31)).toInt8.toInt32))] (.int (0 : Int32)) ∧ Safe Z consts_1 vm h a) := by
  obtain ⟨hw, hEL, ⟨zc, Scs, hzc⟩, ⟨fm, Sfm, hfm⟩, Sad, Shi, Slo⟩ := id cx
  have hSA := own_SA hw
  refine Met.of_walk (a0 := a0) #[vr a, vi (0 : Int32), vi ch] (plainFor_of_name own_pn15) X00 hEL (fun m => by first | (simp [entryFrame, mkF, argsToLocals, Value.category]; done) | rfl) ?_
  intro p e s m below meth c vm hx hby hml hret hnm hC0 hW0
  have lt_a : h0.size > a := P0.lt
  have L2 := hC0.safe lt_a P2
  refine ggetS (host := "") hx (Or.inl (ow hw 91 rfl)) Via.refl Sad 3 (hb hby d43) rfl ?_
  refine uY 28 hx hby d44 ((if0 _ _).trans (feq (by decide)).2) (by decide) (by decide) ?_
  refine uIN 29 hx hby d45 rfl rfl ?_
  refine uKc 30 (1 : Int32) hx hby d46 rfl rfl ?_
  refine gs (mkF m 31 #[vr a, vi (0 : Int32), vi ch] [(.int (0 : Int32))]) (fun _ _ A kq => XS.ishl A hx rfl (hb hby d47) rfl kq) ?_
  refine uSIN 32 #[vr a, vi (0 : Int32), vi ch] hx hby d48 rfl rfl ?_
  refine uAN 33 hx hby d49 rfl rfl rfl ?_
  refine uIN 34 hx hby d50 rfl rfl ?_
  refine uInc 37 #[vr a, vi (1 : Int32), vi ch] hx hby d51 rfl rfl rfl ?_
  refine uIN 38 hx hby d52 rfl rfl ?_
  refine ggetS (host := "") hx (Or.inl (ow hw 92 rfl)) Via.refl Shi 41 (hb hby d53) rfl ?_
  refine gs (mkF m 42 #[vr a, vi (1 : Int32), vi ch] [(.int (ch >>> ((0 : Int32) &&& 31))), (.int (0 : Int32)), (.ref a)]) (fun _ _ A kq => XS.ishr A hx rfl (hb hby d54) rfl kq) ?_
  refine gs (mkF m 43 #[vr a, vi (1 : Int32), vi ch] [(.int ((ch >>> ((0 : Int32) &&& 31)).toInt8.toInt32)), (.int (0 : Int32)), (.ref a)]) (fun _ _ A kq => XS.i2b A hx rfl (hb hby d55) rfl kq) ?_
  refine gstB hx P0 ⟨by decide, by decide⟩ (i := 0) rfl (Nat.le_of_ble_eq_true rfl) (y := ((ch >>> ((0 : Int32) &&& 31)).toInt8.toInt32)) (narB _) P1 (fun _ => L2) 44 (hb hby d56) rfl ?_
  intro h1 W1 C1 V1
  have z1 := C1.2.1
  replace V1 : Arv Z h1 a ka .byte (2 : Int32) [(.int ((ch >>> ((0 : Int32) &&& 31)).toInt8.toInt32)), u1] (.int (0 : Int32)) := V1
  refine uAN 45 hx hby d57 rfl rfl rfl ?_
  refine uIN 46 hx hby d58 rfl rfl ?_
  refine uIN 47 hx hby d59 rfl rfl ?_
  refine ggetS (host := "") hx (Or.inl (ow hw 93 rfl)) Via.refl Slo 50 (hb hby d60) rfl ?_
  refine gs (mkF m 51 #[vr a, vi (1 : Int32), vi ch] [(.int (ch >>> ((8 : Int32) &&& 31))), (.int (1 : Int32)), (.ref a)]) (fun _ _ A kq => XS.ishr A hx rfl (hb hby d61) rfl kq) ?_
  refine gs (mkF m 52 #[vr a, vi (1 : Int32), vi ch] [(.int ((ch >>> ((8 : Int32) &&& 31)).toInt8.toInt32)), (.int (1 : Int32)), (.ref a)]) (fun _ _ A kq => XS.i2b A hx rfl (hb hby d62) rfl kq) ?_
  have f3 := (C1.safe (show h0.size > a by omega) L2)
  refine gstB hx V1 ⟨by decide, by decide⟩ (i := 1) rfl (Nat.le_of_ble_eq_true rfl) (y := ((ch >>> ((8 : Int32) &&& 31)).toInt8.toInt32)) (narB _) P1 (fun _ => f3) 53 (hb hby d63) rfl ?_
  intro h2 W2 C2 V2
  have z2 := C2.2.1
  replace V2 : Arv Z h2 a ka .byte (2 : Int32) [(.int ((ch >>> ((0 : Int32) &&& 31)).toInt8.toInt32)), (.int ((ch >>> ((8 : Int32) &&& 31)).toInt8.toInt32))] (.int (0 : Int32)) := V2
  have f5 := (C2.safe (show h1.size > a by omega) f3)
  exact gretV hx hret (hb hby d64) (by decide) (by decide) (fun vq Cq => ⟨rfl, (((Keep.refl h0 [a]).wr W1 (Or.inl (List.mem_of_getElem? (i := 0) rfl))).wr W2 (Or.inl (List.mem_of_getElem? (i := 0) rfl))), V2, (Cq.safe (show h2.size > a by omega) f5)⟩)
theorem d66 : decode y18_ 0 = .ok (.getstatic 44, 3) := by decide +kernel
theorem d67 : decode y18_ 3 = .ok (.ifCond .ne 25, 3) := by decide +kernel
theorem d68 : decode y18_ 28 = .ok (.iload_n 1, 1) := by decide +kernel
theorem d69 : decode y18_ 29 = .ok (.iconst 1, 1) := by decide +kernel
theorem d70 : decode y18_ 30 = .ok (.ishl, 1) := by decide +kernel
theorem d71 : decode y18_ 31 = .ok (.istore_n 1, 1) := by decide +kernel
theorem d72 : decode y18_ 32 = .ok (.aload_n 0, 1) := by decide +kernel
theorem d73 : decode y18_ 33 = .ok (.iload_n 1, 1) := by decide +kernel
theorem d74 : decode y18_ 34 = .ok (.iinc 1 1, 3) := by decide +kernel
theorem d75 : decode y18_ 37 = .ok (.baload, 1) := by decide +kernel
theorem d76 : decode y18_ 38 = .ok (.sipush 255, 3) := by decide +kernel
theorem d77 : decode y18_ 41 = .ok (.iand, 1) := by decide +kernel
theorem d78 : decode y18_ 42 = .ok (.getstatic 59, 3) := by decide +kernel
theorem d79 : decode y18_ 45 = .ok (.ishl, 1) := by decide +kernel
theorem d80 : decode y18_ 46 = .ok (.aload_n 0, 1) := by decide +kernel
theorem d81 : decode y18_ 47 = .ok (.iload_n 1, 1) := by decide +kernel
theorem d82 : decode y18_ 48 = .ok (.baload, 1) := by decide +kernel
theorem d83 : decode y18_ 49 = .ok (.sipush 255, 3) := by decide +kernel
theorem d84 : decode y18_ 52 = .ok (.iand, 1) := by decide +kernel
theorem d85 : decode y18_ 53 = .ok (.getstatic 63, 3) := by decide +kernel
theorem d86 : decode y18_ 56 = .ok (.ishl, 1) := by decide +kernel
theorem d87 : decode y18_ 57 = .ok (.ior, 1) := by decide +kernel
theorem d88 : decode y18_ 58 = .ok (.i2c, 1) := by decide +kernel
theorem d89 : decode y18_ 59 = .ok (.ireturn, 1) := by decide +kernel
abbrev mn90 : MethodName := ⟨"java/lang/StringUTF16", "getChar", "([BI)C"⟩
theorem own_gc1_0 (l : Launch) (Z : State) (a0 : Array Value) (cx : Ctx Z a0) (ws : List Jvm.Cond) (a : Addr) (ka : ClassId) (b0 : Int32) (b1 : Int32) (vm0 : Vm) (h0 : Heap) (X00 : Ext Z.heap h0) (P0 : Arv Z h0 a ka .byte (2 : Int32) [(.int b0), (.int b1)] (.int (0 : Int32))) :
    Met l mn90 y18_ 2 (some .char) ws ({ frames := 0, cells := 0, slots := 0, locals := 0 } : Room) Z consts_1 vm0 h0 #[(.ref a), (.int (0 : Int32))] (fun rv vm h => rv = some (.int (StrChars.pairCh b0 b1)) ∧ h0 = h) := by
  obtain ⟨hw, hEL, ⟨zc, Scs, hzc⟩, ⟨fm, Sfm, hfm⟩, Sad, Shi, Slo⟩ := id cx
  have hSA := own_SA hw
  refine Met.of_walk (a0 := a0) #[vr a, vi (0 : Int32)] (plainFor_of_name own_pn15) X00 hEL (fun m => by first | (simp [entryFrame, mkF, argsToLocals, Value.category]; done) | rfl) ?_
  intro p e s m below meth c vm hx hby hml hret hnm hC0 hW0
  have lt_a : h0.size > a := P0.lt
  refine ggetS (host := "") hx (Or.inl (ow hw 91 rfl)) Via.refl Sad 3 (hb hby d66) rfl ?_
  refine uY 28 hx hby d67 ((if0 _ _).trans (feq (by decide)).2) (by decide) (by decide) ?_
  refine uIN 29 hx hby d68 rfl rfl ?_
  refine uKc 30 (1 : Int32) hx hby d69 rfl rfl ?_
  refine gs (mkF m 31 #[vr a, vi (0 : Int32)] [(.int (0 : Int32))]) (fun _ _ A kq => XS.ishl A hx rfl (hb hby d70) rfl kq) ?_
  refine uSIN 32 #[vr a, vi (0 : Int32)] hx hby d71 rfl rfl ?_
  refine uAN 33 hx hby d72 rfl rfl rfl ?_
  refine uIN 34 hx hby d73 rfl rfl ?_
  refine uInc 37 #[vr a, vi (1 : Int32)] hx hby d74 rfl rfl rfl ?_
  refine gldB hx P0 ⟨by decide, by decide⟩ (i := 0) rfl (v := (.int b0)) rfl 38 (hb hby d75) rfl ?_
  refine uKs 41 (255 : Int32) hx hby d76 rfl rfl ?_
  refine uiand 42 (b0 &&& (255 : Int32)) hx hby d77 rfl rfl ?_
  refine ggetS (host := "") hx (Or.inl (ow hw 92 rfl)) Via.refl Shi 45 (hb hby d78) rfl ?_
  refine gs (mkF m 46 #[vr a, vi (1 : Int32)] [(.int ((b0 &&& (255 : Int32)) <<< ((0 : Int32) &&& 31)))]) (fun _ _ A kq => XS.ishl A hx rfl (hb hby d79) rfl kq) ?_
  refine uAN 47 hx hby d80 rfl rfl rfl ?_
  refine uIN 48 hx hby d81 rfl rfl ?_
  refine gldB hx P0 ⟨by decide, by decide⟩ (i := 1) rfl (v := (.int b1)) rfl 49 (hb hby d82) rfl ?_
  refine uKs 52 (255 : Int32) hx hby d83 rfl rfl ?_
  refine uiand 53 (b1 &&& (255 : Int32)) hx hby d84 rfl rfl ?_
  refine ggetS (host := "") hx (Or.inl (ow hw 93 rfl)) Via.refl Slo 56 (hb hby d85) rfl ?_
  refine gs (mkF m 57 #[vr a, vi (1 : Int32)] [(.int ((b1 &&& (255 : Int32)) <<< ((8 : Int32) &&& 31))), (.int ((b0 &&& (255 : Int32)) <<< ((0 : Int32) &&& 31)))]) (fun _ _ A kq => XS.ishl A hx rfl (hb hby d86) rfl kq) ?_
  refine uior 58 (((b0 &&& (255 : Int32)) <<< ((0 : Int32) &&& 31)) ||| ((b1 &&& (255 : Int32)) <<< ((8 : Int32) &&& 31))) hx hby d87 rfl rfl ?_
  refine gi2c hx rfl 59 (hb hby d88) rfl ?_
  exact gretN (t := .char) hx hret (by simp) (hb hby d89) (by decide) (by decide) (fun vq Cq => ⟨(congrArg (fun z => some (Value.int z)) (narC2 _)), rfl⟩)
theorem d91 : decode y11_ 0 = .ok (.iload_n 2, 1) := by decide +kernel
theorem d92 : decode y11_ 1 = .ok (.invokestatic 107, 3) := by decide +kernel
theorem own_pd93 : parseMethodDescriptor "(I)[B" = some ⟨[.int], some (.array .byte)⟩ := by decide +kernel
theorem d94 : decode y11_ 4 = .ok (.astore_n 3, 1) := by decide +kernel
theorem d95 : decode y11_ 5 = .ok (.iconst 0, 1) := by decide +kernel
theorem d96 : decode y11_ 6 = .ok (.istore 4, 2) := by decide +kernel
theorem d97 : decode y11_ 8 = .ok (.iload 4, 2) := by decide +kernel
theorem d98 : decode y11_ 10 = .ok (.iload_n 2, 1) := by decide +kernel
theorem d99 : decode y11_ 11 = .ok (.if_icmp .ge 21, 3) := by decide +kernel
theorem d100 : decode y11_ 14 = .ok (.aload_n 3, 1) := by decide +kernel
theorem d101 : decode y11_ 15 = .ok (.iload 4, 2) := by decide +kernel
theorem d102 : decode y11_ 17 = .ok (.aload_n 0, 1) := by decide +kernel
theorem d103 : decode y11_ 18 = .ok (.iload_n 1, 1) := by decide +kernel
theorem d104 : decode y11_ 19 = .ok (.caload, 1) := by decide +kernel
theorem d105 : decode y11_ 20 = .ok (.invokestatic 111, 3) := by decide +kernel
theorem own_pd106 : parseMethodDescriptor "([BII)V" = some ⟨[(.array .byte), .int, .int], none⟩ := by decide +kernel
theorem d107 : decode y11_ 23 = .ok (.iinc 1 1, 3) := by decide +kernel
theorem d108 : decode y11_ 26 = .ok (.iinc 4 1, 3) := by decide +kernel
theorem d109 : decode y11_ 29 = .ok (.goto (-21), 3) := by decide +kernel
theorem d110 : decode y11_ 32 = .ok (.aload_n 3, 1) := by decide +kernel
theorem d111 : decode y11_ 33 = .ok (.areturn, 1) := by decide +kernel
abbrev mn112 : MethodName := ⟨"java/lang/StringUTF16", "toBytes", "([CII)[B"⟩
theorem own_tb1 (l : Launch) (Z : State) (a0 : Array Value) (cx : Ctx Z a0) (ws : List Jvm.Cond) (a : Addr) (kc : ClassId) (c0 : Int32) (vm0 : Vm) (h0 : Heap) (X00 : Ext Z.heap h0) (P0 : Arv Z h0 a kc .char (1 : Int32) [(.int c0)] (.int (0 : Int32))) :
    Met l mn112 y11_ 5 (some (.array .byte)) ws ({ frames := 2, cells := 1, slots := 2, locals := 24 } : Room) Z consts_1 vm0 h0 #[(.ref a), (.int (0 : Int32)), (.int (1 : Int32))] (fun rv vm h => ∃ (r : Addr), ∃ (kb : ClassId), rv = some (.ref r) ∧ Keep h0 h [] ∧ h0.size ≤ r ∧ Arv Z h r kb .byte (2 : Int32) [(.int ((c0 >>> ((0 : Int32) &&& 31)).toInt8.toInt32)), (.int ((c0 >>> ((8 : Int32) &&& 31)).toInt8.toInt32))] (.int (0 : Int32))) := by
  obtain ⟨hw, hEL, ⟨zc, Scs, hzc⟩, ⟨fm, Sfm, hfm⟩, Sad, Shi, Slo⟩ := id cx
  have hSA := own_SA hw
  refine Met.of_walk (a0 := a0) #[vr a, vi (0 : Int32), vi (1 : Int32), un, un] (plainFor_of_name own_pn15) X00 hEL (fun m => by first | (simp [entryFrame, mkF, argsToLocals, Value.category]; done) | rfl) ?_
  intro p e s m below meth c vm hx hby hml hret hnm hC0 hW0
  have lt_a : h0.size > a := P0.lt
  refine uIN 1 hx hby d91 rfl rfl ?_
  refine ginfo fun _ _ O1 => ?_
  refine gcallS (y := mn42) hx (ow hw 81 rfl) (ow hw 82 rfl) (ow hw 73 rfl) (ow hw 83 rfl) (by decide) (fun hZ H hEL => Pay.of_met (W := 0) (own_nbf1 l Z a0 cx []  vm h0 O1 ) (ow hw 83 rfl) (ow hw 73 rfl) (by decide) (by decide) hZ H hEL) 4 (argsL := [(.int (1 : Int32))]) (rest := []) (lenOf own_pd93 rfl) rfl rfl (Nat.le_of_eq rfl) (by rw [hml]; rfl) (hb hby d92) rfl (by decide) (by decide) ?_
  rintro _ vm1 h1 C1 ⟨r1, kb1, rfl, K1, q1_0, q1_1, q1_2, q1_3⟩
  have z1 := C1.2.1
  have lt_r1 : h1.size > r1 := q1_3.lt
  refine gat1 ?_
  refine uSAN 5 #[vr a, vi (0 : Int32), vi (1 : Int32), vr r1, un] hx hby d94 rfl rfl rfl ?_
  refine uKc 6 (0 : Int32) hx hby d95 rfl rfl ?_
  refine uSI 8 #[vr a, vi (0 : Int32), vi (1 : Int32), vr r1, vi (0 : Int32)] hx hby d96 rfl rfl ?_
  refine uI 10 hx hby d97 rfl rfl ?_
  refine uIN 11 hx hby d98 rfl rfl ?_
  refine uNc 14 hx hby d99 rfl (tlt (by decide)).2.1 ?_
  refine uAN 15 hx hby d100 rfl rfl rfl ?_
  refine uI 17 hx hby d101 rfl rfl ?_
  refine uAN 18 hx hby d102 rfl rfl rfl ?_
  refine uIN 19 hx hby d103 rfl rfl ?_
  have f2 := (P0.keep K1 nin0)
  refine gldC hx f2 ⟨by decide, by decide⟩ (i := 0) rfl (v := (.int c0)) rfl 20 (hb hby d104) rfl ?_
  refine ginfo fun _ _ O3 => ?_
  refine gcallS (y := mn65) hx (ow hw 88 rfl) (ow hw 89 rfl) (ow hw 73 rfl) (ow hw 90 rfl) (by decide) (fun hZ H hEL => Pay.of_met (W := 0) (own_pc1_0 l Z a0 cx [] (r1) (c0) (kb1) ((.int (0 : Int32))) ((.int (0 : Int32))) vm1 h1 O3 q1_3 q1_1 q1_2) (ow hw 90 rfl) (ow hw 73 rfl) (by decide) (by decide) hZ H hEL) 23 (argsL := [(.ref r1), (.int (0 : Int32)), (.int c0)]) (rest := []) (lenOf own_pd106 rfl) rfl rfl (Nat.le_of_eq rfl) (by rw [hml]; rfl) (hb hby d105) rfl (by decide) (by decide) ?_
  rintro _ vm3 h3 C3 ⟨rfl, K3, q3_0, q3_1⟩
  have z3 := C3.2.1
  refine gat0 ?_
  refine uInc 26 #[vr a, vi (1 : Int32), vi (1 : Int32), vr r1, vi (0 : Int32)] hx hby d107 rfl rfl rfl ?_
  refine uInc 29 #[vr a, vi (1 : Int32), vi (1 : Int32), vr r1, vi (1 : Int32)] hx hby d108 rfl rfl rfl ?_
  refine uG 8 hx hby d109 (by decide) (by decide) ?_
  refine uI 10 hx hby d97 rfl rfl ?_
  refine uIN 11 hx hby d98 rfl rfl ?_
  refine uYc 32 hx hby d99 (flt (by decide)).2.1 (by decide) (by decide) ?_
  refine uAN 33 hx hby d110 rfl rfl rfl ?_
  exact gretA hx hret rfl rfl (hb hby d111) (by decide) (by decide) (fun vq Cq => ⟨r1, kb1, rfl, (((Keep.refl h0 []).trans K1 all0).trans K3 (allS (Or.inr (by omega)) all0)), (by omega), q3_0⟩)
theorem d113 : decode y13_ 0 = .ok (.iload_n 2, 1) := by decide +kernel
theorem d114 : decode y13_ 1 = .ok (.newarray .byte, 2) := by decide +kernel
theorem d115 : decode y13_ 3 = .ok (.astore_n 3, 1) := by decide +kernel
theorem d116 : decode y13_ 4 = .ok (.aload_n 0, 1) := by decide +kernel
theorem d117 : decode y13_ 5 = .ok (.iload_n 1, 1) := by decide +kernel
theorem d118 : decode y13_ 6 = .ok (.aload_n 3, 1) := by decide +kernel
theorem d119 : decode y13_ 7 = .ok (.iconst 0, 1) := by decide +kernel
theorem d120 : decode y13_ 8 = .ok (.iload_n 2, 1) := by decide +kernel
theorem d121 : decode y13_ 9 = .ok (.invokestatic 115, 3) := by decide +kernel
theorem own_pd122 : parseMethodDescriptor "([CI[BII)I" = some ⟨[(.array .char), .int, (.array .byte), .int, .int], some .int⟩ := by decide +kernel
theorem d123 : decode y13_ 12 = .ok (.istore 4, 2) := by decide +kernel
theorem d124 : decode y13_ 14 = .ok (.iload 4, 2) := by decide +kernel
theorem d125 : decode y13_ 16 = .ok (.iload_n 2, 1) := by decide +kernel
theorem d126 : decode y13_ 17 = .ok (.if_icmp .eq 40, 3) := by decide +kernel
theorem d127 : decode y13_ 20 = .ok (.aload_n 0, 1) := by decide +kernel
theorem d128 : decode y13_ 21 = .ok (.iload_n 1, 1) := by decide +kernel
theorem d129 : decode y13_ 22 = .ok (.iload_n 2, 1) := by decide +kernel
theorem d130 : decode y13_ 23 = .ok (.invokestatic 119, 3) := by decide +kernel
theorem own_pd131 : parseMethodDescriptor "([CII)[B" = some ⟨[(.array .char), .int, .int], some (.array .byte)⟩ := by decide +kernel
theorem d132 : decode y13_ 26 = .ok (.astore 5, 2) := by decide +kernel
theorem d133 : decode y13_ 28 = .ok (.aload 5, 2) := by decide +kernel
theorem d134 : decode y13_ 30 = .ok (.iload 4, 2) := by decide +kernel
theorem d135 : decode y13_ 32 = .ok (.invokestatic 71, 3) := by decide +kernel
theorem own_pd136 : parseMethodDescriptor "([BI)C" = some ⟨[(.array .byte), .int], some .char⟩ := by decide +kernel
theorem d137 : decode y13_ 35 = .ok (.sipush 255, 3) := by decide +kernel
theorem d138 : decode y13_ 38 = .ok (.if_icmp .gt 16, 3) := by decide +kernel
theorem d139 : decode y13_ 54 = .ok (.aload 5, 2) := by decide +kernel
theorem d140 : decode y13_ 56 = .ok (.areturn, 1) := by decide +kernel
abbrev mn141 : MethodName := ⟨"java/lang/StringUTF16", "compress", "([CII)[B"⟩
theorem own_c3_1_0 (l : Launch) (Z : State) (a0 : Array Value) (cx : Ctx Z a0) (ws : List Jvm.Cond) (a : Addr) (kc : ClassId) (c0 : Int32) (vm0 : Vm) (h0 : Heap) (X00 : Ext Z.heap h0) (P0 : Arv Z h0 a kc .char (1 : Int32) [(.int c0)] (.int (0 : Int32))) (P1 : ((255 : Int32) < c0)) (hB : (¬ c0 < 0 ∧ ¬ (65535 : Int32) < c0)) :
    Met l mn141 y13_ 6 (some (.array .byte)) ws ({ frames := 3, cells := 2, slots := 3, locals := 40 } : Room) Z consts_1 vm0 h0 #[(.ref a), (.int (0 : Int32)), (.int (1 : Int32))] (fun rv vm h => ∃ (r : Addr), ∃ (kb : ClassId), rv = some (.ref r) ∧ Keep h0 h [] ∧ h0.size ≤ r ∧ Arv Z h r kb .byte (2 : Int32) [(.int ((c0 >>> ((0 : Int32) &&& 31)).toInt8.toInt32)), (.int ((c0 >>> ((8 : Int32) &&& 31)).toInt8.toInt32))] (.int (0 : Int32))) := by
  obtain ⟨hw, hEL, ⟨zc, Scs, hzc⟩, ⟨fm, Sfm, hfm⟩, Sad, Shi, Slo⟩ := id cx
  have hSA := own_SA hw
  refine Met.of_walk (a0 := a0) #[vr a, vi (0 : Int32), vi (1 : Int32), un, un, un] (plainFor_of_name own_pn15) X00 hEL (fun m => by first | (simp [entryFrame, mkF, argsToLocals, Value.category]; done) | rfl) ?_
  intro p e s m below meth c vm hx hby hml hret hnm hC0 hW0
  have lt_a : h0.size > a := P0.lt
  refine uIN 1 hx hby d113 rfl rfl ?_
  refine gnewPE hx (ow hw 29 rfl) (n := (1 : Int32)) (by decide) (cap := 1) (by decide) (by decide) (ad := "[B") (by decide) 3 (hb hby d114) rfl (by decide) (by decide) ?_
  intro b1 h1 k1 g1 E1 C1 V1 A1 n1 L1
  have z1 := C1.2.1
  have V1 : Arv Z h1 b1 k1 .byte (1 : Int32) [(.int (0 : Int32))] (.int (0 : Int32)) := V1.pad (pad_rep [] (.int (0 : Int32)) 1)
  have lt_b1 : h1.size > b1 := V1.lt
  refine uSAN 4 #[vr a, vi (0 : Int32), vi (1 : Int32), vr b1, un, un] hx hby d115 rfl rfl rfl ?_
  refine uAN 5 hx hby d116 rfl rfl rfl ?_
  refine uIN 6 hx hby d117 rfl rfl ?_
  refine uAN 7 hx hby d118 rfl rfl rfl ?_
  refine uKc 8 (0 : Int32) hx hby d119 rfl rfl ?_
  refine uIN 9 hx hby d120 rfl rfl ?_
  have f3 := (P0.ext E1)
  refine ginfo fun _ _ O2 => ?_
  refine gcallS (y := mn14) hx (ow hw 75 rfl) (ow hw 76 rfl) (ow hw 73 rfl) (ow hw 77 rfl) (by decide) (fun hZ H hEL => Pay.of_met (W := 0) (own_c5_1_0 l Z a0 cx [] (a) (b1) (kc) (k1) (c0) vm h1 O2 f3 V1 n1 L1 (Nat.ne_of_lt (by omega)) (by first | assumption | decide | omega)) (ow hw 77 rfl) (ow hw 73 rfl) (by decide) (by decide) hZ H hEL) 12 (argsL := [(.ref a), (.int (0 : Int32)), (.ref b1), (.int (0 : Int32)), (.int (1 : Int32))]) (rest := []) (lenOf own_pd122 rfl) rfl rfl (Nat.le_of_eq rfl) (by rw [hml]; rfl) (hb hby d121) rfl (by decide) (by decide) ?_
  rintro _ vm2 h2 C2 ⟨rfl, K2, q2_0⟩
  have z2 := C2.2.1
  refine gat1 ?_
  refine uSI 14 #[vr a, vi (0 : Int32), vi (1 : Int32), vr b1, vi (0 : Int32), un] hx hby d123 rfl rfl ?_
  refine uI 16 hx hby d124 rfl rfl ?_
  refine uIN 17 hx hby d125 rfl rfl ?_
  refine uNc 20 hx hby d126 rfl (feq (by decide)).1 ?_
  refine uAN 21 hx hby d127 rfl rfl rfl ?_
  refine uIN 22 hx hby d128 rfl rfl ?_
  refine uIN 23 hx hby d129 rfl rfl ?_
  have f5 := (f3.keep K2 (ninS (Nat.ne_of_lt (by omega)) nin0))
  refine ginfo fun _ _ O4 => ?_
  refine gcallS (y := mn112) hx (ow hw 78 rfl) (ow hw 79 rfl) (ow hw 73 rfl) (ow hw 80 rfl) (by decide) (fun hZ H hEL => Pay.of_met (W := 0) (own_tb1 l Z a0 cx [] (a) (kc) (c0) vm2 h2 O4 f5) (ow hw 80 rfl) (ow hw 73 rfl) (by decide) (by decide) hZ H hEL) 26 (argsL := [(.ref a), (.int (0 : Int32)), (.int (1 : Int32))]) (rest := []) (lenOf own_pd131 rfl) rfl rfl (Nat.le_of_eq rfl) (by rw [hml]; rfl) (hb hby d130) rfl (by decide) (by decide) ?_
  rintro _ vm4 h4 C4 ⟨r4, kb4, rfl, K4, q4_0, q4_1⟩
  have z4 := C4.2.1
  have lt_r4 : h4.size > r4 := q4_1.lt
  refine gat1 ?_
  refine uSA 28 #[vr a, vi (0 : Int32), vi (1 : Int32), vr b1, vi (0 : Int32), vr r4] hx hby d132 rfl rfl rfl ?_
  refine uA 30 hx hby d133 rfl rfl rfl ?_
  refine uI 32 hx hby d134 rfl rfl ?_
  refine ginfo fun _ _ O6 => ?_
  refine gcallS (y := mn90) hx (ow hw 94 rfl) (ow hw 95 rfl) (ow hw 73 rfl) (ow hw 96 rfl) (by decide) (fun hZ H hEL => Pay.of_met (W := 0) (own_gc1_0 l Z a0 cx [] (r4) (kb4) (((c0 >>> ((0 : Int32) &&& 31)).toInt8.toInt32)) (((c0 >>> ((8 : Int32) &&& 31)).toInt8.toInt32)) vm4 h4 O6 q4_1) (ow hw 96 rfl) (ow hw 73 rfl) (by decide) (by decide) hZ H hEL) 35 (argsL := [(.ref r4), (.int (0 : Int32))]) (rest := []) (lenOf own_pd136 rfl) rfl rfl (Nat.le_of_eq rfl) (by rw [hml]; rfl) (hb hby d135) rfl (by decide) (by decide) ?_
  rintro _ vm6 h6 C6 ⟨rfl, rfl⟩
  have z6 := C6.2.1
  refine gat1 ?_
  refine uKs 38 (255 : Int32) hx hby d137 rfl rfl ?_
  refine uYc 54 hx hby d138 (tlt (own_pair hB P1)).2.2.1 (by decide) (by decide) ?_
  refine uA 56 hx hby d139 rfl rfl rfl ?_
  exact gretA hx hret rfl rfl (hb hby d140) (by decide) (by decide) (fun vq Cq => ⟨r4, kb4, rfl, ((((Keep.refl h0 []).ext E1).trans K2 (allS (Or.inr (by omega)) all0)).trans K4 all0), (by omega), q4_1⟩)
theorem d142 : decode y13_ 57 = .ok (.aload_n 3, 1) := by decide +kernel
theorem d143 : decode y13_ 58 = .ok (.areturn, 1) := by decide +kernel
theorem own_c3_1_1 (l : Launch) (Z : State) (a0 : Array Value) (cx : Ctx Z a0) (ws : List Jvm.Cond) (a : Addr) (kc : ClassId) (c0 : Int32) (vm0 : Vm) (h0 : Heap) (X00 : Ext Z.heap h0) (P0 : Arv Z h0 a kc .char (1 : Int32) [(.int c0)] (.int (0 : Int32))) (P1 : (¬ (255 : Int32) < c0)) :
    Met l mn141 y13_ 6 (some (.array .byte)) ws ({ frames := 1, cells := 1, slots := 1, locals := 18 } : Room) Z consts_1 vm0 h0 #[(.ref a), (.int (0 : Int32)), (.int (1 : Int32))] (fun rv vm h => ∃ (r : Addr), ∃ (kb : ClassId), rv = some (.ref r) ∧ Keep h0 h [] ∧ h0.size ≤ r ∧ Arv Z h r kb .byte (1 : Int32) [(.int (c0.toInt8.toInt32))] (.int (0 : Int32))) := by
  obtain ⟨hw, hEL, ⟨zc, Scs, hzc⟩, ⟨fm, Sfm, hfm⟩, Sad, Shi, Slo⟩ := id cx
  have hSA := own_SA hw
  refine Met.of_walk (a0 := a0) #[vr a, vi (0 : Int32), vi (1 : Int32), un, un, un] (plainFor_of_name own_pn15) X00 hEL (fun m => by first | (simp [entryFrame, mkF, argsToLocals, Value.category]; done) | rfl) ?_
  intro p e s m below meth c vm hx hby hml hret hnm hC0 hW0
  have lt_a : h0.size > a := P0.lt
  refine uIN 1 hx hby d113 rfl rfl ?_
  refine gnewPE hx (ow hw 29 rfl) (n := (1 : Int32)) (by decide) (cap := 1) (by decide) (by decide) (ad := "[B") (by decide) 3 (hb hby d114) rfl (by decide) (by decide) ?_
  intro b1 h1 k1 g1 E1 C1 V1 A1 n1 L1
  have z1 := C1.2.1
  have V1 : Arv Z h1 b1 k1 .byte (1 : Int32) [(.int (0 : Int32))] (.int (0 : Int32)) := V1.pad (pad_rep [] (.int (0 : Int32)) 1)
  have lt_b1 : h1.size > b1 := V1.lt
  refine uSAN 4 #[vr a, vi (0 : Int32), vi (1 : Int32), vr b1, un, un] hx hby d115 rfl rfl rfl ?_
  refine uAN 5 hx hby d116 rfl rfl rfl ?_
  refine uIN 6 hx hby d117 rfl rfl ?_
  refine uAN 7 hx hby d118 rfl rfl rfl ?_
  refine uKc 8 (0 : Int32) hx hby d119 rfl rfl ?_
  refine uIN 9 hx hby d120 rfl rfl ?_
  have f3 := (P0.ext E1)
  refine ginfo fun _ _ O2 => ?_
  refine gcallS (y := mn14) hx (ow hw 75 rfl) (ow hw 76 rfl) (ow hw 73 rfl) (ow hw 77 rfl) (by decide) (fun hZ H hEL => Pay.of_met (W := 0) (own_c5_1_1 l Z a0 cx [] (a) (b1) (kc) (k1) (c0) vm h1 O2 f3 V1 n1 L1 (Nat.ne_of_lt (by omega)) (by first | assumption | decide | omega)) (ow hw 77 rfl) (ow hw 73 rfl) (by decide) (by decide) hZ H hEL) 12 (argsL := [(.ref a), (.int (0 : Int32)), (.ref b1), (.int (0 : Int32)), (.int (1 : Int32))]) (rest := []) (lenOf own_pd122 rfl) rfl rfl (Nat.le_of_eq rfl) (by rw [hml]; rfl) (hb hby d121) rfl (by decide) (by decide) ?_
  rintro _ vm2 h2 C2 ⟨rfl, K2, q2_0⟩
  have z2 := C2.2.1
  refine gat1 ?_
  refine uSI 14 #[vr a, vi (0 : Int32), vi (1 : Int32), vr b1, vi (1 : Int32), un] hx hby d123 rfl rfl ?_
  refine uI 16 hx hby d124 rfl rfl ?_
  refine uIN 17 hx hby d125 rfl rfl ?_
  refine uYc 57 hx hby d126 (teq (by decide)).1 (by decide) (by decide) ?_
  refine uAN 58 hx hby d142 rfl rfl rfl ?_
  exact gretA hx hret rfl rfl (hb hby d143) (by decide) (by decide) (fun vq Cq => ⟨b1, k1, rfl, (((Keep.refl h0 []).ext E1).trans K2 (allS (Or.inr (by omega)) all0)), (by omega), q2_0⟩)
theorem d144 : decode y12_ 0 = .ok (.iload_n 1, 1) := by decide +kernel
theorem d145 : decode y12_ 1 = .ok (.aload_n 0, 1) := by decide +kernel
theorem d146 : decode y12_ 2 = .ok (.arraylength, 1) := by decide +kernel
theorem d147 : decode y12_ 3 = .ok (.isub, 1) := by decide +kernel
theorem d148 : decode y12_ 4 = .ok (.bipush 31, 2) := by decide +kernel
theorem d149 : decode y12_ 6 = .ok (.iushr, 1) := by decide +kernel
theorem d150 : decode y12_ 7 = .ok (.i2b, 1) := by decide +kernel
theorem d151 : decode y12_ 8 = .ok (.ireturn, 1) := by decide +kernel
abbrev mn152 : MethodName := ⟨"java/lang/StringUTF16", "coderFromArrayLen", "([BI)B"⟩
theorem own_cod_1_0 (l : Launch) (Z : State) (a0 : Array Value) (cx : Ctx Z a0) (ws : List Jvm.Cond) (a : Addr) (ka : ClassId) (vs : List Value) (vm0 : Vm) (h0 : Heap) (X00 : Ext Z.heap h0) (P0 : Arv Z h0 a ka .byte (1 : Int32) vs (.int (0 : Int32))) :
    Met l mn152 y12_ 2 (some .byte) ws ({ frames := 0, cells := 0, slots := 0, locals := 0 } : Room) Z consts_1 vm0 h0 #[(.ref a), (.int (1 : Int32))] (fun rv vm h => rv = some (.int (0 : Int32)) ∧ h0 = h) := by
  obtain ⟨hw, hEL, ⟨zc, Scs, hzc⟩, ⟨fm, Sfm, hfm⟩, Sad, Shi, Slo⟩ := id cx
  have hSA := own_SA hw
  refine Met.of_walk (a0 := a0) #[vr a, vi (1 : Int32)] (plainFor_of_name own_pn15) X00 hEL (fun m => by first | (simp [entryFrame, mkF, argsToLocals, Value.category]; done) | rfl) ?_
  intro p e s m below meth c vm hx hby hml hret hnm hC0 hW0
  have lt_a : h0.size > a := P0.lt
  refine uIN 1 hx hby d144 rfl rfl ?_
  refine uAN 2 hx hby d145 rfl rfl rfl ?_
  refine glen hx P0 3 (hb hby d146) rfl ?_
  refine uisub 4 (0 : Int32) hx hby d147 rfl (by decide) ?_
  refine uKb 6 (31 : Int32) hx hby d148 rfl rfl ?_
  refine gs (mkF m 7 #[vr a, vi (1 : Int32)] [(.int (0 : Int32))]) (fun _ _ A kq => XS.iushr A hx rfl (hb hby d149) rfl kq) ?_
  refine gs (mkF m 8 #[vr a, vi (1 : Int32)] [(.int (0 : Int32))]) (fun _ _ A kq => XS.i2b A hx rfl (hb hby d150) rfl kq) ?_
  exact gretN (t := .byte) hx hret (by simp) (hb hby d151) (by decide) (by decide) (fun vq Cq => ⟨rfl, rfl⟩)
theorem own_cod_1_1 (l : Launch) (Z : State) (a0 : Array Value) (cx : Ctx Z a0) (ws : List Jvm.Cond) (a : Addr) (ka : ClassId) (vs : List Value) (vm0 : Vm) (h0 : Heap) (X00 : Ext Z.heap h0) (P0 : Arv Z h0 a ka .byte (2 : Int32) vs (.int (0 : Int32))) :
    Met l mn152 y12_ 2 (some .byte) ws ({ frames := 0, cells := 0, slots := 0, locals := 0 } : Room) Z consts_1 vm0 h0 #[(.ref a), (.int (1 : Int32))] (fun rv vm h => rv = some (.int (1 : Int32)) ∧ h0 = h) := by
  obtain ⟨hw, hEL, ⟨zc, Scs, hzc⟩, ⟨fm, Sfm, hfm⟩, Sad, Shi, Slo⟩ := id cx
  have hSA := own_SA hw
  refine Met.of_walk (a0 := a0) #[vr a, vi (1 : Int32)] (plainFor_of_name own_pn15) X00 hEL (fun m => by first | (simp [entryFrame, mkF, argsToLocals, Value.category]; done) | rfl) ?_
  intro p e s m below meth c vm hx hby hml hret hnm hC0 hW0
  have lt_a : h0.size > a := P0.lt
  refine uIN 1 hx hby d144 rfl rfl ?_
  refine uAN 2 hx hby d145 rfl rfl rfl ?_
  refine glen hx P0 3 (hb hby d146) rfl ?_
  refine uisub 4 (-1 : Int32) hx hby d147 rfl (by decide) ?_
  refine uKb 6 (31 : Int32) hx hby d148 rfl rfl ?_
  refine gs (mkF m 7 #[vr a, vi (1 : Int32)] [(.int (1 : Int32))]) (fun _ _ A kq => XS.iushr A hx rfl (hb hby d149) rfl kq) ?_
  refine gs (mkF m 8 #[vr a, vi (1 : Int32)] [(.int (1 : Int32))]) (fun _ _ A kq => XS.i2b A hx rfl (hb hby d150) rfl kq) ?_
  exact gretN (t := .byte) hx hret (by simp) (hb hby d151) (by decide) (by decide) (fun vq Cq => ⟨rfl, rfl⟩)
theorem d153 : decode y3_ 0 = .ok (.aload_n 0, 1) := by decide +kernel
theorem d154 : decode y3_ 1 = .ok (.invokespecial 1, 3) := by decide +kernel
theorem d155 : decode y3_ 4 = .ok (.iload_n 3, 1) := by decide +kernel
theorem d156 : decode y3_ 5 = .ok (.ifCond .ne 22, 3) := by decide +kernel
theorem d157 : decode y3_ 27 = .ok (.getstatic 38, 3) := by decide +kernel
theorem d158 : decode y3_ 30 = .ok (.ifCond .eq 28, 3) := by decide +kernel
theorem d159 : decode y3_ 33 = .ok (.aload_n 1, 1) := by decide +kernel
theorem d160 : decode y3_ 34 = .ok (.iload_n 2, 1) := by decide +kernel
theorem d161 : decode y3_ 35 = .ok (.iload_n 3, 1) := by decide +kernel
theorem d162 : decode y3_ 36 = .ok (.invokestatic 177, 3) := by decide +kernel
theorem d163 : decode y3_ 39 = .ok (.astore 5, 2) := by decide +kernel
theorem d164 : decode y3_ 41 = .ok (.aload_n 0, 1) := by decide +kernel
theorem d165 : decode y3_ 42 = .ok (.aload 5, 2) := by decide +kernel
theorem d166 : decode y3_ 44 = .ok (.iload_n 3, 1) := by decide +kernel
theorem d167 : decode y3_ 45 = .ok (.invokestatic 47, 3) := by decide +kernel
theorem own_pd168 : parseMethodDescriptor "([BI)B" = some ⟨[(.array .byte), .int], some .byte⟩ := by decide +kernel
theorem d169 : decode y3_ 48 = .ok (.putfield 15, 3) := by decide +kernel
theorem d170 : decode y3_ 51 = .ok (.aload_n 0, 1) := by decide +kernel
theorem d171 : decode y3_ 52 = .ok (.aload 5, 2) := by decide +kernel
theorem d172 : decode y3_ 54 = .ok (.putfield 9, 3) := by decide +kernel
theorem d173 : decode y3_ 57 = .ok (.return_, 1) := by decide +kernel
abbrev mn174 : MethodName := ⟨"java/lang/String", "<init>", "([CIILjava/lang/Void;)V"⟩
theorem own_pn175 : plainName "java/lang/String" = true := by first | (simp [plainName, overriddenIn]; done) | decide +kernel
theorem own_i4_1_0 (l : Launch) (Z : State) (a0 : Array Value) (cx : Ctx Z a0) (ws : List Jvm.Cond) (x : Addr) (a : Addr) (v0 : Value) (c0v : Value) (kc : ClassId) (c0 : Int32) (vm0 : Vm) (h0 : Heap) (X00 : Ext Z.heap h0) (P0 : Exa Z h0 x c0_) (P1 : Fld Z h0 x c0_ "value" "[B" v0) (P2 : Fld Z h0 x c0_ "coder" "B" c0v) (P3 : Z.heap.size ≤ x) (P4 : Safe Z consts_1 vm0 h0 x) (P5 : Arv Z h0 a kc .char (1 : Int32) [(.int c0)] (.int (0 : Int32))) (P6 : ((255 : Int32) < c0)) (h16 : (∀ c ∈ [c0], ¬ c < 0 ∧ ¬ (65535 : Int32) < c)) :
    Met l mn174 y3_ 6 none ws ({ frames := 4, cells := 2, slots := 3, locals := 57 } : Room) Z consts_1 vm0 h0 #[(.ref x), (.ref a), (.int (0 : Int32)), (.int (1 : Int32)), .null] (fun rv vm h => ∃ (t : Addr), rv = none ∧ Keep h0 h [x] ∧ Txt Z h x t [c0]) := by
  obtain ⟨hw, hEL, ⟨zc, Scs, hzc⟩, ⟨fm, Sfm, hfm⟩, Sad, Shi, Slo⟩ := id cx
  have hSA := own_SA hw
  refine Met.of_walk (a0 := a0) #[vr x, vr a, vi (0 : Int32), vi (1 : Int32), .val .null, un] (plainFor_of_name own_pn175) X00 hEL (fun m => by first | (simp [entryFrame, mkF, argsToLocals, Value.category]; done) | rfl) ?_
  intro p e s m below meth c vm hx hby hml hret hnm hC0 hW0
  have lt_x : h0.size > x := P0.lt
  have L4 := hC0.safe lt_x P4
  have lt_a : h0.size > a := P5.lt
  refine uAN 1 hx hby d153 rfl rfl rfl ?_
  refine ginitO hx (ow hw 25 rfl) (ow hw 26 rfl) (ow hw 27 rfl) 4 (W := 0) (Nat.le_of_eq rfl) (by rw [hml]; rfl) (hb hby d154) rfl (by decide) (by decide) ?_
  refine uIN 5 hx hby d155 rfl rfl ?_
  refine uY 27 hx hby d156 ((if0 _ _).trans (feq (by decide)).2) (by decide) (by decide) ?_
  refine ggetS (host := "") hx (Or.inl (ow hw 50 rfl)) Via.refl Scs 30 (hb hby d157) rfl ?_
  refine uN 33 hx hby d158 rfl ((if0 _ _).trans (feq hzc).1) ?_
  refine uAN 34 hx hby d159 rfl rfl rfl ?_
  refine uIN 35 hx hby d160 rfl rfl ?_
  refine uIN 36 hx hby d161 rfl rfl ?_
  refine ginfo fun _ _ O2 => ?_
  refine gcallS (y := mn141) hx (ow hw 71 rfl) (ow hw 72 rfl) (ow hw 73 rfl) (ow hw 74 rfl) (by decide) (fun hZ H hEL => Pay.of_met (W := 0) (own_c3_1_0 l Z a0 cx [] (a) (kc) (c0) vm h0 O2 P5 (by first | assumption | decide | omega) (h16 _ (List.mem_of_getElem? (i := 0) rfl))) (ow hw 74 rfl) (ow hw 73 rfl) (by decide) (by decide) hZ H hEL) 39 (argsL := [(.ref a), (.int (0 : Int32)), (.int (1 : Int32))]) (rest := []) (lenOf own_pd131 rfl) rfl rfl (Nat.le_of_eq rfl) (by rw [hml]; rfl) (hb hby d162) rfl (by decide) (by decide) ?_
  rintro _ vm2 h2 C2 ⟨r2, kb2, rfl, K2, q2_0, q2_1⟩
  have z2 := C2.2.1
  have lt_r2 : h2.size > r2 := q2_1.lt
  refine gat1 ?_
  refine uSA 41 #[vr x, vr a, vi (0 : Int32), vi (1 : Int32), .val .null, vr r2] hx hby d163 rfl rfl rfl ?_
  refine uAN 42 hx hby d164 rfl rfl rfl ?_
  refine uA 44 hx hby d165 rfl rfl rfl ?_
  refine uIN 45 hx hby d166 rfl rfl ?_
  refine ginfo fun _ _ O3 => ?_
  refine gcallS (y := mn152) hx (ow hw 97 rfl) (ow hw 98 rfl) (ow hw 73 rfl) (ow hw 99 rfl) (by decide) (fun hZ H hEL => Pay.of_met (W := 1) (own_cod_1_1 l Z a0 cx [] (r2) (kb2) ([(.int ((c0 >>> ((0 : Int32) &&& 31)).toInt8.toInt32)), (.int ((c0 >>> ((8 : Int32) &&& 31)).toInt8.toInt32))]) vm2 h2 O3 q2_1) (ow hw 99 rfl) (ow hw 73 rfl) (by decide) (by decide) hZ H hEL) 48 (argsL := [(.ref r2), (.int (1 : Int32))]) (rest := [(.ref x)]) (lenOf own_pd168 rfl) rfl rfl (Nat.le_of_eq rfl) (by rw [hml]; rfl) (hb hby d167) rfl (by decide) (by decide) ?_
  rintro _ vm3 h3 C3 ⟨rfl, rfl⟩
  have z3 := C3.2.1
  refine gat1 ?_
  have f4 := (P2.keep K2 nin0)
  have f5 := (P0.keep K2)
  have f6 := (C3.safe (show h2.size > x by omega) (C2.safe (show h0.size > x by omega) L4))
  refine gputF (host := "") hx (Or.inl (ow hw 35 rfl)) Via.refl f4 f5 (Or.inr ⟨(ow hw 31 rfl), rfl, hnm⟩) (ow hw 16 rfl) (ty := .byte) (by decide) rfl rfl P3 (fun _ => f6) 51 (hb hby d169) rfl ?_
  intro h7 W7 C7
  have z7 := C7.2.1
  have F7 := f4.same W7
  refine uAN 52 hx hby d170 rfl rfl rfl ?_
  refine uA 54 hx hby d171 rfl rfl rfl ?_
  have f8 := ((P1.keep K2 nin0).other W7 (Or.inr (slot_ne (Or.inr (ow hw 30 rfl)) (Or.inr (ow hw 31 rfl)) (by decide) (t := (.array .byte)) (t' := .byte) (by decide) (by decide))))
  have f9 := (f5.wr W7)
  have f10 := (C7.safe (show h2.size > x by omega) f6)
  refine gputF (host := "") hx (Or.inl (ow hw 34 rfl)) Via.refl f8 f9 (Or.inr ⟨(ow hw 30 rfl), rfl, hnm⟩) (ow hw 16 rfl) (ty := (.array .byte)) (by decide) rfl rfl P3 (fun _ => f10) 57 (hb hby d172) rfl ?_
  intro h11 W11 C11
  have z11 := C11.2.1
  have F11 := f8.same W11
  have f12 := (f9.wr W11)
  have f13 := (F7.other W11 (Or.inr (slot_ne (Or.inr (ow hw 31 rfl)) (Or.inr (ow hw 30 rfl)) (by decide) (t := .byte) (t' := (.array .byte)) (by decide) (by decide))))
  have f14 := ((q2_1.other W7 (Nat.ne_of_gt (by omega))).other W11 (Nat.ne_of_gt (by omega)))
  exact gretV hx hret (hb hby d173) (by decide) (by decide) (fun vq Cq => ⟨r2, rfl, ((((Keep.refl h0 [x]).trans K2 all0).wr W7 (Or.inl (List.mem_of_getElem? (i := 0) rfl))).wr W11 (Or.inl (List.mem_of_getElem? (i := 0) rfl))), ⟨f12, F11, Nat.le_of_ble_eq_true rfl, h16, Or.inr ⟨f13, _, f14⟩⟩⟩)
theorem own_i4_1_1 (l : Launch) (Z : State) (a0 : Array Value) (cx : Ctx Z a0) (ws : List Jvm.Cond) (x : Addr) (a : Addr) (v0 : Value) (c0v : Value) (kc : ClassId) (c0 : Int32) (vm0 : Vm) (h0 : Heap) (X00 : Ext Z.heap h0) (P0 : Exa Z h0 x c0_) (P1 : Fld Z h0 x c0_ "value" "[B" v0) (P2 : Fld Z h0 x c0_ "coder" "B" c0v) (P3 : Z.heap.size ≤ x) (P4 : Safe Z consts_1 vm0 h0 x) (P5 : Arv Z h0 a kc .char (1 : Int32) [(.int c0)] (.int (0 : Int32))) (P6 : (¬ (255 : Int32) < c0)) (h16 : (∀ c ∈ [c0], ¬ c < 0 ∧ ¬ (65535 : Int32) < c)) :
    Met l mn174 y3_ 6 none ws ({ frames := 2, cells := 1, slots := 1, locals := 35 } : Room) Z consts_1 vm0 h0 #[(.ref x), (.ref a), (.int (0 : Int32)), (.int (1 : Int32)), .null] (fun rv vm h => ∃ (t : Addr), rv = none ∧ Keep h0 h [x] ∧ Txt Z h x t [c0]) := by
  obtain ⟨hw, hEL, ⟨zc, Scs, hzc⟩, ⟨fm, Sfm, hfm⟩, Sad, Shi, Slo⟩ := id cx
  have hSA := own_SA hw
  refine Met.of_walk (a0 := a0) #[vr x, vr a, vi (0 : Int32), vi (1 : Int32), .val .null, un] (plainFor_of_name own_pn175) X00 hEL (fun m => by first | (simp [entryFrame, mkF, argsToLocals, Value.category]; done) | rfl) ?_
  intro p e s m below meth c vm hx hby hml hret hnm hC0 hW0
  have lt_x : h0.size > x := P0.lt
  have L4 := hC0.safe lt_x P4
  have lt_a : h0.size > a := P5.lt
  refine uAN 1 hx hby d153 rfl rfl rfl ?_
  refine ginitO hx (ow hw 25 rfl) (ow hw 26 rfl) (ow hw 27 rfl) 4 (W := 0) (Nat.le_of_eq rfl) (by rw [hml]; rfl) (hb hby d154) rfl (by decide) (by decide) ?_
  refine uIN 5 hx hby d155 rfl rfl ?_
  refine uY 27 hx hby d156 ((if0 _ _).trans (feq (by decide)).2) (by decide) (by decide) ?_
  refine ggetS (host := "") hx (Or.inl (ow hw 50 rfl)) Via.refl Scs 30 (hb hby d157) rfl ?_
  refine uN 33 hx hby d158 rfl ((if0 _ _).trans (feq hzc).1) ?_
  refine uAN 34 hx hby d159 rfl rfl rfl ?_
  refine uIN 35 hx hby d160 rfl rfl ?_
  refine uIN 36 hx hby d161 rfl rfl ?_
  refine ginfo fun _ _ O2 => ?_
  refine gcallS (y := mn141) hx (ow hw 71 rfl) (ow hw 72 rfl) (ow hw 73 rfl) (ow hw 74 rfl) (by decide) (fun hZ H hEL => Pay.of_met (W := 0) (own_c3_1_1 l Z a0 cx [] (a) (kc) (c0) vm h0 O2 P5 (by first | assumption | decide | omega)) (ow hw 74 rfl) (ow hw 73 rfl) (by decide) (by decide) hZ H hEL) 39 (argsL := [(.ref a), (.int (0 : Int32)), (.int (1 : Int32))]) (rest := []) (lenOf own_pd131 rfl) rfl rfl (Nat.le_of_eq rfl) (by rw [hml]; rfl) (hb hby d162) rfl (by decide) (by decide) ?_
  rintro _ vm2 h2 C2 ⟨r2, kb2, rfl, K2, q2_0, q2_1⟩
  have z2 := C2.2.1
  have lt_r2 : h2.size > r2 := q2_1.lt
  refine gat1 ?_
  refine uSA 41 #[vr x, vr a, vi (0 : Int32), vi (1 : Int32), .val .null, vr r2] hx hby d163 rfl rfl rfl ?_
  refine uAN 42 hx hby d164 rfl rfl rfl ?_
  refine uA 44 hx hby d165 rfl rfl rfl ?_
  refine uIN 45 hx hby d166 rfl rfl ?_
  refine ginfo fun _ _ O3 => ?_
  refine gcallS (y := mn152) hx (ow hw 97 rfl) (ow hw 98 rfl) (ow hw 73 rfl) (ow hw 99 rfl) (by decide) (fun hZ H hEL => Pay.of_met (W := 1) (own_cod_1_0 l Z a0 cx [] (r2) (kb2) ([(.int (c0.toInt8.toInt32))]) vm2 h2 O3 q2_1) (ow hw 99 rfl) (ow hw 73 rfl) (by decide) (by decide) hZ H hEL) 48 (argsL := [(.ref r2), (.int (1 : Int32))]) (rest := [(.ref x)]) (lenOf own_pd168 rfl) rfl rfl (Nat.le_of_eq rfl) (by rw [hml]; rfl) (hb hby d167) rfl (by decide) (by decide) ?_
  rintro _ vm3 h3 C3 ⟨rfl, rfl⟩
  have z3 := C3.2.1
  refine gat1 ?_
  have f4 := (P2.keep K2 nin0)
  have f5 := (P0.keep K2)
  have f6 := (C3.safe (show h2.size > x by omega) (C2.safe (show h0.size > x by omega) L4))
  refine gputF (host := "") hx (Or.inl (ow hw 35 rfl)) Via.refl f4 f5 (Or.inr ⟨(ow hw 31 rfl), rfl, hnm⟩) (ow hw 16 rfl) (ty := .byte) (by decide) rfl rfl P3 (fun _ => f6) 51 (hb hby d169) rfl ?_
  intro h7 W7 C7
  have z7 := C7.2.1
  have F7 := f4.same W7
  refine uAN 52 hx hby d170 rfl rfl rfl ?_
  refine uA 54 hx hby d171 rfl rfl rfl ?_
  have f8 := ((P1.keep K2 nin0).other W7 (Or.inr (slot_ne (Or.inr (ow hw 30 rfl)) (Or.inr (ow hw 31 rfl)) (by decide) (t := (.array .byte)) (t' := .byte) (by decide) (by decide))))
  have f9 := (f5.wr W7)
  have f10 := (C7.safe (show h2.size > x by omega) f6)
  refine gputF (host := "") hx (Or.inl (ow hw 34 rfl)) Via.refl f8 f9 (Or.inr ⟨(ow hw 30 rfl), rfl, hnm⟩) (ow hw 16 rfl) (ty := (.array .byte)) (by decide) rfl rfl P3 (fun _ => f10) 57 (hb hby d172) rfl ?_
  intro h11 W11 C11
  have z11 := C11.2.1
  have F11 := f8.same W11
  have f12 := (f9.wr W11)
  have f13 := (F7.other W11 (Or.inr (slot_ne (Or.inr (ow hw 31 rfl)) (Or.inr (ow hw 30 rfl)) (by decide) (t := .byte) (t' := (.array .byte)) (by decide) (by decide))))
  have f14 := ((q2_1.other W7 (Nat.ne_of_gt (by omega))).other W11 (Nat.ne_of_gt (by omega)))
  exact gretV hx hret (hb hby d173) (by decide) (by decide) (fun vq Cq => ⟨r2, rfl, ((((Keep.refl h0 [x]).trans K2 all0).wr W7 (Or.inl (List.mem_of_getElem? (i := 0) rfl))).wr W11 (Or.inl (List.mem_of_getElem? (i := 0) rfl))), ⟨f12, F11, Nat.le_of_ble_eq_true rfl, h16, Or.inl ⟨f13, (bcons ⟨(h16 _ (List.mem_of_getElem? (i := 0) rfl)).1, P6⟩ bnil), _, f14⟩⟩⟩)
theorem d176 : decode y7_ 0 = .ok (.aload_n 0, 1) := by decide +kernel
theorem d177 : decode y7_ 1 = .ok (.aload_n 1, 1) := by decide +kernel
theorem d178 : decode y7_ 2 = .ok (.iconst 0, 1) := by decide +kernel
theorem d179 : decode y7_ 3 = .ok (.aload_n 1, 1) := by decide +kernel
theorem d180 : decode y7_ 4 = .ok (.arraylength, 1) := by decide +kernel
theorem d181 : decode y7_ 5 = .ok (.aconst_null, 1) := by decide +kernel
theorem d182 : decode y7_ 6 = .ok (.invokespecial 27, 3) := by decide +kernel
theorem own_pd183 : parseMethodDescriptor "([CIILjava/lang/Void;)V" = some ⟨[(.array .char), .int, .int, (.object "java/lang/Void")], none⟩ := by decide +kernel
theorem d184 : decode y7_ 9 = .ok (.return_, 1) := by decide +kernel
abbrev mn185 : MethodName := ⟨"java/lang/String", "<init>", "([C)V"⟩
theorem own_i1_1 (l : Launch) (Z : State) (a0 : Array Value) (cx : Ctx Z a0) (ws : List Jvm.Cond) (x : Addr) (a : Addr) (v0 : Value) (c0v : Value) (kc : ClassId) (c0 : Int32) (vm0 : Vm) (h0 : Heap) (X00 : Ext Z.heap h0) (P0 : Exa Z h0 x c0_) (P1 : Fld Z h0 x c0_ "value" "[B" v0) (P2 : Fld Z h0 x c0_ "coder" "B" c0v) (P3 : Z.heap.size ≤ x) (P4 : Safe Z consts_1 vm0 h0 x) (P5 : Arv Z h0 a kc .char (1 : Int32) [(.int c0)] (.int (0 : Int32))) (h16 : (∀ c ∈ [c0], ¬ c < 0 ∧ ¬ (65535 : Int32) < c)) :
    Met l mn185 y7_ 2 none ws ({ frames := 5, cells := 2, slots := 3, locals := 74 } : Room) Z consts_1 vm0 h0 #[(.ref x), (.ref a)] (fun rv vm h => ∃ (t : Addr), rv = none ∧ Keep h0 h [x] ∧ Txt Z h x t [c0]) := by
  obtain ⟨hw, hEL, ⟨zc, Scs, hzc⟩, ⟨fm, Sfm, hfm⟩, Sad, Shi, Slo⟩ := id cx
  have hSA := own_SA hw
  refine Met.of_walk (a0 := a0) #[vr x, vr a] (plainFor_of_name own_pn175) X00 hEL (fun m => by first | (simp [entryFrame, mkF, argsToLocals, Value.category]; done) | rfl) ?_
  intro p e s m below meth c vm hx hby hml hret hnm hC0 hW0
  have lt_x : h0.size > x := P0.lt
  have L4 := hC0.safe lt_x P4
  have lt_a : h0.size > a := P5.lt
  refine uAN 1 hx hby d176 rfl rfl rfl ?_
  refine uAN 2 hx hby d177 rfl rfl rfl ?_
  refine uKc 3 (0 : Int32) hx hby d178 rfl rfl ?_
  refine uAN 4 hx hby d179 rfl rfl rfl ?_
  refine glen hx P5 5 (hb hby d180) rfl ?_
  refine uU 6 hx hby d181 rfl ?_
  by_cases g0 : (255 : Int32) < c0
  · refine ginfo fun _ _ O1 => ?_
    refine gcallI (y := mn174) hx rfl (ow hw 21 rfl) (ow hw 22 rfl) (ow hw 24 rfl) (by decide) (fun hZ H hEL => Pay.of_met (W := 0) (own_i4_1_0 l Z a0 cx [] (x) (a) (v0) (c0v) (kc) (c0) vm h0 O1 P0 P1 P2 P3 L4 P5 (by first | assumption | decide | omega) h16) (ow hw 24 rfl) (ow hw 17 rfl) (by decide) (by decide) hZ H hEL) (a := x) 9 (argsL := [(.ref a), (.int (0 : Int32)), (.int (1 : Int32)), .null]) (rest := []) (lenOf own_pd183 rfl) rfl rfl (Nat.le_of_eq rfl) (by rw [hml]; rfl) (hb hby d182) rfl (by decide) (by decide) ?_
    rintro _ vm1 h1 C1 ⟨t1, rfl, K1, q1_0⟩
    have z1 := C1.2.1
    have lt_t1 : h1.size > t1 := q1_0.tlt
    refine gat0 ?_
    exact gretV hx hret (hb hby d184) (by decide) (by decide) (fun vq Cq => ⟨t1, rfl, ((Keep.refl h0 [x]).trans K1 (allS (Or.inl (List.mem_of_getElem? (i := 0) rfl)) all0)), q1_0⟩)
  · refine ginfo fun _ _ O3 => ?_
    refine gcallI (y := mn174) hx rfl (ow hw 21 rfl) (ow hw 22 rfl) (ow hw 24 rfl) (by decide) (fun hZ H hEL => Pay.of_met (W := 0) (own_i4_1_1 l Z a0 cx [] (x) (a) (v0) (c0v) (kc) (c0) vm h0 O3 P0 P1 P2 P3 L4 P5 (by first | assumption | decide | omega) h16) (ow hw 24 rfl) (ow hw 17 rfl) (by decide) (by decide) hZ H hEL) (a := x) 9 (argsL := [(.ref a), (.int (0 : Int32)), (.int (1 : Int32)), .null]) (rest := []) (lenOf own_pd183 rfl) rfl rfl (Nat.le_of_eq rfl) (by rw [hml]; rfl) (hb hby d182) rfl (by decide) (by decide) ?_
    rintro _ vm3 h3 C3 ⟨t3, rfl, K3, q3_0⟩
    have z3 := C3.2.1
    have lt_t3 : h3.size > t3 := q3_0.tlt
    refine gat0 ?_
    exact gretV hx hret (hb hby d184) (by decide) (by decide) (fun vq Cq => ⟨t3, rfl, ((Keep.refl h0 [x]).trans K3 (allS (Or.inl (List.mem_of_getElem? (i := 0) rfl)) all0)), q3_0⟩)
theorem own_c5_2_0 (l : Launch) (Z : State) (a0 : Array Value) (cx : Ctx Z a0) (ws : List Jvm.Cond) (a : Addr) (d : Addr) (kc : ClassId) (kd : ClassId) (c0 : Int32) (c1 : Int32) (vm0 : Vm) (h0 : Heap) (X00 : Ext Z.heap h0) (P0 : Arv Z h0 a kc .char (2 : Int32) [(.int c0), (.int c1)] (.int (0 : Int32))) (P1 : Arv Z h0 d kd .byte (2 : Int32) [(.int (0 : Int32)), (.int (0 : Int32))] (.int (0 : Int32))) (P2 : Z.heap.size ≤ d) (P3 : Safe Z consts_1 vm0 h0 d) (hne : (a ≠ d)) (P5 : ((255 : Int32) < c0)) :
    Met l mn14 y14_ 7 (some .int) ws ({ frames := 0, cells := 0, slots := 0, locals := 0 } : Room) Z consts_1 vm0 h0 #[(.ref a), (.int (0 : Int32)), (.ref d), (.int (0 : Int32)), (.int (2 : Int32))] (fun rv vm h => rv = some (.int (0 : Int32)) ∧ Keep h0 h [d] ∧ Arv Z h d kd .byte (2 : Int32) [(.int (0 : Int32)), (.int (0 : Int32))] (.int (0 : Int32))) := by
  obtain ⟨hw, hEL, ⟨zc, Scs, hzc⟩, ⟨fm, Sfm, hfm⟩, Sad, Shi, Slo⟩ := id cx
  have hSA := own_SA hw
  refine Met.of_walk (a0 := a0) #[vr a, vi (0 : Int32), vr d, vi (0 : Int32), vi (2 : Int32), un, un] (plainFor_of_name own_pn15) X00 hEL (fun m => by first | (simp [entryFrame, mkF, argsToLocals, Value.category]; done) | rfl) ?_
  intro p e s m below meth c vm hx hby hml hret hnm hC0 hW0
  have lt_a : h0.size > a := P0.lt
  have lt_d : h0.size > d := P1.lt
  have L3 := hC0.safe lt_d P3
  refine uKc 1 (0 : Int32) hx hby d0 rfl rfl ?_
  refine uSI 3 #[vr a, vi (0 : Int32), vr d, vi (0 : Int32), vi (2 : Int32), vi (0 : Int32), un] hx hby d1 rfl rfl ?_
  refine uI 5 hx hby d2 rfl rfl ?_
  refine uI 7 hx hby d3 rfl rfl ?_
  refine uNc 10 hx hby d4 rfl (tlt (by decide)).2.1 ?_
  refine uAN 11 hx hby d5 rfl rfl rfl ?_
  refine uIN 12 hx hby d6 rfl rfl ?_
  refine gldC hx P0 ⟨by decide, by decide⟩ (i := 0) rfl (v := (.int c0)) rfl 13 (hb hby d7) rfl ?_
  refine uSI 15 #[vr a, vi (0 : Int32), vr d, vi (0 : Int32), vi (2 : Int32), vi (0 : Int32), vi c0] hx hby d8 rfl rfl ?_
  refine uI 17 hx hby d9 rfl rfl ?_
  refine uKs 20 (255 : Int32) hx hby d10 rfl rfl ?_
  refine uNc 23 hx hby d11 rfl (tlt P5).2.2.2 ?_
  refine uI 25 hx hby d12 rfl rfl ?_
  exact gretI hx hret (hb hby d13) (by decide) (by decide) (fun vq Cq => ⟨rfl, (Keep.refl h0 [d]), P1⟩)
theorem own_c5_2_1 (l : Launch) (Z : State) (a0 : Array Value) (cx : Ctx Z a0) (ws : List Jvm.Cond) (a : Addr) (d : Addr) (kc : ClassId) (kd : ClassId) (c0 : Int32) (c1 : Int32) (vm0 : Vm) (h0 : Heap) (X00 : Ext Z.heap h0) (P0 : Arv Z h0 a kc .char (2 : Int32) [(.int c0), (.int c1)] (.int (0 : Int32))) (P1 : Arv Z h0 d kd .byte (2 : Int32) [(.int (0 : Int32)), (.int (0 : Int32))] (.int (0 : Int32))) (P2 : Z.heap.size ≤ d) (P3 : Safe Z consts_1 vm0 h0 d) (hne : (a ≠ d)) (P5 : (¬ (255 : Int32) < c0)) (P6 : ((255 : Int32) < c1)) :
    Met l mn14 y14_ 7 (some .int) ws ({ frames := 0, cells := 0, slots := 0, locals := 0 } : Room) Z consts_1 vm0 h0 #[(.ref a), (.int (0 : Int32)), (.ref d), (.int (0 : Int32)), (.int (2 : Int32))] (fun rv vm h => rv = some (.int (1 : Int32)) ∧ Keep h0 h [d] ∧ Arv Z h d kd .byte (2 : Int32) [(.int (c0.toInt8.toInt32)), (.int (0 : Int32))] (.int (0 : Int32))) := by
  obtain ⟨hw, hEL, ⟨zc, Scs, hzc⟩, ⟨fm, Sfm, hfm⟩, Sad, Shi, Slo⟩ := id cx
  have hSA := own_SA hw
  refine Met.of_walk (a0 := a0) #[vr a, vi (0 : Int32), vr d, vi (0 : Int32), vi (2 : Int32), un, un] (plainFor_of_name own_pn15) X00 hEL (fun m => by first | (simp [entryFrame, mkF, argsToLocals, Value.category]; done) | rfl) ?_
  intro p e s m below meth c vm hx hby hml hret hnm hC0 hW0
  have lt_a : h0.size > a := P0.lt
  have lt_d : h0.size > d := P1.lt
  have L3 := hC0.safe lt_d P3
  refine uKc 1 (0 : Int32) hx hby d0 rfl rfl ?_
  refine uSI 3 #[vr a, vi (0 : Int32), vr d, vi (0 : Int32), vi (2 : Int32), vi (0 : Int32), un] hx hby d1 rfl rfl ?_
  refine uI 5 hx hby d2 rfl rfl ?_
  refine uI 7 hx hby d3 rfl rfl ?_
  refine uNc 10 hx hby d4 rfl (tlt (by decide)).2.1 ?_
  refine uAN 11 hx hby d5 rfl rfl rfl ?_
  refine uIN 12 hx hby d6 rfl rfl ?_
  refine gldC hx P0 ⟨by decide, by decide⟩ (i := 0) rfl (v := (.int c0)) rfl 13 (hb hby d7) rfl ?_
  refine uSI 15 #[vr a, vi (0 : Int32), vr d, vi (0 : Int32), vi (2 : Int32), vi (0 : Int32), vi c0] hx hby d8 rfl rfl ?_
  refine uI 17 hx hby d9 rfl rfl ?_
  refine uKs 20 (255 : Int32) hx hby d10 rfl rfl ?_
  refine uYc 26 hx hby d11 (flt P5).2.2.2 (by decide) (by decide) ?_
  refine uAN 27 hx hby d16 rfl rfl rfl ?_
  refine uIN 28 hx hby d17 rfl rfl ?_
  refine uI 30 hx hby d18 rfl rfl ?_
  refine gs (mkF m 31 #[vr a, vi (0 : Int32), vr d, vi (0 : Int32), vi (2 : Int32), vi (0 : Int32), vi c0] [(.int (c0.toInt8.toInt32)), (.int (0 : Int32)), (.ref d)]) (fun _ _ A kq => XS.i2b A hx rfl (hb hby d19) rfl kq) ?_
  refine gstB hx P1 ⟨by decide, by decide⟩ (i := 0) rfl (Nat.le_of_ble_eq_true rfl) (y := (c0.toInt8.toInt32)) (narB _) P2 (fun _ => L3) 32 (hb hby d20) rfl ?_
  intro h1 W1 C1 V1
  have z1 := C1.2.1
  replace V1 : Arv Z h1 d kd .byte (2 : Int32) [(.int (c0.toInt8.toInt32)), (.int (0 : Int32))] (.int (0 : Int32)) := V1
  refine uInc 35 #[vr a, vi (1 : Int32), vr d, vi (0 : Int32), vi (2 : Int32), vi (0 : Int32), vi c0] hx hby d21 rfl rfl rfl ?_
  refine uInc 38 #[vr a, vi (1 : Int32), vr d, vi (1 : Int32), vi (2 : Int32), vi (0 : Int32), vi c0] hx hby d22 rfl rfl rfl ?_
  refine uInc 41 #[vr a, vi (1 : Int32), vr d, vi (1 : Int32), vi (2 : Int32), vi (1 : Int32), vi c0] hx hby d23 rfl rfl rfl ?_
  refine uG 3 hx hby d24 (by decide) (by decide) ?_
  refine uI 5 hx hby d2 rfl rfl ?_
  refine uI 7 hx hby d3 rfl rfl ?_
  refine uNc 10 hx hby d4 rfl (tlt (by decide)).2.1 ?_
  refine uAN 11 hx hby d5 rfl rfl rfl ?_
  refine uIN 12 hx hby d6 rfl rfl ?_
  have f2 := (P0.other W1 hne)
  refine gldC hx f2 ⟨by decide, by decide⟩ (i := 1) rfl (v := (.int c1)) rfl 13 (hb hby d7) rfl ?_
  refine uSI 15 #[vr a, vi (1 : Int32), vr d, vi (1 : Int32), vi (2 : Int32), vi (1 : Int32), vi c1] hx hby d8 rfl rfl ?_
  refine uI 17 hx hby d9 rfl rfl ?_
  refine uKs 20 (255 : Int32) hx hby d10 rfl rfl ?_
  refine uNc 23 hx hby d11 rfl (tlt P6).2.2.2 ?_
  refine uI 25 hx hby d12 rfl rfl ?_
  exact gretI hx hret (hb hby d13) (by decide) (by decide) (fun vq Cq => ⟨rfl, ((Keep.refl h0 [d]).wr W1 (Or.inl (List.mem_of_getElem? (i := 0) rfl))), V1⟩)
theorem own_c5_2_2 (l : Launch) (Z : State) (a0 : Array Value) (cx : Ctx Z a0) (ws : List Jvm.Cond) (a : Addr) (d : Addr) (kc : ClassId) (kd : ClassId) (c0 : Int32) (c1 : Int32) (vm0 : Vm) (h0 : Heap) (X00 : Ext Z.heap h0) (P0 : Arv Z h0 a kc .char (2 : Int32) [(.int c0), (.int c1)] (.int (0 : Int32))) (P1 : Arv Z h0 d kd .byte (2 : Int32) [(.int (0 : Int32)), (.int (0 : Int32))] (.int (0 : Int32))) (P2 : Z.heap.size ≤ d) (P3 : Safe Z consts_1 vm0 h0 d) (hne : (a ≠ d)) (P5 : (¬ (255 : Int32) < c0)) (P6 : (¬ (255 : Int32) < c1)) :
    Met l mn14 y14_ 7 (some .int) ws ({ frames := 0, cells := 0, slots := 0, locals := 0 } : Room) Z consts_1 vm0 h0 #[(.ref a), (.int (0 : Int32)), (.ref d), (.int (0 : Int32)), (.int (2 : Int32))] (fun rv vm h => rv = some (.int (2 : Int32)) ∧ Keep h0 h [d] ∧ Arv Z h d kd .byte (2 : Int32) [(.int (c0.toInt8.toInt32)), (.int (c1.toInt8.toInt32))] (.int (0 : Int32))) := by
  obtain ⟨hw, hEL, ⟨zc, Scs, hzc⟩, ⟨fm, Sfm, hfm⟩, Sad, Shi, Slo⟩ := id cx
  have hSA := own_SA hw
  refine Met.of_walk (a0 := a0) #[vr a, vi (0 : Int32), vr d, vi (0 : Int32), vi (2 : Int32), un, un] (plainFor_of_name own_pn15) X00 hEL (fun m => by first | (simp [entryFrame, mkF, argsToLocals, Value.category]; done) | rfl) ?_
  intro p e s m below meth c vm hx hby hml hret hnm hC0 hW0
  have lt_a : h0.size > a := P0.lt
  have lt_d : h0.size > d := P1.lt
  have L3 := hC0.safe lt_d P3
  refine uKc 1 (0 : Int32) hx hby d0 rfl rfl ?_
  refine uSI 3 #[vr a, vi (0 : Int32), vr d, vi (0 : Int32), vi (2 : Int32), vi (0 : Int32), un] hx hby d1 rfl rfl ?_
  refine uI 5 hx hby d2 rfl rfl ?_
  refine uI 7 hx hby d3 rfl rfl ?_
  refine uNc 10 hx hby d4 rfl (tlt (by decide)).2.1 ?_
  refine uAN 11 hx hby d5 rfl rfl rfl ?_
  refine uIN 12 hx hby d6 rfl rfl ?_
  refine gldC hx P0 ⟨by decide, by decide⟩ (i := 0) rfl (v := (.int c0)) rfl 13 (hb hby d7) rfl ?_
  refine uSI 15 #[vr a, vi (0 : Int32), vr d, vi (0 : Int32), vi (2 : Int32), vi (0 : Int32), vi c0] hx hby d8 rfl rfl ?_
  refine uI 17 hx hby d9 rfl rfl ?_
  refine uKs 20 (255 : Int32) hx hby d10 rfl rfl ?_
  refine uYc 26 hx hby d11 (flt P5).2.2.2 (by decide) (by decide) ?_
  refine uAN 27 hx hby d16 rfl rfl rfl ?_
  refine uIN 28 hx hby d17 rfl rfl ?_
  refine uI 30 hx hby d18 rfl rfl ?_
  refine gs (mkF m 31 #[vr a, vi (0 : Int32), vr d, vi (0 : Int32), vi (2 : Int32), vi (0 : Int32), vi c0] [(.int (c0.toInt8.toInt32)), (.int (0 : Int32)), (.ref d)]) (fun _ _ A kq => XS.i2b A hx rfl (hb hby d19) rfl kq) ?_
  refine gstB hx P1 ⟨by decide, by decide⟩ (i := 0) rfl (Nat.le_of_ble_eq_true rfl) (y := (c0.toInt8.toInt32)) (narB _) P2 (fun _ => L3) 32 (hb hby d20) rfl ?_
  intro h1 W1 C1 V1
  have z1 := C1.2.1
  replace V1 : Arv Z h1 d kd .byte (2 : Int32) [(.int (c0.toInt8.toInt32)), (.int (0 : Int32))] (.int (0 : Int32)) := V1
  refine uInc 35 #[vr a, vi (1 : Int32), vr d, vi (0 : Int32), vi (2 : Int32), vi (0 : Int32), vi c0] hx hby d21 rfl rfl rfl ?_
  refine uInc 38 #[vr a, vi (1 : Int32), vr d, vi (1 : Int32), vi (2 : Int32), vi (0 : Int32), vi c0] hx hby d22 rfl rfl rfl ?_
  refine uInc 41 #[vr a, vi (1 : Int32), vr d, vi (1 : Int32), vi (2 : Int32), vi (1 : Int32), vi c0] hx hby d23 rfl rfl rfl ?_
  refine uG 3 hx hby d24 (by decide) (by decide) ?_
  refine uI 5 hx hby d2 rfl rfl ?_
  refine uI 7 hx hby d3 rfl rfl ?_
  refine uNc 10 hx hby d4 rfl (tlt (by decide)).2.1 ?_
  refine uAN 11 hx hby d5 rfl rfl rfl ?_
  refine uIN 12 hx hby d6 rfl rfl ?_
  have f2 := (P0.other W1 hne)
  refine gldC hx f2 ⟨by decide, by decide⟩ (i := 1) rfl (v := (.int c1)) rfl 13 (hb hby d7) rfl ?_
  refine uSI 15 #[vr a, vi (1 : Int32), vr d, vi (1 : Int32), vi (2 : Int32), vi (1 : Int32), vi c1] hx hby d8 rfl rfl ?_
  refine uI 17 hx hby d9 rfl rfl ?_
  refine uKs 20 (255 : Int32) hx hby d10 rfl rfl ?_
  refine uYc 26 hx hby d11 (flt P6).2.2.2 (by decide) (by decide) ?_
  refine uAN 27 hx hby d16 rfl rfl rfl ?_
  refine uIN 28 hx hby d17 rfl rfl ?_
  refine uI 30 hx hby d18 rfl rfl ?_
  refine gs (mkF m 31 #[vr a, vi (1 : Int32), vr d, vi (1 : Int32), vi (2 : Int32), vi (1 : Int32), vi c1] [(.int (c1.toInt8.toInt32)), (.int (1 : Int32)), (.ref d)]) (fun _ _ A kq => XS.i2b A hx rfl (hb hby d19) rfl kq) ?_
  have f4 := (C1.safe (show h0.size > d by omega) L3)
  refine gstB hx V1 ⟨by decide, by decide⟩ (i := 1) rfl (Nat.le_of_ble_eq_true rfl) (y := (c1.toInt8.toInt32)) (narB _) P2 (fun _ => f4) 32 (hb hby d20) rfl ?_
  intro h3 W3 C3 V3
  have z3 := C3.2.1
  replace V3 : Arv Z h3 d kd .byte (2 : Int32) [(.int (c0.toInt8.toInt32)), (.int (c1.toInt8.toInt32))] (.int (0 : Int32)) := V3
  refine uInc 35 #[vr a, vi (2 : Int32), vr d, vi (1 : Int32), vi (2 : Int32), vi (1 : Int32), vi c1] hx hby d21 rfl rfl rfl ?_
  refine uInc 38 #[vr a, vi (2 : Int32), vr d, vi (2 : Int32), vi (2 : Int32), vi (1 : Int32), vi c1] hx hby d22 rfl rfl rfl ?_
  refine uInc 41 #[vr a, vi (2 : Int32), vr d, vi (2 : Int32), vi (2 : Int32), vi (2 : Int32), vi c1] hx hby d23 rfl rfl rfl ?_
  refine uG 3 hx hby d24 (by decide) (by decide) ?_
  refine uI 5 hx hby d2 rfl rfl ?_
  refine uI 7 hx hby d3 rfl rfl ?_
  refine uYc 44 hx hby d4 (flt (by decide)).2.1 (by decide) (by decide) ?_
  refine uI 46 hx hby d25 rfl rfl ?_
  exact gretI hx hret (hb hby d26) (by decide) (by decide) (fun vq Cq => ⟨rfl, (((Keep.refl h0 [d]).wr W1 (Or.inl (List.mem_of_getElem? (i := 0) rfl))).wr W3 (Or.inl (List.mem_of_getElem? (i := 0) rfl))), V3⟩)
theorem own_nbl2 (l : Launch) (Z : State) (a0 : Array Value) (cx : Ctx Z a0) (ws : List Jvm.Cond)  (vm0 : Vm) (h0 : Heap) (X00 : Ext Z.heap h0)  :
    Met l mn36 y16_ 1 (some .int) ws ({ frames := 0, cells := 0, slots := 0, locals := 0 } : Room) Z consts_1 vm0 h0 #[(.int (2 : Int32))] (fun rv vm h => rv = some (.int (4 : Int32)) ∧ h0 = h) := by
  obtain ⟨hw, hEL, ⟨zc, Scs, hzc⟩, ⟨fm, Sfm, hfm⟩, Sad, Shi, Slo⟩ := id cx
  have hSA := own_SA hw
  refine Met.of_walk (a0 := a0) #[vi (2 : Int32)] (plainFor_of_name own_pn15) X00 hEL (fun m => by first | (simp [entryFrame, mkF, argsToLocals, Value.category]; done) | rfl) ?_
  intro p e s m below meth c vm hx hby hml hret hnm hC0 hW0
  refine uIN 1 hx hby d27 rfl rfl ?_
  refine uY 12 hx hby d28 ((if0 _ _).trans (flt (by decide)).2.1) (by decide) (by decide) ?_
  refine uIN 13 hx hby d29 rfl rfl ?_
  refine gldcI hx (ow hw 87 rfl) 15 (hb hby d30) rfl ?_
  refine uYc 55 hx hby d31 (tlt (by decide)).1 (by decide) (by decide) ?_
  refine uIN 56 hx hby d32 rfl rfl ?_
  refine uKc 57 (1 : Int32) hx hby d33 rfl rfl ?_
  refine gs (mkF m 58 #[vi (2 : Int32)] [(.int (4 : Int32))]) (fun _ _ A kq => XS.ishl A hx rfl (hb hby d34) rfl kq) ?_
  exact gretI hx hret (hb hby d35) (by decide) (by decide) (fun vq Cq => ⟨rfl, rfl⟩)
theorem own_nbf2 (l : Launch) (Z : State) (a0 : Array Value) (cx : Ctx Z a0) (ws : List Jvm.Cond)  (vm0 : Vm) (h0 : Heap) (X00 : Ext Z.heap h0)  :
    Met l mn42 y15_ 1 (some (.array .byte)) ws ({ frames := 1, cells := 1, slots := 4, locals := 12 } : Room) Z consts_1 vm0 h0 #[(.int (2 : Int32))] (fun rv vm h => ∃ (r : Addr), ∃ (kb : ClassId), rv = some (.ref r) ∧ Keep h0 h [] ∧ h0.size ≤ r ∧ Z.heap.size ≤ r ∧ Safe Z consts_1 vm h r ∧ Arv Z h r kb .byte (4 : Int32) [(.int (0 : Int32)), (.int (0 : Int32)), (.int (0 : Int32)), (.int (0 : Int32))] (.int (0 : Int32))) := by
  obtain ⟨hw, hEL, ⟨zc, Scs, hzc⟩, ⟨fm, Sfm, hfm⟩, Sad, Shi, Slo⟩ := id cx
  have hSA := own_SA hw
  refine Met.of_walk (a0 := a0) #[vi (2 : Int32)] (plainFor_of_name own_pn15) X00 hEL (fun m => by first | (simp [entryFrame, mkF, argsToLocals, Value.category]; done) | rfl) ?_
  intro p e s m below meth c vm hx hby hml hret hnm hC0 hW0
  refine uIN 1 hx hby d37 rfl rfl ?_
  refine ginfo fun _ _ O1 => ?_
  refine gcallS (y := mn36) hx (ow hw 84 rfl) (ow hw 85 rfl) (ow hw 73 rfl) (ow hw 86 rfl) (by decide) (fun hZ H hEL => Pay.of_met (W := 0) (own_nbl2 l Z a0 cx []  vm h0 O1 ) (ow hw 86 rfl) (ow hw 73 rfl) (by decide) (by decide) hZ H hEL) 4 (argsL := [(.int (2 : Int32))]) (rest := []) (lenOf own_pd39 rfl) rfl rfl (Nat.le_of_eq rfl) (by rw [hml]; rfl) (hb hby d38) rfl (by decide) (by decide) ?_
  rintro _ vm1 h1 C1 ⟨rfl, rfl⟩
  have z1 := C1.2.1
  refine gat1 ?_
  refine gnewPE hx (ow hw 29 rfl) (n := (4 : Int32)) (by decide) (cap := 4) (by decide) (by decide) (ad := "[B") (by decide) 6 (hb hby d40) rfl (by decide) (by decide) ?_
  intro b2 h2 k2 g2 E2 C2 V2 A2 n2 L2
  have z2 := C2.2.1
  have V2 : Arv Z h2 b2 k2 .byte (4 : Int32) [(.int (0 : Int32)), (.int (0 : Int32)), (.int (0 : Int32)), (.int (0 : Int32))] (.int (0 : Int32)) := V2.pad (pad_rep [] (.int (0 : Int32)) 4)
  have lt_b2 : h2.size > b2 := V2.lt
  exact gretA hx hret rfl rfl (hb hby d41) (by decide) (by decide) (fun vq Cq => ⟨b2, k2, rfl, ((Keep.refl h0 []).ext E2), (by omega), n2, (Cq.safe (show h2.size > b2 by omega) L2), V2⟩)
theorem own_pc2_0 (l : Launch) (Z : State) (a0 : Array Value) (cx : Ctx Z a0) (ws : List Jvm.Cond) (a : Addr) (ch : Int32) (ka : ClassId) (u0 : Value) (u1 : Value) (u2 : Value) (u3 : Value) (vm0 : Vm) (h0 : Heap) (X00 : Ext Z.heap h0) (P0 : Arv Z h0 a ka .byte (4 : Int32) [u0, u1, u2, u3] (.int (0 : Int32))) (P1 : Z.heap.size ≤ a) (P2 : Safe Z consts_1 vm0 h0 a) :
    Met l mn65 y17_ 3 none ws ({ frames := 0, cells := 0, slots := 0, locals := 0 } : Room) Z consts_1 vm0 h0 #[(.ref a), (.int (0 : Int32)), (.int ch)] (fun rv vm h => rv = none ∧ Keep h0 h [a] ∧ Arv Z h a ka .byte (4 : Int32) [(.int ((ch >>> ((0 : Int32) &&& 31)).toInt8.toInt32)), (.int ((ch >>> ((8 : Int32) &&& 31)).toInt8.toInt32)), u2, u3] (.int (0 : Int32)) ∧ Safe Z consts_1 vm h a) := by
  obtain ⟨hw, hEL, ⟨zc, Scs, hzc⟩, ⟨fm, Sfm, hfm⟩, Sad, Shi, Slo⟩ := id cx
  have hSA := own_SA hw
  refine Met.of_walk (a0 := a0) #[vr a, vi (0 : Int32), vi ch] (plainFor_of_name own_pn15) X00 hEL (fun m => by first | (simp [entryFrame, mkF, argsToLocals, Value.category]; done) | rfl) ?_
  intro p e s m below meth c vm hx hby hml hret hnm hC0 hW0
  have lt_a : h0.size > a := P0.lt
  have L2 := hC0.safe lt_a P2
  refine ggetS (host := "") hx (Or.inl (ow hw 91 rfl)) Via.refl Sad 3 (hb hby d43) rfl ?_
  refine uY 28 hx hby d44 ((if0 _ _).trans (feq (by decide)).2) (by decide) (by decide) ?_
  refine uIN 29 hx hby d45 rfl rfl ?_
  refine uKc 30 (1 : Int32) hx hby d46 rfl rfl ?_
  refine gs (mkF m 31 #[vr a, vi (0 : Int32), vi ch] [(.int (0 : Int32))]) (fun _ _ A kq => XS.ishl A hx rfl (hb hby d47) rfl kq) ?_
  refine uSIN 32 #[vr a, vi (0 : Int32), vi ch] hx hby d48 rfl rfl ?_
  refine uAN 33 hx hby d49 rfl rfl rfl ?_
  refine uIN 34 hx hby d50 rfl rfl ?_
  refine uInc 37 #[vr a, vi (1 : Int32), vi ch] hx hby d51 rfl rfl rfl ?_
  refine uIN 38 hx hby d52 rfl rfl ?_
  refine ggetS (host := "") hx (Or.inl (ow hw 92 rfl)) Via.refl Shi 41 (hb hby d53) rfl ?_
  refine gs (mkF m 42 #[vr a, vi (1 : Int32), vi ch] [(.int (ch >>> ((0 : Int32) &&& 31))), (.int (0 : Int32)), (.ref a)]) (fun _ _ A kq => XS.ishr A hx rfl (hb hby d54) rfl kq) ?_
  refine gs (mkF m 43 #[vr a, vi (1 : Int32), vi ch] [(.int ((ch >>> ((0 : Int32) &&& 31)).toInt8.toInt32)), (.int (0 : Int32)), (.ref a)]) (fun _ _ A kq => XS.i2b A hx rfl (hb hby d55) rfl kq) ?_
  refine gstB hx P0 ⟨by decide, by decide⟩ (i := 0) rfl (Nat.le_of_ble_eq_true rfl) (y := ((ch >>> ((0 : Int32) &&& 31)).toInt8.toInt32)) (narB _) P1 (fun _ => L2) 44 (hb hby d56) rfl ?_
  intro h1 W1 C1 V1
  have z1 := C1.2.1
  replace V1 : Arv Z h1 a ka .byte (4 : Int32) [(.int ((ch >>> ((0 : Int32) &&& 31)).toInt8.toInt32)), u1, u2, u3] (.int (0 : Int32)) := V1
  refine uAN 45 hx hby d57 rfl rfl rfl ?_
  refine uIN 46 hx hby d58 rfl rfl ?_
  refine uIN 47 hx hby d59 rfl rfl ?_
  refine ggetS (host := "") hx (Or.inl (ow hw 93 rfl)) Via.refl Slo 50 (hb hby d60) rfl ?_
  refine gs (mkF m 51 #[vr a, vi (1 : Int32), vi ch] [(.int (ch >>> ((8 : Int32) &&& 31))), (.int (1 : Int32)), (.ref a)]) (fun _ _ A kq => XS.ishr A hx rfl (hb hby d61) rfl kq) ?_
  refine gs (mkF m 52 #[vr a, vi (1 : Int32), vi ch] [(.int ((ch >>> ((8 : Int32) &&& 31)).toInt8.toInt32)), (.int (1 : Int32)), (.ref a)]) (fun _ _ A kq => XS.i2b A hx rfl (hb hby d62) rfl kq) ?_
  have f3 := (C1.safe (show h0.size > a by omega) L2)
  refine gstB hx V1 ⟨by decide, by decide⟩ (i := 1) rfl (Nat.le_of_ble_eq_true rfl) (y := ((ch >>> ((8 : Int32) &&& 31)).toInt8.toInt32)) (narB _) P1 (fun _ => f3) 53 (hb hby d63) rfl ?_
  intro h2 W2 C2 V2
  have z2 := C2.2.1
  replace V2 : Arv Z h2 a ka .byte (4 : Int32) [(.int ((ch >>> ((0 : Int32) &&& 31)).toInt8.toInt32)), (.int ((ch >>> ((8 : Int32) &&& 31)).toInt8.toInt32)), u2, u3] (.int (0 : Int32)) := V2
  have f5 := (C2.safe (show h1.size > a by omega) f3)
  exact gretV hx hret (hb hby d64) (by decide) (by decide) (fun vq Cq => ⟨rfl, (((Keep.refl h0 [a]).wr W1 (Or.inl (List.mem_of_getElem? (i := 0) rfl))).wr W2 (Or.inl (List.mem_of_getElem? (i := 0) rfl))), V2, (Cq.safe (show h2.size > a by omega) f5)⟩)
theorem own_gc2_0 (l : Launch) (Z : State) (a0 : Array Value) (cx : Ctx Z a0) (ws : List Jvm.Cond) (a : Addr) (ka : ClassId) (b0 : Int32) (b1 : Int32) (u2 : Value) (u3 : Value) (vm0 : Vm) (h0 : Heap) (X00 : Ext Z.heap h0) (P0 : Arv Z h0 a ka .byte (4 : Int32) [(.int b0), (.int b1), u2, u3] (.int (0 : Int32))) :
    Met l mn90 y18_ 2 (some .char) ws ({ frames := 0, cells := 0, slots := 0, locals := 0 } : Room) Z consts_1 vm0 h0 #[(.ref a), (.int (0 : Int32))] (fun rv vm h => rv = some (.int (StrChars.pairCh b0 b1)) ∧ h0 = h) := by
  obtain ⟨hw, hEL, ⟨zc, Scs, hzc⟩, ⟨fm, Sfm, hfm⟩, Sad, Shi, Slo⟩ := id cx
  have hSA := own_SA hw
  refine Met.of_walk (a0 := a0) #[vr a, vi (0 : Int32)] (plainFor_of_name own_pn15) X00 hEL (fun m => by first | (simp [entryFrame, mkF, argsToLocals, Value.category]; done) | rfl) ?_
  intro p e s m below meth c vm hx hby hml hret hnm hC0 hW0
  have lt_a : h0.size > a := P0.lt
  refine ggetS (host := "") hx (Or.inl (ow hw 91 rfl)) Via.refl Sad 3 (hb hby d66) rfl ?_
  refine uY 28 hx hby d67 ((if0 _ _).trans (feq (by decide)).2) (by decide) (by decide) ?_
  refine uIN 29 hx hby d68 rfl rfl ?_
  refine uKc 30 (1 : Int32) hx hby d69 rfl rfl ?_
  refine gs (mkF m 31 #[vr a, vi (0 : Int32)] [(.int (0 : Int32))]) (fun _ _ A kq => XS.ishl A hx rfl (hb hby d70) rfl kq) ?_
  refine uSIN 32 #[vr a, vi (0 : Int32)] hx hby d71 rfl rfl ?_
  refine uAN 33 hx hby d72 rfl rfl rfl ?_
  refine uIN 34 hx hby d73 rfl rfl ?_
  refine uInc 37 #[vr a, vi (1 : Int32)] hx hby d74 rfl rfl rfl ?_
  refine gldB hx P0 ⟨by decide, by decide⟩ (i := 0) rfl (v := (.int b0)) rfl 38 (hb hby d75) rfl ?_
  refine uKs 41 (255 : Int32) hx hby d76 rfl rfl ?_
  refine uiand 42 (b0 &&& (255 : Int32)) hx hby d77 rfl rfl ?_
  refine ggetS (host := "") hx (Or.inl (ow hw 92 rfl)) Via.refl Shi 45 (hb hby d78) rfl ?_
  refine gs (mkF m 46 #[vr a, vi (1 : Int32)] [(.int ((b0 &&& (255 : Int32)) <<< ((0 : Int32) &&& 31)))]) (fun _ _ A kq => XS.ishl A hx rfl (hb hby d79) rfl kq) ?_
  refine uAN 47 hx hby d80 rfl rfl rfl ?_
  refine uIN 48 hx hby d81 rfl rfl ?_
  refine gldB hx P0 ⟨by decide, by decide⟩ (i := 1) rfl (v := (.int b1)) rfl 49 (hb hby d82) rfl ?_
  refine uKs 52 (255 : Int32) hx hby d83 rfl rfl ?_
  refine uiand 53 (b1 &&& (255 : Int32)) hx hby d84 rfl rfl ?_
  refine ggetS (host := "") hx (Or.inl (ow hw 93 rfl)) Via.refl Slo 56 (hb hby d85) rfl ?_
  refine gs (mkF m 57 #[vr a, vi (1 : Int32)] [(.int ((b1 &&& (255 : Int32)) <<< ((8 : Int32) &&& 31))), (.int ((b0 &&& (255 : Int32)) <<< ((0 : Int32) &&& 31)))]) (fun _ _ A kq => XS.ishl A hx rfl (hb hby d86) rfl kq) ?_
  refine uior 58 (((b0 &&& (255 : Int32)) <<< ((0 : Int32) &&& 31)) ||| ((b1 &&& (255 : Int32)) <<< ((8 : Int32) &&& 31))) hx hby d87 rfl rfl ?_
  refine gi2c hx rfl 59 (hb hby d88) rfl ?_
  exact gretN (t := .char) hx hret (by simp) (hb hby d89) (by decide) (by decide) (fun vq Cq => ⟨(congrArg (fun z => some (Value.int z)) (narC2 _)), rfl⟩)
theorem own_pc2_1 (l : Launch) (Z : State) (a0 : Array Value) (cx : Ctx Z a0) (ws : List Jvm.Cond) (a : Addr) (ch : Int32) (ka : ClassId) (u0 : Value) (u1 : Value) (u2 : Value) (u3 : Value) (vm0 : Vm) (h0 : Heap) (X00 : Ext Z.heap h0) (P0 : Arv Z h0 a ka .byte (4 : Int32) [u0, u1, u2, u3] (.int (0 : Int32))) (P1 : Z.heap.size ≤ a) (P2 : Safe Z consts_1 vm0 h0 a) :
    Met l mn65 y17_ 3 none ws ({ frames := 0, cells := 0, slots := 0, locals := 0 } : Room) Z consts_1 vm0 h0 #[(.ref a), (.int (1 : Int32)), (.int ch)] (fun rv vm h => rv = none ∧ Keep h0 h [a] ∧ Arv Z h a ka .byte (4 : Int32) [u0, u1, (.int ((ch >>> ((0 : Int32) &&& 31)).toInt8.toInt32)), (.int ((ch >>> ((8 : Int32) &&& 31)).toInt8.toInt32))] (.int (0 : Int32)) ∧ Safe Z consts_1 vm h a) := by
  obtain ⟨hw, hEL, ⟨zc, Scs, hzc⟩, ⟨fm, Sfm, hfm⟩, Sad, Shi, Slo⟩ := id cx
  have hSA := own_SA hw
  refine Met.of_walk (a0 := a0) #[vr a, vi (1 : Int32), vi ch] (plainFor_of_name own_pn15) X00 hEL (fun m => by first | (simp [entryFrame, mkF, argsToLocals, Value.category]; done) | rfl) ?_
  intro p e s m below meth c vm hx hby hml hret hnm hC0 hW0
  have lt_a : h0.size > a := P0.lt
  have L2 := hC0.safe lt_a P2
  refine ggetS (host := "") hx (Or.inl (ow hw 91 rfl)) Via.refl Sad 3 (hb hby d43) rfl ?_
  refine uY 28 hx hby d44 ((if0 _ _).trans (feq (by decide)).2) (by decide) (by decide) ?_
  refine uIN 29 hx hby d45 rfl rfl ?_
  refine uKc 30 (1 : Int32) hx hby d46 rfl rfl ?_
  refine gs (mkF m 31 #[vr a, vi (1 : Int32), vi ch] [(.int (2 : Int32))]) (fun _ _ A kq => XS.ishl A hx rfl (hb hby d47) rfl kq) ?_
  refine uSIN 32 #[vr a, vi (2 : Int32), vi ch] hx hby d48 rfl rfl ?_
  refine uAN 33 hx hby d49 rfl rfl rfl ?_
  refine uIN 34 hx hby d50 rfl rfl ?_
  refine uInc 37 #[vr a, vi (3 : Int32), vi ch] hx hby d51 rfl rfl rfl ?_
  refine uIN 38 hx hby d52 rfl rfl ?_
  refine ggetS (host := "") hx (Or.inl (ow hw 92 rfl)) Via.refl Shi 41 (hb hby d53) rfl ?_
  refine gs (mkF m 42 #[vr a, vi (3 : Int32), vi ch] [(.int (ch >>> ((0 : Int32) &&& 31))), (.int (2 : Int32)), (.ref a)]) (fun _ _ A kq => XS.ishr A hx rfl (hb hby d54) rfl kq) ?_
  refine gs (mkF m 43 #[vr a, vi (3 : Int32), vi ch] [(.int ((ch >>> ((0 : Int32) &&& 31)).toInt8.toInt32)), (.int (2 : Int32)), (.ref a)]) (fun _ _ A kq => XS.i2b A hx rfl (hb hby d55) rfl kq) ?_
  refine gstB hx P0 ⟨by decide, by decide⟩ (i := 2) rfl (Nat.le_of_ble_eq_true rfl) (y := ((ch >>> ((0 : Int32) &&& 31)).toInt8.toInt32)) (narB _) P1 (fun _ => L2) 44 (hb hby d56) rfl ?_
  intro h1 W1 C1 V1
  have z1 := C1.2.1
  replace V1 : Arv Z h1 a ka .byte (4 : Int32) [u0, u1, (.int ((ch >>> ((0 : Int32) &&& 31)).toInt8.toInt32)), u3] (.int (0 : Int32)) := V1
  refine uAN 45 hx hby d57 rfl rfl rfl ?_
  refine uIN 46 hx hby d58 rfl rfl ?_
  refine uIN 47 hx hby d59 rfl rfl ?_
  refine ggetS (host := "") hx (Or.inl (ow hw 93 rfl)) Via.refl Slo 50 (hb hby d60) rfl ?_
  refine gs (mkF m 51 #[vr a, vi (3 : Int32), vi ch] [(.int (ch >>> ((8 : Int32) &&& 31))), (.int (3 : Int32)), (.ref a)]) (fun _ _ A kq => XS.ishr A hx rfl (hb hby d61) rfl kq) ?_
  refine gs (mkF m 52 #[vr a, vi (3 : Int32), vi ch] [(.int ((ch >>> ((8 : Int32) &&& 31)).toInt8.toInt32)), (.int (3 : Int32)), (.ref a)]) (fun _ _ A kq => XS.i2b A hx rfl (hb hby d62) rfl kq) ?_
  have f3 := (C1.safe (show h0.size > a by omega) L2)
  refine gstB hx V1 ⟨by decide, by decide⟩ (i := 3) rfl (Nat.le_of_ble_eq_true rfl) (y := ((ch >>> ((8 : Int32) &&& 31)).toInt8.toInt32)) (narB _) P1 (fun _ => f3) 53 (hb hby d63) rfl ?_
  intro h2 W2 C2 V2
  have z2 := C2.2.1
  replace V2 : Arv Z h2 a ka .byte (4 : Int32) [u0, u1, (.int ((ch >>> ((0 : Int32) &&& 31)).toInt8.toInt32)), (.int ((ch >>> ((8 : Int32) &&& 31)).toInt8.toInt32))] (.int (0 : Int32)) := V2
  have f5 := (C2.safe (show h1.size > a by omega) f3)
  exact gretV hx hret (hb hby d64) (by decide) (by decide) (fun vq Cq => ⟨rfl, (((Keep.refl h0 [a]).wr W1 (Or.inl (List.mem_of_getElem? (i := 0) rfl))).wr W2 (Or.inl (List.mem_of_getElem? (i := 0) rfl))), V2, (Cq.safe (show h2.size > a by omega) f5)⟩)
theorem own_gc2_1 (l : Launch) (Z : State) (a0 : Array Value) (cx : Ctx Z a0) (ws : List Jvm.Cond) (a : Addr) (ka : ClassId) (b0 : Int32) (b1 : Int32) (u0 : Value) (u1 : Value) (vm0 : Vm) (h0 : Heap) (X00 : Ext Z.heap h0) (P0 : Arv Z h0 a ka .byte (4 : Int32) [u0, u1, (.int b0), (.int b1)] (.int (0 : Int32))) :
    Met l mn90 y18_ 2 (some .char) ws ({ frames := 0, cells := 0, slots := 0, locals := 0 } : Room) Z consts_1 vm0 h0 #[(.ref a), (.int (1 : Int32))] (fun rv vm h => rv = some (.int (StrChars.pairCh b0 b1)) ∧ h0 = h) := by
  obtain ⟨hw, hEL, ⟨zc, Scs, hzc⟩, ⟨fm, Sfm, hfm⟩, Sad, Shi, Slo⟩ := id cx
  have hSA := own_SA hw
  refine Met.of_walk (a0 := a0) #[vr a, vi (1 : Int32)] (plainFor_of_name own_pn15) X00 hEL (fun m => by first | (simp [entryFrame, mkF, argsToLocals, Value.category]; done) | rfl) ?_
  intro p e s m below meth c vm hx hby hml hret hnm hC0 hW0
  have lt_a : h0.size > a := P0.lt
  refine ggetS (host := "") hx (Or.inl (ow hw 91 rfl)) Via.refl Sad 3 (hb hby d66) rfl ?_
  refine uY 28 hx hby d67 ((if0 _ _).trans (feq (by decide)).2) (by decide) (by decide) ?_
  refine uIN 29 hx hby d68 rfl rfl ?_
  refine uKc 30 (1 : Int32) hx hby d69 rfl rfl ?_
  refine gs (mkF m 31 #[vr a, vi (1 : Int32)] [(.int (2 : Int32))]) (fun _ _ A kq => XS.ishl A hx rfl (hb hby d70) rfl kq) ?_
  refine uSIN 32 #[vr a, vi (2 : Int32)] hx hby d71 rfl rfl ?_
  refine uAN 33 hx hby d72 rfl rfl rfl ?_
  refine uIN 34 hx hby d73 rfl rfl ?_
  refine uInc 37 #[vr a, vi (3 : Int32)] hx hby d74 rfl rfl rfl ?_
  refine gldB hx P0 ⟨by decide, by decide⟩ (i := 2) rfl (v := (.int b0)) rfl 38 (hb hby d75) rfl ?_
  refine uKs 41 (255 : Int32) hx hby d76 rfl rfl ?_
  refine uiand 42 (b0 &&& (255 : Int32)) hx hby d77 rfl rfl ?_
  refine ggetS (host := "") hx (Or.inl (ow hw 92 rfl)) Via.refl Shi 45 (hb hby d78) rfl ?_
  refine gs (mkF m 46 #[vr a, vi (3 : Int32)] [(.int ((b0 &&& (255 : Int32)) <<< ((0 : Int32) &&& 31)))]) (fun _ _ A kq => XS.ishl A hx rfl (hb hby d79) rfl kq) ?_
  refine uAN 47 hx hby d80 rfl rfl rfl ?_
  refine uIN 48 hx hby d81 rfl rfl ?_
  refine gldB hx P0 ⟨by decide, by decide⟩ (i := 3) rfl (v := (.int b1)) rfl 49 (hb hby d82) rfl ?_
  refine uKs 52 (255 : Int32) hx hby d83 rfl rfl ?_
  refine uiand 53 (b1 &&& (255 : Int32)) hx hby d84 rfl rfl ?_
  refine ggetS (host := "") hx (Or.inl (ow hw 93 rfl)) Via.refl Slo 56 (hb hby d85) rfl ?_
  refine gs (mkF m 57 #[vr a, vi (3 : Int32)] [(.int ((b1 &&& (255 : Int32)) <<< ((8 : Int32) &&& 31))), (.int ((b0 &&& (255 : Int32)) <<< ((0 : Int32) &&& 31)))]) (fun _ _ A kq => XS.ishl A hx rfl (hb hby d86) rfl kq) ?_
  refine uior 58 (((b0 &&& (255 : Int32)) <<< ((0 : Int32) &&& 31)) ||| ((b1 &&& (255 : Int32)) <<< ((8 : Int32) &&& 31))) hx hby d87 rfl rfl ?_
  refine gi2c hx rfl 59 (hb hby d88) rfl ?_
  exact gretN (t := .char) hx hret (by simp) (hb hby d89) (by decide) (by decide) (fun vq Cq => ⟨(congrArg (fun z => some (Value.int z)) (narC2 _)), rfl⟩)
theorem own_tb2 (l : Launch) (Z : State) (a0 : Array Value) (cx : Ctx Z a0) (ws : List Jvm.Cond) (a : Addr) (kc : ClassId) (c0 : Int32) (c1 : Int32) (vm0 : Vm) (h0 : Heap) (X00 : Ext Z.heap h0) (P0 : Arv Z h0 a kc .char (2 : Int32) [(.int c0), (.int c1)] (.int (0 : Int32))) :
    Met l mn112 y11_ 5 (some (.array .byte)) ws ({ frames := 2, cells := 1, slots := 4, locals := 24 } : Room) Z consts_1 vm0 h0 #[(.ref a), (.int (0 : Int32)), (.int (2 : Int32))] (fun rv vm h => ∃ (r : Addr), ∃ (kb : ClassId), rv = some (.ref r) ∧ Keep h0 h [] ∧ h0.size ≤ r ∧ Arv Z h r kb .byte (4 : Int32) [(.int ((c0 >>> ((0 : Int32) &&& 31)).toInt8.toInt32)), (.int ((c0 >>> ((8 : Int32) &&& 31)).toInt8.toInt32)), (.int ((c1 >>> ((0 : Int32) &&& 31)).toInt8.toInt32)), (.int ((c1 >>> ((8 : Int32) &&& 31)).toInt8.toInt32))] (.int (0 : Int32))) := by
  obtain ⟨hw, hEL, ⟨zc, Scs, hzc⟩, ⟨fm, Sfm, hfm⟩, Sad, Shi, Slo⟩ := id cx
  have hSA := own_SA hw
  refine Met.of_walk (a0 := a0) #[vr a, vi (0 : Int32), vi (2 : Int32), un, un] (plainFor_of_name own_pn15) X00 hEL (fun m => by first | (simp [entryFrame, mkF, argsToLocals, Value.category]; done) | rfl) ?_
  intro p e s m below meth c vm hx hby hml hret hnm hC0 hW0
  have lt_a : h0.size > a := P0.lt
  refine uIN 1 hx hby d91 rfl rfl ?_
  refine ginfo fun _ _ O1 => ?_
  refine gcallS (y := mn42) hx (ow hw 81 rfl) (ow hw 82 rfl) (ow hw 73 rfl) (ow hw 83 rfl) (by decide) (fun hZ H hEL => Pay.of_met (W := 0) (own_nbf2 l Z a0 cx []  vm h0 O1 ) (ow hw 83 rfl) (ow hw 73 rfl) (by decide) (by decide) hZ H hEL) 4 (argsL := [(.int (2 : Int32))]) (rest := []) (lenOf own_pd93 rfl) rfl rfl (Nat.le_of_eq rfl) (by rw [hml]; rfl) (hb hby d92) rfl (by decide) (by decide) ?_
  rintro _ vm1 h1 C1 ⟨r1, kb1, rfl, K1, q1_0, q1_1, q1_2, q1_3⟩
  have z1 := C1.2.1
  have lt_r1 : h1.size > r1 := q1_3.lt
  refine gat1 ?_
  refine uSAN 5 #[vr a, vi (0 : Int32), vi (2 : Int32), vr r1, un] hx hby d94 rfl rfl rfl ?_
  refine uKc 6 (0 : Int32) hx hby d95 rfl rfl ?_
  refine uSI 8 #[vr a, vi (0 : Int32), vi (2 : Int32), vr r1, vi (0 : Int32)] hx hby d96 rfl rfl ?_
  refine uI 10 hx hby d97 rfl rfl ?_
  refine uIN 11 hx hby d98 rfl rfl ?_
  refine uNc 14 hx hby d99 rfl (tlt (by decide)).2.1 ?_
  refine uAN 15 hx hby d100 rfl rfl rfl ?_
  refine uI 17 hx hby d101 rfl rfl ?_
  refine uAN 18 hx hby d102 rfl rfl rfl ?_
  refine uIN 19 hx hby d103 rfl rfl ?_
  have f2 := (P0.keep K1 nin0)
  refine gldC hx f2 ⟨by decide, by decide⟩ (i := 0) rfl (v := (.int c0)) rfl 20 (hb hby d104) rfl ?_
  refine ginfo fun _ _ O3 => ?_
  refine gcallS (y := mn65) hx (ow hw 88 rfl) (ow hw 89 rfl) (ow hw 73 rfl) (ow hw 90 rfl) (by decide) (fun hZ H hEL => Pay.of_met (W := 0) (own_pc2_0 l Z a0 cx [] (r1) (c0) (kb1) ((.int (0 : Int32))) ((.int (0 : Int32))) ((.int (0 : Int32))) ((.int (0 : Int32))) vm1 h1 O3 q1_3 q1_1 q1_2) (ow hw 90 rfl) (ow hw 73 rfl) (by decide) (by decide) hZ H hEL) 23 (argsL := [(.ref r1), (.int (0 : Int32)), (.int c0)]) (rest := []) (lenOf own_pd106 rfl) rfl rfl (Nat.le_of_eq rfl) (by rw [hml]; rfl) (hb hby d105) rfl (by decide) (by decide) ?_
  rintro _ vm3 h3 C3 ⟨rfl, K3, q3_0, q3_1⟩
  have z3 := C3.2.1
  refine gat0 ?_
  refine uInc 26 #[vr a, vi (1 : Int32), vi (2 : Int32), vr r1, vi (0 : Int32)] hx hby d107 rfl rfl rfl ?_
  refine uInc 29 #[vr a, vi (1 : Int32), vi (2 : Int32), vr r1, vi (1 : Int32)] hx hby d108 rfl rfl rfl ?_
  refine uG 8 hx hby d109 (by decide) (by decide) ?_
  refine uI 10 hx hby d97 rfl rfl ?_
  refine uIN 11 hx hby d98 rfl rfl ?_
  refine uNc 14 hx hby d99 rfl (tlt (by decide)).2.1 ?_
  refine uAN 15 hx hby d100 rfl rfl rfl ?_
  refine uI 17 hx hby d101 rfl rfl ?_
  refine uAN 18 hx hby d102 rfl rfl rfl ?_
  refine uIN 19 hx hby d103 rfl rfl ?_
  have f4 := (f2.keep K3 (ninS (Nat.ne_of_lt (by omega)) nin0))
  refine gldC hx f4 ⟨by decide, by decide⟩ (i := 1) rfl (v := (.int c1)) rfl 20 (hb hby d104) rfl ?_
  refine ginfo fun _ _ O5 => ?_
  refine gcallS (y := mn65) hx (ow hw 88 rfl) (ow hw 89 rfl) (ow hw 73 rfl) (ow hw 90 rfl) (by decide) (fun hZ H hEL => Pay.of_met (W := 0) (own_pc2_1 l Z a0 cx [] (r1) (c1) (kb1) ((.int ((c0 >>> ((0 : Int32) &&& 31)).toInt8.toInt32))) ((.int ((c0 >>> ((8 : Int32) &&& 31)).toInt8.toInt32))) ((.int (0 : Int32))) ((.int (0 : Int32))) vm3 h3 O5 q3_0 q1_1 q3_1) (ow hw 90 rfl) (ow hw 73 rfl) (by decide) (by decide) hZ H hEL) 23 (argsL := [(.ref r1), (.int (1 : Int32)), (.int c1)]) (rest := []) (lenOf own_pd106 rfl) rfl rfl (Nat.le_of_eq rfl) (by rw [hml]; rfl) (hb hby d105) rfl (by decide) (by decide) ?_
  rintro _ vm5 h5 C5 ⟨rfl, K5, q5_0, q5_1⟩
  have z5 := C5.2.1
  refine gat0 ?_
  refine uInc 26 #[vr a, vi (2 : Int32), vi (2 : Int32), vr r1, vi (1 : Int32)] hx hby d107 rfl rfl rfl ?_
  refine uInc 29 #[vr a, vi (2 : Int32), vi (2 : Int32), vr r1, vi (2 : Int32)] hx hby d108 rfl rfl rfl ?_
  refine uG 8 hx hby d109 (by decide) (by decide) ?_
  refine uI 10 hx hby d97 rfl rfl ?_
  refine uIN 11 hx hby d98 rfl rfl ?_
  refine uYc 32 hx hby d99 (flt (by decide)).2.1 (by decide) (by decide) ?_
  refine uAN 33 hx hby d110 rfl rfl rfl ?_
  exact gretA hx hret rfl rfl (hb hby d111) (by decide) (by decide) (fun vq Cq => ⟨r1, kb1, rfl, ((((Keep.refl h0 []).trans K1 all0).trans K3 (allS (Or.inr (by omega)) all0)).trans K5 (allS (Or.inr (by omega)) all0)), (by omega), q5_0⟩)
theorem own_c3_2_0 (l : Launch) (Z : State) (a0 : Array Value) (cx : Ctx Z a0) (ws : List Jvm.Cond) (a : Addr) (kc : ClassId) (c0 : Int32) (c1 : Int32) (vm0 : Vm) (h0 : Heap) (X00 : Ext Z.heap h0) (P0 : Arv Z h0 a kc .char (2 : Int32) [(.int c0), (.int c1)] (.int (0 : Int32))) (P1 : ((255 : Int32) < c0)) (hB : (¬ c0 < 0 ∧ ¬ (65535 : Int32) < c0)) :
    Met l mn141 y13_ 6 (some (.array .byte)) ws ({ frames := 3, cells := 2, slots := 6, locals := 40 } : Room) Z consts_1 vm0 h0 #[(.ref a), (.int (0 : Int32)), (.int (2 : Int32))] (fun rv vm h => ∃ (r : Addr), ∃ (kb : ClassId), rv = some (.ref r) ∧ Keep h0 h [] ∧ h0.size ≤ r ∧ Arv Z h r kb .byte (4 : Int32) [(.int ((c0 >>> ((0 : Int32) &&& 31)).toInt8.toInt32)), (.int ((c0 >>> ((8 : Int32) &&& 31)).toInt8.toInt32)), (.int ((c1 >>> ((0 : Int32) &&& 31)).toInt8.toInt32)), (.int ((c1 >>> ((8 : Int32) &&& 31)).toInt8.toInt32))] (.int (0 : Int32))) := by
  obtain ⟨hw, hEL, ⟨zc, Scs, hzc⟩, ⟨fm, Sfm, hfm⟩, Sad, Shi, Slo⟩ := id cx
  have hSA := own_SA hw
  refine Met.of_walk (a0 := a0) #[vr a, vi (0 : Int32), vi (2 : Int32), un, un, un] (plainFor_of_name own_pn15) X00 hEL (fun m => by first | (simp [entryFrame, mkF, argsToLocals, Value.category]; done) | rfl) ?_
  intro p e s m below meth c vm hx hby hml hret hnm hC0 hW0
  have lt_a : h0.size > a := P0.lt
  refine uIN 1 hx hby d113 rfl rfl ?_
  refine gnewPE hx (ow hw 29 rfl) (n := (2 : Int32)) (by decide) (cap := 2) (by decide) (by decide) (ad := "[B") (by decide) 3 (hb hby d114) rfl (by decide) (by decide) ?_
  intro b1 h1 k1 g1 E1 C1 V1 A1 n1 L1
  have z1 := C1.2.1
  have V1 : Arv Z h1 b1 k1 .byte (2 : Int32) [(.int (0 : Int32)), (.int (0 : Int32))] (.int (0 : Int32)) := V1.pad (pad_rep [] (.int (0 : Int32)) 2)
  have lt_b1 : h1.size > b1 := V1.lt
  refine uSAN 4 #[vr a, vi (0 : Int32), vi (2 : Int32), vr b1, un, un] hx hby d115 rfl rfl rfl ?_
  refine uAN 5 hx hby d116 rfl rfl rfl ?_
  refine uIN 6 hx hby d117 rfl rfl ?_
  refine uAN 7 hx hby d118 rfl rfl rfl ?_
  refine uKc 8 (0 : Int32) hx hby d119 rfl rfl ?_
  refine uIN 9 hx hby d120 rfl rfl ?_
  have f3 := (P0.ext E1)
  refine ginfo fun _ _ O2 => ?_
  refine gcallS (y := mn14) hx (ow hw 75 rfl) (ow hw 76 rfl) (ow hw 73 rfl) (ow hw 77 rfl) (by decide) (fun hZ H hEL => Pay.of_met (W := 0) (own_c5_2_0 l Z a0 cx [] (a) (b1) (kc) (k1) (c0) (c1) vm h1 O2 f3 V1 n1 L1 (Nat.ne_of_lt (by omega)) (by first | assumption | decide | omega)) (ow hw 77 rfl) (ow hw 73 rfl) (by decide) (by decide) hZ H hEL) 12 (argsL := [(.ref a), (.int (0 : Int32)), (.ref b1), (.int (0 : Int32)), (.int (2 : Int32))]) (rest := []) (lenOf own_pd122 rfl) rfl rfl (Nat.le_of_eq rfl) (by rw [hml]; rfl) (hb hby d121) rfl (by decide) (by decide) ?_
  rintro _ vm2 h2 C2 ⟨rfl, K2, q2_0⟩
  have z2 := C2.2.1
  refine gat1 ?_
  refine uSI 14 #[vr a, vi (0 : Int32), vi (2 : Int32), vr b1, vi (0 : Int32), un] hx hby d123 rfl rfl ?_
  refine uI 16 hx hby d124 rfl rfl ?_
  refine uIN 17 hx hby d125 rfl rfl ?_
  refine uNc 20 hx hby d126 rfl (feq (by decide)).1 ?_
  refine uAN 21 hx hby d127 rfl rfl rfl ?_
  refine uIN 22 hx hby d128 rfl rfl ?_
  refine uIN 23 hx hby d129 rfl rfl ?_
  have f5 := (f3.keep K2 (ninS (Nat.ne_of_lt (by omega)) nin0))
  refine ginfo fun _ _ O4 => ?_
  refine gcallS (y := mn112) hx (ow hw 78 rfl) (ow hw 79 rfl) (ow hw 73 rfl) (ow hw 80 rfl) (by decide) (fun hZ H hEL => Pay.of_met (W := 0) (own_tb2 l Z a0 cx [] (a) (kc) (c0) (c1) vm2 h2 O4 f5) (ow hw 80 rfl) (ow hw 73 rfl) (by decide) (by decide) hZ H hEL) 26 (argsL := [(.ref a), (.int (0 : Int32)), (.int (2 : Int32))]) (rest := []) (lenOf own_pd131 rfl) rfl rfl (Nat.le_of_eq rfl) (by rw [hml]; rfl) (hb hby d130) rfl (by decide) (by decide) ?_
  rintro _ vm4 h4 C4 ⟨r4, kb4, rfl, K4, q4_0, q4_1⟩
  have z4 := C4.2.1
  have lt_r4 : h4.size > r4 := q4_1.lt
  refine gat1 ?_
  refine uSA 28 #[vr a, vi (0 : Int32), vi (2 : Int32), vr b1, vi (0 : Int32), vr r4] hx hby d132 rfl rfl rfl ?_
  refine uA 30 hx hby d133 rfl rfl rfl ?_
  refine uI 32 hx hby d134 rfl rfl ?_
  refine ginfo fun _ _ O6 => ?_
  refine gcallS (y := mn90) hx (ow hw 94 rfl) (ow hw 95 rfl) (ow hw 73 rfl) (ow hw 96 rfl) (by decide) (fun hZ H hEL => Pay.of_met (W := 0) (own_gc2_0 l Z a0 cx [] (r4) (kb4) (((c0 >>> ((0 : Int32) &&& 31)).toInt8.toInt32)) (((c0 >>> ((8 : Int32) &&& 31)).toInt8.toInt32)) ((.int ((c1 >>> ((0 : Int32) &&& 31)).toInt8.toInt32))) ((.int ((c1 >>> ((8 : Int32) &&& 31)).toInt8.toInt32))) vm4 h4 O6 q4_1) (ow hw 96 rfl) (ow hw 73 rfl) (by decide) (by decide) hZ H hEL) 35 (argsL := [(.ref r4), (.int (0 : Int32))]) (rest := []) (lenOf own_pd136 rfl) rfl rfl (Nat.le_of_eq rfl) (by rw [hml]; rfl) (hb hby d135) rfl (by decide) (by decide) ?_
  rintro _ vm6 h6 C6 ⟨rfl, rfl⟩
  have z6 := C6.2.1
  refine gat1 ?_
  refine uKs 38 (255 : Int32) hx hby d137 rfl rfl ?_
  refine uYc 54 hx hby d138 (tlt (own_pair hB P1)).2.2.1 (by decide) (by decide) ?_
  refine uA 56 hx hby d139 rfl rfl rfl ?_
  exact gretA hx hret rfl rfl (hb hby d140) (by decide) (by decide) (fun vq Cq => ⟨r4, kb4, rfl, ((((Keep.refl h0 []).ext E1).trans K2 (allS (Or.inr (by omega)) all0)).trans K4 all0), (by omega), q4_1⟩)
theorem own_c3_2_1 (l : Launch) (Z : State) (a0 : Array Value) (cx : Ctx Z a0) (ws : List Jvm.Cond) (a : Addr) (kc : ClassId) (c0 : Int32) (c1 : Int32) (vm0 : Vm) (h0 : Heap) (X00 : Ext Z.heap h0) (P0 : Arv Z h0 a kc .char (2 : Int32) [(.int c0), (.int c1)] (.int (0 : Int32))) (P1 : (¬ (255 : Int32) < c0)) (P2 : ((255 : Int32) < c1)) (hB : (¬ c1 < 0 ∧ ¬ (65535 : Int32) < c1)) :
    Met l mn141 y13_ 6 (some (.array .byte)) ws ({ frames := 3, cells := 2, slots := 6, locals := 40 } : Room) Z consts_1 vm0 h0 #[(.ref a), (.int (0 : Int32)), (.int (2 : Int32))] (fun rv vm h => ∃ (r : Addr), ∃ (kb : ClassId), rv = some (.ref r) ∧ Keep h0 h [] ∧ h0.size ≤ r ∧ Arv Z h r kb .byte (4 : Int32) [(.int ((c0 >>> ((0 : Int32) &&& 31)).toInt8.toInt32)), (.int ((c0 >>> ((8 : Int32) &&& 31)).toInt8.toInt32)), (.int ((c1 >>> ((0 : Int32) &&& 31)).toInt8.toInt32)), (.int ((c1 >>> ((8 : Int32) &&& 31)).toInt8.toInt32))] (.int (0 : Int32))) := by
  obtain ⟨hw, hEL, ⟨zc, Scs, hzc⟩, ⟨fm, Sfm, hfm⟩, Sad, Shi, Slo⟩ := id cx
  have hSA := own_SA hw
  refine Met.of_walk (a0 := a0) #[vr a, vi (0 : Int32), vi (2 : Int32), un, un, un] (plainFor_of_name own_pn15) X00 hEL (fun m => by first | (simp [entryFrame, mkF, argsToLocals, Value.category]; done) | rfl) ?_
  intro p e s m below meth c vm hx hby hml hret hnm hC0 hW0
  have lt_a : h0.size > a := P0.lt
  refine uIN 1 hx hby d113 rfl rfl ?_
  refine gnewPE hx (ow hw 29 rfl) (n := (2 : Int32)) (by decide) (cap := 2) (by decide) (by decide) (ad := "[B") (by decide) 3 (hb hby d114) rfl (by decide) (by decide) ?_
  intro b1 h1 k1 g1 E1 C1 V1 A1 n1 L1
  have z1 := C1.2.1
  have V1 : Arv Z h1 b1 k1 .byte (2 : Int32) [(.int (0 : Int32)), (.int (0 : Int32))] (.int (0 : Int32)) := V1.pad (pad_rep [] (.int (0 : Int32)) 2)
  have lt_b1 : h1.size > b1 := V1.lt
  refine uSAN 4 #[vr a, vi (0 : Int32), vi (2 : Int32), vr b1, un, un] hx hby d115 rfl rfl rfl ?_
  refine uAN 5 hx hby d116 rfl rfl rfl ?_
  refine uIN 6 hx hby d117 rfl rfl ?_
  refine uAN 7 hx hby d118 rfl rfl rfl ?_
  refine uKc 8 (0 : Int32) hx hby d119 rfl rfl ?_
  refine uIN 9 hx hby d120 rfl rfl ?_
  have f3 := (P0.ext E1)
  refine ginfo fun _ _ O2 => ?_
  refine gcallS (y := mn14) hx (ow hw 75 rfl) (ow hw 76 rfl) (ow hw 73 rfl) (ow hw 77 rfl) (by decide) (fun hZ H hEL => Pay.of_met (W := 0) (own_c5_2_1 l Z a0 cx [] (a) (b1) (kc) (k1) (c0) (c1) vm h1 O2 f3 V1 n1 L1 (Nat.ne_of_lt (by omega)) (by first | assumption | decide | omega) (by first | assumption | decide | omega)) (ow hw 77 rfl) (ow hw 73 rfl) (by decide) (by decide) hZ H hEL) 12 (argsL := [(.ref a), (.int (0 : Int32)), (.ref b1), (.int (0 : Int32)), (.int (2 : Int32))]) (rest := []) (lenOf own_pd122 rfl) rfl rfl (Nat.le_of_eq rfl) (by rw [hml]; rfl) (hb hby d121) rfl (by decide) (by decide) ?_
  rintro _ vm2 h2 C2 ⟨rfl, K2, q2_0⟩
  have z2 := C2.2.1
  refine gat1 ?_
  refine uSI 14 #[vr a, vi (0 : Int32), vi (2 : Int32), vr b1, vi (1 : Int32), un] hx hby d123 rfl rfl ?_
  refine uI 16 hx hby d124 rfl rfl ?_
  refine uIN 17 hx hby d125 rfl rfl ?_
  refine uNc 20 hx hby d126 rfl (feq (by decide)).1 ?_
  refine uAN 21 hx hby d127 rfl rfl rfl ?_
  refine uIN 22 hx hby d128 rfl rfl ?_
  refine uIN 23 hx hby d129 rfl rfl ?_
  have f5 := (f3.keep K2 (ninS (Nat.ne_of_lt (by omega)) nin0))
  refine ginfo fun _ _ O4 => ?_
  refine gcallS (y := mn112) hx (ow hw 78 rfl) (ow hw 79 rfl) (ow hw 73 rfl) (ow hw 80 rfl) (by decide) (fun hZ H hEL => Pay.of_met (W := 0) (own_tb2 l Z a0 cx [] (a) (kc) (c0) (c1) vm2 h2 O4 f5) (ow hw 80 rfl) (ow hw 73 rfl) (by decide) (by decide) hZ H hEL) 26 (argsL := [(.ref a), (.int (0 : Int32)), (.int (2 : Int32))]) (rest := []) (lenOf own_pd131 rfl) rfl rfl (Nat.le_of_eq rfl) (by rw [hml]; rfl) (hb hby d130) rfl (by decide) (by decide) ?_
  rintro _ vm4 h4 C4 ⟨r4, kb4, rfl, K4, q4_0, q4_1⟩
  have z4 := C4.2.1
  have lt_r4 : h4.size > r4 := q4_1.lt
  refine gat1 ?_
  refine uSA 28 #[vr a, vi (0 : Int32), vi (2 : Int32), vr b1, vi (1 : Int32), vr r4] hx hby d132 rfl rfl rfl ?_
  refine uA 30 hx hby d133 rfl rfl rfl ?_
  refine uI 32 hx hby d134 rfl rfl ?_
  refine ginfo fun _ _ O6 => ?_
  refine gcallS (y := mn90) hx (ow hw 94 rfl) (ow hw 95 rfl) (ow hw 73 rfl) (ow hw 96 rfl) (by decide) (fun hZ H hEL => Pay.of_met (W := 0) (own_gc2_1 l Z a0 cx [] (r4) (kb4) (((c1 >>> ((0 : Int32) &&& 31)).toInt8.toInt32)) (((c1 >>> ((8 : Int32) &&& 31)).toInt8.toInt32)) ((.int ((c0 >>> ((0 : Int32) &&& 31)).toInt8.toInt32))) ((.int ((c0 >>> ((8 : Int32) &&& 31)).toInt8.toInt32))) vm4 h4 O6 q4_1) (ow hw 96 rfl) (ow hw 73 rfl) (by decide) (by decide) hZ H hEL) 35 (argsL := [(.ref r4), (.int (1 : Int32))]) (rest := []) (lenOf own_pd136 rfl) rfl rfl (Nat.le_of_eq rfl) (by rw [hml]; rfl) (hb hby d135) rfl (by decide) (by decide) ?_
  rintro _ vm6 h6 C6 ⟨rfl, rfl⟩
  have z6 := C6.2.1
  refine gat1 ?_
  refine uKs 38 (255 : Int32) hx hby d137 rfl rfl ?_
  refine uYc 54 hx hby d138 (tlt (own_pair hB P2)).2.2.1 (by decide) (by decide) ?_
  refine uA 56 hx hby d139 rfl rfl rfl ?_
  exact gretA hx hret rfl rfl (hb hby d140) (by decide) (by decide) (fun vq Cq => ⟨r4, kb4, rfl, ((((Keep.refl h0 []).ext E1).trans K2 (allS (Or.inr (by omega)) all0)).trans K4 all0), (by omega), q4_1⟩)
theorem own_c3_2_2 (l : Launch) (Z : State) (a0 : Array Value) (cx : Ctx Z a0) (ws : List Jvm.Cond) (a : Addr) (kc : ClassId) (c0 : Int32) (c1 : Int32) (vm0 : Vm) (h0 : Heap) (X00 : Ext Z.heap h0) (P0 : Arv Z h0 a kc .char (2 : Int32) [(.int c0), (.int c1)] (.int (0 : Int32))) (P1 : (¬ (255 : Int32) < c0)) (P2 : (¬ (255 : Int32) < c1)) :
    Met l mn141 y13_ 6 (some (.array .byte)) ws ({ frames := 1, cells := 1, slots := 2, locals := 18 } : Room) Z consts_1 vm0 h0 #[(.ref a), (.int (0 : Int32)), (.int (2 : Int32))] (fun rv vm h => ∃ (r : Addr), ∃ (kb : ClassId), rv = some (.ref r) ∧ Keep h0 h [] ∧ h0.size ≤ r ∧ Arv Z h r kb .byte (2 : Int32) [(.int (c0.toInt8.toInt32)), (.int (c1.toInt8.toInt32))] (.int (0 : Int32))) := by
  obtain ⟨hw, hEL, ⟨zc, Scs, hzc⟩, ⟨fm, Sfm, hfm⟩, Sad, Shi, Slo⟩ := id cx
  have hSA := own_SA hw
  refine Met.of_walk (a0 := a0) #[vr a, vi (0 : Int32), vi (2 : Int32), un, un, un] (plainFor_of_name own_pn15) X00 hEL (fun m => by first | (simp [entryFrame, mkF, argsToLocals, Value.category]; done) | rfl) ?_
  intro p e s m below meth c vm hx hby hml hret hnm hC0 hW0
  have lt_a : h0.size > a := P0.lt
  refine uIN 1 hx hby d113 rfl rfl ?_
  refine gnewPE hx (ow hw 29 rfl) (n := (2 : Int32)) (by decide) (cap := 2) (by decide) (by decide) (ad := "[B") (by decide) 3 (hb hby d114) rfl (by decide) (by decide) ?_
  intro b1 h1 k1 g1 E1 C1 V1 A1 n1 L1
  have z1 := C1.2.1
  have V1 : Arv Z h1 b1 k1 .byte (2 : Int32) [(.int (0 : Int32)), (.int (0 : Int32))] (.int (0 : Int32)) := V1.pad (pad_rep [] (.int (0 : Int32)) 2)
  have lt_b1 : h1.size > b1 := V1.lt
  refine uSAN 4 #[vr a, vi (0 : Int32), vi (2 : Int32), vr b1, un, un] hx hby d115 rfl rfl rfl ?_
  refine uAN 5 hx hby d116 rfl rfl rfl ?_
  refine uIN 6 hx hby d117 rfl rfl ?_
  refine uAN 7 hx hby d118 rfl rfl rfl ?_
  refine uKc 8 (0 : Int32) hx hby d119 rfl rfl ?_
  refine uIN 9 hx hby d120 rfl rfl ?_
  have f3 := (P0.ext E1)
  refine ginfo fun _ _ O2 => ?_
  refine gcallS (y := mn14) hx (ow hw 75 rfl) (ow hw 76 rfl) (ow hw 73 rfl) (ow hw 77 rfl) (by decide) (fun hZ H hEL => Pay.of_met (W := 0) (own_c5_2_2 l Z a0 cx [] (a) (b1) (kc) (k1) (c0) (c1) vm h1 O2 f3 V1 n1 L1 (Nat.ne_of_lt (by omega)) (by first | assumption | decide | omega) (by first | assumption | decide | omega)) (ow hw 77 rfl) (ow hw 73 rfl) (by decide) (by decide) hZ H hEL) 12 (argsL := [(.ref a), (.int (0 : Int32)), (.ref b1), (.int (0 : Int32)), (.int (2 : Int32))]) (rest := []) (lenOf own_pd122 rfl) rfl rfl (Nat.le_of_eq rfl) (by rw [hml]; rfl) (hb hby d121) rfl (by decide) (by decide) ?_
  rintro _ vm2 h2 C2 ⟨rfl, K2, q2_0⟩
  have z2 := C2.2.1
  refine gat1 ?_
  refine uSI 14 #[vr a, vi (0 : Int32), vi (2 : Int32), vr b1, vi (2 : Int32), un] hx hby d123 rfl rfl ?_
  refine uI 16 hx hby d124 rfl rfl ?_
  refine uIN 17 hx hby d125 rfl rfl ?_
  refine uYc 57 hx hby d126 (teq (by decide)).1 (by decide) (by decide) ?_
  refine uAN 58 hx hby d142 rfl rfl rfl ?_
  exact gretA hx hret rfl rfl (hb hby d143) (by decide) (by decide) (fun vq Cq => ⟨b1, k1, rfl, (((Keep.refl h0 []).ext E1).trans K2 (allS (Or.inr (by omega)) all0)), (by omega), q2_0⟩)
theorem own_cod_2_0 (l : Launch) (Z : State) (a0 : Array Value) (cx : Ctx Z a0) (ws : List Jvm.Cond) (a : Addr) (ka : ClassId) (vs : List Value) (vm0 : Vm) (h0 : Heap) (X00 : Ext Z.heap h0) (P0 : Arv Z h0 a ka .byte (2 : Int32) vs (.int (0 : Int32))) :
    Met l mn152 y12_ 2 (some .byte) ws ({ frames := 0, cells := 0, slots := 0, locals := 0 } : Room) Z consts_1 vm0 h0 #[(.ref a), (.int (2 : Int32))] (fun rv vm h => rv = some (.int (0 : Int32)) ∧ h0 = h) := by
  obtain ⟨hw, hEL, ⟨zc, Scs, hzc⟩, ⟨fm, Sfm, hfm⟩, Sad, Shi, Slo⟩ := id cx
  have hSA := own_SA hw
  refine Met.of_walk (a0 := a0) #[vr a, vi (2 : Int32)] (plainFor_of_name own_pn15) X00 hEL (fun m => by first | (simp [entryFrame, mkF, argsToLocals, Value.category]; done) | rfl) ?_
  intro p e s m below meth c vm hx hby hml hret hnm hC0 hW0
  have lt_a : h0.size > a := P0.lt
  refine uIN 1 hx hby d144 rfl rfl ?_
  refine uAN 2 hx hby d145 rfl rfl rfl ?_
  refine glen hx P0 3 (hb hby d146) rfl ?_
  refine uisub 4 (0 : Int32) hx hby d147 rfl (by decide) ?_
  refine uKb 6 (31 : Int32) hx hby d148 rfl rfl ?_
  refine gs (mkF m 7 #[vr a, vi (2 : Int32)] [(.int (0 : Int32))]) (fun _ _ A kq => XS.iushr A hx rfl (hb hby d149) rfl kq) ?_
  refine gs (mkF m 8 #[vr a, vi (2 : Int32)] [(.int (0 : Int32))]) (fun _ _ A kq => XS.i2b A hx rfl (hb hby d150) rfl kq) ?_
  exact gretN (t := .byte) hx hret (by simp) (hb hby d151) (by decide) (by decide) (fun vq Cq => ⟨rfl, rfl⟩)
theorem own_cod_2_1 (l : Launch) (Z : State) (a0 : Array Value) (cx : Ctx Z a0) (ws : List Jvm.Cond) (a : Addr) (ka : ClassId) (vs : List Value) (vm0 : Vm) (h0 : Heap) (X00 : Ext Z.heap h0) (P0 : Arv Z h0 a ka .byte (4 : Int32) vs (.int (0 : Int32))) :
    Met l mn152 y12_ 2 (some .byte) ws ({ frames := 0, cells := 0, slots := 0, locals := 0 } : Room) Z consts_1 vm0 h0 #[(.ref a), (.int (2 : Int32))] (fun rv vm h => rv = some (.int (1 : Int32)) ∧ h0 = h) := by
  obtain ⟨hw, hEL, ⟨zc, Scs, hzc⟩, ⟨fm, Sfm, hfm⟩, Sad, Shi, Slo⟩ := id cx
  have hSA := own_SA hw
  refine Met.of_walk (a0 := a0) #[vr a, vi (2 : Int32)] (plainFor_of_name own_pn15) X00 hEL (fun m => by first | (simp [entryFrame, mkF, argsToLocals, Value.category]; done) | rfl) ?_
  intro p e s m below meth c vm hx hby hml hret hnm hC0 hW0
  have lt_a : h0.size > a := P0.lt
  refine uIN 1 hx hby d144 rfl rfl ?_
  refine uAN 2 hx hby d145 rfl rfl rfl ?_
  refine glen hx P0 3 (hb hby d146) rfl ?_
  refine uisub 4 (-2 : Int32) hx hby d147 rfl (by decide) ?_
  refine uKb 6 (31 : Int32) hx hby d148 rfl rfl ?_
  refine gs (mkF m 7 #[vr a, vi (2 : Int32)] [(.int (1 : Int32))]) (fun _ _ A kq => XS.iushr A hx rfl (hb hby d149) rfl kq) ?_
  refine gs (mkF m 8 #[vr a, vi (2 : Int32)] [(.int (1 : Int32))]) (fun _ _ A kq => XS.i2b A hx rfl (hb hby d150) rfl kq) ?_
  exact gretN (t := .byte) hx hret (by simp) (hb hby d151) (by decide) (by decide) (fun vq Cq => ⟨rfl, rfl⟩)
theorem own_i4_2_0 (l : Launch) (Z : State) (a0 : Array Value) (cx : Ctx Z a0) (ws : List Jvm.Cond) (x : Addr) (a : Addr) (v0 : Value) (c0v : Value) (kc : ClassId) (c0 : Int32) (c1 : Int32) (vm0 : Vm) (h0 : Heap) (X00 : Ext Z.heap h0) (P0 : Exa Z h0 x c0_) (P1 : Fld Z h0 x c0_ "value" "[B" v0) (P2 : Fld Z h0 x c0_ "coder" "B" c0v) (P3 : Z.heap.size ≤ x) (P4 : Safe Z consts_1 vm0 h0 x) (P5 : Arv Z h0 a kc .char (2 : Int32) [(.int c0), (.int c1)] (.int (0 : Int32))) (P6 : ((255 : Int32) < c0)) (h16 : (∀ c ∈ [c0, c1], ¬ c < 0 ∧ ¬ (65535 : Int32) < c)) :
    Met l mn174 y3_ 6 none ws ({ frames := 4, cells := 2, slots := 6, locals := 57 } : Room) Z consts_1 vm0 h0 #[(.ref x), (.ref a), (.int (0 : Int32)), (.int (2 : Int32)), .null] (fun rv vm h => ∃ (t : Addr), rv = none ∧ Keep h0 h [x] ∧ Txt Z h x t [c0, c1]) := by
  obtain ⟨hw, hEL, ⟨zc, Scs, hzc⟩, ⟨fm, Sfm, hfm⟩, Sad, Shi, Slo⟩ := id cx
  have hSA := own_SA hw
  refine Met.of_walk (a0 := a0) #[vr x, vr a, vi (0 : Int32), vi (2 : Int32), .val .null, un] (plainFor_of_name own_pn175) X00 hEL (fun m => by first | (simp [entryFrame, mkF, argsToLocals, Value.category]; done) | rfl) ?_
  intro p e s m below meth c vm hx hby hml hret hnm hC0 hW0
  have lt_x : h0.size > x := P0.lt
  have L4 := hC0.safe lt_x P4
  have lt_a : h0.size > a := P5.lt
  refine uAN 1 hx hby d153 rfl rfl rfl ?_
  refine ginitO hx (ow hw 25 rfl) (ow hw 26 rfl) (ow hw 27 rfl) 4 (W := 0) (Nat.le_of_eq rfl) (by rw [hml]; rfl) (hb hby d154) rfl (by decide) (by decide) ?_
  refine uIN 5 hx hby d155 rfl rfl ?_
  refine uY 27 hx hby d156 ((if0 _ _).trans (feq (by decide)).2) (by decide) (by decide) ?_
  refine ggetS (host := "") hx (Or.inl (ow hw 50 rfl)) Via.refl Scs 30 (hb hby d157) rfl ?_
  refine uN 33 hx hby d158 rfl ((if0 _ _).trans (feq hzc).1) ?_
  refine uAN 34 hx hby d159 rfl rfl rfl ?_
  refine uIN 35 hx hby d160 rfl rfl ?_
  refine uIN 36 hx hby d161 rfl rfl ?_
  refine ginfo fun _ _ O2 => ?_
  refine gcallS (y := mn141) hx (ow hw 71 rfl) (ow hw 72 rfl) (ow hw 73 rfl) (ow hw 74 rfl) (by decide) (fun hZ H hEL => Pay.of_met (W := 0) (own_c3_2_0 l Z a0 cx [] (a) (kc) (c0) (c1) vm h0 O2 P5 (by first | assumption | decide | omega) (h16 _ (List.mem_of_getElem? (i := 0) rfl))) (ow hw 74 rfl) (ow hw 73 rfl) (by decide) (by decide) hZ H hEL) 39 (argsL := [(.ref a), (.int (0 : Int32)), (.int (2 : Int32))]) (rest := []) (lenOf own_pd131 rfl) rfl rfl (Nat.le_of_eq rfl) (by rw [hml]; rfl) (hb hby d162) rfl (by decide) (by decide) ?_
  rintro _ vm2 h2 C2 ⟨r2, kb2, rfl, K2, q2_0, q2_1⟩
  have z2 := C2.2.1
  have lt_r2 : h2.size > r2 := q2_1.lt
  refine gat1 ?_
  refine uSA 41 #[vr x, vr a, vi (0 : Int32), vi (2 : Int32), .val .null, vr r2] hx hby d163 rfl rfl rfl ?_
  refine uAN 42 hx hby d164 rfl rfl rfl ?_
  refine uA 44 hx hby d165 rfl rfl rfl ?_
  refine uIN 45 hx hby d166 rfl rfl ?_
  refine ginfo fun _ _ O3 => ?_
  refine gcallS (y := mn152) hx (ow hw 97 rfl) (ow hw 98 rfl) (ow hw 73 rfl) (ow hw 99 rfl) (by decide) (fun hZ H hEL => Pay.of_met (W := 1) (own_cod_2_1 l Z a0 cx [] (r2) (kb2) ([(.int ((c0 >>> ((0 : Int32) &&& 31)).toInt8.toInt32)), (.int ((c0 >>> ((8 : Int32) &&& 31)).toInt8.toInt32)), (.int ((c1 >>> ((0 : Int32) &&& 31)).toInt8.toInt32)), (.int ((c1 >>> ((8 : Int32) &&& 31)).toInt8.toInt32))]) vm2 h2 O3 q2_1) (ow hw 99 rfl) (ow hw 73 rfl) (by decide) (by decide) hZ H hEL) 48 (argsL := [(.ref r2), (.int (2 : Int32))]) (rest := [(.ref x)]) (lenOf own_pd168 rfl) rfl rfl (Nat.le_of_eq rfl) (by rw [hml]; rfl) (hb hby d167) rfl (by decide) (by decide) ?_
  rintro _ vm3 h3 C3 ⟨rfl, rfl⟩
  have z3 := C3.2.1
  refine gat1 ?_
  have f4 := (P2.keep K2 nin0)
  have f5 := (P0.keep K2)
  have f6 := (C3.safe (show h2.size > x by omega) (C2.safe (show h0.size > x by omega) L4))
  refine gputF (host := "") hx (Or.inl (ow hw 35 rfl)) Via.refl f4 f5 (Or.inr ⟨(ow hw 31 rfl), rfl, hnm⟩) (ow hw 16 rfl) (ty := .byte) (by decide) rfl rfl P3 (fun _ => f6) 51 (hb hby d169) rfl ?_
  intro h7 W7 C7
  have z7 := C7.2.1
  have F7 := f4.same W7
  refine uAN 52 hx hby d170 rfl rfl rfl ?_
  refine uA 54 hx hby d171 rfl rfl rfl ?_
  have f8 := ((P1.keep K2 nin0).other W7 (Or.inr (slot_ne (Or.inr (ow hw 30 rfl)) (Or.inr (ow hw 31 rfl)) (by decide) (t := (.array .byte)) (t' := .byte) (by decide) (by decide))))
  have f9 := (f5.wr W7)
  have f10 := (C7.safe (show h2.size > x by omega) f6)
  refine gputF (host := "") hx (Or.inl (ow hw 34 rfl)) Via.refl f8 f9 (Or.inr ⟨(ow hw 30 rfl), rfl, hnm⟩) (ow hw 16 rfl) (ty := (.array .byte)) (by decide) rfl rfl P3 (fun _ => f10) 57 (hb hby d172) rfl ?_
  intro h11 W11 C11
  have z11 := C11.2.1
  have F11 := f8.same W11
  have f12 := (f9.wr W11)
  have f13 := (F7.other W11 (Or.inr (slot_ne (Or.inr (ow hw 31 rfl)) (Or.inr (ow hw 30 rfl)) (by decide) (t := .byte) (t' := (.array .byte)) (by decide) (by decide))))
  have f14 := ((q2_1.other W7 (Nat.ne_of_gt (by omega))).other W11 (Nat.ne_of_gt (by omega)))
  exact gretV hx hret (hb hby d173) (by decide) (by decide) (fun vq Cq => ⟨r2, rfl, ((((Keep.refl h0 [x]).trans K2 all0).wr W7 (Or.inl (List.mem_of_getElem? (i := 0) rfl))).wr W11 (Or.inl (List.mem_of_getElem? (i := 0) rfl))), ⟨f12, F11, Nat.le_of_ble_eq_true rfl, h16, Or.inr ⟨f13, _, f14⟩⟩⟩)
theorem own_i4_2_1 (l : Launch) (Z : State) (a0 : Array Value) (cx : Ctx Z a0) (ws : List Jvm.Cond) (x : Addr) (a : Addr) (v0 : Value) (c0v : Value) (kc : ClassId) (c0 : Int32) (c1 : Int32) (vm0 : Vm) (h0 : Heap) (X00 : Ext Z.heap h0) (P0 : Exa Z h0 x c0_) (P1 : Fld Z h0 x c0_ "value" "[B" v0) (P2 : Fld Z h0 x c0_ "coder" "B" c0v) (P3 : Z.heap.size ≤ x) (P4 : Safe Z consts_1 vm0 h0 x) (P5 : Arv Z h0 a kc .char (2 : Int32) [(.int c0), (.int c1)] (.int (0 : Int32))) (P6 : (¬ (255 : Int32) < c0)) (P7 : ((255 : Int32) < c1)) (h16 : (∀ c ∈ [c0, c1], ¬ c < 0 ∧ ¬ (65535 : Int32) < c)) :
    Met l mn174 y3_ 6 none ws ({ frames := 4, cells := 2, slots := 6, locals := 57 } : Room) Z consts_1 vm0 h0 #[(.ref x), (.ref a), (.int (0 : Int32)), (.int (2 : Int32)), .null] (fun rv vm h => ∃ (t : Addr), rv = none ∧ Keep h0 h [x] ∧ Txt Z h x t [c0, c1]) := by
  obtain ⟨hw, hEL, ⟨zc, Scs, hzc⟩, ⟨fm, Sfm, hfm⟩, Sad, Shi, Slo⟩ := id cx
  have hSA := own_SA hw
  refine Met.of_walk (a0 := a0) #[vr x, vr a, vi (0 : Int32), vi (2 : Int32), .val .null, un] (plainFor_of_name own_pn175) X00 hEL (fun m => by first | (simp [entryFrame, mkF, argsToLocals, Value.category]; done) | rfl) ?_
  intro p e s m below meth c vm hx hby hml hret hnm hC0 hW0
  have lt_x : h0.size > x := P0.lt
  have L4 := hC0.safe lt_x P4
  have lt_a : h0.size > a := P5.lt
  refine uAN 1 hx hby d153 rfl rfl rfl ?_
  refine ginitO hx (ow hw 25 rfl) (ow hw 26 rfl) (ow hw 27 rfl) 4 (W := 0) (Nat.le_of_eq rfl) (by rw [hml]; rfl) (hb hby d154) rfl (by decide) (by decide) ?_
  refine uIN 5 hx hby d155 rfl rfl ?_
  refine uY 27 hx hby d156 ((if0 _ _).trans (feq (by decide)).2) (by decide) (by decide) ?_
  refine ggetS (host := "") hx (Or.inl (ow hw 50 rfl)) Via.refl Scs 30 (hb hby d157) rfl ?_
  refine uN 33 hx hby d158 rfl ((if0 _ _).trans (feq hzc).1) ?_
  refine uAN 34 hx hby d159 rfl rfl rfl ?_
  refine uIN 35 hx hby d160 rfl rfl ?_
  refine uIN 36 hx hby d161 rfl rfl ?_
  refine ginfo fun _ _ O2 => ?_
  refine gcallS (y := mn141) hx (ow hw 71 rfl) (ow hw 72 rfl) (ow hw 73 rfl) (ow hw 74 rfl) (by decide) (fun hZ H hEL => Pay.of_met (W := 0) (own_c3_2_1 l Z a0 cx [] (a) (kc) (c0) (c1) vm h0 O2 P5 (by first | assumption | decide | omega) (by first | assumption | decide | omega) (h16 _ (List.mem_of_getElem? (i := 1) rfl))) (ow hw 74 rfl) (ow hw 73 rfl) (by decide) (by decide) hZ H hEL) 39 (argsL := [(.ref a), (.int (0 : Int32)), (.int (2 : Int32))]) (rest := []) (lenOf own_pd131 rfl) rfl rfl (Nat.le_of_eq rfl) (by rw [hml]; rfl) (hb hby d162) rfl (by decide) (by decide) ?_
  rintro _ vm2 h2 C2 ⟨r2, kb2, rfl, K2, q2_0, q2_1⟩
  have z2 := C2.2.1
  have lt_r2 : h2.size > r2 := q2_1.lt
  refine gat1 ?_
  refine uSA 41 #[vr x, vr a, vi (0 : Int32), vi (2 : Int32), .val .null, vr r2] hx hby d163 rfl rfl rfl ?_
  refine uAN 42 hx hby d164 rfl rfl rfl ?_
  refine uA 44 hx hby d165 rfl rfl rfl ?_
  refine uIN 45 hx hby d166 rfl rfl ?_
  refine ginfo fun _ _ O3 => ?_
  refine gcallS (y := mn152) hx (ow hw 97 rfl) (ow hw 98 rfl) (ow hw 73 rfl) (ow hw 99 rfl) (by decide) (fun hZ H hEL => Pay.of_met (W := 1) (own_cod_2_1 l Z a0 cx [] (r2) (kb2) ([(.int ((c0 >>> ((0 : Int32) &&& 31)).toInt8.toInt32)), (.int ((c0 >>> ((8 : Int32) &&& 31)).toInt8.toInt32)), (.int ((c1 >>> ((0 : Int32) &&& 31)).toInt8.toInt32)), (.int ((c1 >>> ((8 : Int32) &&& 31)).toInt8.toInt32))]) vm2 h2 O3 q2_1) (ow hw 99 rfl) (ow hw 73 rfl) (by decide) (by decide) hZ H hEL) 48 (argsL := [(.ref r2), (.int (2 : Int32))]) (rest := [(.ref x)]) (lenOf own_pd168 rfl) rfl rfl (Nat.le_of_eq rfl) (by rw [hml]; rfl) (hb hby d167) rfl (by decide) (by decide) ?_
  rintro _ vm3 h3 C3 ⟨rfl, rfl⟩
  have z3 := C3.2.1
  refine gat1 ?_
  have f4 := (P2.keep K2 nin0)
  have f5 := (P0.keep K2)
  have f6 := (C3.safe (show h2.size > x by omega) (C2.safe (show h0.size > x by omega) L4))
  refine gputF (host := "") hx (Or.inl (ow hw 35 rfl)) Via.refl f4 f5 (Or.inr ⟨(ow hw 31 rfl), rfl, hnm⟩) (ow hw 16 rfl) (ty := .byte) (by decide) rfl rfl P3 (fun _ => f6) 51 (hb hby d169) rfl ?_
  intro h7 W7 C7
  have z7 := C7.2.1
  have F7 := f4.same W7
  refine uAN 52 hx hby d170 rfl rfl rfl ?_
  refine uA 54 hx hby d171 rfl rfl rfl ?_
  have f8 := ((P1.keep K2 nin0).other W7 (Or.inr (slot_ne (Or.inr (ow hw 30 rfl)) (Or.inr (ow hw 31 rfl)) (by decide) (t := (.array .byte)) (t' := .byte) (by decide) (by decide))))
  have f9 := (f5.wr W7)
  have f10 := (C7.safe (show h2.size > x by omega) f6)
  refine gputF (host := "") hx (Or.inl (ow hw 34 rfl)) Via.refl f8 f9 (Or.inr ⟨(ow hw 30 rfl), rfl, hnm⟩) (ow hw 16 rfl) (ty := (.array .byte)) (by decide) rfl rfl P3 (fun _ => f10) 57 (hb hby d172) rfl ?_
  intro h11 W11 C11
  have z11 := C11.2.1
  have F11 := f8.same W11
  have f12 := (f9.wr W11)
  have f13 := (F7.other W11 (Or.inr (slot_ne (Or.inr (ow hw 31 rfl)) (Or.inr (ow hw 30 rfl)) (by decide) (t := .byte) (t' := (.array .byte)) (by decide) (by decide))))
  have f14 := ((q2_1.other W7 (Nat.ne_of_gt (by omega))).other W11 (Nat.ne_of_gt (by omega)))
  exact gretV hx hret (hb hby d173) (by decide) (by decide) (fun vq Cq => ⟨r2, rfl, ((((Keep.refl h0 [x]).trans K2 all0).wr W7 (Or.inl (List.mem_of_getElem? (i := 0) rfl))).wr W11 (Or.inl (List.mem_of_getElem? (i := 0) rfl))), ⟨f12, F11, Nat.le_of_ble_eq_true rfl, h16, Or.inr ⟨f13, _, f14⟩⟩⟩)
theorem own_i4_2_2 (l : Launch) (Z : State) (a0 : Array Value) (cx : Ctx Z a0) (ws : List Jvm.Cond) (x : Addr) (a : Addr) (v0 : Value) (c0v : Value) (kc : ClassId) (c0 : Int32) (c1 : Int32) (vm0 : Vm) (h0 : Heap) (X00 : Ext Z.heap h0) (P0 : Exa Z h0 x c0_) (P1 : Fld Z h0 x c0_ "value" "[B" v0) (P2 : Fld Z h0 x c0_ "coder" "B" c0v) (P3 : Z.heap.size ≤ x) (P4 : Safe Z consts_1 vm0 h0 x) (P5 : Arv Z h0 a kc .char (2 : Int32) [(.int c0), (.int c1)] (.int (0 : Int32))) (P6 : (¬ (255 : Int32) < c0)) (P7 : (¬ (255 : Int32) < c1)) (h16 : (∀ c ∈ [c0, c1], ¬ c < 0 ∧ ¬ (65535 : Int32) < c)) :
    Met l mn174 y3_ 6 none ws ({ frames := 2, cells := 1, slots := 2, locals := 35 } : Room) Z consts_1 vm0 h0 #[(.ref x), (.ref a), (.int (0 : Int32)), (.int (2 : Int32)), .null] (fun rv vm h => ∃ (t : Addr), rv = none ∧ Keep h0 h [x] ∧ Txt Z h x t [c0, c1]) := by
  obtain ⟨hw, hEL, ⟨zc, Scs, hzc⟩, ⟨fm, Sfm, hfm⟩, Sad, Shi, Slo⟩ := id cx
  have hSA := own_SA hw
  refine Met.of_walk (a0 := a0) #[vr x, vr a, vi (0 : Int32), vi (2 : Int32), .val .null, un] (plainFor_of_name own_pn175) X00 hEL (fun m => by first | (simp [entryFrame, mkF, argsToLocals, Value.category]; done) | rfl) ?_
  intro p e s m below meth c vm hx hby hml hret hnm hC0 hW0
  have lt_x : h0.size > x := P0.lt
  have L4 := hC0.safe lt_x P4
  have lt_a : h0.size > a := P5.lt
  refine uAN 1 hx hby d153 rfl rfl rfl ?_
  refine ginitO hx (ow hw 25 rfl) (ow hw 26 rfl) (ow hw 27 rfl) 4 (W := 0) (Nat.le_of_eq rfl) (by rw [hml]; rfl) (hb hby d154) rfl (by decide) (by decide) ?_
  refine uIN 5 hx hby d155 rfl rfl ?_
  refine uY 27 hx hby d156 ((if0 _ _).trans (feq (by decide)).2) (by decide) (by decide) ?_
  refine ggetS (host := "") hx (Or.inl (ow hw 50 rfl)) Via.refl Scs 30 (hb hby d157) rfl ?_
  refine uN 33 hx hby d158 rfl ((if0 _ _).trans (feq hzc).1) ?_
  refine uAN 34 hx hby d159 rfl rfl rfl ?_
  refine uIN 35 hx hby d160 rfl rfl ?_
  refine uIN 36 hx hby d161 rfl rfl ?_
  refine ginfo fun _ _ O2 => ?_
  refine gcallS (y := mn141) hx (ow hw 71 rfl) (ow hw 72 rfl) (ow hw 73 rfl) (ow hw 74 rfl) (by decide) (fun hZ H hEL => Pay.of_met (W := 0) (own_c3_2_2 l Z a0 cx [] (a) (kc) (c0) (c1) vm h0 O2 P5 (by first | assumption | decide | omega) (by first | assumption | decide | omega)) (ow hw 74 rfl) (ow hw 73 rfl) (by decide) (by decide) hZ H hEL) 39 (argsL := [(.ref a), (.int (0 : Int32)), (.int (2 : Int32))]) (rest := []) (lenOf own_pd131 rfl) rfl rfl (Nat.le_of_eq rfl) (by rw [hml]; rfl) (hb hby d162) rfl (by decide) (by decide) ?_
  rintro _ vm2 h2 C2 ⟨r2, kb2, rfl, K2, q2_0, q2_1⟩
  have z2 := C2.2.1
  have lt_r2 : h2.size > r2 := q2_1.lt
  refine gat1 ?_
  refine uSA 41 #[vr x, vr a, vi (0 : Int32), vi (2 : Int32), .val .null, vr r2] hx hby d163 rfl rfl rfl ?_
  refine uAN 42 hx hby d164 rfl rfl rfl ?_
  refine uA 44 hx hby d165 rfl rfl rfl ?_
  refine uIN 45 hx hby d166 rfl rfl ?_
  refine ginfo fun _ _ O3 => ?_
  refine gcallS (y := mn152) hx (ow hw 97 rfl) (ow hw 98 rfl) (ow hw 73 rfl) (ow hw 99 rfl) (by decide) (fun hZ H hEL => Pay.of_met (W := 1) (own_cod_2_0 l Z a0 cx [] (r2) (kb2) ([(.int (c0.toInt8.toInt32)), (.int (c1.toInt8.toInt32))]) vm2 h2 O3 q2_1) (ow hw 99 rfl) (ow hw 73 rfl) (by decide) (by decide) hZ H hEL) 48 (argsL := [(.ref r2), (.int (2 : Int32))]) (rest := [(.ref x)]) (lenOf own_pd168 rfl) rfl rfl (Nat.le_of_eq rfl) (by rw [hml]; rfl) (hb hby d167) rfl (by decide) (by decide) ?_
  rintro _ vm3 h3 C3 ⟨rfl, rfl⟩
  have z3 := C3.2.1
  refine gat1 ?_
  have f4 := (P2.keep K2 nin0)
  have f5 := (P0.keep K2)
  have f6 := (C3.safe (show h2.size > x by omega) (C2.safe (show h0.size > x by omega) L4))
  refine gputF (host := "") hx (Or.inl (ow hw 35 rfl)) Via.refl f4 f5 (Or.inr ⟨(ow hw 31 rfl), rfl, hnm⟩) (ow hw 16 rfl) (ty := .byte) (by decide) rfl rfl P3 (fun _ => f6) 51 (hb hby d169) rfl ?_
  intro h7 W7 C7
  have z7 := C7.2.1
  have F7 := f4.same W7
  refine uAN 52 hx hby d170 rfl rfl rfl ?_
  refine uA 54 hx hby d171 rfl rfl rfl ?_
  have f8 := ((P1.keep K2 nin0).other W7 (Or.inr (slot_ne (Or.inr (ow hw 30 rfl)) (Or.inr (ow hw 31 rfl)) (by decide) (t := (.array .byte)) (t' := .byte) (by decide) (by decide))))
  have f9 := (f5.wr W7)
  have f10 := (C7.safe (show h2.size > x by omega) f6)
  refine gputF (host := "") hx (Or.inl (ow hw 34 rfl)) Via.refl f8 f9 (Or.inr ⟨(ow hw 30 rfl), rfl, hnm⟩) (ow hw 16 rfl) (ty := (.array .byte)) (by decide) rfl rfl P3 (fun _ => f10) 57 (hb hby d172) rfl ?_
  intro h11 W11 C11
  have z11 := C11.2.1
  have F11 := f8.same W11
  have f12 := (f9.wr W11)
  have f13 := (F7.other W11 (Or.inr (slot_ne (Or.inr (ow hw 31 rfl)) (Or.inr (ow hw 30 rfl)) (by decide) (t := .byte) (t' := (.array .byte)) (by decide) (by decide))))
  have f14 := ((q2_1.other W7 (Nat.ne_of_gt (by omega))).other W11 (Nat.ne_of_gt (by omega)))
  exact gretV hx hret (hb hby d173) (by decide) (by decide) (fun vq Cq => ⟨r2, rfl, ((((Keep.refl h0 [x]).trans K2 all0).wr W7 (Or.inl (List.mem_of_getElem? (i := 0) rfl))).wr W11 (Or.inl (List.mem_of_getElem? (i := 0) rfl))), ⟨f12, F11, Nat.le_of_ble_eq_true rfl, h16, Or.inl ⟨f13, (bcons ⟨(h16 _ (List.mem_of_getElem? (i := 0) rfl)).1, P6⟩ (bcons ⟨(h16 _ (List.mem_of_getElem? (i := 1) rfl)).1, P7⟩ bnil)), _, f14⟩⟩⟩)
theorem own_i1_2 (l : Launch) (Z : State) (a0 : Array Value) (cx : Ctx Z a0) (ws : List Jvm.Cond) (x : Addr) (a : Addr) (v0 : Value) (c0v : Value) (kc : ClassId) (c0 : Int32) (c1 : Int32) (vm0 : Vm) (h0 : Heap) (X00 : Ext Z.heap h0) (P0 : Exa Z h0 x c0_) (P1 : Fld Z h0 x c0_ "value" "[B" v0) (P2 : Fld Z h0 x c0_ "coder" "B" c0v) (P3 : Z.heap.size ≤ x) (P4 : Safe Z consts_1 vm0 h0 x) (P5 : Arv Z h0 a kc .char (2 : Int32) [(.int c0), (.int c1)] (.int (0 : Int32))) (h16 : (∀ c ∈ [c0, c1], ¬ c < 0 ∧ ¬ (65535 : Int32) < c)) :
    Met l mn185 y7_ 2 none ws ({ frames := 5, cells := 2, slots := 6, locals := 74 } : Room) Z consts_1 vm0 h0 #[(.ref x), (.ref a)] (fun rv vm h => ∃ (t : Addr), rv = none ∧ Keep h0 h [x] ∧ Txt Z h x t [c0, c1]) := by
  obtain ⟨hw, hEL, ⟨zc, Scs, hzc⟩, ⟨fm, Sfm, hfm⟩, Sad, Shi, Slo⟩ := id cx
  have hSA := own_SA hw
  refine Met.of_walk (a0 := a0) #[vr x, vr a] (plainFor_of_name own_pn175) X00 hEL (fun m => by first | (simp [entryFrame, mkF, argsToLocals, Value.category]; done) | rfl) ?_
  intro p e s m below meth c vm hx hby hml hret hnm hC0 hW0
  have lt_x : h0.size > x := P0.lt
  have L4 := hC0.safe lt_x P4
  have lt_a : h0.size > a := P5.lt
  refine uAN 1 hx hby d176 rfl rfl rfl ?_
  refine uAN 2 hx hby d177 rfl rfl rfl ?_
  refine uKc 3 (0 : Int32) hx hby d178 rfl rfl ?_
  refine uAN 4 hx hby d179 rfl rfl rfl ?_
  refine glen hx P5 5 (hb hby d180) rfl ?_
  refine uU 6 hx hby d181 rfl ?_
  by_cases g0 : (255 : Int32) < c0
  · refine ginfo fun _ _ O1 => ?_
    refine gcallI (y := mn174) hx rfl (ow hw 21 rfl) (ow hw 22 rfl) (ow hw 24 rfl) (by decide) (fun hZ H hEL => Pay.of_met (W := 0) (own_i4_2_0 l Z a0 cx [] (x) (a) (v0) (c0v) (kc) (c0) (c1) vm h0 O1 P0 P1 P2 P3 L4 P5 (by first | assumption | decide | omega) h16) (ow hw 24 rfl) (ow hw 17 rfl) (by decide) (by decide) hZ H hEL) (a := x) 9 (argsL := [(.ref a), (.int (0 : Int32)), (.int (2 : Int32)), .null]) (rest := []) (lenOf own_pd183 rfl) rfl rfl (Nat.le_of_eq rfl) (by rw [hml]; rfl) (hb hby d182) rfl (by decide) (by decide) ?_
    rintro _ vm1 h1 C1 ⟨t1, rfl, K1, q1_0⟩
    have z1 := C1.2.1
    have lt_t1 : h1.size > t1 := q1_0.tlt
    refine gat0 ?_
    exact gretV hx hret (hb hby d184) (by decide) (by decide) (fun vq Cq => ⟨t1, rfl, ((Keep.refl h0 [x]).trans K1 (allS (Or.inl (List.mem_of_getElem? (i := 0) rfl)) all0)), q1_0⟩)
  · by_cases g1 : (255 : Int32) < c1
    · refine ginfo fun _ _ O3 => ?_
      refine gcallI (y := mn174) hx rfl (ow hw 21 rfl) (ow hw 22 rfl) (ow hw 24 rfl) (by decide) (fun hZ H hEL => Pay.of_met (W := 0) (own_i4_2_1 l Z a0 cx [] (x) (a) (v0) (c0v) (kc) (c0) (c1) vm h0 O3 P0 P1 P2 P3 L4 P5 (by first | assumption | decide | omega) (by first | assumption | decide | omega) h16) (ow hw 24 rfl) (ow hw 17 rfl) (by decide) (by decide) hZ H hEL) (a := x) 9 (argsL := [(.ref a), (.int (0 : Int32)), (.int (2 : Int32)), .null]) (rest := []) (lenOf own_pd183 rfl) rfl rfl (Nat.le_of_eq rfl) (by rw [hml]; rfl) (hb hby d182) rfl (by decide) (by decide) ?_
      rintro _ vm3 h3 C3 ⟨t3, rfl, K3, q3_0⟩
      have z3 := C3.2.1
      have lt_t3 : h3.size > t3 := q3_0.tlt
      refine gat0 ?_
      exact gretV hx hret (hb hby d184) (by decide) (by decide) (fun vq Cq => ⟨t3, rfl, ((Keep.refl h0 [x]).trans K3 (allS (Or.inl (List.mem_of_getElem? (i := 0) rfl)) all0)), q3_0⟩)
    · refine ginfo fun _ _ O5 => ?_
      refine gcallI (y := mn174) hx rfl (ow hw 21 rfl) (ow hw 22 rfl) (ow hw 24 rfl) (by decide) (fun hZ H hEL => Pay.of_met (W := 0) (own_i4_2_2 l Z a0 cx [] (x) (a) (v0) (c0v) (kc) (c0) (c1) vm h0 O5 P0 P1 P2 P3 L4 P5 (by first | assumption | decide | omega) (by first | assumption | decide | omega) h16) (ow hw 24 rfl) (ow hw 17 rfl) (by decide) (by decide) hZ H hEL) (a := x) 9 (argsL := [(.ref a), (.int (0 : Int32)), (.int (2 : Int32)), .null]) (rest := []) (lenOf own_pd183 rfl) rfl rfl (Nat.le_of_eq rfl) (by rw [hml]; rfl) (hb hby d182) rfl (by decide) (by decide) ?_
      rintro _ vm5 h5 C5 ⟨t5, rfl, K5, q5_0⟩
      have z5 := C5.2.1
      have lt_t5 : h5.size > t5 := q5_0.tlt
      refine gat0 ?_
      exact gretV hx hret (hb hby d184) (by decide) (by decide) (fun vq Cq => ⟨t5, rfl, ((Keep.refl h0 [x]).trans K5 (allS (Or.inl (List.mem_of_getElem? (i := 0) rfl)) all0)), q5_0⟩)
theorem own_c5_3_0 (l : Launch) (Z : State) (a0 : Array Value) (cx : Ctx Z a0) (ws : List Jvm.Cond) (a : Addr) (d : Addr) (kc : ClassId) (kd : ClassId) (c0 : Int32) (c1 : Int32) (c2 : Int32) (vm0 : Vm) (h0 : Heap) (X00 : Ext Z.heap h0) (P0 : Arv Z h0 a kc .char (3 : Int32) [(.int c0), (.int c1), (.int c2)] (.int (0 : Int32))) (P1 : Arv Z h0 d kd .byte (3 : Int32) [(.int (0 : Int32)), (.int (0 : Int32)), (.int (0 : Int32))] (.int (0 : Int32))) (P2 : Z.heap.size ≤ d) (P3 : Safe Z consts_1 vm0 h0 d) (hne : (a ≠ d)) (P5 : ((255 : Int32) < c0)) :
    Met l mn14 y14_ 7 (some .int) ws ({ frames := 0, cells := 0, slots := 0, locals := 0 } : Room) Z consts_1 vm0 h0 #[(.ref a), (.int (0 : Int32)), (.ref d), (.int (0 : Int32)), (.int (3 : Int32))] (fun rv vm h => rv = some (.int (0 : Int32)) ∧ Keep h0 h [d] ∧ Arv Z h d kd .byte (3 : Int32) [(.int (0 : Int32)), (.int (0 : Int32)), (.int (0 : Int32))] (.int (0 : Int32))) := by
  obtain ⟨hw, hEL, ⟨zc, Scs, hzc⟩, ⟨fm, Sfm, hfm⟩, Sad, Shi, Slo⟩ := id cx
  have hSA := own_SA hw
  refine Met.of_walk (a0 := a0) #[vr a, vi (0 : Int32), vr d, vi (0 : Int32), vi (3 : Int32), un, un] (plainFor_of_name own_pn15) X00 hEL (fun m => by first | (simp [entryFrame, mkF, argsToLocals, Value.category]; done) | rfl) ?_
  intro p e s m below meth c vm hx hby hml hret hnm hC0 hW0
  have lt_a : h0.size > a := P0.lt
  have lt_d : h0.size > d := P1.lt
  have L3 := hC0.safe lt_d P3
  refine uKc 1 (0 : Int32) hx hby d0 rfl rfl ?_
  refine uSI 3 #[vr a, vi (0 : Int32), vr d, vi (0 : Int32), vi (3 : Int32), vi (0 : Int32), un] hx hby d1 rfl rfl ?_
  refine uI 5 hx hby d2 rfl rfl ?_
  refine uI 7 hx hby d3 rfl rfl ?_
  refine uNc 10 hx hby d4 rfl (tlt (by decide)).2.1 ?_
  refine uAN 11 hx hby d5 rfl rfl rfl ?_
  refine uIN 12 hx hby d6 rfl rfl ?_
  refine gldC hx P0 ⟨by decide, by decide⟩ (i := 0) rfl (v := (.int c0)) rfl 13 (hb hby d7) rfl ?_
  refine uSI 15 #[vr a, vi (0 : Int32), vr d, vi (0 : Int32), vi (3 : Int32), vi (0 : Int32), vi c0] hx hby d8 rfl rfl ?_
  refine uI 17 hx hby d9 rfl rfl ?_
  refine uKs 20 (255 : Int32) hx hby d10 rfl rfl ?_
  refine uNc 23 hx hby d11 rfl (tlt P5).2.2.2 ?_
  refine uI 25 hx hby d12 rfl rfl ?_
  exact gretI hx hret (hb hby d13) (by decide) (by decide) (fun vq Cq => ⟨rfl, (Keep.refl h0 [d]), P1⟩)
theorem own_c5_3_1 (l : Launch) (Z : State) (a0 : Array Value) (cx : Ctx Z a0) (ws : List Jvm.Cond) (a : Addr) (d : Addr) (kc : ClassId) (kd : ClassId) (c0 : Int32) (c1 : Int32) (c2 : Int32) (vm0 : Vm) (h0 : Heap) (X00 : Ext Z.heap h0) (P0 : Arv Z h0 a kc .char (3 : Int32) [(.int c0), (.int c1), (.int c2)] (.int (0 : Int32))) (P1 : Arv Z h0 d kd .byte (3 : Int32) [(.int (0 : Int32)), (.int (0 : Int32)), (.int (0 : Int32))] (.int (0 : Int32))) (P2 : Z.heap.size ≤ d) (P3 : Safe Z consts_1 vm0 h0 d) (hne : (a ≠ d)) (P5 : (¬ (255 : Int32) < c0)) (P6 : ((255 : Int32) < c1)) :
    Met l mn14 y14_ 7 (some .int) ws ({ frames := 0, cells := 0, slots := 0, locals := 0 } : Room) Z consts_1 vm0 h0 #[(.ref a), (.int (0 : Int32)), (.ref d), (.int (0 : Int32)), (.int (3 : Int32))] (fun rv vm h => rv = some (.int (1 : Int32)) ∧ Keep h0 h [d] ∧ Arv Z h d kd .byte (3 : Int32) [(.int (c0.toInt8.toInt32)), (.int (0 : Int32)), (.int (0 : Int32))] (.int (0 : Int32))) := by
  obtain ⟨hw, hEL, ⟨zc, Scs, hzc⟩, ⟨fm, Sfm, hfm⟩, Sad, Shi, Slo⟩ := id cx
  have hSA := own_SA hw
  refine Met.of_walk (a0 := a0) #[vr a, vi (0 : Int32), vr d, vi (0 : Int32), vi (3 : Int32), un, un] (plainFor_of_name own_pn15) X00 hEL (fun m => by first | (simp [entryFrame, mkF, argsToLocals, Value.category]; done) | rfl) ?_
  intro p e s m below meth c vm hx hby hml hret hnm hC0 hW0
  have lt_a : h0.size > a := P0.lt
  have lt_d : h0.size > d := P1.lt
  have L3 := hC0.safe lt_d P3
  refine uKc 1 (0 : Int32) hx hby d0 rfl rfl ?_
  refine uSI 3 #[vr a, vi (0 : Int32), vr d, vi (0 : Int32), vi (3 : Int32), vi (0 : Int32), un] hx hby d1 rfl rfl ?_
  refine uI 5 hx hby d2 rfl rfl ?_
  refine uI 7 hx hby d3 rfl rfl ?_
  refine uNc 10 hx hby d4 rfl (tlt (by decide)).2.1 ?_
  refine uAN 11 hx hby d5 rfl rfl rfl ?_
  refine uIN 12 hx hby d6 rfl rfl ?_
  refine gldC hx P0 ⟨by decide, by decide⟩ (i := 0) rfl (v := (.int c0)) rfl 13 (hb hby d7) rfl ?_
  refine uSI 15 #[vr a, vi (0 : Int32), vr d, vi (0 : Int32), vi (3 : Int32), vi (0 : Int32), vi c0] hx hby d8 rfl rfl ?_
  refine uI 17 hx hby d9 rfl rfl ?_
  refine uKs 20 (255 : Int32) hx hby d10 rfl rfl ?_
  refine uYc 26 hx hby d11 (flt P5).2.2.2 (by decide) (by decide) ?_
  refine uAN 27 hx hby d16 rfl rfl rfl ?_
  refine uIN 28 hx hby d17 rfl rfl ?_
  refine uI 30 hx hby d18 rfl rfl ?_
  refine gs (mkF m 31 #[vr a, vi (0 : Int32), vr d, vi (0 : Int32), vi (3 : Int32), vi (0 : Int32), vi c0] [(.int (c0.toInt8.toInt32)), (.int (0 : Int32)), (.ref d)]) (fun _ _ A kq => XS.i2b A hx rfl (hb hby d19) rfl kq) ?_
  refine gstB hx P1 ⟨by decide, by decide⟩ (i := 0) rfl (Nat.le_of_ble_eq_true rfl) (y := (c0.toInt8.toInt32)) (narB _) P2 (fun _ => L3) 32 (hb hby d20) rfl ?_
  intro h1 W1 C1 V1
  have z1 := C1.2.1
  replace V1 : Arv Z h1 d kd .byte (3 : Int32) [(.int (c0.toInt8.toInt32)), (.int (0 : Int32)), (.int (0 : Int32))] (.int (0 : Int32)) := V1
  refine uInc 35 #[vr a, vi (1 : Int32), vr d, vi (0 : Int32), vi (3 : Int32), vi (0 : Int32), vi c0] hx hby d21 rfl rfl rfl ?_
  refine uInc 38 #[vr a, vi (1 : Int32), vr d, vi (1 : Int32), vi (3 : Int32), vi (0 : Int32), vi c0] hx hby d22 rfl rfl rfl ?_
  refine uInc 41 #[vr a, vi (1 : Int32), vr d, vi (1 : Int32), vi (3 : Int32), vi (1 : Int32), vi c0] hx hby d23 rfl rfl rfl ?_
  refine uG 3 hx hby d24 (by decide) (by decide) ?_
  refine uI 5 hx hby d2 rfl rfl ?_
  refine uI 7 hx hby d3 rfl rfl ?_
  refine uNc 10 hx hby d4 rfl (tlt (by decide)).2.1 ?_
  refine uAN 11 hx hby d5 rfl rfl rfl ?_
  refine uIN 12 hx hby d6 rfl rfl ?_
  have f2 := (P0.other W1 hne)
  refine gldC hx f2 ⟨by decide, by decide⟩ (i := 1) rfl (v := (.int c1)) rfl 13 (hb hby d7) rfl ?_
  refine uSI 15 #[vr a, vi (1 : Int32), vr d, vi (1 : Int32), vi (3 : Int32), vi (1 : Int32), vi c1] hx hby d8 rfl rfl ?_
  refine uI 17 hx hby d9 rfl rfl ?_
  refine uKs 20 (255 : Int32) hx hby d10 rfl rfl ?_
  refine uNc 23 hx hby d11 rfl (tlt P6).2.2.2 ?_
  refine uI 25 hx hby d12 rfl rfl ?_
  exact gretI hx hret (hb hby d13) (by decide) (by decide) (fun vq Cq => ⟨rfl, ((Keep.refl h0 [d]).wr W1 (Or.inl (List.mem_of_getElem? (i := 0) rfl))), V1⟩)
theorem own_c5_3_2 (l : Launch) (Z : State) (a0 : Array Value) (cx : Ctx Z a0) (ws : List Jvm.Cond) (a : Addr) (d : Addr) (kc : ClassId) (kd : ClassId) (c0 : Int32) (c1 : Int32) (c2 : Int32) (vm0 : Vm) (h0 : Heap) (X00 : Ext Z.heap h0) (P0 : Arv Z h0 a kc .char (3 : Int32) [(.int c0), (.int c1), (.int c2)] (.int (0 : Int32))) (P1 : Arv Z h0 d kd .byte (3 : Int32) [(.int (0 : Int32)), (.int (0 : Int32)), (.int (0 : Int32))] (.int (0 : Int32))) (P2 : Z.heap.size ≤ d) (P3 : Safe Z consts_1 vm0 h0 d) (hne : (a ≠ d)) (P5 : (¬ (255 : Int32) < c0)) (P6 : (¬ (255 : Int32) < c1)) (P7 : ((255 : Int32) < c2)) :
    Met l mn14 y14_ 7 (some .int) ws ({ frames := 0, cells := 0, slots := 0, locals := 0 } : Room) Z consts_1 vm0 h0 #[(.ref a), (.int (0 : Int32)), (.ref d), (.int (0 : Int32)), (.int (3 : Int32))] (fun rv vm h => rv = some (.int (2 : Int32)) ∧ Keep h0 h [d] ∧ Arv Z h d kd .byte (3 : Int32) [(.int (c0.toInt8.toInt32)), (.int (c1.toInt8.toInt32)), (.int (0 : Int32))] (.int (0 : Int32))) := by
  obtain ⟨hw, hEL, ⟨zc, Scs, hzc⟩, ⟨fm, Sfm, hfm⟩, Sad, Shi, Slo⟩ := id cx
  have hSA := own_SA hw
  refine Met.of_walk (a0 := a0) #[vr a, vi (0 : Int32), vr d, vi (0 : Int32), vi (3 : Int32), un, un] (plainFor_of_name own_pn15) X00 hEL (fun m => by first | (simp [entryFrame, mkF, argsToLocals, Value.category]; done) | rfl) ?_
  intro p e s m below meth c vm hx hby hml hret hnm hC0 hW0
  have lt_a : h0.size > a := P0.lt
  have lt_d : h0.size > d := P1.lt
  have L3 := hC0.safe lt_d P3
  refine uKc 1 (0 : Int32) hx hby d0 rfl rfl ?_
  refine uSI 3 #[vr a, vi (0 : Int32), vr d, vi (0 : Int32), vi (3 : Int32), vi (0 : Int32), un] hx hby d1 rfl rfl ?_
  refine uI 5 hx hby d2 rfl rfl ?_
  refine uI 7 hx hby d3 rfl rfl ?_
  refine uNc 10 hx hby d4 rfl (tlt (by decide)).2.1 ?_
  refine uAN 11 hx hby d5 rfl rfl rfl ?_
  refine uIN 12 hx hby d6 rfl rfl ?_
  refine gldC hx P0 ⟨by decide, by decide⟩ (i := 0) rfl (v := (.int c0)) rfl 13 (hb hby d7) rfl ?_
  refine uSI 15 #[vr a, vi (0 : Int32), vr d, vi (0 : Int32), vi (3 : Int32), vi (0 : Int32), vi c0] hx hby d8 rfl rfl ?_
  refine uI 17 hx hby d9 rfl rfl ?_
  refine uKs 20 (255 : Int32) hx hby d10 rfl rfl ?_
  refine uYc 26 hx hby d11 (flt P5).2.2.2 (by decide) (by decide) ?_
  refine uAN 27 hx hby d16 rfl rfl rfl ?_
  refine uIN 28 hx hby d17 rfl rfl ?_
  refine uI 30 hx hby d18 rfl rfl ?_
  refine gs (mkF m 31 #[vr a, vi (0 : Int32), vr d, vi (0 : Int32), vi (3 : Int32), vi (0 : Int32), vi c0] [(.int (c0.toInt8.toInt32)), (.int (0 : Int32)), (.ref d)]) (fun _ _ A kq => XS.i2b A hx rfl (hb hby d19) rfl kq) ?_
  refine gstB hx P1 ⟨by decide, by decide⟩ (i := 0) rfl (Nat.le_of_ble_eq_true rfl) (y := (c0.toInt8.toInt32)) (narB _) P2 (fun _ => L3) 32 (hb hby d20) rfl ?_
  intro h1 W1 C1 V1
  have z1 := C1.2.1
  replace V1 : Arv Z h1 d kd .byte (3 : Int32) [(.int (c0.toInt8.toInt32)), (.int (0 : Int32)), (.int (0 : Int32))] (.int (0 : Int32)) := V1
  refine uInc 35 #[vr a, vi (1 : Int32), vr d, vi (0 : Int32), vi (3 : Int32), vi (0 : Int32), vi c0] hx hby d21 rfl rfl rfl ?_
  refine uInc 38 #[vr a, vi (1 : Int32), vr d, vi (1 : Int32), vi (3 : Int32), vi (0 : Int32), vi c0] hx hby d22 rfl rfl rfl ?_
  refine uInc 41 #[vr a, vi (1 : Int32), vr d, vi (1 : Int32), vi (3 : Int32), vi (1 : Int32), vi c0] hx hby d23 rfl rfl rfl ?_
  refine uG 3 hx hby d24 (by decide) (by decide) ?_
  refine uI 5 hx hby d2 rfl rfl ?_
  refine uI 7 hx hby d3 rfl rfl ?_
  refine uNc 10 hx hby d4 rfl (tlt (by decide)).2.1 ?_
  refine uAN 11 hx hby d5 rfl rfl rfl ?_
  refine uIN 12 hx hby d6 rfl rfl ?_
  have f2 := (P0.other W1 hne)
  refine gldC hx f2 ⟨by decide, by decide⟩ (i := 1) rfl (v := (.int c1)) rfl 13 (hb hby d7) rfl ?_
  refine uSI 15 #[vr a, vi (1 : Int32), vr d, vi (1 : Int32), vi (3 : Int32), vi (1 : Int32), vi c1] hx hby d8 rfl rfl ?_
  refine uI 17 hx hby d9 rfl rfl ?_
  refine uKs 20 (255 : Int32) hx hby d10 rfl rfl ?_
  refine uYc 26 hx hby d11 (flt P6).2.2.2 (by decide) (by decide) ?_
  refine uAN 27 hx hby d16 rfl rfl rfl ?_
  refine uIN 28 hx hby d17 rfl rfl ?_
  refine uI 30 hx hby d18 rfl rfl ?_
  refine gs (mkF m 31 #[vr a, vi (1 : Int32), vr d, vi (1 : Int32), vi (3 : Int32), vi (1 : Int32), vi c1] [(.int (c1.toInt8.toInt32)), (.int (1 : Int32)), (.ref d)]) (fun _ _ A kq => XS.i2b A hx rfl (hb hby d19) rfl kq) ?_
  have f4 := (C1.safe (show h0.size > d by omega) L3)
  refine gstB hx V1 ⟨by decide, by decide⟩ (i := 1) rfl (Nat.le_of_ble_eq_true rfl) (y := (c1.toInt8.toInt32)) (narB _) P2 (fun _ => f4) 32 (hb hby d20) rfl ?_
  intro h3 W3 C3 V3
  have z3 := C3.2.1
  replace V3 : Arv Z h3 d kd .byte (3 : Int32) [(.int (c0.toInt8.toInt32)), (.int (c1.toInt8.toInt32)), (.int (0 : Int32))] (.int (0 : Int32)) := V3
  refine uInc 35 #[vr a, vi (2 : Int32), vr d, vi (1 : Int32), vi (3 : Int32), vi (1 : Int32), vi c1] hx hby d21 rfl rfl rfl ?_
  refine uInc 38 #[vr a, vi (2 : Int32), vr d, vi (2 : Int32), vi (3 : Int32), vi (1 : Int32), vi c1] hx hby d22 rfl rfl rfl ?_
  refine uInc 41 #[vr a, vi (2 : Int32), vr d, vi (2 : Int32), vi (3 : Int32), vi (2 : Int32), vi c1] hx hby d23 rfl rfl rfl ?_
  refine uG 3 hx hby d24 (by decide) (by decide) ?_
  refine uI 5 hx hby d2 rfl rfl ?_
  refine uI 7 hx hby d3 rfl rfl ?_
  refine uNc 10 hx hby d4 rfl (tlt (by decide)).2.1 ?_
  refine uAN 11 hx hby d5 rfl rfl rfl ?_
  refine uIN 12 hx hby d6 rfl rfl ?_
  have f5 := (f2.other W3 hne)
  refine gldC hx f5 ⟨by decide, by decide⟩ (i := 2) rfl (v := (.int c2)) rfl 13 (hb hby d7) rfl ?_
  refine uSI 15 #[vr a, vi (2 : Int32), vr d, vi (2 : Int32), vi (3 : Int32), vi (2 : Int32), vi c2] hx hby d8 rfl rfl ?_
  refine uI 17 hx hby d9 rfl rfl ?_
  refine uKs 20 (255 : Int32) hx hby d10 rfl rfl ?_
  refine uNc 23 hx hby d11 rfl (tlt P7).2.2.2 ?_
  refine uI 25 hx hby d12 rfl rfl ?_
  exact gretI hx hret (hb hby d13) (by decide) (by decide) (fun vq Cq => ⟨rfl, (((Keep.refl h0 [d]).wr W1 (Or.inl (List.mem_of_getElem? (i := 0) rfl))).wr W3 (Or.inl (List.mem_of_getElem? (i := 0) rfl))), V3⟩)
theorem own_c5_3_3 (l : Launch) (Z : State) (a0 : Array Value) (cx : Ctx Z a0) (ws : List Jvm.Cond) (a : Addr) (d : Addr) (kc : ClassId) (kd : ClassId) (c0 : Int32) (c1 : Int32) (c2 : Int32) (vm0 : Vm) (h0 : Heap) (X00 : Ext Z.heap h0) (P0 : Arv Z h0 a kc .char (3 : Int32) [(.int c0), (.int c1), (.int c2)] (.int (0 : Int32))) (P1 : Arv Z h0 d kd .byte (3 : Int32) [(.int (0 : Int32)), (.int (0 : Int32)), (.int (0 : Int32))] (.int (0 : Int32))) (P2 : Z.heap.size ≤ d) (P3 : Safe Z consts_1 vm0 h0 d) (hne : (a ≠ d)) (P5 : (¬ (255 : Int32) < c0)) (P6 : (¬ (255 : Int32) < c1)) (P7 : (¬ (255 : Int32) < c2)) :
    Met l mn14 y14_ 7 (some .int) ws ({ frames := 0, cells := 0, slots := 0, locals := 0 } : Room) Z consts_1 vm0 h0 #[(.ref a), (.int (0 : Int32)), (.ref d), (.int (0 : Int32)), (.int (3 : Int32))] (fun rv vm h => rv = some (.int (3 : Int32)) ∧ Keep h0 h [d] ∧ Arv Z h d kd .byte (3 : Int32) [(.int (c0.toInt8.toInt32)), (.int (c1.toInt8.toInt32)), (.int (c2.toInt8.toInt32))] (.int (0 : Int32))) := by
  obtain ⟨hw, hEL, ⟨zc, Scs, hzc⟩, ⟨fm, Sfm, hfm⟩, Sad, Shi, Slo⟩ := id cx
  have hSA := own_SA hw
  refine Met.of_walk (a0 := a0) #[vr a, vi (0 : Int32), vr d, vi (0 : Int32), vi (3 : Int32), un, un] (plainFor_of_name own_pn15) X00 hEL (fun m => by first | (simp [entryFrame, mkF, argsToLocals, Value.category]; done) | rfl) ?_
  intro p e s m below meth c vm hx hby hml hret hnm hC0 hW0
  have lt_a : h0.size > a := P0.lt
  have lt_d : h0.size > d := P1.lt
  have L3 := hC0.safe lt_d P3
  refine uKc 1 (0 : Int32) hx hby d0 rfl rfl ?_
  refine uSI 3 #[vr a, vi (0 : Int32), vr d, vi (0 : Int32), vi (3 : Int32), vi (0 : Int32), un] hx hby d1 rfl rfl ?_
  refine uI 5 hx hby d2 rfl rfl ?_
  refine uI 7 hx hby d3 rfl rfl ?_
  refine uNc 10 hx hby d4 rfl (tlt (by decide)).2.1 ?_
  refine uAN 11 hx hby d5 rfl rfl rfl ?_
  refine uIN 12 hx hby d6 rfl rfl ?_
  refine gldC hx P0 ⟨by decide, by decide⟩ (i := 0) rfl (v := (.int c0)) rfl 13 (hb hby d7) rfl ?_
  refine uSI 15 #[vr a, vi (0 : Int32), vr d, vi (0 : Int32), vi (3 : Int32), vi (0 : Int32), vi c0] hx hby d8 rfl rfl ?_
  refine uI 17 hx hby d9 rfl rfl ?_
  refine uKs 20 (255 : Int32) hx hby d10 rfl rfl ?_
  refine uYc 26 hx hby d11 (flt P5).2.2.2 (by decide) (by decide) ?_
  refine uAN 27 hx hby d16 rfl rfl rfl ?_
  refine uIN 28 hx hby d17 rfl rfl ?_
  refine uI 30 hx hby d18 rfl rfl ?_
  refine gs (mkF m 31 #[vr a, vi (0 : Int32), vr d, vi (0 : Int32), vi (3 : Int32), vi (0 : Int32), vi c0] [(.int (c0.toInt8.toInt32)), (.int (0 : Int32)), (.ref d)]) (fun _ _ A kq => XS.i2b A hx rfl (hb hby d19) rfl kq) ?_
  refine gstB hx P1 ⟨by decide, by decide⟩ (i := 0) rfl (Nat.le_of_ble_eq_true rfl) (y := (c0.toInt8.toInt32)) (narB _) P2 (fun _ => L3) 32 (hb hby d20) rfl ?_
  intro h1 W1 C1 V1
  have z1 := C1.2.1
  replace V1 : Arv Z h1 d kd .byte (3 : Int32) [(.int (c0.toInt8.toInt32)), (.int (0 : Int32)), (.int (0 : Int32))] (.int (0 : Int32)) := V1
  refine uInc 35 #[vr a, vi (1 : Int32), vr d, vi (0 : Int32), vi (3 : Int32), vi (0 : Int32), vi c0] hx hby d21 rfl rfl rfl ?_
  refine uInc 38 #[vr a, vi (1 : Int32), vr d, vi (1 : Int32), vi (3 : Int32), vi (0 : Int32), vi c0] hx hby d22 rfl rfl rfl ?_
  refine uInc 41 #[vr a, vi (1 : Int32), vr d, vi (1 : Int32), vi (3 : Int32), vi (1 : Int32), vi c0] hx hby d23 rfl rfl rfl ?_
  refine uG 3 hx hby d24 (by decide) (by decide) ?_
  refine uI 5 hx hby d2 rfl rfl ?_
  refine uI 7 hx hby d3 rfl rfl ?_
  refine uNc 10 hx hby d4 rfl (tlt (by decide)).2.1 ?_
  refine uAN 11 hx hby d5 rfl rfl rfl ?_
  refine uIN 12 hx hby d6 rfl rfl ?_
  have f2 := (P0.other W1 hne)
  refine gldC hx f2 ⟨by decide, by decide⟩ (i := 1) rfl (v := (.int c1)) rfl 13 (hb hby d7) rfl ?_
  refine uSI 15 #[vr a, vi (1 : Int32), vr d, vi (1 : Int32), vi (3 : Int32), vi (1 : Int32), vi c1] hx hby d8 rfl rfl ?_
  refine uI 17 hx hby d9 rfl rfl ?_
  refine uKs 20 (255 : Int32) hx hby d10 rfl rfl ?_
  refine uYc 26 hx hby d11 (flt P6).2.2.2 (by decide) (by decide) ?_
  refine uAN 27 hx hby d16 rfl rfl rfl ?_
  refine uIN 28 hx hby d17 rfl rfl ?_
  refine uI 30 hx hby d18 rfl rfl ?_
  refine gs (mkF m 31 #[vr a, vi (1 : Int32), vr d, vi (1 : Int32), vi (3 : Int32), vi (1 : Int32), vi c1] [(.int (c1.toInt8.toInt32)), (.int (1 : Int32)), (.ref d)]) (fun _ _ A kq => XS.i2b A hx rfl (hb hby d19) rfl kq) ?_
  have f4 := (C1.safe (show h0.size > d by omega) L3)
  refine gstB hx V1 ⟨by decide, by decide⟩ (i := 1) rfl (Nat.le_of_ble_eq_true rfl) (y := (c1.toInt8.toInt32)) (narB _) P2 (fun _ => f4) 32 (hb hby d20) rfl ?_
  intro h3 W3 C3 V3
  have z3 := C3.2.1
  replace V3 : Arv Z h3 d kd .byte (3 : Int32) [(.int (c0.toInt8.toInt32)), (.int (c1.toInt8.toInt32)), (.int (0 : Int32))] (.int (0 : Int32)) := V3
  refine uInc 35 #[vr a, vi (2 : Int32), vr d, vi (1 : Int32), vi (3 : Int32), vi (1 : Int32), vi c1] hx hby d21 rfl rfl rfl ?_
  refine uInc 38 #[vr a, vi (2 : Int32), vr d, vi (2 : Int32), vi (3 : Int32), vi (1 : Int32), vi c1] hx hby d22 rfl rfl rfl ?_
  refine uInc 41 #[vr a, vi (2 : Int32), vr d, vi (2 : Int32), vi (3 : Int32), vi (2 : Int32), vi c1] hx hby d23 rfl rfl rfl ?_
  refine uG 3 hx hby d24 (by decide) (by decide) ?_
  refine uI 5 hx hby d2 rfl rfl ?_
  refine uI 7 hx hby d3 rfl rfl ?_
  refine uNc 10 hx hby d4 rfl (tlt (by decide)).2.1 ?_
  refine uAN 11 hx hby d5 rfl rfl rfl ?_
  refine uIN 12 hx hby d6 rfl rfl ?_
  have f5 := (f2.other W3 hne)
  refine gldC hx f5 ⟨by decide, by decide⟩ (i := 2) rfl (v := (.int c2)) rfl 13 (hb hby d7) rfl ?_
  refine uSI 15 #[vr a, vi (2 : Int32), vr d, vi (2 : Int32), vi (3 : Int32), vi (2 : Int32), vi c2] hx hby d8 rfl rfl ?_
  refine uI 17 hx hby d9 rfl rfl ?_
  refine uKs 20 (255 : Int32) hx hby d10 rfl rfl ?_
  refine uYc 26 hx hby d11 (flt P7).2.2.2 (by decide) (by decide) ?_
  refine uAN 27 hx hby d16 rfl rfl rfl ?_
  refine uIN 28 hx hby d17 rfl rfl ?_
  refine uI 30 hx hby d18 rfl rfl ?_
  refine gs (mkF m 31 #[vr a, vi (2 : Int32), vr d, vi (2 : Int32), vi (3 : Int32), vi (2 : Int32), vi c2] [(.int (c2.toInt8.toInt32)), (.int (2 : Int32)), (.ref d)]) (fun _ _ A kq => XS.i2b A hx rfl (hb hby d19) rfl kq) ?_
  have f7 := (C3.safe (show h1.size > d by omega) f4)
  refine gstB hx V3 ⟨by decide, by decide⟩ (i := 2) rfl (Nat.le_of_ble_eq_true rfl) (y := (c2.toInt8.toInt32)) (narB _) P2 (fun _ => f7) 32 (hb hby d20) rfl ?_
  intro h6 W6 C6 V6
  have z6 := C6.2.1
  replace V6 : Arv Z h6 d kd .byte (3 : Int32) [(.int (c0.toInt8.toInt32)), (.int (c1.toInt8.toInt32)), (.int (c2.toInt8.toInt32))] (.int (0 : Int32)) := V6
  refine uInc 35 #[vr a, vi (3 : Int32), vr d, vi (2 : Int32), vi (3 : Int32), vi (2 : Int32), vi c2] hx hby d21 rfl rfl rfl ?_
  refine uInc 38 #[vr a, vi (3 : Int32), vr d, vi (3 : Int32), vi (3 : Int32), vi (2 : Int32), vi c2] hx hby d22 rfl rfl rfl ?_
  refine uInc 41 #[vr a, vi (3 : Int32), vr d, vi (3 : Int32), vi (3 : Int32), vi (3 : Int32), vi c2] hx hby d23 rfl rfl rfl ?_
  refine uG 3 hx hby d24 (by decide) (by decide) ?_
  refine uI 5 hx hby d2 rfl rfl ?_
  refine uI 7 hx hby d3 rfl rfl ?_
  refine uYc 44 hx hby d4 (flt (by decide)).2.1 (by decide) (by decide) ?_
  refine uI 46 hx hby d25 rfl rfl ?_
  exact gretI hx hret (hb hby d26) (by decide) (by decide) (fun vq Cq => ⟨rfl, ((((Keep.refl h0 [d]).wr W1 (Or.inl (List.mem_of_getElem? (i := 0) rfl))).wr W3 (Or.inl (List.mem_of_getElem? (i := 0) rfl))).wr W6 (Or.inl (List.mem_of_getElem? (i := 0) rfl))), V6⟩)
theorem own_nbl3 (l : Launch) (Z : State) (a0 : Array Value) (cx : Ctx Z a0) (ws : List Jvm.Cond)  (vm0 : Vm) (h0 : Heap) (X00 : Ext Z.heap h0)  :
    Met l mn36 y16_ 1 (some .int) ws ({ frames := 0, cells := 0, slots := 0, locals := 0 } : Room) Z consts_1 vm0 h0 #[(.int (3 : Int32))] (fun rv vm h => rv = some (.int (6 : Int32)) ∧ h0 = h) := by
  obtain ⟨hw, hEL, ⟨zc, Scs, hzc⟩, ⟨fm, Sfm, hfm⟩, Sad, Shi, Slo⟩ := id cx
  have hSA := own_SA hw
  refine Met.of_walk (a0 := a0) #[vi (3 : Int32)] (plainFor_of_name own_pn15) X00 hEL (fun m => by first | (simp [entryFrame, mkF, argsToLocals, Value.category]; done) | rfl) ?_
  intro p e s m below meth c vm hx hby hml hret hnm hC0 hW0
  refine uIN 1 hx hby d27 rfl rfl ?_
  refine uY 12 hx hby d28 ((if0 _ _).trans (flt (by decide)).2.1) (by decide) (by decide) ?_
  refine uIN 13 hx hby d29 rfl rfl ?_
  refine gldcI hx (ow hw 87 rfl) 15 (hb hby d30) rfl ?_
  refine uYc 55 hx hby d31 (tlt (by decide)).1 (by decide) (by decide) ?_
  refine uIN 56 hx hby d32 rfl rfl ?_
  refine uKc 57 (1 : Int32) hx hby d33 rfl rfl ?_
  refine gs (mkF m 58 #[vi (3 : Int32)] [(.int (6 : Int32))]) (fun _ _ A kq => XS.ishl A hx rfl (hb hby d34) rfl kq) ?_
  exact gretI hx hret (hb hby d35) (by decide) (by decide) (fun vq Cq => ⟨rfl, rfl⟩)
theorem own_nbf3 (l : Launch) (Z : State) (a0 : Array Value) (cx : Ctx Z a0) (ws : List Jvm.Cond)  (vm0 : Vm) (h0 : Heap) (X00 : Ext Z.heap h0)  :
    Met l mn42 y15_ 1 (some (.array .byte)) ws ({ frames := 1, cells := 1, slots := 6, locals := 12 } : Room) Z consts_1 vm0 h0 #[(.int (3 : Int32))] (fun rv vm h => ∃ (r : Addr), ∃ (kb : ClassId), rv = some (.ref r) ∧ Keep h0 h [] ∧ h0.size ≤ r ∧ Z.heap.size ≤ r ∧ Safe Z consts_1 vm h r ∧ Arv Z h r kb .byte (6 : Int32) [(.int (0 : Int32)), (.int (0 : Int32)), (.int (0 : Int32)), (.int (0 : Int32)), (.int (0 : Int32)), (.int (0 : Int32))] (.int (0 : Int32))) := by
  obtain ⟨hw, hEL, ⟨zc, Scs, hzc⟩, ⟨fm, Sfm, hfm⟩, Sad, Shi, Slo⟩ := id cx
  have hSA := own_SA hw
  refine Met.of_walk (a0 := a0) #[vi (3 : Int32)] (plainFor_of_name own_pn15) X00 hEL (fun m => by first | (simp [entryFrame, mkF, argsToLocals, Value.category]; done) | rfl) ?_
  intro p e s m below meth c vm hx hby hml hret hnm hC0 hW0
  refine uIN 1 hx hby d37 rfl rfl ?_
  refine ginfo fun _ _ O1 => ?_
  refine gcallS (y := mn36) hx (ow hw 84 rfl) (ow hw 85 rfl) (ow hw 73 rfl) (ow hw 86 rfl) (by decide) (fun hZ H hEL => Pay.of_met (W := 0) (own_nbl3 l Z a0 cx []  vm h0 O1 ) (ow hw 86 rfl) (ow hw 73 rfl) (by decide) (by decide) hZ H hEL) 4 (argsL := [(.int (3 : Int32))]) (rest := []) (lenOf own_pd39 rfl) rfl rfl (Nat.le_of_eq rfl) (by rw [hml]; rfl) (hb hby d38) rfl (by decide) (by decide) ?_
  rintro _ vm1 h1 C1 ⟨rfl, rfl⟩
  have z1 := C1.2.1
  refine gat1 ?_
  refine gnewPE hx (ow hw 29 rfl) (n := (6 : Int32)) (by decide) (cap := 6) (by decide) (by decide) (ad := "[B") (by decide) 6 (hb hby d40) rfl (by decide) (by decide) ?_
  intro b2 h2 k2 g2 E2 C2 V2 A2 n2 L2
  have z2 := C2.2.1
  have V2 : Arv Z h2 b2 k2 .byte (6 : Int32) [(.int (0 : Int32)), (.int (0 : Int32)), (.int (0 : Int32)), (.int (0 : Int32)), (.int (0 : Int32)), (.int (0 : Int32))] (.int (0 : Int32)) := V2.pad (pad_rep [] (.int (0 : Int32)) 6)
  have lt_b2 : h2.size > b2 := V2.lt
  exact gretA hx hret rfl rfl (hb hby d41) (by decide) (by decide) (fun vq Cq => ⟨b2, k2, rfl, ((Keep.refl h0 []).ext E2), (by omega), n2, (Cq.safe (show h2.size > b2 by omega) L2), V2⟩)
theorem own_pc3_0 (l : Launch) (Z : State) (a0 : Array Value) (cx : Ctx Z a0) (ws : List Jvm.Cond) (a : Addr) (ch : Int32) (ka : ClassId) (u0 : Value) (u1 : Value) (u2 : Value) (u3 : Value) (u4 : Value) (u5 : Value) (vm0 : Vm) (h0 : Heap) (X00 : Ext Z.heap h0) (P0 : Arv Z h0 a ka .byte (6 : Int32) [u0, u1, u2, u3, u4, u5] (.int (0 : Int32))) (P1 : Z.heap.size ≤ a) (P2 : Safe Z consts_1 vm0 h0 a) :
    Met l mn65 y17_ 3 none ws ({ frames := 0, cells := 0, slots := 0, locals := 0 } : Room) Z consts_1 vm0 h0 #[(.ref a), (.int (0 : Int32)), (.int ch)] (fun rv vm h => rv = none ∧ Keep h0 h [a] ∧ Arv Z h a ka .byte (6 : Int32) [(.int ((ch >>> ((0 : Int32) &&& 31)).toInt8.toInt32)), (.int ((ch >>> ((8 : Int32) &&& 31)).toInt8.toInt32)), u2, u3, u4, u5] (.int (0 : Int32)) ∧ Safe Z consts_1 vm h a) := by
  obtain ⟨hw, hEL, ⟨zc, Scs, hzc⟩, ⟨fm, Sfm, hfm⟩, Sad, Shi, Slo⟩ := id cx
  have hSA := own_SA hw
  refine Met.of_walk (a0 := a0) #[vr a, vi (0 : Int32), vi ch] (plainFor_of_name own_pn15) X00 hEL (fun m => by first | (simp [entryFrame, mkF, argsToLocals, Value.category]; done) | rfl) ?_
  intro p e s m below meth c vm hx hby hml hret hnm hC0 hW0
  have lt_a : h0.size > a := P0.lt
  have L2 := hC0.safe lt_a P2
  refine ggetS (host := "") hx (Or.inl (ow hw 91 rfl)) Via.refl Sad 3 (hb hby d43) rfl ?_
  refine uY 28 hx hby d44 ((if0 _ _).trans (feq (by decide)).2) (by decide) (by decide) ?_
  refine uIN 29 hx hby d45 rfl rfl ?_
  refine uKc 30 (1 : Int32) hx hby d46 rfl rfl ?_
  refine gs (mkF m 31 #[vr a, vi (0 : Int32), vi ch] [(.int (0 : Int32))]) (fun _ _ A kq => XS.ishl A hx rfl (hb hby d47) rfl kq) ?_
  refine uSIN 32 #[vr a, vi (0 : Int32), vi ch] hx hby d48 rfl rfl ?_
  refine uAN 33 hx hby d49 rfl rfl rfl ?_
  refine uIN 34 hx hby d50 rfl rfl ?_
  refine uInc 37 #[vr a, vi (1 : Int32), vi ch] hx hby d51 rfl rfl rfl ?_
  refine uIN 38 hx hby d52 rfl rfl ?_
  refine ggetS (host := "") hx (Or.inl (ow hw 92 rfl)) Via.refl Shi 41 (hb hby d53) rfl ?_
  refine gs (mkF m 42 #[vr a, vi (1 : Int32), vi ch] [(.int (ch >>> ((0 : Int32) &&& 31))), (.int (0 : Int32)), (.ref a)]) (fun _ _ A kq => XS.ishr A hx rfl (hb hby d54) rfl kq) ?_
  refine gs (mkF m 43 #[vr a, vi (1 : Int32), vi ch] [(.int ((ch >>> ((0 : Int32) &&& 31)).toInt8.toInt32)), (.int (0 : Int32)), (.ref a)]) (fun _ _ A kq => XS.i2b A hx rfl (hb hby d55) rfl kq) ?_
  refine gstB hx P0 ⟨by decide, by decide⟩ (i := 0) rfl (Nat.le_of_ble_eq_true rfl) (y := ((ch >>> ((0 : Int32) &&& 31)).toInt8.toInt32)) (narB _) P1 (fun _ => L2) 44 (hb hby d56) rfl ?_
  intro h1 W1 C1 V1
  have z1 := C1.2.1
  replace V1 : Arv Z h1 a ka .byte (6 : Int32) [(.int ((ch >>> ((0 : Int32) &&& 31)).toInt8.toInt32)), u1, u2, u3, u4, u5] (.int (0 : Int32)) := V1
  refine uAN 45 hx hby d57 rfl rfl rfl ?_
  refine uIN 46 hx hby d58 rfl rfl ?_
  refine uIN 47 hx hby d59 rfl rfl ?_
  refine ggetS (host := "") hx (Or.inl (ow hw 93 rfl)) Via.refl Slo 50 (hb hby d60) rfl ?_
  refine gs (mkF m 51 #[vr a, vi (1 : Int32), vi ch] [(.int (ch >>> ((8 : Int32) &&& 31))), (.int (1 : Int32)), (.ref a)]) (fun _ _ A kq => XS.ishr A hx rfl (hb hby d61) rfl kq) ?_
  refine gs (mkF m 52 #[vr a, vi (1 : Int32), vi ch] [(.int ((ch >>> ((8 : Int32) &&& 31)).toInt8.toInt32)), (.int (1 : Int32)), (.ref a)]) (fun _ _ A kq => XS.i2b A hx rfl (hb hby d62) rfl kq) ?_
  have f3 := (C1.safe (show h0.size > a by omega) L2)
  refine gstB hx V1 ⟨by decide, by decide⟩ (i := 1) rfl (Nat.le_of_ble_eq_true rfl) (y := ((ch >>> ((8 : Int32) &&& 31)).toInt8.toInt32)) (narB _) P1 (fun _ => f3) 53 (hb hby d63) rfl ?_
  intro h2 W2 C2 V2
  have z2 := C2.2.1
  replace V2 : Arv Z h2 a ka .byte (6 : Int32) [(.int ((ch >>> ((0 : Int32) &&& 31)).toInt8.toInt32)), (.int ((ch >>> ((8 : Int32) &&& 31)).toInt8.toInt32)), u2, u3, u4, u5] (.int (0 : Int32)) := V2
  have f5 := (C2.safe (show h1.size > a by omega) f3)
  exact gretV hx hret (hb hby d64) (by decide) (by decide) (fun vq Cq => ⟨rfl, (((Keep.refl h0 [a]).wr W1 (Or.inl (List.mem_of_getElem? (i := 0) rfl))).wr W2 (Or.inl (List.mem_of_getElem? (i := 0) rfl))), V2, (Cq.safe (show h2.size > a by omega) f5)⟩)
theorem own_gc3_0 (l : Launch) (Z : State) (a0 : Array Value) (cx : Ctx Z a0) (ws : List Jvm.Cond) (a : Addr) (ka : ClassId) (b0 : Int32) (b1 : Int32) (u2 : Value) (u3 : Value) (u4 : Value) (u5 : Value) (vm0 : Vm) (h0 : Heap) (X00 : Ext Z.heap h0) (P0 : Arv Z h0 a ka .byte (6 : Int32) [(.int b0), (.int b1), u2, u3, u4, u5] (.int (0 : Int32))) :
    Met l mn90 y18_ 2 (some .char) ws ({ frames := 0, cells := 0, slots := 0, locals := 0 } : Room) Z consts_1 vm0 h0 #[(.ref a), (.int (0 : Int32))] (fun rv vm h => rv = some (.int (StrChars.pairCh b0 b1)) ∧ h0 = h) := by
  obtain ⟨hw, hEL, ⟨zc, Scs, hzc⟩, ⟨fm, Sfm, hfm⟩, Sad, Shi, Slo⟩ := id cx
  have hSA := own_SA hw
  refine Met.of_walk (a0 := a0) #[vr a, vi (0 : Int32)] (plainFor_of_name own_pn15) X00 hEL (fun m => by first | (simp [entryFrame, mkF, argsToLocals, Value.category]; done) | rfl) ?_
  intro p e s m below meth c vm hx hby hml hret hnm hC0 hW0
  have lt_a : h0.size > a := P0.lt
  refine ggetS (host := "") hx (Or.inl (ow hw 91 rfl)) Via.refl Sad 3 (hb hby d66) rfl ?_
  refine uY 28 hx hby d67 ((if0 _ _).trans (feq (by decide)).2) (by decide) (by decide) ?_
  refine uIN 29 hx hby d68 rfl rfl ?_
  refine uKc 30 (1 : Int32) hx hby d69 rfl rfl ?_
  refine gs (mkF m 31 #[vr a, vi (0 : Int32)] [(.int (0 : Int32))]) (fun _ _ A kq => XS.ishl A hx rfl (hb hby d70) rfl kq) ?_
  refine uSIN 32 #[vr a, vi (0 : Int32)] hx hby d71 rfl rfl ?_
  refine uAN 33 hx hby d72 rfl rfl rfl ?_
  refine uIN 34 hx hby d73 rfl rfl ?_
  refine uInc 37 #[vr a, vi (1 : Int32)] hx hby d74 rfl rfl rfl ?_
  refine gldB hx P0 ⟨by decide, by decide⟩ (i := 0) rfl (v := (.int b0)) rfl 38 (hb hby d75) rfl ?_
  refine uKs 41 (255 : Int32) hx hby d76 rfl rfl ?_
  refine uiand 42 (b0 &&& (255 : Int32)) hx hby d77 rfl rfl ?_
  refine ggetS (host := "") hx (Or.inl (ow hw 92 rfl)) Via.refl Shi 45 (hb hby d78) rfl ?_
  refine gs (mkF m 46 #[vr a, vi (1 : Int32)] [(.int ((b0 &&& (255 : Int32)) <<< ((0 : Int32) &&& 31)))]) (fun _ _ A kq => XS.ishl A hx rfl (hb hby d79) rfl kq) ?_
  refine uAN 47 hx hby d80 rfl rfl rfl ?_
  refine uIN 48 hx hby d81 rfl rfl ?_
  refine gldB hx P0 ⟨by decide, by decide⟩ (i := 1) rfl (v := (.int b1)) rfl 49 (hb hby d82) rfl ?_
  refine uKs 52 (255 : Int32) hx hby d83 rfl rfl ?_
  refine uiand 53 (b1 &&& (255 : Int32)) hx hby d84 rfl rfl ?_
  refine ggetS (host := "") hx (Or.inl (ow hw 93 rfl)) Via.refl Slo 56 (hb hby d85) rfl ?_
  refine gs (mkF m 57 #[vr a, vi (1 : Int32)] [(.int ((b1 &&& (255 : Int32)) <<< ((8 : Int32) &&& 31))), (.int ((b0 &&& (255 : Int32)) <<< ((0 : Int32) &&& 31)))]) (fun _ _ A kq => XS.ishl A hx rfl (hb hby d86) rfl kq) ?_
  refine uior 58 (((b0 &&& (255 : Int32)) <<< ((0 : Int32) &&& 31)) ||| ((b1 &&& (255 : Int32)) <<< ((8 : Int32) &&& 31))) hx hby d87 rfl rfl ?_
  refine gi2c hx rfl 59 (hb hby d88) rfl ?_
  exact gretN (t := .char) hx hret (by simp) (hb hby d89) (by decide) (by decide) (fun vq Cq => ⟨(congrArg (fun z => some (Value.int z)) (narC2 _)), rfl⟩)
theorem own_pc3_1 (l : Launch) (Z : State) (a0 : Array Value) (cx : Ctx Z a0) (ws : List Jvm.Cond) (a : Addr) (ch : Int32) (ka : ClassId) (u0 : Value) (u1 : Value) (u2 : Value) (u3 : Value) (u4 : Value) (u5 : Value) (vm0 : Vm) (h0 : Heap) (X00 : Ext Z.heap h0) (P0 : Arv Z h0 a ka .byte (6 : Int32) [u0, u1, u2, u3, u4, u5] (.int (0 : Int32))) (P1 : Z.heap.size ≤ a) (P2 : Safe Z consts_1 vm0 h0 a) :
    Met l mn65 y17_ 3 none ws ({ frames := 0, cells := 0, slots := 0, locals := 0 } : Room) Z consts_1 vm0 h0 #[(.ref a), (.int (1 : Int32)), (.int ch)] (fun rv vm h => rv = none ∧ Keep h0 h [a] ∧ Arv Z h a ka .byte (6 : Int32) [u0, u1, (.int ((ch >>> ((0 : Int32) &&& 31)).toInt8.toInt32)), (.int ((ch >>> ((8 : Int32) &&& 31)).toInt8.toInt32)), u4, u5] (.int (0 : Int32)) ∧ Safe Z consts_1 vm h a) := by
  obtain ⟨hw, hEL, ⟨zc, Scs, hzc⟩, ⟨fm, Sfm, hfm⟩, Sad, Shi, Slo⟩ := id cx
  have hSA := own_SA hw
  refine Met.of_walk (a0 := a0) #[vr a, vi (1 : Int32), vi ch] (plainFor_of_name own_pn15) X00 hEL (fun m => by first | (simp [entryFrame, mkF, argsToLocals, Value.category]; done) | rfl) ?_
  intro p e s m below meth c vm hx hby hml hret hnm hC0 hW0
  have lt_a : h0.size > a := P0.lt
  have L2 := hC0.safe lt_a P2
  refine ggetS (host := "") hx (Or.inl (ow hw 91 rfl)) Via.refl Sad 3 (hb hby d43) rfl ?_
  refine uY 28 hx hby d44 ((if0 _ _).trans (feq (by decide)).2) (by decide) (by decide) ?_
  refine uIN 29 hx hby d45 rfl rfl ?_
  refine uKc 30 (1 : Int32) hx hby d46 rfl rfl ?_
  refine gs (mkF m 31 #[vr a, vi (1 : Int32), vi ch] [(.int (2 : Int32))]) (fun _ _ A kq => XS.ishl A hx rfl (hb hby d47) rfl kq) ?_
  refine uSIN 32 #[vr a, vi (2 : Int32), vi ch] hx hby d48 rfl rfl ?_
  refine uAN 33 hx hby d49 rfl rfl rfl ?_
  refine uIN 34 hx hby d50 rfl rfl ?_
  refine uInc 37 #[vr a, vi (3 : Int32), vi ch] hx hby d51 rfl rfl rfl ?_
  refine uIN 38 hx hby d52 rfl rfl ?_
  refine ggetS (host := "") hx (Or.inl (ow hw 92 rfl)) Via.refl Shi 41 (hb hby d53) rfl ?_
  refine gs (mkF m 42 #[vr a, vi (3 : Int32), vi ch] [(.int (ch >>> ((0 : Int32) &&& 31))), (.int (2 : Int32)), (.ref a)]) (fun _ _ A kq => XS.ishr A hx rfl (hb hby d54) rfl kq) ?_
  refine gs (mkF m 43 #[vr a, vi (3 : Int32), vi ch] [(.int ((ch >>> ((0 : Int32) &&& 31)).toInt8.toInt32)), (.int (2 : Int32)), (.ref a)]) (fun _ _ A kq => XS.i2b A hx rfl (hb hby d55) rfl kq) ?_
  refine gstB hx P0 ⟨by decide, by decide⟩ (i := 2) rfl (Nat.le_of_ble_eq_true rfl) (y := ((ch >>> ((0 : Int32) &&& 31)).toInt8.toInt32)) (narB _) P1 (fun _ => L2) 44 (hb hby d56) rfl ?_
  intro h1 W1 C1 V1
  have z1 := C1.2.1
  replace V1 : Arv Z h1 a ka .byte (6 : Int32) [u0, u1, (.int ((ch >>> ((0 : Int32) &&& 31)).toInt8.toInt32)), u3, u4, u5] (.int (0 : Int32)) := V1
  refine uAN 45 hx hby d57 rfl rfl rfl ?_
  refine uIN 46 hx hby d58 rfl rfl ?_
  refine uIN 47 hx hby d59 rfl rfl ?_
  refine ggetS (host := "") hx (Or.inl (ow hw 93 rfl)) Via.refl Slo 50 (hb hby d60) rfl ?_
  refine gs (mkF m 51 #[vr a, vi (3 : Int32), vi ch] [(.int (ch >>> ((8 : Int32) &&& 31))), (.int (3 : Int32)), (.ref a)]) (fun _ _ A kq => XS.ishr A hx rfl (hb hby d61) rfl kq) ?_
  refine gs (mkF m 52 #[vr a, vi (3 : Int32), vi ch] [(.int ((ch >>> ((8 : Int32) &&& 31)).toInt8.toInt32)), (.int (3 : Int32)), (.ref a)]) (fun _ _ A kq => XS.i2b A hx rfl (hb hby d62) rfl kq) ?_
  have f3 := (C1.safe (show h0.size > a by omega) L2)
  refine gstB hx V1 ⟨by decide, by decide⟩ (i := 3) rfl (Nat.le_of_ble_eq_true rfl) (y := ((ch >>> ((8 : Int32) &&& 31)).toInt8.toInt32)) (narB _) P1 (fun _ => f3) 53 (hb hby d63) rfl ?_
  intro h2 W2 C2 V2
  have z2 := C2.2.1
  replace V2 : Arv Z h2 a ka .byte (6 : Int32) [u0, u1, (.int ((ch >>> ((0 : Int32) &&& 31)).toInt8.toInt32)), (.int ((ch >>> ((8 : Int32) &&& 31)).toInt8.toInt32)), u4, u5] (.int (0 : Int32)) := V2
  have f5 := (C2.safe (show h1.size > a by omega) f3)
  exact gretV hx hret (hb hby d64) (by decide) (by decide) (fun vq Cq => ⟨rfl, (((Keep.refl h0 [a]).wr W1 (Or.inl (List.mem_of_getElem? (i := 0) rfl))).wr W2 (Or.inl (List.mem_of_getElem? (i := 0) rfl))), V2, (Cq.safe (show h2.size > a by omega) f5)⟩)
theorem own_gc3_1 (l : Launch) (Z : State) (a0 : Array Value) (cx : Ctx Z a0) (ws : List Jvm.Cond) (a : Addr) (ka : ClassId) (b0 : Int32) (b1 : Int32) (u0 : Value) (u1 : Value) (u4 : Value) (u5 : Value) (vm0 : Vm) (h0 : Heap) (X00 : Ext Z.heap h0) (P0 : Arv Z h0 a ka .byte (6 : Int32) [u0, u1, (.int b0), (.int b1), u4, u5] (.int (0 : Int32))) :
    Met l mn90 y18_ 2 (some .char) ws ({ frames := 0, cells := 0, slots := 0, locals := 0 } : Room) Z consts_1 vm0 h0 #[(.ref a), (.int (1 : Int32))] (fun rv vm h => rv = some (.int (StrChars.pairCh b0 b1)) ∧ h0 = h) := by
  obtain ⟨hw, hEL, ⟨zc, Scs, hzc⟩, ⟨fm, Sfm, hfm⟩, Sad, Shi, Slo⟩ := id cx
  have hSA := own_SA hw
  refine Met.of_walk (a0 := a0) #[vr a, vi (1 : Int32)] (plainFor_of_name own_pn15) X00 hEL (fun m => by first | (simp [entryFrame, mkF, argsToLocals, Value.category]; done) | rfl) ?_
  intro p e s m below meth c vm hx hby hml hret hnm hC0 hW0
  have lt_a : h0.size > a := P0.lt
  refine ggetS (host := "") hx (Or.inl (ow hw 91 rfl)) Via.refl Sad 3 (hb hby d66) rfl ?_
  refine uY 28 hx hby d67 ((if0 _ _).trans (feq (by decide)).2) (by decide) (by decide) ?_
  refine uIN 29 hx hby d68 rfl rfl ?_
  refine uKc 30 (1 : Int32) hx hby d69 rfl rfl ?_
  refine gs (mkF m 31 #[vr a, vi (1 : Int32)] [(.int (2 : Int32))]) (fun _ _ A kq => XS.ishl A hx rfl (hb hby d70) rfl kq) ?_
  refine uSIN 32 #[vr a, vi (2 : Int32)] hx hby d71 rfl rfl ?_
  refine uAN 33 hx hby d72 rfl rfl rfl ?_
  refine uIN 34 hx hby d73 rfl rfl ?_
  refine uInc 37 #[vr a, vi (3 : Int32)] hx hby d74 rfl rfl rfl ?_
  refine gldB hx P0 ⟨by decide, by decide⟩ (i := 2) rfl (v := (.int b0)) rfl 38 (hb hby d75) rfl ?_
  refine uKs 41 (255 : Int32) hx hby d76 rfl rfl ?_
  refine uiand 42 (b0 &&& (255 : Int32)) hx hby d77 rfl rfl ?_
  refine ggetS (host := "") hx (Or.inl (ow hw 92 rfl)) Via.refl Shi 45 (hb hby d78) rfl ?_
  refine gs (mkF m 46 #[vr a, vi (3 : Int32)] [(.int ((b0 &&& (255 : Int32)) <<< ((0 : Int32) &&& 31)))]) (fun _ _ A kq => XS.ishl A hx rfl (hb hby d79) rfl kq) ?_
  refine uAN 47 hx hby d80 rfl rfl rfl ?_
  refine uIN 48 hx hby d81 rfl rfl ?_
  refine gldB hx P0 ⟨by decide, by decide⟩ (i := 3) rfl (v := (.int b1)) rfl 49 (hb hby d82) rfl ?_
  refine uKs 52 (255 : Int32) hx hby d83 rfl rfl ?_
  refine uiand 53 (b1 &&& (255 : Int32)) hx hby d84 rfl rfl ?_
  refine ggetS (host := "") hx (Or.inl (ow hw 93 rfl)) Via.refl Slo 56 (hb hby d85) rfl ?_
  refine gs (mkF m 57 #[vr a, vi (3 : Int32)] [(.int ((b1 &&& (255 : Int32)) <<< ((8 : Int32) &&& 31))), (.int ((b0 &&& (255 : Int32)) <<< ((0 : Int32) &&& 31)))]) (fun _ _ A kq => XS.ishl A hx rfl (hb hby d86) rfl kq) ?_
  refine uior 58 (((b0 &&& (255 : Int32)) <<< ((0 : Int32) &&& 31)) ||| ((b1 &&& (255 : Int32)) <<< ((8 : Int32) &&& 31))) hx hby d87 rfl rfl ?_
  refine gi2c hx rfl 59 (hb hby d88) rfl ?_
  exact gretN (t := .char) hx hret (by simp) (hb hby d89) (by decide) (by decide) (fun vq Cq => ⟨(congrArg (fun z => some (Value.int z)) (narC2 _)), rfl⟩)
theorem own_pc3_2 (l : Launch) (Z : State) (a0 : Array Value) (cx : Ctx Z a0) (ws : List Jvm.Cond) (a : Addr) (ch : Int32) (ka : ClassId) (u0 : Value) (u1 : Value) (u2 : Value) (u3 : Value) (u4 : Value) (u5 : Value) (vm0 : Vm) (h0 : Heap) (X00 : Ext Z.heap h0) (P0 : Arv Z h0 a ka .byte (6 : Int32) [u0, u1, u2, u3, u4, u5] (.int (0 : Int32))) (P1 : Z.heap.size ≤ a) (P2 : Safe Z consts_1 vm0 h0 a) :
    Met l mn65 y17_ 3 none ws ({ frames := 0, cells := 0, slots := 0, locals := 0 } : Room) Z consts_1 vm0 h0 #[(.ref a), (.int (2 : Int32)), (.int ch)] (fun rv vm h => rv = none ∧ Keep h0 h [a] ∧ Arv Z h a ka .byte (6 : Int32) [u0, u1, u2, u3, (.int ((ch >>> ((0 : Int32) &&& 31)).toInt8.toInt32)), (.int ((ch >>> ((8 : Int32) &&& 31)).toInt8.toInt32))] (.int (0 : Int32)) ∧ Safe Z consts_1 vm h a) := by
  obtain ⟨hw, hEL, ⟨zc, Scs, hzc⟩, ⟨fm, Sfm, hfm⟩, Sad, Shi, Slo⟩ := id cx
  have hSA := own_SA hw
  refine Met.of_walk (a0 := a0) #[vr a, vi (2 : Int32), vi ch] (plainFor_of_name own_pn15) X00 hEL (fun m => by first | (simp [entryFrame, mkF, argsToLocals, Value.category]; done) | rfl) ?_
  intro p e s m below meth c vm hx hby hml hret hnm hC0 hW0
  have lt_a : h0.size > a := P0.lt
  have L2 := hC0.safe lt_a P2
  refine ggetS (host := "") hx (Or.inl (ow hw 91 rfl)) Via.refl Sad 3 (hb hby d43) rfl ?_
  refine uY 28 hx hby d44 ((if0 _ _).trans (feq (by decide)).2) (by decide) (by decide) ?_
  refine uIN 29 hx hby d45 rfl rfl ?_
  refine uKc 30 (1 : Int32) hx hby d46 rfl rfl ?_
  refine gs (mkF m 31 #[vr a, vi (2 : Int32), vi ch] [(.int (4 : Int32))]) (fun _ _ A kq => XS.ishl A hx rfl (hb hby d47) rfl kq) ?_
  refine uSIN 32 #[vr a, vi (4 : Int32), vi ch] hx hby d48 rfl rfl ?_
  refine uAN 33 hx hby d49 rfl rfl rfl ?_
  refine uIN 34 hx hby d50 rfl rfl ?_
  refine uInc 37 #[vr a, vi (5 : Int32), vi ch] hx hby d51 rfl rfl rfl ?_
  refine uIN 38 hx hby d52 rfl rfl ?_
  refine ggetS (host := "") hx (Or.inl (ow hw 92 rfl)) Via.refl Shi 41 (hb hby d53) rfl ?_
  refine gs (mkF m 42 #[vr a, vi (5 : Int32), vi ch] [(.int (ch >>> ((0 : Int32) &&& 31))), (.int (4 : Int32)), (.ref a)]) (fun _ _ A kq => XS.ishr A hx rfl (hb hby d54) rfl kq) ?_
  refine gs (mkF m 43 #[vr a, vi (5 : Int32), vi ch] [(.int ((ch >>> ((0 : Int32) &&& 31)).toInt8.toInt32)), (.int (4 : Int32)), (.ref a)]) (fun _ _ A kq => XS.i2b A hx rfl (hb hby d55) rfl kq) ?_
  refine gstB hx P0 ⟨by decide, by decide⟩ (i := 4) rfl (Nat.le_of_ble_eq_true rfl) (y := ((ch >>> ((0 : Int32) &&& 31)).toInt8.toInt32)) (narB _) P1 (fun _ => L2) 44 (hb hby d56) rfl ?_
  intro h1 W1 C1 V1
  have z1 := C1.2.1
  replace V1 : Arv Z h1 a ka .byte (6 : Int32) [u0, u1, u2, u3, (.int ((ch >>> ((0 : Int32) &&& 31)).toInt8.toInt32)), u5] (.int (0 : Int32)) := V1
  refine uAN 45 hx hby d57 rfl rfl rfl ?_
  refine uIN 46 hx hby d58 rfl rfl ?_
  refine uIN 47 hx hby d59 rfl rfl ?_
  refine ggetS (host := "") hx (Or.inl (ow hw 93 rfl)) Via.refl Slo 50 (hb hby d60) rfl ?_
  refine gs (mkF m 51 #[vr a, vi (5 : Int32), vi ch] [(.int (ch >>> ((8 : Int32) &&& 31))), (.int (5 : Int32)), (.ref a)]) (fun _ _ A kq => XS.ishr A hx rfl (hb hby d61) rfl kq) ?_
  refine gs (mkF m 52 #[vr a, vi (5 : Int32), vi ch] [(.int ((ch >>> ((8 : Int32) &&& 31)).toInt8.toInt32)), (.int (5 : Int32)), (.ref a)]) (fun _ _ A kq => XS.i2b A hx rfl (hb hby d62) rfl kq) ?_
  have f3 := (C1.safe (show h0.size > a by omega) L2)
  refine gstB hx V1 ⟨by decide, by decide⟩ (i := 5) rfl (Nat.le_of_ble_eq_true rfl) (y := ((ch >>> ((8 : Int32) &&& 31)).toInt8.toInt32)) (narB _) P1 (fun _ => f3) 53 (hb hby d63) rfl ?_
  intro h2 W2 C2 V2
  have z2 := C2.2.1
  replace V2 : Arv Z h2 a ka .byte (6 : Int32) [u0, u1, u2, u3, (.int ((ch >>> ((0 : Int32) &&& 31)).toInt8.toInt32)), (.int ((ch >>> ((8 : Int32) &&& 31)).toInt8.toInt32))] (.int (0 : Int32)) := V2
  have f5 := (C2.safe (show h1.size > a by omega) f3)
  exact gretV hx hret (hb hby d64) (by decide) (by decide) (fun vq Cq => ⟨rfl, (((Keep.refl h0 [a]).wr W1 (Or.inl (List.mem_of_getElem? (i := 0) rfl))).wr W2 (Or.inl (List.mem_of_getElem? (i := 0) rfl))), V2, (Cq.safe (show h2.size > a by omega) f5)⟩)
theorem own_gc3_2 (l : Launch) (Z : State) (a0 : Array Value) (cx : Ctx Z a0) (ws : List Jvm.Cond) (a : Addr) (ka : ClassId) (b0 : Int32) (b1 : Int32) (u0 : Value) (u1 : Value) (u2 : Value) (u3 : Value) (vm0 : Vm) (h0 : Heap) (X00 : Ext Z.heap h0) (P0 : Arv Z h0 a ka .byte (6 : Int32) [u0, u1, u2, u3, (.int b0), (.int b1)] (.int (0 : Int32))) :
    Met l mn90 y18_ 2 (some .char) ws ({ frames := 0, cells := 0, slots := 0, locals := 0 } : Room) Z consts_1 vm0 h0 #[(.ref a), (.int (2 : Int32))] (fun rv vm h => rv = some (.int (StrChars.pairCh b0 b1)) ∧ h0 = h) := by
  obtain ⟨hw, hEL, ⟨zc, Scs, hzc⟩, ⟨fm, Sfm, hfm⟩, Sad, Shi, Slo⟩ := id cx
  have hSA := own_SA hw
  refine Met.of_walk (a0 := a0) #[vr a, vi (2 : Int32)] (plainFor_of_name own_pn15) X00 hEL (fun m => by first | (simp [entryFrame, mkF, argsToLocals, Value.category]; done) | rfl) ?_
  intro p e s m below meth c vm hx hby hml hret hnm hC0 hW0
  have lt_a : h0.size > a := P0.lt
  refine ggetS (host := "") hx (Or.inl (ow hw 91 rfl)) Via.refl Sad 3 (hb hby d66) rfl ?_
  refine uY 28 hx hby d67 ((if0 _ _).trans (feq (by decide)).2) (by decide) (by decide) ?_
  refine uIN 29 hx hby d68 rfl rfl ?_
  refine uKc 30 (1 : Int32) hx hby d69 rfl rfl ?_
  refine gs (mkF m 31 #[vr a, vi (2 : Int32)] [(.int (4 : Int32))]) (fun _ _ A kq => XS.ishl A hx rfl (hb hby d70) rfl kq) ?_
  refine uSIN 32 #[vr a, vi (4 : Int32)] hx hby d71 rfl rfl ?_
  refine uAN 33 hx hby d72 rfl rfl rfl ?_
  refine uIN 34 hx hby d73 rfl rfl ?_
  refine uInc 37 #[vr a, vi (5 : Int32)] hx hby d74 rfl rfl rfl ?_
  refine gldB hx P0 ⟨by decide, by decide⟩ (i := 4) rfl (v := (.int b0)) rfl 38 (hb hby d75) rfl ?_
  refine uKs 41 (255 : Int32) hx hby d76 rfl rfl ?_
  refine uiand 42 (b0 &&& (255 : Int32)) hx hby d77 rfl rfl ?_
  refine ggetS (host := "") hx (Or.inl (ow hw 92 rfl)) Via.refl Shi 45 (hb hby d78) rfl ?_
  refine gs (mkF m 46 #[vr a, vi (5 : Int32)] [(.int ((b0 &&& (255 : Int32)) <<< ((0 : Int32) &&& 31)))]) (fun _ _ A kq => XS.ishl A hx rfl (hb hby d79) rfl kq) ?_
  refine uAN 47 hx hby d80 rfl rfl rfl ?_
  refine uIN 48 hx hby d81 rfl rfl ?_
  refine gldB hx P0 ⟨by decide, by decide⟩ (i := 5) rfl (v := (.int b1)) rfl 49 (hb hby d82) rfl ?_
  refine uKs 52 (255 : Int32) hx hby d83 rfl rfl ?_
  refine uiand 53 (b1 &&& (255 : Int32)) hx hby d84 rfl rfl ?_
  refine ggetS (host := "") hx (Or.inl (ow hw 93 rfl)) Via.refl Slo 56 (hb hby d85) rfl ?_
  refine gs (mkF m 57 #[vr a, vi (5 : Int32)] [(.int ((b1 &&& (255 : Int32)) <<< ((8 : Int32) &&& 31))), (.int ((b0 &&& (255 : Int32)) <<< ((0 : Int32) &&& 31)))]) (fun _ _ A kq => XS.ishl A hx rfl (hb hby d86) rfl kq) ?_
  refine uior 58 (((b0 &&& (255 : Int32)) <<< ((0 : Int32) &&& 31)) ||| ((b1 &&& (255 : Int32)) <<< ((8 : Int32) &&& 31))) hx hby d87 rfl rfl ?_
  refine gi2c hx rfl 59 (hb hby d88) rfl ?_
  exact gretN (t := .char) hx hret (by simp) (hb hby d89) (by decide) (by decide) (fun vq Cq => ⟨(congrArg (fun z => some (Value.int z)) (narC2 _)), rfl⟩)
theorem own_tb3 (l : Launch) (Z : State) (a0 : Array Value) (cx : Ctx Z a0) (ws : List Jvm.Cond) (a : Addr) (kc : ClassId) (c0 : Int32) (c1 : Int32) (c2 : Int32) (vm0 : Vm) (h0 : Heap) (X00 : Ext Z.heap h0) (P0 : Arv Z h0 a kc .char (3 : Int32) [(.int c0), (.int c1), (.int c2)] (.int (0 : Int32))) :
    Met l mn112 y11_ 5 (some (.array .byte)) ws ({ frames := 2, cells := 1, slots := 6, locals := 24 } : Room) Z consts_1 vm0 h0 #[(.ref a), (.int (0 : Int32)), (.int (3 : Int32))] (fun rv vm h => ∃ (r : Addr), ∃ (kb : ClassId), rv = some (.ref r) ∧ Keep h0 h [] ∧ h0.size ≤ r ∧ Arv Z h r kb .byte (6 : Int32) [(.int ((c0 >>> ((0 : Int32) &&& 31)).toInt8.toInt32)), (.int ((c0 >>> ((8 : Int32) &&& 31)).toInt8.toInt32)), (.int ((c1 >>> ((0 : Int32) &&& 31)).toInt8.toInt32)), (.int ((c1 >>> ((8 : Int32) &&& 31)).toInt8.toInt32)), (.int ((c2 >>> ((0 : Int32) &&& 31)).toInt8.toInt32)), (.int ((c2 >>> ((8 : Int32) &&& 31)).toInt8.toInt32))] (.int (0 : Int32))) := by
  obtain ⟨hw, hEL, ⟨zc, Scs, hzc⟩, ⟨fm, Sfm, hfm⟩, Sad, Shi, Slo⟩ := id cx
  have hSA := own_SA hw
  refine Met.of_walk (a0 := a0) #[vr a, vi (0 : Int32), vi (3 : Int32), un, un] (plainFor_of_name own_pn15) X00 hEL (fun m => by first | (simp [entryFrame, mkF, argsToLocals, Value.category]; done) | rfl) ?_
  intro p e s m below meth c vm hx hby hml hret hnm hC0 hW0
  have lt_a : h0.size > a := P0.lt
  refine uIN 1 hx hby d91 rfl rfl ?_
  refine ginfo fun _ _ O1 => ?_
  refine gcallS (y := mn42) hx (ow hw 81 rfl) (ow hw 82 rfl) (ow hw 73 rfl) (ow hw 83 rfl) (by decide) (fun hZ H hEL => Pay.of_met (W := 0) (own_nbf3 l Z a0 cx []  vm h0 O1 ) (ow hw 83 rfl) (ow hw 73 rfl) (by decide) (by decide) hZ H hEL) 4 (argsL := [(.int (3 : Int32))]) (rest := []) (lenOf own_pd93 rfl) rfl rfl (Nat.le_of_eq rfl) (by rw [hml]; rfl) (hb hby d92) rfl (by decide) (by decide) ?_
  rintro _ vm1 h1 C1 ⟨r1, kb1, rfl, K1, q1_0, q1_1, q1_2, q1_3⟩
  have z1 := C1.2.1
  have lt_r1 : h1.size > r1 := q1_3.lt
  refine gat1 ?_
  refine uSAN 5 #[vr a, vi (0 : Int32), vi (3 : Int32), vr r1, un] hx hby d94 rfl rfl rfl ?_
  refine uKc 6 (0 : Int32) hx hby d95 rfl rfl ?_
  refine uSI 8 #[vr a, vi (0 : Int32), vi (3 : Int32), vr r1, vi (0 : Int32)] hx hby d96 rfl rfl ?_
  refine uI 10 hx hby d97 rfl rfl ?_
  refine uIN 11 hx hby d98 rfl rfl ?_
  refine uNc 14 hx hby d99 rfl (tlt (by decide)).2.1 ?_
  refine uAN 15 hx hby d100 rfl rfl rfl ?_
  refine uI 17 hx hby d101 rfl rfl ?_
  refine uAN 18 hx hby d102 rfl rfl rfl ?_
  refine uIN 19 hx hby d103 rfl rfl ?_
  have f2 := (P0.keep K1 nin0)
  refine gldC hx f2 ⟨by decide, by decide⟩ (i := 0) rfl (v := (.int c0)) rfl 20 (hb hby d104) rfl ?_
  refine ginfo fun _ _ O3 => ?_
  refine gcallS (y := mn65) hx (ow hw 88 rfl) (ow hw 89 rfl) (ow hw 73 rfl) (ow hw 90 rfl) (by decide) (fun hZ H hEL => Pay.of_met (W := 0) (own_pc3_0 l Z a0 cx [] (r1) (c0) (kb1) ((.int (0 : Int32))) ((.int (0 : Int32))) ((.int (0 : Int32))) ((.int (0 : Int32))) ((.int (0 : Int32))) ((.int (0 : Int32))) vm1 h1 O3 q1_3 q1_1 q1_2) (ow hw 90 rfl) (ow hw 73 rfl) (by decide) (by decide) hZ H hEL) 23 (argsL := [(.ref r1), (.int (0 : Int32)), (.int c0)]) (rest := []) (lenOf own_pd106 rfl) rfl rfl (Nat.le_of_eq rfl) (by rw [hml]; rfl) (hb hby d105) rfl (by decide) (by decide) ?_
  rintro _ vm3 h3 C3 ⟨rfl, K3, q3_0, q3_1⟩
  have z3 := C3.2.1
  refine gat0 ?_
  refine uInc 26 #[vr a, vi (1 : Int32), vi (3 : Int32), vr r1, vi (0 : Int32)] hx hby d107 rfl rfl rfl ?_
  refine uInc 29 #[vr a, vi (1 : Int32), vi (3 : Int32), vr r1, vi (1 : Int32)] hx hby d108 rfl rfl rfl ?_
  refine uG 8 hx hby d109 (by decide) (by decide) ?_
  refine uI 10 hx hby d97 rfl rfl ?_
  refine uIN 11 hx hby d98 rfl rfl ?_
  refine uNc 14 hx hby d99 rfl (tlt (by decide)).2.1 ?_
  refine uAN 15 hx hby d100 rfl rfl rfl ?_
  refine uI 17 hx hby d101 rfl rfl ?_
  refine uAN 18 hx hby d102 rfl rfl rfl ?_
  refine uIN 19 hx hby d103 rfl rfl ?_
  have f4 := (f2.keep K3 (ninS (Nat.ne_of_lt (by omega)) nin0))
  refine gldC hx f4 ⟨by decide, by decide⟩ (i := 1) rfl (v := (.int c1)) rfl 20 (hb hby d104) rfl ?_
  refine ginfo fun _ _ O5 => ?_
  refine gcallS (y := mn65) hx (ow hw 88 rfl) (ow hw 89 rfl) (ow hw 73 rfl) (ow hw 90 rfl) (by decide) (fun hZ H hEL => Pay.of_met (W := 0) (own_pc3_1 l Z a0 cx [] (r1) (c1) (kb1) ((.int ((c0 >>> ((0 : Int32) &&& 31)).toInt8.toInt32))) ((.int ((c0 >>> ((8 : Int32) &&& 31)).toInt8.toInt32))) ((.int (0 : Int32))) ((.int (0 : Int32))) ((.int (0 : Int32))) ((.int (0 : Int32))) vm3 h3 O5 q3_0 q1_1 q3_1) (ow hw 90 rfl) (ow hw 73 rfl) (by decide) (by decide) hZ H hEL) 23 (argsL := [(.ref r1), (.int (1 : Int32)), (.int c1)]) (rest := []) (lenOf own_pd106 rfl) rfl rfl (Nat.le_of_eq rfl) (by rw [hml]; rfl) (hb hby d105) rfl (by decide) (by decide) ?_
  rintro _ vm5 h5 C5 ⟨rfl, K5, q5_0, q5_1⟩
  have z5 := C5.2.1
  refine gat0 ?_
  refine uInc 26 #[vr a, vi (2 : Int32), vi (3 : Int32), vr r1, vi (1 : Int32)] hx hby d107 rfl rfl rfl ?_
  refine uInc 29 #[vr a, vi (2 : Int32), vi (3 : Int32), vr r1, vi (2 : Int32)] hx hby d108 rfl rfl rfl ?_
  refine uG 8 hx hby d109 (by decide) (by decide) ?_
  refine uI 10 hx hby d97 rfl rfl ?_
  refine uIN 11 hx hby d98 rfl rfl ?_
  refine uNc 14 hx hby d99 rfl (tlt (by decide)).2.1 ?_
  refine uAN 15 hx hby d100 rfl rfl rfl ?_
  refine uI 17 hx hby d101 rfl rfl ?_
  refine uAN 18 hx hby d102 rfl rfl rfl ?_
  refine uIN 19 hx hby d103 rfl rfl ?_
  have f6 := (f4.keep K5 (ninS (Nat.ne_of_lt (by omega)) nin0))
  refine gldC hx f6 ⟨by decide, by decide⟩ (i := 2) rfl (v := (.int c2)) rfl 20 (hb hby d104) rfl ?_
  refine ginfo fun _ _ O7 => ?_
  refine gcallS (y := mn65) hx (ow hw 88 rfl) (ow hw 89 rfl) (ow hw 73 rfl) (ow hw 90 rfl) (by decide) (fun hZ H hEL => Pay.of_met (W := 0) (own_pc3_2 l Z a0 cx [] (r1) (c2) (kb1) ((.int ((c0 >>> ((0 : Int32) &&& 31)).toInt8.toInt32))) ((.int ((c0 >>> ((8 : Int32) &&& 31)).toInt8.toInt32))) ((.int ((c1 >>> ((0 : Int32) &&& 31)).toInt8.toInt32))) ((.int ((c1 >>> ((8 : Int32) &&& 31)).toInt8.toInt32))) ((.int (0 : Int32))) ((.int (0 : Int32))) vm5 h5 O7 q5_0 q1_1 q5_1) (ow hw 90 rfl) (ow hw 73 rfl) (by decide) (by decide) hZ H hEL) 23 (argsL := [(.ref r1), (.int (2 : Int32)), (.int c2)]) (rest := []) (lenOf own_pd106 rfl) rfl rfl (Nat.le_of_eq rfl) (by rw [hml]; rfl) (hb hby d105) rfl (by decide) (by decide) ?_
  rintro _ vm7 h7 C7 ⟨rfl, K7, q7_0, q7_1⟩
  have z7 := C7.2.1
  refine gat0 ?_
  refine uInc 26 #[vr a, vi (3 : Int32), vi (3 : Int32), vr r1, vi (2 : Int32)] hx hby d107 rfl rfl rfl ?_
  refine uInc 29 #[vr a, vi (3 : Int32), vi (3 : Int32), vr r1, vi (3 : Int32)] hx hby d108 rfl rfl rfl ?_
  refine uG 8 hx hby d109 (by decide) (by decide) ?_
  refine uI 10 hx hby d97 rfl rfl ?_
  refine uIN 11 hx hby d98 rfl rfl ?_
  refine uYc 32 hx hby d99 (flt (by decide)).2.1 (by decide) (by decide) ?_
  refine uAN 33 hx hby d110 rfl rfl rfl ?_
  exact gretA hx hret rfl rfl (hb hby d111) (by decide) (by decide) (fun vq Cq => ⟨r1, kb1, rfl, (((((Keep.refl h0 []).trans K1 all0).trans K3 (allS (Or.inr (by omega)) all0)).trans K5 (allS (Or.inr (by omega)) all0)).trans K7 (allS (Or.inr (by omega)) all0)), (by omega), q7_0⟩)
theorem own_c3_3_0 (l : Launch) (Z : State) (a0 : Array Value) (cx : Ctx Z a0) (ws : List Jvm.Cond) (a : Addr) (kc : ClassId) (c0 : Int32) (c1 : Int32) (c2 : Int32) (vm0 : Vm) (h0 : Heap) (X00 : Ext Z.heap h0) (P0 : Arv Z h0 a kc .char (3 : Int32) [(.int c0), (.int c1), (.int c2)] (.int (0 : Int32))) (P1 : ((255 : Int32) < c0)) (hB : (¬ c0 < 0 ∧ ¬ (65535 : Int32) < c0)) :
    Met l mn141 y13_ 6 (some (.array .byte)) ws ({ frames := 3, cells := 2, slots := 9, locals := 40 } : Room) Z consts_1 vm0 h0 #[(.ref a), (.int (0 : Int32)), (.int (3 : Int32))] (fun rv vm h => ∃ (r : Addr), ∃ (kb : ClassId), rv = some (.ref r) ∧ Keep h0 h [] ∧ h0.size ≤ r ∧ Arv Z h r kb .byte (6 : Int32) [(.int ((c0 >>> ((0 : Int32) &&& 31)).toInt8.toInt32)), (.int ((c0 >>> ((8 : Int32) &&& 31)).toInt8.toInt32)), (.int ((c1 >>> ((0 : Int32) &&& 31)).toInt8.toInt32)), (.int ((c1 >>> ((8 : Int32) &&& 31)).toInt8.toInt32)), (.int ((c2 >>> ((0 : Int32) &&& 31)).toInt8.toInt32)), (.int ((c2 >>> ((8 : Int32) &&& 31)).toInt8.toInt32))] (.int (0 : Int32))) := by
  obtain ⟨hw, hEL, ⟨zc, Scs, hzc⟩, ⟨fm, Sfm, hfm⟩, Sad, Shi, Slo⟩ := id cx
  have hSA := own_SA hw
  refine Met.of_walk (a0 := a0) #[vr a, vi (0 : Int32), vi (3 : Int32), un, un, un] (plainFor_of_name own_pn15) X00 hEL (fun m => by first | (simp [entryFrame, mkF, argsToLocals, Value.category]; done) | rfl) ?_
  intro p e s m below meth c vm hx hby hml hret hnm hC0 hW0
  have lt_a : h0.size > a := P0.lt
  refine uIN 1 hx hby d113 rfl rfl ?_
  refine gnewPE hx (ow hw 29 rfl) (n := (3 : Int32)) (by decide) (cap := 3) (by decide) (by decide) (ad := "[B") (by decide) 3 (hb hby d114) rfl (by decide) (by decide) ?_
  intro b1 h1 k1 g1 E1 C1 V1 A1 n1 L1
  have z1 := C1.2.1
  have V1 : Arv Z h1 b1 k1 .byte (3 : Int32) [(.int (0 : Int32)), (.int (0 : Int32)), (.int (0 : Int32))] (.int (0 : Int32)) := V1.pad (pad_rep [] (.int (0 : Int32)) 3)
  have lt_b1 : h1.size > b1 := V1.lt
  refine uSAN 4 #[vr a, vi (0 : Int32), vi (3 : Int32), vr b1, un, un] hx hby d115 rfl rfl rfl ?_
  refine uAN 5 hx hby d116 rfl rfl rfl ?_
  refine uIN 6 hx hby d117 rfl rfl ?_
  refine uAN 7 hx hby d118 rfl rfl rfl ?_
  refine uKc 8 (0 : Int32) hx hby d119 rfl rfl ?_
  refine uIN 9 hx hby d120 rfl rfl ?_
  have f3 := (P0.ext E1)
  refine ginfo fun _ _ O2 => ?_
  refine gcallS (y := mn14) hx (ow hw 75 rfl) (ow hw 76 rfl) (ow hw 73 rfl) (ow hw 77 rfl) (by decide) (fun hZ H hEL => Pay.of_met (W := 0) (own_c5_3_0 l Z a0 cx [] (a) (b1) (kc) (k1) (c0) (c1) (c2) vm h1 O2 f3 V1 n1 L1 (Nat.ne_of_lt (by omega)) (by first | assumption | decide | omega)) (ow hw 77 rfl) (ow hw 73 rfl) (by decide) (by decide) hZ H hEL) 12 (argsL := [(.ref a), (.int (0 : Int32)), (.ref b1), (.int (0 : Int32)), (.int (3 : Int32))]) (rest := []) (lenOf own_pd122 rfl) rfl rfl (Nat.le_of_eq rfl) (by rw [hml]; rfl) (hb hby d121) rfl (by decide) (by decide) ?_
  rintro _ vm2 h2 C2 ⟨rfl, K2, q2_0⟩
  have z2 := C2.2.1
  refine gat1 ?_
  refine uSI 14 #[vr a, vi (0 : Int32), vi (3 : Int32), vr b1, vi (0 : Int32), un] hx hby d123 rfl rfl ?_
  refine uI 16 hx hby d124 rfl rfl ?_
  refine uIN 17 hx hby d125 rfl rfl ?_
  refine uNc 20 hx hby d126 rfl (feq (by decide)).1 ?_
  refine uAN 21 hx hby d127 rfl rfl rfl ?_
  refine uIN 22 hx hby d128 rfl rfl ?_
  refine uIN 23 hx hby d129 rfl rfl ?_
  have f5 := (f3.keep K2 (ninS (Nat.ne_of_lt (by omega)) nin0))
  refine ginfo fun _ _ O4 => ?_
  refine gcallS (y := mn112) hx (ow hw 78 rfl) (ow hw 79 rfl) (ow hw 73 rfl) (ow hw 80 rfl) (by decide) (fun hZ H hEL => Pay.of_met (W := 0) (own_tb3 l Z a0 cx [] (a) (kc) (c0) (c1) (c2) vm2 h2 O4 f5) (ow hw 80 rfl) (ow hw 73 rfl) (by decide) (by decide) hZ H hEL) 26 (argsL := [(.ref a), (.int (0 : Int32)), (.int (3 : Int32))]) (rest := []) (lenOf own_pd131 rfl) rfl rfl (Nat.le_of_eq rfl) (by rw [hml]; rfl) (hb hby d130) rfl (by decide) (by decide) ?_
  rintro _ vm4 h4 C4 ⟨r4, kb4, rfl, K4, q4_0, q4_1⟩
  have z4 := C4.2.1
  have lt_r4 : h4.size > r4 := q4_1.lt
  refine gat1 ?_
  refine uSA 28 #[vr a, vi (0 : Int32), vi (3 : Int32), vr b1, vi (0 : Int32), vr r4] hx hby d132 rfl rfl rfl ?_
  refine uA 30 hx hby d133 rfl rfl rfl ?_
  refine uI 32 hx hby d134 rfl rfl ?_
  refine ginfo fun _ _ O6 => ?_
  refine gcallS (y := mn90) hx (ow hw 94 rfl) (ow hw 95 rfl) (ow hw 73 rfl) (ow hw 96 rfl) (by decide) (fun hZ H hEL => Pay.of_met (W := 0) (own_gc3_0 l Z a0 cx [] (r4) (kb4) (((c0 >>> ((0 : Int32) &&& 31)).toInt8.toInt32)) (((c0 >>> ((8 : Int32) &&& 31)).toInt8.toInt32)) ((.int ((c1 >>> ((0 : Int32) &&& 31)).toInt8.toInt32))) ((.int ((c1 >>> ((8 : Int32) &&& 31)).toInt8.toInt32))) ((.int ((c2 >>> ((0 : Int32) &&& 31)).toInt8.toInt32))) ((.int ((c2 >>> ((8 : Int32) &&& 31)).toInt8.toInt32))) vm4 h4 O6 q4_1) (ow hw 96 rfl) (ow hw 73 rfl) (by decide) (by decide) hZ H hEL) 35 (argsL := [(.ref r4), (.int (0 : Int32))]) (rest := []) (lenOf own_pd136 rfl) rfl rfl (Nat.le_of_eq rfl) (by rw [hml]; rfl) (hb hby d135) rfl (by decide) (by decide) ?_
  rintro _ vm6 h6 C6 ⟨rfl, rfl⟩
  have z6 := C6.2.1
  refine gat1 ?_
  refine uKs 38 (255 : Int32) hx hby d137 rfl rfl ?_
  refine uYc 54 hx hby d138 (tlt (own_pair hB P1)).2.2.1 (by decide) (by decide) ?_
  refine uA 56 hx hby d139 rfl rfl rfl ?_
  exact gretA hx hret rfl rfl (hb hby d140) (by decide) (by decide) (fun vq Cq => ⟨r4, kb4, rfl, ((((Keep.refl h0 []).ext E1).trans K2 (allS (Or.inr (by omega)) all0)).trans K4 all0), (by omega), q4_1⟩)
theorem own_c3_3_1 (l : Launch) (Z : State) (a0 : Array Value) (cx : Ctx Z a0) (ws : List Jvm.Cond) (a : Addr) (kc : ClassId) (c0 : Int32) (c1 : Int32) (c2 : Int32) (vm0 : Vm) (h0 : Heap) (X00 : Ext Z.heap h0) (P0 : Arv Z h0 a kc .char (3 : Int32) [(.int c0), (.int c1), (.int c2)] (.int (0 : Int32))) (P1 : (¬ (255 : Int32) < c0)) (P2 : ((255 : Int32) < c1)) (hB : (¬ c1 < 0 ∧ ¬ (65535 : Int32) < c1)) :
    Met l mn141 y13_ 6 (some (.array .byte)) ws ({ frames := 3, cells := 2, slots := 9, locals := 40 } : Room) Z consts_1 vm0 h0 #[(.ref a), (.int (0 : Int32)), (.int (3 : Int32))] (fun rv vm h => ∃ (r : Addr), ∃ (kb : ClassId), rv = some (.ref r) ∧ Keep h0 h [] ∧ h0.size ≤ r ∧ Arv Z h r kb .byte (6 : Int32) [(.int ((c0 >>> ((0 : Int32) &&& 31)).toInt8.toInt32)), (.int ((c0 >>> ((8 : Int32) &&& 31)).toInt8.toInt32)), (.int ((c1 >>> ((0 : Int32) &&& 31)).toInt8.toInt32)), (.int ((c1 >>> ((8 : Int32) &&& 31)).toInt8.toInt32)), (.int ((c2 >>> ((0 : Int32) &&& 31)).toInt8.toInt32)), (.int ((c2 >>> ((8 : Int32) &&& 31)).toInt8.toInt32))] (.int (0 : Int32))) := by
  obtain ⟨hw, hEL, ⟨zc, Scs, hzc⟩, ⟨fm, Sfm, hfm⟩, Sad, Shi, Slo⟩ := id cx
  have hSA := own_SA hw
  refine Met.of_walk (a0 := a0) #[vr a, vi (0 : Int32), vi (3 : Int32), un, un, un] (plainFor_of_name own_pn15) X00 hEL (fun m => by first | (simp [entryFrame, mkF, argsToLocals, Value.category]; done) | rfl) ?_
  intro p e s m below meth c vm hx hby hml hret hnm hC0 hW0
  have lt_a : h0.size > a := P0.lt
  refine uIN 1 hx hby d113 rfl rfl ?_
  refine gnewPE hx (ow hw 29 rfl) (n := (3 : Int32)) (by decide) (cap := 3) (by decide) (by decide) (ad := "[B") (by decide) 3 (hb hby d114) rfl (by decide) (by decide) ?_
  intro b1 h1 k1 g1 E1 C1 V1 A1 n1 L1
  have z1 := C1.2.1
  have V1 : Arv Z h1 b1 k1 .byte (3 : Int32) [(.int (0 : Int32)), (.int (0 : Int32)), (.int (0 : Int32))] (.int (0 : Int32)) := V1.pad (pad_rep [] (.int (0 : Int32)) 3)
  have lt_b1 : h1.size > b1 := V1.lt
  refine uSAN 4 #[vr a, vi (0 : Int32), vi (3 : Int32), vr b1, un, un] hx hby d115 rfl rfl rfl ?_
  refine uAN 5 hx hby d116 rfl rfl rfl ?_
  refine uIN 6 hx hby d117 rfl rfl ?_
  refine uAN 7 hx hby d118 rfl rfl rfl ?_
  refine uKc 8 (0 : Int32) hx hby d119 rfl rfl ?_
  refine uIN 9 hx hby d120 rfl rfl ?_
  have f3 := (P0.ext E1)
  refine ginfo fun _ _ O2 => ?_
  refine gcallS (y := mn14) hx (ow hw 75 rfl) (ow hw 76 rfl) (ow hw 73 rfl) (ow hw 77 rfl) (by decide) (fun hZ H hEL => Pay.of_met (W := 0) (own_c5_3_1 l Z a0 cx [] (a) (b1) (kc) (k1) (c0) (c1) (c2) vm h1 O2 f3 V1 n1 L1 (Nat.ne_of_lt (by omega)) (by first | assumption | decide | omega) (by first | assumption | decide | omega)) (ow hw 77 rfl) (ow hw 73 rfl) (by decide) (by decide) hZ H hEL) 12 (argsL := [(.ref a), (.int (0 : Int32)), (.ref b1), (.int (0 : Int32)), (.int (3 : Int32))]) (rest := []) (lenOf own_pd122 rfl) rfl rfl (Nat.le_of_eq rfl) (by rw [hml]; rfl) (hb hby d121) rfl (by decide) (by decide) ?_
  rintro _ vm2 h2 C2 ⟨rfl, K2, q2_0⟩
  have z2 := C2.2.1
  refine gat1 ?_
  refine uSI 14 #[vr a, vi (0 : Int32), vi (3 : Int32), vr b1, vi (1 : Int32), un] hx hby d123 rfl rfl ?_
  refine uI 16 hx hby d124 rfl rfl ?_
  refine uIN 17 hx hby d125 rfl rfl ?_
  refine uNc 20 hx hby d126 rfl (feq (by decide)).1 ?_
  refine uAN 21 hx hby d127 rfl rfl rfl ?_
  refine uIN 22 hx hby d128 rfl rfl ?_
  refine uIN 23 hx hby d129 rfl rfl ?_
  have f5 := (f3.keep K2 (ninS (Nat.ne_of_lt (by omega)) nin0))
  refine ginfo fun _ _ O4 => ?_
  refine gcallS (y := mn112) hx (ow hw 78 rfl) (ow hw 79 rfl) (ow hw 73 rfl) (ow hw 80 rfl) (by decide) (fun hZ H hEL => Pay.of_met (W := 0) (own_tb3 l Z a0 cx [] (a) (kc) (c0) (c1) (c2) vm2 h2 O4 f5) (ow hw 80 rfl) (ow hw 73 rfl) (by decide) (by decide) hZ H hEL) 26 (argsL := [(.ref a), (.int (0 : Int32)), (.int (3 : Int32))]) (rest := []) (lenOf own_pd131 rfl) rfl rfl (Nat.le_of_eq rfl) (by rw [hml]; rfl) (hb hby d130) rfl (by decide) (by decide) ?_
  rintro _ vm4 h4 C4 ⟨r4, kb4, rfl, K4, q4_0, q4_1⟩
  have z4 := C4.2.1
  have lt_r4 : h4.size > r4 := q4_1.lt
  refine gat1 ?_
  refine uSA 28 #[vr a, vi (0 : Int32), vi (3 : Int32), vr b1, vi (1 : Int32), vr r4] hx hby d132 rfl rfl rfl ?_
  refine uA 30 hx hby d133 rfl rfl rfl ?_
  refine uI 32 hx hby d134 rfl rfl ?_
  refine ginfo fun _ _ O6 => ?_
  refine gcallS (y := mn90) hx (ow hw 94 rfl) (ow hw 95 rfl) (ow hw 73 rfl) (ow hw 96 rfl) (by decide) (fun hZ H hEL => Pay.of_met (W := 0) (own_gc3_1 l Z a0 cx [] (r4) (kb4) (((c1 >>> ((0 : Int32) &&& 31)).toInt8.toInt32)) (((c1 >>> ((8 : Int32) &&& 31)).toInt8.toInt32)) ((.int ((c0 >>> ((0 : Int32) &&& 31)).toInt8.toInt32))) ((.int ((c0 >>> ((8 : Int32) &&& 31)).toInt8.toInt32))) ((.int ((c2 >>> ((0 : Int32) &&& 31)).toInt8.toInt32))) ((.int ((c2 >>> ((8 : Int32) &&& 31)).toInt8.toInt32))) vm4 h4 O6 q4_1) (ow hw 96 rfl) (ow hw 73 rfl) (by decide) (by decide) hZ H hEL) 35 (argsL := [(.ref r4), (.int (1 : Int32))]) (rest := []) (lenOf own_pd136 rfl) rfl rfl (Nat.le_of_eq rfl) (by rw [hml]; rfl) (hb hby d135) rfl (by decide) (by decide) ?_
  rintro _ vm6 h6 C6 ⟨rfl, rfl⟩
  have z6 := C6.2.1
  refine gat1 ?_
  refine uKs 38 (255 : Int32) hx hby d137 rfl rfl ?_
  refine uYc 54 hx hby d138 (tlt (own_pair hB P2)).2.2.1 (by decide) (by decide) ?_
  refine uA 56 hx hby d139 rfl rfl rfl ?_
  exact gretA hx hret rfl rfl (hb hby d140) (by decide) (by decide) (fun vq Cq => ⟨r4, kb4, rfl, ((((Keep.refl h0 []).ext E1).trans K2 (allS (Or.inr (by omega)) all0)).trans K4 all0), (by omega), q4_1⟩)
theorem own_c3_3_2 (l : Launch) (Z : State) (a0 : Array Value) (cx : Ctx Z a0) (ws : List Jvm.Cond) (a : Addr) (kc : ClassId) (c0 : Int32) (c1 : Int32) (c2 : Int32) (vm0 : Vm) (h0 : Heap) (X00 : Ext Z.heap h0) (P0 : Arv Z h0 a kc .char (3 : Int32) [(.int c0), (.int c1), (.int c2)] (.int (0 : Int32))) (P1 : (¬ (255 : Int32) < c0)) (P2 : (¬ (255 : Int32) < c1)) (P3 : ((255 : Int32) < c2)) (hB : (¬ c2 < 0 ∧ ¬ (65535 : Int32) < c2)) :
    Met l mn141 y13_ 6 (some (.array .byte)) ws ({ frames := 3, cells := 2, slots := 9, locals := 40 } : Room) Z consts_1 vm0 h0 #[(.ref a), (.int (0 : Int32)), (.int (3 : Int32))] (fun rv vm h => ∃ (r : Addr), ∃ (kb : ClassId), rv = some (.ref r) ∧ Keep h0 h [] ∧ h0.size ≤ r ∧ Arv Z h r kb .byte (6 : Int32) [(.int ((c0 >>> ((0 : Int32) &&& 31)).toInt8.toInt32)), (.int ((c0 >>> ((8 : Int32) &&& 31)).toInt8.toInt32)), (.int ((c1 >>> ((0 : Int32) &&& 31)).toInt8.toInt32)), (.int ((c1 >>> ((8 : Int32) &&& 31)).toInt8.toInt32)), (.int ((c2 >>> ((0 : Int32) &&& 31)).toInt8.toInt32)), (.int ((c2 >>> ((8 : Int32) &&& 31)).toInt8.toInt32))] (.int (0 : Int32))) := by
  obtain ⟨hw, hEL, ⟨zc, Scs, hzc⟩, ⟨fm, Sfm, hfm⟩, Sad, Shi, Slo⟩ := id cx
  have hSA := own_SA hw
  refine Met.of_walk (a0 := a0) #[vr a, vi (0 : Int32), vi (3 : Int32), un, un, un] (plainFor_of_name own_pn15) X00 hEL (fun m => by first | (simp [entryFrame, mkF, argsToLocals, Value.category]; done) | rfl) ?_
  intro p e s m below meth c vm hx hby hml hret hnm hC0 hW0
  have lt_a : h0.size > a := P0.lt
  refine uIN 1 hx hby d113 rfl rfl ?_
  refine gnewPE hx (ow hw 29 rfl) (n := (3 : Int32)) (by decide) (cap := 3) (by decide) (by decide) (ad := "[B") (by decide) 3 (hb hby d114) rfl (by decide) (by decide) ?_
  intro b1 h1 k1 g1 E1 C1 V1 A1 n1 L1
  have z1 := C1.2.1
  have V1 : Arv Z h1 b1 k1 .byte (3 : Int32) [(.int (0 : Int32)), (.int (0 : Int32)), (.int (0 : Int32))] (.int (0 : Int32)) := V1.pad (pad_rep [] (.int (0 : Int32)) 3)
  have lt_b1 : h1.size > b1 := V1.lt
  refine uSAN 4 #[vr a, vi (0 : Int32), vi (3 : Int32), vr b1, un, un] hx hby d115 rfl rfl rfl ?_
  refine uAN 5 hx hby d116 rfl rfl rfl ?_
  refine uIN 6 hx hby d117 rfl rfl ?_
  refine uAN 7 hx hby d118 rfl rfl rfl ?_
  refine uKc 8 (0 : Int32) hx hby d119 rfl rfl ?_
  refine uIN 9 hx hby d120 rfl rfl ?_
  have f3 := (P0.ext E1)
  refine ginfo fun _ _ O2 => ?_
  refine gcallS (y := mn14) hx (ow hw 75 rfl) (ow hw 76 rfl) (ow hw 73 rfl) (ow hw 77 rfl) (by decide) (fun hZ H hEL => Pay.of_met (W := 0) (own_c5_3_2 l Z a0 cx [] (a) (b1) (kc) (k1) (c0) (c1) (c2) vm h1 O2 f3 V1 n1 L1 (Nat.ne_of_lt (by omega)) (by first | assumption | decide | omega) (by first | assumption | decide | omega) (by first | assumption | decide | omega)) (ow hw 77 rfl) (ow hw 73 rfl) (by decide) (by decide) hZ H hEL) 12 (argsL := [(.ref a), (.int (0 : Int32)), (.ref b1), (.int (0 : Int32)), (.int (3 : Int32))]) (rest := []) (lenOf own_pd122 rfl) rfl rfl (Nat.le_of_eq rfl) (by rw [hml]; rfl) (hb hby d121) rfl (by decide) (by decide) ?_
  rintro _ vm2 h2 C2 ⟨rfl, K2, q2_0⟩
  have z2 := C2.2.1
  refine gat1 ?_
  refine uSI 14 #[vr a, vi (0 : Int32), vi (3 : Int32), vr b1, vi (2 : Int32), un] hx hby d123 rfl rfl ?_
  refine uI 16 hx hby d124 rfl rfl ?_
  refine uIN 17 hx hby d125 rfl rfl ?_
  refine uNc 20 hx hby d126 rfl (feq (by decide)).1 ?_
  refine uAN 21 hx hby d127 rfl rfl rfl ?_
  refine uIN 22 hx hby d128 rfl rfl ?_
  refine uIN 23 hx hby d129 rfl rfl ?_
  have f5 := (f3.keep K2 (ninS (Nat.ne_of_lt (by omega)) nin0))
  refine ginfo fun _ _ O4 => ?_
  refine gcallS (y := mn112) hx (ow hw 78 rfl) (ow hw 79 rfl) (ow hw 73 rfl) (ow hw 80 rfl) (by decide) (fun hZ H hEL => Pay.of_met (W := 0) (own_tb3 l Z a0 cx [] (a) (kc) (c0) (c1) (c2) vm2 h2 O4 f5) (ow hw 80 rfl) (ow hw 73 rfl) (by decide) (by decide) hZ H hEL) 26 (argsL := [(.ref a), (.int (0 : Int32)), (.int (3 : Int32))]) (rest := []) (lenOf own_pd131 rfl) rfl rfl (Nat.le_of_eq rfl) (by rw [hml]; rfl) (hb hby d130) rfl (by decide) (by decide) ?_
  rintro _ vm4 h4 C4 ⟨r4, kb4, rfl, K4, q4_0, q4_1⟩
  have z4 := C4.2.1
  have lt_r4 : h4.size > r4 := q4_1.lt
  refine gat1 ?_
  refine uSA 28 #[vr a, vi (0 : Int32), vi (3 : Int32), vr b1, vi (2 : Int32), vr r4] hx hby d132 rfl rfl rfl ?_
  refine uA 30 hx hby d133 rfl rfl rfl ?_
  refine uI 32 hx hby d134 rfl rfl ?_
  refine ginfo fun _ _ O6 => ?_
  refine gcallS (y := mn90) hx (ow hw 94 rfl) (ow hw 95 rfl) (ow hw 73 rfl) (ow hw 96 rfl) (by decide) (fun hZ H hEL => Pay.of_met (W := 0) (own_gc3_2 l Z a0 cx [] (r4) (kb4) (((c2 >>> ((0 : Int32) &&& 31)).toInt8.toInt32)) (((c2 >>> ((8 : Int32) &&& 31)).toInt8.toInt32)) ((.int ((c0 >>> ((0 : Int32) &&& 31)).toInt8.toInt32))) ((.int ((c0 >>> ((8 : Int32) &&& 31)).toInt8.toInt32))) ((.int ((c1 >>> ((0 : Int32) &&& 31)).toInt8.toInt32))) ((.int ((c1 >>> ((8 : Int32) &&& 31)).toInt8.toInt32))) vm4 h4 O6 q4_1) (ow hw 96 rfl) (ow hw 73 rfl) (by decide) (by decide) hZ H hEL) 35 (argsL := [(.ref r4), (.int (2 : Int32))]) (rest := []) (lenOf own_pd136 rfl) rfl rfl (Nat.le_of_eq rfl) (by rw [hml]; rfl) (hb hby d135) rfl (by decide) (by decide) ?_
  rintro _ vm6 h6 C6 ⟨rfl, rfl⟩
  have z6 := C6.2.1
  refine gat1 ?_
  refine uKs 38 (255 : Int32) hx hby d137 rfl rfl ?_
  refine uYc 54 hx hby d138 (tlt (own_pair hB P3)).2.2.1 (by decide) (by decide) ?_
  refine uA 56 hx hby d139 rfl rfl rfl ?_
  exact gretA hx hret rfl rfl (hb hby d140) (by decide) (by decide) (fun vq Cq => ⟨r4, kb4, rfl, ((((Keep.refl h0 []).ext E1).trans K2 (allS (Or.inr (by omega)) all0)).trans K4 all0), (by omega), q4_1⟩)
theorem own_c3_3_3 (l : Launch) (Z : State) (a0 : Array Value) (cx : Ctx Z a0) (ws : List Jvm.Cond) (a : Addr) (kc : ClassId) (c0 : Int32) (c1 : Int32) (c2 : Int32) (vm0 : Vm) (h0 : Heap) (X00 : Ext Z.heap h0) (P0 : Arv Z h0 a kc .char (3 : Int32) [(.int c0), (.int c1), (.int c2)] (.int (0 : Int32))) (P1 : (¬ (255 : Int32) < c0)) (P2 : (¬ (255 : Int32) < c1)) (P3 : (¬ (255 : Int32) < c2)) :
    Met l mn141 y13_ 6 (some (.array .byte)) ws ({ frames := 1, cells := 1, slots := 3, locals := 18 } : Room) Z consts_1 vm0 h0 #[(.ref a), (.int (0 : Int32)), (.int (3 : Int32))] (fun rv vm h => ∃ (r : Addr), ∃ (kb : ClassId), rv = some (.ref r) ∧ Keep h0 h [] ∧ h0.size ≤ r ∧ Arv Z h r kb .byte (3 : Int32) [(.int (c0.toInt8.toInt32)), (.int (c1.toInt8.toInt32)), (.int (c2.toInt8.toInt32))] (.int (0 : Int32))) := by
  obtain ⟨hw, hEL, ⟨zc, Scs, hzc⟩, ⟨fm, Sfm, hfm⟩, Sad, Shi, Slo⟩ := id cx
  have hSA := own_SA hw
  refine Met.of_walk (a0 := a0) #[vr a, vi (0 : Int32), vi (3 : Int32), un, un, un] (plainFor_of_name own_pn15) X00 hEL (fun m => by first | (simp [entryFrame, mkF, argsToLocals, Value.category]; done) | rfl) ?_
  intro p e s m below meth c vm hx hby hml hret hnm hC0 hW0
  have lt_a : h0.size > a := P0.lt
  refine uIN 1 hx hby d113 rfl rfl ?_
  refine gnewPE hx (ow hw 29 rfl) (n := (3 : Int32)) (by decide) (cap := 3) (by decide) (by decide) (ad := "[B") (by decide) 3 (hb hby d114) rfl (by decide) (by decide) ?_
  intro b1 h1 k1 g1 E1 C1 V1 A1 n1 L1
  have z1 := C1.2.1
  have V1 : Arv Z h1 b1 k1 .byte (3 : Int32) [(.int (0 : Int32)), (.int (0 : Int32)), (.int (0 : Int32))] (.int (0 : Int32)) := V1.pad (pad_rep [] (.int (0 : Int32)) 3)
  have lt_b1 : h1.size > b1 := V1.lt
  refine uSAN 4 #[vr a, vi (0 : Int32), vi (3 : Int32), vr b1, un, un] hx hby d115 rfl rfl rfl ?_
  refine uAN 5 hx hby d116 rfl rfl rfl ?_
  refine uIN 6 hx hby d117 rfl rfl ?_
  refine uAN 7 hx hby d118 rfl rfl rfl ?_
  refine uKc 8 (0 : Int32) hx hby d119 rfl rfl ?_
  refine uIN 9 hx hby d120 rfl rfl ?_
  have f3 := (P0.ext E1)
  refine ginfo fun _ _ O2 => ?_
  refine gcallS (y := mn14) hx (ow hw 75 rfl) (ow hw 76 rfl) (ow hw 73 rfl) (ow hw 77 rfl) (by decide) (fun hZ H hEL => Pay.of_met (W := 0) (own_c5_3_3 l Z a0 cx [] (a) (b1) (kc) (k1) (c0) (c1) (c2) vm h1 O2 f3 V1 n1 L1 (Nat.ne_of_lt (by omega)) (by first | assumption | decide | omega) (by first | assumption | decide | omega) (by first | assumption | decide | omega)) (ow hw 77 rfl) (ow hw 73 rfl) (by decide) (by decide) hZ H hEL) 12 (argsL := [(.ref a), (.int (0 : Int32)), (.ref b1), (.int (0 : Int32)), (.int (3 : Int32))]) (rest := []) (lenOf own_pd122 rfl) rfl rfl (Nat.le_of_eq rfl) (by rw [hml]; rfl) (hb hby d121) rfl (by decide) (by decide) ?_
  rintro _ vm2 h2 C2 ⟨rfl, K2, q2_0⟩
  have z2 := C2.2.1
  refine gat1 ?_
  refine uSI 14 #[vr a, vi (0 : Int32), vi (3 : Int32), vr b1, vi (3 : Int32), un] hx hby d123 rfl rfl ?_
  refine uI 16 hx hby d124 rfl rfl ?_
  refine uIN 17 hx hby d125 rfl rfl ?_
  refine uYc 57 hx hby d126 (teq (by decide)).1 (by decide) (by decide) ?_
  refine uAN 58 hx hby d142 rfl rfl rfl ?_
  exact gretA hx hret rfl rfl (hb hby d143) (by decide) (by decide) (fun vq Cq => ⟨b1, k1, rfl, (((Keep.refl h0 []).ext E1).trans K2 (allS (Or.inr (by omega)) all0)), (by omega), q2_0⟩)
theorem own_cod_3_0 (l : Launch) (Z : State) (a0 : Array Value) (cx : Ctx Z a0) (ws : List Jvm.Cond) (a : Addr) (ka : ClassId) (vs : List Value) (vm0 : Vm) (h0 : Heap) (X00 : Ext Z.heap h0) (P0 : Arv Z h0 a ka .byte (3 : Int32) vs (.int (0 : Int32))) :
    Met l mn152 y12_ 2 (some .byte) ws ({ frames := 0, cells := 0, slots := 0, locals := 0 } : Room) Z consts_1 vm0 h0 #[(.ref a), (.int (3 : Int32))] (fun rv vm h => rv = some (.int (0 : Int32)) ∧ h0 = h) := by
  obtain ⟨hw, hEL, ⟨zc, Scs, hzc⟩, ⟨fm, Sfm, hfm⟩, Sad, Shi, Slo⟩ := id cx
  have hSA := own_SA hw
  refine Met.of_walk (a0 := a0) #[vr a, vi (3 : Int32)] (plainFor_of_name own_pn15) X00 hEL (fun m => by first | (simp [entryFrame, mkF, argsToLocals, Value.category]; done) | rfl) ?_
  intro p e s m below meth c vm hx hby hml hret hnm hC0 hW0
  have lt_a : h0.size > a := P0.lt
  refine uIN 1 hx hby d144 rfl rfl ?_
  refine uAN 2 hx hby d145 rfl rfl rfl ?_
  refine glen hx P0 3 (hb hby d146) rfl ?_
  refine uisub 4 (0 : Int32) hx hby d147 rfl (by decide) ?_
  refine uKb 6 (31 : Int32) hx hby d148 rfl rfl ?_
  refine gs (mkF m 7 #[vr a, vi (3 : Int32)] [(.int (0 : Int32))]) (fun _ _ A kq => XS.iushr A hx rfl (hb hby d149) rfl kq) ?_
  refine gs (mkF m 8 #[vr a, vi (3 : Int32)] [(.int (0 : Int32))]) (fun _ _ A kq => XS.i2b A hx rfl (hb hby d150) rfl kq) ?_
  exact gretN (t := .byte) hx hret (by simp) (hb hby d151) (by decide) (by decide) (fun vq Cq => ⟨rfl, rfl⟩)
theorem own_cod_3_1 (l : Launch) (Z : State) (a0 : Array Value) (cx : Ctx Z a0) (ws : List Jvm.Cond) (a : Addr) (ka : ClassId) (vs : List Value) (vm0 : Vm) (h0 : Heap) (X00 : Ext Z.heap h0) (P0 : Arv Z h0 a ka .byte (6 : Int32) vs (.int (0 : Int32))) :
    Met l mn152 y12_ 2 (some .byte) ws ({ frames := 0, cells := 0, slots := 0, locals := 0 } : Room) Z consts_1 vm0 h0 #[(.ref a), (.int (3 : Int32))] (fun rv vm h => rv = some (.int (1 : Int32)) ∧ h0 = h) := by
  obtain ⟨hw, hEL, ⟨zc, Scs, hzc⟩, ⟨fm, Sfm, hfm⟩, Sad, Shi, Slo⟩ := id cx
  have hSA := own_SA hw
  refine Met.of_walk (a0 := a0) #[vr a, vi (3 : Int32)] (plainFor_of_name own_pn15) X00 hEL (fun m => by first | (simp [entryFrame, mkF, argsToLocals, Value.category]; done) | rfl) ?_
  intro p e s m below meth c vm hx hby hml hret hnm hC0 hW0
  have lt_a : h0.size > a := P0.lt
  refine uIN 1 hx hby d144 rfl rfl ?_
  refine uAN 2 hx hby d145 rfl rfl rfl ?_
  refine glen hx P0 3 (hb hby d146) rfl ?_
  refine uisub 4 (-3 : Int32) hx hby d147 rfl (by decide) ?_
  refine uKb 6 (31 : Int32) hx hby d148 rfl rfl ?_
  refine gs (mkF m 7 #[vr a, vi (3 : Int32)] [(.int (1 : Int32))]) (fun _ _ A kq => XS.iushr A hx rfl (hb hby d149) rfl kq) ?_
  refine gs (mkF m 8 #[vr a, vi (3 : Int32)] [(.int (1 : Int32))]) (fun _ _ A kq => XS.i2b A hx rfl (hb hby d150) rfl kq) ?_
  exact gretN (t := .byte) hx hret (by simp) (hb hby d151) (by decide) (by decide) (fun vq Cq => ⟨rfl, rfl⟩)
theorem own_i4_3_0 (l : Launch) (Z : State) (a0 : Array Value) (cx : Ctx Z a0) (ws : List Jvm.Cond) (x : Addr) (a : Addr) (v0 : Value) (c0v : Value) (kc : ClassId) (c0 : Int32) (c1 : Int32) (c2 : Int32) (vm0 : Vm) (h0 : Heap) (X00 : Ext Z.heap h0) (P0 : Exa Z h0 x c0_) (P1 : Fld Z h0 x c0_ "value" "[B" v0) (P2 : Fld Z h0 x c0_ "coder" "B" c0v) (P3 : Z.heap.size ≤ x) (P4 : Safe Z consts_1 vm0 h0 x) (P5 : Arv Z h0 a kc .char (3 : Int32) [(.int c0), (.int c1), (.int c2)] (.int (0 : Int32))) (P6 : ((255 : Int32) < c0)) (h16 : (∀ c ∈ [c0, c1, c2], ¬ c < 0 ∧ ¬ (65535 : Int32) < c)) :
    Met l mn174 y3_ 6 none ws ({ frames := 4, cells := 2, slots := 9, locals := 57 } : Room) Z consts_1 vm0 h0 #[(.ref x), (.ref a), (.int (0 : Int32)), (.int (3 : Int32)), .null] (fun rv vm h => ∃ (t : Addr), rv = none ∧ Keep h0 h [x] ∧ Txt Z h x t [c0, c1, c2]) := by
  obtain ⟨hw, hEL, ⟨zc, Scs, hzc⟩, ⟨fm, Sfm, hfm⟩, Sad, Shi, Slo⟩ := id cx
  have hSA := own_SA hw
  refine Met.of_walk (a0 := a0) #[vr x, vr a, vi (0 : Int32), vi (3 : Int32), .val .null, un] (plainFor_of_name own_pn175) X00 hEL (fun m => by first | (simp [entryFrame, mkF, argsToLocals, Value.category]; done) | rfl) ?_
  intro p e s m below meth c vm hx hby hml hret hnm hC0 hW0
  have lt_x : h0.size > x := P0.lt
  have L4 := hC0.safe lt_x P4
  have lt_a : h0.size > a := P5.lt
  refine uAN 1 hx hby d153 rfl rfl rfl ?_
  refine ginitO hx (ow hw 25 rfl) (ow hw 26 rfl) (ow hw 27 rfl) 4 (W := 0) (Nat.le_of_eq rfl) (by rw [hml]; rfl) (hb hby d154) rfl (by decide) (by decide) ?_
  refine uIN 5 hx hby d155 rfl rfl ?_
  refine uY 27 hx hby d156 ((if0 _ _).trans (feq (by decide)).2) (by decide) (by decide) ?_
  refine ggetS (host := "") hx (Or.inl (ow hw 50 rfl)) Via.refl Scs 30 (hb hby d157) rfl ?_
  refine uN 33 hx hby d158 rfl ((if0 _ _).trans (feq hzc).1) ?_
  refine uAN 34 hx hby d159 rfl rfl rfl ?_
  refine uIN 35 hx hby d160 rfl rfl ?_
  refine uIN 36 hx hby d161 rfl rfl ?_
  refine ginfo fun _ _ O2 => ?_
  refine gcallS (y := mn141) hx (ow hw 71 rfl) (ow hw 72 rfl) (ow hw 73 rfl) (ow hw 74 rfl) (by decide) (fun hZ H hEL => Pay.of_met (W := 0) (own_c3_3_0 l Z a0 cx [] (a) (kc) (c0) (c1) (c2) vm h0 O2 P5 (by first | assumption | decide | omega) (h16 _ (List.mem_of_getElem? (i := 0) rfl))) (ow hw 74 rfl) (ow hw 73 rfl) (by decide) (by decide) hZ H hEL) 39 (argsL := [(.ref a), (.int (0 : Int32)), (.int (3 : Int32))]) (rest := []) (lenOf own_pd131 rfl) rfl rfl (Nat.le_of_eq rfl) (by rw [hml]; rfl) (hb hby d162) rfl (by decide) (by decide) ?_
  rintro _ vm2 h2 C2 ⟨r2, kb2, rfl, K2, q2_0, q2_1⟩
  have z2 := C2.2.1
  have lt_r2 : h2.size > r2 := q2_1.lt
  refine gat1 ?_
  refine uSA 41 #[vr x, vr a, vi (0 : Int32), vi (3 : Int32), .val .null, vr r2] hx hby d163 rfl rfl rfl ?_
  refine uAN 42 hx hby d164 rfl rfl rfl ?_
  refine uA 44 hx hby d165 rfl rfl rfl ?_
  refine uIN 45 hx hby d166 rfl rfl ?_
  refine ginfo fun _ _ O3 => ?_
  refine gcallS (y := mn152) hx (ow hw 97 rfl) (ow hw 98 rfl) (ow hw 73 rfl) (ow hw 99 rfl) (by decide) (fun hZ H hEL => Pay.of_met (W := 1) (own_cod_3_1 l Z a0 cx [] (r2) (kb2) ([(.int ((c0 >>> ((0 : Int32) &&& 31)).toInt8.toInt32)), (.int ((c0 >>> ((8 : Int32) &&& 31)).toInt8.toInt32)), (.int ((c1 >>> ((0 : Int32) &&& 31)).toInt8.toInt32)), (.int ((c1 >>> ((8 : Int32) &&& 31)).toInt8.toInt32)), (.int ((c2 >>> ((0 : Int32) &&& 31)).toInt8.toInt32)), (.int ((c2 >>> ((8 : Int32) &&& 31)).toInt8.toInt32))]) vm2 h2 O3 q2_1) (ow hw 99 rfl) (ow hw 73 rfl) (by decide) (by decide) hZ H hEL) 48 (argsL := [(.ref r2), (.int (3 : Int32))]) (rest := [(.ref x)]) (lenOf own_pd168 rfl) rfl rfl (Nat.le_of_eq rfl) (by rw [hml]; rfl) (hb hby d167) rfl (by decide) (by decide) ?_
  rintro _ vm3 h3 C3 ⟨rfl, rfl⟩
  have z3 := C3.2.1
  refine gat1 ?_
  have f4 := (P2.keep K2 nin0)
  have f5 := (P0.keep K2)
  have f6 := (C3.safe (show h2.size > x by omega) (C2.safe (show h0.size > x by omega) L4))
  refine gputF (host := "") hx (Or.inl (ow hw 35 rfl)) Via.refl f4 f5 (Or.inr ⟨(ow hw 31 rfl), rfl, hnm⟩) (ow hw 16 rfl) (ty := .byte) (by decide) rfl rfl P3 (fun _ => f6) 51 (hb hby d169) rfl ?_
  intro h7 W7 C7
  have z7 := C7.2.1
  have F7 := f4.same W7
  refine uAN 52 hx hby d170 rfl rfl rfl ?_
  refine uA 54 hx hby d171 rfl rfl rfl ?_
  have f8 := ((P1.keep K2 nin0).other W7 (Or.inr (slot_ne (Or.inr (ow hw 30 rfl)) (Or.inr (ow hw 31 rfl)) (by decide) (t := (.array .byte)) (t' := .byte) (by decide) (by decide))))
  have f9 := (f5.wr W7)
  have f10 := (C7.safe (show h2.size > x by omega) f6)
  refine gputF (host := "") hx (Or.inl (ow hw 34 rfl)) Via.refl f8 f9 (Or.inr ⟨(ow hw 30 rfl), rfl, hnm⟩) (ow hw 16 rfl) (ty := (.array .byte)) (by decide) rfl rfl P3 (fun _ => f10) 57 (hb hby d172) rfl ?_
  intro h11 W11 C11
  have z11 := C11.2.1
  have F11 := f8.same W11
  have f12 := (f9.wr W11)
  have f13 := (F7.other W11 (Or.inr (slot_ne (Or.inr (ow hw 31 rfl)) (Or.inr (ow hw 30 rfl)) (by decide) (t := .byte) (t' := (.array .byte)) (by decide) (by decide))))
  have f14 := ((q2_1.other W7 (Nat.ne_of_gt (by omega))).other W11 (Nat.ne_of_gt (by omega)))
  exact gretV hx hret (hb hby d173) (by decide) (by decide) (fun vq Cq => ⟨r2, rfl, ((((Keep.refl h0 [x]).trans K2 all0).wr W7 (Or.inl (List.mem_of_getElem? (i := 0) rfl))).wr W11 (Or.inl (List.mem_of_getElem? (i := 0) rfl))), ⟨f12, F11, Nat.le_of_ble_eq_true rfl, h16, Or.inr ⟨f13, _, f14⟩⟩⟩)
theorem own_i4_3_1 (l : Launch) (Z : State) (a0 : Array Value) (cx : Ctx Z a0) (ws : List Jvm.Cond) (x : Addr) (a : Addr) (v0 : Value) (c0v : Value) (kc : ClassId) (c0 : Int32) (c1 : Int32) (c2 : Int32) (vm0 : Vm) (h0 : Heap) (X00 : Ext Z.heap h0) (P0 : Exa Z h0 x c0_) (P1 : Fld Z h0 x c0_ "value" "[B" v0) (P2 : Fld Z h0 x c0_ "coder" "B" c0v) (P3 : Z.heap.size ≤ x) (P4 : Safe Z consts_1 vm0 h0 x) (P5 : Arv Z h0 a kc .char (3 : Int32) [(.int c0), (.int c1), (.int c2)] (.int (0 : Int32))) (P6 : (¬ (255 : Int32) < c0)) (P7 : ((255 : Int32) < c1)) (h16 : (∀ c ∈ [c0, c1, c2], ¬ c < 0 ∧ ¬ (65535 : Int32) < c)) :
    Met l mn174 y3_ 6 none ws ({ frames := 4, cells := 2, slots := 9, locals := 57 } : Room) Z consts_1 vm0 h0 #[(.ref x), (.ref a), (.int (0 : Int32)), (.int (3 : Int32)), .null] (fun rv vm h => ∃ (t : Addr), rv = none ∧ Keep h0 h [x] ∧ Txt Z h x t [c0, c1, c2]) := by
  obtain ⟨hw, hEL, ⟨zc, Scs, hzc⟩, ⟨fm, Sfm, hfm⟩, Sad, Shi, Slo⟩ := id cx
  have hSA := own_SA hw
  refine Met.of_walk (a0 := a0) #[vr x, vr a, vi (0 : Int32), vi (3 : Int32), .val .null, un] (plainFor_of_name own_pn175) X00 hEL (fun m => by first | (simp [entryFrame, mkF, argsToLocals, Value.category]; done) | rfl) ?_
  intro p e s m below meth c vm hx hby hml hret hnm hC0 hW0
  have lt_x : h0.size > x := P0.lt
  have L4 := hC0.safe lt_x P4
  have lt_a : h0.size > a := P5.lt
  refine uAN 1 hx hby d153 rfl rfl rfl ?_
  refine ginitO hx (ow hw 25 rfl) (ow hw 26 rfl) (ow hw 27 rfl) 4 (W := 0) (Nat.le_of_eq rfl) (by rw [hml]; rfl) (hb hby d154) rfl (by decide) (by decide) ?_
  refine uIN 5 hx hby d155 rfl rfl ?_
  refine uY 27 hx hby d156 ((if0 _ _).trans (feq (by decide)).2) (by decide) (by decide) ?_
  refine ggetS (host := "") hx (Or.inl (ow hw 50 rfl)) Via.refl Scs 30 (hb hby d157) rfl ?_
  refine uN 33 hx hby d158 rfl ((if0 _ _).trans (feq hzc).1) ?_
  refine uAN 34 hx hby d159 rfl rfl rfl ?_
  refine uIN 35 hx hby d160 rfl rfl ?_
  refine uIN 36 hx hby d161 rfl rfl ?_
  refine ginfo fun _ _ O2 => ?_
  refine gcallS (y := mn141) hx (ow hw 71 rfl) (ow hw 72 rfl) (ow hw 73 rfl) (ow hw 74 rfl) (by decide) (fun hZ H hEL => Pay.of_met (W := 0) (own_c3_3_1 l Z a0 cx [] (a) (kc) (c0) (c1) (c2) vm h0 O2 P5 (by first | assumption | decide | omega) (by first | assumption | decide | omega) (h16 _ (List.mem_of_getElem? (i := 1) rfl))) (ow hw 74 rfl) (ow hw 73 rfl) (by decide) (by decide) hZ H hEL) 39 (argsL := [(.ref a), (.int (0 : Int32)), (.int (3 : Int32))]) (rest := []) (lenOf own_pd131 rfl) rfl rfl (Nat.le_of_eq rfl) (by rw [hml]; rfl) (hb hby d162) rfl (by decide) (by decide) ?_
  rintro _ vm2 h2 C2 ⟨r2, kb2, rfl, K2, q2_0, q2_1⟩
  have z2 := C2.2.1
  have lt_r2 : h2.size > r2 := q2_1.lt
  refine gat1 ?_
  refine uSA 41 #[vr x, vr a, vi (0 : Int32), vi (3 : Int32), .val .null, vr r2] hx hby d163 rfl rfl rfl ?_
  refine uAN 42 hx hby d164 rfl rfl rfl ?_
  refine uA 44 hx hby d165 rfl rfl rfl ?_
  refine uIN 45 hx hby d166 rfl rfl ?_
  refine ginfo fun _ _ O3 => ?_
  refine gcallS (y := mn152) hx (ow hw 97 rfl) (ow hw 98 rfl) (ow hw 73 rfl) (ow hw 99 rfl) (by decide) (fun hZ H hEL => Pay.of_met (W := 1) (own_cod_3_1 l Z a0 cx [] (r2) (kb2) ([(.int ((c0 >>> ((0 : Int32) &&& 31)).toInt8.toInt32)), (.int ((c0 >>> ((8 : Int32) &&& 31)).toInt8.toInt32)), (.int ((c1 >>> ((0 : Int32) &&& 31)).toInt8.toInt32)), (.int ((c1 >>> ((8 : Int32) &&& 31)).toInt8.toInt32)), (.int ((c2 >>> ((0 : Int32) &&& 31)).toInt8.toInt32)), (.int ((c2 >>> ((8 : Int32) &&& 31)).toInt8.toInt32))]) vm2 h2 O3 q2_1) (ow hw 99 rfl) (ow hw 73 rfl) (by decide) (by decide) hZ H hEL) 48 (argsL := [(.ref r2), (.int (3 : Int32))]) (rest := [(.ref x)]) (lenOf own_pd168 rfl) rfl rfl (Nat.le_of_eq rfl) (by rw [hml]; rfl) (hb hby d167) rfl (by decide) (by decide) ?_
  rintro _ vm3 h3 C3 ⟨rfl, rfl⟩
  have z3 := C3.2.1
  refine gat1 ?_
  have f4 := (P2.keep K2 nin0)
  have f5 := (P0.keep K2)
  have f6 := (C3.safe (show h2.size > x by omega) (C2.safe (show h0.size > x by omega) L4))
  refine gputF (host := "") hx (Or.inl (ow hw 35 rfl)) Via.refl f4 f5 (Or.inr ⟨(ow hw 31 rfl), rfl, hnm⟩) (ow hw 16 rfl) (ty := .byte) (by decide) rfl rfl P3 (fun _ => f6) 51 (hb hby d169) rfl ?_
  intro h7 W7 C7
  have z7 := C7.2.1
  have F7 := f4.same W7
  refine uAN 52 hx hby d170 rfl rfl rfl ?_
  refine uA 54 hx hby d171 rfl rfl rfl ?_
  have f8 := ((P1.keep K2 nin0).other W7 (Or.inr (slot_ne (Or.inr (ow hw 30 rfl)) (Or.inr (ow hw 31 rfl)) (by decide) (t := (.array .byte)) (t' := .byte) (by decide) (by decide))))
  have f9 := (f5.wr W7)
  have f10 := (C7.safe (show h2.size > x by omega) f6)
  refine gputF (host := "") hx (Or.inl (ow hw 34 rfl)) Via.refl f8 f9 (Or.inr ⟨(ow hw 30 rfl), rfl, hnm⟩) (ow hw 16 rfl) (ty := (.array .byte)) (by decide) rfl rfl P3 (fun _ => f10) 57 (hb hby d172) rfl ?_
  intro h11 W11 C11
  have z11 := C11.2.1
  have F11 := f8.same W11
  have f12 := (f9.wr W11)
  have f13 := (F7.other W11 (Or.inr (slot_ne (Or.inr (ow hw 31 rfl)) (Or.inr (ow hw 30 rfl)) (by decide) (t := .byte) (t' := (.array .byte)) (by decide) (by decide))))
  have f14 := ((q2_1.other W7 (Nat.ne_of_gt (by omega))).other W11 (Nat.ne_of_gt (by omega)))
  exact gretV hx hret (hb hby d173) (by decide) (by decide) (fun vq Cq => ⟨r2, rfl, ((((Keep.refl h0 [x]).trans K2 all0).wr W7 (Or.inl (List.mem_of_getElem? (i := 0) rfl))).wr W11 (Or.inl (List.mem_of_getElem? (i := 0) rfl))), ⟨f12, F11, Nat.le_of_ble_eq_true rfl, h16, Or.inr ⟨f13, _, f14⟩⟩⟩)
theorem own_i4_3_2 (l : Launch) (Z : State) (a0 : Array Value) (cx : Ctx Z a0) (ws : List Jvm.Cond) (x : Addr) (a : Addr) (v0 : Value) (c0v : Value) (kc : ClassId) (c0 : Int32) (c1 : Int32) (c2 : Int32) (vm0 : Vm) (h0 : Heap) (X00 : Ext Z.heap h0) (P0 : Exa Z h0 x c0_) (P1 : Fld Z h0 x c0_ "value" "[B" v0) (P2 : Fld Z h0 x c0_ "coder" "B" c0v) (P3 : Z.heap.size ≤ x) (P4 : Safe Z consts_1 vm0 h0 x) (P5 : Arv Z h0 a kc .char (3 : Int32) [(.int c0), (.int c1), (.int c2)] (.int (0 : Int32))) (P6 : (¬ (255 : Int32) < c0)) (P7 : (¬ (255 : Int32) < c1)) (P8 : ((255 : Int32) < c2)) (h16 : (∀ c ∈ [c0, c1, c2], ¬ c < 0 ∧ ¬ (65535 : Int32) < c)) :
    Met l mn174 y3_ 6 none ws ({ frames := 4, cells := 2, slots := 9, locals := 57 } : Room) Z consts_1 vm0 h0 #[(.ref x), (.ref a), (.int (0 : Int32)), (.int (3 : Int32)), .null] (fun rv vm h => ∃ (t : Addr), rv = none ∧ Keep h0 h [x] ∧ Txt Z h x t [c0, c1, c2]) := by
  obtain ⟨hw, hEL, ⟨zc, Scs, hzc⟩, ⟨fm, Sfm, hfm⟩, Sad, Shi, Slo⟩ := id cx
  have hSA := own_SA hw
  refine Met.of_walk (a0 := a0) #[vr x, vr a, vi (0 : Int32), vi (3 : Int32), .val .null, un] (plainFor_of_name own_pn175) X00 hEL (fun m => by first | (simp [entryFrame, mkF, argsToLocals, Value.category]; done) | rfl) ?_
  intro p e s m below meth c vm hx hby hml hret hnm hC0 hW0
  have lt_x : h0.size > x := P0.lt
  have L4 := hC0.safe lt_x P4
  have lt_a : h0.size > a := P5.lt
  refine uAN 1 hx hby d153 rfl rfl rfl ?_
  refine ginitO hx (ow hw 25 rfl) (ow hw 26 rfl) (ow hw 27 rfl) 4 (W := 0) (Nat.le_of_eq rfl) (by rw [hml]; rfl) (hb hby d154) rfl (by decide) (by decide) ?_
  refine uIN 5 hx hby d155 rfl rfl ?_
  refine uY 27 hx hby d156 ((if0 _ _).trans (feq (by decide)).2) (by decide) (by decide) ?_
  refine ggetS (host := "") hx (Or.inl (ow hw 50 rfl)) Via.refl Scs 30 (hb hby d157) rfl ?_
  refine uN 33 hx hby d158 rfl ((if0 _ _).trans (feq hzc).1) ?_
  refine uAN 34 hx hby d159 rfl rfl rfl ?_
  refine uIN 35 hx hby d160 rfl rfl ?_
  refine uIN 36 hx hby d161 rfl rfl ?_
  refine ginfo fun _ _ O2 => ?_
  refine gcallS (y := mn141) hx (ow hw 71 rfl) (ow hw 72 rfl) (ow hw 73 rfl) (ow hw 74 rfl) (by decide) (fun hZ H hEL => Pay.of_met (W := 0) (own_c3_3_2 l Z a0 cx [] (a) (kc) (c0) (c1) (c2) vm h0 O2 P5 (by first | assumption | decide | omega) (by first | assumption | decide | omega) (by first | assumption | decide | omega) (h16 _ (List.mem_of_getElem? (i := 2) rfl))) (ow hw 74 rfl) (ow hw 73 rfl) (by decide) (by decide) hZ H hEL) 39 (argsL := [(.ref a), (.int (0 : Int32)), (.int (3 : Int32))]) (rest := []) (lenOf own_pd131 rfl) rfl rfl (Nat.le_of_eq rfl) (by rw [hml]; rfl) (hb hby d162) rfl (by decide) (by decide) ?_
  rintro _ vm2 h2 C2 ⟨r2, kb2, rfl, K2, q2_0, q2_1⟩
  have z2 := C2.2.1
  have lt_r2 : h2.size > r2 := q2_1.lt
  refine gat1 ?_
  refine uSA 41 #[vr x, vr a, vi (0 : Int32), vi (3 : Int32), .val .null, vr r2] hx hby d163 rfl rfl rfl ?_
  refine uAN 42 hx hby d164 rfl rfl rfl ?_
  refine uA 44 hx hby d165 rfl rfl rfl ?_
  refine uIN 45 hx hby d166 rfl rfl ?_
  refine ginfo fun _ _ O3 => ?_
  refine gcallS (y := mn152) hx (ow hw 97 rfl) (ow hw 98 rfl) (ow hw 73 rfl) (ow hw 99 rfl) (by decide) (fun hZ H hEL => Pay.of_met (W := 1) (own_cod_3_1 l Z a0 cx [] (r2) (kb2) ([(.int ((c0 >>> ((0 : Int32) &&& 31)).toInt8.toInt32)), (.int ((c0 >>> ((8 : Int32) &&& 31)).toInt8.toInt32)), (.int ((c1 >>> ((0 : Int32) &&& 31)).toInt8.toInt32)), (.int ((c1 >>> ((8 : Int32) &&& 31)).toInt8.toInt32)), (.int ((c2 >>> ((0 : Int32) &&& 31)).toInt8.toInt32)), (.int ((c2 >>> ((8 : Int32) &&& 31)).toInt8.toInt32))]) vm2 h2 O3 q2_1) (ow hw 99 rfl) (ow hw 73 rfl) (by decide) (by decide) hZ H hEL) 48 (argsL := [(.ref r2), (.int (3 : Int32))]) (rest := [(.ref x)]) (lenOf own_pd168 rfl) rfl rfl (Nat.le_of_eq rfl) (by rw [hml]; rfl) (hb hby d167) rfl (by decide) (by decide) ?_
  rintro _ vm3 h3 C3 ⟨rfl, rfl⟩
  have z3 := C3.2.1
  refine gat1 ?_
  have f4 := (P2.keep K2 nin0)
  have f5 := (P0.keep K2)
  have f6 := (C3.safe (show h2.size > x by omega) (C2.safe (show h0.size > x by omega) L4))
  refine gputF (host := "") hx (Or.inl (ow hw 35 rfl)) Via.refl f4 f5 (Or.inr ⟨(ow hw 31 rfl), rfl, hnm⟩) (ow hw 16 rfl) (ty := .byte) (by decide) rfl rfl P3 (fun _ => f6) 51 (hb hby d169) rfl ?_
  intro h7 W7 C7
  have z7 := C7.2.1
  have F7 := f4.same W7
  refine uAN 52 hx hby d170 rfl rfl rfl ?_
  refine uA 54 hx hby d171 rfl rfl rfl ?_
  have f8 := ((P1.keep K2 nin0).other W7 (Or.inr (slot_ne (Or.inr (ow hw 30 rfl)) (Or.inr (ow hw 31 rfl)) (by decide) (t := (.array .byte)) (t' := .byte) (by decide) (by decide))))
  have f9 := (f5.wr W7)
  have f10 := (C7.safe (show h2.size > x by omega) f6)
  refine gputF (host := "") hx (Or.inl (ow hw 34 rfl)) Via.refl f8 f9 (Or.inr ⟨(ow hw 30 rfl), rfl, hnm⟩) (ow hw 16 rfl) (ty := (.array .byte)) (by decide) rfl rfl P3 (fun _ => f10) 57 (hb hby d172) rfl ?_
  intro h11 W11 C11
  have z11 := C11.2.1
  have F11 := f8.same W11
  have f12 := (f9.wr W11)
  have f13 := (F7.other W11 (Or.inr (slot_ne (Or.inr (ow hw 31 rfl)) (Or.inr (ow hw 30 rfl)) (by decide) (t := .byte) (t' := (.array .byte)) (by decide) (by decide))))
  have f14 := ((q2_1.other W7 (Nat.ne_of_gt (by omega))).other W11 (Nat.ne_of_gt (by omega)))
  exact gretV hx hret (hb hby d173) (by decide) (by decide) (fun vq Cq => ⟨r2, rfl, ((((Keep.refl h0 [x]).trans K2 all0).wr W7 (Or.inl (List.mem_of_getElem? (i := 0) rfl))).wr W11 (Or.inl (List.mem_of_getElem? (i := 0) rfl))), ⟨f12, F11, Nat.le_of_ble_eq_true rfl, h16, Or.inr ⟨f13, _, f14⟩⟩⟩)
theorem own_i4_3_3 (l : Launch) (Z : State) (a0 : Array Value) (cx : Ctx Z a0) (ws : List Jvm.Cond) (x : Addr) (a : Addr) (v0 : Value) (c0v : Value) (kc : ClassId) (c0 : Int32) (c1 : Int32) (c2 : Int32) (vm0 : Vm) (h0 : Heap) (X00 : Ext Z.heap h0) (P0 : Exa Z h0 x c0_) (P1 : Fld Z h0 x c0_ "value" "[B" v0) (P2 : Fld Z h0 x c0_ "coder" "B" c0v) (P3 : Z.heap.size ≤ x) (P4 : Safe Z consts_1 vm0 h0 x) (P5 : Arv Z h0 a kc .char (3 : Int32) [(.int c0), (.int c1), (.int c2)] (.int (0 : Int32))) (P6 : (¬ (255 : Int32) < c0)) (P7 : (¬ (255 : Int32) < c1)) (P8 : (¬ (255 : Int32) < c2)) (h16 : (∀ c ∈ [c0, c1, c2], ¬ c < 0 ∧ ¬ (65535 : Int32) < c)) :
    Met l mn174 y3_ 6 none ws ({ frames := 2, cells := 1, slots := 3, locals := 35 } : Room) Z consts_1 vm0 h0 #[(.ref x), (.ref a), (.int (0 : Int32)), (.int (3 : Int32)), .null] (fun rv vm h => ∃ (t : Addr), rv = none ∧ Keep h0 h [x] ∧ Txt Z h x t [c0, c1, c2]) := by
  obtain ⟨hw, hEL, ⟨zc, Scs, hzc⟩, ⟨fm, Sfm, hfm⟩, Sad, Shi, Slo⟩ := id cx
  have hSA := own_SA hw
  refine Met.of_walk (a0 := a0) #[vr x, vr a, vi (0 : Int32), vi (3 : Int32), .val .null, un] (plainFor_of_name own_pn175) X00 hEL (fun m => by first | (simp [entryFrame, mkF, argsToLocals, Value.category]; done) | rfl) ?_
  intro p e s m below meth c vm hx hby hml hret hnm hC0 hW0
  have lt_x : h0.size > x := P0.lt
  have L4 := hC0.safe lt_x P4
  have lt_a : h0.size > a := P5.lt
  refine uAN 1 hx hby d153 rfl rfl rfl ?_
  refine ginitO hx (ow hw 25 rfl) (ow hw 26 rfl) (ow hw 27 rfl) 4 (W := 0) (Nat.le_of_eq rfl) (by rw [hml]; rfl) (hb hby d154) rfl (by decide) (by decide) ?_
  refine uIN 5 hx hby d155 rfl rfl ?_
  refine uY 27 hx hby d156 ((if0 _ _).trans (feq (by decide)).2) (by decide) (by decide) ?_
  refine ggetS (host := "") hx (Or.inl (ow hw 50 rfl)) Via.refl Scs 30 (hb hby d157) rfl ?_
  refine uN 33 hx hby d158 rfl ((if0 _ _).trans (feq hzc).1) ?_
  refine uAN 34 hx hby d159 rfl rfl rfl ?_
  refine uIN 35 hx hby d160 rfl rfl ?_
  refine uIN 36 hx hby d161 rfl rfl ?_
  refine ginfo fun _ _ O2 => ?_
  refine gcallS (y := mn141) hx (ow hw 71 rfl) (ow hw 72 rfl) (ow hw 73 rfl) (ow hw 74 rfl) (by decide) (fun hZ H hEL => Pay.of_met (W := 0) (own_c3_3_3 l Z a0 cx [] (a) (kc) (c0) (c1) (c2) vm h0 O2 P5 (by first | assumption | decide | omega) (by first | assumption | decide | omega) (by first | assumption | decide | omega)) (ow hw 74 rfl) (ow hw 73 rfl) (by decide) (by decide) hZ H hEL) 39 (argsL := [(.ref a), (.int (0 : Int32)), (.int (3 : Int32))]) (rest := []) (lenOf own_pd131 rfl) rfl rfl (Nat.le_of_eq rfl) (by rw [hml]; rfl) (hb hby d162) rfl (by decide) (by decide) ?_
  rintro _ vm2 h2 C2 ⟨r2, kb2, rfl, K2, q2_0, q2_1⟩
  have z2 := C2.2.1
  have lt_r2 : h2.size > r2 := q2_1.lt
  refine gat1 ?_
  refine uSA 41 #[vr x, vr a, vi (0 : Int32), vi (3 : Int32), .val .null, vr r2] hx hby d163 rfl rfl rfl ?_
  refine uAN 42 hx hby d164 rfl rfl rfl ?_
  refine uA 44 hx hby d165 rfl rfl rfl ?_
  refine uIN 45 hx hby d166 rfl rfl ?_
  refine ginfo fun _ _ O3 => ?_
  refine gcallS (y := mn152) hx (ow hw 97 rfl) (ow hw 98 rfl) (ow hw 73 rfl) (ow hw 99 rfl) (by decide) (fun hZ H hEL => Pay.of_met (W := 1) (own_cod_3_0 l Z a0 cx [] (r2) (kb2) ([(.int (c0.toInt8.toInt32)), (.int (c1.toInt8.toInt32)), (.int (c2.toInt8.toInt32))]) vm2 h2 O3 q2_1) (ow hw 99 rfl) (ow hw 73 rfl) (by decide) (by decide) hZ H hEL) 48 (argsL := [(.ref r2), (.int (3 : Int32))]) (rest := [(.ref x)]) (lenOf own_pd168 rfl) rfl rfl (Nat.le_of_eq rfl) (by rw [hml]; rfl) (hb hby d167) rfl (by decide) (by decide) ?_
  rintro _ vm3 h3 C3 ⟨rfl, rfl⟩
  have z3 := C3.2.1
  refine gat1 ?_
  have f4 := (P2.keep K2 nin0)
  have f5 := (P0.keep K2)
  have f6 := (C3.safe (show h2.size > x by omega) (C2.safe (show h0.size > x by omega) L4))
  refine gputF (host := "") hx (Or.inl (ow hw 35 rfl)) Via.refl f4 f5 (Or.inr ⟨(ow hw 31 rfl), rfl, hnm⟩) (ow hw 16 rfl) (ty := .byte) (by decide) rfl rfl P3 (fun _ => f6) 51 (hb hby d169) rfl ?_
  intro h7 W7 C7
  have z7 := C7.2.1
  have F7 := f4.same W7
  refine uAN 52 hx hby d170 rfl rfl rfl ?_
  refine uA 54 hx hby d171 rfl rfl rfl ?_
  have f8 := ((P1.keep K2 nin0).other W7 (Or.inr (slot_ne (Or.inr (ow hw 30 rfl)) (Or.inr (ow hw 31 rfl)) (by decide) (t := (.array .byte)) (t' := .byte) (by decide) (by decide))))
  have f9 := (f5.wr W7)
  have f10 := (C7.safe (show h2.size > x by omega) f6)
  refine gputF (host := "") hx (Or.inl (ow hw 34 rfl)) Via.refl f8 f9 (Or.inr ⟨(ow hw 30 rfl), rfl, hnm⟩) (ow hw 16 rfl) (ty := (.array .byte)) (by decide) rfl rfl P3 (fun _ => f10) 57 (hb hby d172) rfl ?_
  intro h11 W11 C11
  have z11 := C11.2.1
  have F11 := f8.same W11
  have f12 := (f9.wr W11)
  have f13 := (F7.other W11 (Or.inr (slot_ne (Or.inr (ow hw 31 rfl)) (Or.inr (ow hw 30 rfl)) (by decide) (t := .byte) (t' := (.array .byte)) (by decide) (by decide))))
  have f14 := ((q2_1.other W7 (Nat.ne_of_gt (by omega))).other W11 (Nat.ne_of_gt (by omega)))
  exact gretV hx hret (hb hby d173) (by decide) (by decide) (fun vq Cq => ⟨r2, rfl, ((((Keep.refl h0 [x]).trans K2 all0).wr W7 (Or.inl (List.mem_of_getElem? (i := 0) rfl))).wr W11 (Or.inl (List.mem_of_getElem? (i := 0) rfl))), ⟨f12, F11, Nat.le_of_ble_eq_true rfl, h16, Or.inl ⟨f13, (bcons ⟨(h16 _ (List.mem_of_getElem? (i := 0) rfl)).1, P6⟩ (bcons ⟨(h16 _ (List.mem_of_getElem? (i := 1) rfl)).1, P7⟩ (bcons ⟨(h16 _ (List.mem_of_getElem? (i := 2) rfl)).1, P8⟩ bnil))), _, f14⟩⟩⟩)
theorem own_i1_3 (l : Launch) (Z : State) (a0 : Array Value) (cx : Ctx Z a0) (ws : List Jvm.Cond) (x : Addr) (a : Addr) (v0 : Value) (c0v : Value) (kc : ClassId) (c0 : Int32) (c1 : Int32) (c2 : Int32) (vm0 : Vm) (h0 : Heap) (X00 : Ext Z.heap h0) (P0 : Exa Z h0 x c0_) (P1 : Fld Z h0 x c0_ "value" "[B" v0) (P2 : Fld Z h0 x c0_ "coder" "B" c0v) (P3 : Z.heap.size ≤ x) (P4 : Safe Z consts_1 vm0 h0 x) (P5 : Arv Z h0 a kc .char (3 : Int32) [(.int c0), (.int c1), (.int c2)] (.int (0 : Int32))) (h16 : (∀ c ∈ [c0, c1, c2], ¬ c < 0 ∧ ¬ (65535 : Int32) < c)) :
    Met l mn185 y7_ 2 none ws ({ frames := 5, cells := 2, slots := 9, locals := 74 } : Room) Z consts_1 vm0 h0 #[(.ref x), (.ref a)] (fun rv vm h => ∃ (t : Addr), rv = none ∧ Keep h0 h [x] ∧ Txt Z h x t [c0, c1, c2]) := by
  obtain ⟨hw, hEL, ⟨zc, Scs, hzc⟩, ⟨fm, Sfm, hfm⟩, Sad, Shi, Slo⟩ := id cx
  have hSA := own_SA hw
  refine Met.of_walk (a0 := a0) #[vr x, vr a] (plainFor_of_name own_pn175) X00 hEL (fun m => by first | (simp [entryFrame, mkF, argsToLocals, Value.category]; done) | rfl) ?_
  intro p e s m below meth c vm hx hby hml hret hnm hC0 hW0
  have lt_x : h0.size > x := P0.lt
  have L4 := hC0.safe lt_x P4
  have lt_a : h0.size > a := P5.lt
  refine uAN 1 hx hby d176 rfl rfl rfl ?_
  refine uAN 2 hx hby d177 rfl rfl rfl ?_
  refine uKc 3 (0 : Int32) hx hby d178 rfl rfl ?_
  refine uAN 4 hx hby d179 rfl rfl rfl ?_
  refine glen hx P5 5 (hb hby d180) rfl ?_
  refine uU 6 hx hby d181 rfl ?_
  by_cases g0 : (255 : Int32) < c0
  · refine ginfo fun _ _ O1 => ?_
    refine gcallI (y := mn174) hx rfl (ow hw 21 rfl) (ow hw 22 rfl) (ow hw 24 rfl) (by decide) (fun hZ H hEL => Pay.of_met (W := 0) (own_i4_3_0 l Z a0 cx [] (x) (a) (v0) (c0v) (kc) (c0) (c1) (c2) vm h0 O1 P0 P1 P2 P3 L4 P5 (by first | assumption | decide | omega) h16) (ow hw 24 rfl) (ow hw 17 rfl) (by decide) (by decide) hZ H hEL) (a := x) 9 (argsL := [(.ref a), (.int (0 : Int32)), (.int (3 : Int32)), .null]) (rest := []) (lenOf own_pd183 rfl) rfl rfl (Nat.le_of_eq rfl) (by rw [hml]; rfl) (hb hby d182) rfl (by decide) (by decide) ?_
    rintro _ vm1 h1 C1 ⟨t1, rfl, K1, q1_0⟩
    have z1 := C1.2.1
    have lt_t1 : h1.size > t1 := q1_0.tlt
    refine gat0 ?_
    exact gretV hx hret (hb hby d184) (by decide) (by decide) (fun vq Cq => ⟨t1, rfl, ((Keep.refl h0 [x]).trans K1 (allS (Or.inl (List.mem_of_getElem? (i := 0) rfl)) all0)), q1_0⟩)
  · by_cases g1 : (255 : Int32) < c1
    · refine ginfo fun _ _ O3 => ?_
      refine gcallI (y := mn174) hx rfl (ow hw 21 rfl) (ow hw 22 rfl) (ow hw 24 rfl) (by decide) (fun hZ H hEL => Pay.of_met (W := 0) (own_i4_3_1 l Z a0 cx [] (x) (a) (v0) (c0v) (kc) (c0) (c1) (c2) vm h0 O3 P0 P1 P2 P3 L4 P5 (by first | assumption | decide | omega) (by first | assumption | decide | omega) h16) (ow hw 24 rfl) (ow hw 17 rfl) (by decide) (by decide) hZ H hEL) (a := x) 9 (argsL := [(.ref a), (.int (0 : Int32)), (.int (3 : Int32)), .null]) (rest := []) (lenOf own_pd183 rfl) rfl rfl (Nat.le_of_eq rfl) (by rw [hml]; rfl) (hb hby d182) rfl (by decide) (by decide) ?_
      rintro _ vm3 h3 C3 ⟨t3, rfl, K3, q3_0⟩
      have z3 := C3.2.1
      have lt_t3 : h3.size > t3 := q3_0.tlt
      refine gat0 ?_
      exact gretV hx hret (hb hby d184) (by decide) (by decide) (fun vq Cq => ⟨t3, rfl, ((Keep.refl h0 [x]).trans K3 (allS (Or.inl (List.mem_of_getElem? (i := 0) rfl)) all0)), q3_0⟩)
    · by_cases g2 : (255 : Int32) < c2
      · refine ginfo fun _ _ O5 => ?_
        refine gcallI (y := mn174) hx rfl (ow hw 21 rfl) (ow hw 22 rfl) (ow hw 24 rfl) (by decide) (fun hZ H hEL => Pay.of_met (W := 0) (own_i4_3_2 l Z a0 cx [] (x) (a) (v0) (c0v) (kc) (c0) (c1) (c2) vm h0 O5 P0 P1 P2 P3 L4 P5 (by first | assumption | decide | omega) (by first | assumption | decide | omega) (by first | assumption | decide | omega) h16) (ow hw 24 rfl) (ow hw 17 rfl) (by decide) (by decide) hZ H hEL) (a := x) 9 (argsL := [(.ref a), (.int (0 : Int32)), (.int (3 : Int32)), .null]) (rest := []) (lenOf own_pd183 rfl) rfl rfl (Nat.le_of_eq rfl) (by rw [hml]; rfl) (hb hby d182) rfl (by decide) (by decide) ?_
        rintro _ vm5 h5 C5 ⟨t5, rfl, K5, q5_0⟩
        have z5 := C5.2.1
        have lt_t5 : h5.size > t5 := q5_0.tlt
        refine gat0 ?_
        exact gretV hx hret (hb hby d184) (by decide) (by decide) (fun vq Cq => ⟨t5, rfl, ((Keep.refl h0 [x]).trans K5 (allS (Or.inl (List.mem_of_getElem? (i := 0) rfl)) all0)), q5_0⟩)
      · refine ginfo fun _ _ O7 => ?_
        refine gcallI (y := mn174) hx rfl (ow hw 21 rfl) (ow hw 22 rfl) (ow hw 24 rfl) (by decide) (fun hZ H hEL => Pay.of_met (W := 0) (own_i4_3_3 l Z a0 cx [] (x) (a) (v0) (c0v) (kc) (c0) (c1) (c2) vm h0 O7 P0 P1 P2 P3 L4 P5 (by first | assumption | decide | omega) (by first | assumption | decide | omega) (by first | assumption | decide | omega) h16) (ow hw 24 rfl) (ow hw 17 rfl) (by decide) (by decide) hZ H hEL) (a := x) 9 (argsL := [(.ref a), (.int (0 : Int32)), (.int (3 : Int32)), .null]) (rest := []) (lenOf own_pd183 rfl) rfl rfl (Nat.le_of_eq rfl) (by rw [hml]; rfl) (hb hby d182) rfl (by decide) (by decide) ?_
        rintro _ vm7 h7 C7 ⟨t7, rfl, K7, q7_0⟩
        have z7 := C7.2.1
        have lt_t7 : h7.size > t7 := q7_0.tlt
        refine gat0 ?_
        exact gretV hx hret (hb hby d184) (by decide) (by decide) (fun vq Cq => ⟨t7, rfl, ((Keep.refl h0 [x]).trans K7 (allS (Or.inl (List.mem_of_getElem? (i := 0) rfl)) all0)), q7_0⟩)
theorem own_c5_4_0 (l : Launch) (Z : State) (a0 : Array Value) (cx : Ctx Z a0) (ws : List Jvm.Cond) (a : Addr) (d : Addr) (kc : ClassId) (kd : ClassId) (c0 : Int32) (c1 : Int32) (c2 : Int32) (c3 : Int32) (vm0 : Vm) (h0 : Heap) (X00 : Ext Z.heap h0) (P0 : Arv Z h0 a kc .char (4 : Int32) [(.int c0), (.int c1), (.int c2), (.int c3)] (.int (0 : Int32))) (P1 : Arv Z h0 d kd .byte (4 : Int32) [(.int (0 : Int32)), (.int (0 : Int32)), (.int (0 : Int32)), (.int (0 : Int32))] (.int (0 : Int32))) (P2 : Z.heap.size ≤ d) (P3 : Safe Z consts_1 vm0 h0 d) (hne : (a ≠ d)) (P5 : ((255 : Int32) < c0)) :
    Met l mn14 y14_ 7 (some .int) ws ({ frames := 0, cells := 0, slots := 0, locals := 0 } : Room) Z consts_1 vm0 h0 #[(.ref a), (.int (0 : Int32)), (.ref d), (.int (0 : Int32)), (.int (4 : Int32))] (fun rv vm h => rv = some (.int (0 : Int32)) ∧ Keep h0 h [d] ∧ Arv Z h d kd .byte (4 : Int32) [(.int (0 : Int32)), (.int (0 : Int32)), (.int (0 : Int32)), (.int (0 : Int32))] (.int (0 : Int32))) := by
  obtain ⟨hw, hEL, ⟨zc, Scs, hzc⟩, ⟨fm, Sfm, hfm⟩, Sad, Shi, Slo⟩ := id cx
  have hSA := own_SA hw
  refine Met.of_walk (a0 := a0) #[vr a, vi (0 : Int32), vr d, vi (0 : Int32), vi (4 : Int32), un, un] (plainFor_of_name own_pn15) X00 hEL (fun m => by first | (simp [entryFrame, mkF, argsToLocals, Value.category]; done) | rfl) ?_
  intro p e s m below meth c vm hx hby hml hret hnm hC0 hW0
  have lt_a : h0.size > a := P0.lt
  have lt_d : h0.size > d := P1.lt
  have L3 := hC0.safe lt_d P3
  refine uKc 1 (0 : Int32) hx hby d0 rfl rfl ?_
  refine uSI 3 #[vr a, vi (0 : Int32), vr d, vi (0 : Int32), vi (4 : Int32), vi (0 : Int32), un] hx hby d1 rfl rfl ?_
  refine uI 5 hx hby d2 rfl rfl ?_
  refine uI 7 hx hby d3 rfl rfl ?_
  refine uNc 10 hx hby d4 rfl (tlt (by decide)).2.1 ?_
  refine uAN 11 hx hby d5 rfl rfl rfl ?_
  refine uIN 12 hx hby d6 rfl rfl ?_
  refine gldC hx P0 ⟨by decide, by decide⟩ (i := 0) rfl (v := (.int c0)) rfl 13 (hb hby d7) rfl ?_
  refine uSI 15 #[vr a, vi (0 : Int32), vr d, vi (0 : Int32), vi (4 : Int32), vi (0 : Int32), vi c0] hx hby d8 rfl rfl ?_
  refine uI 17 hx hby d9 rfl rfl ?_
  refine uKs 20 (255 : Int32) hx hby d10 rfl rfl ?_
  refine uNc 23 hx hby d11 rfl (tlt P5).2.2.2 ?_
  refine uI 25 hx hby d12 rfl rfl ?_
  exact gretI hx hret (hb hby d13) (by decide) (by decide) (fun vq Cq => ⟨rfl, (Keep.refl h0 [d]), P1⟩)
theorem own_c5_4_1 (l : Launch) (Z : State) (a0 : Array Value) (cx : Ctx Z a0) (ws : List Jvm.Cond) (a : Addr) (d : Addr) (kc : ClassId) (kd : ClassId) (c0 : Int32) (c1 : Int32) (c2 : Int32) (c3 : Int32) (vm0 : Vm) (h0 : Heap) (X00 : Ext Z.heap h0) (P0 : Arv Z h0 a kc .char (4 : Int32) [(.int c0), (.int c1), (.int c2), (.int c3)] (.int (0 : Int32))) (P1 : Arv Z h0 d kd .byte (4 : Int32) [(.int (0 : Int32)), (.int (0 : Int32)), (.int (0 : Int32)), (.int (0 : Int32))] (.int (0 : Int32))) (P2 : Z.heap.size ≤ d) (P3 : Safe Z consts_1 vm0 h0 d) (hne : (a ≠ d)) (P5 : (¬ (255 : Int32) < c0)) (P6 : ((255 : Int32) < c1)) :
    Met l mn14 y14_ 7 (some .int) ws ({ frames := 0, cells := 0, slots := 0, locals := 0 } : Room) Z consts_1 vm0 h0 #[(.ref a), (.int (0 : Int32)), (.ref d), (.int (0 : Int32)), (.int (4 : Int32))] (fun rv vm h => rv = some (.int (1 : Int32)) ∧ Keep h0 h [d] ∧ Arv Z h d kd .byte (4 : Int32) [(.int (c0.toInt8.toInt32)), (.int (0 : Int32)), (.int (0 : Int32)), (.int (0 : Int32))] (.int (0 : Int32))) := by
  obtain ⟨hw, hEL, ⟨zc, Scs, hzc⟩, ⟨fm, Sfm, hfm⟩, Sad, Shi, Slo⟩ := id cx
  have hSA := own_SA hw
  refine Met.of_walk (a0 := a0) #[vr a, vi (0 : Int32), vr d, vi (0 : Int32), vi (4 : Int32), un, un] (plainFor_of_name own_pn15) X00 hEL (fun m => by first | (simp [entryFrame, mkF, argsToLocals, Value.category]; done) | rfl) ?_
  intro p e s m below meth c vm hx hby hml hret hnm hC0 hW0
  have lt_a : h0.size > a := P0.lt
  have lt_d : h0.size > d := P1.lt
  have L3 := hC0.safe lt_d P3
  refine uKc 1 (0 : Int32) hx hby d0 rfl rfl ?_
  refine uSI 3 #[vr a, vi (0 : Int32), vr d, vi (0 : Int32), vi (4 : Int32), vi (0 : Int32), un] hx hby d1 rfl rfl ?_
  refine uI 5 hx hby d2 rfl rfl ?_
  refine uI 7 hx hby d3 rfl rfl ?_
  refine uNc 10 hx hby d4 rfl (tlt (by decide)).2.1 ?_
  refine uAN 11 hx hby d5 rfl rfl rfl ?_
  refine uIN 12 hx hby d6 rfl rfl ?_
  refine gldC hx P0 ⟨by decide, by decide⟩ (i := 0) rfl (v := (.int c0)) rfl 13 (hb hby d7) rfl ?_
  refine uSI 15 #[vr a, vi (0 : Int32), vr d, vi (0 : Int32), vi (4 : Int32), vi (0 : Int32), vi c0] hx hby d8 rfl rfl ?_
  refine uI 17 hx hby d9 rfl rfl ?_
  refine uKs 20 (255 : Int32) hx hby d10 rfl rfl ?_
  refine uYc 26 hx hby d11 (flt P5).2.2.2 (by decide) (by decide) ?_
  refine uAN 27 hx hby d16 rfl rfl rfl ?_
  refine uIN 28 hx hby d17 rfl rfl ?_
  refine uI 30 hx hby d18 rfl rfl ?_
  refine gs (mkF m 31 #[vr a, vi (0 : Int32), vr d, vi (0 : Int32), vi (4 : Int32), vi (0 : Int32), vi c0] [(.int (c0.toInt8.toInt32)), (.int (0 : Int32)), (.ref d)]) (fun _ _ A kq => XS.i2b A hx rfl (hb hby d19) rfl kq) ?_
  refine gstB hx P1 ⟨by decide, by decide⟩ (i := 0) rfl (Nat.le_of_ble_eq_true rfl) (y := (c0.toInt8.toInt32)) (narB _) P2 (fun _ => L3) 32 (hb hby d20) rfl ?_
  intro h1 W1 C1 V1
  have z1 := C1.2.1
  replace V1 : Arv Z h1 d kd .byte (4 : Int32) [(.int (c0.toInt8.toInt32)), (.int (0 : Int32)), (.int (0 : Int32)), (.int (0 : Int32))] (.int (0 : Int32)) := V1
  refine uInc 35 #[vr a, vi (1 : Int32), vr d, vi (0 : Int32), vi (4 : Int32), vi (0 : Int32), vi c0] hx hby d21 rfl rfl rfl ?_
  refine uInc 38 #[vr a, vi (1 : Int32), vr d, vi (1 : Int32), vi (4 : Int32), vi (0 : Int32), vi c0] hx hby d22 rfl rfl rfl ?_
  refine uInc 41 #[vr a, vi (1 : Int32), vr d, vi (1 : Int32), vi (4 : Int32), vi (1 : Int32), vi c0] hx hby d23 rfl rfl rfl ?_
  refine uG 3 hx hby d24 (by decide) (by decide) ?_
  refine uI 5 hx hby d2 rfl rfl ?_
  refine uI 7 hx hby d3 rfl rfl ?_
  refine uNc 10 hx hby d4 rfl (tlt (by decide)).2.1 ?_
  refine uAN 11 hx hby d5 rfl rfl rfl ?_
  refine uIN 12 hx hby d6 rfl rfl ?_
  have f2 := (P0.other W1 hne)
  refine gldC hx f2 ⟨by decide, by decide⟩ (i := 1) rfl (v := (.int c1)) rfl 13 (hb hby d7) rfl ?_
  refine uSI 15 #[vr a, vi (1 : Int32), vr d, vi (1 : Int32), vi (4 : Int32), vi (1 : Int32), vi c1] hx hby d8 rfl rfl ?_
  refine uI 17 hx hby d9 rfl rfl ?_
  refine uKs 20 (255 : Int32) hx hby d10 rfl rfl ?_
  refine uNc 23 hx hby d11 rfl (tlt P6).2.2.2 ?_
  refine uI 25 hx hby d12 rfl rfl ?_
  exact gretI hx hret (hb hby d13) (by decide) (by decide) (fun vq Cq => ⟨rfl, ((Keep.refl h0 [d]).wr W1 (Or.inl (List.mem_of_getElem? (i := 0) rfl))), V1⟩)
theorem own_c5_4_2 (l : Launch) (Z : State) (a0 : Array Value) (cx : Ctx Z a0) (ws : List Jvm.Cond) (a : Addr) (d : Addr) (kc : ClassId) (kd : ClassId) (c0 : Int32) (c1 : Int32) (c2 : Int32) (c3 : Int32) (vm0 : Vm) (h0 : Heap) (X00 : Ext Z.heap h0) (P0 : Arv Z h0 a kc .char (4 : Int32) [(.int c0), (.int c1), (.int c2), (.int c3)] (.int (0 : Int32))) (P1 : Arv Z h0 d kd .byte (4 : Int32) [(.int (0 : Int32)), (.int (0 : Int32)), (.int (0 : Int32)), (.int (0 : Int32))] (.int (0 : Int32))) (P2 : Z.heap.size ≤ d) (P3 : Safe Z consts_1 vm0 h0 d) (hne : (a ≠ d)) (P5 : (¬ (255 : Int32) < c0)) (P6 : (¬ (255 : Int32) < c1)) (P7 : ((255 : Int32) < c2)) :
    Met l mn14 y14_ 7 (some .int) ws ({ frames := 0, cells := 0, slots := 0, locals := 0 } : Room) Z consts_1 vm0 h0 #[(.ref a), (.int (0 : Int32)), (.ref d), (.int (0 : Int32)), (.int (4 : Int32))] (fun rv vm h => rv = some (.int (2 : Int32)) ∧ Keep h0 h [d] ∧ Arv Z h d kd .byte (4 : Int32) [(.int (c0.toInt8.toInt32)), (.int (c1.toInt8.toInt32)), (.int (0 : Int32)), (.int (0 : Int32))] (.int (0 : Int32))) := by
  obtain ⟨hw, hEL, ⟨zc, Scs, hzc⟩, ⟨fm, Sfm, hfm⟩, Sad, Shi, Slo⟩ := id cx
  have hSA := own_SA hw
  refine Met.of_walk (a0 := a0) #[vr a, vi (0 : Int32), vr d, vi (0 : Int32), vi (4 : Int32), un, un] (plainFor_of_name own_pn15) X00 hEL (fun m => by first | (simp [entryFrame, mkF, argsToLocals, Value.category]; done) | rfl) ?_
  intro p e s m below meth c vm hx hby hml hret hnm hC0 hW0
  have lt_a : h0.size > a := P0.lt
  have lt_d : h0.size > d := P1.lt
  have L3 := hC0.safe lt_d P3
  refine uKc 1 (0 : Int32) hx hby d0 rfl rfl ?_
  refine uSI 3 #[vr a, vi (0 : Int32), vr d, vi (0 : Int32), vi (4 : Int32), vi (0 : Int32), un] hx hby d1 rfl rfl ?_
  refine uI 5 hx hby d2 rfl rfl ?_
  refine uI 7 hx hby d3 rfl rfl ?_
  refine uNc 10 hx hby d4 rfl (tlt (by decide)).2.1 ?_
  refine uAN 11 hx hby d5 rfl rfl rfl ?_
  refine uIN 12 hx hby d6 rfl rfl ?_
  refine gldC hx P0 ⟨by decide, by decide⟩ (i := 0) rfl (v := (.int c0)) rfl 13 (hb hby d7) rfl ?_
  refine uSI 15 #[vr a, vi (0 : Int32), vr d, vi (0 : Int32), vi (4 : Int32), vi (0 : Int32), vi c0] hx hby d8 rfl rfl ?_
  refine uI 17 hx hby d9 rfl rfl ?_
  refine uKs 20 (255 : Int32) hx hby d10 rfl rfl ?_
  refine uYc 26 hx hby d11 (flt P5).2.2.2 (by decide) (by decide) ?_
  refine uAN 27 hx hby d16 rfl rfl rfl ?_
  refine uIN 28 hx hby d17 rfl rfl ?_
  refine uI 30 hx hby d18 rfl rfl ?_
  refine gs (mkF m 31 #[vr a, vi (0 : Int32), vr d, vi (0 : Int32), vi (4 : Int32), vi (0 : Int32), vi c0] [(.int (c0.toInt8.toInt32)), (.int (0 : Int32)), (.ref d)]) (fun _ _ A kq => XS.i2b A hx rfl (hb hby d19) rfl kq) ?_
  refine gstB hx P1 ⟨by decide, by decide⟩ (i := 0) rfl (Nat.le_of_ble_eq_true rfl) (y := (c0.toInt8.toInt32)) (narB _) P2 (fun _ => L3) 32 (hb hby d20) rfl ?_
  intro h1 W1 C1 V1
  have z1 := C1.2.1
  replace V1 : Arv Z h1 d kd .byte (4 : Int32) [(.int (c0.toInt8.toInt32)), (.int (0 : Int32)), (.int (0 : Int32)), (.int (0 : Int32))] (.int (0 : Int32)) := V1
  refine uInc 35 #[vr a, vi (1 : Int32), vr d, vi (0 : Int32), vi (4 : Int32), vi (0 : Int32), vi c0] hx hby d21 rfl rfl rfl ?_
  refine uInc 38 #[vr a, vi (1 : Int32), vr d, vi (1 : Int32), vi (4 : Int32), vi (0 : Int32), vi c0] hx hby d22 rfl rfl rfl ?_
  refine uInc 41 #[vr a, vi (1 : Int32), vr d, vi (1 : Int32), vi (4 : Int32), vi (1 : Int32), vi c0] hx hby d23 rfl rfl rfl ?_
  refine uG 3 hx hby d24 (by decide) (by decide) ?_
  refine uI 5 hx hby d2 rfl rfl ?_
  refine uI 7 hx hby d3 rfl rfl ?_
  refine uNc 10 hx hby d4 rfl (tlt (by decide)).2.1 ?_
  refine uAN 11 hx hby d5 rfl rfl rfl ?_
  refine uIN 12 hx hby d6 rfl rfl ?_
  have f2 := (P0.other W1 hne)
  refine gldC hx f2 ⟨by decide, by decide⟩ (i := 1) rfl (v := (.int c1)) rfl 13 (hb hby d7) rfl ?_
  refine uSI 15 #[vr a, vi (1 : Int32), vr d, vi (1 : Int32), vi (4 : Int32), vi (1 : Int32), vi c1] hx hby d8 rfl rfl ?_
  refine uI 17 hx hby d9 rfl rfl ?_
  refine uKs 20 (255 : Int32) hx hby d10 rfl rfl ?_
  refine uYc 26 hx hby d11 (flt P6).2.2.2 (by decide) (by decide) ?_
  refine uAN 27 hx hby d16 rfl rfl rfl ?_
  refine uIN 28 hx hby d17 rfl rfl ?_
  refine uI 30 hx hby d18 rfl rfl ?_
  refine gs (mkF m 31 #[vr a, vi (1 : Int32), vr d, vi (1 : Int32), vi (4 : Int32), vi (1 : Int32), vi c1] [(.int (c1.toInt8.toInt32)), (.int (1 : Int32)), (.ref d)]) (fun _ _ A kq => XS.i2b A hx rfl (hb hby d19) rfl kq) ?_
  have f4 := (C1.safe (show h0.size > d by omega) L3)
  refine gstB hx V1 ⟨by decide, by decide⟩ (i := 1) rfl (Nat.le_of_ble_eq_true rfl) (y := (c1.toInt8.toInt32)) (narB _) P2 (fun _ => f4) 32 (hb hby d20) rfl ?_
  intro h3 W3 C3 V3
  have z3 := C3.2.1
  replace V3 : Arv Z h3 d kd .byte (4 : Int32) [(.int (c0.toInt8.toInt32)), (.int (c1.toInt8.toInt32)), (.int (0 : Int32)), (.int (0 : Int32))] (.int (0 : Int32)) := V3
  refine uInc 35 #[vr a, vi (2 : Int32), vr d, vi (1 : Int32), vi (4 : Int32), vi (1 : Int32), vi c1] hx hby d21 rfl rfl rfl ?_
  refine uInc 38 #[vr a, vi (2 : Int32), vr d, vi (2 : Int32), vi (4 : Int32), vi (1 : Int32), vi c1] hx hby d22 rfl rfl rfl ?_
  refine uInc 41 #[vr a, vi (2 : Int32), vr d, vi (2 : Int32), vi (4 : Int32), vi (2 : Int32), vi c1] hx hby d23 rfl rfl rfl ?_
  refine uG 3 hx hby d24 (by decide) (by decide) ?_
  refine uI 5 hx hby d2 rfl rfl ?_
  refine uI 7 hx hby d3 rfl rfl ?_
  refine uNc 10 hx hby d4 rfl (tlt (by decide)).2.1 ?_
  refine uAN 11 hx hby d5 rfl rfl rfl ?_
  refine uIN 12 hx hby d6 rfl rfl ?_
  have f5 := (f2.other W3 hne)
  refine gldC hx f5 ⟨by decide, by decide⟩ (i := 2) rfl (v := (.int c2)) rfl 13 (hb hby d7) rfl ?_
  refine uSI 15 #[vr a, vi (2 : Int32), vr d, vi (2 : Int32), vi (4 : Int32), vi (2 : Int32), vi c2] hx hby d8 rfl rfl ?_
  refine uI 17 hx hby d9 rfl rfl ?_
  refine uKs 20 (255 : Int32) hx hby d10 rfl rfl ?_
  refine uNc 23 hx hby d11 rfl (tlt P7).2.2.2 ?_
  refine uI 25 hx hby d12 rfl rfl ?_
  exact gretI hx hret (hb hby d13) (by decide) (by decide) (fun vq Cq => ⟨rfl, (((Keep.refl h0 [d]).wr W1 (Or.inl (List.mem_of_getElem? (i := 0) rfl))).wr W3 (Or.inl (List.mem_of_getElem? (i := 0) rfl))), V3⟩)
theorem own_c5_4_3 (l : Launch) (Z : State) (a0 : Array Value) (cx : Ctx Z a0) (ws : List Jvm.Cond) (a : Addr) (d : Addr) (kc : ClassId) (kd : ClassId) (c0 : Int32) (c1 : Int32) (c2 : Int32) (c3 : Int32) (vm0 : Vm) (h0 : Heap) (X00 : Ext Z.heap h0) (P0 : Arv Z h0 a kc .char (4 : Int32) [(.int c0), (.int c1), (.int c2), (.int c3)] (.int (0 : Int32))) (P1 : Arv Z h0 d kd .byte (4 : Int32) [(.int (0 : Int32)), (.int (0 : Int32)), (.int (0 : Int32)), (.int (0 : Int32))] (.int (0 : Int32))) (P2 : Z.heap.size ≤ d) (P3 : Safe Z consts_1 vm0 h0 d) (hne : (a ≠ d)) (P5 : (¬ (255 : Int32) < c0)) (P6 : (¬ (255 : Int32) < c1)) (P7 : (¬ (255 : Int32) < c2)) (P8 : ((255 : Int32) < c3)) :
    Met l mn14 y14_ 7 (some .int) ws ({ frames := 0, cells := 0, slots := 0, locals := 0 } : Room) Z consts_1 vm0 h0 #[(.ref a), (.int (0 : Int32)), (.ref d), (.int (0 : Int32)), (.int (4 : Int32))] (fun rv vm h => rv = some (.int (3 : Int32)) ∧ Keep h0 h [d] ∧ Arv Z h d kd .byte (4 : Int32) [(.int (c0.toInt8.toInt32)), (.int (c1.toInt8.toInt32)), (.int (c2.toInt8.toInt32)), (.int (0 : Int32))] (.int (0 : Int32))) := by
  obtain ⟨hw, hEL, ⟨zc, Scs, hzc⟩, ⟨fm, Sfm, hfm⟩, Sad, Shi, Slo⟩ := id cx
  have hSA := own_SA hw
  refine Met.of_walk (a0 := a0) #[vr a, vi (0 : Int32), vr d, vi (0 : Int32), vi (4 : Int32), un, un] (plainFor_of_name own_pn15) X00 hEL (fun m => by first | (simp [entryFrame, mkF, argsToLocals, Value.category]; done) | rfl) ?_
  intro p e s m below meth c vm hx hby hml hret hnm hC0 hW0
  have lt_a : h0.size > a := P0.lt
  have lt_d : h0.size > d := P1.lt
  have L3 := hC0.safe lt_d P3
  refine uKc 1 (0 : Int32) hx hby d0 rfl rfl ?_
  refine uSI 3 #[vr a, vi (0 : Int32), vr d, vi (0 : Int32), vi (4 : Int32), vi (0 : Int32), un] hx hby d1 rfl rfl ?_
  refine uI 5 hx hby d2 rfl rfl ?_
  refine uI 7 hx hby d3 rfl rfl ?_
  refine uNc 10 hx hby d4 rfl (tlt (by decide)).2.1 ?_
  refine uAN 11 hx hby d5 rfl rfl rfl ?_
  refine uIN 12 hx hby d6 rfl rfl ?_
  refine gldC hx P0 ⟨by decide, by decide⟩ (i := 0) rfl (v := (.int c0)) rfl 13 (hb hby d7) rfl ?_
  refine uSI 15 #[vr a, vi (0 : Int32), vr d, vi (0 : Int32), vi (4 : Int32), vi (0 : Int32), vi c0] hx hby d8 rfl rfl ?_
  refine uI 17 hx hby d9 rfl rfl ?_
  refine uKs 20 (255 : Int32) hx hby d10 rfl rfl ?_
  refine uYc 26 hx hby d11 (flt P5).2.2.2 (by decide) (by decide) ?_
  refine uAN 27 hx hby d16 rfl rfl rfl ?_
  refine uIN 28 hx hby d17 rfl rfl ?_
  refine uI 30 hx hby d18 rfl rfl ?_
  refine gs (mkF m 31 #[vr a, vi (0 : Int32), vr d, vi (0 : Int32), vi (4 : Int32), vi (0 : Int32), vi c0] [(.int (c0.toInt8.toInt32)), (.int (0 : Int32)), (.ref d)]) (fun _ _ A kq => XS.i2b A hx rfl (hb hby d19) rfl kq) ?_
  refine gstB hx P1 ⟨by decide, by decide⟩ (i := 0) rfl (Nat.le_of_ble_eq_true rfl) (y := (c0.toInt8.toInt32)) (narB _) P2 (fun _ => L3) 32 (hb hby d20) rfl ?_
  intro h1 W1 C1 V1
  have z1 := C1.2.1
  replace V1 : Arv Z h1 d kd .byte (4 : Int32) [(.int (c0.toInt8.toInt32)), (.int (0 : Int32)), (.int (0 : Int32)), (.int (0 : Int32))] (.int (0 : Int32)) := V1
  refine uInc 35 #[vr a, vi (1 : Int32), vr d, vi (0 : Int32), vi (4 : Int32), vi (0 : Int32), vi c0] hx hby d21 rfl rfl rfl ?_
  refine uInc 38 #[vr a, vi (1 : Int32), vr d, vi (1 : Int32), vi (4 : Int32), vi (0 : Int32), vi c0] hx hby d22 rfl rfl rfl ?_
  refine uInc 41 #[vr a, vi (1 : Int32), vr d, vi (1 : Int32), vi (4 : Int32), vi (1 : Int32), vi c0] hx hby d23 rfl rfl rfl ?_
  refine uG 3 hx hby d24 (by decide) (by decide) ?_
  refine uI 5 hx hby d2 rfl rfl ?_
  refine uI 7 hx hby d3 rfl rfl ?_
  refine uNc 10 hx hby d4 rfl (tlt (by decide)).2.1 ?_
  refine uAN 11 hx hby d5 rfl rfl rfl ?_
  refine uIN 12 hx hby d6 rfl rfl ?_
  have f2 := (P0.other W1 hne)
  refine gldC hx f2 ⟨by decide, by decide⟩ (i := 1) rfl (v := (.int c1)) rfl 13 (hb hby d7) rfl ?_
  refine uSI 15 #[vr a, vi (1 : Int32), vr d, vi (1 : Int32), vi (4 : Int32), vi (1 : Int32), vi c1] hx hby d8 rfl rfl ?_
  refine uI 17 hx hby d9 rfl rfl ?_
  refine uKs 20 (255 : Int32) hx hby d10 rfl rfl ?_
  refine uYc 26 hx hby d11 (flt P6).2.2.2 (by decide) (by decide) ?_
  refine uAN 27 hx hby d16 rfl rfl rfl ?_
  refine uIN 28 hx hby d17 rfl rfl ?_
  refine uI 30 hx hby d18 rfl rfl ?_
  refine gs (mkF m 31 #[vr a, vi (1 : Int32), vr d, vi (1 : Int32), vi (4 : Int32), vi (1 : Int32), vi c1] [(.int (c1.toInt8.toInt32)), (.int (1 : Int32)), (.ref d)]) (fun _ _ A kq => XS.i2b A hx rfl (hb hby d19) rfl kq) ?_
  have f4 := (C1.safe (show h0.size > d by omega) L3)
  refine gstB hx V1 ⟨by decide, by decide⟩ (i := 1) rfl (Nat.le_of_ble_eq_true rfl) (y := (c1.toInt8.toInt32)) (narB _) P2 (fun _ => f4) 32 (hb hby d20) rfl ?_
  intro h3 W3 C3 V3
  have z3 := C3.2.1
  replace V3 : Arv Z h3 d kd .byte (4 : Int32) [(.int (c0.toInt8.toInt32)), (.int (c1.toInt8.toInt32)), (.int (0 : Int32)), (.int (0 : Int32))] (.int (0 : Int32)) := V3
  refine uInc 35 #[vr a, vi (2 : Int32), vr d, vi (1 : Int32), vi (4 : Int32), vi (1 : Int32), vi c1] hx hby d21 rfl rfl rfl ?_
  refine uInc 38 #[vr a, vi (2 : Int32), vr d, vi (2 : Int32), vi (4 : Int32), vi (1 : Int32), vi c1] hx hby d22 rfl rfl rfl ?_
  refine uInc 41 #[vr a, vi (2 : Int32), vr d, vi (2 : Int32), vi (4 : Int32), vi (2 : Int32), vi c1] hx hby d23 rfl rfl rfl ?_
  refine uG 3 hx hby d24 (by decide) (by decide) ?_
  refine uI 5 hx hby d2 rfl rfl ?_
  refine uI 7 hx hby d3 rfl rfl ?_
  refine uNc 10 hx hby d4 rfl (tlt (by decide)).2.1 ?_
  refine uAN 11 hx hby d5 rfl rfl rfl ?_
  refine uIN 12 hx hby d6 rfl rfl ?_
  have f5 := (f2.other W3 hne)
  refine gldC hx f5 ⟨by decide, by decide⟩ (i := 2) rfl (v := (.int c2)) rfl 13 (hb hby d7) rfl ?_
  refine uSI 15 #[vr a, vi (2 : Int32), vr d, vi (2 : Int32), vi (4 : Int32), vi (2 : Int32), vi c2] hx hby d8 rfl rfl ?_
  refine uI 17 hx hby d9 rfl rfl ?_
  refine uKs 20 (255 : Int32) hx hby d10 rfl rfl ?_
  refine uYc 26 hx hby d11 (flt P7).2.2.2 (by decide) (by decide) ?_
  refine uAN 27 hx hby d16 rfl rfl rfl ?_
  refine uIN 28 hx hby d17 rfl rfl ?_
  refine uI 30 hx hby d18 rfl rfl ?_
  refine gs (mkF m 31 #[vr a, vi (2 : Int32), vr d, vi (2 : Int32), vi (4 : Int32), vi (2 : Int32), vi c2] [(.int (c2.toInt8.toInt32)), (.int (2 : Int32)), (.ref d)]) (fun _ _ A kq => XS.i2b A hx rfl (hb hby d19) rfl kq) ?_
  have f7 := (C3.safe (show h1.size > d by omega) f4)
  refine gstB hx V3 ⟨by decide, by decide⟩ (i := 2) rfl (Nat.le_of_ble_eq_true rfl) (y := (c2.toInt8.toInt32)) (narB _) P2 (fun _ => f7) 32 (hb hby d20) rfl ?_
  intro h6 W6 C6 V6
  have z6 := C6.2.1
  replace V6 : Arv Z h6 d kd .byte (4 : Int32) [(.int (c0.toInt8.toInt32)), (.int (c1.toInt8.toInt32)), (.int (c2.toInt8.toInt32)), (.int (0 : Int32))] (.int (0 : Int32)) := V6
  refine uInc 35 #[vr a, vi (3 : Int32), vr d, vi (2 : Int32), vi (4 : Int32), vi (2 : Int32), vi c2] hx hby d21 rfl rfl rfl ?_
  refine uInc 38 #[vr a, vi (3 : Int32), vr d, vi (3 : Int32), vi (4 : Int32), vi (2 : Int32), vi c2] hx hby d22 rfl rfl rfl ?_
  refine uInc 41 #[vr a, vi (3 : Int32), vr d, vi (3 : Int32), vi (4 : Int32), vi (3 : Int32), vi c2] hx hby d23 rfl rfl rfl ?_
  refine uG 3 hx hby d24 (by decide) (by decide) ?_
  refine uI 5 hx hby d2 rfl rfl ?_
  refine uI 7 hx hby d3 rfl rfl ?_
  refine uNc 10 hx hby d4 rfl (tlt (by decide)).2.1 ?_
  refine uAN 11 hx hby d5 rfl rfl rfl ?_
  refine uIN 12 hx hby d6 rfl rfl ?_
  have f8 := (f5.other W6 hne)
  refine gldC hx f8 ⟨by decide, by decide⟩ (i := 3) rfl (v := (.int c3)) rfl 13 (hb hby d7) rfl ?_
  refine uSI 15 #[vr a, vi (3 : Int32), vr d, vi (3 : Int32), vi (4 : Int32), vi (3 : Int32), vi c3] hx hby d8 rfl rfl ?_
  refine uI 17 hx hby d9 rfl rfl ?_
  refine uKs 20 (255 : Int32) hx hby d10 rfl rfl ?_
  refine uNc 23 hx hby d11 rfl (tlt P8).2.2.2 ?_
  refine uI 25 hx hby d12 rfl rfl ?_
  exact gretI hx hret (hb hby d13) (by decide) (by decide) (fun vq Cq => ⟨rfl, ((((Keep.refl h0 [d]).wr W1 (Or.inl (List.mem_of_getElem? (i := 0) rfl))).wr W3 (Or.inl (List.mem_of_getElem? (i := 0) rfl))).wr W6 (Or.inl (List.mem_of_getElem? (i := 0) rfl))), V6⟩)
theorem own_c5_4_4 (l : Launch) (Z : State) (a0 : Array Value) (cx : Ctx Z a0) (ws : List Jvm.Cond) (a : Addr) (d : Addr) (kc : ClassId) (kd : ClassId) (c0 : Int32) (c1 : Int32) (c2 : Int32) (c3 : Int32) (vm0 : Vm) (h0 : Heap) (X00 : Ext Z.heap h0) (P0 : Arv Z h0 a kc .char (4 : Int32) [(.int c0), (.int c1), (.int c2), (.int c3)] (.int (0 : Int32))) (P1 : Arv Z h0 d kd .byte (4 : Int32) [(.int (0 : Int32)), (.int (0 : Int32)), (.int (0 : Int32)), (.int (0 : Int32))] (.int (0 : Int32))) (P2 : Z.heap.size ≤ d) (P3 : Safe Z consts_1 vm0 h0 d) (hne : (a ≠ d)) (P5 : (¬ (255 : Int32) < c0)) (P6 : (¬ (255 : Int32) < c1)) (P7 : (¬ (255 : Int32) < c2)) (P8 : (¬ (255 : Int32) < c3)) :
    Met l mn14 y14_ 7 (some .int) ws ({ frames := 0, cells := 0, slots := 0, locals := 0 } : Room) Z consts_1 vm0 h0 #[(.ref a), (.int (0 : Int32)), (.ref d), (.int (0 : Int32)), (.int (4 : Int32))] (fun rv vm h => rv = some (.int (4 : Int32)) ∧ Keep h0 h [d] ∧ Arv Z h d kd .byte (4 : Int32) [(.int (c0.toInt8.toInt32)), (.int (c1.toInt8.toInt32)), (.int (c2.toInt8.toInt32)), (.int (c3.toInt8.toInt32))] (.int (0 : Int32))) := by
  obtain ⟨hw, hEL, ⟨zc, Scs, hzc⟩, ⟨fm, Sfm, hfm⟩, Sad, Shi, Slo⟩ := id cx
  have hSA := own_SA hw
  refine Met.of_walk (a0 := a0) #[vr a, vi (0 : Int32), vr d, vi (0 : Int32), vi (4 : Int32), un, un] (plainFor_of_name own_pn15) X00 hEL (fun m => by first | (simp [entryFrame, mkF, argsToLocals, Value.category]; done) | rfl) ?_
  intro p e s m below meth c vm hx hby hml hret hnm hC0 hW0
  have lt_a : h0.size > a := P0.lt
  have lt_d : h0.size > d := P1.lt
  have L3 := hC0.safe lt_d P3
  refine uKc 1 (0 : Int32) hx hby d0 rfl rfl ?_
  refine uSI 3 #[vr a, vi (0 : Int32), vr d, vi (0 : Int32), vi (4 : Int32), vi (0 : Int32), un] hx hby d1 rfl rfl ?_
  refine uI 5 hx hby d2 rfl rfl ?_
  refine uI 7 hx hby d3 rfl rfl ?_
  refine uNc 10 hx hby d4 rfl (tlt (by decide)).2.1 ?_
  refine uAN 11 hx hby d5 rfl rfl rfl ?_
  refine uIN 12 hx hby d6 rfl rfl ?_
  refine gldC hx P0 ⟨by decide, by decide⟩ (i := 0) rfl (v := (.int c0)) rfl 13 (hb hby d7) rfl ?_
  refine uSI 15 #[vr a, vi (0 : Int32), vr d, vi (0 : Int32), vi (4 : Int32), vi (0 : Int32), vi c0] hx hby d8 rfl rfl ?_
  refine uI 17 hx hby d9 rfl rfl ?_
  refine uKs 20 (255 : Int32) hx hby d10 rfl rfl ?_
  refine uYc 26 hx hby d11 (flt P5).2.2.2 (by decide) (by decide) ?_
  refine uAN 27 hx hby d16 rfl rfl rfl ?_
  refine uIN 28 hx hby d17 rfl rfl ?_
  refine uI 30 hx hby d18 rfl rfl ?_
  refine gs (mkF m 31 #[vr a, vi (0 : Int32), vr d, vi (0 : Int32), vi (4 : Int32), vi (0 : Int32), vi c0] [(.int (c0.toInt8.toInt32)), (.int (0 : Int32)), (.ref d)]) (fun _ _ A kq => XS.i2b A hx rfl (hb hby d19) rfl kq) ?_
  refine gstB hx P1 ⟨by decide, by decide⟩ (i := 0) rfl (Nat.le_of_ble_eq_true rfl) (y := (c0.toInt8.toInt32)) (narB _) P2 (fun _ => L3) 32 (hb hby d20) rfl ?_
  intro h1 W1 C1 V1
  have z1 := C1.2.1
  replace V1 : Arv Z h1 d kd .byte (4 : Int32) [(.int (c0.toInt8.toInt32)), (.int (0 : Int32)), (.int (0 : Int32)), (.int (0 : Int32))] (.int (0 : Int32)) := V1
  refine uInc 35 #[vr a, vi (1 : Int32), vr d, vi (0 : Int32), vi (4 : Int32), vi (0 : Int32), vi c0] hx hby d21 rfl rfl rfl ?_
  refine uInc 38 #[vr a, vi (1 : Int32), vr d, vi (1 : Int32), vi (4 : Int32), vi (0 : Int32), vi c0] hx hby d22 rfl rfl rfl ?_
  refine uInc 41 #[vr a, vi (1 : Int32), vr d, vi (1 : Int32), vi (4 : Int32), vi (1 : Int32), vi c0] hx hby d23 rfl rfl rfl ?_
  refine uG 3 hx hby d24 (by decide) (by decide) ?_
  refine uI 5 hx hby d2 rfl rfl ?_
  refine uI 7 hx hby d3 rfl rfl ?_
  refine uNc 10 hx hby d4 rfl (tlt (by decide)).2.1 ?_
  refine uAN 11 hx hby d5 rfl rfl rfl ?_
  refine uIN 12 hx hby d6 rfl rfl ?_
  have f2 := (P0.other W1 hne)
  refine gldC hx f2 ⟨by decide, by decide⟩ (i := 1) rfl (v := (.int c1)) rfl 13 (hb hby d7) rfl ?_
  refine uSI 15 #[vr a, vi (1 : Int32), vr d, vi (1 : Int32), vi (4 : Int32), vi (1 : Int32), vi c1] hx hby d8 rfl rfl ?_
  refine uI 17 hx hby d9 rfl rfl ?_
  refine uKs 20 (255 : Int32) hx hby d10 rfl rfl ?_
  refine uYc 26 hx hby d11 (flt P6).2.2.2 (by decide) (by decide) ?_
  refine uAN 27 hx hby d16 rfl rfl rfl ?_
  refine uIN 28 hx hby d17 rfl rfl ?_
  refine uI 30 hx hby d18 rfl rfl ?_
  refine gs (mkF m 31 #[vr a, vi (1 : Int32), vr d, vi (1 : Int32), vi (4 : Int32), vi (1 : Int32), vi c1] [(.int (c1.toInt8.toInt32)), (.int (1 : Int32)), (.ref d)]) (fun _ _ A kq => XS.i2b A hx rfl (hb hby d19) rfl kq) ?_
  have f4 := (C1.safe (show h0.size > d by omega) L3)
  refine gstB hx V1 ⟨by decide, by decide⟩ (i := 1) rfl (Nat.le_of_ble_eq_true rfl) (y := (c1.toInt8.toInt32)) (narB _) P2 (fun _ => f4) 32 (hb hby d20) rfl ?_
  intro h3 W3 C3 V3
  have z3 := C3.2.1
  replace V3 : Arv Z h3 d kd .byte (4 : Int32) [(.int (c0.toInt8.toInt32)), (.int (c1.toInt8.toInt32)), (.int (0 : Int32)), (.int (0 : Int32))] (.int (0 : Int32)) := V3
  refine uInc 35 #[vr a, vi (2 : Int32), vr d, vi (1 : Int32), vi (4 : Int32), vi (1 : Int32), vi c1] hx hby d21 rfl rfl rfl ?_
  refine uInc 38 #[vr a, vi (2 : Int32), vr d, vi (2 : Int32), vi (4 : Int32), vi (1 : Int32), vi c1] hx hby d22 rfl rfl rfl ?_
  refine uInc 41 #[vr a, vi (2 : Int32), vr d, vi (2 : Int32), vi (4 : Int32), vi (2 : Int32), vi c1] hx hby d23 rfl rfl rfl ?_
  refine uG 3 hx hby d24 (by decide) (by decide) ?_
  refine uI 5 hx hby d2 rfl rfl ?_
  refine uI 7 hx hby d3 rfl rfl ?_
  refine uNc 10 hx hby d4 rfl (tlt (by decide)).2.1 ?_
  refine uAN 11 hx hby d5 rfl rfl rfl ?_
  refine uIN 12 hx hby d6 rfl rfl ?_
  have f5 := (f2.other W3 hne)
  refine gldC hx f5 ⟨by decide, by decide⟩ (i := 2) rfl (v := (.int c2)) rfl 13 (hb hby d7) rfl ?_
  refine uSI 15 #[vr a, vi (2 : Int32), vr d, vi (2 : Int32), vi (4 : Int32), vi (2 : Int32), vi c2] hx hby d8 rfl rfl ?_
  refine uI 17 hx hby d9 rfl rfl ?_
  refine uKs 20 (255 : Int32) hx hby d10 rfl rfl ?_
  refine uYc 26 hx hby d11 (flt P7).2.2.2 (by decide) (by decide) ?_
  refine uAN 27 hx hby d16 rfl rfl rfl ?_
  refine uIN 28 hx hby d17 rfl rfl ?_
  refine uI 30 hx hby d18 rfl rfl ?_
  refine gs (mkF m 31 #[vr a, vi (2 : Int32), vr d, vi (2 : Int32), vi (4 : Int32), vi (2 : Int32), vi c2] [(.int (c2.toInt8.toInt32)), (.int (2 : Int32)), (.ref d)]) (fun _ _ A kq => XS.i2b A hx rfl (hb hby d19) rfl kq) ?_
  have f7 := (C3.safe (show h1.size > d by omega) f4)
  refine gstB hx V3 ⟨by decide, by decide⟩ (i := 2) rfl (Nat.le_of_ble_eq_true rfl) (y := (c2.toInt8.toInt32)) (narB _) P2 (fun _ => f7) 32 (hb hby d20) rfl ?_
  intro h6 W6 C6 V6
  have z6 := C6.2.1
  replace V6 : Arv Z h6 d kd .byte (4 : Int32) [(.int (c0.toInt8.toInt32)), (.int (c1.toInt8.toInt32)), (.int (c2.toInt8.toInt32)), (.int (0 : Int32))] (.int (0 : Int32)) := V6
  refine uInc 35 #[vr a, vi (3 : Int32), vr d, vi (2 : Int32), vi (4 : Int32), vi (2 : Int32), vi c2] hx hby d21 rfl rfl rfl ?_
  refine uInc 38 #[vr a, vi (3 : Int32), vr d, vi (3 : Int32), vi (4 : Int32), vi (2 : Int32), vi c2] hx hby d22 rfl rfl rfl ?_
  refine uInc 41 #[vr a, vi (3 : Int32), vr d, vi (3 : Int32), vi (4 : Int32), vi (3 : Int32), vi c2] hx hby d23 rfl rfl rfl ?_
  refine uG 3 hx hby d24 (by decide) (by decide) ?_
  refine uI 5 hx hby d2 rfl rfl ?_
  refine uI 7 hx hby d3 rfl rfl ?_
  refine uNc 10 hx hby d4 rfl (tlt (by decide)).2.1 ?_
  refine uAN 11 hx hby d5 rfl rfl rfl ?_
  refine uIN 12 hx hby d6 rfl rfl ?_
  have f8 := (f5.other W6 hne)
  refine gldC hx f8 ⟨by decide, by decide⟩ (i := 3) rfl (v := (.int c3)) rfl 13 (hb hby d7) rfl ?_
  refine uSI 15 #[vr a, vi (3 : Int32), vr d, vi (3 : Int32), vi (4 : Int32), vi (3 : Int32), vi c3] hx hby d8 rfl rfl ?_
  refine uI 17 hx hby d9 rfl rfl ?_
  refine uKs 20 (255 : Int32) hx hby d10 rfl rfl ?_
  refine uYc 26 hx hby d11 (flt P8).2.2.2 (by decide) (by decide) ?_
  refine uAN 27 hx hby d16 rfl rfl rfl ?_
  refine uIN 28 hx hby d17 rfl rfl ?_
  refine uI 30 hx hby d18 rfl rfl ?_
  refine gs (mkF m 31 #[vr a, vi (3 : Int32), vr d, vi (3 : Int32), vi (4 : Int32), vi (3 : Int32), vi c3] [(.int (c3.toInt8.toInt32)), (.int (3 : Int32)), (.ref d)]) (fun _ _ A kq => XS.i2b A hx rfl (hb hby d19) rfl kq) ?_
  have f10 := (C6.safe (show h3.size > d by omega) f7)
  refine gstB hx V6 ⟨by decide, by decide⟩ (i := 3) rfl (Nat.le_of_ble_eq_true rfl) (y := (c3.toInt8.toInt32)) (narB _) P2 (fun _ => f10) 32 (hb hby d20) rfl ?_
  intro h9 W9 C9 V9
  have z9 := C9.2.1
  replace V9 : Arv Z h9 d kd .byte (4 : Int32) [(.int (c0.toInt8.toInt32)), (.int (c1.toInt8.toInt32)), (.int (c2.toInt8.toInt32)), (.int (c3.toInt8.toInt32))] (.int (0 : Int32)) := V9
  refine uInc 35 #[vr a, vi (4 : Int32), vr d, vi (3 : Int32), vi (4 : Int32), vi (3 : Int32), vi c3] hx hby d21 rfl rfl rfl ?_
  refine uInc 38 #[vr a, vi (4 : Int32), vr d, vi (4 : Int32), vi (4 : Int32), vi (3 : Int32), vi c3] hx hby d22 rfl rfl rfl ?_
  refine uInc 41 #[vr a, vi (4 : Int32), vr d, vi (4 : Int32), vi (4 : Int32), vi (4 : Int32), vi c3] hx hby d23 rfl rfl rfl ?_
  refine uG 3 hx hby d24 (by decide) (by decide) ?_
  refine uI 5 hx hby d2 rfl rfl ?_
  refine uI 7 hx hby d3 rfl rfl ?_
  refine uYc 44 hx hby d4 (flt (by decide)).2.1 (by decide) (by decide) ?_
  refine uI 46 hx hby d25 rfl rfl ?_
  exact gretI hx hret (hb hby d26) (by decide) (by decide) (fun vq Cq => ⟨rfl, (((((Keep.refl h0 [d]).wr W1 (Or.inl (List.mem_of_getElem? (i := 0) rfl))).wr W3 (Or.inl (List.mem_of_getElem? (i := 0) rfl))).wr W6 (Or.inl (List.mem_of_getElem? (i := 0) rfl))).wr W9 (Or.inl (List.mem_of_getElem? (i := 0) rfl))), V9⟩)
theorem own_nbl4 (l : Launch) (Z : State) (a0 : Array Value) (cx : Ctx Z a0) (ws : List Jvm.Cond)  (vm0 : Vm) (h0 : Heap) (X00 : Ext Z.heap h0)  :
    Met l mn36 y16_ 1 (some .int) ws ({ frames := 0, cells := 0, slots := 0, locals := 0 } : Room) Z consts_1 vm0 h0 #[(.int (4 : Int32))] (fun rv vm h => rv = some (.int (8 : Int32)) ∧ h0 = h) := by
  obtain ⟨hw, hEL, ⟨zc, Scs, hzc⟩, ⟨fm, Sfm, hfm⟩, Sad, Shi, Slo⟩ := id cx
  have hSA := own_SA hw
  refine Met.of_walk (a0 := a0) #[vi (4 : Int32)] (plainFor_of_name own_pn15) X00 hEL (fun m => by first | (simp [entryFrame, mkF, argsToLocals, Value.category]; done) | rfl) ?_
  intro p e s m below meth c vm hx hby hml hret hnm hC0 hW0
  refine uIN 1 hx hby d27 rfl rfl ?_
  refine uY 12 hx hby d28 ((if0 _ _).trans (flt (by decide)).2.1) (by decide) (by decide) ?_
  refine uIN 13 hx hby d29 rfl rfl ?_
  refine gldcI hx (ow hw 87 rfl) 15 (hb hby d30) rfl ?_
  refine uYc 55 hx hby d31 (tlt (by decide)).1 (by decide) (by decide) ?_
  refine uIN 56 hx hby d32 rfl rfl ?_
  refine uKc 57 (1 : Int32) hx hby d33 rfl rfl ?_
  refine gs (mkF m 58 #[vi (4 : Int32)] [(.int (8 : Int32))]) (fun _ _ A kq => XS.ishl A hx rfl (hb hby d34) rfl kq) ?_
  exact gretI hx hret (hb hby d35) (by decide) (by decide) (fun vq Cq => ⟨rfl, rfl⟩)
theorem own_nbf4 (l : Launch) (Z : State) (a0 : Array Value) (cx : Ctx Z a0) (ws : List Jvm.Cond)  (vm0 : Vm) (h0 : Heap) (X00 : Ext Z.heap h0)  :
    Met l mn42 y15_ 1 (some (.array .byte)) ws ({ frames := 1, cells := 1, slots := 8, locals := 12 } : Room) Z consts_1 vm0 h0 #[(.int (4 : Int32))] (fun rv vm h => ∃ (r : Addr), ∃ (kb : ClassId), rv = some (.ref r) ∧ Keep h0 h [] ∧ h0.size ≤ r ∧ Z.heap.size ≤ r ∧ Safe Z consts_1 vm h r ∧ Arv Z h r kb .byte (8 : Int32) [(.int (0 : Int32)), (.int (0 : Int32)), (.int (0 : Int32)), (.int (0 : Int32)), (.int (0 : Int32)), (.int (0 : Int32)), (.int (0 : Int32)), (.int (0 : Int32))] (.int (0 : Int32))) := by
  obtain ⟨hw, hEL, ⟨zc, Scs, hzc⟩, ⟨fm, Sfm, hfm⟩, Sad, Shi, Slo⟩ := id cx
  have hSA := own_SA hw
  refine Met.of_walk (a0 := a0) #[vi (4 : Int32)] (plainFor_of_name own_pn15) X00 hEL (fun m => by first | (simp [entryFrame, mkF, argsToLocals, Value.category]; done) | rfl) ?_
  intro p e s m below meth c vm hx hby hml hret hnm hC0 hW0
  refine uIN 1 hx hby d37 rfl rfl ?_
  refine ginfo fun _ _ O1 => ?_
  refine gcallS (y := mn36) hx (ow hw 84 rfl) (ow hw 85 rfl) (ow hw 73 rfl) (ow hw 86 rfl) (by decide) (fun hZ H hEL => Pay.of_met (W := 0) (own_nbl4 l Z a0 cx []  vm h0 O1 ) (ow hw 86 rfl) (ow hw 73 rfl) (by decide) (by decide) hZ H hEL) 4 (argsL := [(.int (4 : Int32))]) (rest := []) (lenOf own_pd39 rfl) rfl rfl (Nat.le_of_eq rfl) (by rw [hml]; rfl) (hb hby d38) rfl (by decide) (by decide) ?_
  rintro _ vm1 h1 C1 ⟨rfl, rfl⟩
  have z1 := C1.2.1
  refine gat1 ?_
  refine gnewPE hx (ow hw 29 rfl) (n := (8 : Int32)) (by decide) (cap := 8) (by decide) (by decide) (ad := "[B") (by decide) 6 (hb hby d40) rfl (by decide) (by decide) ?_
  intro b2 h2 k2 g2 E2 C2 V2 A2 n2 L2
  have z2 := C2.2.1
  have V2 : Arv Z h2 b2 k2 .byte (8 : Int32) [(.int (0 : Int32)), (.int (0 : Int32)), (.int (0 : Int32)), (.int (0 : Int32)), (.int (0 : Int32)), (.int (0 : Int32)), (.int (0 : Int32)), (.int (0 : Int32))] (.int (0 : Int32)) := V2.pad (pad_rep [] (.int (0 : Int32)) 8)
  have lt_b2 : h2.size > b2 := V2.lt
  exact gretA hx hret rfl rfl (hb hby d41) (by decide) (by decide) (fun vq Cq => ⟨b2, k2, rfl, ((Keep.refl h0 []).ext E2), (by omega), n2, (Cq.safe (show h2.size > b2 by omega) L2), V2⟩)
theorem own_pc4_0 (l : Launch) (Z : State) (a0 : Array Value) (cx : Ctx Z a0) (ws : List Jvm.Cond) (a : Addr) (ch : Int32) (ka : ClassId) (u0 : Value) (u1 : Value) (u2 : Value) (u3 : Value) (u4 : Value) (u5 : Value) (u6 : Value) (u7 : Value) (vm0 : Vm) (h0 : Heap) (X00 : Ext Z.heap h0) (P0 : Arv Z h0 a ka .byte (8 : Int32) [u0, u1, u2, u3, u4, u5, u6, u7] (.int (0 : Int32))) (P1 : Z.heap.size ≤ a) (P2 : Safe Z consts_1 vm0 h0 a) :
    Met l mn65 y17_ 3 none ws ({ frames := 0, cells := 0, slots := 0, locals := 0 } : Room) Z consts_1 vm0 h0 #[(.ref a), (.int (0 : Int32)), (.int ch)] (fun rv vm h => rv = none ∧ Keep h0 h [a] ∧ Arv Z h a ka .byte (8 : Int32) [(.int ((ch >>> ((0 : Int32) &&& 31)).toInt8.toInt32)), (.int ((ch >>> ((8 : Int32) &&& 31)).toInt8.toInt32)), u2, u3, u4, u5, u6, u7] (.int (0 : Int32)) ∧ Safe Z consts_1 vm h a) := by
  obtain ⟨hw, hEL, ⟨zc, Scs, hzc⟩, ⟨fm, Sfm, hfm⟩, Sad, Shi, Slo⟩ := id cx
  have hSA := own_SA hw
  refine Met.of_walk (a0 := a0) #[vr a, vi (0 : Int32), vi ch] (plainFor_of_name own_pn15) X00 hEL (fun m => by first | (simp [entryFrame, mkF, argsToLocals, Value.category]; done) | rfl) ?_
  intro p e s m below meth c vm hx hby hml hret hnm hC0 hW0
  have lt_a : h0.size > a := P0.lt
  have L2 := hC0.safe lt_a P2
  refine ggetS (host := "") hx (Or.inl (ow hw 91 rfl)) Via.refl Sad 3 (hb hby d43) rfl ?_
  refine uY 28 hx hby d44 ((if0 _ _).trans (feq (by decide)).2) (by decide) (by decide) ?_
  refine uIN 29 hx hby d45 rfl rfl ?_
  refine uKc 30 (1 : Int32) hx hby d46 rfl rfl ?_
  refine gs (mkF m 31 #[vr a, vi (0 : Int32), vi ch] [(.int (0 : Int32))]) (fun _ _ A kq => XS.ishl A hx rfl (hb hby d47) rfl kq) ?_
  refine uSIN 32 #[vr a, vi (0 : Int32), vi ch] hx hby d48 rfl rfl ?_
  refine uAN 33 hx hby d49 rfl rfl rfl ?_
  refine uIN 34 hx hby d50 rfl rfl ?_
  refine uInc 37 #[vr a, vi (1 : Int32), vi ch] hx hby d51 rfl rfl rfl ?_
  refine uIN 38 hx hby d52 rfl rfl ?_
  refine ggetS (host := "") hx (Or.inl (ow hw 92 rfl)) Via.refl Shi 41 (hb hby d53) rfl ?_
  refine gs (mkF m 42 #[vr a, vi (1 : Int32), vi ch] [(.int (ch >>> ((0 : Int32) &&& 31))), (.int (0 : Int32)), (.ref a)]) (fun _ _ A kq => XS.ishr A hx rfl (hb hby d54) rfl kq) ?_
  refine gs (mkF m 43 #[vr a, vi (1 : Int32), vi ch] [(.int ((ch >>> ((0 : Int32) &&& 31)).toInt8.toInt32)), (.int (0 : Int32)), (.ref a)]) (fun _ _ A kq => XS.i2b A hx rfl (hb hby d55) rfl kq) ?_
  refine gstB hx P0 ⟨by decide, by decide⟩ (i := 0) rfl (Nat.le_of_ble_eq_true rfl) (y := ((ch >>> ((0 : Int32) &&& 31)).toInt8.toInt32)) (narB _) P1 (fun _ => L2) 44 (hb hby d56) rfl ?_
  intro h1 W1 C1 V1
  have z1 := C1.2.1
  replace V1 : Arv Z h1 a ka .byte (8 : Int32) [(.int ((ch >>> ((0 : Int32) &&& 31)).toInt8.toInt32)), u1, u2, u3, u4, u5, u6, u7] (.int (0 : Int32)) := V1
  refine uAN 45 hx hby d57 rfl rfl rfl ?_
  refine uIN 46 hx hby d58 rfl rfl ?_
  refine uIN 47 hx hby d59 rfl rfl ?_
  refine ggetS (host := "") hx (Or.inl (ow hw 93 rfl)) Via.refl Slo 50 (hb hby d60) rfl ?_
  refine gs (mkF m 51 #[vr a, vi (1 : Int32), vi ch] [(.int (ch >>> ((8 : Int32) &&& 31))), (.int (1 : Int32)), (.ref a)]) (fun _ _ A kq => XS.ishr A hx rfl (hb hby d61) rfl kq) ?_
  refine gs (mkF m 52 #[vr a, vi (1 : Int32), vi ch] [(.int ((ch >>> ((8 : Int32) &&& 31)).toInt8.toInt32)), (.int (1 : Int32)), (.ref a)]) (fun _ _ A kq => XS.i2b A hx rfl (hb hby d62) rfl kq) ?_
  have f3 := (C1.safe (show h0.size > a by omega) L2)
  refine gstB hx V1 ⟨by decide, by decide⟩ (i := 1) rfl (Nat.le_of_ble_eq_true rfl) (y := ((ch >>> ((8 : Int32) &&& 31)).toInt8.toInt32)) (narB _) P1 (fun _ => f3) 53 (hb hby d63) rfl ?_
  intro h2 W2 C2 V2
  have z2 := C2.2.1
  replace V2 : Arv Z h2 a ka .byte (8 : Int32) [(.int ((ch >>> ((0 : Int32) &&& 31)).toInt8.toInt32)), (.int ((ch >>> ((8 : Int32) &&& 31)).toInt8.toInt32)), u2, u3, u4, u5, u6, u7] (.int (0 : Int32)) := V2
  have f5 := (C2.safe (show h1.size > a by omega) f3)
  exact gretV hx hret (hb hby d64) (by decide) (by decide) (fun vq Cq => ⟨rfl, (((Keep.refl h0 [a]).wr W1 (Or.inl (List.mem_of_getElem? (i := 0) rfl))).wr W2 (Or.inl (List.mem_of_getElem? (i := 0) rfl))), V2, (Cq.safe (show h2.size > a by omega) f5)⟩)
theorem own_gc4_0 (l : Launch) (Z : State) (a0 : Array Value) (cx : Ctx Z a0) (ws : List Jvm.Cond) (a : Addr) (ka : ClassId) (b0 : Int32) (b1 : Int32) (u2 : Value) (u3 : Value) (u4 : Value) (u5 : Value) (u6 : Value) (u7 : Value) (vm0 : Vm) (h0 : Heap) (X00 : Ext Z.heap h0) (P0 : Arv Z h0 a ka .byte (8 : Int32) [(.int b0), (.int b1), u2, u3, u4, u5, u6, u7] (.int (0 : Int32))) :
    Met l mn90 y18_ 2 (some .char) ws ({ frames := 0, cells := 0, slots := 0, locals := 0 } : Room) Z consts_1 vm0 h0 #[(.ref a), (.int (0 : Int32))] (fun rv vm h => rv = some (.int (StrChars.pairCh b0 b1)) ∧ h0 = h) := by
  obtain ⟨hw, hEL, ⟨zc, Scs, hzc⟩, ⟨fm, Sfm, hfm⟩, Sad, Shi, Slo⟩ := id cx
  have hSA := own_SA hw
  refine Met.of_walk (a0 := a0) #[vr a, vi (0 : Int32)] (plainFor_of_name own_pn15) X00 hEL (fun m => by first | (simp [entryFrame, mkF, argsToLocals, Value.category]; done) | rfl) ?_
  intro p e s m below meth c vm hx hby hml hret hnm hC0 hW0
  have lt_a : h0.size > a := P0.lt
  refine ggetS (host := "") hx (Or.inl (ow hw 91 rfl)) Via.refl Sad 3 (hb hby d66) rfl ?_
  refine uY 28 hx hby d67 ((if0 _ _).trans (feq (by decide)).2) (by decide) (by decide) ?_
  refine uIN 29 hx hby d68 rfl rfl ?_
  refine uKc 30 (1 : Int32) hx hby d69 rfl rfl ?_
  refine gs (mkF m 31 #[vr a, vi (0 : Int32)] [(.int (0 : Int32))]) (fun _ _ A kq => XS.ishl A hx rfl (hb hby d70) rfl kq) ?_
  refine uSIN 32 #[vr a, vi (0 : Int32)] hx hby d71 rfl rfl ?_
  refine uAN 33 hx hby d72 rfl rfl rfl ?_
  refine uIN 34 hx hby d73 rfl rfl ?_
  refine uInc 37 #[vr a, vi (1 : Int32)] hx hby d74 rfl rfl rfl ?_
  refine gldB hx P0 ⟨by decide, by decide⟩ (i := 0) rfl (v := (.int b0)) rfl 38 (hb hby d75) rfl ?_
  refine uKs 41 (255 : Int32) hx hby d76 rfl rfl ?_
  refine uiand 42 (b0 &&& (255 : Int32)) hx hby d77 rfl rfl ?_
  refine ggetS (host := "") hx (Or.inl (ow hw 92 rfl)) Via.refl Shi 45 (hb hby d78) rfl ?_
  refine gs (mkF m 46 #[vr a, vi (1 : Int32)] [(.int ((b0 &&& (255 : Int32)) <<< ((0 : Int32) &&& 31)))]) (fun _ _ A kq => XS.ishl A hx rfl (hb hby d79) rfl kq) ?_
  refine uAN 47 hx hby d80 rfl rfl rfl ?_
  refine uIN 48 hx hby d81 rfl rfl ?_
  refine gldB hx P0 ⟨by decide, by decide⟩ (i := 1) rfl (v := (.int b1)) rfl 49 (hb hby d82) rfl ?_
  refine uKs 52 (255 : Int32) hx hby d83 rfl rfl ?_
  refine uiand 53 (b1 &&& (255 : Int32)) hx hby d84 rfl rfl ?_
  refine ggetS (host := "") hx (Or.inl (ow hw 93 rfl)) Via.refl Slo 56 (hb hby d85) rfl ?_
  refine gs (mkF m 57 #[vr a, vi (1 : Int32)] [(.int ((b1 &&& (255 : Int32)) <<< ((8 : Int32) &&& 31))), (.int ((b0 &&& (255 : Int32)) <<< ((0 : Int32) &&& 31)))]) (fun _ _ A kq => XS.ishl A hx rfl (hb hby d86) rfl kq) ?_
  refine uior 58 (((b0 &&& (255 : Int32)) <<< ((0 : Int32) &&& 31)) ||| ((b1 &&& (255 : Int32)) <<< ((8 : Int32) &&& 31))) hx hby d87 rfl rfl ?_
  refine gi2c hx rfl 59 (hb hby d88) rfl ?_
  exact gretN (t := .char) hx hret (by simp) (hb hby d89) (by decide) (by decide) (fun vq Cq => ⟨(congrArg (fun z => some (Value.int z)) (narC2 _)), rfl⟩)
theorem own_pc4_1 (l : Launch) (Z : State) (a0 : Array Value) (cx : Ctx Z a0) (ws : List Jvm.Cond) (a : Addr) (ch : Int32) (ka : ClassId) (u0 : Value) (u1 : Value) (u2 : Value) (u3 : Value) (u4 : Value) (u5 : Value) (u6 : Value) (u7 : Value) (vm0 : Vm) (h0 : Heap) (X00 : Ext Z.heap h0) (P0 : Arv Z h0 a ka .byte (8 : Int32) [u0, u1, u2, u3, u4, u5, u6, u7] (.int (0 : Int32))) (P1 : Z.heap.size ≤ a) (P2 : Safe Z consts_1 vm0 h0 a) :
    Met l mn65 y17_ 3 none ws ({ frames := 0, cells := 0, slots := 0, locals := 0 } : Room) Z consts_1 vm0 h0 #[(.ref a), (.int (1 : Int32)), (.int ch)] (fun rv vm h => rv = none ∧ Keep h0 h [a] ∧ Arv Z h a ka .byte (8 : Int32) [u0, u1, (.int ((ch >>> ((0 : Int32) &&& 31)).toInt8.toInt32)), (.int ((ch >>> ((8 : Int32) &&& 31)).toInt8.toInt32)), u4, u5, u6, u7] (.int (0 : Int32)) ∧ Safe Z consts_1 vm h a) := by
  obtain ⟨hw, hEL, ⟨zc, Scs, hzc⟩, ⟨fm, Sfm, hfm⟩, Sad, Shi, Slo⟩ := id cx
  have hSA := own_SA hw
  refine Met.of_walk (a0 := a0) #[vr a, vi (1 : Int32), vi ch] (plainFor_of_name own_pn15) X00 hEL (fun m => by first | (simp [entryFrame, mkF, argsToLocals, Value.category]; done) | rfl) ?_
  intro p e s m below meth c vm hx hby hml hret hnm hC0 hW0
  have lt_a : h0.size > a := P0.lt
  have L2 := hC0.safe lt_a P2
  refine ggetS (host := "") hx (Or.inl (ow hw 91 rfl)) Via.refl Sad 3 (hb hby d43) rfl ?_
  refine uY 28 hx hby d44 ((if0 _ _).trans (feq (by decide)).2) (by decide) (by decide) ?_
  refine uIN 29 hx hby d45 rfl rfl ?_
  refine uKc 30 (1 : Int32) hx hby d46 rfl rfl ?_
  refine gs (mkF m 31 #[vr a, vi (1 : Int32), vi ch] [(.int (2 : Int32))]) (fun _ _ A kq => XS.ishl A hx rfl (hb hby d47) rfl kq) ?_
  refine uSIN 32 #[vr a, vi (2 : Int32), vi ch] hx hby d48 rfl rfl ?_
  refine uAN 33 hx hby d49 rfl rfl rfl ?_
  refine uIN 34 hx hby d50 rfl rfl ?_
  refine uInc 37 #[vr a, vi (3 : Int32), vi ch] hx hby d51 rfl rfl rfl ?_
  refine uIN 38 hx hby d52 rfl rfl ?_
  refine ggetS (host := "") hx (Or.inl (ow hw 92 rfl)) Via.refl Shi 41 (hb hby d53) rfl ?_
  refine gs (mkF m 42 #[vr a, vi (3 : Int32), vi ch] [(.int (ch >>> ((0 : Int32) &&& 31))), (.int (2 : Int32)), (.ref a)]) (fun _ _ A kq => XS.ishr A hx rfl (hb hby d54) rfl kq) ?_
  refine gs (mkF m 43 #[vr a, vi (3 : Int32), vi ch] [(.int ((ch >>> ((0 : Int32) &&& 31)).toInt8.toInt32)), (.int (2 : Int32)), (.ref a)]) (fun _ _ A kq => XS.i2b A hx rfl (hb hby d55) rfl kq) ?_
  refine gstB hx P0 ⟨by decide, by decide⟩ (i := 2) rfl (Nat.le_of_ble_eq_true rfl) (y := ((ch >>> ((0 : Int32) &&& 31)).toInt8.toInt32)) (narB _) P1 (fun _ => L2) 44 (hb hby d56) rfl ?_
  intro h1 W1 C1 V1
  have z1 := C1.2.1
  replace V1 : Arv Z h1 a ka .byte (8 : Int32) [u0, u1, (.int ((ch >>> ((0 : Int32) &&& 31)).toInt8.toInt32)), u3, u4, u5, u6, u7] (.int (0 : Int32)) := V1
  refine uAN 45 hx hby d57 rfl rfl rfl ?_
  refine uIN 46 hx hby d58 rfl rfl ?_
  refine uIN 47 hx hby d59 rfl rfl ?_
  refine ggetS (host := "") hx (Or.inl (ow hw 93 rfl)) Via.refl Slo 50 (hb hby d60) rfl ?_
  refine gs (mkF m 51 #[vr a, vi (3 : Int32), vi ch] [(.int (ch >>> ((8 : Int32) &&& 31))), (.int (3 : Int32)), (.ref a)]) (fun _ _ A kq => XS.ishr A hx rfl (hb hby d61) rfl kq) ?_
  refine gs (mkF m 52 #[vr a, vi (3 : Int32), vi ch] [(.int ((ch >>> ((8 : Int32) &&& 31)).toInt8.toInt32)), (.int (3 : Int32)), (.ref a)]) (fun _ _ A kq => XS.i2b A hx rfl (hb hby d62) rfl kq) ?_
  have f3 := (C1.safe (show h0.size > a by omega) L2)
  refine gstB hx V1 ⟨by decide, by decide⟩ (i := 3) rfl (Nat.le_of_ble_eq_true rfl) (y := ((ch >>> ((8 : Int32) &&& 31)).toInt8.toInt32)) (narB _) P1 (fun _ => f3) 53 (hb hby d63) rfl ?_
  intro h2 W2 C2 V2
  have z2 := C2.2.1
  replace V2 : Arv Z h2 a ka .byte (8 : Int32) [u0, u1, (.int ((ch >>> ((0 : Int32) &&& 31)).toInt8.toInt32)), (.int ((ch >>> ((8 : Int32) &&& 31)).toInt8.toInt32)), u4, u5, u6, u7] (.int (0 : Int32)) := V2
  have f5 := (C2.safe (show h1.size > a by omega) f3)
  exact gretV hx hret (hb hby d64) (by decide) (by decide) (fun vq Cq => ⟨rfl, (((Keep.refl h0 [a]).wr W1 (Or.inl (List.mem_of_getElem? (i := 0) rfl))).wr W2 (Or.inl (List.mem_of_getElem? (i := 0) rfl))), V2, (Cq.safe (show h2.size > a by omega) f5)⟩)
theorem own_gc4_1 (l : Launch) (Z : State) (a0 : Array Value) (cx : Ctx Z a0) (ws : List Jvm.Cond) (a : Addr) (ka : ClassId) (b0 : Int32) (b1 : Int32) (u0 : Value) (u1 : Value) (u4 : Value) (u5 : Value) (u6 : Value) (u7 : Value) (vm0 : Vm) (h0 : Heap) (X00 : Ext Z.heap h0) (P0 : Arv Z h0 a ka .byte (8 : Int32) [u0, u1, (.int b0), (.int b1), u4, u5, u6, u7] (.int (0 : Int32))) :
    Met l mn90 y18_ 2 (some .char) ws ({ frames := 0, cells := 0, slots := 0, locals := 0 } : Room) Z consts_1 vm0 h0 #[(.ref a), (.int (1 : Int32))] (fun rv vm h => rv = some (.int (StrChars.pairCh b0 b1)) ∧ h0 = h) := by
  obtain ⟨hw, hEL, ⟨zc, Scs, hzc⟩, ⟨fm, Sfm, hfm⟩, Sad, Shi, Slo⟩ := id cx
  have hSA := own_SA hw
  refine Met.of_walk (a0 := a0) #[vr a, vi (1 : Int32)] (plainFor_of_name own_pn15) X00 hEL (fun m => by first | (simp [entryFrame, mkF, argsToLocals, Value.category]; done) | rfl) ?_
  intro p e s m below meth c vm hx hby hml hret hnm hC0 hW0
  have lt_a : h0.size > a := P0.lt
  refine ggetS (host := "") hx (Or.inl (ow hw 91 rfl)) Via.refl Sad 3 (hb hby d66) rfl ?_
  refine uY 28 hx hby d67 ((if0 _ _).trans (feq (by decide)).2) (by decide) (by decide) ?_
  refine uIN 29 hx hby d68 rfl rfl ?_
  refine uKc 30 (1 : Int32) hx hby d69 rfl rfl ?_
  refine gs (mkF m 31 #[vr a, vi (1 : Int32)] [(.int (2 : Int32))]) (fun _ _ A kq => XS.ishl A hx rfl (hb hby d70) rfl kq) ?_
  refine uSIN 32 #[vr a, vi (2 : Int32)] hx hby d71 rfl rfl ?_
  refine uAN 33 hx hby d72 rfl rfl rfl ?_
  refine uIN 34 hx hby d73 rfl rfl ?_
  refine uInc 37 #[vr a, vi (3 : Int32)] hx hby d74 rfl rfl rfl ?_
  refine gldB hx P0 ⟨by decide, by decide⟩ (i := 2) rfl (v := (.int b0)) rfl 38 (hb hby d75) rfl ?_
  refine uKs 41 (255 : Int32) hx hby d76 rfl rfl ?_
  refine uiand 42 (b0 &&& (255 : Int32)) hx hby d77 rfl rfl ?_
  refine ggetS (host := "") hx (Or.inl (ow hw 92 rfl)) Via.refl Shi 45 (hb hby d78) rfl ?_
  refine gs (mkF m 46 #[vr a, vi (3 : Int32)] [(.int ((b0 &&& (255 : Int32)) <<< ((0 : Int32) &&& 31)))]) (fun _ _ A kq => XS.ishl A hx rfl (hb hby d79) rfl kq) ?_
  refine uAN 47 hx hby d80 rfl rfl rfl ?_
  refine uIN 48 hx hby d81 rfl rfl ?_
  refine gldB hx P0 ⟨by decide, by decide⟩ (i := 3) rfl (v := (.int b1)) rfl 49 (hb hby d82) rfl ?_
  refine uKs 52 (255 : Int32) hx hby d83 rfl rfl ?_
  refine uiand 53 (b1 &&& (255 : Int32)) hx hby d84 rfl rfl ?_
  refine ggetS (host := "") hx (Or.inl (ow hw 93 rfl)) Via.refl Slo 56 (hb hby d85) rfl ?_
  refine gs (mkF m 57 #[vr a, vi (3 : Int32)] [(.int ((b1 &&& (255 : Int32)) <<< ((8 : Int32) &&& 31))), (.int ((b0 &&& (255 : Int32)) <<< ((0 : Int32) &&& 31)))]) (fun _ _ A kq => XS.ishl A hx rfl (hb hby d86) rfl kq) ?_
  refine uior 58 (((b0 &&& (255 : Int32)) <<< ((0 : Int32) &&& 31)) ||| ((b1 &&& (255 : Int32)) <<< ((8 : Int32) &&& 31))) hx hby d87 rfl rfl ?_
  refine gi2c hx rfl 59 (hb hby d88) rfl ?_
  exact gretN (t := .char) hx hret (by simp) (hb hby d89) (by decide) (by decide) (fun vq Cq => ⟨(congrArg (fun z => some (Value.int z)) (narC2 _)), rfl⟩)
theorem own_pc4_2 (l : Launch) (Z : State) (a0 : Array Value) (cx : Ctx Z a0) (ws : List Jvm.Cond) (a : Addr) (ch : Int32) (ka : ClassId) (u0 : Value) (u1 : Value) (u2 : Value) (u3 : Value) (u4 : Value) (u5 : Value) (u6 : Value) (u7 : Value) (vm0 : Vm) (h0 : Heap) (X00 : Ext Z.heap h0) (P0 : Arv Z h0 a ka .byte (8 : Int32) [u0, u1, u2, u3, u4, u5, u6, u7] (.int (0 : Int32))) (P1 : Z.heap.size ≤ a) (P2 : Safe Z consts_1 vm0 h0 a) :
    Met l mn65 y17_ 3 none ws ({ frames := 0, cells := 0, slots := 0, locals := 0 } : Room) Z consts_1 vm0 h0 #[(.ref a), (.int (2 : Int32)), (.int ch)] (fun rv vm h => rv = none ∧ Keep h0 h [a] ∧ Arv Z h a ka .byte (8 : Int32) [u0, u1, u2, u3, (.int ((ch >>> ((0 : Int32) &&& 31)).toInt8.toInt32)), (.int ((ch >>> ((8 : Int32) &&& 31)).toInt8.toInt32)), u6, u7] (.int (0 : Int32)) ∧ Safe Z consts_1 vm h a) := by
  obtain ⟨hw, hEL, ⟨zc, Scs, hzc⟩, ⟨fm, Sfm, hfm⟩, Sad, Shi, Slo⟩ := id cx
  have hSA := own_SA hw
  refine Met.of_walk (a0 := a0) #[vr a, vi (2 : Int32), vi ch] (plainFor_of_name own_pn15) X00 hEL (fun m => by first | (simp [entryFrame, mkF, argsToLocals, Value.category]; done) | rfl) ?_
  intro p e s m below meth c vm hx hby hml hret hnm hC0 hW0
  have lt_a : h0.size > a := P0.lt
  have L2 := hC0.safe lt_a P2
  refine ggetS (host := "") hx (Or.inl (ow hw 91 rfl)) Via.refl Sad 3 (hb hby d43) rfl ?_
  refine uY 28 hx hby d44 ((if0 _ _).trans (feq (by decide)).2) (by decide) (by decide) ?_
  refine uIN 29 hx hby d45 rfl rfl ?_
  refine uKc 30 (1 : Int32) hx hby d46 rfl rfl ?_
  refine gs (mkF m 31 #[vr a, vi (2 : Int32), vi ch] [(.int (4 : Int32))]) (fun _ _ A kq => XS.ishl A hx rfl (hb hby d47) rfl kq) ?_
  refine uSIN 32 #[vr a, vi (4 : Int32), vi ch] hx hby d48 rfl rfl ?_
  refine uAN 33 hx hby d49 rfl rfl rfl ?_
  refine uIN 34 hx hby d50 rfl rfl ?_
  refine uInc 37 #[vr a, vi (5 : Int32), vi ch] hx hby d51 rfl rfl rfl ?_
  refine uIN 38 hx hby d52 rfl rfl ?_
  refine ggetS (host := "") hx (Or.inl (ow hw 92 rfl)) Via.refl Shi 41 (hb hby d53) rfl ?_
  refine gs (mkF m 42 #[vr a, vi (5 : Int32), vi ch] [(.int (ch >>> ((0 : Int32) &&& 31))), (.int (4 : Int32)), (.ref a)]) (fun _ _ A kq => XS.ishr A hx rfl (hb hby d54) rfl kq) ?_
  refine gs (mkF m 43 #[vr a, vi (5 : Int32), vi ch] [(.int ((ch >>> ((0 : Int32) &&& 31)).toInt8.toInt32)), (.int (4 : Int32)), (.ref a)]) (fun _ _ A kq => XS.i2b A hx rfl (hb hby d55) rfl kq) ?_
  refine gstB hx P0 ⟨by decide, by decide⟩ (i := 4) rfl (Nat.le_of_ble_eq_true rfl) (y := ((ch >>> ((0 : Int32) &&& 31)).toInt8.toInt32)) (narB _) P1 (fun _ => L2) 44 (hb hby d56) rfl ?_
  intro h1 W1 C1 V1
  have z1 := C1.2.1
  replace V1 : Arv Z h1 a ka .byte (8 : Int32) [u0, u1, u2, u3, (.int ((ch >>> ((0 : Int32) &&& 31)).toInt8.toInt32)), u5, u6, u7] (.int (0 : Int32)) := V1
  refine uAN 45 hx hby d57 rfl rfl rfl ?_
  refine uIN 46 hx hby d58 rfl rfl ?_
  refine uIN 47 hx hby d59 rfl rfl ?_
  refine ggetS (host := "") hx (Or.inl (ow hw 93 rfl)) Via.refl Slo 50 (hb hby d60) rfl ?_
  refine gs (mkF m 51 #[vr a, vi (5 : Int32), vi ch] [(.int (ch >>> ((8 : Int32) &&& 31))), (.int (5 : Int32)), (.ref a)]) (fun _ _ A kq => XS.ishr A hx rfl (hb hby d61) rfl kq) ?_
  refine gs (mkF m 52 #[vr a, vi (5 : Int32), vi ch] [(.int ((ch >>> ((8 : Int32) &&& 31)).toInt8.toInt32)), (.int (5 : Int32)), (.ref a)]) (fun _ _ A kq => XS.i2b A hx rfl (hb hby d62) rfl kq) ?_
  have f3 := (C1.safe (show h0.size > a by omega) L2)
  refine gstB hx V1 ⟨by decide, by decide⟩ (i := 5) rfl (Nat.le_of_ble_eq_true rfl) (y := ((ch >>> ((8 : Int32) &&& 31)).toInt8.toInt32)) (narB _) P1 (fun _ => f3) 53 (hb hby d63) rfl ?_
  intro h2 W2 C2 V2
  have z2 := C2.2.1
  replace V2 : Arv Z h2 a ka .byte (8 : Int32) [u0, u1, u2, u3, (.int ((ch >>> ((0 : Int32) &&& 31)).toInt8.toInt32)), (.int ((ch >>> ((8 : Int32) &&& 31)).toInt8.toInt32)), u6, u7] (.int (0 : Int32)) := V2
  have f5 := (C2.safe (show h1.size > a by omega) f3)
  exact gretV hx hret (hb hby d64) (by decide) (by decide) (fun vq Cq => ⟨rfl, (((Keep.refl h0 [a]).wr W1 (Or.inl (List.mem_of_getElem? (i := 0) rfl))).wr W2 (Or.inl (List.mem_of_getElem? (i := 0) rfl))), V2, (Cq.safe (show h2.size > a by omega) f5)⟩)
theorem own_gc4_2 (l : Launch) (Z : State) (a0 : Array Value) (cx : Ctx Z a0) (ws : List Jvm.Cond) (a : Addr) (ka : ClassId) (b0 : Int32) (b1 : Int32) (u0 : Value) (u1 : Value) (u2 : Value) (u3 : Value) (u6 : Value) (u7 : Value) (vm0 : Vm) (h0 : Heap) (X00 : Ext Z.heap h0) (P0 : Arv Z h0 a ka .byte (8 : Int32) [u0, u1, u2, u3, (.int b0), (.int b1), u6, u7] (.int (0 : Int32))) :
    Met l mn90 y18_ 2 (some .char) ws ({ frames := 0, cells := 0, slots := 0, locals := 0 } : Room) Z consts_1 vm0 h0 #[(.ref a), (.int (2 : Int32))] (fun rv vm h => rv = some (.int (StrChars.pairCh b0 b1)) ∧ h0 = h) := by
  obtain ⟨hw, hEL, ⟨zc, Scs, hzc⟩, ⟨fm, Sfm, hfm⟩, Sad, Shi, Slo⟩ := id cx
  have hSA := own_SA hw
  refine Met.of_walk (a0 := a0) #[vr a, vi (2 : Int32)] (plainFor_of_name own_pn15) X00 hEL (fun m => by first | (simp [entryFrame, mkF, argsToLocals, Value.category]; done) | rfl) ?_
  intro p e s m below meth c vm hx hby hml hret hnm hC0 hW0
  have lt_a : h0.size > a := P0.lt
  refine ggetS (host := "") hx (Or.inl (ow hw 91 rfl)) Via.refl Sad 3 (hb hby d66) rfl ?_
  refine uY 28 hx hby d67 ((if0 _ _).trans (feq (by decide)).2) (by decide) (by decide) ?_
  refine uIN 29 hx hby d68 rfl rfl ?_
  refine uKc 30 (1 : Int32) hx hby d69 rfl rfl ?_
  refine gs (mkF m 31 #[vr a, vi (2 : Int32)] [(.int (4 : Int32))]) (fun _ _ A kq => XS.ishl A hx rfl (hb hby d70) rfl kq) ?_
  refine uSIN 32 #[vr a, vi (4 : Int32)] hx hby d71 rfl rfl ?_
  refine uAN 33 hx hby d72 rfl rfl rfl ?_
  refine uIN 34 hx hby d73 rfl rfl ?_
  refine uInc 37 #[vr a, vi (5 : Int32)] hx hby d74 rfl rfl rfl ?_
  refine gldB hx P0 ⟨by decide, by decide⟩ (i := 4) rfl (v := (.int b0)) rfl 38 (hb hby d75) rfl ?_
  refine uKs 41 (255 : Int32) hx hby d76 rfl rfl ?_
  refine uiand 42 (b0 &&& (255 : Int32)) hx hby d77 rfl rfl ?_
  refine ggetS (host := "") hx (Or.inl (ow hw 92 rfl)) Via.refl Shi 45 (hb hby d78) rfl ?_
  refine gs (mkF m 46 #[vr a, vi (5 : Int32)] [(.int ((b0 &&& (255 : Int32)) <<< ((0 : Int32) &&& 31)))]) (fun _ _ A kq => XS.ishl A hx rfl (hb hby d79) rfl kq) ?_
  refine uAN 47 hx hby d80 rfl rfl rfl ?_
  refine uIN 48 hx hby d81 rfl rfl ?_
  refine gldB hx P0 ⟨by decide, by decide⟩ (i := 5) rfl (v := (.int b1)) rfl 49 (hb hby d82) rfl ?_
  refine uKs 52 (255 : Int32) hx hby d83 rfl rfl ?_
  refine uiand 53 (b1 &&& (255 : Int32)) hx hby d84 rfl rfl ?_
  refine ggetS (host := "") hx (Or.inl (ow hw 93 rfl)) Via.refl Slo 56 (hb hby d85) rfl ?_
  refine gs (mkF m 57 #[vr a, vi (5 : Int32)] [(.int ((b1 &&& (255 : Int32)) <<< ((8 : Int32) &&& 31))), (.int ((b0 &&& (255 : Int32)) <<< ((0 : Int32) &&& 31)))]) (fun _ _ A kq => XS.ishl A hx rfl (hb hby d86) rfl kq) ?_
  refine uior 58 (((b0 &&& (255 : Int32)) <<< ((0 : Int32) &&& 31)) ||| ((b1 &&& (255 : Int32)) <<< ((8 : Int32) &&& 31))) hx hby d87 rfl rfl ?_
  refine gi2c hx rfl 59 (hb hby d88) rfl ?_
  exact gretN (t := .char) hx hret (by simp) (hb hby d89) (by decide) (by decide) (fun vq Cq => ⟨(congrArg (fun z => some (Value.int z)) (narC2 _)), rfl⟩)
theorem own_pc4_3 (l : Launch) (Z : State) (a0 : Array Value) (cx : Ctx Z a0) (ws : List Jvm.Cond) (a : Addr) (ch : Int32) (ka : ClassId) (u0 : Value) (u1 : Value) (u2 : Value) (u3 : Value) (u4 : Value) (u5 : Value) (u6 : Value) (u7 : Value) (vm0 : Vm) (h0 : Heap) (X00 : Ext Z.heap h0) (P0 : Arv Z h0 a ka .byte (8 : Int32) [u0, u1, u2, u3, u4, u5, u6, u7] (.int (0 : Int32))) (P1 : Z.heap.size ≤ a) (P2 : Safe Z consts_1 vm0 h0 a) :
    Met l mn65 y17_ 3 none ws ({ frames := 0, cells := 0, slots := 0, locals := 0 } : Room) Z consts_1 vm0 h0 #[(.ref a), (.int (3 : Int32)), (.int ch)] (fun rv vm h => rv = none ∧ Keep h0 h [a] ∧ Arv Z h a ka .byte (8 : Int32) [u0, u1, u2, u3, u4, u5, (.int ((ch >>> ((0 : Int32) &&& 31)).toInt8.toInt32)), (.int ((ch >>> ((8 : Int32) &&& 31)).toInt8.toInt32))] (.int (0 : Int32)) ∧ Safe Z consts_1 vm h a) := by
  obtain ⟨hw, hEL, ⟨zc, Scs, hzc⟩, ⟨fm, Sfm, hfm⟩, Sad, Shi, Slo⟩ := id cx
  have hSA := own_SA hw
  refine Met.of_walk (a0 := a0) #[vr a, vi (3 : Int32), vi ch] (plainFor_of_name own_pn15) X00 hEL (fun m => by first | (simp [entryFrame, mkF, argsToLocals, Value.category]; done) | rfl) ?_
  intro p e s m below meth c vm hx hby hml hret hnm hC0 hW0
  have lt_a : h0.size > a := P0.lt
  have L2 := hC0.safe lt_a P2
  refine ggetS (host := "") hx (Or.inl (ow hw 91 rfl)) Via.refl Sad 3 (hb hby d43) rfl ?_
  refine uY 28 hx hby d44 ((if0 _ _).trans (feq (by decide)).2) (by decide) (by decide) ?_
  refine uIN 29 hx hby d45 rfl rfl ?_
  refine uKc 30 (1 : Int32) hx hby d46 rfl rfl ?_
  refine gs (mkF m 31 #[vr a, vi (3 : Int32), vi ch] [(.int (6 : Int32))]) (fun _ _ A kq => XS.ishl A hx rfl (hb hby d47) rfl kq) ?_
  refine uSIN 32 #[vr a, vi (6 : Int32), vi ch] hx hby d48 rfl rfl ?_
  refine uAN 33 hx hby d49 rfl rfl rfl ?_
  refine uIN 34 hx hby d50 rfl rfl ?_
  refine uInc 37 #[vr a, vi (7 : Int32), vi ch] hx hby d51 rfl rfl rfl ?_
  refine uIN 38 hx hby d52 rfl rfl ?_
  refine ggetS (host := "") hx (Or.inl (ow hw 92 rfl)) Via.refl Shi 41 (hb hby d53) rfl ?_
  refine gs (mkF m 42 #[vr a, vi (7 : Int32), vi ch] [(.int (ch >>> ((0 : Int32) &&& 31))), (.int (6 : Int32)), (.ref a)]) (fun _ _ A kq => XS.ishr A hx rfl (hb hby d54) rfl kq) ?_
  refine gs (mkF m 43 #[vr a, vi (7 : Int32), vi ch] [(.int ((ch >>> ((0 : Int32) &&& 31)).toInt8.toInt32)), (.int (6 : Int32)), (.ref a)]) (fun _ _ A kq => XS.i2b A hx rfl (hb hby d55) rfl kq) ?_
  refine gstB hx P0 ⟨by decide, by decide⟩ (i := 6) rfl (Nat.le_of_ble_eq_true rfl) (y := ((ch >>> ((0 : Int32) &&& 31)).toInt8.toInt32)) (narB _) P1 (fun _ => L2) 44 (hb hby d56) rfl ?_
  intro h1 W1 C1 V1
  have z1 := C1.2.1
  replace V1 : Arv Z h1 a ka .byte (8 : Int32) [u0, u1, u2, u3, u4, u5, (.int ((ch >>> ((0 : Int32) &&& 31)).toInt8.toInt32)), u7] (.int (0 : Int32)) := V1
  refine uAN 45 hx hby d57 rfl rfl rfl ?_
  refine uIN 46 hx hby d58 rfl rfl ?_
  refine uIN 47 hx hby d59 rfl rfl ?_
  refine ggetS (host := "") hx (Or.inl (ow hw 93 rfl)) Via.refl Slo 50 (hb hby d60) rfl ?_
  refine gs (mkF m 51 #[vr a, vi (7 : Int32), vi ch] [(.int (ch >>> ((8 : Int32) &&& 31))), (.int (7 : Int32)), (.ref a)]) (fun _ _ A kq => XS.ishr A hx rfl (hb hby d61) rfl kq) ?_
  refine gs (mkF m 52 #[vr a, vi (7 : Int32), vi ch] [(.int ((ch >>> ((8 : Int32) &&& 31)).toInt8.toInt32)), (.int (7 : Int32)), (.ref a)]) (fun _ _ A kq => XS.i2b A hx rfl (hb hby d62) rfl kq) ?_
  have f3 := (C1.safe (show h0.size > a by omega) L2)
  refine gstB hx V1 ⟨by decide, by decide⟩ (i := 7) rfl (Nat.le_of_ble_eq_true rfl) (y := ((ch >>> ((8 : Int32) &&& 31)).toInt8.toInt32)) (narB _) P1 (fun _ => f3) 53 (hb hby d63) rfl ?_
  intro h2 W2 C2 V2
  have z2 := C2.2.1
  replace V2 : Arv Z h2 a ka .byte (8 : Int32) [u0, u1, u2, u3, u4, u5, (.int ((ch >>> ((0 : Int32) &&& 31)).toInt8.toInt32)), (.int ((ch >>> ((8 : Int32) &&& 31)).toInt8.toInt32))] (.int (0 : Int32)) := V2
  have f5 := (C2.safe (show h1.size > a by omega) f3)
  exact gretV hx hret (hb hby d64) (by decide) (by decide) (fun vq Cq => ⟨rfl, (((Keep.refl h0 [a]).wr W1 (Or.inl (List.mem_of_getElem? (i := 0) rfl))).wr W2 (Or.inl (List.mem_of_getElem? (i := 0) rfl))), V2, (Cq.safe (show h2.size > a by omega) f5)⟩)
theorem own_gc4_3 (l : Launch) (Z : State) (a0 : Array Value) (cx : Ctx Z a0) (ws : List Jvm.Cond) (a : Addr) (ka : ClassId) (b0 : Int32) (b1 : Int32) (u0 : Value) (u1 : Value) (u2 : Value) (u3 : Value) (u4 : Value) (u5 : Value) (vm0 : Vm) (h0 : Heap) (X00 : Ext Z.heap h0) (P0 : Arv Z h0 a ka .byte (8 : Int32) [u0, u1, u2, u3, u4, u5, (.int b0), (.int b1)] (.int (0 : Int32))) :
    Met l mn90 y18_ 2 (some .char) ws ({ frames := 0, cells := 0, slots := 0, locals := 0 } : Room) Z consts_1 vm0 h0 #[(.ref a), (.int (3 : Int32))] (fun rv vm h => rv = some (.int (StrChars.pairCh b0 b1)) ∧ h0 = h) := by
  obtain ⟨hw, hEL, ⟨zc, Scs, hzc⟩, ⟨fm, Sfm, hfm⟩, Sad, Shi, Slo⟩ := id cx
  have hSA := own_SA hw
  refine Met.of_walk (a0 := a0) #[vr a, vi (3 : Int32)] (plainFor_of_name own_pn15) X00 hEL (fun m => by first | (simp [entryFrame, mkF, argsToLocals, Value.category]; done) | rfl) ?_
  intro p e s m below meth c vm hx hby hml hret hnm hC0 hW0
  have lt_a : h0.size > a := P0.lt
  refine ggetS (host := "") hx (Or.inl (ow hw 91 rfl)) Via.refl Sad 3 (hb hby d66) rfl ?_
  refine uY 28 hx hby d67 ((if0 _ _).trans (feq (by decide)).2) (by decide) (by decide) ?_
  refine uIN 29 hx hby d68 rfl rfl ?_
  refine uKc 30 (1 : Int32) hx hby d69 rfl rfl ?_
  refine gs (mkF m 31 #[vr a, vi (3 : Int32)] [(.int (6 : Int32))]) (fun _ _ A kq => XS.ishl A hx rfl (hb hby d70) rfl kq) ?_
  refine uSIN 32 #[vr a, vi (6 : Int32)] hx hby d71 rfl rfl ?_
  refine uAN 33 hx hby d72 rfl rfl rfl ?_
  refine uIN 34 hx hby d73 rfl rfl ?_
  refine uInc 37 #[vr a, vi (7 : Int32)] hx hby d74 rfl rfl rfl ?_
  refine gldB hx P0 ⟨by decide, by decide⟩ (i := 6) rfl (v := (.int b0)) rfl 38 (hb hby d75) rfl ?_
  refine uKs 41 (255 : Int32) hx hby d76 rfl rfl ?_
  refine uiand 42 (b0 &&& (255 : Int32)) hx hby d77 rfl rfl ?_
  refine ggetS (host := "") hx (Or.inl (ow hw 92 rfl)) Via.refl Shi 45 (hb hby d78) rfl ?_
  refine gs (mkF m 46 #[vr a, vi (7 : Int32)] [(.int ((b0 &&& (255 : Int32)) <<< ((0 : Int32) &&& 31)))]) (fun _ _ A kq => XS.ishl A hx rfl (hb hby d79) rfl kq) ?_
  refine uAN 47 hx hby d80 rfl rfl rfl ?_
  refine uIN 48 hx hby d81 rfl rfl ?_
  refine gldB hx P0 ⟨by decide, by decide⟩ (i := 7) rfl (v := (.int b1)) rfl 49 (hb hby d82) rfl ?_
  refine uKs 52 (255 : Int32) hx hby d83 rfl rfl ?_
  refine uiand 53 (b1 &&& (255 : Int32)) hx hby d84 rfl rfl ?_
  refine ggetS (host := "") hx (Or.inl (ow hw 93 rfl)) Via.refl Slo 56 (hb hby d85) rfl ?_
  refine gs (mkF m 57 #[vr a, vi (7 : Int32)] [(.int ((b1 &&& (255 : Int32)) <<< ((8 : Int32) &&& 31))), (.int ((b0 &&& (255 : Int32)) <<< ((0 : Int32) &&& 31)))]) (fun _ _ A kq => XS.ishl A hx rfl (hb hby d86) rfl kq) ?_
  refine uior 58 (((b0 &&& (255 : Int32)) <<< ((0 : Int32) &&& 31)) ||| ((b1 &&& (255 : Int32)) <<< ((8 : Int32) &&& 31))) hx hby d87 rfl rfl ?_
  refine gi2c hx rfl 59 (hb hby d88) rfl ?_
  exact gretN (t := .char) hx hret (by simp) (hb hby d89) (by decide) (by decide) (fun vq Cq => ⟨(congrArg (fun z => some (Value.int z)) (narC2 _)), rfl⟩)
theorem own_tb4 (l : Launch) (Z : State) (a0 : Array Value) (cx : Ctx Z a0) (ws : List Jvm.Cond) (a : Addr) (kc : ClassId) (c0 : Int32) (c1 : Int32) (c2 : Int32) (c3 : Int32) (vm0 : Vm) (h0 : Heap) (X00 : Ext Z.heap h0) (P0 : Arv Z h0 a kc .char (4 : Int32) [(.int c0), (.int c1), (.int c2), (.int c3)] (.int (0 : Int32))) :
    Met l mn112 y11_ 5 (some (.array .byte)) ws ({ frames := 2, cells := 1, slots := 8, locals := 24 } : Room) Z consts_1 vm0 h0 #[(.ref a), (.int (0 : Int32)), (.int (4 : Int32))] (fun rv vm h => ∃ (r : Addr), ∃ (kb : ClassId), rv = some (.ref r) ∧ Keep h0 h [] ∧ h0.size ≤ r ∧ Arv Z h r kb .byte (8 : Int32) [(.int ((c0 >>> ((0 : Int32) &&& 31)).toInt8.toInt32)), (.int ((c0 >>> ((8 : Int32) &&& 31)).toInt8.toInt32)), (.int ((c1 >>> ((0 : Int32) &&& 31)).toInt8.toInt32)), (.int ((c1 >>> ((8 : Int32) &&& 31)).toInt8.toInt32)), (.int ((c2 >>> ((0 : Int32) &&& 31)).toInt8.toInt32)), (.int ((c2 >>> ((8 : Int32) &&& 31)).toInt8.toInt32)), (.int ((c3 >>> ((0 : Int32) &&& 31)).toInt8.toInt32)), (.int ((c3 >>> ((8 : Int32) &&& 31)).toInt8.toInt32))] (.int (0 : Int32))) := by
  obtain ⟨hw, hEL, ⟨zc, Scs, hzc⟩, ⟨fm, Sfm, hfm⟩, Sad, Shi, Slo⟩ := id cx
  have hSA := own_SA hw
  refine Met.of_walk (a0 := a0) #[vr a, vi (0 : Int32), vi (4 : Int32), un, un] (plainFor_of_name own_pn15) X00 hEL (fun m => by first | (simp [entryFrame, mkF, argsToLocals, Value.category]; done) | rfl) ?_
  intro p e s m below meth c vm hx hby hml hret hnm hC0 hW0
  have lt_a : h0.size > a := P0.lt
  refine uIN 1 hx hby d91 rfl rfl ?_
  refine ginfo fun _ _ O1 => ?_
  refine gcallS (y := mn42) hx (ow hw 81 rfl) (ow hw 82 rfl) (ow hw 73 rfl) (ow hw 83 rfl) (by decide) (fun hZ H hEL => Pay.of_met (W := 0) (own_nbf4 l Z a0 cx []  vm h0 O1 ) (ow hw 83 rfl) (ow hw 73 rfl) (by decide) (by decide) hZ H hEL) 4 (argsL := [(.int (4 : Int32))]) (rest := []) (lenOf own_pd93 rfl) rfl rfl (Nat.le_of_eq rfl) (by rw [hml]; rfl) (hb hby d92) rfl (by decide) (by decide) ?_
  rintro _ vm1 h1 C1 ⟨r1, kb1, rfl, K1, q1_0, q1_1, q1_2, q1_3⟩
  have z1 := C1.2.1
  have lt_r1 : h1.size > r1 := q1_3.lt
  refine gat1 ?_
  refine uSAN 5 #[vr a, vi (0 : Int32), vi (4 : Int32), vr r1, un] hx hby d94 rfl rfl rfl ?_
  refine uKc 6 (0 : Int32) hx hby d95 rfl rfl ?_
  refine uSI 8 #[vr a, vi (0 : Int32), vi (4 : Int32), vr r1, vi (0 : Int32)] hx hby d96 rfl rfl ?_
  refine uI 10 hx hby d97 rfl rfl ?_
  refine uIN 11 hx hby d98 rfl rfl ?_
  refine uNc 14 hx hby d99 rfl (tlt (by decide)).2.1 ?_
  refine uAN 15 hx hby d100 rfl rfl rfl ?_
  refine uI 17 hx hby d101 rfl rfl ?_
  refine uAN 18 hx hby d102 rfl rfl rfl ?_
  refine uIN 19 hx hby d103 rfl rfl ?_
  have f2 := (P0.keep K1 nin0)
  refine gldC hx f2 ⟨by decide, by decide⟩ (i := 0) rfl (v := (.int c0)) rfl 20 (hb hby d104) rfl ?_
  refine ginfo fun _ _ O3 => ?_
  refine gcallS (y := mn65) hx (ow hw 88 rfl) (ow hw 89 rfl) (ow hw 73 rfl) (ow hw 90 rfl) (by decide) (fun hZ H hEL => Pay.of_met (W := 0) (own_pc4_0 l Z a0 cx [] (r1) (c0) (kb1) ((.int (0 : Int32))) ((.int (0 : Int32))) ((.int (0 : Int32))) ((.int (0 : Int32))) ((.int (0 : Int32))) ((.int (0 : Int32))) ((.int (0 : Int32))) ((.int (0 : Int32))) vm1 h1 O3 q1_3 q1_1 q1_2) (ow hw 90 rfl) (ow hw 73 rfl) (by decide) (by decide) hZ H hEL) 23 (argsL := [(.ref r1), (.int (0 : Int32)), (.int c0)]) (rest := []) (lenOf own_pd106 rfl) rfl rfl (Nat.le_of_eq rfl) (by rw [hml]; rfl) (hb hby d105) rfl (by decide) (by decide) ?_
  rintro _ vm3 h3 C3 ⟨rfl, K3, q3_0, q3_1⟩
  have z3 := C3.2.1
  refine gat0 ?_
  refine uInc 26 #[vr a, vi (1 : Int32), vi (4 : Int32), vr r1, vi (0 : Int32)] hx hby d107 rfl rfl rfl ?_
  refine uInc 29 #[vr a, vi (1 : Int32), vi (4 : Int32), vr r1, vi (1 : Int32)] hx hby d108 rfl rfl rfl ?_
  refine uG 8 hx hby d109 (by decide) (by decide) ?_
  refine uI 10 hx hby d97 rfl rfl ?_
  refine uIN 11 hx hby d98 rfl rfl ?_
  refine uNc 14 hx hby d99 rfl (tlt (by decide)).2.1 ?_
  refine uAN 15 hx hby d100 rfl rfl rfl ?_
  refine uI 17 hx hby d101 rfl rfl ?_
  refine uAN 18 hx hby d102 rfl rfl rfl ?_
  refine uIN 19 hx hby d103 rfl rfl ?_
  have f4 := (f2.keep K3 (ninS (Nat.ne_of_lt (by omega)) nin0))
  refine gldC hx f4 ⟨by decide, by decide⟩ (i := 1) rfl (v := (.int c1)) rfl 20 (hb hby d104) rfl ?_
  refine ginfo fun _ _ O5 => ?_
  refine gcallS (y := mn65) hx (ow hw 88 rfl) (ow hw 89 rfl) (ow hw 73 rfl) (ow hw 90 rfl) (by decide) (fun hZ H hEL => Pay.of_met (W := 0) (own_pc4_1 l Z a0 cx [] (r1) (c1) (kb1) ((.int ((c0 >>> ((0 : Int32) &&& 31)).toInt8.toInt32))) ((.int ((c0 >>> ((8 : Int32) &&& 31)).toInt8.toInt32))) ((.int (0 : Int32))) ((.int (0 : Int32))) ((.int (0 : Int32))) ((.int (0 : Int32))) ((.int (0 : Int32))) ((.int (0 : Int32))) vm3 h3 O5 q3_0 q1_1 q3_1) (ow hw 90 rfl) (ow hw 73 rfl) (by decide) (by decide) hZ H hEL) 23 (argsL := [(.ref r1), (.int (1 : Int32)), (.int c1)]) (rest := []) (lenOf own_pd106 rfl) rfl rfl (Nat.le_of_eq rfl) (by rw [hml]; rfl) (hb hby d105) rfl (by decide) (by decide) ?_
  rintro _ vm5 h5 C5 ⟨rfl, K5, q5_0, q5_1⟩
  have z5 := C5.2.1
  refine gat0 ?_
  refine uInc 26 #[vr a, vi (2 : Int32), vi (4 : Int32), vr r1, vi (1 : Int32)] hx hby d107 rfl rfl rfl ?_
  refine uInc 29 #[vr a, vi (2 : Int32), vi (4 : Int32), vr r1, vi (2 : Int32)] hx hby d108 rfl rfl rfl ?_
  refine uG 8 hx hby d109 (by decide) (by decide) ?_
  refine uI 10 hx hby d97 rfl rfl ?_
  refine uIN 11 hx hby d98 rfl rfl ?_
  refine uNc 14 hx hby d99 rfl (tlt (by decide)).2.1 ?_
  refine uAN 15 hx hby d100 rfl rfl rfl ?_
  refine uI 17 hx hby d101 rfl rfl ?_
  refine uAN 18 hx hby d102 rfl rfl rfl ?_
  refine uIN 19 hx hby d103 rfl rfl ?_
  have f6 := (f4.keep K5 (ninS (Nat.ne_of_lt (by omega)) nin0))
  refine gldC hx f6 ⟨by decide, by decide⟩ (i := 2) rfl (v := (.int c2)) rfl 20 (hb hby d104) rfl ?_
  refine ginfo fun _ _ O7 => ?_
  refine gcallS (y := mn65) hx (ow hw 88 rfl) (ow hw 89 rfl) (ow hw 73 rfl) (ow hw 90 rfl) (by decide) (fun hZ H hEL => Pay.of_met (W := 0) (own_pc4_2 l Z a0 cx [] (r1) (c2) (kb1) ((.int ((c0 >>> ((0 : Int32) &&& 31)).toInt8.toInt32))) ((.int ((c0 >>> ((8 : Int32) &&& 31)).toInt8.toInt32))) ((.int ((c1 >>> ((0 : Int32) &&& 31)).toInt8.toInt32))) ((.int ((c1 >>> ((8 : Int32) &&& 31)).toInt8.toInt32))) ((.int (0 : Int32))) ((.int (0 : Int32))) ((.int (0 : Int32))) ((.int (0 : Int32))) vm5 h5 O7 q5_0 q1_1 q5_1) (ow hw 90 rfl) (ow hw 73 rfl) (by decide) (by decide) hZ H hEL) 23 (argsL := [(.ref r1), (.int (2 : Int32)), (.int c2)]) (rest := []) (lenOf own_pd106 rfl) rfl rfl (Nat.le_of_eq rfl) (by rw [hml]; rfl) (hb hby d105) rfl (by decide) (by decide) ?_
  rintro _ vm7 h7 C7 ⟨rfl, K7, q7_0, q7_1⟩
  have z7 := C7.2.1
  refine gat0 ?_
  refine uInc 26 #[vr a, vi (3 : Int32), vi (4 : Int32), vr r1, vi (2 : Int32)] hx hby d107 rfl rfl rfl ?_
  refine uInc 29 #[vr a, vi (3 : Int32), vi (4 : Int32), vr r1, vi (3 : Int32)] hx hby d108 rfl rfl rfl ?_
  refine uG 8 hx hby d109 (by decide) (by decide) ?_
  refine uI 10 hx hby d97 rfl rfl ?_
  refine uIN 11 hx hby d98 rfl rfl ?_
  refine uNc 14 hx hby d99 rfl (tlt (by decide)).2.1 ?_
  refine uAN 15 hx hby d100 rfl rfl rfl ?_
  refine uI 17 hx hby d101 rfl rfl ?_
  refine uAN 18 hx hby d102 rfl rfl rfl ?_
  refine uIN 19 hx hby d103 rfl rfl ?_
  have f8 := (f6.keep K7 (ninS (Nat.ne_of_lt (by omega)) nin0))
  refine gldC hx f8 ⟨by decide, by decide⟩ (i := 3) rfl (v := (.int c3)) rfl 20 (hb hby d104) rfl ?_
  refine ginfo fun _ _ O9 => ?_
  refine gcallS (y := mn65) hx (ow hw 88 rfl) (ow hw 89 rfl) (ow hw 73 rfl) (ow hw 90 rfl) (by decide) (fun hZ H hEL => Pay.of_met (W := 0) (own_pc4_3 l Z a0 cx [] (r1) (c3) (kb1) ((.int ((c0 >>> ((0 : Int32) &&& 31)).toInt8.toInt32))) ((.int ((c0 >>> ((8 : Int32) &&& 31)).toInt8.toInt32))) ((.int ((c1 >>> ((0 : Int32) &&& 31)).toInt8.toInt32))) ((.int ((c1 >>> ((8 : Int32) &&& 31)).toInt8.toInt32))) ((.int ((c2 >>> ((0 : Int32) &&& 31)).toInt8.toInt32))) ((.int ((c2 >>> ((8 : Int32) &&& 31)).toInt8.toInt32))) ((.int (0 : Int32))) ((.int (0 : Int32))) vm7 h7 O9 q7_0 q1_1 q7_1) (ow hw 90 rfl) (ow hw 73 rfl) (by decide) (by decide) hZ H hEL) 23 (argsL := [(.ref r1), (.int (3 : Int32)), (.int c3)]) (rest := []) (lenOf own_pd106 rfl) rfl rfl (Nat.le_of_eq rfl) (by rw [hml]; rfl) (hb hby d105) rfl (by decide) (by decide) ?_
  rintro _ vm9 h9 C9 ⟨rfl, K9, q9_0, q9_1⟩
  have z9 := C9.2.1
  refine gat0 ?_
  refine uInc 26 #[vr a, vi (4 : Int32), vi (4 : Int32), vr r1, vi (3 : Int32)] hx hby d107 rfl rfl rfl ?_
  refine uInc 29 #[vr a, vi (4 : Int32), vi (4 : Int32), vr r1, vi (4 : Int32)] hx hby d108 rfl rfl rfl ?_
  refine uG 8 hx hby d109 (by decide) (by decide) ?_
  refine uI 10 hx hby d97 rfl rfl ?_
  refine uIN 11 hx hby d98 rfl rfl ?_
  refine uYc 32 hx hby d99 (flt (by decide)).2.1 (by decide) (by decide) ?_
  refine uAN 33 hx hby d110 rfl rfl rfl ?_
  exact gretA hx hret rfl rfl (hb hby d111) (by decide) (by decide) (fun vq Cq => ⟨r1, kb1, rfl, ((((((Keep.refl h0 []).trans K1 all0).trans K3 (allS (Or.inr (by omega)) all0)).trans K5 (allS (Or.inr (by omega)) all0)).trans K7 (allS (Or.inr (by omega)) all0)).trans K9 (allS (Or.inr (by omega)) all0)), (by omega), q9_0⟩)
theorem own_c3_4_0 (l : Launch) (Z : State) (a0 : Array Value) (cx : Ctx Z a0) (ws : List Jvm.Cond) (a : Addr) (kc : ClassId) (c0 : Int32) (c1 : Int32) (c2 : Int32) (c3 : Int32) (vm0 : Vm) (h0 : Heap) (X00 : Ext Z.heap h0) (P0 : Arv Z h0 a kc .char (4 : Int32) [(.int c0), (.int c1), (.int c2), (.int c3)] (.int (0 : Int32))) (P1 : ((255 : Int32) < c0)) (hB : (¬ c0 < 0 ∧ ¬ (65535 : Int32) < c0)) :
    Met l mn141 y13_ 6 (some (.array .byte)) ws ({ frames := 3, cells := 2, slots := 12, locals := 40 } : Room) Z consts_1 vm0 h0 #[(.ref a), (.int (0 : Int32)), (.int (4 : Int32))] (fun rv vm h => ∃ (r : Addr), ∃ (kb : ClassId), rv = some (.ref r) ∧ Keep h0 h [] ∧ h0.size ≤ r ∧ Arv Z h r kb .byte (8 : Int32) [(.int ((c0 >>> ((0 : Int32) &&& 31)).toInt8.toInt32)), (.int ((c0 >>> ((8 : Int32) &&& 31)).toInt8.toInt32)), (.int ((c1 >>> ((0 : Int32) &&& 31)).toInt8.toInt32)), (.int ((c1 >>> ((8 : Int32) &&& 31)).toInt8.toInt32)), (.int ((c2 >>> ((0 : Int32) &&& 31)).toInt8.toInt32)), (.int ((c2 >>> ((8 : Int32) &&& 31)).toInt8.toInt32)), (.int ((c3 >>> ((0 : Int32) &&& 31)).toInt8.toInt32)), (.int ((c3 >>> ((8 : Int32) &&& 31)).toInt8.toInt32))] (.int (0 : Int32))) := by
  obtain ⟨hw, hEL, ⟨zc, Scs, hzc⟩, ⟨fm, Sfm, hfm⟩, Sad, Shi, Slo⟩ := id cx
  have hSA := own_SA hw
  refine Met.of_walk (a0 := a0) #[vr a, vi (0 : Int32), vi (4 : Int32), un, un, un] (plainFor_of_name own_pn15) X00 hEL (fun m => by first | (simp [entryFrame, mkF, argsToLocals, Value.category]; done) | rfl) ?_
  intro p e s m below meth c vm hx hby hml hret hnm hC0 hW0
  have lt_a : h0.size > a := P0.lt
  refine uIN 1 hx hby d113 rfl rfl ?_
  refine gnewPE hx (ow hw 29 rfl) (n := (4 : Int32)) (by decide) (cap := 4) (by decide) (by decide) (ad := "[B") (by decide) 3 (hb hby d114) rfl (by decide) (by decide) ?_
  intro b1 h1 k1 g1 E1 C1 V1 A1 n1 L1
  have z1 := C1.2.1
  have V1 : Arv Z h1 b1 k1 .byte (4 : Int32) [(.int (0 : Int32)), (.int (0 : Int32)), (.int (0 : Int32)), (.int (0 : Int32))] (.int (0 : Int32)) := V1.pad (pad_rep [] (.int (0 : Int32)) 4)
  have lt_b1 : h1.size > b1 := V1.lt
  refine uSAN 4 #[vr a, vi (0 : Int32), vi (4 : Int32), vr b1, un, un] hx hby d115 rfl rfl rfl ?_
  refine uAN 5 hx hby d116 rfl rfl rfl ?_
  refine uIN 6 hx hby d117 rfl rfl ?_
  refine uAN 7 hx hby d118 rfl rfl rfl ?_
  refine uKc 8 (0 : Int32) hx hby d119 rfl rfl ?_
  refine uIN 9 hx hby d120 rfl rfl ?_
  have f3 := (P0.ext E1)
  refine ginfo fun _ _ O2 => ?_
  refine gcallS (y := mn14) hx (ow hw 75 rfl) (ow hw 76 rfl) (ow hw 73 rfl) (ow hw 77 rfl) (by decide) (fun hZ H hEL => Pay.of_met (W := 0) (own_c5_4_0 l Z a0 cx [] (a) (b1) (kc) (k1) (c0) (c1) (c2) (c3) vm h1 O2 f3 V1 n1 L1 (Nat.ne_of_lt (by omega)) (by first | assumption | decide | omega)) (ow hw 77 rfl) (ow hw 73 rfl) (by decide) (by decide) hZ H hEL) 12 (argsL := [(.ref a), (.int (0 : Int32)), (.ref b1), (.int (0 : Int32)), (.int (4 : Int32))]) (rest := []) (lenOf own_pd122 rfl) rfl rfl (Nat.le_of_eq rfl) (by rw [hml]; rfl) (hb hby d121) rfl (by decide) (by decide) ?_
  rintro _ vm2 h2 C2 ⟨rfl, K2, q2_0⟩
  have z2 := C2.2.1
  refine gat1 ?_
  refine uSI 14 #[vr a, vi (0 : Int32), vi (4 : Int32), vr b1, vi (0 : Int32), un] hx hby d123 rfl rfl ?_
  refine uI 16 hx hby d124 rfl rfl ?_
  refine uIN 17 hx hby d125 rfl rfl ?_
  refine uNc 20 hx hby d126 rfl (feq (by decide)).1 ?_
  refine uAN 21 hx hby d127 rfl rfl rfl ?_
  refine uIN 22 hx hby d128 rfl rfl ?_
  refine uIN 23 hx hby d129 rfl rfl ?_
  have f5 := (f3.keep K2 (ninS (Nat.ne_of_lt (by omega)) nin0))
  refine ginfo fun _ _ O4 => ?_
  refine gcallS (y := mn112) hx (ow hw 78 rfl) (ow hw 79 rfl) (ow hw 73 rfl) (ow hw 80 rfl) (by decide) (fun hZ H hEL => Pay.of_met (W := 0) (own_tb4 l Z a0 cx [] (a) (kc) (c0) (c1) (c2) (c3) vm2 h2 O4 f5) (ow hw 80 rfl) (ow hw 73 rfl) (by decide) (by decide) hZ H hEL) 26 (argsL := [(.ref a), (.int (0 : Int32)), (.int (4 : Int32))]) (rest := []) (lenOf own_pd131 rfl) rfl rfl (Nat.le_of_eq rfl) (by rw [hml]; rfl) (hb hby d130) rfl (by decide) (by decide) ?_
  rintro _ vm4 h4 C4 ⟨r4, kb4, rfl, K4, q4_0, q4_1⟩
  have z4 := C4.2.1
  have lt_r4 : h4.size > r4 := q4_1.lt
  refine gat1 ?_
  refine uSA 28 #[vr a, vi (0 : Int32), vi (4 : Int32), vr b1, vi (0 : Int32), vr r4] hx hby d132 rfl rfl rfl ?_
  refine uA 30 hx hby d133 rfl rfl rfl ?_
  refine uI 32 hx hby d134 rfl rfl ?_
  refine ginfo fun _ _ O6 => ?_
  refine gcallS (y := mn90) hx (ow hw 94 rfl) (ow hw 95 rfl) (ow hw 73 rfl) (ow hw 96 rfl) (by decide) (fun hZ H hEL => Pay.of_met (W := 0) (own_gc4_0 l Z a0 cx [] (r4) (kb4) (((c0 >>> ((0 : Int32) &&& 31)).toInt8.toInt32)) (((c0 >>> ((8 : Int32) &&& 31)).toInt8.toInt32)) ((.int ((c1 >>> ((0 : Int32) &&& 31)).toInt8.toInt32))) ((.int ((c1 >>> ((8 : Int32) &&& 31)).toInt8.toInt32))) ((.int ((c2 >>> ((0 : Int32) &&& 31)).toInt8.toInt32))) ((.int ((c2 >>> ((8 : Int32) &&& 31)).toInt8.toInt32))) ((.int ((c3 >>> ((0 : Int32) &&& 31)).toInt8.toInt32))) ((.int ((c3 >>> ((8 : Int32) &&& 31)).toInt8.toInt32))) vm4 h4 O6 q4_1) (ow hw 96 rfl) (ow hw 73 rfl) (by decide) (by decide) hZ H hEL) 35 (argsL := [(.ref r4), (.int (0 : Int32))]) (rest := []) (lenOf own_pd136 rfl) rfl rfl (Nat.le_of_eq rfl) (by rw [hml]; rfl) (hb hby d135) rfl (by decide) (by decide) ?_
  rintro _ vm6 h6 C6 ⟨rfl, rfl⟩
  have z6 := C6.2.1
  refine gat1 ?_
  refine uKs 38 (255 : Int32) hx hby d137 rfl rfl ?_
  refine uYc 54 hx hby d138 (tlt (own_pair hB P1)).2.2.1 (by decide) (by decide) ?_
  refine uA 56 hx hby d139 rfl rfl rfl ?_
  exact gretA hx hret rfl rfl (hb hby d140) (by decide) (by decide) (fun vq Cq => ⟨r4, kb4, rfl, ((((Keep.refl h0 []).ext E1).trans K2 (allS (Or.inr (by omega)) all0)).trans K4 all0), (by omega), q4_1⟩)
theorem own_c3_4_1 (l : Launch) (Z : State) (a0 : Array Value) (cx : Ctx Z a0) (ws : List Jvm.Cond) (a : Addr) (kc : ClassId) (c0 : Int32) (c1 : Int32) (c2 : Int32) (c3 : Int32) (vm0 : Vm) (h0 : Heap) (X00 : Ext Z.heap h0) (P0 : Arv Z h0 a kc .char (4 : Int32) [(.int c0), (.int c1), (.int c2), (.int c3)] (.int (0 : Int32))) (P1 : (¬ (255 : Int32) < c0)) (P2 : ((255 : Int32) < c1)) (hB : (¬ c1 < 0 ∧ ¬ (65535 : Int32) < c1)) :
    Met l mn141 y13_ 6 (some (.array .byte)) ws ({ frames := 3, cells := 2, slots := 12, locals := 40 } : Room) Z consts_1 vm0 h0 #[(.ref a), (.int (0 : Int32)), (.int (4 : Int32))] (fun rv vm h => ∃ (r : Addr), ∃ (kb : ClassId), rv = some (.ref r) ∧ Keep h0 h [] ∧ h0.size ≤ r ∧ Arv Z h r kb .byte (8 : Int32) [(.int ((c0 >>> ((0 : Int32) &&& 31)).toInt8.toInt32)), (.int ((c0 >>> ((8 : Int32) &&& 31)).toInt8.toInt32)), (.int ((c1 >>> ((0 : Int32) &&& 31)).toInt8.toInt32)), (.int ((c1 >>> ((8 : Int32) &&& 31)).toInt8.toInt32)), (.int ((c2 >>> ((0 : Int32) &&& 31)).toInt8.toInt32)), (.int ((c2 >>> ((8 : Int32) &&& 31)).toInt8.toInt32)), (.int ((c3 >>> ((0 : Int32) &&& 31)).toInt8.toInt32)), (.int ((c3 >>> ((8 : Int32) &&& 31)).toInt8.toInt32))] (.int (0 : Int32))) := by
  obtain ⟨hw, hEL, ⟨zc, Scs, hzc⟩, ⟨fm, Sfm, hfm⟩, Sad, Shi, Slo⟩ := id cx
  have hSA := own_SA hw
  refine Met.of_walk (a0 := a0) #[vr a, vi (0 : Int32), vi (4 : Int32), un, un, un] (plainFor_of_name own_pn15) X00 hEL (fun m => by first | (simp [entryFrame, mkF, argsToLocals, Value.category]; done) | rfl) ?_
  intro p e s m below meth c vm hx hby hml hret hnm hC0 hW0
  have lt_a : h0.size > a := P0.lt
  refine uIN 1 hx hby d113 rfl rfl ?_
  refine gnewPE hx (ow hw 29 rfl) (n := (4 : Int32)) (by decide) (cap := 4) (by decide) (by decide) (ad := "[B") (by decide) 3 (hb hby d114) rfl (by decide) (by decide) ?_
  intro b1 h1 k1 g1 E1 C1 V1 A1 n1 L1
  have z1 := C1.2.1
  have V1 : Arv Z h1 b1 k1 .byte (4 : Int32) [(.int (0 : Int32)), (.int (0 : Int32)), (.int (0 : Int32)), (.int (0 : Int32))] (.int (0 : Int32)) := V1.pad (pad_rep [] (.int (0 : Int32)) 4)
  have lt_b1 : h1.size > b1 := V1.lt
  refine uSAN 4 #[vr a, vi (0 : Int32), vi (4 : Int32), vr b1, un, un] hx hby d115 rfl rfl rfl ?_
  refine uAN 5 hx hby d116 rfl rfl rfl ?_
  refine uIN 6 hx hby d117 rfl rfl ?_
  refine uAN 7 hx hby d118 rfl rfl rfl ?_
  refine uKc 8 (0 : Int32) hx hby d119 rfl rfl ?_
  refine uIN 9 hx hby d120 rfl rfl ?_
  have f3 := (P0.ext E1)
  refine ginfo fun _ _ O2 => ?_
  refine gcallS (y := mn14) hx (ow hw 75 rfl) (ow hw 76 rfl) (ow hw 73 rfl) (ow hw 77 rfl) (by decide) (fun hZ H hEL => Pay.of_met (W := 0) (own_c5_4_1 l Z a0 cx [] (a) (b1) (kc) (k1) (c0) (c1) (c2) (c3) vm h1 O2 f3 V1 n1 L1 (Nat.ne_of_lt (by omega)) (by first | assumption | decide | omega) (by first | assumption | decide | omega)) (ow hw 77 rfl) (ow hw 73 rfl) (by decide) (by decide) hZ H hEL) 12 (argsL := [(.ref a), (.int (0 : Int32)), (.ref b1), (.int (0 : Int32)), (.int (4 : Int32))]) (rest := []) (lenOf own_pd122 rfl) rfl rfl (Nat.le_of_eq rfl) (by rw [hml]; rfl) (hb hby d121) rfl (by decide) (by decide) ?_
  rintro _ vm2 h2 C2 ⟨rfl, K2, q2_0⟩
  have z2 := C2.2.1
  refine gat1 ?_
  refine uSI 14 #[vr a, vi (0 : Int32), vi (4 : Int32), vr b1, vi (1 : Int32), un] hx hby d123 rfl rfl ?_
  refine uI 16 hx hby d124 rfl rfl ?_
  refine uIN 17 hx hby d125 rfl rfl ?_
  refine uNc 20 hx hby d126 rfl (feq (by decide)).1 ?_
  refine uAN 21 hx hby d127 rfl rfl rfl ?_
  refine uIN 22 hx hby d128 rfl rfl ?_
  refine uIN 23 hx hby d129 rfl rfl ?_
  have f5 := (f3.keep K2 (ninS (Nat.ne_of_lt (by omega)) nin0))
  refine ginfo fun _ _ O4 => ?_
  refine gcallS (y := mn112) hx (ow hw 78 rfl) (ow hw 79 rfl) (ow hw 73 rfl) (ow hw 80 rfl) (by decide) (fun hZ H hEL => Pay.of_met (W := 0) (own_tb4 l Z a0 cx [] (a) (kc) (c0) (c1) (c2) (c3) vm2 h2 O4 f5) (ow hw 80 rfl) (ow hw 73 rfl) (by decide) (by decide) hZ H hEL) 26 (argsL := [(.ref a), (.int (0 : Int32)), (.int (4 : Int32))]) (rest := []) (lenOf own_pd131 rfl) rfl rfl (Nat.le_of_eq rfl) (by rw [hml]; rfl) (hb hby d130) rfl (by decide) (by decide) ?_
  rintro _ vm4 h4 C4 ⟨r4, kb4, rfl, K4, q4_0, q4_1⟩
  have z4 := C4.2.1
  have lt_r4 : h4.size > r4 := q4_1.lt
  refine gat1 ?_
  refine uSA 28 #[vr a, vi (0 : Int32), vi (4 : Int32), vr b1, vi (1 : Int32), vr r4] hx hby d132 rfl rfl rfl ?_
  refine uA 30 hx hby d133 rfl rfl rfl ?_
  refine uI 32 hx hby d134 rfl rfl ?_
  refine ginfo fun _ _ O6 => ?_
  refine gcallS (y := mn90) hx (ow hw 94 rfl) (ow hw 95 rfl) (ow hw 73 rfl) (ow hw 96 rfl) (by decide) (fun hZ H hEL => Pay.of_met (W := 0) (own_gc4_1 l Z a0 cx [] (r4) (kb4) (((c1 >>> ((0 : Int32) &&& 31)).toInt8.toInt32)) (((c1 >>> ((8 : Int32) &&& 31)).toInt8.toInt32)) ((.int ((c0 >>> ((0 : Int32) &&& 31)).toInt8.toInt32))) ((.int ((c0 >>> ((8 : Int32) &&& 31)).toInt8.toInt32))) ((.int ((c2 >>> ((0 : Int32) &&& 31)).toInt8.toInt32))) ((.int ((c2 >>> ((8 : Int32) &&& 31)).toInt8.toInt32))) ((.int ((c3 >>> ((0 : Int32) &&& 31)).toInt8.toInt32))) ((.int ((c3 >>> ((8 : Int32) &&& 31)).toInt8.toInt32))) vm4 h4 O6 q4_1) (ow hw 96 rfl) (ow hw 73 rfl) (by decide) (by decide) hZ H hEL) 35 (argsL := [(.ref r4), (.int (1 : Int32))]) (rest := []) (lenOf own_pd136 rfl) rfl rfl (Nat.le_of_eq rfl) (by rw [hml]; rfl) (hb hby d135) rfl (by decide) (by decide) ?_
  rintro _ vm6 h6 C6 ⟨rfl, rfl⟩
  have z6 := C6.2.1
  refine gat1 ?_
  refine uKs 38 (255 : Int32) hx hby d137 rfl rfl ?_
  refine uYc 54 hx hby d138 (tlt (own_pair hB P2)).2.2.1 (by decide) (by decide) ?_
  refine uA 56 hx hby d139 rfl rfl rfl ?_
  exact gretA hx hret rfl rfl (hb hby d140) (by decide) (by decide) (fun vq Cq => ⟨r4, kb4, rfl, ((((Keep.refl h0 []).ext E1).trans K2 (allS (Or.inr (by omega)) all0)).trans K4 all0), (by omega), q4_1⟩)
theorem own_c3_4_2 (l : Launch) (Z : State) (a0 : Array Value) (cx : Ctx Z a0) (ws : List Jvm.Cond) (a : Addr) (kc : ClassId) (c0 : Int32) (c1 : Int32) (c2 : Int32) (c3 : Int32) (vm0 : Vm) (h0 : Heap) (X00 : Ext Z.heap h0) (P0 : Arv Z h0 a kc .char (4 : Int32) [(.int c0), (.int c1), (.int c2), (.int c3)] (.int (0 : Int32))) (P1 : (¬ (255 : Int32) < c0)) (P2 : (¬ (255 : Int32) < c1)) (P3 : ((255 : Int32) < c2)) (hB : (¬ c2 < 0 ∧ ¬ (65535 : Int32) < c2)) :
    Met l mn141 y13_ 6 (some (.array .byte)) ws ({ frames := 3, cells := 2, slots := 12, locals := 40 } : Room) Z consts_1 vm0 h0 #[(.ref a), (.int (0 : Int32)), (.int (4 : Int32))] (fun rv vm h => ∃ (r : Addr), ∃ (kb : ClassId), rv = some (.ref r) ∧ Keep h0 h [] ∧ h0.size ≤ r ∧ Arv Z h r kb .byte (8 : Int32) [(.int ((c0 >>> ((0 : Int32) &&& 31)).toInt8.toInt32)), (.int ((c0 >>> ((8 : Int32) &&& 31)).toInt8.toInt32)), (.int ((c1 >>> ((0 : Int32) &&& 31)).toInt8.toInt32)), (.int ((c1 >>> ((8 : Int32) &&& 31)).toInt8.toInt32)), (.int ((c2 >>> ((0 : Int32) &&& 31)).toInt8.toInt32)), (.int ((c2 >>> ((8 : Int32) &&& 31)).toInt8.toInt32)), (.int ((c3 >>> ((0 : Int32) &&& 31)).toInt8.toInt32)), (.int ((c3 >>> ((8 : Int32) &&& 31)).toInt8.toInt32))] (.int (0 : Int32))) := by
  obtain ⟨hw, hEL, ⟨zc, Scs, hzc⟩, ⟨fm, Sfm, hfm⟩, Sad, Shi, Slo⟩ := id cx
  have hSA := own_SA hw
  refine Met.of_walk (a0 := a0) #[vr a, vi (0 : Int32), vi (4 : Int32), un, un, un] (plainFor_of_name own_pn15) X00 hEL (fun m => by first | (simp [entryFrame, mkF, argsToLocals, Value.category]; done) | rfl) ?_
  intro p e s m below meth c vm hx hby hml hret hnm hC0 hW0
  have lt_a : h0.size > a := P0.lt
  refine uIN 1 hx hby d113 rfl rfl ?_
  refine gnewPE hx (ow hw 29 rfl) (n := (4 : Int32)) (by decide) (cap := 4) (by decide) (by decide) (ad := "[B") (by decide) 3 (hb hby d114) rfl (by decide) (by decide) ?_
  intro b1 h1 k1 g1 E1 C1 V1 A1 n1 L1
  have z1 := C1.2.1
  have V1 : Arv Z h1 b1 k1 .byte (4 : Int32) [(.int (0 : Int32)), (.int (0 : Int32)), (.int (0 : Int32)), (.int (0 : Int32))] (.int (0 : Int32)) := V1.pad (pad_rep [] (.int (0 : Int32)) 4)
  have lt_b1 : h1.size > b1 := V1.lt
  refine uSAN 4 #[vr a, vi (0 : Int32), vi (4 : Int32), vr b1, un, un] hx hby d115 rfl rfl rfl ?_
  refine uAN 5 hx hby d116 rfl rfl rfl ?_
  refine uIN 6 hx hby d117 rfl rfl ?_
  refine uAN 7 hx hby d118 rfl rfl rfl ?_
  refine uKc 8 (0 : Int32) hx hby d119 rfl rfl ?_
  refine uIN 9 hx hby d120 rfl rfl ?_
  have f3 := (P0.ext E1)
  refine ginfo fun _ _ O2 => ?_
  refine gcallS (y := mn14) hx (ow hw 75 rfl) (ow hw 76 rfl) (ow hw 73 rfl) (ow hw 77 rfl) (by decide) (fun hZ H hEL => Pay.of_met (W := 0) (own_c5_4_2 l Z a0 cx [] (a) (b1) (kc) (k1) (c0) (c1) (c2) (c3) vm h1 O2 f3 V1 n1 L1 (Nat.ne_of_lt (by omega)) (by first | assumption | decide | omega) (by first | assumption | decide | omega) (by first | assumption | decide | omega)) (ow hw 77 rfl) (ow hw 73 rfl) (by decide) (by decide) hZ H hEL) 12 (argsL := [(.ref a), (.int (0 : Int32)), (.ref b1), (.int (0 : Int32)), (.int (4 : Int32))]) (rest := []) (lenOf own_pd122 rfl) rfl rfl (Nat.le_of_eq rfl) (by rw [hml]; rfl) (hb hby d121) rfl (by decide) (by decide) ?_
  rintro _ vm2 h2 C2 ⟨rfl, K2, q2_0⟩
  have z2 := C2.2.1
  refine gat1 ?_
  refine uSI 14 #[vr a, vi (0 : Int32), vi (4 : Int32), vr b1, vi (2 : Int32), un] hx hby d123 rfl rfl ?_
  refine uI 16 hx hby d124 rfl rfl ?_
  refine uIN 17 hx hby d125 rfl rfl ?_
  refine uNc 20 hx hby d126 rfl (feq (by decide)).1 ?_
  refine uAN 21 hx hby d127 rfl rfl rfl ?_
  refine uIN 22 hx hby d128 rfl rfl ?_
  refine uIN 23 hx hby d129 rfl rfl ?_
  have f5 := (f3.keep K2 (ninS (Nat.ne_of_lt (by omega)) nin0))
  refine ginfo fun _ _ O4 => ?_
  refine gcallS (y := mn112) hx (ow hw 78 rfl) (ow hw 79 rfl) (ow hw 73 rfl) (ow hw 80 rfl) (by decide) (fun hZ H hEL => Pay.of_met (W := 0) (own_tb4 l Z a0 cx [] (a) (kc) (c0) (c1) (c2) (c3) vm2 h2 O4 f5) (ow hw 80 rfl) (ow hw 73 rfl) (by decide) (by decide) hZ H hEL) 26 (argsL := [(.ref a), (.int (0 : Int32)), (.int (4 : Int32))]) (rest := []) (lenOf own_pd131 rfl) rfl rfl (Nat.le_of_eq rfl) (by rw [hml]; rfl) (hb hby d130) rfl (by decide) (by decide) ?_
  rintro _ vm4 h4 C4 ⟨r4, kb4, rfl, K4, q4_0, q4_1⟩
  have z4 := C4.2.1
  have lt_r4 : h4.size > r4 := q4_1.lt
  refine gat1 ?_
  refine uSA 28 #[vr a, vi (0 : Int32), vi (4 : Int32), vr b1, vi (2 : Int32), vr r4] hx hby d132 rfl rfl rfl ?_
  refine uA 30 hx hby d133 rfl rfl rfl ?_
  refine uI 32 hx hby d134 rfl rfl ?_
  refine ginfo fun _ _ O6 => ?_
  refine gcallS (y := mn90) hx (ow hw 94 rfl) (ow hw 95 rfl) (ow hw 73 rfl) (ow hw 96 rfl) (by decide) (fun hZ H hEL => Pay.of_met (W := 0) (own_gc4_2 l Z a0 cx [] (r4) (kb4) (((c2 >>> ((0 : Int32) &&& 31)).toInt8.toInt32)) (((c2 >>> ((8 : Int32) &&& 31)).toInt8.toInt32)) ((.int ((c0 >>> ((0 : Int32) &&& 31)).toInt8.toInt32))) ((.int ((c0 >>> ((8 : Int32) &&& 31)).toInt8.toInt32))) ((.int ((c1 >>> ((0 : Int32) &&& 31)).toInt8.toInt32))) ((.int ((c1 >>> ((8 : Int32) &&& 31)).toInt8.toInt32))) ((.int ((c3 >>> ((0 : Int32) &&& 31)).toInt8.toInt32))) ((.int ((c3 >>> ((8 : Int32) &&& 31)).toInt8.toInt32))) vm4 h4 O6 q4_1) (ow hw 96 rfl) (ow hw 73 rfl) (by decide) (by decide) hZ H hEL) 35 (argsL := [(.ref r4), (.int (2 : Int32))]) (rest := []) (lenOf own_pd136 rfl) rfl rfl (Nat.le_of_eq rfl) (by rw [hml]; rfl) (hb hby d135) rfl (by decide) (by decide) ?_
  rintro _ vm6 h6 C6 ⟨rfl, rfl⟩
  have z6 := C6.2.1
  refine gat1 ?_
  refine uKs 38 (255 : Int32) hx hby d137 rfl rfl ?_
  refine uYc 54 hx hby d138 (tlt (own_pair hB P3)).2.2.1 (by decide) (by decide) ?_
  refine uA 56 hx hby d139 rfl rfl rfl ?_
  exact gretA hx hret rfl rfl (hb hby d140) (by decide) (by decide) (fun vq Cq => ⟨r4, kb4, rfl, ((((Keep.refl h0 []).ext E1).trans K2 (allS (Or.inr (by omega)) all0)).trans K4 all0), (by omega), q4_1⟩)
theorem own_c3_4_3 (l : Launch) (Z : State) (a0 : Array Value) (cx : Ctx Z a0) (ws : List Jvm.Cond) (a : Addr) (kc : ClassId) (c0 : Int32) (c1 : Int32) (c2 : Int32) (c3 : Int32) (vm0 : Vm) (h0 : Heap) (X00 : Ext Z.heap h0) (P0 : Arv Z h0 a kc .char (4 : Int32) [(.int c0), (.int c1), (.int c2), (.int c3)] (.int (0 : Int32))) (P1 : (¬ (255 : Int32) < c0)) (P2 : (¬ (255 : Int32) < c1)) (P3 : (¬ (255 : Int32) < c2)) (P4 : ((255 : Int32) < c3)) (hB : (¬ c3 < 0 ∧ ¬ (65535 : Int32) < c3)) :
    Met l mn141 y13_ 6 (some (.array .byte)) ws ({ frames := 3, cells := 2, slots := 12, locals := 40 } : Room) Z consts_1 vm0 h0 #[(.ref a), (.int (0 : Int32)), (.int (4 : Int32))] (fun rv vm h => ∃ (r : Addr), ∃ (kb : ClassId), rv = some (.ref r) ∧ Keep h0 h [] ∧ h0.size ≤ r ∧ Arv Z h r kb .byte (8 : Int32) [(.int ((c0 >>> ((0 : Int32) &&& 31)).toInt8.toInt32)), (.int ((c0 >>> ((8 : Int32) &&& 31)).toInt8.toInt32)), (.int ((c1 >>> ((0 : Int32) &&& 31)).toInt8.toInt32)), (.int ((c1 >>> ((8 : Int32) &&& 31)).toInt8.toInt32)), (.int ((c2 >>> ((0 : Int32) &&& 31)).toInt8.toInt32)), (.int ((c2 >>> ((8 : Int32) &&& 31)).toInt8.toInt32)), (.int ((c3 >>> ((0 : Int32) &&& 31)).toInt8.toInt32)), (.int ((c3 >>> ((8 : Int32) &&& 31)).toInt8.toInt32))] (.int (0 : Int32))) := by
  obtain ⟨hw, hEL, ⟨zc, Scs, hzc⟩, ⟨fm, Sfm, hfm⟩, Sad, Shi, Slo⟩ := id cx
  have hSA := own_SA hw
  refine Met.of_walk (a0 := a0) #[vr a, vi (0 : Int32), vi (4 : Int32), un, un, un] (plainFor_of_name own_pn15) X00 hEL (fun m => by first | (simp [entryFrame, mkF, argsToLocals, Value.category]; done) | rfl) ?_
  intro p e s m below meth c vm hx hby hml hret hnm hC0 hW0
  have lt_a : h0.size > a := P0.lt
  refine uIN 1 hx hby d113 rfl rfl ?_
  refine gnewPE hx (ow hw 29 rfl) (n := (4 : Int32)) (by decide) (cap := 4) (by decide) (by decide) (ad := "[B") (by decide) 3 (hb hby d114) rfl (by decide) (by decide) ?_
  intro b1 h1 k1 g1 E1 C1 V1 A1 n1 L1
  have z1 := C1.2.1
  have V1 : Arv Z h1 b1 k1 .byte (4 : Int32) [(.int (0 : Int32)), (.int (0 : Int32)), (.int (0 : Int32)), (.int (0 : Int32))] (.int (0 : Int32)) := V1.pad (pad_rep [] (.int (0 : Int32)) 4)
  have lt_b1 : h1.size > b1 := V1.lt
  refine uSAN 4 #[vr a, vi (0 : Int32), vi (4 : Int32), vr b1, un, un] hx hby d115 rfl rfl rfl ?_
  refine uAN 5 hx hby d116 rfl rfl rfl ?_
  refine uIN 6 hx hby d117 rfl rfl ?_
  refine uAN 7 hx hby d118 rfl rfl rfl ?_
  refine uKc 8 (0 : Int32) hx hby d119 rfl rfl ?_
  refine uIN 9 hx hby d120 rfl rfl ?_
  have f3 := (P0.ext E1)
  refine ginfo fun _ _ O2 => ?_
  refine gcallS (y := mn14) hx (ow hw 75 rfl) (ow hw 76 rfl) (ow hw 73 rfl) (ow hw 77 rfl) (by decide) (fun hZ H hEL => Pay.of_met (W := 0) (own_c5_4_3 l Z a0 cx [] (a) (b1) (kc) (k1) (c0) (c1) (c2) (c3) vm h1 O2 f3 V1 n1 L1 (Nat.ne_of_lt (by omega)) (by first | assumption | decide | omega) (by first | assumption | decide | omega) (by first | assumption | decide | omega) (by first | assumption | decide | omega)) (ow hw 77 rfl) (ow hw 73 rfl) (by decide) (by decide) hZ H hEL) 12 (argsL := [(.ref a), (.int (0 : Int32)), (.ref b1), (.int (0 : Int32)), (.int (4 : Int32))]) (rest := []) (lenOf own_pd122 rfl) rfl rfl (Nat.le_of_eq rfl) (by rw [hml]; rfl) (hb hby d121) rfl (by decide) (by decide) ?_
  rintro _ vm2 h2 C2 ⟨rfl, K2, q2_0⟩
  have z2 := C2.2.1
  refine gat1 ?_
  refine uSI 14 #[vr a, vi (0 : Int32), vi (4 : Int32), vr b1, vi (3 : Int32), un] hx hby d123 rfl rfl ?_
  refine uI 16 hx hby d124 rfl rfl ?_
  refine uIN 17 hx hby d125 rfl rfl ?_
  refine uNc 20 hx hby d126 rfl (feq (by decide)).1 ?_
  refine uAN 21 hx hby d127 rfl rfl rfl ?_
  refine uIN 22 hx hby d128 rfl rfl ?_
  refine uIN 23 hx hby d129 rfl rfl ?_
  have f5 := (f3.keep K2 (ninS (Nat.ne_of_lt (by omega)) nin0))
  refine ginfo fun _ _ O4 => ?_
  refine gcallS (y := mn112) hx (ow hw 78 rfl) (ow hw 79 rfl) (ow hw 73 rfl) (ow hw 80 rfl) (by decide) (fun hZ H hEL => Pay.of_met (W := 0) (own_tb4 l Z a0 cx [] (a) (kc) (c0) (c1) (c2) (c3) vm2 h2 O4 f5) (ow hw 80 rfl) (ow hw 73 rfl) (by decide) (by decide) hZ H hEL) 26 (argsL := [(.ref a), (.int (0 : Int32)), (.int (4 : Int32))]) (rest := []) (lenOf own_pd131 rfl) rfl rfl (Nat.le_of_eq rfl) (by rw [hml]; rfl) (hb hby d130) rfl (by decide) (by decide) ?_
  rintro _ vm4 h4 C4 ⟨r4, kb4, rfl, K4, q4_0, q4_1⟩
  have z4 := C4.2.1
  have lt_r4 : h4.size > r4 := q4_1.lt
  refine gat1 ?_
  refine uSA 28 #[vr a, vi (0 : Int32), vi (4 : Int32), vr b1, vi (3 : Int32), vr r4] hx hby d132 rfl rfl rfl ?_
  refine uA 30 hx hby d133 rfl rfl rfl ?_
  refine uI 32 hx hby d134 rfl rfl ?_
  refine ginfo fun _ _ O6 => ?_
  refine gcallS (y := mn90) hx (ow hw 94 rfl) (ow hw 95 rfl) (ow hw 73 rfl) (ow hw 96 rfl) (by decide) (fun hZ H hEL => Pay.of_met (W := 0) (own_gc4_3 l Z a0 cx [] (r4) (kb4) (((c3 >>> ((0 : Int32) &&& 31)).toInt8.toInt32)) (((c3 >>> ((8 : Int32) &&& 31)).toInt8.toInt32)) ((.int ((c0 >>> ((0 : Int32) &&& 31)).toInt8.toInt32))) ((.int ((c0 >>> ((8 : Int32) &&& 31)).toInt8.toInt32))) ((.int ((c1 >>> ((0 : Int32) &&& 31)).toInt8.toInt32))) ((.int ((c1 >>> ((8 : Int32) &&& 31)).toInt8.toInt32))) ((.int ((c2 >>> ((0 : Int32) &&& 31)).toInt8.toInt32))) ((.int ((c2 >>> ((8 : Int32) &&& 31)).toInt8.toInt32))) vm4 h4 O6 q4_1) (ow hw 96 rfl) (ow hw 73 rfl) (by decide) (by decide) hZ H hEL) 35 (argsL := [(.ref r4), (.int (3 : Int32))]) (rest := []) (lenOf own_pd136 rfl) rfl rfl (Nat.le_of_eq rfl) (by rw [hml]; rfl) (hb hby d135) rfl (by decide) (by decide) ?_
  rintro _ vm6 h6 C6 ⟨rfl, rfl⟩
  have z6 := C6.2.1
  refine gat1 ?_
  refine uKs 38 (255 : Int32) hx hby d137 rfl rfl ?_
  refine uYc 54 hx hby d138 (tlt (own_pair hB P4)).2.2.1 (by decide) (by decide) ?_
  refine uA 56 hx hby d139 rfl rfl rfl ?_
  exact gretA hx hret rfl rfl (hb hby d140) (by decide) (by decide) (fun vq Cq => ⟨r4, kb4, rfl, ((((Keep.refl h0 []).ext E1).trans K2 (allS (Or.inr (by omega)) all0)).trans K4 all0), (by omega), q4_1⟩)
theorem own_c3_4_4 (l : Launch) (Z : State) (a0 : Array Value) (cx : Ctx Z a0) (ws : List Jvm.Cond) (a : Addr) (kc : ClassId) (c0 : Int32) (c1 : Int32) (c2 : Int32) (c3 : Int32) (vm0 : Vm) (h0 : Heap) (X00 : Ext Z.heap h0) (P0 : Arv Z h0 a kc .char (4 : Int32) [(.int c0), (.int c1), (.int c2), (.int c3)] (.int (0 : Int32))) (P1 : (¬ (255 : Int32) < c0)) (P2 : (¬ (255 : Int32) < c1)) (P3 : (¬ (255 : Int32) < c2)) (P4 : (¬ (255 : Int32) < c3)) :
    Met l mn141 y13_ 6 (some (.array .byte)) ws ({ frames := 1, cells := 1, slots := 4, locals := 18 } : Room) Z consts_1 vm0 h0 #[(.ref a), (.int (0 : Int32)), (.int (4 : Int32))] (fun rv vm h => ∃ (r : Addr), ∃ (kb : ClassId), rv = some (.ref r) ∧ Keep h0 h [] ∧ h0.size ≤ r ∧ Arv Z h r kb .byte (4 : Int32) [(.int (c0.toInt8.toInt32)), (.int (c1.toInt8.toInt32)), (.int (c2.toInt8.toInt32)), (.int (c3.toInt8.toInt32))] (.int (0 : Int32))) := by
  obtain ⟨hw, hEL, ⟨zc, Scs, hzc⟩, ⟨fm, Sfm, hfm⟩, Sad, Shi, Slo⟩ := id cx
  have hSA := own_SA hw
  refine Met.of_walk (a0 := a0) #[vr a, vi (0 : Int32), vi (4 : Int32), un, un, un] (plainFor_of_name own_pn15) X00 hEL (fun m => by first | (simp [entryFrame, mkF, argsToLocals, Value.category]; done) | rfl) ?_
  intro p e s m below meth c vm hx hby hml hret hnm hC0 hW0
  have lt_a : h0.size > a := P0.lt
  refine uIN 1 hx hby d113 rfl rfl ?_
  refine gnewPE hx (ow hw 29 rfl) (n := (4 : Int32)) (by decide) (cap := 4) (by decide) (by decide) (ad := "[B") (by decide) 3 (hb hby d114) rfl (by decide) (by decide) ?_
  intro b1 h1 k1 g1 E1 C1 V1 A1 n1 L1
  have z1 := C1.2.1
  have V1 : Arv Z h1 b1 k1 .byte (4 : Int32) [(.int (0 : Int32)), (.int (0 : Int32)), (.int (0 : Int32)), (.int (0 : Int32))] (.int (0 : Int32)) := V1.pad (pad_rep [] (.int (0 : Int32)) 4)
  have lt_b1 : h1.size > b1 := V1.lt
  refine uSAN 4 #[vr a, vi (0 : Int32), vi (4 : Int32), vr b1, un, un] hx hby d115 rfl rfl rfl ?_
  refine uAN 5 hx hby d116 rfl rfl rfl ?_
  refine uIN 6 hx hby d117 rfl rfl ?_
  refine uAN 7 hx hby d118 rfl rfl rfl ?_
  refine uKc 8 (0 : Int32) hx hby d119 rfl rfl ?_
  refine uIN 9 hx hby d120 rfl rfl ?_
  have f3 := (P0.ext E1)
  refine ginfo fun _ _ O2 => ?_
  refine gcallS (y := mn14) hx (ow hw 75 rfl) (ow hw 76 rfl) (ow hw 73 rfl) (ow hw 77 rfl) (by decide) (fun hZ H hEL => Pay.of_met (W := 0) (own_c5_4_4 l Z a0 cx [] (a) (b1) (kc) (k1) (c0) (c1) (c2) (c3) vm h1 O2 f3 V1 n1 L1 (Nat.ne_of_lt (by omega)) (by first | assumption | decide | omega) (by first | assumption | decide | omega) (by first | assumption | decide | omega) (by first | assumption | decide | omega)) (ow hw 77 rfl) (ow hw 73 rfl) (by decide) (by decide) hZ H hEL) 12 (argsL := [(.ref a), (.int (0 : Int32)), (.ref b1), (.int (0 : Int32)), (.int (4 : Int32))]) (rest := []) (lenOf own_pd122 rfl) rfl rfl (Nat.le_of_eq rfl) (by rw [hml]; rfl) (hb hby d121) rfl (by decide) (by decide) ?_
  rintro _ vm2 h2 C2 ⟨rfl, K2, q2_0⟩
  have z2 := C2.2.1
  refine gat1 ?_
  refine uSI 14 #[vr a, vi (0 : Int32), vi (4 : Int32), vr b1, vi (4 : Int32), un] hx hby d123 rfl rfl ?_
  refine uI 16 hx hby d124 rfl rfl ?_
  refine uIN 17 hx hby d125 rfl rfl ?_
  refine uYc 57 hx hby d126 (teq (by decide)).1 (by decide) (by decide) ?_
  refine uAN 58 hx hby d142 rfl rfl rfl ?_
  exact gretA hx hret rfl rfl (hb hby d143) (by decide) (by decide) (fun vq Cq => ⟨b1, k1, rfl, (((Keep.refl h0 []).ext E1).trans K2 (allS (Or.inr (by omega)) all0)), (by omega), q2_0⟩)
theorem own_cod_4_0 (l : Launch) (Z : State) (a0 : Array Value) (cx : Ctx Z a0) (ws : List Jvm.Cond) (a : Addr) (ka : ClassId) (vs : List Value) (vm0 : Vm) (h0 : Heap) (X00 : Ext Z.heap h0) (P0 : Arv Z h0 a ka .byte (4 : Int32) vs (.int (0 : Int32))) :
    Met l mn152 y12_ 2 (some .byte) ws ({ frames := 0, cells := 0, slots := 0, locals := 0 } : Room) Z consts_1 vm0 h0 #[(.ref a), (.int (4 : Int32))] (fun rv vm h => rv = some (.int (0 : Int32)) ∧ h0 = h) := by
  obtain ⟨hw, hEL, ⟨zc, Scs, hzc⟩, ⟨fm, Sfm, hfm⟩, Sad, Shi, Slo⟩ := id cx
  have hSA := own_SA hw
  refine Met.of_walk (a0 := a0) #[vr a, vi (4 : Int32)] (plainFor_of_name own_pn15) X00 hEL (fun m => by first | (simp [entryFrame, mkF, argsToLocals, Value.category]; done) | rfl) ?_
  intro p e s m below meth c vm hx hby hml hret hnm hC0 hW0
  have lt_a : h0.size > a := P0.lt
  refine uIN 1 hx hby d144 rfl rfl ?_
  refine uAN 2 hx hby d145 rfl rfl rfl ?_
  refine glen hx P0 3 (hb hby d146) rfl ?_
  refine uisub 4 (0 : Int32) hx hby d147 rfl (by decide) ?_
  refine uKb 6 (31 : Int32) hx hby d148 rfl rfl ?_
  refine gs (mkF m 7 #[vr a, vi (4 : Int32)] [(.int (0 : Int32))]) (fun _ _ A kq => XS.iushr A hx rfl (hb hby d149) rfl kq) ?_
  refine gs (mkF m 8 #[vr a, vi (4 : Int32)] [(.int (0 : Int32))]) (fun _ _ A kq => XS.i2b A hx rfl (hb hby d150) rfl kq) ?_
  exact gretN (t := .byte) hx hret (by simp) (hb hby d151) (by decide) (by decide) (fun vq Cq => ⟨rfl, rfl⟩)
theorem own_cod_4_1 (l : Launch) (Z : State) (a0 : Array Value) (cx : Ctx Z a0) (ws : List Jvm.Cond) (a : Addr) (ka : ClassId) (vs : List Value) (vm0 : Vm) (h0 : Heap) (X00 : Ext Z.heap h0) (P0 : Arv Z h0 a ka .byte (8 : Int32) vs (.int (0 : Int32))) :
    Met l mn152 y12_ 2 (some .byte) ws ({ frames := 0, cells := 0, slots := 0, locals := 0 } : Room) Z consts_1 vm0 h0 #[(.ref a), (.int (4 : Int32))] (fun rv vm h => rv = some (.int (1 : Int32)) ∧ h0 = h) := by
  obtain ⟨hw, hEL, ⟨zc, Scs, hzc⟩, ⟨fm, Sfm, hfm⟩, Sad, Shi, Slo⟩ := id cx
  have hSA := own_SA hw
  refine Met.of_walk (a0 := a0) #[vr a, vi (4 : Int32)] (plainFor_of_name own_pn15) X00 hEL (fun m => by first | (simp [entryFrame, mkF, argsToLocals, Value.category]; done) | rfl) ?_
  intro p e s m below meth c vm hx hby hml hret hnm hC0 hW0
  have lt_a : h0.size > a := P0.lt
  refine uIN 1 hx hby d144 rfl rfl ?_
  refine uAN 2 hx hby d145 rfl rfl rfl ?_
  refine glen hx P0 3 (hb hby d146) rfl ?_
  refine uisub 4 (-4 : Int32) hx hby d147 rfl (by decide) ?_
  refine uKb 6 (31 : Int32) hx hby d148 rfl rfl ?_
  refine gs (mkF m 7 #[vr a, vi (4 : Int32)] [(.int (1 : Int32))]) (fun _ _ A kq => XS.iushr A hx rfl (hb hby d149) rfl kq) ?_
  refine gs (mkF m 8 #[vr a, vi (4 : Int32)] [(.int (1 : Int32))]) (fun _ _ A kq => XS.i2b A hx rfl (hb hby d150) rfl kq) ?_
  exact gretN (t := .byte) hx hret (by simp) (hb hby d151) (by decide) (by decide) (fun vq Cq => ⟨rfl, rfl⟩)
theorem own_i4_4_0 (l : Launch) (Z : State) (a0 : Array Value) (cx : Ctx Z a0) (ws : List Jvm.Cond) (x : Addr) (a : Addr) (v0 : Value) (c0v : Value) (kc : ClassId) (c0 : Int32) (c1 : Int32) (c2 : Int32) (c3 : Int32) (vm0 : Vm) (h0 : Heap) (X00 : Ext Z.heap h0) (P0 : Exa Z h0 x c0_) (P1 : Fld Z h0 x c0_ "value" "[B" v0) (P2 : Fld Z h0 x c0_ "coder" "B" c0v) (P3 : Z.heap.size ≤ x) (P4 : Safe Z consts_1 vm0 h0 x) (P5 : Arv Z h0 a kc .char (4 : Int32) [(.int c0), (.int c1), (.int c2), (.int c3)] (.int (0 : Int32))) (P6 : ((255 : Int32) < c0)) (h16 : (∀ c ∈ [c0, c1, c2, c3], ¬ c < 0 ∧ ¬ (65535 : Int32) < c)) :
    Met l mn174 y3_ 6 none ws ({ frames := 4, cells := 2, slots := 12, locals := 57 } : Room) Z consts_1 vm0 h0 #[(.ref x), (.ref a), (.int (0 : Int32)), (.int (4 : Int32)), .null] (fun rv vm h => ∃ (t : Addr), rv = none ∧ Keep h0 h [x] ∧ Txt Z h x t [c0, c1, c2, c3]) := by
  obtain ⟨hw, hEL, ⟨zc, Scs, hzc⟩, ⟨fm, Sfm, hfm⟩, Sad, Shi, Slo⟩ := id cx
  have hSA := own_SA hw
  refine Met.of_walk (a0 := a0) #[vr x, vr a, vi (0 : Int32), vi (4 : Int32), .val .null, un] (plainFor_of_name own_pn175) X00 hEL (fun m => by first | (simp [entryFrame, mkF, argsToLocals, Value.category]; done) | rfl) ?_
  intro p e s m below meth c vm hx hby hml hret hnm hC0 hW0
  have lt_x : h0.size > x := P0.lt
  have L4 := hC0.safe lt_x P4
  have lt_a : h0.size > a := P5.lt
  refine uAN 1 hx hby d153 rfl rfl rfl ?_
  refine ginitO hx (ow hw 25 rfl) (ow hw 26 rfl) (ow hw 27 rfl) 4 (W := 0) (Nat.le_of_eq rfl) (by rw [hml]; rfl) (hb hby d154) rfl (by decide) (by decide) ?_
  refine uIN 5 hx hby d155 rfl rfl ?_
  refine uY 27 hx hby d156 ((if0 _ _).trans (feq (by decide)).2) (by decide) (by decide) ?_
  refine ggetS (host := "") hx (Or.inl (ow hw 50 rfl)) Via.refl Scs 30 (hb hby d157) rfl ?_
  refine uN 33 hx hby d158 rfl ((if0 _ _).trans (feq hzc).1) ?_
  refine uAN 34 hx hby d159 rfl rfl rfl ?_
  refine uIN 35 hx hby d160 rfl rfl ?_
  refine uIN 36 hx hby d161 rfl rfl ?_
  refine ginfo fun _ _ O2 => ?_
  refine gcallS (y := mn141) hx (ow hw 71 rfl) (ow hw 72 rfl) (ow hw 73 rfl) (ow hw 74 rfl) (by decide) (fun hZ H hEL => Pay.of_met (W := 0) (own_c3_4_0 l Z a0 cx [] (a) (kc) (c0) (c1) (c2) (c3) vm h0 O2 P5 (by first | assumption | decide | omega) (h16 _ (List.mem_of_getElem? (i := 0) rfl))) (ow hw 74 rfl) (ow hw 73 rfl) (by decide) (by decide) hZ H hEL) 39 (argsL := [(.ref a), (.int (0 : Int32)), (.int (4 : Int32))]) (rest := []) (lenOf own_pd131 rfl) rfl rfl (Nat.le_of_eq rfl) (by rw [hml]; rfl) (hb hby d162) rfl (by decide) (by decide) ?_
  rintro _ vm2 h2 C2 ⟨r2, kb2, rfl, K2, q2_0, q2_1⟩
  have z2 := C2.2.1
  have lt_r2 : h2.size > r2 := q2_1.lt
  refine gat1 ?_
  refine uSA 41 #[vr x, vr a, vi (0 : Int32), vi (4 : Int32), .val .null, vr r2] hx hby d163 rfl rfl rfl ?_
  refine uAN 42 hx hby d164 rfl rfl rfl ?_
  refine uA 44 hx hby d165 rfl rfl rfl ?_
  refine uIN 45 hx hby d166 rfl rfl ?_
  refine ginfo fun _ _ O3 => ?_
  refine gcallS (y := mn152) hx (ow hw 97 rfl) (ow hw 98 rfl) (ow hw 73 rfl) (ow hw 99 rfl) (by decide) (fun hZ H hEL => Pay.of_met (W := 1) (own_cod_4_1 l Z a0 cx [] (r2) (kb2) ([(.int ((c0 >>> ((0 : Int32) &&& 31)).toInt8.toInt32)), (.int ((c0 >>> ((8 : Int32) &&& 31)).toInt8.toInt32)), (.int ((c1 >>> ((0 : Int32) &&& 31)).toInt8.toInt32)), (.int ((c1 >>> ((8 : Int32) &&& 31)).toInt8.toInt32)), (.int ((c2 >>> ((0 : Int32) &&& 31)).toInt8.toInt32)), (.int ((c2 >>> ((8 : Int32) &&& 31)).toInt8.toInt32)), (.int ((c3 >>> ((0 : Int32) &&& 31)).toInt8.toInt32)), (.int ((c3 >>> ((8 : Int32) &&& 31)).toInt8.toInt32))]) vm2 h2 O3 q2_1) (ow hw 99 rfl) (ow hw 73 rfl) (by decide) (by decide) hZ H hEL) 48 (argsL := [(.ref r2), (.int (4 : Int32))]) (rest := [(.ref x)]) (lenOf own_pd168 rfl) rfl rfl (Nat.le_of_eq rfl) (by rw [hml]; rfl) (hb hby d167) rfl (by decide) (by decide) ?_
  rintro _ vm3 h3 C3 ⟨rfl, rfl⟩
  have z3 := C3.2.1
  refine gat1 ?_
  have f4 := (P2.keep K2 nin0)
  have f5 := (P0.keep K2)
  have f6 := (C3.safe (show h2.size > x by omega) (C2.safe (show h0.size > x by omega) L4))
  refine gputF (host := "") hx (Or.inl (ow hw 35 rfl)) Via.refl f4 f5 (Or.inr ⟨(ow hw 31 rfl), rfl, hnm⟩) (ow hw 16 rfl) (ty := .byte) (by decide) rfl rfl P3 (fun _ => f6) 51 (hb hby d169) rfl ?_
  intro h7 W7 C7
  have z7 := C7.2.1
  have F7 := f4.same W7
  refine uAN 52 hx hby d170 rfl rfl rfl ?_
  refine uA 54 hx hby d171 rfl rfl rfl ?_
  have f8 := ((P1.keep K2 nin0).other W7 (Or.inr (slot_ne (Or.inr (ow hw 30 rfl)) (Or.inr (ow hw 31 rfl)) (by decide) (t := (.array .byte)) (t' := .byte) (by decide) (by decide))))
  have f9 := (f5.wr W7)
  have f10 := (C7.safe (show h2.size > x by omega) f6)
  refine gputF (host := "") hx (Or.inl (ow hw 34 rfl)) Via.refl f8 f9 (Or.inr ⟨(ow hw 30 rfl), rfl, hnm⟩) (ow hw 16 rfl) (ty := (.array .byte)) (by decide) rfl rfl P3 (fun _ => f10) 57 (hb hby d172) rfl ?_
  intro h11 W11 C11
  have z11 := C11.2.1
  have F11 := f8.same W11
  have f12 := (f9.wr W11)
  have f13 := (F7.other W11 (Or.inr (slot_ne (Or.inr (ow hw 31 rfl)) (Or.inr (ow hw 30 rfl)) (by decide) (t := .byte) (t' := (.array .byte)) (by decide) (by decide))))
  have f14 := ((q2_1.other W7 (Nat.ne_of_gt (by omega))).other W11 (Nat.ne_of_gt (by omega)))
  exact gretV hx hret (hb hby d173) (by decide) (by decide) (fun vq Cq => ⟨r2, rfl, ((((Keep.refl h0 [x]).trans K2 all0).wr W7 (Or.inl (List.mem_of_getElem? (i := 0) rfl))).wr W11 (Or.inl (List.mem_of_getElem? (i := 0) rfl))), ⟨f12, F11, Nat.le_of_ble_eq_true rfl, h16, Or.inr ⟨f13, _, f14⟩⟩⟩)
theorem own_i4_4_1 (l : Launch) (Z : State) (a0 : Array Value) (cx : Ctx Z a0) (ws : List Jvm.Cond) (x : Addr) (a : Addr) (v0 : Value) (c0v : Value) (kc : ClassId) (c0 : Int32) (c1 : Int32) (c2 : Int32) (c3 : Int32) (vm0 : Vm) (h0 : Heap) (X00 : Ext Z.heap h0) (P0 : Exa Z h0 x c0_) (P1 : Fld Z h0 x c0_ "value" "[B" v0) (P2 : Fld Z h0 x c0_ "coder" "B" c0v) (P3 : Z.heap.size ≤ x) (P4 : Safe Z consts_1 vm0 h0 x) (P5 : Arv Z h0 a kc .char (4 : Int32) [(.int c0), (.int c1), (.int c2), (.int c3)] (.int (0 : Int32))) (P6 : (¬ (255 : Int32) < c0)) (P7 : ((255 : Int32) < c1)) (h16 : (∀ c ∈ [c0, c1, c2, c3], ¬ c < 0 ∧ ¬ (65535 : Int32) < c)) :
    Met l mn174 y3_ 6 none ws ({ frames := 4, cells := 2, slots := 12, locals := 57 } : Room) Z consts_1 vm0 h0 #[(.ref x), (.ref a), (.int (0 : Int32)), (.int (4 : Int32)), .null] (fun rv vm h => ∃ (t : Addr), rv = none ∧ Keep h0 h [x] ∧ Txt Z h x t [c0, c1, c2, c3]) := by
  obtain ⟨hw, hEL, ⟨zc, Scs, hzc⟩, ⟨fm, Sfm, hfm⟩, Sad, Shi, Slo⟩ := id cx
  have hSA := own_SA hw
  refine Met.of_walk (a0 := a0) #[vr x, vr a, vi (0 : Int32), vi (4 : Int32), .val .null, un] (plainFor_of_name own_pn175) X00 hEL (fun m => by first | (simp [entryFrame, mkF, argsToLocals, Value.category]; done) | rfl) ?_
  intro p e s m below meth c vm hx hby hml hret hnm hC0 hW0
  have lt_x : h0.size > x := P0.lt
  have L4 := hC0.safe lt_x P4
  have lt_a : h0.size > a := P5.lt
  refine uAN 1 hx hby d153 rfl rfl rfl ?_
  refine ginitO hx (ow hw 25 rfl) (ow hw 26 rfl) (ow hw 27 rfl) 4 (W := 0) (Nat.le_of_eq rfl) (by rw [hml]; rfl) (hb hby d154) rfl (by decide) (by decide) ?_
  refine uIN 5 hx hby d155 rfl rfl ?_
  refine uY 27 hx hby d156 ((if0 _ _).trans (feq (by decide)).2) (by decide) (by decide) ?_
  refine ggetS (host := "") hx (Or.inl (ow hw 50 rfl)) Via.refl Scs 30 (hb hby d157) rfl ?_
  refine uN 33 hx hby d158 rfl ((if0 _ _).trans (feq hzc).1) ?_
  refine uAN 34 hx hby d159 rfl rfl rfl ?_
  refine uIN 35 hx hby d160 rfl rfl ?_
  refine uIN 36 hx hby d161 rfl rfl ?_
  refine ginfo fun _ _ O2 => ?_
  refine gcallS (y := mn141) hx (ow hw 71 rfl) (ow hw 72 rfl) (ow hw 73 rfl) (ow hw 74 rfl) (by decide) (fun hZ H hEL => Pay.of_met (W := 0) (own_c3_4_1 l Z a0 cx [] (a) (kc) (c0) (c1) (c2) (c3) vm h0 O2 P5 (by first | assumption | decide | omega) (by first | assumption | decide | omega) (h16 _ (List.mem_of_getElem? (i := 1) rfl))) (ow hw 74 rfl) (ow hw 73 rfl) (by decide) (by decide) hZ H hEL) 39 (argsL := [(.ref a), (.int (0 : Int32)), (.int (4 : Int32))]) (rest := []) (lenOf own_pd131 rfl) rfl rfl (Nat.le_of_eq rfl) (by rw [hml]; rfl) (hb hby d162) rfl (by decide) (by decide) ?_
  rintro _ vm2 h2 C2 ⟨r2, kb2, rfl, K2, q2_0, q2_1⟩
  have z2 := C2.2.1
  have lt_r2 : h2.size > r2 := q2_1.lt
  refine gat1 ?_
  refine uSA 41 #[vr x, vr a, vi (0 : Int32), vi (4 : Int32), .val .null, vr r2] hx hby d163 rfl rfl rfl ?_
  refine uAN 42 hx hby d164 rfl rfl rfl ?_
  refine uA 44 hx hby d165 rfl rfl rfl ?_
  refine uIN 45 hx hby d166 rfl rfl ?_
  refine ginfo fun _ _ O3 => ?_
  refine gcallS (y := mn152) hx (ow hw 97 rfl) (ow hw 98 rfl) (ow hw 73 rfl) (ow hw 99 rfl) (by decide) (fun hZ H hEL => Pay.of_met (W := 1) (own_cod_4_1 l Z a0 cx [] (r2) (kb2) ([(.int ((c0 >>> ((0 : Int32) &&& 31)).toInt8.toInt32)), (.int ((c0 >>> ((8 : Int32) &&& 31)).toInt8.toInt32)), (.int ((c1 >>> ((0 : Int32) &&& 31)).toInt8.toInt32)), (.int ((c1 >>> ((8 : Int32) &&& 31)).toInt8.toInt32)), (.int ((c2 >>> ((0 : Int32) &&& 31)).toInt8.toInt32)), (.int ((c2 >>> ((8 : Int32) &&& 31)).toInt8.toInt32)), (.int ((c3 >>> ((0 : Int32) &&& 31)).toInt8.toInt32)), (.int ((c3 >>> ((8 : Int32) &&& 31)).toInt8.toInt32))]) vm2 h2 O3 q2_1) (ow hw 99 rfl) (ow hw 73 rfl) (by decide) (by decide) hZ H hEL) 48 (argsL := [(.ref r2), (.int (4 : Int32))]) (rest := [(.ref x)]) (lenOf own_pd168 rfl) rfl rfl (Nat.le_of_eq rfl) (by rw [hml]; rfl) (hb hby d167) rfl (by decide) (by decide) ?_
  rintro _ vm3 h3 C3 ⟨rfl, rfl⟩
  have z3 := C3.2.1
  refine gat1 ?_
  have f4 := (P2.keep K2 nin0)
  have f5 := (P0.keep K2)
  have f6 := (C3.safe (show h2.size > x by omega) (C2.safe (show h0.size > x by omega) L4))
  refine gputF (host := "") hx (Or.inl (ow hw 35 rfl)) Via.refl f4 f5 (Or.inr ⟨(ow hw 31 rfl), rfl, hnm⟩) (ow hw 16 rfl) (ty := .byte) (by decide) rfl rfl P3 (fun _ => f6) 51 (hb hby d169) rfl ?_
  intro h7 W7 C7
  have z7 := C7.2.1
  have F7 := f4.same W7
  refine uAN 52 hx hby d170 rfl rfl rfl ?_
  refine uA 54 hx hby d171 rfl rfl rfl ?_
  have f8 := ((P1.keep K2 nin0).other W7 (Or.inr (slot_ne (Or.inr (ow hw 30 rfl)) (Or.inr (ow hw 31 rfl)) (by decide) (t := (.array .byte)) (t' := .byte) (by decide) (by decide))))
  have f9 := (f5.wr W7)
  have f10 := (C7.safe (show h2.size > x by omega) f6)
  refine gputF (host := "") hx (Or.inl (ow hw 34 rfl)) Via.refl f8 f9 (Or.inr ⟨(ow hw 30 rfl), rfl, hnm⟩) (ow hw 16 rfl) (ty := (.array .byte)) (by decide) rfl rfl P3 (fun _ => f10) 57 (hb hby d172) rfl ?_
  intro h11 W11 C11
  have z11 := C11.2.1
  have F11 := f8.same W11
  have f12 := (f9.wr W11)
  have f13 := (F7.other W11 (Or.inr (slot_ne (Or.inr (ow hw 31 rfl)) (Or.inr (ow hw 30 rfl)) (by decide) (t := .byte) (t' := (.array .byte)) (by decide) (by decide))))
  have f14 := ((q2_1.other W7 (Nat.ne_of_gt (by omega))).other W11 (Nat.ne_of_gt (by omega)))
  exact gretV hx hret (hb hby d173) (by decide) (by decide) (fun vq Cq => ⟨r2, rfl, ((((Keep.refl h0 [x]).trans K2 all0).wr W7 (Or.inl (List.mem_of_getElem? (i := 0) rfl))).wr W11 (Or.inl (List.mem_of_getElem? (i := 0) rfl))), ⟨f12, F11, Nat.le_of_ble_eq_true rfl, h16, Or.inr ⟨f13, _, f14⟩⟩⟩)
theorem own_i4_4_2 (l : Launch) (Z : State) (a0 : Array Value) (cx : Ctx Z a0) (ws : List Jvm.Cond) (x : Addr) (a : Addr) (v0 : Value) (c0v : Value) (kc : ClassId) (c0 : Int32) (c1 : Int32) (c2 : Int32) (c3 : Int32) (vm0 : Vm) (h0 : Heap) (X00 : Ext Z.heap h0) (P0 : Exa Z h0 x c0_) (P1 : Fld Z h0 x c0_ "value" "[B" v0) (P2 : Fld Z h0 x c0_ "coder" "B" c0v) (P3 : Z.heap.size ≤ x) (P4 : Safe Z consts_1 vm0 h0 x) (P5 : Arv Z h0 a kc .char (4 : Int32) [(.int c0), (.int c1), (.int c2), (.int c3)] (.int (0 : Int32))) (P6 : (¬ (255 : Int32) < c0)) (P7 : (¬ (255 : Int32) < c1)) (P8 : ((255 : Int32) < c2)) (h16 : (∀ c ∈ [c0, c1, c2, c3], ¬ c < 0 ∧ ¬ (65535 : Int32) < c)) :
    Met l mn174 y3_ 6 none ws ({ frames := 4, cells := 2, slots := 12, locals := 57 } : Room) Z consts_1 vm0 h0 #[(.ref x), (.ref a), (.int (0 : Int32)), (.int (4 : Int32)), .null] (fun rv vm h => ∃ (t : Addr), rv = none ∧ Keep h0 h [x] ∧ Txt Z h x t [c0, c1, c2, c3]) := by
  obtain ⟨hw, hEL, ⟨zc, Scs, hzc⟩, ⟨fm, Sfm, hfm⟩, Sad, Shi, Slo⟩ := id cx
  have hSA := own_SA hw
  refine Met.of_walk (a0 := a0) #[vr x, vr a, vi (0 : Int32), vi (4 : Int32), .val .null, un] (plainFor_of_name own_pn175) X00 hEL (fun m => by first | (simp [entryFrame, mkF, argsToLocals, Value.category]; done) | rfl) ?_
  intro p e s m below meth c vm hx hby hml hret hnm hC0 hW0
  have lt_x : h0.size > x := P0.lt
  have L4 := hC0.safe lt_x P4
  have lt_a : h0.size > a := P5.lt
  refine uAN 1 hx hby d153 rfl rfl rfl ?_
  refine ginitO hx (ow hw 25 rfl) (ow hw 26 rfl) (ow hw 27 rfl) 4 (W := 0) (Nat.le_of_eq rfl) (by rw [hml]; rfl) (hb hby d154) rfl (by decide) (by decide) ?_
  refine uIN 5 hx hby d155 rfl rfl ?_
  refine uY 27 hx hby d156 ((if0 _ _).trans (feq (by decide)).2) (by decide) (by decide) ?_
  refine ggetS (host := "") hx (Or.inl (ow hw 50 rfl)) Via.refl Scs 30 (hb hby d157) rfl ?_
  refine uN 33 hx hby d158 rfl ((if0 _ _).trans (feq hzc).1) ?_
  refine uAN 34 hx hby d159 rfl rfl rfl ?_
  refine uIN 35 hx hby d160 rfl rfl ?_
  refine uIN 36 hx hby d161 rfl rfl ?_
  refine ginfo fun _ _ O2 => ?_
  refine gcallS (y := mn141) hx (ow hw 71 rfl) (ow hw 72 rfl) (ow hw 73 rfl) (ow hw 74 rfl) (by decide) (fun hZ H hEL => Pay.of_met (W := 0) (own_c3_4_2 l Z a0 cx [] (a) (kc) (c0) (c1) (c2) (c3) vm h0 O2 P5 (by first | assumption | decide | omega) (by first | assumption | decide | omega) (by first | assumption | decide | omega) (h16 _ (List.mem_of_getElem? (i := 2) rfl))) (ow hw 74 rfl) (ow hw 73 rfl) (by decide) (by decide) hZ H hEL) 39 (argsL := [(.ref a), (.int (0 : Int32)), (.int (4 : Int32))]) (rest := []) (lenOf own_pd131 rfl) rfl rfl (Nat.le_of_eq rfl) (by rw [hml]; rfl) (hb hby d162) rfl (by decide) (by decide) ?_
  rintro _ vm2 h2 C2 ⟨r2, kb2, rfl, K2, q2_0, q2_1⟩
  have z2 := C2.2.1
  have lt_r2 : h2.size > r2 := q2_1.lt
  refine gat1 ?_
  refine uSA 41 #[vr x, vr a, vi (0 : Int32), vi (4 : Int32), .val .null, vr r2] hx hby d163 rfl rfl rfl ?_
  refine uAN 42 hx hby d164 rfl rfl rfl ?_
  refine uA 44 hx hby d165 rfl rfl rfl ?_
  refine uIN 45 hx hby d166 rfl rfl ?_
  refine ginfo fun _ _ O3 => ?_
  refine gcallS (y := mn152) hx (ow hw 97 rfl) (ow hw 98 rfl) (ow hw 73 rfl) (ow hw 99 rfl) (by decide) (fun hZ H hEL => Pay.of_met (W := 1) (own_cod_4_1 l Z a0 cx [] (r2) (kb2) ([(.int ((c0 >>> ((0 : Int32) &&& 31)).toInt8.toInt32)), (.int ((c0 >>> ((8 : Int32) &&& 31)).toInt8.toInt32)), (.int ((c1 >>> ((0 : Int32) &&& 31)).toInt8.toInt32)), (.int ((c1 >>> ((8 : Int32) &&& 31)).toInt8.toInt32)), (.int ((c2 >>> ((0 : Int32) &&& 31)).toInt8.toInt32)), (.int ((c2 >>> ((8 : Int32) &&& 31)).toInt8.toInt32)), (.int ((c3 >>> ((0 : Int32) &&& 31)).toInt8.toInt32)), (.int ((c3 >>> ((8 : Int32) &&& 31)).toInt8.toInt32))]) vm2 h2 O3 q2_1) (ow hw 99 rfl) (ow hw 73 rfl) (by decide) (by decide) hZ H hEL) 48 (argsL := [(.ref r2), (.int (4 : Int32))]) (rest := [(.ref x)]) (lenOf own_pd168 rfl) rfl rfl (Nat.le_of_eq rfl) (by rw [hml]; rfl) (hb hby d167) rfl (by decide) (by decide) ?_
  rintro _ vm3 h3 C3 ⟨rfl, rfl⟩
  have z3 := C3.2.1
  refine gat1 ?_
  have f4 := (P2.keep K2 nin0)
  have f5 := (P0.keep K2)
  have f6 := (C3.safe (show h2.size > x by omega) (C2.safe (show h0.size > x by omega) L4))
  refine gputF (host := "") hx (Or.inl (ow hw 35 rfl)) Via.refl f4 f5 (Or.inr ⟨(ow hw 31 rfl), rfl, hnm⟩) (ow hw 16 rfl) (ty := .byte) (by decide) rfl rfl P3 (fun _ => f6) 51 (hb hby d169) rfl ?_
  intro h7 W7 C7
  have z7 := C7.2.1
  have F7 := f4.same W7
  refine uAN 52 hx hby d170 rfl rfl rfl ?_
  refine uA 54 hx hby d171 rfl rfl rfl ?_
  have f8 := ((P1.keep K2 nin0).other W7 (Or.inr (slot_ne (Or.inr (ow hw 30 rfl)) (Or.inr (ow hw 31 rfl)) (by decide) (t := (.array .byte)) (t' := .byte) (by decide) (by decide))))
  have f9 := (f5.wr W7)
  have f10 := (C7.safe (show h2.size > x by omega) f6)
  refine gputF (host := "") hx (Or.inl (ow hw 34 rfl)) Via.refl f8 f9 (Or.inr ⟨(ow hw 30 rfl), rfl, hnm⟩) (ow hw 16 rfl) (ty := (.array .byte)) (by decide) rfl rfl P3 (fun _ => f10) 57 (hb hby d172) rfl ?_
  intro h11 W11 C11
  have z11 := C11.2.1
  have F11 := f8.same W11
  have f12 := (f9.wr W11)
  have f13 := (F7.other W11 (Or.inr (slot_ne (Or.inr (ow hw 31 rfl)) (Or.inr (ow hw 30 rfl)) (by decide) (t := .byte) (t' := (.array .byte)) (by decide) (by decide))))
  have f14 := ((q2_1.other W7 (Nat.ne_of_gt (by omega))).other W11 (Nat.ne_of_gt (by omega)))
  exact gretV hx hret (hb hby d173) (by decide) (by decide) (fun vq Cq => ⟨r2, rfl, ((((Keep.refl h0 [x]).trans K2 all0).wr W7 (Or.inl (List.mem_of_getElem? (i := 0) rfl))).wr W11 (Or.inl (List.mem_of_getElem? (i := 0) rfl))), ⟨f12, F11, Nat.le_of_ble_eq_true rfl, h16, Or.inr ⟨f13, _, f14⟩⟩⟩)
theorem own_i4_4_3 (l : Launch) (Z : State) (a0 : Array Value) (cx : Ctx Z a0) (ws : List Jvm.Cond) (x : Addr) (a : Addr) (v0 : Value) (c0v : Value) (kc : ClassId) (c0 : Int32) (c1 : Int32) (c2 : Int32) (c3 : Int32) (vm0 : Vm) (h0 : Heap) (X00 : Ext Z.heap h0) (P0 : Exa Z h0 x c0_) (P1 : Fld Z h0 x c0_ "value" "[B" v0) (P2 : Fld Z h0 x c0_ "coder" "B" c0v) (P3 : Z.heap.size ≤ x) (P4 : Safe Z consts_1 vm0 h0 x) (P5 : Arv Z h0 a kc .char (4 : Int32) [(.int c0), (.int c1), (.int c2), (.int c3)] (.int (0 : Int32))) (P6 : (¬ (255 : Int32) < c0)) (P7 : (¬ (255 : Int32) < c1)) (P8 : (¬ (255 : Int32) < c2)) (P9 : ((255 : Int32) < c3)) (h16 : (∀ c ∈ [c0, c1, c2, c3], ¬ c < 0 ∧ ¬ (65535 : Int32) < c)) :
    Met l mn174 y3_ 6 none ws ({ frames := 4, cells := 2, slots := 12, locals := 57 } : Room) Z consts_1 vm0 h0 #[(.ref x), (.ref a), (.int (0 : Int32)), (.int (4 : Int32)), .null] (fun rv vm h => ∃ (t : Addr), rv = none ∧ Keep h0 h [x] ∧ Txt Z h x t [c0, c1, c2, c3]) := by
  obtain ⟨hw, hEL, ⟨zc, Scs, hzc⟩, ⟨fm, Sfm, hfm⟩, Sad, Shi, Slo⟩ := id cx
  have hSA := own_SA hw
  refine Met.of_walk (a0 := a0) #[vr x, vr a, vi (0 : Int32), vi (4 : Int32), .val .null, un] (plainFor_of_name own_pn175) X00 hEL (fun m => by first | (simp [entryFrame, mkF, argsToLocals, Value.category]; done) | rfl) ?_
  intro p e s m below meth c vm hx hby hml hret hnm hC0 hW0
  have lt_x : h0.size > x := P0.lt
  have L4 := hC0.safe lt_x P4
  have lt_a : h0.size > a := P5.lt
  refine uAN 1 hx hby d153 rfl rfl rfl ?_
  refine ginitO hx (ow hw 25 rfl) (ow hw 26 rfl) (ow hw 27 rfl) 4 (W := 0) (Nat.le_of_eq rfl) (by rw [hml]; rfl) (hb hby d154) rfl (by decide) (by decide) ?_
  refine uIN 5 hx hby d155 rfl rfl ?_
  refine uY 27 hx hby d156 ((if0 _ _).trans (feq (by decide)).2) (by decide) (by decide) ?_
  refine ggetS (host := "") hx (Or.inl (ow hw 50 rfl)) Via.refl Scs 30 (hb hby d157) rfl ?_
  refine uN 33 hx hby d158 rfl ((if0 _ _).trans (feq hzc).1) ?_
  refine uAN 34 hx hby d159 rfl rfl rfl ?_
  refine uIN 35 hx hby d160 rfl rfl ?_
  refine uIN 36 hx hby d161 rfl rfl ?_
  refine ginfo fun _ _ O2 => ?_
  refine gcallS (y := mn141) hx (ow hw 71 rfl) (ow hw 72 rfl) (ow hw 73 rfl) (ow hw 74 rfl) (by decide) (fun hZ H hEL => Pay.of_met (W := 0) (own_c3_4_3 l Z a0 cx [] (a) (kc) (c0) (c1) (c2) (c3) vm h0 O2 P5 (by first | assumption | decide | omega) (by first | assumption | decide | omega) (by first | assumption | decide | omega) (by first | assumption | decide | omega) (h16 _ (List.mem_of_getElem? (i := 3) rfl))) (ow hw 74 rfl) (ow hw 73 rfl) (by decide) (by decide) hZ H hEL) 39 (argsL := [(.ref a), (.int (0 : Int32)), (.int (4 : Int32))]) (rest := []) (lenOf own_pd131 rfl) rfl rfl (Nat.le_of_eq rfl) (by rw [hml]; rfl) (hb hby d162) rfl (by decide) (by decide) ?_
  rintro _ vm2 h2 C2 ⟨r2, kb2, rfl, K2, q2_0, q2_1⟩
  have z2 := C2.2.1
  have lt_r2 : h2.size > r2 := q2_1.lt
  refine gat1 ?_
  refine uSA 41 #[vr x, vr a, vi (0 : Int32), vi (4 : Int32), .val .null, vr r2] hx hby d163 rfl rfl rfl ?_
  refine uAN 42 hx hby d164 rfl rfl rfl ?_
  refine uA 44 hx hby d165 rfl rfl rfl ?_
  refine uIN 45 hx hby d166 rfl rfl ?_
  refine ginfo fun _ _ O3 => ?_
  refine gcallS (y := mn152) hx (ow hw 97 rfl) (ow hw 98 rfl) (ow hw 73 rfl) (ow hw 99 rfl) (by decide) (fun hZ H hEL => Pay.of_met (W := 1) (own_cod_4_1 l Z a0 cx [] (r2) (kb2) ([(.int ((c0 >>> ((0 : Int32) &&& 31)).toInt8.toInt32)), (.int ((c0 >>> ((8 : Int32) &&& 31)).toInt8.toInt32)), (.int ((c1 >>> ((0 : Int32) &&& 31)).toInt8.toInt32)), (.int ((c1 >>> ((8 : Int32) &&& 31)).toInt8.toInt32)), (.int ((c2 >>> ((0 : Int32) &&& 31)).toInt8.toInt32)), (.int ((c2 >>> ((8 : Int32) &&& 31)).toInt8.toInt32)), (.int ((c3 >>> ((0 : Int32) &&& 31)).toInt8.toInt32)), (.int ((c3 >>> ((8 : Int32) &&& 31)).toInt8.toInt32))]) vm2 h2 O3 q2_1) (ow hw 99 rfl) (ow hw 73 rfl) (by decide) (by decide) hZ H hEL) 48 (argsL := [(.ref r2), (.int (4 : Int32))]) (rest := [(.ref x)]) (lenOf own_pd168 rfl) rfl rfl (Nat.le_of_eq rfl) (by rw [hml]; rfl) (hb hby d167) rfl (by decide) (by decide) ?_
  rintro _ vm3 h3 C3 ⟨rfl, rfl⟩
  have z3 := C3.2.1
  refine gat1 ?_
  have f4 := (P2.keep K2 nin0)
  have f5 := (P0.keep K2)
  have f6 := (C3.safe (show h2.size > x by omega) (C2.safe (show h0.size > x by omega) L4))
  refine gputF (host := "") hx (Or.inl (ow hw 35 rfl)) Via.refl f4 f5 (Or.inr ⟨(ow hw 31 rfl), rfl, hnm⟩) (ow hw 16 rfl) (ty := .byte) (by decide) rfl rfl P3 (fun _ => f6) 51 (hb hby d169) rfl ?_
  intro h7 W7 C7
  have z7 := C7.2.1
  have F7 := f4.same W7
  refine uAN 52 hx hby d170 rfl rfl rfl ?_
  refine uA 54 hx hby d171 rfl rfl rfl ?_
  have f8 := ((P1.keep K2 nin0).other W7 (Or.inr (slot_ne (Or.inr (ow hw 30 rfl)) (Or.inr (ow hw 31 rfl)) (by decide) (t := (.array .byte)) (t' := .byte) (by decide) (by decide))))
  have f9 := (f5.wr W7)
  have f10 := (C7.safe (show h2.size > x by omega) f6)
  refine gputF (host := "") hx (Or.inl (ow hw 34 rfl)) Via.refl f8 f9 (Or.inr ⟨(ow hw 30 rfl), rfl, hnm⟩) (ow hw 16 rfl) (ty := (.array .byte)) (by decide) rfl rfl P3 (fun _ => f10) 57 (hb hby d172) rfl ?_
  intro h11 W11 C11
  have z11 := C11.2.1
  have F11 := f8.same W11
  have f12 := (f9.wr W11)
  have f13 := (F7.other W11 (Or.inr (slot_ne (Or.inr (ow hw 31 rfl)) (Or.inr (ow hw 30 rfl)) (by decide) (t := .byte) (t' := (.array .byte)) (by decide) (by decide))))
  have f14 := ((q2_1.other W7 (Nat.ne_of_gt (by omega))).other W11 (Nat.ne_of_gt (by omega)))
  exact gretV hx hret (hb hby d173) (by decide) (by decide) (fun vq Cq => ⟨r2, rfl, ((((Keep.refl h0 [x]).trans K2 all0).wr W7 (Or.inl (List.mem_of_getElem? (i := 0) rfl))).wr W11 (Or.inl (List.mem_of_getElem? (i := 0) rfl))), ⟨f12, F11, Nat.le_of_ble_eq_true rfl, h16, Or.inr ⟨f13, _, f14⟩⟩⟩)
theorem own_i4_4_4 (l : Launch) (Z : State) (a0 : Array Value) (cx : Ctx Z a0) (ws : List Jvm.Cond) (x : Addr) (a : Addr) (v0 : Value) (c0v : Value) (kc : ClassId) (c0 : Int32) (c1 : Int32) (c2 : Int32) (c3 : Int32) (vm0 : Vm) (h0 : Heap) (X00 : Ext Z.heap h0) (P0 : Exa Z h0 x c0_) (P1 : Fld Z h0 x c0_ "value" "[B" v0) (P2 : Fld Z h0 x c0_ "coder" "B" c0v) (P3 : Z.heap.size ≤ x) (P4 : Safe Z consts_1 vm0 h0 x) (P5 : Arv Z h0 a kc .char (4 : Int32) [(.int c0), (.int c1), (.int c2), (.int c3)] (.int (0 : Int32))) (P6 : (¬ (255 : Int32) < c0)) (P7 : (¬ (255 : Int32) < c1)) (P8 : (¬ (255 : Int32) < c2)) (P9 : (¬ (255 : Int32) < c3)) (h16 : (∀ c ∈ [c0, c1, c2, c3], ¬ c < 0 ∧ ¬ (65535 : Int32) < c)) :
    Met l mn174 y3_ 6 none ws ({ frames := 2, cells := 1, slots := 4, locals := 35 } : Room) Z consts_1 vm0 h0 #[(.ref x), (.ref a), (.int (0 : Int32)), (.int (4 : Int32)), .null] (fun rv vm h => ∃ (t : Addr), rv = none ∧ Keep h0 h [x] ∧ Txt Z h x t [c0, c1, c2, c3]) := by
  obtain ⟨hw, hEL, ⟨zc, Scs, hzc⟩, ⟨fm, Sfm, hfm⟩, Sad, Shi, Slo⟩ := id cx
  have hSA := own_SA hw
  refine Met.of_walk (a0 := a0) #[vr x, vr a, vi (0 : Int32), vi (4 : Int32), .val .null, un] (plainFor_of_name own_pn175) X00 hEL (fun m => by first | (simp [entryFrame, mkF, argsToLocals, Value.category]; done) | rfl) ?_
  intro p e s m below meth c vm hx hby hml hret hnm hC0 hW0
  have lt_x : h0.size > x := P0.lt
  have L4 := hC0.safe lt_x P4
  have lt_a : h0.size > a := P5.lt
  refine uAN 1 hx hby d153 rfl rfl rfl ?_
  refine ginitO hx (ow hw 25 rfl) (ow hw 26 rfl) (ow hw 27 rfl) 4 (W := 0) (Nat.le_of_eq rfl) (by rw [hml]; rfl) (hb hby d154) rfl (by decide) (by decide) ?_
  refine uIN 5 hx hby d155 rfl rfl ?_
  refine uY 27 hx hby d156 ((if0 _ _).trans (feq (by decide)).2) (by decide) (by decide) ?_
  refine ggetS (host := "") hx (Or.inl (ow hw 50 rfl)) Via.refl Scs 30 (hb hby d157) rfl ?_
  refine uN 33 hx hby d158 rfl ((if0 _ _).trans (feq hzc).1) ?_
  refine uAN 34 hx hby d159 rfl rfl rfl ?_
  refine uIN 35 hx hby d160 rfl rfl ?_
  refine uIN 36 hx hby d161 rfl rfl ?_
  refine ginfo fun _ _ O2 => ?_
  refine gcallS (y := mn141) hx (ow hw 71 rfl) (ow hw 72 rfl) (ow hw 73 rfl) (ow hw 74 rfl) (by decide) (fun hZ H hEL => Pay.of_met (W := 0) (own_c3_4_4 l Z a0 cx [] (a) (kc) (c0) (c1) (c2) (c3) vm h0 O2 P5 (by first | assumption | decide | omega) (by first | assumption | decide | omega) (by first | assumption | decide | omega) (by first | assumption | decide | omega)) (ow hw 74 rfl) (ow hw 73 rfl) (by decide) (by decide) hZ H hEL) 39 (argsL := [(.ref a), (.int (0 : Int32)), (.int (4 : Int32))]) (rest := []) (lenOf own_pd131 rfl) rfl rfl (Nat.le_of_eq rfl) (by rw [hml]; rfl) (hb hby d162) rfl (by decide) (by decide) ?_
  rintro _ vm2 h2 C2 ⟨r2, kb2, rfl, K2, q2_0, q2_1⟩
  have z2 := C2.2.1
  have lt_r2 : h2.size > r2 := q2_1.lt
  refine gat1 ?_
  refine uSA 41 #[vr x, vr a, vi (0 : Int32), vi (4 : Int32), .val .null, vr r2] hx hby d163 rfl rfl rfl ?_
  refine uAN 42 hx hby d164 rfl rfl rfl ?_
  refine uA 44 hx hby d165 rfl rfl rfl ?_
  refine uIN 45 hx hby d166 rfl rfl ?_
  refine ginfo fun _ _ O3 => ?_
  refine gcallS (y := mn152) hx (ow hw 97 rfl) (ow hw 98 rfl) (ow hw 73 rfl) (ow hw 99 rfl) (by decide) (fun hZ H hEL => Pay.of_met (W := 1) (own_cod_4_0 l Z a0 cx [] (r2) (kb2) ([(.int (c0.toInt8.toInt32)), (.int (c1.toInt8.toInt32)), (.int (c2.toInt8.toInt32)), (.int (c3.toInt8.toInt32))]) vm2 h2 O3 q2_1) (ow hw 99 rfl) (ow hw 73 rfl) (by decide) (by decide) hZ H hEL) 48 (argsL := [(.ref r2), (.int (4 : Int32))]) (rest := [(.ref x)]) (lenOf own_pd168 rfl) rfl rfl (Nat.le_of_eq rfl) (by rw [hml]; rfl) (hb hby d167) rfl (by decide) (by decide) ?_
  rintro _ vm3 h3 C3 ⟨rfl, rfl⟩
  have z3 := C3.2.1
  refine gat1 ?_
  have f4 := (P2.keep K2 nin0)
  have f5 := (P0.keep K2)
  have f6 := (C3.safe (show h2.size > x by omega) (C2.safe (show h0.size > x by omega) L4))
  refine gputF (host := "") hx (Or.inl (ow hw 35 rfl)) Via.refl f4 f5 (Or.inr ⟨(ow hw 31 rfl), rfl, hnm⟩) (ow hw 16 rfl) (ty := .byte) (by decide) rfl rfl P3 (fun _ => f6) 51 (hb hby d169) rfl ?_
  intro h7 W7 C7
  have z7 := C7.2.1
  have F7 := f4.same W7
  refine uAN 52 hx hby d170 rfl rfl rfl ?_
  refine uA 54 hx hby d171 rfl rfl rfl ?_
  have f8 := ((P1.keep K2 nin0).other W7 (Or.inr (slot_ne (Or.inr (ow hw 30 rfl)) (Or.inr (ow hw 31 rfl)) (by decide) (t := (.array .byte)) (t' := .byte) (by decide) (by decide))))
  have f9 := (f5.wr W7)
  have f10 := (C7.safe (show h2.size > x by omega) f6)
  refine gputF (host := "") hx (Or.inl (ow hw 34 rfl)) Via.refl f8 f9 (Or.inr ⟨(ow hw 30 rfl), rfl, hnm⟩) (ow hw 16 rfl) (ty := (.array .byte)) (by decide) rfl rfl P3 (fun _ => f10) 57 (hb hby d172) rfl ?_
  intro h11 W11 C11
  have z11 := C11.2.1
  have F11 := f8.same W11
  have f12 := (f9.wr W11)
  have f13 := (F7.other W11 (Or.inr (slot_ne (Or.inr (ow hw 31 rfl)) (Or.inr (ow hw 30 rfl)) (by decide) (t := .byte) (t' := (.array .byte)) (by decide) (by decide))))
  have f14 := ((q2_1.other W7 (Nat.ne_of_gt (by omega))).other W11 (Nat.ne_of_gt (by omega)))
  exact gretV hx hret (hb hby d173) (by decide) (by decide) (fun vq Cq => ⟨r2, rfl, ((((Keep.refl h0 [x]).trans K2 all0).wr W7 (Or.inl (List.mem_of_getElem? (i := 0) rfl))).wr W11 (Or.inl (List.mem_of_getElem? (i := 0) rfl))), ⟨f12, F11, Nat.le_of_ble_eq_true rfl, h16, Or.inl ⟨f13, (bcons ⟨(h16 _ (List.mem_of_getElem? (i := 0) rfl)).1, P6⟩ (bcons ⟨(h16 _ (List.mem_of_getElem? (i := 1) rfl)).1, P7⟩ (bcons ⟨(h16 _ (List.mem_of_getElem? (i := 2) rfl)).1, P8⟩ (bcons ⟨(h16 _ (List.mem_of_getElem? (i := 3) rfl)).1, P9⟩ bnil)))), _, f14⟩⟩⟩)
theorem own_i1_4 (l : Launch) (Z : State) (a0 : Array Value) (cx : Ctx Z a0) (ws : List Jvm.Cond) (x : Addr) (a : Addr) (v0 : Value) (c0v : Value) (kc : ClassId) (c0 : Int32) (c1 : Int32) (c2 : Int32) (c3 : Int32) (vm0 : Vm) (h0 : Heap) (X00 : Ext Z.heap h0) (P0 : Exa Z h0 x c0_) (P1 : Fld Z h0 x c0_ "value" "[B" v0) (P2 : Fld Z h0 x c0_ "coder" "B" c0v) (P3 : Z.heap.size ≤ x) (P4 : Safe Z consts_1 vm0 h0 x) (P5 : Arv Z h0 a kc .char (4 : Int32) [(.int c0), (.int c1), (.int c2), (.int c3)] (.int (0 : Int32))) (h16 : (∀ c ∈ [c0, c1, c2, c3], ¬ c < 0 ∧ ¬ (65535 : Int32) < c)) :
    Met l mn185 y7_ 2 none ws ({ frames := 5, cells := 2, slots := 12, locals := 74 } : Room) Z consts_1 vm0 h0 #[(.ref x), (.ref a)] (fun rv vm h => ∃ (t : Addr), rv = none ∧ Keep h0 h [x] ∧ Txt Z h x t [c0, c1, c2, c3]) := by
  obtain ⟨hw, hEL, ⟨zc, Scs, hzc⟩, ⟨fm, Sfm, hfm⟩, Sad, Shi, Slo⟩ := id cx
  have hSA := own_SA hw
  refine Met.of_walk (a0 := a0) #[vr x, vr a] (plainFor_of_name own_pn175) X00 hEL (fun m => by first | (simp [entryFrame, mkF, argsToLocals, Value.category]; done) | rfl) ?_
  intro p e s m below meth c vm hx hby hml hret hnm hC0 hW0
  have lt_x : h0.size > x := P0.lt
  have L4 := hC0.safe lt_x P4
  have lt_a : h0.size > a := P5.lt
  refine uAN 1 hx hby d176 rfl rfl rfl ?_
  refine uAN 2 hx hby d177 rfl rfl rfl ?_
  refine uKc 3 (0 : Int32) hx hby d178 rfl rfl ?_
  refine uAN 4 hx hby d179 rfl rfl rfl ?_
  refine glen hx P5 5 (hb hby d180) rfl ?_
  refine uU 6 hx hby d181 rfl ?_
  by_cases g0 : (255 : Int32) < c0
  · refine ginfo fun _ _ O1 => ?_
    refine gcallI (y := mn174) hx rfl (ow hw 21 rfl) (ow hw 22 rfl) (ow hw 24 rfl) (by decide) (fun hZ H hEL => Pay.of_met (W := 0) (own_i4_4_0 l Z a0 cx [] (x) (a) (v0) (c0v) (kc) (c0) (c1) (c2) (c3) vm h0 O1 P0 P1 P2 P3 L4 P5 (by first | assumption | decide | omega) h16) (ow hw 24 rfl) (ow hw 17 rfl) (by decide) (by decide) hZ H hEL) (a := x) 9 (argsL := [(.ref a), (.int (0 : Int32)), (.int (4 : Int32)), .null]) (rest := []) (lenOf own_pd183 rfl) rfl rfl (Nat.le_of_eq rfl) (by rw [hml]; rfl) (hb hby d182) rfl (by decide) (by decide) ?_
    rintro _ vm1 h1 C1 ⟨t1, rfl, K1, q1_0⟩
    have z1 := C1.2.1
    have lt_t1 : h1.size > t1 := q1_0.tlt
    refine gat0 ?_
    exact gretV hx hret (hb hby d184) (by decide) (by decide) (fun vq Cq => ⟨t1, rfl, ((Keep.refl h0 [x]).trans K1 (allS (Or.inl (List.mem_of_getElem? (i := 0) rfl)) all0)), q1_0⟩)
  · by_cases g1 : (255 : Int32) < c1
    · refine ginfo fun _ _ O3 => ?_
      refine gcallI (y := mn174) hx rfl (ow hw 21 rfl) (ow hw 22 rfl) (ow hw 24 rfl) (by decide) (fun hZ H hEL => Pay.of_met (W := 0) (own_i4_4_1 l Z a0 cx [] (x) (a) (v0) (c0v) (kc) (c0) (c1) (c2) (c3) vm h0 O3 P0 P1 P2 P3 L4 P5 (by first | assumption | decide | omega) (by first | assumption | decide | omega) h16) (ow hw 24 rfl) (ow hw 17 rfl) (by decide) (by decide) hZ H hEL) (a := x) 9 (argsL := [(.ref a), (.int (0 : Int32)), (.int (4 : Int32)), .null]) (rest := []) (lenOf own_pd183 rfl) rfl rfl (Nat.le_of_eq rfl) (by rw [hml]; rfl) (hb hby d182) rfl (by decide) (by decide) ?_
      rintro _ vm3 h3 C3 ⟨t3, rfl, K3, q3_0⟩
      have z3 := C3.2.1
      have lt_t3 : h3.size > t3 := q3_0.tlt
      refine gat0 ?_
      exact gretV hx hret (hb hby d184) (by decide) (by decide) (fun vq Cq => ⟨t3, rfl, ((Keep.refl h0 [x]).trans K3 (allS (Or.inl (List.mem_of_getElem? (i := 0) rfl)) all0)), q3_0⟩)
    · by_cases g2 : (255 : Int32) < c2
      · refine ginfo fun _ _ O5 => ?_
        refine gcallI (y := mn174) hx rfl (ow hw 21 rfl) (ow hw 22 rfl) (ow hw 24 rfl) (by decide) (fun hZ H hEL => Pay.of_met (W := 0) (own_i4_4_2 l Z a0 cx [] (x) (a) (v0) (c0v) (kc) (c0) (c1) (c2) (c3) vm h0 O5 P0 P1 P2 P3 L4 P5 (by first | assumption | decide | omega) (by first | assumption | decide | omega) (by first | assumption | decide | omega) h16) (ow hw 24 rfl) (ow hw 17 rfl) (by decide) (by decide) hZ H hEL) (a := x) 9 (argsL := [(.ref a), (.int (0 : Int32)), (.int (4 : Int32)), .null]) (rest := []) (lenOf own_pd183 rfl) rfl rfl (Nat.le_of_eq rfl) (by rw [hml]; rfl) (hb hby d182) rfl (by decide) (by decide) ?_
        rintro _ vm5 h5 C5 ⟨t5, rfl, K5, q5_0⟩
        have z5 := C5.2.1
        have lt_t5 : h5.size > t5 := q5_0.tlt
        refine gat0 ?_
        exact gretV hx hret (hb hby d184) (by decide) (by decide) (fun vq Cq => ⟨t5, rfl, ((Keep.refl h0 [x]).trans K5 (allS (Or.inl (List.mem_of_getElem? (i := 0) rfl)) all0)), q5_0⟩)
      · by_cases g3 : (255 : Int32) < c3
        · refine ginfo fun _ _ O7 => ?_
          refine gcallI (y := mn174) hx rfl (ow hw 21 rfl) (ow hw 22 rfl) (ow hw 24 rfl) (by decide) (fun hZ H hEL => Pay.of_met (W := 0) (own_i4_4_3 l Z a0 cx [] (x) (a) (v0) (c0v) (kc) (c0) (c1) (c2) (c3) vm h0 O7 P0 P1 P2 P3 L4 P5 (by first | assumption | decide | omega) (by first | assumption | decide | omega) (by first | assumption | decide | omega) (by first | assumption | decide | omega) h16) (ow hw 24 rfl) (ow hw 17 rfl) (by decide) (by decide) hZ H hEL) (a := x) 9 (argsL := [(.ref a), (.int (0 : Int32)), (.int (4 : Int32)), .null]) (rest := []) (lenOf own_pd183 rfl) rfl rfl (Nat.le_of_eq rfl) (by rw [hml]; rfl) (hb hby d182) rfl (by decide) (by decide) ?_
          rintro _ vm7 h7 C7 ⟨t7, rfl, K7, q7_0⟩
          have z7 := C7.2.1
          have lt_t7 : h7.size > t7 := q7_0.tlt
          refine gat0 ?_
          exact gretV hx hret (hb hby d184) (by decide) (by decide) (fun vq Cq => ⟨t7, rfl, ((Keep.refl h0 [x]).trans K7 (allS (Or.inl (List.mem_of_getElem? (i := 0) rfl)) all0)), q7_0⟩)
        · refine ginfo fun _ _ O9 => ?_
          refine gcallI (y := mn174) hx rfl (ow hw 21 rfl) (ow hw 22 rfl) (ow hw 24 rfl) (by decide) (fun hZ H hEL => Pay.of_met (W := 0) (own_i4_4_4 l Z a0 cx [] (x) (a) (v0) (c0v) (kc) (c0) (c1) (c2) (c3) vm h0 O9 P0 P1 P2 P3 L4 P5 (by first | assumption | decide | omega) (by first | assumption | decide | omega) (by first | assumption | decide | omega) (by first | assumption | decide | omega) h16) (ow hw 24 rfl) (ow hw 17 rfl) (by decide) (by decide) hZ H hEL) (a := x) 9 (argsL := [(.ref a), (.int (0 : Int32)), (.int (4 : Int32)), .null]) (rest := []) (lenOf own_pd183 rfl) rfl rfl (Nat.le_of_eq rfl) (by rw [hml]; rfl) (hb hby d182) rfl (by decide) (by decide) ?_
          rintro _ vm9 h9 C9 ⟨t9, rfl, K9, q9_0⟩
          have z9 := C9.2.1
          have lt_t9 : h9.size > t9 := q9_0.tlt
          refine gat0 ?_
          exact gretV hx hret (hb hby d184) (by decide) (by decide) (fun vq Cq => ⟨t9, rfl, ((Keep.refl h0 [x]).trans K9 (allS (Or.inl (List.mem_of_getElem? (i := 0) rfl)) all0)), q9_0⟩)
theorem own_txt0 {Z : State} {h : Heap} {a t : Addr} (F : Str Z h a t ([] : List Int32)) : Txt Z h a t ([] : List Int32) := by
  obtain ⟨f1, f2, f3, ⟨k, f4⟩, -, -⟩ := F
  refine ⟨f1, f3, by decide, ?_, Or.inl ⟨f2, ?_, k, f4⟩⟩
  · intro c hc; cases hc
  · intro c hc; cases hc
theorem d186 : decode y3_ 8 = .ok (.aload_n 0, 1) := by decide +kernel
theorem d187 : decode y3_ 9 = .ok (.ldc 7, 2) := by decide +kernel
theorem d188 : decode y3_ 11 = .ok (.getfield 9, 3) := by decide +kernel
theorem d189 : decode y3_ 14 = .ok (.putfield 9, 3) := by decide +kernel
theorem d190 : decode y3_ 17 = .ok (.aload_n 0, 1) := by decide +kernel
theorem d191 : decode y3_ 18 = .ok (.ldc 7, 2) := by decide +kernel
theorem d192 : decode y3_ 20 = .ok (.getfield 15, 3) := by decide +kernel
theorem d193 : decode y3_ 23 = .ok (.putfield 15, 3) := by decide +kernel
theorem d194 : decode y3_ 26 = .ok (.return_, 1) := by decide +kernel
theorem own_emp4 (l : Launch) (Z : State) (a0 : Array Value) (cx : Ctx Z a0) (ws : List Jvm.Cond) (x : Addr) (b : Addr) (v0 : Value) (c0 : Value) (vm0 : Vm) (h0 : Heap) (X00 : Ext Z.heap h0) (P0 : Exa Z h0 x c0_) (P1 : Fld Z h0 x c0_ "value" "[B" v0) (P2 : Fld Z h0 x c0_ "coder" "B" c0) (P3 : Z.heap.size ≤ x) (P4 : Safe Z consts_1 vm0 h0 x) :
    Met l mn174 y3_ 6 none ws ({ frames := 1, cells := 4, slots := 8, locals := 12 } : Room) Z consts_1 vm0 h0 #[(.ref x), (.ref b), (.int (0 : Int32)), (.int (0 : Int32)), .null] (fun rv vm h => ∃ (t : Addr), rv = none ∧ Keep h0 h [x] ∧ Str Z h x t ([] : List Int32) ∧ Safe Z consts_1 vm h x) := by
  obtain ⟨hw, hEL, ⟨zc, Scs, hzc⟩, ⟨fm, Sfm, hfm⟩, Sad, Shi, Slo⟩ := id cx
  have hSA := own_SA hw
  refine Met.of_walk (a0 := a0) #[vr x, vr b, vi (0 : Int32), vi (0 : Int32), .val .null, un] (plainFor_of_name own_pn175) X00 hEL (fun m => by first | (simp [entryFrame, mkF, argsToLocals, Value.category]; done) | rfl) ?_
  intro p e s m below meth c vm hx hby hml hret hnm hC0 hW0
  have lt_x : h0.size > x := P0.lt
  have L4 := hC0.safe lt_x P4
  refine uAN 1 hx hby d153 rfl rfl rfl ?_
  refine ginitO hx (ow hw 25 rfl) (ow hw 26 rfl) (ow hw 27 rfl) 4 (W := 0) (Nat.le_of_eq rfl) (by rw [hml]; rfl) (hb hby d154) rfl (by decide) (by decide) ?_
  refine uIN 5 hx hby d155 rfl rfl ?_
  refine uN 8 hx hby d156 rfl ((if0 _ _).trans (teq (by decide)).2) ?_
  refine uAN 9 hx hby d186 rfl rfl rfl ?_
  refine gldcR hx (ow hw 28 rfl) hSA (by decide) (n := 0) (by decide) (by decide) (vs := []) (z := (0 : Int32)) (by decide +kernel) (by decide) (by decide) 11 (hb hby d187) rfl (by decide) (by decide) ?_
  intro b2 t2 k2 vm2 h2 E2 C2 Q2a Q2b Q2c Q2d Q2e
  have z2 := C2.2.1
  have S2 : Str Z h2 b2 t2 ([] : List Int32) := Str.lit Q2a Q2b Q2c Q2d (by decide) rfl rfl (by decide)
  have lt_b2 : h2.size > b2 := S2.1.lt
  have lt_t2 : h2.size > t2 := S2.tlt
  have f3 := (C2.safe (show h0.size > x by omega) L4)
  have ne2_x := Q2e x f3
  refine ggetF (host := "") hx (Or.inl (ow hw 34 rfl)) Via.refl S2.2.2.1 14 (hb hby d188) rfl ?_
  have f4 := (P1.ext E2)
  have f5 := (P0.ext E2)
  refine gputF (host := "") hx (Or.inl (ow hw 34 rfl)) Via.refl f4 f5 (Or.inr ⟨(ow hw 30 rfl), rfl, hnm⟩) (ow hw 16 rfl) (ty := (.array .byte)) (by decide) rfl rfl P3 (fun _ => f3) 17 (hb hby d189) rfl ?_
  intro h6 W6 C6
  have z6 := C6.2.1
  have F6 := f4.same W6
  refine uAN 18 hx hby d190 rfl rfl rfl ?_
  refine gldcR hx (ow hw 28 rfl) hSA (by decide) (n := 0) (by decide) (by decide) (vs := []) (z := (0 : Int32)) (by decide +kernel) (by decide) (by decide) 20 (hb hby d191) rfl (by decide) (by decide) ?_
  intro b7 t7 k7 vm7 h7 E7 C7 Q7a Q7b Q7c Q7d Q7e
  have z7 := C7.2.1
  have S7 : Str Z h7 b7 t7 ([] : List Int32) := Str.lit Q7a Q7b Q7c Q7d (by decide) rfl rfl (by decide)
  have lt_b7 : h7.size > b7 := S7.1.lt
  have lt_t7 : h7.size > t7 := S7.tlt
  have f8 := (C7.safe (show h6.size > x by omega) (C6.safe (show h2.size > x by omega) f3))
  have ne7_x := Q7e x f8
  refine ggetF (host := "") hx (Or.inl (ow hw 35 rfl)) Via.refl S7.2.1 23 (hb hby d192) rfl ?_
  have f9 := (((P2.ext E2).other W6 (Or.inr (slot_ne (Or.inr (ow hw 31 rfl)) (Or.inr (ow hw 30 rfl)) (by decide) (t := .byte) (t' := (.array .byte)) (by decide) (by decide)))).ext E7)
  have f10 := ((f5.wr W6).ext E7)
  refine gputF (host := "") hx (Or.inl (ow hw 35 rfl)) Via.refl f9 f10 (Or.inr ⟨(ow hw 31 rfl), rfl, hnm⟩) (ow hw 16 rfl) (ty := .byte) (by decide) rfl rfl P3 (fun _ => f8) 26 (hb hby d193) rfl ?_
  intro h11 W11 C11
  have z11 := C11.2.1
  have F11 := f9.same W11
  have f13 := (((S2.other W6 (Ne.symm ne2_x.1) (Ne.symm ne2_x.2)).ext E7).other W11 (Ne.symm ne2_x.1) (Ne.symm ne2_x.2))
  have f15 := (f10.wr W11)
  have f16 := ((F6.ext E7).other W11 (Or.inr (slot_ne (Or.inr (ow hw 30 rfl)) (Or.inr (ow hw 31 rfl)) (by decide) (t := (.array .byte)) (t' := .byte) (by decide) (by decide))))
  have S14 : Str Z h11 x t2 ([] : List Int32) := ⟨f15, F11, f16, f13.2.2.2⟩
  have f17 := (C11.safe (show h7.size > x by omega) f8)
  exact gretV hx hret (hb hby d194) (by decide) (by decide) (fun vq Cq => ⟨t2, rfl, (((((Keep.refl h0 [x]).ext E2).wr W6 (Or.inl (List.mem_of_getElem? (i := 0) rfl))).ext E7).wr W11 (Or.inl (List.mem_of_getElem? (i := 0) rfl))), S14, (Cq.safe (show h11.size > x by omega) f17)⟩)
theorem own_emp1 (l : Launch) (Z : State) (a0 : Array Value) (cx : Ctx Z a0) (ws : List Jvm.Cond) (x : Addr) (b : Addr) (v0 : Value) (c0 : Value) (kc : ClassId) (vm0 : Vm) (h0 : Heap) (X00 : Ext Z.heap h0) (P0 : Exa Z h0 x c0_) (P1 : Fld Z h0 x c0_ "value" "[B" v0) (P2 : Fld Z h0 x c0_ "coder" "B" c0) (P3 : Z.heap.size ≤ x) (P4 : Safe Z consts_1 vm0 h0 x) (P5 : Arv Z h0 b kc .char (0 : Int32) [] (.int (0 : Int32))) :
    Met l mn185 y7_ 2 none ws ({ frames := 2, cells := 4, slots := 8, locals := 29 } : Room) Z consts_1 vm0 h0 #[(.ref x), (.ref b)] (fun rv vm h => ∃ (t : Addr), rv = none ∧ Keep h0 h [x] ∧ Str Z h x t ([] : List Int32) ∧ Safe Z consts_1 vm h x) := by
  obtain ⟨hw, hEL, ⟨zc, Scs, hzc⟩, ⟨fm, Sfm, hfm⟩, Sad, Shi, Slo⟩ := id cx
  have hSA := own_SA hw
  refine Met.of_walk (a0 := a0) #[vr x, vr b] (plainFor_of_name own_pn175) X00 hEL (fun m => by first | (simp [entryFrame, mkF, argsToLocals, Value.category]; done) | rfl) ?_
  intro p e s m below meth c vm hx hby hml hret hnm hC0 hW0
  have lt_x : h0.size > x := P0.lt
  have L4 := hC0.safe lt_x P4
  have lt_b : h0.size > b := P5.lt
  refine uAN 1 hx hby d176 rfl rfl rfl ?_
  refine uAN 2 hx hby d177 rfl rfl rfl ?_
  refine uKc 3 (0 : Int32) hx hby d178 rfl rfl ?_
  refine uAN 4 hx hby d179 rfl rfl rfl ?_
  refine glen hx P5 5 (hb hby d180) rfl ?_
  refine uU 6 hx hby d181 rfl ?_
  refine ginfo fun _ _ O1 => ?_
  refine gcallI (y := mn174) hx rfl (ow hw 21 rfl) (ow hw 22 rfl) (ow hw 24 rfl) (by decide) (fun hZ H hEL => Pay.of_met (W := 0) (own_emp4 l Z a0 cx [] (x) (b) (v0) (c0) vm h0 O1 P0 P1 P2 P3 L4) (ow hw 24 rfl) (ow hw 17 rfl) (by decide) (by decide) hZ H hEL) (a := x) 9 (argsL := [(.ref b), (.int (0 : Int32)), (.int (0 : Int32)), .null]) (rest := []) (lenOf own_pd183 rfl) rfl rfl (Nat.le_of_eq rfl) (by rw [hml]; rfl) (hb hby d182) rfl (by decide) (by decide) ?_
  rintro _ vm1 h1 C1 ⟨t1, rfl, K1, q1_0, q1_1⟩
  have z1 := C1.2.1
  have lt_t1 : h1.size > t1 := q1_0.tlt
  refine gat0 ?_
  exact gretV hx hret (hb hby d184) (by decide) (by decide) (fun vq Cq => ⟨t1, rfl, ((Keep.refl h0 [x]).trans K1 (allS (Or.inl (List.mem_of_getElem? (i := 0) rfl)) all0)), q1_0, (Cq.safe (show h1.size > x by omega) q1_1)⟩)
theorem own_shr1 {a : Nat} (h : a ≤ 2000) : (Int32.ofNat (2 * a) >>> ((1 : Int32) &&& 31)) = Int32.ofNat a := by
  apply Int32.toInt_inj.mp
  rw [c_ishr _ 1 1 (by decide), Int32.toInt_ofNat_of_lt (by omega), Int32.toInt_ofNat_of_lt (by omega)]
  omega
theorem own_shl1 : ∀ a : Nat, a ≤ 4 → (Int32.ofNat a <<< ((1 : Int32) &&& 31)) = Int32.ofNat (2 * a) := fun a h => by
  obtain rfl | rfl | rfl | rfl | rfl : a = 0 ∨ a = 1 ∨ a = 2 ∨ a = 3 ∨ a = 4 := by omega
  all_goals decide
theorem own_add1 {a : Nat} (h2 : a ≤ 3000) : Int32.ofNat a + (1 : Int32) = Int32.ofNat (a + 1) := addOf (b := 1) (by omega)
theorem own_b8up {c : Int32} (h : B8 c) : (c.toInt8.toInt32 &&& (255 : Int32)) = c := by
  apply Int32.toInt_inj.mp
  have q := c_mask c.toInt8.toInt32 255 8 (by decide) (by decide)
  have e0 : (0 : Int32).toInt = 0 := rfl
  have e2 : (255 : Int32).toInt = 255 := rfl
  obtain ⟨r1, r2⟩ := h
  rw [Int32.lt_iff_toInt_lt, e0] at r1
  rw [Int32.lt_iff_toInt_lt, e2] at r2
  rw [q, Int8.toInt_toInt32, Int32.toInt_toInt8]
  have w := Int.bmod_emod (x := c.toInt) (m := 2 ^ 8)
  simp only [Nat.reducePow] at w ⊢
  rw [w]
  omega
theorem own_lo8g {cs : List Int32} {i : Nat} (h : i < cs.length) : (lo8s cs).getD i (.int (0 : Int32)) = .int ((cs.getD i 0).toInt8.toInt32) := by
  rw [lo8s, List.getD_eq_getElem?_getD, List.getElem?_map, List.getElem?_map, List.getD_eq_getElem?_getD, List.getElem?_eq_getElem h]; rfl
theorem own_prsg : ∀ (cs : List Int32) (i : Nat), i < cs.length → (own_prs cs).getD (2 * i) (.int (0 : Int32)) = .int (((cs.getD i 0) >>> ((0 : Int32) &&& 31)).toInt8.toInt32) ∧ (own_prs cs).getD (2 * i + 1) (.int (0 : Int32)) = .int (((cs.getD i 0) >>> ((8 : Int32) &&& 31)).toInt8.toInt32)
  | [], _, h => nomatch h
  | c :: cs, 0, _ => ⟨rfl, rfl⟩
  | c :: cs, i + 1, h => own_prsg cs i (Nat.lt_of_succ_lt_succ h)
theorem own_mem {cs : List Int32} {i : Nat} (h : i < cs.length) : cs.getD i 0 ∈ cs := by
  rw [List.getD_eq_getElem?_getD, List.getElem?_eq_getElem h]; exact List.getElem_mem h
theorem d195 : decode y4_ 0 = .ok (.getstatic 38, 3) := by decide +kernel
theorem d196 : decode y4_ 3 = .ok (.ifCond .eq 10, 3) := by decide +kernel
theorem d197 : decode y4_ 6 = .ok (.aload_n 0, 1) := by decide +kernel
theorem d198 : decode y4_ 7 = .ok (.getfield 15, 3) := by decide +kernel
theorem d199 : decode y4_ 10 = .ok (.goto 4, 3) := by decide +kernel
theorem d200 : decode y4_ 14 = .ok (.ireturn, 1) := by decide +kernel
abbrev mn201 : MethodName := ⟨"java/lang/String", "coder", "()B"⟩
theorem own_coder (l : Launch) (Z : State) (a0 : Array Value) (cx : Ctx Z a0) (ws : List Jvm.Cond) (x : Addr) (q : Int32) (vm0 : Vm) (h0 : Heap) (X00 : Ext Z.heap h0) (P0 : Fld Z h0 x c0_ "coder" "B" (.int q)) (hq : (q = 0 ∨ q = 1)) :
    Met l mn201 y4_ 1 (some .byte) ws ({ frames := 0, cells := 0, slots := 0, locals := 0 } : Room) Z consts_1 vm0 h0 #[(.ref x)] (fun rv vm h => rv = some (.int q) ∧ h0 = h) := by
  obtain ⟨hw, hEL, ⟨zc, Scs, hzc⟩, ⟨fm, Sfm, hfm⟩, Sad, Shi, Slo⟩ := id cx
  have hSA := own_SA hw
  refine Met.of_walk (a0 := a0) #[vr x] (plainFor_of_name own_pn175) X00 hEL (fun m => by first | (simp [entryFrame, mkF, argsToLocals, Value.category]; done) | rfl) ?_
  intro p e s m below meth c vm hx hby hml hret hnm hC0 hW0
  have lt_x : h0.size > x := P0.lt
  refine ggetS (host := "") hx (Or.inl (ow hw 50 rfl)) Via.refl Scs 3 (hb hby d195) rfl ?_
  refine uN 6 hx hby d196 rfl ((if0 _ _).trans (feq hzc).1) ?_
  refine uAN 7 hx hby d197 rfl rfl rfl ?_
  refine ggetF (host := "") hx (Or.inl (ow hw 35 rfl)) Via.refl P0 10 (hb hby d198) rfl ?_
  refine uG 14 hx hby d199 (by decide) (by decide) ?_
  exact gretN (t := .byte) hx hret (by simp) (hb hby d200) (by decide) (by decide) (fun vq Cq => ⟨(congrArg (fun z => some (Value.int z)) (by rcases hq with e | e <;> rw [e] <;> rfl)), rfl⟩)
theorem d202 : decode y8_ 0 = .ok (.aload_n 0, 1) := by decide +kernel
theorem d203 : decode y8_ 1 = .ok (.getfield 9, 3) := by decide +kernel
theorem d204 : decode y8_ 4 = .ok (.arraylength, 1) := by decide +kernel
theorem d205 : decode y8_ 5 = .ok (.aload_n 0, 1) := by decide +kernel
theorem d206 : decode y8_ 6 = .ok (.invokevirtual 335, 3) := by decide +kernel
theorem own_pd207 : parseMethodDescriptor "()B" = some ⟨[], some .byte⟩ := by decide +kernel
theorem d208 : decode y8_ 9 = .ok (.ishr, 1) := by decide +kernel
theorem d209 : decode y8_ 10 = .ok (.ireturn, 1) := by decide +kernel
abbrev mn210 : MethodName := ⟨"java/lang/String", "length", "()I"⟩
theorem own_len (l : Launch) (Z : State) (a0 : Array Value) (cx : Ctx Z a0) (ws : List Jvm.Cond) (x : Addr) (t : Addr) (cs : List Int32) (vm0 : Vm) (h0 : Heap) (X00 : Ext Z.heap h0) (P0 : Txt Z h0 x t cs) :
    Met l mn210 y8_ 1 (some .int) ws ({ frames := 1, cells := 0, slots := 0, locals := 13 } : Room) Z consts_1 vm0 h0 #[(.ref x)] (fun rv vm h => rv = some (.int (Int32.ofNat cs.length)) ∧ h0 = h) := by
  obtain ⟨hw, hEL, ⟨zc, Scs, hzc⟩, ⟨fm, Sfm, hfm⟩, Sad, Shi, Slo⟩ := id cx
  have hSA := own_SA hw
  refine Met.of_walk (a0 := a0) #[vr x] (plainFor_of_name own_pn175) X00 hEL (fun m => by first | (simp [entryFrame, mkF, argsToLocals, Value.category]; done) | rfl) ?_
  intro p e s m below meth c vm hx hby hml hret hnm hC0 hW0
  have lt_t : h0.size > t := P0.tlt
  have lt_x : h0.size > x := P0.1.lt
  obtain ⟨eE, eV, eL, e16, eD⟩ := P0
  rcases eD with ⟨eC, eB, kz, eA⟩ | ⟨eC, kz, eA⟩
  · refine uAN 1 hx hby d202 rfl rfl rfl ?_
    refine ggetF (host := "") hx (Or.inl (ow hw 34 rfl)) Via.refl eV 4 (hb hby d203) rfl ?_
    refine glen hx eA 5 (hb hby d204) rfl ?_
    refine uAN 6 hx hby d205 rfl rfl rfl ?_
    refine ginfo fun _ _ O1 => ?_
    refine gcallV (y := mn201) (z := mn201) hx (ow hw 45 rfl) (ow hw 46 rfl) (nfSel (ow hw 48 rfl)) (ow hw 48 rfl) (ow hw 47 rfl) (by decide) (fun hZ H hEL => Pay.of_met (W := 1) (own_coder l Z a0 cx [] (x) ((0 : Int32)) vm h0 O1 eC (by first | assumption | decide | omega)) (ow hw 49 rfl) (ow hw 17 rfl) (by decide) (by decide) hZ H hEL) 9 (argsL := []) (rest := [(.int (Int32.ofNat cs.length))]) eE (lenOf own_pd207 rfl) rfl rfl (Nat.le_of_eq rfl) (by rw [hml]; rfl) (hb hby d206) rfl (by decide) (by decide) ?_
    rintro _ vm1 h1 C1 ⟨rfl, rfl⟩
    have z1 := C1.2.1
    refine gat1 ?_
    refine gs (mkF m 10 #[vr x] [(.int ((Int32.ofNat cs.length) >>> ((0 : Int32) &&& 31)))]) (fun _ _ A kq => XS.ishr A hx rfl (hb hby d208) rfl kq) ?_
    refine gat (mkF m 10 #[vr x] [(.int (Int32.ofNat cs.length))]) (by rw [shr0 (by omega)]) ?_
    exact gretI hx hret (hb hby d209) (by decide) (by decide) (fun vq Cq => ⟨rfl, rfl⟩)
  · refine uAN 1 hx hby d202 rfl rfl rfl ?_
    refine ggetF (host := "") hx (Or.inl (ow hw 34 rfl)) Via.refl eV 4 (hb hby d203) rfl ?_
    refine glen hx eA 5 (hb hby d204) rfl ?_
    refine uAN 6 hx hby d205 rfl rfl rfl ?_
    refine ginfo fun _ _ O3 => ?_
    refine gcallV (y := mn201) (z := mn201) hx (ow hw 45 rfl) (ow hw 46 rfl) (nfSel (ow hw 48 rfl)) (ow hw 48 rfl) (ow hw 47 rfl) (by decide) (fun hZ H hEL => Pay.of_met (W := 1) (own_coder l Z a0 cx [] (x) ((1 : Int32)) vm h0 O3 eC (by first | assumption | decide | omega)) (ow hw 49 rfl) (ow hw 17 rfl) (by decide) (by decide) hZ H hEL) 9 (argsL := []) (rest := [(.int (Int32.ofNat (2 * cs.length)))]) eE (lenOf own_pd207 rfl) rfl rfl (Nat.le_of_eq rfl) (by rw [hml]; rfl) (hb hby d206) rfl (by decide) (by decide) ?_
    rintro _ vm3 h3 C3 ⟨rfl, rfl⟩
    have z3 := C3.2.1
    refine gat1 ?_
    refine gs (mkF m 10 #[vr x] [(.int ((Int32.ofNat (2 * cs.length)) >>> ((1 : Int32) &&& 31)))]) (fun _ _ A kq => XS.ishr A hx rfl (hb hby d208) rfl kq) ?_
    refine gat (mkF m 10 #[vr x] [(.int (Int32.ofNat cs.length))]) (by rw [own_shr1 (by omega)]) ?_
    exact gretI hx hret (hb hby d209) (by decide) (by decide) (fun vq Cq => ⟨rfl, rfl⟩)
theorem d211 : decode y2_ 0 = .ok (.iload_n 0, 1) := by decide +kernel
theorem d212 : decode y2_ 1 = .ok (.ifCond .lt 8, 3) := by decide +kernel
theorem d213 : decode y2_ 4 = .ok (.iload_n 0, 1) := by decide +kernel
theorem d214 : decode y2_ 5 = .ok (.iload_n 1, 1) := by decide +kernel
theorem d215 : decode y2_ 6 = .ok (.if_icmp .lt 10, 3) := by decide +kernel
theorem d216 : decode y2_ 16 = .ok (.iload_n 0, 1) := by decide +kernel
theorem d217 : decode y2_ 17 = .ok (.ireturn, 1) := by decide +kernel
abbrev mn218 : MethodName := ⟨"jdk/internal/util/Preconditions", "checkIndex", "(IILjava/util/function/BiFunction;)I"⟩
theorem own_pn219 : plainName "jdk/internal/util/Preconditions" = true := by first | (simp [plainName, overriddenIn]; done) | decide +kernel
theorem own_pci (l : Launch) (Z : State) (a0 : Array Value) (cx : Ctx Z a0) (ws : List Jvm.Cond) (i : Nat) (n : Nat) (fv : Value) (vm0 : Vm) (h0 : Heap) (X00 : Ext Z.heap h0) (hi : (i < n)) (hn : (n ≤ 4)) (isRef_fv : (fv.isRef = true)) :
    Met l mn218 y2_ 3 (some .int) ws ({ frames := 0, cells := 0, slots := 0, locals := 0 } : Room) Z consts_1 vm0 h0 #[(.int (Int32.ofNat i)), (.int (Int32.ofNat n)), fv] (fun rv vm h => rv = some (.int (Int32.ofNat i)) ∧ h0 = h) := by
  obtain ⟨hw, hEL, ⟨zc, Scs, hzc⟩, ⟨fm, Sfm, hfm⟩, Sad, Shi, Slo⟩ := id cx
  have hSA := own_SA hw
  refine Met.of_walk (a0 := a0) #[vi (Int32.ofNat i), vi (Int32.ofNat n), .val fv] (plainFor_of_name own_pn219) X00 hEL (fun m => by rcases ref_cases isRef_fv with q | ⟨_, q⟩ <;> subst q <;> first | (simp [entryFrame, mkF, argsToLocals, Value.category]; done) | rfl) ?_
  intro p e s m below meth c vm hx hby hml hret hnm hC0 hW0
  refine uIN 1 hx hby d211 rfl rfl ?_
  refine uN 4 hx hby d212 rfl ((if0 _ _).trans (flt (nn0 (by omega))).1) ?_
  refine uIN 5 hx hby d213 rfl rfl ?_
  refine uIN 6 hx hby d214 rfl rfl ?_
  refine uYc 16 hx hby d215 (tlt ((ltOf (by omega) (by omega)).mpr hi)).1 (by decide) (by decide) ?_
  refine uIN 17 hx hby d216 rfl rfl ?_
  exact gretI hx hret (hb hby d217) (by decide) (by decide) (fun vq Cq => ⟨rfl, rfl⟩)
theorem d220 : decode y6_ 0 = .ok (.iload_n 0, 1) := by decide +kernel
theorem d221 : decode y6_ 1 = .ok (.iload_n 1, 1) := by decide +kernel
theorem d222 : decode y6_ 2 = .ok (.getstatic 1053, 3) := by decide +kernel
theorem d223 : decode y6_ 5 = .ok (.invokestatic 1059, 3) := by decide +kernel
theorem own_pd224 : parseMethodDescriptor "(IILjava/util/function/BiFunction;)I" = some ⟨[.int, .int, (.object "java/util/function/BiFunction")], some .int⟩ := by decide +kernel
theorem d225 : decode y6_ 8 = .ok (.pop, 1) := by decide +kernel
theorem d226 : decode y6_ 9 = .ok (.return_, 1) := by decide +kernel
abbrev mn227 : MethodName := ⟨"java/lang/String", "checkIndex", "(II)V"⟩
theorem own_cki (l : Launch) (Z : State) (a0 : Array Value) (cx : Ctx Z a0) (ws : List Jvm.Cond) (i : Nat) (n : Nat) (vm0 : Vm) (h0 : Heap) (X00 : Ext Z.heap h0) (hi : (i < n)) (hn : (n ≤ 4)) :
    Met l mn227 y6_ 2 none ws ({ frames := 1, cells := 0, slots := 0, locals := 14 } : Room) Z consts_1 vm0 h0 #[(.int (Int32.ofNat i)), (.int (Int32.ofNat n))] (fun rv vm h => rv = none ∧ h0 = h) := by
  obtain ⟨hw, hEL, ⟨zc, Scs, hzc⟩, ⟨fm, Sfm, hfm⟩, Sad, Shi, Slo⟩ := id cx
  have hSA := own_SA hw
  refine Met.of_walk (a0 := a0) #[vi (Int32.ofNat i), vi (Int32.ofNat n)] (plainFor_of_name own_pn175) X00 hEL (fun m => by first | (simp [entryFrame, mkF, argsToLocals, Value.category]; done) | rfl) ?_
  intro p e s m below meth c vm hx hby hml hret hnm hC0 hW0
  have isRef_fm := hfm
  refine uIN 1 hx hby d220 rfl rfl ?_
  refine uIN 2 hx hby d221 rfl rfl ?_
  refine ggetS (host := "") hx (Or.inl (ow hw 118 rfl)) Via.refl Sfm 5 (hb hby d222) rfl ?_
  refine ginfo fun _ _ O1 => ?_
  refine gcallS (y := mn218) hx (ow hw 120 rfl) (ow hw 121 rfl) (ow hw 119 rfl) (ow hw 122 rfl) (by decide) (fun hZ H hEL => Pay.of_met (W := 0) (own_pci l Z a0 cx [] (i) (n) (fm) vm h0 O1 (by first | assumption | decide | omega) (by first | assumption | decide | omega) isRef_fm) (ow hw 122 rfl) (ow hw 119 rfl) (by decide) (by decide) hZ H hEL) 8 (argsL := [(.int (Int32.ofNat i)), (.int (Int32.ofNat n)), fm]) (rest := []) (lenOf own_pd224 rfl) rfl rfl (Nat.le_of_eq rfl) (by rw [hml]; rfl) (hb hby d223) rfl (by decide) (by decide) ?_
  rintro _ vm1 h1 C1 ⟨rfl, rfl⟩
  have z1 := C1.2.1
  refine gat1 ?_
  refine uP 9 hx hby d225 rfl rfl ?_
  exact gretV hx hret (hb hby d226) (by decide) (by decide) (fun vq Cq => ⟨rfl, rfl⟩)
theorem d228 : decode y10_ 0 = .ok (.iload_n 1, 1) := by decide +kernel
theorem d229 : decode y10_ 1 = .ok (.aload_n 0, 1) := by decide +kernel
theorem d230 : decode y10_ 2 = .ok (.arraylength, 1) := by decide +kernel
theorem d231 : decode y10_ 3 = .ok (.invokestatic 9, 3) := by decide +kernel
theorem own_pd232 : parseMethodDescriptor "(II)V" = some ⟨[.int, .int], none⟩ := by decide +kernel
theorem d233 : decode y10_ 6 = .ok (.aload_n 0, 1) := by decide +kernel
theorem d234 : decode y10_ 7 = .ok (.iload_n 1, 1) := by decide +kernel
theorem d235 : decode y10_ 8 = .ok (.baload, 1) := by decide +kernel
theorem d236 : decode y10_ 9 = .ok (.sipush 255, 3) := by decide +kernel
theorem d237 : decode y10_ 12 = .ok (.iand, 1) := by decide +kernel
theorem d238 : decode y10_ 13 = .ok (.i2c, 1) := by decide +kernel
theorem d239 : decode y10_ 14 = .ok (.ireturn, 1) := by decide +kernel
abbrev mn240 : MethodName := ⟨"java/lang/StringLatin1", "charAt", "([BI)C"⟩
theorem own_pn241 : plainName "java/lang/StringLatin1" = true := by first | (simp [plainName, overriddenIn]; done) | decide +kernel
theorem own_l1ch (l : Launch) (Z : State) (a0 : Array Value) (cx : Ctx Z a0) (ws : List Jvm.Cond) (b : Addr) (kb : ClassId) (cs : List Int32) (i : Nat) (vm0 : Vm) (h0 : Heap) (X00 : Ext Z.heap h0) (P0 : Arv Z h0 b kb .byte (Int32.ofNat cs.length) (lo8s cs) (.int (0 : Int32))) (hi : (i < cs.length)) (hn : (cs.length ≤ 4)) (hbb : (∀ c ∈ cs, B8 c)) :
    Met l mn240 y10_ 2 (some .char) ws ({ frames := 2, cells := 0, slots := 0, locals := 27 } : Room) Z consts_1 vm0 h0 #[(.ref b), (.int (Int32.ofNat i))] (fun rv vm h => rv = some (.int (cs.getD i 0)) ∧ h0 = h) := by
  obtain ⟨hw, hEL, ⟨zc, Scs, hzc⟩, ⟨fm, Sfm, hfm⟩, Sad, Shi, Slo⟩ := id cx
  have hSA := own_SA hw
  refine Met.of_walk (a0 := a0) #[vr b, vi (Int32.ofNat i)] (plainFor_of_name own_pn241) X00 hEL (fun m => by first | (simp [entryFrame, mkF, argsToLocals, Value.category]; done) | rfl) ?_
  intro p e s m below meth c vm hx hby hml hret hnm hC0 hW0
  have lt_b : h0.size > b := P0.lt
  refine uIN 1 hx hby d228 rfl rfl ?_
  refine uAN 2 hx hby d229 rfl rfl rfl ?_
  refine glen hx P0 3 (hb hby d230) rfl ?_
  refine ginfo fun _ _ O1 => ?_
  refine gcallS (y := mn227) hx (ow hw 115 rfl) (ow hw 116 rfl) (ow hw 17 rfl) (ow hw 117 rfl) (by decide) (fun hZ H hEL => Pay.of_met (W := 0) (own_cki l Z a0 cx [] (i) (cs.length) vm h0 O1 (by first | assumption | decide | omega) (by first | assumption | decide | omega)) (ow hw 117 rfl) (ow hw 17 rfl) (by decide) (by decide) hZ H hEL) 6 (argsL := [(.int (Int32.ofNat i)), (.int (Int32.ofNat cs.length))]) (rest := []) (lenOf own_pd232 rfl) rfl rfl (Nat.le_of_eq rfl) (by rw [hml]; rfl) (hb hby d231) rfl (by decide) (by decide) ?_
  rintro _ vm1 h1 C1 ⟨rfl, rfl⟩
  have z1 := C1.2.1
  refine gat0 ?_
  refine uAN 7 hx hby d233 rfl rfl rfl ?_
  refine uIN 8 hx hby d234 rfl rfl ?_
  refine gldB hx P0 ⟨nn0 (by omega), (ltOf (by omega) (by omega)).mpr hi⟩ (i := i) (tn (by omega)) (v := (.int ((cs.getD i 0).toInt8.toInt32))) (own_lo8g hi) 9 (hb hby d235) rfl ?_
  refine uKs 12 (255 : Int32) hx hby d236 rfl rfl ?_
  refine uiand 13 (((cs.getD i 0).toInt8.toInt32) &&& (255 : Int32)) hx hby d237 rfl rfl ?_
  refine gi2c hx (i2c_mask _) 14 (hb hby d238) rfl ?_
  exact gretN (t := .char) hx hret (by simp) (hb hby d239) (by decide) (by decide) (fun vq Cq => ⟨(congrArg (fun z => some (Value.int z)) ((narC _).trans (own_b8up (hbb _ (own_mem hi))))), rfl⟩)
theorem d242 : decode y19_ 0 = .ok (.aload_n 0, 1) := by decide +kernel
theorem d243 : decode y19_ 1 = .ok (.arraylength, 1) := by decide +kernel
theorem d244 : decode y19_ 2 = .ok (.iconst 1, 1) := by decide +kernel
theorem d245 : decode y19_ 3 = .ok (.ishr, 1) := by decide +kernel
theorem d246 : decode y19_ 4 = .ok (.ireturn, 1) := by decide +kernel
abbrev mn247 : MethodName := ⟨"java/lang/StringUTF16", "length", "([B)I"⟩
theorem own_ulen (l : Launch) (Z : State) (a0 : Array Value) (cx : Ctx Z a0) (ws : List Jvm.Cond) (b : Addr) (kb : ClassId) (cs : List Int32) (vm0 : Vm) (h0 : Heap) (X00 : Ext Z.heap h0) (P0 : Arv Z h0 b kb .byte (Int32.ofNat (2 * cs.length)) (own_prs cs) (.int (0 : Int32))) (hn : (cs.length ≤ 4)) :
    Met l mn247 y19_ 1 (some .int) ws ({ frames := 0, cells := 0, slots := 0, locals := 0 } : Room) Z consts_1 vm0 h0 #[(.ref b)] (fun rv vm h => rv = some (.int (Int32.ofNat cs.length)) ∧ h0 = h) := by
  obtain ⟨hw, hEL, ⟨zc, Scs, hzc⟩, ⟨fm, Sfm, hfm⟩, Sad, Shi, Slo⟩ := id cx
  have hSA := own_SA hw
  refine Met.of_walk (a0 := a0) #[vr b] (plainFor_of_name own_pn15) X00 hEL (fun m => by first | (simp [entryFrame, mkF, argsToLocals, Value.category]; done) | rfl) ?_
  intro p e s m below meth c vm hx hby hml hret hnm hC0 hW0
  have lt_b : h0.size > b := P0.lt
  refine uAN 1 hx hby d242 rfl rfl rfl ?_
  refine glen hx P0 2 (hb hby d243) rfl ?_
  refine uKc 3 (1 : Int32) hx hby d244 rfl rfl ?_
  refine gs (mkF m 4 #[vr b] [(.int ((Int32.ofNat (2 * cs.length)) >>> ((1 : Int32) &&& 31)))]) (fun _ _ A kq => XS.ishr A hx rfl (hb hby d245) rfl kq) ?_
  refine gat (mkF m 4 #[vr b] [(.int (Int32.ofNat cs.length))]) (by rw [own_shr1 (by omega)]) ?_
  exact gretI hx hret (hb hby d246) (by decide) (by decide) (fun vq Cq => ⟨rfl, rfl⟩)
theorem d248 : decode y21_ 0 = .ok (.iload_n 0, 1) := by decide +kernel
theorem d249 : decode y21_ 1 = .ok (.aload_n 1, 1) := by decide +kernel
theorem d250 : decode y21_ 2 = .ok (.invokestatic 48, 3) := by decide +kernel
theorem own_pd251 : parseMethodDescriptor "([B)I" = some ⟨[(.array .byte)], some .int⟩ := by decide +kernel
theorem d252 : decode y21_ 5 = .ok (.invokestatic 414, 3) := by decide +kernel
theorem d253 : decode y21_ 8 = .ok (.return_, 1) := by decide +kernel
abbrev mn254 : MethodName := ⟨"java/lang/StringUTF16", "checkIndex", "(I[B)V"⟩
theorem own_ucki (l : Launch) (Z : State) (a0 : Array Value) (cx : Ctx Z a0) (ws : List Jvm.Cond) (b : Addr) (kb : ClassId) (cs : List Int32) (i : Nat) (vm0 : Vm) (h0 : Heap) (X00 : Ext Z.heap h0) (P0 : Arv Z h0 b kb .byte (Int32.ofNat (2 * cs.length)) (own_prs cs) (.int (0 : Int32))) (hi : (i < cs.length)) (hn : (cs.length ≤ 4)) :
    Met l mn254 y21_ 2 none ws ({ frames := 2, cells := 0, slots := 0, locals := 27 } : Room) Z consts_1 vm0 h0 #[(.int (Int32.ofNat i)), (.ref b)] (fun rv vm h => rv = none ∧ h0 = h) := by
  obtain ⟨hw, hEL, ⟨zc, Scs, hzc⟩, ⟨fm, Sfm, hfm⟩, Sad, Shi, Slo⟩ := id cx
  have hSA := own_SA hw
  refine Met.of_walk (a0 := a0) #[vi (Int32.ofNat i), vr b] (plainFor_of_name own_pn15) X00 hEL (fun m => by first | (simp [entryFrame, mkF, argsToLocals, Value.category]; done) | rfl) ?_
  intro p e s m below meth c vm hx hby hml hret hnm hC0 hW0
  have lt_b : h0.size > b := P0.lt
  refine uIN 1 hx hby d248 rfl rfl ?_
  refine uAN 2 hx hby d249 rfl rfl rfl ?_
  refine ginfo fun _ _ O1 => ?_
  refine gcallS (y := mn247) hx (ow hw 129 rfl) (ow hw 130 rfl) (ow hw 73 rfl) (ow hw 131 rfl) (by decide) (fun hZ H hEL => Pay.of_met (W := 1) (own_ulen l Z a0 cx [] (b) (kb) (cs) vm h0 O1 P0 (by first | assumption | decide | omega)) (ow hw 131 rfl) (ow hw 73 rfl) (by decide) (by decide) hZ H hEL) 5 (argsL := [(.ref b)]) (rest := [(.int (Int32.ofNat i))]) (lenOf own_pd251 rfl) rfl rfl (Nat.le_of_eq rfl) (by rw [hml]; rfl) (hb hby d250) rfl (by decide) (by decide) ?_
  rintro _ vm1 h1 C1 ⟨rfl, rfl⟩
  have z1 := C1.2.1
  refine gat1 ?_
  refine ginfo fun _ _ O2 => ?_
  refine gcallS (y := mn227) hx (ow hw 132 rfl) (ow hw 116 rfl) (ow hw 17 rfl) (ow hw 117 rfl) (by decide) (fun hZ H hEL => Pay.of_met (W := 0) (own_cki l Z a0 cx [] (i) (cs.length) vm1 h0 O2 (by first | assumption | decide | omega) (by first | assumption | decide | omega)) (ow hw 117 rfl) (ow hw 17 rfl) (by decide) (by decide) hZ H hEL) 8 (argsL := [(.int (Int32.ofNat i)), (.int (Int32.ofNat cs.length))]) (rest := []) (lenOf own_pd232 rfl) rfl rfl (Nat.le_of_eq rfl) (by rw [hml]; rfl) (hb hby d252) rfl (by decide) (by decide) ?_
  rintro _ vm2 h2 C2 ⟨rfl, rfl⟩
  have z2 := C2.2.1
  refine gat0 ?_
  exact gretV hx hret (hb hby d253) (by decide) (by decide) (fun vq Cq => ⟨rfl, rfl⟩)
theorem own_ugc (l : Launch) (Z : State) (a0 : Array Value) (cx : Ctx Z a0) (ws : List Jvm.Cond) (b : Addr) (kb : ClassId) (cs : List Int32) (i : Nat) (vm0 : Vm) (h0 : Heap) (X00 : Ext Z.heap h0) (P0 : Arv Z h0 b kb .byte (Int32.ofNat (2 * cs.length)) (own_prs cs) (.int (0 : Int32))) (hi : (i < cs.length)) (hn : (cs.length ≤ 4)) (h16 : (∀ c ∈ cs, ¬ c < 0 ∧ ¬ (65535 : Int32) < c)) :
    Met l mn90 y18_ 2 (some .char) ws ({ frames := 0, cells := 0, slots := 0, locals := 0 } : Room) Z consts_1 vm0 h0 #[(.ref b), (.int (Int32.ofNat i))] (fun rv vm h => rv = some (.int (cs.getD i 0)) ∧ h0 = h) := by
  obtain ⟨hw, hEL, ⟨zc, Scs, hzc⟩, ⟨fm, Sfm, hfm⟩, Sad, Shi, Slo⟩ := id cx
  have hSA := own_SA hw
  refine Met.of_walk (a0 := a0) #[vr b, vi (Int32.ofNat i)] (plainFor_of_name own_pn15) X00 hEL (fun m => by first | (simp [entryFrame, mkF, argsToLocals, Value.category]; done) | rfl) ?_
  intro p e s m below meth c vm hx hby hml hret hnm hC0 hW0
  have lt_b : h0.size > b := P0.lt
  refine ggetS (host := "") hx (Or.inl (ow hw 91 rfl)) Via.refl Sad 3 (hb hby d66) rfl ?_
  refine uY 28 hx hby d67 ((if0 _ _).trans (feq (by decide)).2) (by decide) (by decide) ?_
  refine uIN 29 hx hby d68 rfl rfl ?_
  refine uKc 30 (1 : Int32) hx hby d69 rfl rfl ?_
  refine gs (mkF m 31 #[vr b, vi (Int32.ofNat i)] [(.int ((Int32.ofNat i) <<< ((1 : Int32) &&& 31)))]) (fun _ _ A kq => XS.ishl A hx rfl (hb hby d70) rfl kq) ?_
  refine gat (mkF m 31 #[vr b, vi (Int32.ofNat i)] [(.int (Int32.ofNat (2 * i)))]) (by rw [own_shl1 i (by omega)]) ?_
  refine uSIN 32 #[vr b, vi (Int32.ofNat (2 * i))] hx hby d71 rfl rfl ?_
  refine uAN 33 hx hby d72 rfl rfl rfl ?_
  refine uIN 34 hx hby d73 rfl rfl ?_
  refine uInc 37 #[vr b, vi ((Int32.ofNat (2 * i)) + (1 : Int32))] hx hby d74 rfl rfl rfl ?_
  refine gat (mkF m 37 #[vr b, vi (Int32.ofNat (2 * i + 1))] [(.int (Int32.ofNat (2 * i))), (.ref b)]) (by rw [own_add1 (by omega)]) ?_
  refine gldB hx P0 ⟨nn0 (by omega), (ltOf (by omega) (by omega)).mpr (by omega)⟩ (i := (2 * i)) (tn (by omega)) (v := (.int (((cs.getD i 0) >>> ((0 : Int32) &&& 31)).toInt8.toInt32))) (own_prsg _ _ hi).1 38 (hb hby d75) rfl ?_
  refine uKs 41 (255 : Int32) hx hby d76 rfl rfl ?_
  refine uiand 42 ((((cs.getD i 0) >>> ((0 : Int32) &&& 31)).toInt8.toInt32) &&& (255 : Int32)) hx hby d77 rfl rfl ?_
  refine ggetS (host := "") hx (Or.inl (ow hw 92 rfl)) Via.refl Shi 45 (hb hby d78) rfl ?_
  refine gs (mkF m 46 #[vr b, vi (Int32.ofNat (2 * i + 1))] [(.int (((((cs.getD i 0) >>> ((0 : Int32) &&& 31)).toInt8.toInt32) &&& (255 : Int32)) <<< ((0 : Int32) &&& 31)))]) (fun _ _ A kq => XS.ishl A hx rfl (hb hby d79) rfl kq) ?_
  refine uAN 47 hx hby d80 rfl rfl rfl ?_
  refine uIN 48 hx hby d81 rfl rfl ?_
  refine gldB hx P0 ⟨nn0 (by omega), (ltOf (by omega) (by omega)).mpr (by omega)⟩ (i := (2 * i + 1)) (tn (by omega)) (v := (.int (((cs.getD i 0) >>> ((8 : Int32) &&& 31)).toInt8.toInt32))) (own_prsg _ _ hi).2 49 (hb hby d82) rfl ?_
  refine uKs 52 (255 : Int32) hx hby d83 rfl rfl ?_
  refine uiand 53 ((((cs.getD i 0) >>> ((8 : Int32) &&& 31)).toInt8.toInt32) &&& (255 : Int32)) hx hby d84 rfl rfl ?_
  refine ggetS (host := "") hx (Or.inl (ow hw 93 rfl)) Via.refl Slo 56 (hb hby d85) rfl ?_
  refine gs (mkF m 57 #[vr b, vi (Int32.ofNat (2 * i + 1))] [(.int (((((cs.getD i 0) >>> ((8 : Int32) &&& 31)).toInt8.toInt32) &&& (255 : Int32)) <<< ((8 : Int32) &&& 31))), (.int (((((cs.getD i 0) >>> ((0 : Int32) &&& 31)).toInt8.toInt32) &&& (255 : Int32)) <<< ((0 : Int32) &&& 31)))]) (fun _ _ A kq => XS.ishl A hx rfl (hb hby d86) rfl kq) ?_
  refine uior 58 ((((((cs.getD i 0) >>> ((0 : Int32) &&& 31)).toInt8.toInt32) &&& (255 : Int32)) <<< ((0 : Int32) &&& 31)) ||| (((((cs.getD i 0) >>> ((8 : Int32) &&& 31)).toInt8.toInt32) &&& (255 : Int32)) <<< ((8 : Int32) &&& 31))) hx hby d87 rfl rfl ?_
  refine gi2c hx rfl 59 (hb hby d88) rfl ?_
  exact gretN (t := .char) hx hret (by simp) (hb hby d89) (by decide) (by decide) (fun vq Cq => ⟨(congrArg (fun z => some (Value.int z)) ((narC2 _).trans (own_pairE (h16 _ (own_mem hi))))), rfl⟩)
theorem own_nar16 {c : Int32} (h : ¬ c < 0 ∧ ¬ (65535 : Int32) < c) : nar .char c = c := by
  show c.toUInt32.toUInt16.toUInt32.toInt32 = c
  have q := c_i2c c
  have e0 : (0 : Int32).toInt = 0 := rfl
  have e2 : (65535 : Int32).toInt = 65535 := rfl
  obtain ⟨r1, r2⟩ := h
  rw [Int32.lt_iff_toInt_lt, e0] at r1
  rw [Int32.lt_iff_toInt_lt, e2] at r2
  apply Int32.toInt_inj.mp
  omega
theorem d255 : decode y20_ 0 = .ok (.iload_n 1, 1) := by decide +kernel
theorem d256 : decode y20_ 1 = .ok (.aload_n 0, 1) := by decide +kernel
theorem d257 : decode y20_ 2 = .ok (.invokestatic 67, 3) := by decide +kernel
theorem own_pd258 : parseMethodDescriptor "(I[B)V" = some ⟨[.int, (.array .byte)], none⟩ := by decide +kernel
theorem d259 : decode y20_ 5 = .ok (.aload_n 0, 1) := by decide +kernel
theorem d260 : decode y20_ 6 = .ok (.iload_n 1, 1) := by decide +kernel
theorem d261 : decode y20_ 7 = .ok (.invokestatic 71, 3) := by decide +kernel
theorem d262 : decode y20_ 10 = .ok (.ireturn, 1) := by decide +kernel
abbrev mn263 : MethodName := ⟨"java/lang/StringUTF16", "charAt", "([BI)C"⟩
theorem own_uca (l : Launch) (Z : State) (a0 : Array Value) (cx : Ctx Z a0) (ws : List Jvm.Cond) (b : Addr) (kb : ClassId) (cs : List Int32) (i : Nat) (vm0 : Vm) (h0 : Heap) (X00 : Ext Z.heap h0) (P0 : Arv Z h0 b kb .byte (Int32.ofNat (2 * cs.length)) (own_prs cs) (.int (0 : Int32))) (hi : (i < cs.length)) (hn : (cs.length ≤ 4)) (h16 : (∀ c ∈ cs, ¬ c < 0 ∧ ¬ (65535 : Int32) < c)) :
    Met l mn263 y20_ 2 (some .char) ws ({ frames := 3, cells := 0, slots := 0, locals := 40 } : Room) Z consts_1 vm0 h0 #[(.ref b), (.int (Int32.ofNat i))] (fun rv vm h => rv = some (.int (cs.getD i 0)) ∧ h0 = h) := by
  obtain ⟨hw, hEL, ⟨zc, Scs, hzc⟩, ⟨fm, Sfm, hfm⟩, Sad, Shi, Slo⟩ := id cx
  have hSA := own_SA hw
  refine Met.of_walk (a0 := a0) #[vr b, vi (Int32.ofNat i)] (plainFor_of_name own_pn15) X00 hEL (fun m => by first | (simp [entryFrame, mkF, argsToLocals, Value.category]; done) | rfl) ?_
  intro p e s m below meth c vm hx hby hml hret hnm hC0 hW0
  have lt_b : h0.size > b := P0.lt
  refine uIN 1 hx hby d255 rfl rfl ?_
  refine uAN 2 hx hby d256 rfl rfl rfl ?_
  refine ginfo fun _ _ O1 => ?_
  refine gcallS (y := mn254) hx (ow hw 126 rfl) (ow hw 127 rfl) (ow hw 73 rfl) (ow hw 128 rfl) (by decide) (fun hZ H hEL => Pay.of_met (W := 0) (own_ucki l Z a0 cx [] (b) (kb) (cs) (i) vm h0 O1 P0 (by first | assumption | decide | omega) (by first | assumption | decide | omega)) (ow hw 128 rfl) (ow hw 73 rfl) (by decide) (by decide) hZ H hEL) 5 (argsL := [(.int (Int32.ofNat i)), (.ref b)]) (rest := []) (lenOf own_pd258 rfl) rfl rfl (Nat.le_of_eq rfl) (by rw [hml]; rfl) (hb hby d257) rfl (by decide) (by decide) ?_
  rintro _ vm1 h1 C1 ⟨rfl, rfl⟩
  have z1 := C1.2.1
  refine gat0 ?_
  refine uAN 6 hx hby d259 rfl rfl rfl ?_
  refine uIN 7 hx hby d260 rfl rfl ?_
  refine ginfo fun _ _ O2 => ?_
  refine gcallS (y := mn90) hx (ow hw 94 rfl) (ow hw 95 rfl) (ow hw 73 rfl) (ow hw 96 rfl) (by decide) (fun hZ H hEL => Pay.of_met (W := 0) (own_ugc l Z a0 cx [] (b) (kb) (cs) (i) vm1 h0 O2 P0 (by first | assumption | decide | omega) (by first | assumption | decide | omega) (by first | assumption | decide | omega)) (ow hw 96 rfl) (ow hw 73 rfl) (by decide) (by decide) hZ H hEL) 10 (argsL := [(.ref b), (.int (Int32.ofNat i))]) (rest := []) (lenOf own_pd136 rfl) rfl rfl (Nat.le_of_eq rfl) (by rw [hml]; rfl) (hb hby d261) rfl (by decide) (by decide) ?_
  rintro _ vm2 h2 C2 ⟨rfl, rfl⟩
  have z2 := C2.2.1
  refine gat1 ?_
  exact gretN (t := .char) hx hret (by simp) (hb hby d262) (by decide) (by decide) (fun vq Cq => ⟨(congrArg (fun z => some (Value.int z)) (own_nar16 (h16 _ (own_mem hi)))), rfl⟩)
theorem d264 : decode y5_ 0 = .ok (.getstatic 38, 3) := by decide +kernel
theorem d265 : decode y5_ 3 = .ok (.ifCond .eq 14, 3) := by decide +kernel
theorem d266 : decode y5_ 6 = .ok (.aload_n 0, 1) := by decide +kernel
theorem d267 : decode y5_ 7 = .ok (.getfield 15, 3) := by decide +kernel
theorem d268 : decode y5_ 10 = .ok (.ifCond .ne 7, 3) := by decide +kernel
theorem d269 : decode y5_ 13 = .ok (.iconst 1, 1) := by decide +kernel
theorem d270 : decode y5_ 14 = .ok (.goto 4, 3) := by decide +kernel
theorem d271 : decode y5_ 18 = .ok (.ireturn, 1) := by decide +kernel
abbrev mn272 : MethodName := ⟨"java/lang/String", "isLatin1", "()Z"⟩
theorem own_isl0 (l : Launch) (Z : State) (a0 : Array Value) (cx : Ctx Z a0) (ws : List Jvm.Cond) (x : Addr) (vm0 : Vm) (h0 : Heap) (X00 : Ext Z.heap h0) (P0 : Fld Z h0 x c0_ "coder" "B" (.int (0 : Int32))) :
    Met l mn272 y5_ 1 (some .boolean) ws ({ frames := 0, cells := 0, slots := 0, locals := 0 } : Room) Z consts_1 vm0 h0 #[(.ref x)] (fun rv vm h => rv = some (.int (1 : Int32)) ∧ h0 = h) := by
  obtain ⟨hw, hEL, ⟨zc, Scs, hzc⟩, ⟨fm, Sfm, hfm⟩, Sad, Shi, Slo⟩ := id cx
  have hSA := own_SA hw
  refine Met.of_walk (a0 := a0) #[vr x] (plainFor_of_name own_pn175) X00 hEL (fun m => by first | (simp [entryFrame, mkF, argsToLocals, Value.category]; done) | rfl) ?_
  intro p e s m below meth c vm hx hby hml hret hnm hC0 hW0
  have lt_x : h0.size > x := P0.lt
  refine ggetS (host := "") hx (Or.inl (ow hw 50 rfl)) Via.refl Scs 3 (hb hby d264) rfl ?_
  refine uN 6 hx hby d265 rfl ((if0 _ _).trans (feq hzc).1) ?_
  refine uAN 7 hx hby d266 rfl rfl rfl ?_
  refine ggetF (host := "") hx (Or.inl (ow hw 35 rfl)) Via.refl P0 10 (hb hby d267) rfl ?_
  refine uN 13 hx hby d268 rfl ((if0 _ _).trans (teq (by decide)).2) ?_
  refine uKc 14 (1 : Int32) hx hby d269 rfl rfl ?_
  refine uG 18 hx hby d270 (by decide) (by decide) ?_
  exact gretN (t := .boolean) hx hret (by simp) (hb hby d271) (by decide) (by decide) (fun vq Cq => ⟨rfl, rfl⟩)
theorem d273 : decode y5_ 17 = .ok (.iconst 0, 1) := by decide +kernel
theorem own_isl1 (l : Launch) (Z : State) (a0 : Array Value) (cx : Ctx Z a0) (ws : List Jvm.Cond) (x : Addr) (vm0 : Vm) (h0 : Heap) (X00 : Ext Z.heap h0) (P0 : Fld Z h0 x c0_ "coder" "B" (.int (1 : Int32))) :
    Met l mn272 y5_ 1 (some .boolean) ws ({ frames := 0, cells := 0, slots := 0, locals := 0 } : Room) Z consts_1 vm0 h0 #[(.ref x)] (fun rv vm h => rv = some (.int (0 : Int32)) ∧ h0 = h) := by
  obtain ⟨hw, hEL, ⟨zc, Scs, hzc⟩, ⟨fm, Sfm, hfm⟩, Sad, Shi, Slo⟩ := id cx
  have hSA := own_SA hw
  refine Met.of_walk (a0 := a0) #[vr x] (plainFor_of_name own_pn175) X00 hEL (fun m => by first | (simp [entryFrame, mkF, argsToLocals, Value.category]; done) | rfl) ?_
  intro p e s m below meth c vm hx hby hml hret hnm hC0 hW0
  have lt_x : h0.size > x := P0.lt
  refine ggetS (host := "") hx (Or.inl (ow hw 50 rfl)) Via.refl Scs 3 (hb hby d264) rfl ?_
  refine uN 6 hx hby d265 rfl ((if0 _ _).trans (feq hzc).1) ?_
  refine uAN 7 hx hby d266 rfl rfl rfl ?_
  refine ggetF (host := "") hx (Or.inl (ow hw 35 rfl)) Via.refl P0 10 (hb hby d267) rfl ?_
  refine uY 17 hx hby d268 ((if0 _ _).trans (feq (by decide)).2) (by decide) (by decide) ?_
  refine uKc 18 (0 : Int32) hx hby d273 rfl rfl ?_
  exact gretN (t := .boolean) hx hret (by simp) (hb hby d271) (by decide) (by decide) (fun vq Cq => ⟨rfl, rfl⟩)
theorem d274 : decode y9_ 0 = .ok (.aload_n 0, 1) := by decide +kernel
theorem d275 : decode y9_ 1 = .ok (.invokevirtual 492, 3) := by decide +kernel
theorem own_pd276 : parseMethodDescriptor "()Z" = some ⟨[], some .boolean⟩ := by decide +kernel
theorem d277 : decode y9_ 4 = .ok (.ifCond .eq 12, 3) := by decide +kernel
theorem d278 : decode y9_ 7 = .ok (.aload_n 0, 1) := by decide +kernel
theorem d279 : decode y9_ 8 = .ok (.getfield 9, 3) := by decide +kernel
theorem d280 : decode y9_ 11 = .ok (.iload_n 1, 1) := by decide +kernel
theorem d281 : decode y9_ 12 = .ok (.invokestatic 495, 3) := by decide +kernel
theorem d282 : decode y9_ 15 = .ok (.ireturn, 1) := by decide +kernel
theorem d283 : decode y9_ 16 = .ok (.aload_n 0, 1) := by decide +kernel
theorem d284 : decode y9_ 17 = .ok (.getfield 9, 3) := by decide +kernel
theorem d285 : decode y9_ 20 = .ok (.iload_n 1, 1) := by decide +kernel
theorem d286 : decode y9_ 21 = .ok (.invokestatic 498, 3) := by decide +kernel
theorem d287 : decode y9_ 24 = .ok (.ireturn, 1) := by decide +kernel
abbrev mn288 : MethodName := ⟨"java/lang/String", "charAt", "(I)C"⟩
theorem own_charAt (l : Launch) (Z : State) (a0 : Array Value) (cx : Ctx Z a0) (ws : List Jvm.Cond) (x : Addr) (t : Addr) (cs : List Int32) (i : Nat) (vm0 : Vm) (h0 : Heap) (X00 : Ext Z.heap h0) (P0 : Txt Z h0 x t cs) (hi : (i < cs.length)) :
    Met l mn288 y9_ 2 (some .char) ws ({ frames := 4, cells := 0, slots := 0, locals := 53 } : Room) Z consts_1 vm0 h0 #[(.ref x), (.int (Int32.ofNat i))] (fun rv vm h => rv = some (.int (cs.getD i 0)) ∧ h0 = h) := by
  obtain ⟨hw, hEL, ⟨zc, Scs, hzc⟩, ⟨fm, Sfm, hfm⟩, Sad, Shi, Slo⟩ := id cx
  have hSA := own_SA hw
  refine Met.of_walk (a0 := a0) #[vr x, vi (Int32.ofNat i)] (plainFor_of_name own_pn175) X00 hEL (fun m => by first | (simp [entryFrame, mkF, argsToLocals, Value.category]; done) | rfl) ?_
  intro p e s m below meth c vm hx hby hml hret hnm hC0 hW0
  have lt_t : h0.size > t := P0.tlt
  have lt_x : h0.size > x := P0.1.lt
  obtain ⟨eE, eV, eL, e16, eD⟩ := P0
  rcases eD with ⟨eC, eB, kz, eA⟩ | ⟨eC, kz, eA⟩
  · refine uAN 1 hx hby d274 rfl rfl rfl ?_
    refine ginfo fun _ _ O1 => ?_
    refine gcallV (y := mn272) (z := mn272) hx (ow hw 106 rfl) (ow hw 107 rfl) (nfSel (ow hw 109 rfl)) (ow hw 109 rfl) (ow hw 108 rfl) (by decide) (fun hZ H hEL => Pay.of_met (W := 0) (own_isl0 l Z a0 cx [] (x) vm h0 O1 eC) (ow hw 110 rfl) (ow hw 17 rfl) (by decide) (by decide) hZ H hEL) 4 (argsL := []) (rest := []) eE (lenOf own_pd276 rfl) rfl rfl (Nat.le_of_eq rfl) (by rw [hml]; rfl) (hb hby d275) rfl (by decide) (by decide) ?_
    rintro _ vm1 h1 C1 ⟨rfl, rfl⟩
    have z1 := C1.2.1
    refine gat1 ?_
    refine uN 7 hx hby d277 rfl ((if0 _ _).trans (feq (by decide)).1) ?_
    refine uAN 8 hx hby d278 rfl rfl rfl ?_
    refine ggetF (host := "") hx (Or.inl (ow hw 34 rfl)) Via.refl eV 11 (hb hby d279) rfl ?_
    refine uIN 12 hx hby d280 rfl rfl ?_
    refine ginfo fun _ _ O2 => ?_
    refine gcallS (y := mn240) hx (ow hw 111 rfl) (ow hw 112 rfl) (ow hw 113 rfl) (ow hw 114 rfl) (by decide) (fun hZ H hEL => Pay.of_met (W := 0) (own_l1ch l Z a0 cx [] (t) (kz) (cs) (i) vm1 h0 O2 eA (by first | assumption | decide | omega) (by first | assumption | decide | omega) (by first | assumption | decide | omega)) (ow hw 114 rfl) (ow hw 113 rfl) (by decide) (by decide) hZ H hEL) 15 (argsL := [(.ref t), (.int (Int32.ofNat i))]) (rest := []) (lenOf own_pd136 rfl) rfl rfl (Nat.le_of_eq rfl) (by rw [hml]; rfl) (hb hby d281) rfl (by decide) (by decide) ?_
    rintro _ vm2 h2 C2 ⟨rfl, rfl⟩
    have z2 := C2.2.1
    refine gat1 ?_
    exact gretN (t := .char) hx hret (by simp) (hb hby d282) (by decide) (by decide) (fun vq Cq => ⟨(congrArg (fun z => some (Value.int z)) (own_nar16 (e16 _ (own_mem hi)))), rfl⟩)
  · refine uAN 1 hx hby d274 rfl rfl rfl ?_
    refine ginfo fun _ _ O4 => ?_
    refine gcallV (y := mn272) (z := mn272) hx (ow hw 106 rfl) (ow hw 107 rfl) (nfSel (ow hw 109 rfl)) (ow hw 109 rfl) (ow hw 108 rfl) (by decide) (fun hZ H hEL => Pay.of_met (W := 0) (own_isl1 l Z a0 cx [] (x) vm h0 O4 eC) (ow hw 110 rfl) (ow hw 17 rfl) (by decide) (by decide) hZ H hEL) 4 (argsL := []) (rest := []) eE (lenOf own_pd276 rfl) rfl rfl (Nat.le_of_eq rfl) (by rw [hml]; rfl) (hb hby d275) rfl (by decide) (by decide) ?_
    rintro _ vm4 h4 C4 ⟨rfl, rfl⟩
    have z4 := C4.2.1
    refine gat1 ?_
    refine uY 16 hx hby d277 ((if0 _ _).trans (teq (by decide)).1) (by decide) (by decide) ?_
    refine uAN 17 hx hby d283 rfl rfl rfl ?_
    refine ggetF (host := "") hx (Or.inl (ow hw 34 rfl)) Via.refl eV 20 (hb hby d284) rfl ?_
    refine uIN 21 hx hby d285 rfl rfl ?_
    refine ginfo fun _ _ O5 => ?_
    refine gcallS (y := mn263) hx (ow hw 123 rfl) (ow hw 124 rfl) (ow hw 73 rfl) (ow hw 125 rfl) (by decide) (fun hZ H hEL => Pay.of_met (W := 0) (own_uca l Z a0 cx [] (t) (kz) (cs) (i) vm4 h0 O5 eA (by first | assumption | decide | omega) (by first | assumption | decide | omega) (by first | assumption | decide | omega)) (ow hw 125 rfl) (ow hw 73 rfl) (by decide) (by decide) hZ H hEL) 24 (argsL := [(.ref t), (.int (Int32.ofNat i))]) (rest := []) (lenOf own_pd136 rfl) rfl rfl (Nat.le_of_eq rfl) (by rw [hml]; rfl) (hb hby d286) rfl (by decide) (by decide) ?_
    rintro _ vm5 h5 C5 ⟨rfl, rfl⟩
    have z5 := C5.2.1
    refine gat1 ?_
    exact gretN (t := .char) hx hret (by simp) (hb hby d287) (by decide) (by decide) (fun vq Cq => ⟨(congrArg (fun z => some (Value.int z)) (own_nar16 (e16 _ (own_mem hi)))), rfl⟩)
def own_cmpI (x y : Int32) : Int32 := if x < y then (-1 : Int32) else if x = y then (0 : Int32) else (1 : Int32)
def own_sur (c : Int32) : Int32 := if c < (55296 : Int32) then (0 : Int32) else if c < (57344 : Int32) then (1 : Int32) else (0 : Int32)
def own_ord (c : Int32) : Int32 := if own_sur c = (0 : Int32) then (if c < (57344 : Int32) then c else c - (2048 : Int32)) else c + (8192 : Int32)
def own_ccx : Nat → Nat → List Int32 → List Int32 → Int32
  | 0, _, cs, ds => own_cmpI (Int32.ofNat cs.length) (Int32.ofNat ds.length)
  | f + 1, k, cs, ds => if k < min cs.length ds.length then (if cs.getD k 0 = ds.getD k 0 then own_ccx f (k + 1) cs ds else own_cmpI (own_ord (cs.getD k 0)) (own_ord (ds.getD k 0))) else own_cmpI (Int32.ofNat cs.length) (Int32.ofNat ds.length)
theorem own_ccx_s (f k : Nat) (cs ds : List Int32) : own_ccx (f + 1) k cs ds = if k < min cs.length ds.length then (if cs.getD k 0 = ds.getD k 0 then own_ccx f (k + 1) cs ds else own_cmpI (own_ord (cs.getD k 0)) (own_ord (ds.getD k 0))) else own_cmpI (Int32.ofNat cs.length) (Int32.ofNat ds.length) := rfl
theorem d289 : decode y1_ 0 = .ok (.iload_n 0, 1) := by decide +kernel
theorem d290 : decode y1_ 1 = .ok (.iload_n 1, 1) := by decide +kernel
theorem d291 : decode y1_ 2 = .ok (.if_icmp .ge 7, 3) := by decide +kernel
theorem d292 : decode y1_ 5 = .ok (.iconst (-1), 1) := by decide +kernel
theorem d293 : decode y1_ 6 = .ok (.goto 13, 3) := by decide +kernel
theorem d294 : decode y1_ 19 = .ok (.ireturn, 1) := by decide +kernel
theorem d295 : decode y1_ 9 = .ok (.iload_n 0, 1) := by decide +kernel
theorem d296 : decode y1_ 10 = .ok (.iload_n 1, 1) := by decide +kernel
theorem d297 : decode y1_ 11 = .ok (.if_icmp .ne 7, 3) := by decide +kernel
theorem d298 : decode y1_ 14 = .ok (.iconst 0, 1) := by decide +kernel
theorem d299 : decode y1_ 15 = .ok (.goto 4, 3) := by decide +kernel
theorem d300 : decode y1_ 18 = .ok (.iconst 1, 1) := by decide +kernel
abbrev mn301 : MethodName := ⟨"java/lang/Integer", "compare", "(II)I"⟩
theorem own_pn302 : plainName "java/lang/Integer" = true := by first | (simp [plainName, overriddenIn]; done) | decide +kernel
theorem own_icmp (l : Launch) (Z : State) (a0 : Array Value) (cx : Ctx Z a0) (ws : List Jvm.Cond) (x : Int32) (y : Int32) (vm0 : Vm) (h0 : Heap) (X00 : Ext Z.heap h0)  :
    Met l mn301 y1_ 2 (some .int) ws ({ frames := 0, cells := 0, slots := 0, locals := 0 } : Room) Z consts_1 vm0 h0 #[(.int x), (.int y)] (fun rv vm h => rv = some (.int (own_cmpI x y)) ∧ h0 = h) := by
  obtain ⟨hw, hEL, ⟨zc, Scs, hzc⟩, ⟨fm, Sfm, hfm⟩, Sad, Shi, Slo⟩ := id cx
  have hSA := own_SA hw
  refine Met.of_walk (a0 := a0) #[vi x, vi y] (plainFor_of_name own_pn302) X00 hEL (fun m => by first | (simp [entryFrame, mkF, argsToLocals, Value.category]; done) | rfl) ?_
  intro p e s m below meth c vm hx hby hml hret hnm hC0 hW0
  refine uIN 1 hx hby d289 rfl rfl ?_
  refine uIN 2 hx hby d290 rfl rfl ?_
  by_cases g1 : x < y
  · refine uNc 5 hx hby d291 rfl (tlt g1).2.1 ?_
    refine uKc 6 (-1 : Int32) hx hby d292 rfl rfl ?_
    refine uG 19 hx hby d293 (by decide) (by decide) ?_
    exact gretI hx hret (hb hby d294) (by decide) (by decide) (fun vq Cq => ⟨(congrArg (fun z => some (Value.int z)) (by rw [own_cmpI, if_pos g1])), rfl⟩)
  · refine uYc 9 hx hby d291 (flt g1).2.1 (by decide) (by decide) ?_
    refine uIN 10 hx hby d295 rfl rfl ?_
    refine uIN 11 hx hby d296 rfl rfl ?_
    by_cases g2 : x = y
    · refine uNc 14 hx hby d297 rfl (teq g2).2 ?_
      refine uKc 15 (0 : Int32) hx hby d298 rfl rfl ?_
      refine uG 19 hx hby d299 (by decide) (by decide) ?_
      exact gretI hx hret (hb hby d294) (by decide) (by decide) (fun vq Cq => ⟨(congrArg (fun z => some (Value.int z)) (by rw [own_cmpI, if_neg g1, if_pos g2])), rfl⟩)
    · refine uYc 18 hx hby d297 (feq g2).2 (by decide) (by decide) ?_
      refine uKc 19 (1 : Int32) hx hby d300 rfl rfl ?_
      exact gretI hx hret (hb hby d294) (by decide) (by decide) (fun vq Cq => ⟨(congrArg (fun z => some (Value.int z)) (by rw [own_cmpI, if_neg g1, if_neg g2])), rfl⟩)
theorem d303 : decode y22_ 0 = .ok (.iload_n 0, 1) := by decide +kernel
theorem d304 : decode y22_ 1 = .ok (.ldc 75, 2) := by decide +kernel
theorem d305 : decode y22_ 3 = .ok (.if_icmp .lt 13, 3) := by decide +kernel
theorem d306 : decode y22_ 16 = .ok (.iconst 0, 1) := by decide +kernel
theorem d307 : decode y22_ 17 = .ok (.ireturn, 1) := by decide +kernel
theorem d308 : decode y22_ 6 = .ok (.iload_n 0, 1) := by decide +kernel
theorem d309 : decode y22_ 7 = .ok (.ldc 77, 2) := by decide +kernel
theorem d310 : decode y22_ 9 = .ok (.if_icmp .ge 7, 3) := by decide +kernel
theorem d311 : decode y22_ 12 = .ok (.iconst 1, 1) := by decide +kernel
theorem d312 : decode y22_ 13 = .ok (.goto 4, 3) := by decide +kernel
abbrev mn313 : MethodName := ⟨"java/lang/Character", "isSurrogate", "(C)Z"⟩
theorem own_pn314 : plainName "java/lang/Character" = true := by first | (simp [plainName, overriddenIn]; done) | decide +kernel
theorem own_issur (l : Launch) (Z : State) (a0 : Array Value) (cx : Ctx Z a0) (ws : List Jvm.Cond) (x : Int32) (vm0 : Vm) (h0 : Heap) (X00 : Ext Z.heap h0)  :
    Met l mn313 y22_ 1 (some .boolean) ws ({ frames := 0, cells := 0, slots := 0, locals := 0 } : Room) Z consts_1 vm0 h0 #[(.int x)] (fun rv vm h => rv = some (.int (own_sur x)) ∧ h0 = h) := by
  obtain ⟨hw, hEL, ⟨zc, Scs, hzc⟩, ⟨fm, Sfm, hfm⟩, Sad, Shi, Slo⟩ := id cx
  have hSA := own_SA hw
  refine Met.of_walk (a0 := a0) #[vi x] (plainFor_of_name own_pn314) X00 hEL (fun m => by first | (simp [entryFrame, mkF, argsToLocals, Value.category]; done) | rfl) ?_
  intro p e s m below meth c vm hx hby hml hret hnm hC0 hW0
  refine uIN 1 hx hby d303 rfl rfl ?_
  refine gldcI hx (ow hw 140 rfl) 3 (hb hby d304) rfl ?_
  by_cases g1 : x < (55296 : Int32)
  · refine uYc 16 hx hby d305 (tlt g1).1 (by decide) (by decide) ?_
    refine uKc 17 (0 : Int32) hx hby d306 rfl rfl ?_
    exact gretN (t := .boolean) hx hret (by simp) (hb hby d307) (by decide) (by decide) (fun vq Cq => ⟨(congrArg (fun z => some (Value.int z)) (by rw [own_sur, if_pos g1]; rfl)), rfl⟩)
  · refine uNc 6 hx hby d305 rfl (flt g1).1 ?_
    refine uIN 7 hx hby d308 rfl rfl ?_
    refine gldcI hx (ow hw 142 rfl) 9 (hb hby d309) rfl ?_
    by_cases g2 : x < (57344 : Int32)
    · refine uNc 12 hx hby d310 rfl (tlt g2).2.1 ?_
      refine uKc 13 (1 : Int32) hx hby d311 rfl rfl ?_
      refine uG 17 hx hby d312 (by decide) (by decide) ?_
      exact gretN (t := .boolean) hx hret (by simp) (hb hby d307) (by decide) (by decide) (fun vq Cq => ⟨(congrArg (fun z => some (Value.int z)) (by rw [own_sur, if_neg g1, if_pos g2]; rfl)), rfl⟩)
    · refine uYc 16 hx hby d310 (flt g2).2.1 (by decide) (by decide) ?_
      refine uKc 17 (0 : Int32) hx hby d306 rfl rfl ?_
      exact gretN (t := .boolean) hx hret (by simp) (hb hby d307) (by decide) (by decide) (fun vq Cq => ⟨(congrArg (fun z => some (Value.int z)) (by rw [own_sur, if_neg g1, if_neg g2]; rfl)), rfl⟩)
theorem d315 : decode y31_ 0 = .ok (.iload_n 0, 1) := by decide +kernel
theorem d316 : decode y31_ 1 = .ok (.invokestatic 182, 3) := by decide +kernel
theorem own_pd317 : parseMethodDescriptor "(C)Z" = some ⟨[.char], some .boolean⟩ := by decide +kernel
theorem d318 : decode y31_ 4 = .ok (.ifCond .eq 12, 3) := by decide +kernel
theorem d319 : decode y31_ 16 = .ok (.iload_n 0, 1) := by decide +kernel
theorem d320 : decode y31_ 17 = .ok (.ldc 188, 2) := by decide +kernel
theorem d321 : decode y31_ 19 = .ok (.if_icmp .lt 12, 3) := by decide +kernel
theorem d322 : decode y31_ 31 = .ok (.iload_n 0, 1) := by decide +kernel
theorem d323 : decode y31_ 32 = .ok (.istore_n 1, 1) := by decide +kernel
theorem d324 : decode y31_ 33 = .ok (.iload_n 1, 1) := by decide +kernel
theorem d325 : decode y31_ 34 = .ok (.ireturn, 1) := by decide +kernel
theorem d326 : decode y31_ 22 = .ok (.iload_n 0, 1) := by decide +kernel
theorem d327 : decode y31_ 23 = .ok (.sipush 2048, 3) := by decide +kernel
theorem d328 : decode y31_ 26 = .ok (.isub, 1) := by decide +kernel
theorem d329 : decode y31_ 27 = .ok (.istore_n 1, 1) := by decide +kernel
theorem d330 : decode y31_ 28 = .ok (.goto 5, 3) := by decide +kernel
theorem d331 : decode y31_ 7 = .ok (.iload_n 0, 1) := by decide +kernel
theorem d332 : decode y31_ 8 = .ok (.sipush 8192, 3) := by decide +kernel
theorem d333 : decode y31_ 11 = .ok (.iadd, 1) := by decide +kernel
theorem d334 : decode y31_ 12 = .ok (.istore_n 1, 1) := by decide +kernel
theorem d335 : decode y31_ 13 = .ok (.goto 20, 3) := by decide +kernel
abbrev mn336 : MethodName := ⟨"com/example/headings_from_text/headingsfromtext/evaluation/TrecRun", "codePointOrder", "(C)I"⟩
theorem own_pn337 : plainName "com/example/headings_from_text/headingsfromtext/evaluation/TrecRun" = true := by first | (simp [plainName, overriddenIn]; done) | decide +kernel
theorem own_cpo (l : Launch) (Z : State) (a0 : Array Value) (cx : Ctx Z a0) (ws : List Jvm.Cond) (x : Int32) (vm0 : Vm) (h0 : Heap) (X00 : Ext Z.heap h0)  :
    Met l mn336 y31_ 2 (some .int) ws ({ frames := 1, cells := 0, slots := 0, locals := 12 } : Room) Z consts_1 vm0 h0 #[(.int x)] (fun rv vm h => rv = some (.int (own_ord x)) ∧ h0 = h) := by
  obtain ⟨hw, hEL, ⟨zc, Scs, hzc⟩, ⟨fm, Sfm, hfm⟩, Sad, Shi, Slo⟩ := id cx
  have hSA := own_SA hw
  refine Met.of_walk (a0 := a0) #[vi x, un] (plainFor_of_name own_pn337) X00 hEL (fun m => by first | (simp [entryFrame, mkF, argsToLocals, Value.category]; done) | rfl) ?_
  intro p e s m below meth c vm hx hby hml hret hnm hC0 hW0
  refine uIN 1 hx hby d315 rfl rfl ?_
  refine ginfo fun _ _ O1 => ?_
  refine gcallS (y := mn313) hx (ow hw 136 rfl) (ow hw 137 rfl) (ow hw 138 rfl) (ow hw 139 rfl) (by decide) (fun hZ H hEL => Pay.of_met (W := 0) (own_issur l Z a0 cx [] (x) vm h0 O1 ) (ow hw 139 rfl) (ow hw 138 rfl) (by decide) (by decide) hZ H hEL) 4 (argsL := [(.int x)]) (rest := []) (lenOf own_pd317 rfl) rfl rfl (Nat.le_of_eq rfl) (by rw [hml]; rfl) (hb hby d316) rfl (by decide) (by decide) ?_
  rintro _ vm1 h1 C1 ⟨rfl, rfl⟩
  have z1 := C1.2.1
  refine gat1 ?_
  by_cases g1 : (own_sur x) = (0 : Int32)
  · refine uY 16 hx hby d318 ((if0 _ _).trans (teq g1).1) (by decide) (by decide) ?_
    refine uIN 17 hx hby d319 rfl rfl ?_
    refine gldcI hx (ow hw 141 rfl) 19 (hb hby d320) rfl ?_
    by_cases g2 : x < (57344 : Int32)
    · refine uYc 31 hx hby d321 (tlt g2).1 (by decide) (by decide) ?_
      refine uIN 32 hx hby d322 rfl rfl ?_
      refine uSIN 33 #[vi x, vi x] hx hby d323 rfl rfl ?_
      refine uIN 34 hx hby d324 rfl rfl ?_
      exact gretI hx hret (hb hby d325) (by decide) (by decide) (fun vq Cq => ⟨(congrArg (fun z => some (Value.int z)) (by rw [own_ord, if_pos g1, if_pos g2])), rfl⟩)
    · refine uNc 22 hx hby d321 rfl (flt g2).1 ?_
      refine uIN 23 hx hby d326 rfl rfl ?_
      refine uKs 26 (2048 : Int32) hx hby d327 rfl rfl ?_
      refine uisub 27 (x - (2048 : Int32)) hx hby d328 rfl rfl ?_
      refine uSIN 28 #[vi x, vi (x - (2048 : Int32))] hx hby d329 rfl rfl ?_
      refine uG 33 hx hby d330 (by decide) (by decide) ?_
      refine uIN 34 hx hby d324 rfl rfl ?_
      exact gretI hx hret (hb hby d325) (by decide) (by decide) (fun vq Cq => ⟨(congrArg (fun z => some (Value.int z)) (by rw [own_ord, if_pos g1, if_neg g2])), rfl⟩)
  · refine uN 7 hx hby d318 rfl ((if0 _ _).trans (feq g1).1) ?_
    refine uIN 8 hx hby d331 rfl rfl ?_
    refine uKs 11 (8192 : Int32) hx hby d332 rfl rfl ?_
    refine uiadd 12 (x + (8192 : Int32)) hx hby d333 rfl rfl ?_
    refine uSIN 13 #[vi x, vi (x + (8192 : Int32))] hx hby d334 rfl rfl ?_
    refine uG 33 hx hby d335 (by decide) (by decide) ?_
    refine uIN 34 hx hby d324 rfl rfl ?_
    exact gretI hx hret (hb hby d325) (by decide) (by decide) (fun vq Cq => ⟨(congrArg (fun z => some (Value.int z)) (by rw [own_ord, if_neg g1])), rfl⟩)
theorem d338 : decode y0_ 0 = .ok (.iload_n 0, 1) := by decide +kernel
theorem d339 : decode y0_ 1 = .ok (.iload_n 1, 1) := by decide +kernel
theorem d340 : decode y0_ 2 = .ok (.if_icmp .gt 7, 3) := by decide +kernel
theorem d341 : decode y0_ 9 = .ok (.iload_n 1, 1) := by decide +kernel
theorem d342 : decode y0_ 10 = .ok (.ireturn, 1) := by decide +kernel
theorem d343 : decode y0_ 5 = .ok (.iload_n 0, 1) := by decide +kernel
theorem d344 : decode y0_ 6 = .ok (.goto 4, 3) := by decide +kernel
abbrev mn345 : MethodName := ⟨"java/lang/Math", "min", "(II)I"⟩
theorem own_pn346 : plainFor mn345 = true := by first | decide +kernel | (simp [plainFor, plainName, overriddenIn]; done)
theorem own_minN (l : Launch) (Z : State) (a0 : Array Value) (cx : Ctx Z a0) (ws : List Jvm.Cond) (u : Nat) (v : Nat) (vm0 : Vm) (h0 : Heap) (X00 : Ext Z.heap h0) (hu : (u ≤ 4)) (hv : (v ≤ 4)) :
    Met l mn345 y0_ 2 (some .int) ws ({ frames := 0, cells := 0, slots := 0, locals := 0 } : Room) Z consts_1 vm0 h0 #[(.int (Int32.ofNat u)), (.int (Int32.ofNat v))] (fun rv vm h => rv = some (.int (Int32.ofNat (min u v))) ∧ h0 = h) := by
  obtain ⟨hw, hEL, ⟨zc, Scs, hzc⟩, ⟨fm, Sfm, hfm⟩, Sad, Shi, Slo⟩ := id cx
  have hSA := own_SA hw
  refine Met.of_walk (a0 := a0) #[vi (Int32.ofNat u), vi (Int32.ofNat v)] own_pn346 X00 hEL (fun m => by first | (simp [entryFrame, mkF, argsToLocals, Value.category]; done) | rfl) ?_
  intro p e s m below meth c vm hx hby hml hret hnm hC0 hW0
  refine uIN 1 hx hby d338 rfl rfl ?_
  refine uIN 2 hx hby d339 rfl rfl ?_
  by_cases g : (Int32.ofNat v) < (Int32.ofNat u)
  · refine uYc 9 hx hby d340 (tlt g).2.2.1 (by decide) (by decide) ?_
    rw [ltOf (by omega) (by omega)] at g
    refine uIN 10 hx hby d341 rfl rfl ?_
    exact gretI hx hret (hb hby d342) (by decide) (by decide) (fun vq Cq => ⟨(congrArg (fun z => some (Value.int z)) (congrArg Int32.ofNat (by omega))), rfl⟩)
  · refine uNc 5 hx hby d340 rfl (flt g).2.2.1 ?_
    rw [ltOf (by omega) (by omega)] at g
    refine uIN 6 hx hby d343 rfl rfl ?_
    refine uG 10 hx hby d344 (by decide) (by decide) ?_
    exact gretI hx hret (hb hby d342) (by decide) (by decide) (fun vq Cq => ⟨(congrArg (fun z => some (Value.int z)) (congrArg Int32.ofNat (by omega))), rfl⟩)
theorem d347 : decode y30_ 0 = .ok (.aload_n 0, 1) := by decide +kernel
theorem d348 : decode y30_ 1 = .ok (.invokevirtual 161, 3) := by decide +kernel
theorem own_pd349 : parseMethodDescriptor "()I" = some ⟨[], some .int⟩ := by decide +kernel
theorem d350 : decode y30_ 4 = .ok (.aload_n 1, 1) := by decide +kernel
theorem d351 : decode y30_ 5 = .ok (.invokevirtual 161, 3) := by decide +kernel
theorem d352 : decode y30_ 8 = .ok (.invokestatic 164, 3) := by decide +kernel
theorem own_pd353 : parseMethodDescriptor "(II)I" = some ⟨[.int, .int], some .int⟩ := by decide +kernel
theorem d354 : decode y30_ 11 = .ok (.istore_n 2, 1) := by decide +kernel
theorem d355 : decode y30_ 12 = .ok (.iconst 0, 1) := by decide +kernel
theorem d356 : decode y30_ 13 = .ok (.istore_n 3, 1) := by decide +kernel
theorem d357 : decode y30_ 14 = .ok (.iload_n 3, 1) := by decide +kernel
theorem d358 : decode y30_ 15 = .ok (.iload_n 2, 1) := by decide +kernel
theorem d359 : decode y30_ 16 = .ok (.if_icmp .ge 22, 3) := by decide +kernel
theorem d360 : decode y30_ 19 = .ok (.aload_n 0, 1) := by decide +kernel
theorem d361 : decode y30_ 20 = .ok (.iload_n 3, 1) := by decide +kernel
theorem d362 : decode y30_ 21 = .ok (.invokevirtual 170, 3) := by decide +kernel
theorem own_pd363 : parseMethodDescriptor "(I)C" = some ⟨[.int], some .char⟩ := by decide +kernel
theorem d364 : decode y30_ 24 = .ok (.aload_n 1, 1) := by decide +kernel
theorem d365 : decode y30_ 25 = .ok (.iload_n 3, 1) := by decide +kernel
theorem d366 : decode y30_ 26 = .ok (.invokevirtual 170, 3) := by decide +kernel
theorem d367 : decode y30_ 29 = .ok (.if_icmp .ne 9, 3) := by decide +kernel
theorem d368 : decode y30_ 32 = .ok (.iinc 3 1, 3) := by decide +kernel
theorem d369 : decode y30_ 35 = .ok (.goto (-21), 3) := by decide +kernel
theorem d370 : decode y30_ 38 = .ok (.iload_n 3, 1) := by decide +kernel
theorem d371 : decode y30_ 39 = .ok (.iload_n 2, 1) := by decide +kernel
theorem d372 : decode y30_ 40 = .ok (.if_icmp .ne 19, 3) := by decide +kernel
theorem d373 : decode y30_ 43 = .ok (.aload_n 0, 1) := by decide +kernel
theorem d374 : decode y30_ 44 = .ok (.invokevirtual 161, 3) := by decide +kernel
theorem d375 : decode y30_ 47 = .ok (.aload_n 1, 1) := by decide +kernel
theorem d376 : decode y30_ 48 = .ok (.invokevirtual 161, 3) := by decide +kernel
theorem d377 : decode y30_ 51 = .ok (.invokestatic 174, 3) := by decide +kernel
theorem d378 : decode y30_ 54 = .ok (.istore 4, 2) := by decide +kernel
theorem d379 : decode y30_ 56 = .ok (.goto 24, 3) := by decide +kernel
theorem d380 : decode y30_ 80 = .ok (.iload 4, 2) := by decide +kernel
theorem d381 : decode y30_ 82 = .ok (.ireturn, 1) := by decide +kernel
theorem d382 : decode y30_ 59 = .ok (.aload_n 0, 1) := by decide +kernel
theorem d383 : decode y30_ 60 = .ok (.iload_n 3, 1) := by decide +kernel
theorem d384 : decode y30_ 61 = .ok (.invokevirtual 170, 3) := by decide +kernel
theorem d385 : decode y30_ 64 = .ok (.invokestatic 178, 3) := by decide +kernel
theorem own_pd386 : parseMethodDescriptor "(C)I" = some ⟨[.char], some .int⟩ := by decide +kernel
theorem d387 : decode y30_ 67 = .ok (.aload_n 1, 1) := by decide +kernel
theorem d388 : decode y30_ 68 = .ok (.iload_n 3, 1) := by decide +kernel
theorem d389 : decode y30_ 69 = .ok (.invokevirtual 170, 3) := by decide +kernel
theorem d390 : decode y30_ 72 = .ok (.invokestatic 178, 3) := by decide +kernel
theorem d391 : decode y30_ 75 = .ok (.invokestatic 174, 3) := by decide +kernel
theorem d392 : decode y30_ 78 = .ok (.istore 4, 2) := by decide +kernel
abbrev mn393 : MethodName := ⟨"com/example/headings_from_text/headingsfromtext/evaluation/TrecRun", "compareCodePoints", "(Ljava/lang/String;Ljava/lang/String;)I"⟩
theorem own_ccp (l : Launch) (Z : State) (a0 : Array Value) (cx : Ctx Z a0) (ws : List Jvm.Cond) (x : Addr) (y : Addr) (t : Addr) (u : Addr) (cs : List Int32) (ds : List Int32) (vm0 : Vm) (h0 : Heap) (X00 : Ext Z.heap h0) (P0 : Txt Z h0 x t cs) (P1 : Txt Z h0 y u ds) :
    Met l mn393 y30_ 5 (some .int) ws ({ frames := 5, cells := 0, slots := 0, locals := 67 } : Room) Z consts_1 vm0 h0 #[(.ref x), (.ref y)] (fun rv vm h => rv = some (.int (own_ccx 5 0 cs ds)) ∧ h0 = h) := by
  obtain ⟨hw, hEL, ⟨zc, Scs, hzc⟩, ⟨fm, Sfm, hfm⟩, Sad, Shi, Slo⟩ := id cx
  have hSA := own_SA hw
  refine Met.of_walk (a0 := a0) #[vr x, vr y, un, un, un] (plainFor_of_name own_pn337) X00 hEL (fun m => by first | (simp [entryFrame, mkF, argsToLocals, Value.category]; done) | rfl) ?_
  intro p e s m below meth c vm hx hby hml hret hnm hC0 hW0
  have lt_t : h0.size > t := P0.tlt
  have lt_x : h0.size > x := P0.1.lt
  have lt_u : h0.size > u := P1.tlt
  have lt_y : h0.size > y := P1.1.lt
  have hcl := P0.2.2.1
  have hdl := P1.2.2.1
  refine uAN 1 hx hby d347 rfl rfl rfl ?_
  refine ginfo fun _ _ O1 => ?_
  refine gcallV (y := mn210) (z := mn210) hx (ow hw 40 rfl) (ow hw 41 rfl) (nfSel (ow hw 43 rfl)) (ow hw 43 rfl) (ow hw 42 rfl) (by decide) (fun hZ H hEL => Pay.of_met (W := 0) (own_len l Z a0 cx [] (x) (t) (cs) vm h0 O1 P0) (ow hw 44 rfl) (ow hw 17 rfl) (by decide) (by decide) hZ H hEL) 4 (argsL := []) (rest := []) P0.1 (lenOf own_pd349 rfl) rfl rfl (Nat.le_of_eq rfl) (by rw [hml]; rfl) (hb hby d348) rfl (by decide) (by decide) ?_
  rintro _ vm1 h1 C1 ⟨rfl, rfl⟩
  have z1 := C1.2.1
  refine gat1 ?_
  refine uAN 5 hx hby d350 rfl rfl rfl ?_
  refine ginfo fun _ _ O2 => ?_
  have f3 := P1.1
  refine gcallV (y := mn210) (z := mn210) hx (ow hw 40 rfl) (ow hw 41 rfl) (nfSel (ow hw 43 rfl)) (ow hw 43 rfl) (ow hw 42 rfl) (by decide) (fun hZ H hEL => Pay.of_met (W := 1) (own_len l Z a0 cx [] (y) (u) (ds) vm1 h0 O2 P1) (ow hw 44 rfl) (ow hw 17 rfl) (by decide) (by decide) hZ H hEL) 8 (argsL := []) (rest := [(.int (Int32.ofNat cs.length))]) f3 (lenOf own_pd349 rfl) rfl rfl (Nat.le_of_eq rfl) (by rw [hml]; rfl) (hb hby d351) rfl (by decide) (by decide) ?_
  rintro _ vm2 h2 C2 ⟨rfl, rfl⟩
  have z2 := C2.2.1
  refine gat1 ?_
  refine ginfo fun _ _ O4 => ?_
  refine gcallS (y := mn345) hx (ow hw 51 rfl) (ow hw 52 rfl) (ow hw 53 rfl) (ow hw 54 rfl) (by decide) (fun hZ H hEL => Pay.of_met (W := 0) (own_minN l Z a0 cx [] (cs.length) (ds.length) vm2 h0 O4 P0.2.2.1 P1.2.2.1) (ow hw 54 rfl) (ow hw 53 rfl) (by decide) (by decide) hZ H hEL) 11 (argsL := [(.int (Int32.ofNat cs.length)), (.int (Int32.ofNat ds.length))]) (rest := []) (lenOf own_pd353 rfl) rfl rfl (Nat.le_of_eq rfl) (by rw [hml]; rfl) (hb hby d352) rfl (by decide) (by decide) ?_
  rintro _ vm4 h4 C4 ⟨rfl, rfl⟩
  have z4 := C4.2.1
  refine gat1 ?_
  refine uSIN 12 #[vr x, vr y, vi (Int32.ofNat (min cs.length ds.length)), un, un] hx hby d354 rfl rfl ?_
  refine uKc 13 (0 : Int32) hx hby d355 rfl rfl ?_
  refine uSIN 14 #[vr x, vr y, vi (Int32.ofNat (min cs.length ds.length)), vi (0 : Int32), un] hx hby d356 rfl rfl ?_
  refine uIN 15 hx hby d357 rfl rfl ?_
  refine uIN 16 hx hby d358 rfl rfl ?_
  by_cases g : (0 : Int32) < (Int32.ofNat (min cs.length ds.length))
  · refine uNc 19 hx hby d359 rfl (tlt g).2.1 ?_
    have h0_ := (ltOf (a := 0) (b := min cs.length ds.length) (by omega) (by omega)).mp g
    refine uAN 20 hx hby d360 rfl rfl rfl ?_
    refine uIN 21 hx hby d361 rfl rfl ?_
    refine ginfo fun _ _ O5 => ?_
    have f6 := P0.1
    refine gcallV (y := mn288) (z := mn288) hx (ow hw 101 rfl) (ow hw 102 rfl) (nfSel (ow hw 104 rfl)) (ow hw 104 rfl) (ow hw 103 rfl) (by decide) (fun hZ H hEL => Pay.of_met (W := 0) (own_charAt l Z a0 cx [] (x) (t) (cs) (0) vm4 h0 O5 P0 (by omega)) (ow hw 105 rfl) (ow hw 17 rfl) (by decide) (by decide) hZ H hEL) 24 (argsL := [(.int (0 : Int32))]) (rest := []) f6 (lenOf own_pd363 rfl) rfl rfl (Nat.le_of_eq rfl) (by rw [hml]; rfl) (hb hby d362) rfl (by decide) (by decide) ?_
    rintro _ vm5 h5 C5 ⟨rfl, rfl⟩
    have z5 := C5.2.1
    refine gat1 ?_
    refine uAN 25 hx hby d364 rfl rfl rfl ?_
    refine uIN 26 hx hby d365 rfl rfl ?_
    refine ginfo fun _ _ O7 => ?_
    refine gcallV (y := mn288) (z := mn288) hx (ow hw 101 rfl) (ow hw 102 rfl) (nfSel (ow hw 104 rfl)) (ow hw 104 rfl) (ow hw 103 rfl) (by decide) (fun hZ H hEL => Pay.of_met (W := 1) (own_charAt l Z a0 cx [] (y) (u) (ds) (0) vm5 h0 O7 P1 (by omega)) (ow hw 105 rfl) (ow hw 17 rfl) (by decide) (by decide) hZ H hEL) 29 (argsL := [(.int (0 : Int32))]) (rest := [(.int (cs.getD 0 0))]) f3 (lenOf own_pd363 rfl) rfl rfl (Nat.le_of_eq rfl) (by rw [hml]; rfl) (hb hby d366) rfl (by decide) (by decide) ?_
    rintro _ vm7 h7 C7 ⟨rfl, rfl⟩
    have z7 := C7.2.1
    refine gat1 ?_
    by_cases e0_ : (cs.getD 0 0) = (ds.getD 0 0)
    · refine uNc 32 hx hby d367 rfl (teq e0_).2 ?_
      refine uInc 35 #[vr x, vr y, vi (Int32.ofNat (min cs.length ds.length)), vi (1 : Int32), un] hx hby d368 rfl rfl rfl ?_
      refine uG 14 hx hby d369 (by decide) (by decide) ?_
      refine uIN 15 hx hby d357 rfl rfl ?_
      refine uIN 16 hx hby d358 rfl rfl ?_
      by_cases g : (1 : Int32) < (Int32.ofNat (min cs.length ds.length))
      · refine uNc 19 hx hby d359 rfl (tlt g).2.1 ?_
        have h1_ := (ltOf (a := 1) (b := min cs.length ds.length) (by omega) (by omega)).mp g
        refine uAN 20 hx hby d360 rfl rfl rfl ?_
        refine uIN 21 hx hby d361 rfl rfl ?_
        refine ginfo fun _ _ O8 => ?_
        refine gcallV (y := mn288) (z := mn288) hx (ow hw 101 rfl) (ow hw 102 rfl) (nfSel (ow hw 104 rfl)) (ow hw 104 rfl) (ow hw 103 rfl) (by decide) (fun hZ H hEL => Pay.of_met (W := 0) (own_charAt l Z a0 cx [] (x) (t) (cs) (1) vm7 h0 O8 P0 (by omega)) (ow hw 105 rfl) (ow hw 17 rfl) (by decide) (by decide) hZ H hEL) 24 (argsL := [(.int (1 : Int32))]) (rest := []) f6 (lenOf own_pd363 rfl) rfl rfl (Nat.le_of_eq rfl) (by rw [hml]; rfl) (hb hby d362) rfl (by decide) (by decide) ?_
        rintro _ vm8 h8 C8 ⟨rfl, rfl⟩
        have z8 := C8.2.1
        refine gat1 ?_
        refine uAN 25 hx hby d364 rfl rfl rfl ?_
        refine uIN 26 hx hby d365 rfl rfl ?_
        refine ginfo fun _ _ O9 => ?_
        refine gcallV (y := mn288) (z := mn288) hx (ow hw 101 rfl) (ow hw 102 rfl) (nfSel (ow hw 104 rfl)) (ow hw 104 rfl) (ow hw 103 rfl) (by decide) (fun hZ H hEL => Pay.of_met (W := 1) (own_charAt l Z a0 cx [] (y) (u) (ds) (1) vm8 h0 O9 P1 (by omega)) (ow hw 105 rfl) (ow hw 17 rfl) (by decide) (by decide) hZ H hEL) 29 (argsL := [(.int (1 : Int32))]) (rest := [(.int (cs.getD 1 0))]) f3 (lenOf own_pd363 rfl) rfl rfl (Nat.le_of_eq rfl) (by rw [hml]; rfl) (hb hby d366) rfl (by decide) (by decide) ?_
        rintro _ vm9 h9 C9 ⟨rfl, rfl⟩
        have z9 := C9.2.1
        refine gat1 ?_
        by_cases e1_ : (cs.getD 1 0) = (ds.getD 1 0)
        · refine uNc 32 hx hby d367 rfl (teq e1_).2 ?_
          refine uInc 35 #[vr x, vr y, vi (Int32.ofNat (min cs.length ds.length)), vi (2 : Int32), un] hx hby d368 rfl rfl rfl ?_
          refine uG 14 hx hby d369 (by decide) (by decide) ?_
          refine uIN 15 hx hby d357 rfl rfl ?_
          refine uIN 16 hx hby d358 rfl rfl ?_
          by_cases g : (2 : Int32) < (Int32.ofNat (min cs.length ds.length))
          · refine uNc 19 hx hby d359 rfl (tlt g).2.1 ?_
            have h2_ := (ltOf (a := 2) (b := min cs.length ds.length) (by omega) (by omega)).mp g
            refine uAN 20 hx hby d360 rfl rfl rfl ?_
            refine uIN 21 hx hby d361 rfl rfl ?_
            refine ginfo fun _ _ O10 => ?_
            refine gcallV (y := mn288) (z := mn288) hx (ow hw 101 rfl) (ow hw 102 rfl) (nfSel (ow hw 104 rfl)) (ow hw 104 rfl) (ow hw 103 rfl) (by decide) (fun hZ H hEL => Pay.of_met (W := 0) (own_charAt l Z a0 cx [] (x) (t) (cs) (2) vm9 h0 O10 P0 (by omega)) (ow hw 105 rfl) (ow hw 17 rfl) (by decide) (by decide) hZ H hEL) 24 (argsL := [(.int (2 : Int32))]) (rest := []) f6 (lenOf own_pd363 rfl) rfl rfl (Nat.le_of_eq rfl) (by rw [hml]; rfl) (hb hby d362) rfl (by decide) (by decide) ?_
            rintro _ vm10 h10 C10 ⟨rfl, rfl⟩
            have z10 := C10.2.1
            refine gat1 ?_
            refine uAN 25 hx hby d364 rfl rfl rfl ?_
            refine uIN 26 hx hby d365 rfl rfl ?_
            refine ginfo fun _ _ O11 => ?_
            refine gcallV (y := mn288) (z := mn288) hx (ow hw 101 rfl) (ow hw 102 rfl) (nfSel (ow hw 104 rfl)) (ow hw 104 rfl) (ow hw 103 rfl) (by decide) (fun hZ H hEL => Pay.of_met (W := 1) (own_charAt l Z a0 cx [] (y) (u) (ds) (2) vm10 h0 O11 P1 (by omega)) (ow hw 105 rfl) (ow hw 17 rfl) (by decide) (by decide) hZ H hEL) 29 (argsL := [(.int (2 : Int32))]) (rest := [(.int (cs.getD 2 0))]) f3 (lenOf own_pd363 rfl) rfl rfl (Nat.le_of_eq rfl) (by rw [hml]; rfl) (hb hby d366) rfl (by decide) (by decide) ?_
            rintro _ vm11 h11 C11 ⟨rfl, rfl⟩
            have z11 := C11.2.1
            refine gat1 ?_
            by_cases e2_ : (cs.getD 2 0) = (ds.getD 2 0)
            · refine uNc 32 hx hby d367 rfl (teq e2_).2 ?_
              refine uInc 35 #[vr x, vr y, vi (Int32.ofNat (min cs.length ds.length)), vi (3 : Int32), un] hx hby d368 rfl rfl rfl ?_
              refine uG 14 hx hby d369 (by decide) (by decide) ?_
              refine uIN 15 hx hby d357 rfl rfl ?_
              refine uIN 16 hx hby d358 rfl rfl ?_
              by_cases g : (3 : Int32) < (Int32.ofNat (min cs.length ds.length))
              · refine uNc 19 hx hby d359 rfl (tlt g).2.1 ?_
                have h3_ := (ltOf (a := 3) (b := min cs.length ds.length) (by omega) (by omega)).mp g
                refine uAN 20 hx hby d360 rfl rfl rfl ?_
                refine uIN 21 hx hby d361 rfl rfl ?_
                refine ginfo fun _ _ O12 => ?_
                refine gcallV (y := mn288) (z := mn288) hx (ow hw 101 rfl) (ow hw 102 rfl) (nfSel (ow hw 104 rfl)) (ow hw 104 rfl) (ow hw 103 rfl) (by decide) (fun hZ H hEL => Pay.of_met (W := 0) (own_charAt l Z a0 cx [] (x) (t) (cs) (3) vm11 h0 O12 P0 (by omega)) (ow hw 105 rfl) (ow hw 17 rfl) (by decide) (by decide) hZ H hEL) 24 (argsL := [(.int (3 : Int32))]) (rest := []) f6 (lenOf own_pd363 rfl) rfl rfl (Nat.le_of_eq rfl) (by rw [hml]; rfl) (hb hby d362) rfl (by decide) (by decide) ?_
                rintro _ vm12 h12 C12 ⟨rfl, rfl⟩
                have z12 := C12.2.1
                refine gat1 ?_
                refine uAN 25 hx hby d364 rfl rfl rfl ?_
                refine uIN 26 hx hby d365 rfl rfl ?_
                refine ginfo fun _ _ O13 => ?_
                refine gcallV (y := mn288) (z := mn288) hx (ow hw 101 rfl) (ow hw 102 rfl) (nfSel (ow hw 104 rfl)) (ow hw 104 rfl) (ow hw 103 rfl) (by decide) (fun hZ H hEL => Pay.of_met (W := 1) (own_charAt l Z a0 cx [] (y) (u) (ds) (3) vm12 h0 O13 P1 (by omega)) (ow hw 105 rfl) (ow hw 17 rfl) (by decide) (by decide) hZ H hEL) 29 (argsL := [(.int (3 : Int32))]) (rest := [(.int (cs.getD 3 0))]) f3 (lenOf own_pd363 rfl) rfl rfl (Nat.le_of_eq rfl) (by rw [hml]; rfl) (hb hby d366) rfl (by decide) (by decide) ?_
                rintro _ vm13 h13 C13 ⟨rfl, rfl⟩
                have z13 := C13.2.1
                refine gat1 ?_
                by_cases e3_ : (cs.getD 3 0) = (ds.getD 3 0)
                · refine uNc 32 hx hby d367 rfl (teq e3_).2 ?_
                  refine uInc 35 #[vr x, vr y, vi (Int32.ofNat (min cs.length ds.length)), vi (4 : Int32), un] hx hby d368 rfl rfl rfl ?_
                  refine uG 14 hx hby d369 (by decide) (by decide) ?_
                  refine uIN 15 hx hby d357 rfl rfl ?_
                  refine uIN 16 hx hby d358 rfl rfl ?_
                  refine uYc 38 hx hby d359 (flt (fun q => absurd ((ltOf (a := 4) (b := min cs.length ds.length) (by omega) (by omega)).mp q) (by omega))).2.1 (by decide) (by decide) ?_
                  refine uIN 39 hx hby d370 rfl rfl ?_
                  refine uIN 40 hx hby d371 rfl rfl ?_
                  refine uNc 43 hx hby d372 rfl (teq (congrArg Int32.ofNat (show (4 : Nat) = min cs.length ds.length by omega))).2 ?_
                  refine uAN 44 hx hby d373 rfl rfl rfl ?_
                  refine ginfo fun _ _ O14 => ?_
                  refine gcallV (y := mn210) (z := mn210) hx (ow hw 40 rfl) (ow hw 41 rfl) (nfSel (ow hw 43 rfl)) (ow hw 43 rfl) (ow hw 42 rfl) (by decide) (fun hZ H hEL => Pay.of_met (W := 0) (own_len l Z a0 cx [] (x) (t) (cs) vm13 h0 O14 P0) (ow hw 44 rfl) (ow hw 17 rfl) (by decide) (by decide) hZ H hEL) 47 (argsL := []) (rest := []) f6 (lenOf own_pd349 rfl) rfl rfl (Nat.le_of_eq rfl) (by rw [hml]; rfl) (hb hby d374) rfl (by decide) (by decide) ?_
                  rintro _ vm14 h14 C14 ⟨rfl, rfl⟩
                  have z14 := C14.2.1
                  refine gat1 ?_
                  refine uAN 48 hx hby d375 rfl rfl rfl ?_
                  refine ginfo fun _ _ O15 => ?_
                  refine gcallV (y := mn210) (z := mn210) hx (ow hw 40 rfl) (ow hw 41 rfl) (nfSel (ow hw 43 rfl)) (ow hw 43 rfl) (ow hw 42 rfl) (by decide) (fun hZ H hEL => Pay.of_met (W := 1) (own_len l Z a0 cx [] (y) (u) (ds) vm14 h0 O15 P1) (ow hw 44 rfl) (ow hw 17 rfl) (by decide) (by decide) hZ H hEL) 51 (argsL := []) (rest := [(.int (Int32.ofNat cs.length))]) f3 (lenOf own_pd349 rfl) rfl rfl (Nat.le_of_eq rfl) (by rw [hml]; rfl) (hb hby d376) rfl (by decide) (by decide) ?_
                  rintro _ vm15 h15 C15 ⟨rfl, rfl⟩
                  have z15 := C15.2.1
                  refine gat1 ?_
                  refine ginfo fun _ _ O16 => ?_
                  refine gcallS (y := mn301) hx (ow hw 55 rfl) (ow hw 56 rfl) (ow hw 57 rfl) (ow hw 58 rfl) (by decide) (fun hZ H hEL => Pay.of_met (W := 0) (own_icmp l Z a0 cx [] ((Int32.ofNat cs.length)) ((Int32.ofNat ds.length)) vm15 h0 O16 ) (ow hw 58 rfl) (ow hw 57 rfl) (by decide) (by decide) hZ H hEL) 54 (argsL := [(.int (Int32.ofNat cs.length)), (.int (Int32.ofNat ds.length))]) (rest := []) (lenOf own_pd353 rfl) rfl rfl (Nat.le_of_eq rfl) (by rw [hml]; rfl) (hb hby d377) rfl (by decide) (by decide) ?_
                  rintro _ vm16 h16 C16 ⟨rfl, rfl⟩
                  have z16 := C16.2.1
                  refine gat1 ?_
                  refine uSI 56 #[vr x, vr y, vi (Int32.ofNat (min cs.length ds.length)), vi (4 : Int32), vi (own_cmpI (Int32.ofNat cs.length) (Int32.ofNat ds.length))] hx hby d378 rfl rfl ?_
                  refine uG 80 hx hby d379 (by decide) (by decide) ?_
                  refine uI 82 hx hby d380 rfl rfl ?_
                  exact gretI hx hret (hb hby d381) (by decide) (by decide) (fun vq Cq => ⟨(congrArg (fun z => some (Value.int z)) (by rw [(own_ccx_s 4 0 cs ds : own_ccx 5 0 cs ds = _), if_pos h0_, if_pos e0_, (own_ccx_s 3 1 cs ds : own_ccx 4 1 cs ds = _), if_pos h1_, if_pos e1_, (own_ccx_s 2 2 cs ds : own_ccx 3 2 cs ds = _), if_pos h2_, if_pos e2_, (own_ccx_s 1 3 cs ds : own_ccx 2 3 cs ds = _), if_pos h3_, if_pos e3_, (own_ccx_s 0 4 cs ds : own_ccx 1 4 cs ds = _), if_neg (show ¬ 4 < min cs.length ds.length by omega)])), rfl⟩)
                · refine uYc 38 hx hby d367 (feq e3_).2 (by decide) (by decide) ?_
                  refine uIN 39 hx hby d370 rfl rfl ?_
                  refine uIN 40 hx hby d371 rfl rfl ?_
                  refine uYc 59 hx hby d372 (feq (fun q => absurd ((eqOf (a := 3) (b := min cs.length ds.length) (by omega) (by omega)).mp q) (by omega))).2 (by decide) (by decide) ?_
                  refine uAN 60 hx hby d382 rfl rfl rfl ?_
                  refine uIN 61 hx hby d383 rfl rfl ?_
                  refine ginfo fun _ _ O18 => ?_
                  refine gcallV (y := mn288) (z := mn288) hx (ow hw 101 rfl) (ow hw 102 rfl) (nfSel (ow hw 104 rfl)) (ow hw 104 rfl) (ow hw 103 rfl) (by decide) (fun hZ H hEL => Pay.of_met (W := 0) (own_charAt l Z a0 cx [] (x) (t) (cs) (3) vm13 h0 O18 P0 (by omega)) (ow hw 105 rfl) (ow hw 17 rfl) (by decide) (by decide) hZ H hEL) 64 (argsL := [(.int (3 : Int32))]) (rest := []) f6 (lenOf own_pd363 rfl) rfl rfl (Nat.le_of_eq rfl) (by rw [hml]; rfl) (hb hby d384) rfl (by decide) (by decide) ?_
                  rintro _ vm18 h18 C18 ⟨rfl, rfl⟩
                  have z18 := C18.2.1
                  refine gat1 ?_
                  refine ginfo fun _ _ O19 => ?_
                  refine gcallS (y := mn336) hx (ow hw 133 rfl) (ow hw 134 rfl) (ow hw 38 rfl) (ow hw 135 rfl) (by decide) (fun hZ H hEL => Pay.of_met (W := 0) (own_cpo l Z a0 cx [] ((cs.getD 3 0)) vm18 h0 O19 ) (ow hw 135 rfl) (ow hw 38 rfl) (by decide) (by decide) hZ H hEL) 67 (argsL := [(.int (cs.getD 3 0))]) (rest := []) (lenOf own_pd386 rfl) rfl rfl (Nat.le_of_eq rfl) (by rw [hml]; rfl) (hb hby d385) rfl (by decide) (by decide) ?_
                  rintro _ vm19 h19 C19 ⟨rfl, rfl⟩
                  have z19 := C19.2.1
                  refine gat1 ?_
                  refine uAN 68 hx hby d387 rfl rfl rfl ?_
                  refine uIN 69 hx hby d388 rfl rfl ?_
                  refine ginfo fun _ _ O20 => ?_
                  refine gcallV (y := mn288) (z := mn288) hx (ow hw 101 rfl) (ow hw 102 rfl) (nfSel (ow hw 104 rfl)) (ow hw 104 rfl) (ow hw 103 rfl) (by decide) (fun hZ H hEL => Pay.of_met (W := 1) (own_charAt l Z a0 cx [] (y) (u) (ds) (3) vm19 h0 O20 P1 (by omega)) (ow hw 105 rfl) (ow hw 17 rfl) (by decide) (by decide) hZ H hEL) 72 (argsL := [(.int (3 : Int32))]) (rest := [(.int (own_ord (cs.getD 3 0)))]) f3 (lenOf own_pd363 rfl) rfl rfl (Nat.le_of_eq rfl) (by rw [hml]; rfl) (hb hby d389) rfl (by decide) (by decide) ?_
                  rintro _ vm20 h20 C20 ⟨rfl, rfl⟩
                  have z20 := C20.2.1
                  refine gat1 ?_
                  refine ginfo fun _ _ O21 => ?_
                  refine gcallS (y := mn336) hx (ow hw 133 rfl) (ow hw 134 rfl) (ow hw 38 rfl) (ow hw 135 rfl) (by decide) (fun hZ H hEL => Pay.of_met (W := 1) (own_cpo l Z a0 cx [] ((ds.getD 3 0)) vm20 h0 O21 ) (ow hw 135 rfl) (ow hw 38 rfl) (by decide) (by decide) hZ H hEL) 75 (argsL := [(.int (ds.getD 3 0))]) (rest := [(.int (own_ord (cs.getD 3 0)))]) (lenOf own_pd386 rfl) rfl rfl (Nat.le_of_eq rfl) (by rw [hml]; rfl) (hb hby d390) rfl (by decide) (by decide) ?_
                  rintro _ vm21 h21 C21 ⟨rfl, rfl⟩
                  have z21 := C21.2.1
                  refine gat1 ?_
                  refine ginfo fun _ _ O22 => ?_
                  refine gcallS (y := mn301) hx (ow hw 55 rfl) (ow hw 56 rfl) (ow hw 57 rfl) (ow hw 58 rfl) (by decide) (fun hZ H hEL => Pay.of_met (W := 0) (own_icmp l Z a0 cx [] ((own_ord (cs.getD 3 0))) ((own_ord (ds.getD 3 0))) vm21 h0 O22 ) (ow hw 58 rfl) (ow hw 57 rfl) (by decide) (by decide) hZ H hEL) 78 (argsL := [(.int (own_ord (cs.getD 3 0))), (.int (own_ord (ds.getD 3 0)))]) (rest := []) (lenOf own_pd353 rfl) rfl rfl (Nat.le_of_eq rfl) (by rw [hml]; rfl) (hb hby d391) rfl (by decide) (by decide) ?_
                  rintro _ vm22 h22 C22 ⟨rfl, rfl⟩
                  have z22 := C22.2.1
                  refine gat1 ?_
                  refine uSI 80 #[vr x, vr y, vi (Int32.ofNat (min cs.length ds.length)), vi (3 : Int32), vi (own_cmpI (own_ord (cs.getD 3 0)) (own_ord (ds.getD 3 0)))] hx hby d392 rfl rfl ?_
                  refine uI 82 hx hby d380 rfl rfl ?_
                  exact gretI hx hret (hb hby d381) (by decide) (by decide) (fun vq Cq => ⟨(congrArg (fun z => some (Value.int z)) (by rw [(own_ccx_s 4 0 cs ds : own_ccx 5 0 cs ds = _), if_pos h0_, if_pos e0_, (own_ccx_s 3 1 cs ds : own_ccx 4 1 cs ds = _), if_pos h1_, if_pos e1_, (own_ccx_s 2 2 cs ds : own_ccx 3 2 cs ds = _), if_pos h2_, if_pos e2_, (own_ccx_s 1 3 cs ds : own_ccx 2 3 cs ds = _), if_pos h3_, if_neg e3_])), rfl⟩)
              · refine uYc 38 hx hby d359 (flt g).2.1 (by decide) (by decide) ?_
                have h3_ : ¬ 3 < min cs.length ds.length := fun q => g ((ltOf (a := 3) (b := min cs.length ds.length) (by omega) (by omega)).mpr q)
                refine uIN 39 hx hby d370 rfl rfl ?_
                refine uIN 40 hx hby d371 rfl rfl ?_
                refine uNc 43 hx hby d372 rfl (teq (congrArg Int32.ofNat (show (3 : Nat) = min cs.length ds.length by omega))).2 ?_
                refine uAN 44 hx hby d373 rfl rfl rfl ?_
                refine ginfo fun _ _ O24 => ?_
                refine gcallV (y := mn210) (z := mn210) hx (ow hw 40 rfl) (ow hw 41 rfl) (nfSel (ow hw 43 rfl)) (ow hw 43 rfl) (ow hw 42 rfl) (by decide) (fun hZ H hEL => Pay.of_met (W := 0) (own_len l Z a0 cx [] (x) (t) (cs) vm11 h0 O24 P0) (ow hw 44 rfl) (ow hw 17 rfl) (by decide) (by decide) hZ H hEL) 47 (argsL := []) (rest := []) f6 (lenOf own_pd349 rfl) rfl rfl (Nat.le_of_eq rfl) (by rw [hml]; rfl) (hb hby d374) rfl (by decide) (by decide) ?_
                rintro _ vm24 h24 C24 ⟨rfl, rfl⟩
                have z24 := C24.2.1
                refine gat1 ?_
                refine uAN 48 hx hby d375 rfl rfl rfl ?_
                refine ginfo fun _ _ O25 => ?_
                refine gcallV (y := mn210) (z := mn210) hx (ow hw 40 rfl) (ow hw 41 rfl) (nfSel (ow hw 43 rfl)) (ow hw 43 rfl) (ow hw 42 rfl) (by decide) (fun hZ H hEL => Pay.of_met (W := 1) (own_len l Z a0 cx [] (y) (u) (ds) vm24 h0 O25 P1) (ow hw 44 rfl) (ow hw 17 rfl) (by decide) (by decide) hZ H hEL) 51 (argsL := []) (rest := [(.int (Int32.ofNat cs.length))]) f3 (lenOf own_pd349 rfl) rfl rfl (Nat.le_of_eq rfl) (by rw [hml]; rfl) (hb hby d376) rfl (by decide) (by decide) ?_
                rintro _ vm25 h25 C25 ⟨rfl, rfl⟩
                have z25 := C25.2.1
                refine gat1 ?_
                refine ginfo fun _ _ O26 => ?_
                refine gcallS (y := mn301) hx (ow hw 55 rfl) (ow hw 56 rfl) (ow hw 57 rfl) (ow hw 58 rfl) (by decide) (fun hZ H hEL => Pay.of_met (W := 0) (own_icmp l Z a0 cx [] ((Int32.ofNat cs.length)) ((Int32.ofNat ds.length)) vm25 h0 O26 ) (ow hw 58 rfl) (ow hw 57 rfl) (by decide) (by decide) hZ H hEL) 54 (argsL := [(.int (Int32.ofNat cs.length)), (.int (Int32.ofNat ds.length))]) (rest := []) (lenOf own_pd353 rfl) rfl rfl (Nat.le_of_eq rfl) (by rw [hml]; rfl) (hb hby d377) rfl (by decide) (by decide) ?_
                rintro _ vm26 h26 C26 ⟨rfl, rfl⟩
                have z26 := C26.2.1
                refine gat1 ?_
                refine uSI 56 #[vr x, vr y, vi (Int32.ofNat (min cs.length ds.length)), vi (3 : Int32), vi (own_cmpI (Int32.ofNat cs.length) (Int32.ofNat ds.length))] hx hby d378 rfl rfl ?_
                refine uG 80 hx hby d379 (by decide) (by decide) ?_
                refine uI 82 hx hby d380 rfl rfl ?_
                exact gretI hx hret (hb hby d381) (by decide) (by decide) (fun vq Cq => ⟨(congrArg (fun z => some (Value.int z)) (by rw [(own_ccx_s 4 0 cs ds : own_ccx 5 0 cs ds = _), if_pos h0_, if_pos e0_, (own_ccx_s 3 1 cs ds : own_ccx 4 1 cs ds = _), if_pos h1_, if_pos e1_, (own_ccx_s 2 2 cs ds : own_ccx 3 2 cs ds = _), if_pos h2_, if_pos e2_, (own_ccx_s 1 3 cs ds : own_ccx 2 3 cs ds = _), if_neg (show ¬ 3 < min cs.length ds.length by omega)])), rfl⟩)
            · refine uYc 38 hx hby d367 (feq e2_).2 (by decide) (by decide) ?_
              refine uIN 39 hx hby d370 rfl rfl ?_
              refine uIN 40 hx hby d371 rfl rfl ?_
              refine uYc 59 hx hby d372 (feq (fun q => absurd ((eqOf (a := 2) (b := min cs.length ds.length) (by omega) (by omega)).mp q) (by omega))).2 (by decide) (by decide) ?_
              refine uAN 60 hx hby d382 rfl rfl rfl ?_
              refine uIN 61 hx hby d383 rfl rfl ?_
              refine ginfo fun _ _ O28 => ?_
              refine gcallV (y := mn288) (z := mn288) hx (ow hw 101 rfl) (ow hw 102 rfl) (nfSel (ow hw 104 rfl)) (ow hw 104 rfl) (ow hw 103 rfl) (by decide) (fun hZ H hEL => Pay.of_met (W := 0) (own_charAt l Z a0 cx [] (x) (t) (cs) (2) vm11 h0 O28 P0 (by omega)) (ow hw 105 rfl) (ow hw 17 rfl) (by decide) (by decide) hZ H hEL) 64 (argsL := [(.int (2 : Int32))]) (rest := []) f6 (lenOf own_pd363 rfl) rfl rfl (Nat.le_of_eq rfl) (by rw [hml]; rfl) (hb hby d384) rfl (by decide) (by decide) ?_
              rintro _ vm28 h28 C28 ⟨rfl, rfl⟩
              have z28 := C28.2.1
              refine gat1 ?_
              refine ginfo fun _ _ O29 => ?_
              refine gcallS (y := mn336) hx (ow hw 133 rfl) (ow hw 134 rfl) (ow hw 38 rfl) (ow hw 135 rfl) (by decide) (fun hZ H hEL => Pay.of_met (W := 0) (own_cpo l Z a0 cx [] ((cs.getD 2 0)) vm28 h0 O29 ) (ow hw 135 rfl) (ow hw 38 rfl) (by decide) (by decide) hZ H hEL) 67 (argsL := [(.int (cs.getD 2 0))]) (rest := []) (lenOf own_pd386 rfl) rfl rfl (Nat.le_of_eq rfl) (by rw [hml]; rfl) (hb hby d385) rfl (by decide) (by decide) ?_
              rintro _ vm29 h29 C29 ⟨rfl, rfl⟩
              have z29 := C29.2.1
              refine gat1 ?_
              refine uAN 68 hx hby d387 rfl rfl rfl ?_
              refine uIN 69 hx hby d388 rfl rfl ?_
              refine ginfo fun _ _ O30 => ?_
              refine gcallV (y := mn288) (z := mn288) hx (ow hw 101 rfl) (ow hw 102 rfl) (nfSel (ow hw 104 rfl)) (ow hw 104 rfl) (ow hw 103 rfl) (by decide) (fun hZ H hEL => Pay.of_met (W := 1) (own_charAt l Z a0 cx [] (y) (u) (ds) (2) vm29 h0 O30 P1 (by omega)) (ow hw 105 rfl) (ow hw 17 rfl) (by decide) (by decide) hZ H hEL) 72 (argsL := [(.int (2 : Int32))]) (rest := [(.int (own_ord (cs.getD 2 0)))]) f3 (lenOf own_pd363 rfl) rfl rfl (Nat.le_of_eq rfl) (by rw [hml]; rfl) (hb hby d389) rfl (by decide) (by decide) ?_
              rintro _ vm30 h30 C30 ⟨rfl, rfl⟩
              have z30 := C30.2.1
              refine gat1 ?_
              refine ginfo fun _ _ O31 => ?_
              refine gcallS (y := mn336) hx (ow hw 133 rfl) (ow hw 134 rfl) (ow hw 38 rfl) (ow hw 135 rfl) (by decide) (fun hZ H hEL => Pay.of_met (W := 1) (own_cpo l Z a0 cx [] ((ds.getD 2 0)) vm30 h0 O31 ) (ow hw 135 rfl) (ow hw 38 rfl) (by decide) (by decide) hZ H hEL) 75 (argsL := [(.int (ds.getD 2 0))]) (rest := [(.int (own_ord (cs.getD 2 0)))]) (lenOf own_pd386 rfl) rfl rfl (Nat.le_of_eq rfl) (by rw [hml]; rfl) (hb hby d390) rfl (by decide) (by decide) ?_
              rintro _ vm31 h31 C31 ⟨rfl, rfl⟩
              have z31 := C31.2.1
              refine gat1 ?_
              refine ginfo fun _ _ O32 => ?_
              refine gcallS (y := mn301) hx (ow hw 55 rfl) (ow hw 56 rfl) (ow hw 57 rfl) (ow hw 58 rfl) (by decide) (fun hZ H hEL => Pay.of_met (W := 0) (own_icmp l Z a0 cx [] ((own_ord (cs.getD 2 0))) ((own_ord (ds.getD 2 0))) vm31 h0 O32 ) (ow hw 58 rfl) (ow hw 57 rfl) (by decide) (by decide) hZ H hEL) 78 (argsL := [(.int (own_ord (cs.getD 2 0))), (.int (own_ord (ds.getD 2 0)))]) (rest := []) (lenOf own_pd353 rfl) rfl rfl (Nat.le_of_eq rfl) (by rw [hml]; rfl) (hb hby d391) rfl (by decide) (by decide) ?_
              rintro _ vm32 h32 C32 ⟨rfl, rfl⟩
              have z32 := C32.2.1
              refine gat1 ?_
              refine uSI 80 #[vr x, vr y, vi (Int32.ofNat (min cs.length ds.length)), vi (2 : Int32), vi (own_cmpI (own_ord (cs.getD 2 0)) (own_ord (ds.getD 2 0)))] hx hby d392 rfl rfl ?_
              refine uI 82 hx hby d380 rfl rfl ?_
              exact gretI hx hret (hb hby d381) (by decide) (by decide) (fun vq Cq => ⟨(congrArg (fun z => some (Value.int z)) (by rw [(own_ccx_s 4 0 cs ds : own_ccx 5 0 cs ds = _), if_pos h0_, if_pos e0_, (own_ccx_s 3 1 cs ds : own_ccx 4 1 cs ds = _), if_pos h1_, if_pos e1_, (own_ccx_s 2 2 cs ds : own_ccx 3 2 cs ds = _), if_pos h2_, if_neg e2_])), rfl⟩)
          · refine uYc 38 hx hby d359 (flt g).2.1 (by decide) (by decide) ?_
            have h2_ : ¬ 2 < min cs.length ds.length := fun q => g ((ltOf (a := 2) (b := min cs.length ds.length) (by omega) (by omega)).mpr q)
            refine uIN 39 hx hby d370 rfl rfl ?_
            refine uIN 40 hx hby d371 rfl rfl ?_
            refine uNc 43 hx hby d372 rfl (teq (congrArg Int32.ofNat (show (2 : Nat) = min cs.length ds.length by omega))).2 ?_
            refine uAN 44 hx hby d373 rfl rfl rfl ?_
            refine ginfo fun _ _ O34 => ?_
            refine gcallV (y := mn210) (z := mn210) hx (ow hw 40 rfl) (ow hw 41 rfl) (nfSel (ow hw 43 rfl)) (ow hw 43 rfl) (ow hw 42 rfl) (by decide) (fun hZ H hEL => Pay.of_met (W := 0) (own_len l Z a0 cx [] (x) (t) (cs) vm9 h0 O34 P0) (ow hw 44 rfl) (ow hw 17 rfl) (by decide) (by decide) hZ H hEL) 47 (argsL := []) (rest := []) f6 (lenOf own_pd349 rfl) rfl rfl (Nat.le_of_eq rfl) (by rw [hml]; rfl) (hb hby d374) rfl (by decide) (by decide) ?_
            rintro _ vm34 h34 C34 ⟨rfl, rfl⟩
            have z34 := C34.2.1
            refine gat1 ?_
            refine uAN 48 hx hby d375 rfl rfl rfl ?_
            refine ginfo fun _ _ O35 => ?_
            refine gcallV (y := mn210) (z := mn210) hx (ow hw 40 rfl) (ow hw 41 rfl) (nfSel (ow hw 43 rfl)) (ow hw 43 rfl) (ow hw 42 rfl) (by decide) (fun hZ H hEL => Pay.of_met (W := 1) (own_len l Z a0 cx [] (y) (u) (ds) vm34 h0 O35 P1) (ow hw 44 rfl) (ow hw 17 rfl) (by decide) (by decide) hZ H hEL) 51 (argsL := []) (rest := [(.int (Int32.ofNat cs.length))]) f3 (lenOf own_pd349 rfl) rfl rfl (Nat.le_of_eq rfl) (by rw [hml]; rfl) (hb hby d376) rfl (by decide) (by decide) ?_
            rintro _ vm35 h35 C35 ⟨rfl, rfl⟩
            have z35 := C35.2.1
            refine gat1 ?_
            refine ginfo fun _ _ O36 => ?_
            refine gcallS (y := mn301) hx (ow hw 55 rfl) (ow hw 56 rfl) (ow hw 57 rfl) (ow hw 58 rfl) (by decide) (fun hZ H hEL => Pay.of_met (W := 0) (own_icmp l Z a0 cx [] ((Int32.ofNat cs.length)) ((Int32.ofNat ds.length)) vm35 h0 O36 ) (ow hw 58 rfl) (ow hw 57 rfl) (by decide) (by decide) hZ H hEL) 54 (argsL := [(.int (Int32.ofNat cs.length)), (.int (Int32.ofNat ds.length))]) (rest := []) (lenOf own_pd353 rfl) rfl rfl (Nat.le_of_eq rfl) (by rw [hml]; rfl) (hb hby d377) rfl (by decide) (by decide) ?_
            rintro _ vm36 h36 C36 ⟨rfl, rfl⟩
            have z36 := C36.2.1
            refine gat1 ?_
            refine uSI 56 #[vr x, vr y, vi (Int32.ofNat (min cs.length ds.length)), vi (2 : Int32), vi (own_cmpI (Int32.ofNat cs.length) (Int32.ofNat ds.length))] hx hby d378 rfl rfl ?_
            refine uG 80 hx hby d379 (by decide) (by decide) ?_
            refine uI 82 hx hby d380 rfl rfl ?_
            exact gretI hx hret (hb hby d381) (by decide) (by decide) (fun vq Cq => ⟨(congrArg (fun z => some (Value.int z)) (by rw [(own_ccx_s 4 0 cs ds : own_ccx 5 0 cs ds = _), if_pos h0_, if_pos e0_, (own_ccx_s 3 1 cs ds : own_ccx 4 1 cs ds = _), if_pos h1_, if_pos e1_, (own_ccx_s 2 2 cs ds : own_ccx 3 2 cs ds = _), if_neg (show ¬ 2 < min cs.length ds.length by omega)])), rfl⟩)
        · refine uYc 38 hx hby d367 (feq e1_).2 (by decide) (by decide) ?_
          refine uIN 39 hx hby d370 rfl rfl ?_
          refine uIN 40 hx hby d371 rfl rfl ?_
          refine uYc 59 hx hby d372 (feq (fun q => absurd ((eqOf (a := 1) (b := min cs.length ds.length) (by omega) (by omega)).mp q) (by omega))).2 (by decide) (by decide) ?_
          refine uAN 60 hx hby d382 rfl rfl rfl ?_
          refine uIN 61 hx hby d383 rfl rfl ?_
          refine ginfo fun _ _ O38 => ?_
          refine gcallV (y := mn288) (z := mn288) hx (ow hw 101 rfl) (ow hw 102 rfl) (nfSel (ow hw 104 rfl)) (ow hw 104 rfl) (ow hw 103 rfl) (by decide) (fun hZ H hEL => Pay.of_met (W := 0) (own_charAt l Z a0 cx [] (x) (t) (cs) (1) vm9 h0 O38 P0 (by omega)) (ow hw 105 rfl) (ow hw 17 rfl) (by decide) (by decide) hZ H hEL) 64 (argsL := [(.int (1 : Int32))]) (rest := []) f6 (lenOf own_pd363 rfl) rfl rfl (Nat.le_of_eq rfl) (by rw [hml]; rfl) (hb hby d384) rfl (by decide) (by decide) ?_
          rintro _ vm38 h38 C38 ⟨rfl, rfl⟩
          have z38 := C38.2.1
          refine gat1 ?_
          refine ginfo fun _ _ O39 => ?_
          refine gcallS (y := mn336) hx (ow hw 133 rfl) (ow hw 134 rfl) (ow hw 38 rfl) (ow hw 135 rfl) (by decide) (fun hZ H hEL => Pay.of_met (W := 0) (own_cpo l Z a0 cx [] ((cs.getD 1 0)) vm38 h0 O39 ) (ow hw 135 rfl) (ow hw 38 rfl) (by decide) (by decide) hZ H hEL) 67 (argsL := [(.int (cs.getD 1 0))]) (rest := []) (lenOf own_pd386 rfl) rfl rfl (Nat.le_of_eq rfl) (by rw [hml]; rfl) (hb hby d385) rfl (by decide) (by decide) ?_
          rintro _ vm39 h39 C39 ⟨rfl, rfl⟩
          have z39 := C39.2.1
          refine gat1 ?_
          refine uAN 68 hx hby d387 rfl rfl rfl ?_
          refine uIN 69 hx hby d388 rfl rfl ?_
          refine ginfo fun _ _ O40 => ?_
          refine gcallV (y := mn288) (z := mn288) hx (ow hw 101 rfl) (ow hw 102 rfl) (nfSel (ow hw 104 rfl)) (ow hw 104 rfl) (ow hw 103 rfl) (by decide) (fun hZ H hEL => Pay.of_met (W := 1) (own_charAt l Z a0 cx [] (y) (u) (ds) (1) vm39 h0 O40 P1 (by omega)) (ow hw 105 rfl) (ow hw 17 rfl) (by decide) (by decide) hZ H hEL) 72 (argsL := [(.int (1 : Int32))]) (rest := [(.int (own_ord (cs.getD 1 0)))]) f3 (lenOf own_pd363 rfl) rfl rfl (Nat.le_of_eq rfl) (by rw [hml]; rfl) (hb hby d389) rfl (by decide) (by decide) ?_
          rintro _ vm40 h40 C40 ⟨rfl, rfl⟩
          have z40 := C40.2.1
          refine gat1 ?_
          refine ginfo fun _ _ O41 => ?_
          refine gcallS (y := mn336) hx (ow hw 133 rfl) (ow hw 134 rfl) (ow hw 38 rfl) (ow hw 135 rfl) (by decide) (fun hZ H hEL => Pay.of_met (W := 1) (own_cpo l Z a0 cx [] ((ds.getD 1 0)) vm40 h0 O41 ) (ow hw 135 rfl) (ow hw 38 rfl) (by decide) (by decide) hZ H hEL) 75 (argsL := [(.int (ds.getD 1 0))]) (rest := [(.int (own_ord (cs.getD 1 0)))]) (lenOf own_pd386 rfl) rfl rfl (Nat.le_of_eq rfl) (by rw [hml]; rfl) (hb hby d390) rfl (by decide) (by decide) ?_
          rintro _ vm41 h41 C41 ⟨rfl, rfl⟩
          have z41 := C41.2.1
          refine gat1 ?_
          refine ginfo fun _ _ O42 => ?_
          refine gcallS (y := mn301) hx (ow hw 55 rfl) (ow hw 56 rfl) (ow hw 57 rfl) (ow hw 58 rfl) (by decide) (fun hZ H hEL => Pay.of_met (W := 0) (own_icmp l Z a0 cx [] ((own_ord (cs.getD 1 0))) ((own_ord (ds.getD 1 0))) vm41 h0 O42 ) (ow hw 58 rfl) (ow hw 57 rfl) (by decide) (by decide) hZ H hEL) 78 (argsL := [(.int (own_ord (cs.getD 1 0))), (.int (own_ord (ds.getD 1 0)))]) (rest := []) (lenOf own_pd353 rfl) rfl rfl (Nat.le_of_eq rfl) (by rw [hml]; rfl) (hb hby d391) rfl (by decide) (by decide) ?_
          rintro _ vm42 h42 C42 ⟨rfl, rfl⟩
          have z42 := C42.2.1
          refine gat1 ?_
          refine uSI 80 #[vr x, vr y, vi (Int32.ofNat (min cs.length ds.length)), vi (1 : Int32), vi (own_cmpI (own_ord (cs.getD 1 0)) (own_ord (ds.getD 1 0)))] hx hby d392 rfl rfl ?_
          refine uI 82 hx hby d380 rfl rfl ?_
          exact gretI hx hret (hb hby d381) (by decide) (by decide) (fun vq Cq => ⟨(congrArg (fun z => some (Value.int z)) (by rw [(own_ccx_s 4 0 cs ds : own_ccx 5 0 cs ds = _), if_pos h0_, if_pos e0_, (own_ccx_s 3 1 cs ds : own_ccx 4 1 cs ds = _), if_pos h1_, if_neg e1_])), rfl⟩)
      · refine uYc 38 hx hby d359 (flt g).2.1 (by decide) (by decide) ?_
        have h1_ : ¬ 1 < min cs.length ds.length := fun q => g ((ltOf (a := 1) (b := min cs.length ds.length) (by omega) (by omega)).mpr q)
        refine uIN 39 hx hby d370 rfl rfl ?_
        refine uIN 40 hx hby d371 rfl rfl ?_
        refine uNc 43 hx hby d372 rfl (teq (congrArg Int32.ofNat (show (1 : Nat) = min cs.length ds.length by omega))).2 ?_
        refine uAN 44 hx hby d373 rfl rfl rfl ?_
        refine ginfo fun _ _ O44 => ?_
        refine gcallV (y := mn210) (z := mn210) hx (ow hw 40 rfl) (ow hw 41 rfl) (nfSel (ow hw 43 rfl)) (ow hw 43 rfl) (ow hw 42 rfl) (by decide) (fun hZ H hEL => Pay.of_met (W := 0) (own_len l Z a0 cx [] (x) (t) (cs) vm7 h0 O44 P0) (ow hw 44 rfl) (ow hw 17 rfl) (by decide) (by decide) hZ H hEL) 47 (argsL := []) (rest := []) f6 (lenOf own_pd349 rfl) rfl rfl (Nat.le_of_eq rfl) (by rw [hml]; rfl) (hb hby d374) rfl (by decide) (by decide) ?_
        rintro _ vm44 h44 C44 ⟨rfl, rfl⟩
        have z44 := C44.2.1
        refine gat1 ?_
        refine uAN 48 hx hby d375 rfl rfl rfl ?_
        refine ginfo fun _ _ O45 => ?_
        refine gcallV (y := mn210) (z := mn210) hx (ow hw 40 rfl) (ow hw 41 rfl) (nfSel (ow hw 43 rfl)) (ow hw 43 rfl) (ow hw 42 rfl) (by decide) (fun hZ H hEL => Pay.of_met (W := 1) (own_len l Z a0 cx [] (y) (u) (ds) vm44 h0 O45 P1) (ow hw 44 rfl) (ow hw 17 rfl) (by decide) (by decide) hZ H hEL) 51 (argsL := []) (rest := [(.int (Int32.ofNat cs.length))]) f3 (lenOf own_pd349 rfl) rfl rfl (Nat.le_of_eq rfl) (by rw [hml]; rfl) (hb hby d376) rfl (by decide) (by decide) ?_
        rintro _ vm45 h45 C45 ⟨rfl, rfl⟩
        have z45 := C45.2.1
        refine gat1 ?_
        refine ginfo fun _ _ O46 => ?_
        refine gcallS (y := mn301) hx (ow hw 55 rfl) (ow hw 56 rfl) (ow hw 57 rfl) (ow hw 58 rfl) (by decide) (fun hZ H hEL => Pay.of_met (W := 0) (own_icmp l Z a0 cx [] ((Int32.ofNat cs.length)) ((Int32.ofNat ds.length)) vm45 h0 O46 ) (ow hw 58 rfl) (ow hw 57 rfl) (by decide) (by decide) hZ H hEL) 54 (argsL := [(.int (Int32.ofNat cs.length)), (.int (Int32.ofNat ds.length))]) (rest := []) (lenOf own_pd353 rfl) rfl rfl (Nat.le_of_eq rfl) (by rw [hml]; rfl) (hb hby d377) rfl (by decide) (by decide) ?_
        rintro _ vm46 h46 C46 ⟨rfl, rfl⟩
        have z46 := C46.2.1
        refine gat1 ?_
        refine uSI 56 #[vr x, vr y, vi (Int32.ofNat (min cs.length ds.length)), vi (1 : Int32), vi (own_cmpI (Int32.ofNat cs.length) (Int32.ofNat ds.length))] hx hby d378 rfl rfl ?_
        refine uG 80 hx hby d379 (by decide) (by decide) ?_
        refine uI 82 hx hby d380 rfl rfl ?_
        exact gretI hx hret (hb hby d381) (by decide) (by decide) (fun vq Cq => ⟨(congrArg (fun z => some (Value.int z)) (by rw [(own_ccx_s 4 0 cs ds : own_ccx 5 0 cs ds = _), if_pos h0_, if_pos e0_, (own_ccx_s 3 1 cs ds : own_ccx 4 1 cs ds = _), if_neg (show ¬ 1 < min cs.length ds.length by omega)])), rfl⟩)
    · refine uYc 38 hx hby d367 (feq e0_).2 (by decide) (by decide) ?_
      refine uIN 39 hx hby d370 rfl rfl ?_
      refine uIN 40 hx hby d371 rfl rfl ?_
      refine uYc 59 hx hby d372 (feq (fun q => absurd ((eqOf (a := 0) (b := min cs.length ds.length) (by omega) (by omega)).mp q) (by omega))).2 (by decide) (by decide) ?_
      refine uAN 60 hx hby d382 rfl rfl rfl ?_
      refine uIN 61 hx hby d383 rfl rfl ?_
      refine ginfo fun _ _ O48 => ?_
      refine gcallV (y := mn288) (z := mn288) hx (ow hw 101 rfl) (ow hw 102 rfl) (nfSel (ow hw 104 rfl)) (ow hw 104 rfl) (ow hw 103 rfl) (by decide) (fun hZ H hEL => Pay.of_met (W := 0) (own_charAt l Z a0 cx [] (x) (t) (cs) (0) vm7 h0 O48 P0 (by omega)) (ow hw 105 rfl) (ow hw 17 rfl) (by decide) (by decide) hZ H hEL) 64 (argsL := [(.int (0 : Int32))]) (rest := []) f6 (lenOf own_pd363 rfl) rfl rfl (Nat.le_of_eq rfl) (by rw [hml]; rfl) (hb hby d384) rfl (by decide) (by decide) ?_
      rintro _ vm48 h48 C48 ⟨rfl, rfl⟩
      have z48 := C48.2.1
      refine gat1 ?_
      refine ginfo fun _ _ O49 => ?_
      refine gcallS (y := mn336) hx (ow hw 133 rfl) (ow hw 134 rfl) (ow hw 38 rfl) (ow hw 135 rfl) (by decide) (fun hZ H hEL => Pay.of_met (W := 0) (own_cpo l Z a0 cx [] ((cs.getD 0 0)) vm48 h0 O49 ) (ow hw 135 rfl) (ow hw 38 rfl) (by decide) (by decide) hZ H hEL) 67 (argsL := [(.int (cs.getD 0 0))]) (rest := []) (lenOf own_pd386 rfl) rfl rfl (Nat.le_of_eq rfl) (by rw [hml]; rfl) (hb hby d385) rfl (by decide) (by decide) ?_
      rintro _ vm49 h49 C49 ⟨rfl, rfl⟩
      have z49 := C49.2.1
      refine gat1 ?_
      refine uAN 68 hx hby d387 rfl rfl rfl ?_
      refine uIN 69 hx hby d388 rfl rfl ?_
      refine ginfo fun _ _ O50 => ?_
      refine gcallV (y := mn288) (z := mn288) hx (ow hw 101 rfl) (ow hw 102 rfl) (nfSel (ow hw 104 rfl)) (ow hw 104 rfl) (ow hw 103 rfl) (by decide) (fun hZ H hEL => Pay.of_met (W := 1) (own_charAt l Z a0 cx [] (y) (u) (ds) (0) vm49 h0 O50 P1 (by omega)) (ow hw 105 rfl) (ow hw 17 rfl) (by decide) (by decide) hZ H hEL) 72 (argsL := [(.int (0 : Int32))]) (rest := [(.int (own_ord (cs.getD 0 0)))]) f3 (lenOf own_pd363 rfl) rfl rfl (Nat.le_of_eq rfl) (by rw [hml]; rfl) (hb hby d389) rfl (by decide) (by decide) ?_
      rintro _ vm50 h50 C50 ⟨rfl, rfl⟩
      have z50 := C50.2.1
      refine gat1 ?_
      refine ginfo fun _ _ O51 => ?_
      refine gcallS (y := mn336) hx (ow hw 133 rfl) (ow hw 134 rfl) (ow hw 38 rfl) (ow hw 135 rfl) (by decide) (fun hZ H hEL => Pay.of_met (W := 1) (own_cpo l Z a0 cx [] ((ds.getD 0 0)) vm50 h0 O51 ) (ow hw 135 rfl) (ow hw 38 rfl) (by decide) (by decide) hZ H hEL) 75 (argsL := [(.int (ds.getD 0 0))]) (rest := [(.int (own_ord (cs.getD 0 0)))]) (lenOf own_pd386 rfl) rfl rfl (Nat.le_of_eq rfl) (by rw [hml]; rfl) (hb hby d390) rfl (by decide) (by decide) ?_
      rintro _ vm51 h51 C51 ⟨rfl, rfl⟩
      have z51 := C51.2.1
      refine gat1 ?_
      refine ginfo fun _ _ O52 => ?_
      refine gcallS (y := mn301) hx (ow hw 55 rfl) (ow hw 56 rfl) (ow hw 57 rfl) (ow hw 58 rfl) (by decide) (fun hZ H hEL => Pay.of_met (W := 0) (own_icmp l Z a0 cx [] ((own_ord (cs.getD 0 0))) ((own_ord (ds.getD 0 0))) vm51 h0 O52 ) (ow hw 58 rfl) (ow hw 57 rfl) (by decide) (by decide) hZ H hEL) 78 (argsL := [(.int (own_ord (cs.getD 0 0))), (.int (own_ord (ds.getD 0 0)))]) (rest := []) (lenOf own_pd353 rfl) rfl rfl (Nat.le_of_eq rfl) (by rw [hml]; rfl) (hb hby d391) rfl (by decide) (by decide) ?_
      rintro _ vm52 h52 C52 ⟨rfl, rfl⟩
      have z52 := C52.2.1
      refine gat1 ?_
      refine uSI 80 #[vr x, vr y, vi (Int32.ofNat (min cs.length ds.length)), vi (0 : Int32), vi (own_cmpI (own_ord (cs.getD 0 0)) (own_ord (ds.getD 0 0)))] hx hby d392 rfl rfl ?_
      refine uI 82 hx hby d380 rfl rfl ?_
      exact gretI hx hret (hb hby d381) (by decide) (by decide) (fun vq Cq => ⟨(congrArg (fun z => some (Value.int z)) (by rw [(own_ccx_s 4 0 cs ds : own_ccx 5 0 cs ds = _), if_pos h0_, if_neg e0_])), rfl⟩)
  · refine uYc 38 hx hby d359 (flt g).2.1 (by decide) (by decide) ?_
    have h0_ : ¬ 0 < min cs.length ds.length := fun q => g ((ltOf (a := 0) (b := min cs.length ds.length) (by omega) (by omega)).mpr q)
    refine uIN 39 hx hby d370 rfl rfl ?_
    refine uIN 40 hx hby d371 rfl rfl ?_
    refine uNc 43 hx hby d372 rfl (teq (congrArg Int32.ofNat (show (0 : Nat) = min cs.length ds.length by omega))).2 ?_
    refine uAN 44 hx hby d373 rfl rfl rfl ?_
    refine ginfo fun _ _ O54 => ?_
    have f55 := P0.1
    refine gcallV (y := mn210) (z := mn210) hx (ow hw 40 rfl) (ow hw 41 rfl) (nfSel (ow hw 43 rfl)) (ow hw 43 rfl) (ow hw 42 rfl) (by decide) (fun hZ H hEL => Pay.of_met (W := 0) (own_len l Z a0 cx [] (x) (t) (cs) vm4 h0 O54 P0) (ow hw 44 rfl) (ow hw 17 rfl) (by decide) (by decide) hZ H hEL) 47 (argsL := []) (rest := []) f55 (lenOf own_pd349 rfl) rfl rfl (Nat.le_of_eq rfl) (by rw [hml]; rfl) (hb hby d374) rfl (by decide) (by decide) ?_
    rintro _ vm54 h54 C54 ⟨rfl, rfl⟩
    have z54 := C54.2.1
    refine gat1 ?_
    refine uAN 48 hx hby d375 rfl rfl rfl ?_
    refine ginfo fun _ _ O56 => ?_
    refine gcallV (y := mn210) (z := mn210) hx (ow hw 40 rfl) (ow hw 41 rfl) (nfSel (ow hw 43 rfl)) (ow hw 43 rfl) (ow hw 42 rfl) (by decide) (fun hZ H hEL => Pay.of_met (W := 1) (own_len l Z a0 cx [] (y) (u) (ds) vm54 h0 O56 P1) (ow hw 44 rfl) (ow hw 17 rfl) (by decide) (by decide) hZ H hEL) 51 (argsL := []) (rest := [(.int (Int32.ofNat cs.length))]) f3 (lenOf own_pd349 rfl) rfl rfl (Nat.le_of_eq rfl) (by rw [hml]; rfl) (hb hby d376) rfl (by decide) (by decide) ?_
    rintro _ vm56 h56 C56 ⟨rfl, rfl⟩
    have z56 := C56.2.1
    refine gat1 ?_
    refine ginfo fun _ _ O57 => ?_
    refine gcallS (y := mn301) hx (ow hw 55 rfl) (ow hw 56 rfl) (ow hw 57 rfl) (ow hw 58 rfl) (by decide) (fun hZ H hEL => Pay.of_met (W := 0) (own_icmp l Z a0 cx [] ((Int32.ofNat cs.length)) ((Int32.ofNat ds.length)) vm56 h0 O57 ) (ow hw 58 rfl) (ow hw 57 rfl) (by decide) (by decide) hZ H hEL) 54 (argsL := [(.int (Int32.ofNat cs.length)), (.int (Int32.ofNat ds.length))]) (rest := []) (lenOf own_pd353 rfl) rfl rfl (Nat.le_of_eq rfl) (by rw [hml]; rfl) (hb hby d377) rfl (by decide) (by decide) ?_
    rintro _ vm57 h57 C57 ⟨rfl, rfl⟩
    have z57 := C57.2.1
    refine gat1 ?_
    refine uSI 56 #[vr x, vr y, vi (Int32.ofNat (min cs.length ds.length)), vi (0 : Int32), vi (own_cmpI (Int32.ofNat cs.length) (Int32.ofNat ds.length))] hx hby d378 rfl rfl ?_
    refine uG 80 hx hby d379 (by decide) (by decide) ?_
    refine uI 82 hx hby d380 rfl rfl ?_
    exact gretI hx hret (hb hby d381) (by decide) (by decide) (fun vq Cq => ⟨(congrArg (fun z => some (Value.int z)) (by rw [(own_ccx_s 4 0 cs ds : own_ccx 5 0 cs ds = _), if_neg (show ¬ 0 < min cs.length ds.length by omega)])), rfl⟩)
def own_cp (x : Int32) : Int32 := if (x &&& (3 : Int32)) = (0 : Int32) then (((x.toUInt32 >>> ((2 : Int32) &&& 31).toUInt32).toInt32) &&& (127 : Int32)) else if (x &&& (3 : Int32)) = (1 : Int32) then (((x.toUInt32 >>> ((2 : Int32) &&& 31).toUInt32).toInt32) % (55296 : Int32)) else if (x &&& (3 : Int32)) = (2 : Int32) then ((57344 : Int32) + (((x.toUInt32 >>> ((2 : Int32) &&& 31).toUInt32).toInt32) &&& (8191 : Int32))) else ((65536 : Int32) + (((x.toUInt32 >>> ((2 : Int32) &&& 31).toUInt32).toInt32) % (1048576 : Int32)))
def own_pt (a x k : Int32) : Int32 := if k = (1 : Int32) then a else if k = (2 : Int32) then (a ^^^ (x &&& (1023 : Int32))) else own_cp x
theorem d394 : decode y23_ 0 = .ok (.iload_n 0, 1) := by decide +kernel
theorem d395 : decode y23_ 1 = .ok (.iconst 3, 1) := by decide +kernel
theorem d396 : decode y23_ 2 = .ok (.iand, 1) := by decide +kernel
theorem d397 : decode y23_ 3 = .ok (.istore_n 1, 1) := by decide +kernel
theorem d398 : decode y23_ 4 = .ok (.iload_n 0, 1) := by decide +kernel
theorem d399 : decode y23_ 5 = .ok (.iconst 2, 1) := by decide +kernel
theorem d400 : decode y23_ 6 = .ok (.iushr, 1) := by decide +kernel
theorem d401 : decode y23_ 7 = .ok (.istore_n 2, 1) := by decide +kernel
theorem d402 : decode y23_ 8 = .ok (.iload_n 1, 1) := by decide +kernel
theorem d403 : decode y23_ 9 = .ok (.ifCond .ne 11, 3) := by decide +kernel
theorem d404 : decode y23_ 12 = .ok (.iload_n 2, 1) := by decide +kernel
theorem d405 : decode y23_ 13 = .ok (.bipush 127, 2) := by decide +kernel
theorem d406 : decode y23_ 15 = .ok (.iand, 1) := by decide +kernel
theorem d407 : decode y23_ 16 = .ok (.istore_n 3, 1) := by decide +kernel
theorem d408 : decode y23_ 17 = .ok (.goto 41, 3) := by decide +kernel
theorem d409 : decode y23_ 58 = .ok (.iload_n 3, 1) := by decide +kernel
theorem d410 : decode y23_ 59 = .ok (.ireturn, 1) := by decide +kernel
theorem d411 : decode y23_ 20 = .ok (.iload_n 1, 1) := by decide +kernel
theorem d412 : decode y23_ 21 = .ok (.iconst 1, 1) := by decide +kernel
theorem d413 : decode y23_ 22 = .ok (.if_icmp .ne 11, 3) := by decide +kernel
theorem d414 : decode y23_ 25 = .ok (.iload_n 2, 1) := by decide +kernel
theorem d415 : decode y23_ 26 = .ok (.ldc 38, 2) := by decide +kernel
theorem d416 : decode y23_ 28 = .ok (.irem, 1) := by decide +kernel
theorem d417 : decode y23_ 29 = .ok (.istore_n 3, 1) := by decide +kernel
theorem d418 : decode y23_ 30 = .ok (.goto 28, 3) := by decide +kernel
theorem d419 : decode y23_ 33 = .ok (.iload_n 1, 1) := by decide +kernel
theorem d420 : decode y23_ 34 = .ok (.iconst 2, 1) := by decide +kernel
theorem d421 : decode y23_ 35 = .ok (.if_icmp .ne 15, 3) := by decide +kernel
theorem d422 : decode y23_ 38 = .ok (.ldc 39, 2) := by decide +kernel
theorem d423 : decode y23_ 40 = .ok (.iload_n 2, 1) := by decide +kernel
theorem d424 : decode y23_ 41 = .ok (.sipush 8191, 3) := by decide +kernel
theorem d425 : decode y23_ 44 = .ok (.iand, 1) := by decide +kernel
theorem d426 : decode y23_ 45 = .ok (.iadd, 1) := by decide +kernel
theorem d427 : decode y23_ 46 = .ok (.istore_n 3, 1) := by decide +kernel
theorem d428 : decode y23_ 47 = .ok (.goto 11, 3) := by decide +kernel
theorem d429 : decode y23_ 50 = .ok (.ldc 40, 2) := by decide +kernel
theorem d430 : decode y23_ 52 = .ok (.iload_n 2, 1) := by decide +kernel
theorem d431 : decode y23_ 53 = .ok (.ldc 41, 2) := by decide +kernel
theorem d432 : decode y23_ 55 = .ok (.irem, 1) := by decide +kernel
theorem d433 : decode y23_ 56 = .ok (.iadd, 1) := by decide +kernel
theorem d434 : decode y23_ 57 = .ok (.istore_n 3, 1) := by decide +kernel
abbrev mn435 : MethodName := ⟨"com/example/headings_from_text/headingsfromtext/evaluation/TrecRunCompareCodePointsPinLaw", "codePoint", "(I)I"⟩
theorem own_pn436 : plainName "com/example/headings_from_text/headingsfromtext/evaluation/TrecRunCompareCodePointsPinLaw" = true := by first | (simp [plainName, overriddenIn]; done) | decide +kernel
theorem own_cpw (l : Launch) (Z : State) (a0 : Array Value) (cx : Ctx Z a0) (ws : List Jvm.Cond) (x : Int32) (vm0 : Vm) (h0 : Heap) (X00 : Ext Z.heap h0)  :
    Met l mn435 y23_ 4 (some .int) ws ({ frames := 0, cells := 0, slots := 0, locals := 0 } : Room) Z consts_1 vm0 h0 #[(.int x)] (fun rv vm h => rv = some (.int (own_cp x)) ∧ h0 = h) := by
  obtain ⟨hw, hEL, ⟨zc, Scs, hzc⟩, ⟨fm, Sfm, hfm⟩, Sad, Shi, Slo⟩ := id cx
  have hSA := own_SA hw
  refine Met.of_walk (a0 := a0) #[vi x, un, un, un] (plainFor_of_name own_pn436) X00 hEL (fun m => by first | (simp [entryFrame, mkF, argsToLocals, Value.category]; done) | rfl) ?_
  intro p e s m below meth c vm hx hby hml hret hnm hC0 hW0
  refine uIN 1 hx hby d394 rfl rfl ?_
  refine uKc 2 (3 : Int32) hx hby d395 rfl rfl ?_
  refine uiand 3 (x &&& (3 : Int32)) hx hby d396 rfl rfl ?_
  refine uSIN 4 #[vi x, vi (x &&& (3 : Int32)), un, un] hx hby d397 rfl rfl ?_
  refine uIN 5 hx hby d398 rfl rfl ?_
  refine uKc 6 (2 : Int32) hx hby d399 rfl rfl ?_
  refine gs (mkF m 7 #[vi x, vi (x &&& (3 : Int32)), un, un] [(.int ((x.toUInt32 >>> ((2 : Int32) &&& 31).toUInt32).toInt32))]) (fun _ _ A kq => XS.iushr A hx rfl (hb hby d400) rfl kq) ?_
  refine uSIN 8 #[vi x, vi (x &&& (3 : Int32)), vi ((x.toUInt32 >>> ((2 : Int32) &&& 31).toUInt32).toInt32), un] hx hby d401 rfl rfl ?_
  refine uIN 9 hx hby d402 rfl rfl ?_
  by_cases g0 : (x &&& (3 : Int32)) = (0 : Int32)
  · refine uN 12 hx hby d403 rfl ((if0 _ _).trans (teq g0).2) ?_
    refine uIN 13 hx hby d404 rfl rfl ?_
    refine uKb 15 (127 : Int32) hx hby d405 rfl rfl ?_
    refine uiand 16 (((x.toUInt32 >>> ((2 : Int32) &&& 31).toUInt32).toInt32) &&& (127 : Int32)) hx hby d406 rfl rfl ?_
    refine uSIN 17 #[vi x, vi (x &&& (3 : Int32)), vi ((x.toUInt32 >>> ((2 : Int32) &&& 31).toUInt32).toInt32), vi (((x.toUInt32 >>> ((2 : Int32) &&& 31).toUInt32).toInt32) &&& (127 : Int32))] hx hby d407 rfl rfl ?_
    refine uG 58 hx hby d408 (by decide) (by decide) ?_
    refine uIN 59 hx hby d409 rfl rfl ?_
    exact gretI hx hret (hb hby d410) (by decide) (by decide) (fun vq Cq => ⟨(congrArg (fun z => some (Value.int z)) (by rw [own_cp, if_pos g0])), rfl⟩)
  · refine uY 20 hx hby d403 ((if0 _ _).trans (feq g0).2) (by decide) (by decide) ?_
    refine uIN 21 hx hby d411 rfl rfl ?_
    refine uKc 22 (1 : Int32) hx hby d412 rfl rfl ?_
    by_cases g1 : (x &&& (3 : Int32)) = (1 : Int32)
    · refine uNc 25 hx hby d413 rfl (teq g1).2 ?_
      refine uIN 26 hx hby d414 rfl rfl ?_
      refine gldcI hx (ow hw 10 rfl) 28 (hb hby d415) rfl ?_
      refine gx (mkF m 29 #[vi x, vi (x &&& (3 : Int32)), vi ((x.toUInt32 >>> ((2 : Int32) &&& 31).toUInt32).toInt32), un] [(.int (((x.toUInt32 >>> ((2 : Int32) &&& 31).toUInt32).toInt32) % (55296 : Int32)))]) (fun T locs X _ _ _ _ kq => iremM X hx rfl (hb hby d416) rfl (by decide) kq) ?_
      refine uSIN 30 #[vi x, vi (x &&& (3 : Int32)), vi ((x.toUInt32 >>> ((2 : Int32) &&& 31).toUInt32).toInt32), vi (((x.toUInt32 >>> ((2 : Int32) &&& 31).toUInt32).toInt32) % (55296 : Int32))] hx hby d417 rfl rfl ?_
      refine uG 58 hx hby d418 (by decide) (by decide) ?_
      refine uIN 59 hx hby d409 rfl rfl ?_
      exact gretI hx hret (hb hby d410) (by decide) (by decide) (fun vq Cq => ⟨(congrArg (fun z => some (Value.int z)) (by rw [own_cp, if_neg g0, if_pos g1])), rfl⟩)
    · refine uYc 33 hx hby d413 (feq g1).2 (by decide) (by decide) ?_
      refine uIN 34 hx hby d419 rfl rfl ?_
      refine uKc 35 (2 : Int32) hx hby d420 rfl rfl ?_
      by_cases g2 : (x &&& (3 : Int32)) = (2 : Int32)
      · refine uNc 38 hx hby d421 rfl (teq g2).2 ?_
        refine gldcI hx (ow hw 9 rfl) 40 (hb hby d422) rfl ?_
        refine uIN 41 hx hby d423 rfl rfl ?_
        refine uKs 44 (8191 : Int32) hx hby d424 rfl rfl ?_
        refine uiand 45 (((x.toUInt32 >>> ((2 : Int32) &&& 31).toUInt32).toInt32) &&& (8191 : Int32)) hx hby d425 rfl rfl ?_
        refine uiadd 46 ((57344 : Int32) + (((x.toUInt32 >>> ((2 : Int32) &&& 31).toUInt32).toInt32) &&& (8191 : Int32))) hx hby d426 rfl rfl ?_
        refine uSIN 47 #[vi x, vi (x &&& (3 : Int32)), vi ((x.toUInt32 >>> ((2 : Int32) &&& 31).toUInt32).toInt32), vi ((57344 : Int32) + (((x.toUInt32 >>> ((2 : Int32) &&& 31).toUInt32).toInt32) &&& (8191 : Int32)))] hx hby d427 rfl rfl ?_
        refine uG 58 hx hby d428 (by decide) (by decide) ?_
        refine uIN 59 hx hby d409 rfl rfl ?_
        exact gretI hx hret (hb hby d410) (by decide) (by decide) (fun vq Cq => ⟨(congrArg (fun z => some (Value.int z)) (by rw [own_cp, if_neg g0, if_neg g1, if_pos g2])), rfl⟩)
      · refine uYc 50 hx hby d421 (feq g2).2 (by decide) (by decide) ?_
        refine gldcI hx (ow hw 4 rfl) 52 (hb hby d429) rfl ?_
        refine uIN 53 hx hby d430 rfl rfl ?_
        refine gldcI hx (ow hw 5 rfl) 55 (hb hby d431) rfl ?_
        refine gx (mkF m 56 #[vi x, vi (x &&& (3 : Int32)), vi ((x.toUInt32 >>> ((2 : Int32) &&& 31).toUInt32).toInt32), un] [(.int (((x.toUInt32 >>> ((2 : Int32) &&& 31).toUInt32).toInt32) % (1048576 : Int32))), (.int (65536 : Int32))]) (fun T locs X _ _ _ _ kq => iremM X hx rfl (hb hby d432) rfl (by decide) kq) ?_
        refine uiadd 57 ((65536 : Int32) + (((x.toUInt32 >>> ((2 : Int32) &&& 31).toUInt32).toInt32) % (1048576 : Int32))) hx hby d433 rfl rfl ?_
        refine uSIN 58 #[vi x, vi (x &&& (3 : Int32)), vi ((x.toUInt32 >>> ((2 : Int32) &&& 31).toUInt32).toInt32), vi ((65536 : Int32) + (((x.toUInt32 >>> ((2 : Int32) &&& 31).toUInt32).toInt32) % (1048576 : Int32)))] hx hby d434 rfl rfl ?_
        refine uIN 59 hx hby d409 rfl rfl ?_
        exact gretI hx hret (hb hby d410) (by decide) (by decide) (fun vq Cq => ⟨(congrArg (fun z => some (Value.int z)) (by rw [own_cp, if_neg g0, if_neg g1, if_neg g2])), rfl⟩)
theorem d437 : decode y24_ 0 = .ok (.iload_n 2, 1) := by decide +kernel
theorem d438 : decode y24_ 1 = .ok (.iconst 1, 1) := by decide +kernel
theorem d439 : decode y24_ 2 = .ok (.if_icmp .ne 8, 3) := by decide +kernel
theorem d440 : decode y24_ 5 = .ok (.iload_n 0, 1) := by decide +kernel
theorem d441 : decode y24_ 6 = .ok (.istore_n 3, 1) := by decide +kernel
theorem d442 : decode y24_ 7 = .ok (.goto 24, 3) := by decide +kernel
theorem d443 : decode y24_ 31 = .ok (.iload_n 3, 1) := by decide +kernel
theorem d444 : decode y24_ 32 = .ok (.ireturn, 1) := by decide +kernel
theorem d445 : decode y24_ 10 = .ok (.iload_n 2, 1) := by decide +kernel
theorem d446 : decode y24_ 11 = .ok (.iconst 2, 1) := by decide +kernel
theorem d447 : decode y24_ 12 = .ok (.if_icmp .ne 14, 3) := by decide +kernel
theorem d448 : decode y24_ 15 = .ok (.iload_n 0, 1) := by decide +kernel
theorem d449 : decode y24_ 16 = .ok (.iload_n 1, 1) := by decide +kernel
theorem d450 : decode y24_ 17 = .ok (.sipush 1023, 3) := by decide +kernel
theorem d451 : decode y24_ 20 = .ok (.iand, 1) := by decide +kernel
theorem d452 : decode y24_ 21 = .ok (.ixor, 1) := by decide +kernel
theorem d453 : decode y24_ 22 = .ok (.istore_n 3, 1) := by decide +kernel
theorem d454 : decode y24_ 23 = .ok (.goto 8, 3) := by decide +kernel
theorem d455 : decode y24_ 26 = .ok (.iload_n 1, 1) := by decide +kernel
theorem d456 : decode y24_ 27 = .ok (.invokestatic 7, 3) := by decide +kernel
theorem d457 : decode y24_ 30 = .ok (.istore_n 3, 1) := by decide +kernel
abbrev mn458 : MethodName := ⟨"com/example/headings_from_text/headingsfromtext/evaluation/TrecRunCompareCodePointsPinLaw", "partner", "(III)I"⟩
theorem own_ptw (l : Launch) (Z : State) (a0 : Array Value) (cx : Ctx Z a0) (ws : List Jvm.Cond) (a : Int32) (x : Int32) (k : Int32) (vm0 : Vm) (h0 : Heap) (X00 : Ext Z.heap h0)  :
    Met l mn458 y24_ 4 (some .int) ws ({ frames := 1, cells := 0, slots := 0, locals := 15 } : Room) Z consts_1 vm0 h0 #[(.int a), (.int x), (.int k)] (fun rv vm h => rv = some (.int (own_pt a x k)) ∧ h0 = h) := by
  obtain ⟨hw, hEL, ⟨zc, Scs, hzc⟩, ⟨fm, Sfm, hfm⟩, Sad, Shi, Slo⟩ := id cx
  have hSA := own_SA hw
  refine Met.of_walk (a0 := a0) #[vi a, vi x, vi k, un] (plainFor_of_name own_pn436) X00 hEL (fun m => by first | (simp [entryFrame, mkF, argsToLocals, Value.category]; done) | rfl) ?_
  intro p e s m below meth c vm hx hby hml hret hnm hC0 hW0
  refine uIN 1 hx hby d437 rfl rfl ?_
  refine uKc 2 (1 : Int32) hx hby d438 rfl rfl ?_
  by_cases g1 : k = (1 : Int32)
  · refine uNc 5 hx hby d439 rfl (teq g1).2 ?_
    refine uIN 6 hx hby d440 rfl rfl ?_
    refine uSIN 7 #[vi a, vi x, vi k, vi a] hx hby d441 rfl rfl ?_
    refine uG 31 hx hby d442 (by decide) (by decide) ?_
    refine uIN 32 hx hby d443 rfl rfl ?_
    exact gretI hx hret (hb hby d444) (by decide) (by decide) (fun vq Cq => ⟨(congrArg (fun z => some (Value.int z)) (by rw [own_pt, if_pos g1])), rfl⟩)
  · refine uYc 10 hx hby d439 (feq g1).2 (by decide) (by decide) ?_
    refine uIN 11 hx hby d445 rfl rfl ?_
    refine uKc 12 (2 : Int32) hx hby d446 rfl rfl ?_
    by_cases g2 : k = (2 : Int32)
    · refine uNc 15 hx hby d447 rfl (teq g2).2 ?_
      refine uIN 16 hx hby d448 rfl rfl ?_
      refine uIN 17 hx hby d449 rfl rfl ?_
      refine uKs 20 (1023 : Int32) hx hby d450 rfl rfl ?_
      refine uiand 21 (x &&& (1023 : Int32)) hx hby d451 rfl rfl ?_
      refine uixor 22 (a ^^^ (x &&& (1023 : Int32))) hx hby d452 rfl rfl ?_
      refine uSIN 23 #[vi a, vi x, vi k, vi (a ^^^ (x &&& (1023 : Int32)))] hx hby d453 rfl rfl ?_
      refine uG 31 hx hby d454 (by decide) (by decide) ?_
      refine uIN 32 hx hby d443 rfl rfl ?_
      exact gretI hx hret (hb hby d444) (by decide) (by decide) (fun vq Cq => ⟨(congrArg (fun z => some (Value.int z)) (by rw [own_pt, if_neg g1, if_pos g2])), rfl⟩)
    · refine uYc 26 hx hby d447 (feq g2).2 (by decide) (by decide) ?_
      refine uIN 27 hx hby d455 rfl rfl ?_
      refine ginfo fun _ _ O3 => ?_
      refine gcallS (y := mn435) hx (ow hw 0 rfl) (ow hw 1 rfl) (ow hw 2 rfl) (ow hw 3 rfl) (by decide) (fun hZ H hEL => Pay.of_met (W := 0) (own_cpw l Z a0 cx [] (x) vm h0 O3 ) (ow hw 3 rfl) (ow hw 2 rfl) (by decide) (by decide) hZ H hEL) 30 (argsL := [(.int x)]) (rest := []) (lenOf own_pd39 rfl) rfl rfl (Nat.le_of_eq rfl) (by rw [hml]; rfl) (hb hby d456) rfl (by decide) (by decide) ?_
      rintro _ vm3 h3 C3 ⟨rfl, rfl⟩
      have z3 := C3.2.1
      refine gat1 ?_
      refine uSIN 31 #[vi a, vi x, vi k, vi (own_cp x)] hx hby d457 rfl rfl ?_
      refine uIN 32 hx hby d443 rfl rfl ?_
      exact gretI hx hret (hb hby d444) (by decide) (by decide) (fun vq Cq => ⟨(congrArg (fun z => some (Value.int z)) (by rw [own_pt, if_neg g1, if_neg g2])), rfl⟩)
def own_cmp (x y : Int32) : Int32 := if x < y then (-1 : Int32) else if y < x then (1 : Int32) else (0 : Int32)
def own_sgn (x : Int32) : Int32 := if x < (0 : Int32) then (-1 : Int32) else if (0 : Int32) < x then (1 : Int32) else (0 : Int32)
theorem d459 : decode y27_ 0 = .ok (.iload_n 0, 1) := by decide +kernel
theorem d460 : decode y27_ 1 = .ok (.iload_n 1, 1) := by decide +kernel
theorem d461 : decode y27_ 2 = .ok (.if_icmp .ge 8, 3) := by decide +kernel
theorem d462 : decode y27_ 5 = .ok (.iconst (-1), 1) := by decide +kernel
theorem d463 : decode y27_ 6 = .ok (.istore_n 2, 1) := by decide +kernel
theorem d464 : decode y27_ 7 = .ok (.goto 15, 3) := by decide +kernel
theorem d465 : decode y27_ 22 = .ok (.iload_n 2, 1) := by decide +kernel
theorem d466 : decode y27_ 23 = .ok (.ireturn, 1) := by decide +kernel
theorem d467 : decode y27_ 10 = .ok (.iload_n 0, 1) := by decide +kernel
theorem d468 : decode y27_ 11 = .ok (.iload_n 1, 1) := by decide +kernel
theorem d469 : decode y27_ 12 = .ok (.if_icmp .le 8, 3) := by decide +kernel
theorem d470 : decode y27_ 15 = .ok (.iconst 1, 1) := by decide +kernel
theorem d471 : decode y27_ 16 = .ok (.istore_n 2, 1) := by decide +kernel
theorem d472 : decode y27_ 17 = .ok (.goto 5, 3) := by decide +kernel
theorem d473 : decode y27_ 20 = .ok (.iconst 0, 1) := by decide +kernel
theorem d474 : decode y27_ 21 = .ok (.istore_n 2, 1) := by decide +kernel
abbrev mn475 : MethodName := ⟨"com/example/headings_from_text/headingsfromtext/evaluation/TrecRunCompareCodePointsPinLaw", "cmp", "(II)I"⟩
theorem own_cmpw (l : Launch) (Z : State) (a0 : Array Value) (cx : Ctx Z a0) (ws : List Jvm.Cond) (x : Int32) (y : Int32) (vm0 : Vm) (h0 : Heap) (X00 : Ext Z.heap h0)  :
    Met l mn475 y27_ 3 (some .int) ws ({ frames := 0, cells := 0, slots := 0, locals := 0 } : Room) Z consts_1 vm0 h0 #[(.int x), (.int y)] (fun rv vm h => rv = some (.int (own_cmp x y)) ∧ h0 = h) := by
  obtain ⟨hw, hEL, ⟨zc, Scs, hzc⟩, ⟨fm, Sfm, hfm⟩, Sad, Shi, Slo⟩ := id cx
  have hSA := own_SA hw
  refine Met.of_walk (a0 := a0) #[vi x, vi y, un] (plainFor_of_name own_pn436) X00 hEL (fun m => by first | (simp [entryFrame, mkF, argsToLocals, Value.category]; done) | rfl) ?_
  intro p e s m below meth c vm hx hby hml hret hnm hC0 hW0
  refine uIN 1 hx hby d459 rfl rfl ?_
  refine uIN 2 hx hby d460 rfl rfl ?_
  by_cases g1 : x < y
  · refine uNc 5 hx hby d461 rfl (tlt g1).2.1 ?_
    refine uKc 6 (-1 : Int32) hx hby d462 rfl rfl ?_
    refine uSIN 7 #[vi x, vi y, vi (-1 : Int32)] hx hby d463 rfl rfl ?_
    refine uG 22 hx hby d464 (by decide) (by decide) ?_
    refine uIN 23 hx hby d465 rfl rfl ?_
    exact gretI hx hret (hb hby d466) (by decide) (by decide) (fun vq Cq => ⟨(congrArg (fun z => some (Value.int z)) (by rw [own_cmp, if_pos g1])), rfl⟩)
  · refine uYc 10 hx hby d461 (flt g1).2.1 (by decide) (by decide) ?_
    refine uIN 11 hx hby d467 rfl rfl ?_
    refine uIN 12 hx hby d468 rfl rfl ?_
    by_cases g2 : y < x
    · refine uNc 15 hx hby d469 rfl (tlt g2).2.2.2 ?_
      refine uKc 16 (1 : Int32) hx hby d470 rfl rfl ?_
      refine uSIN 17 #[vi x, vi y, vi (1 : Int32)] hx hby d471 rfl rfl ?_
      refine uG 22 hx hby d472 (by decide) (by decide) ?_
      refine uIN 23 hx hby d465 rfl rfl ?_
      exact gretI hx hret (hb hby d466) (by decide) (by decide) (fun vq Cq => ⟨(congrArg (fun z => some (Value.int z)) (by rw [own_cmp, if_neg g1, if_pos g2])), rfl⟩)
    · refine uYc 20 hx hby d469 (flt g2).2.2.2 (by decide) (by decide) ?_
      refine uKc 21 (0 : Int32) hx hby d473 rfl rfl ?_
      refine uSIN 22 #[vi x, vi y, vi (0 : Int32)] hx hby d474 rfl rfl ?_
      refine uIN 23 hx hby d465 rfl rfl ?_
      exact gretI hx hret (hb hby d466) (by decide) (by decide) (fun vq Cq => ⟨(congrArg (fun z => some (Value.int z)) (by rw [own_cmp, if_neg g1, if_neg g2])), rfl⟩)
theorem d476 : decode y28_ 0 = .ok (.iload_n 0, 1) := by decide +kernel
theorem d477 : decode y28_ 1 = .ok (.ifCond .ge 8, 3) := by decide +kernel
theorem d478 : decode y28_ 4 = .ok (.iconst (-1), 1) := by decide +kernel
theorem d479 : decode y28_ 5 = .ok (.istore_n 1, 1) := by decide +kernel
theorem d480 : decode y28_ 6 = .ok (.goto 14, 3) := by decide +kernel
theorem d481 : decode y28_ 20 = .ok (.iload_n 1, 1) := by decide +kernel
theorem d482 : decode y28_ 21 = .ok (.ireturn, 1) := by decide +kernel
theorem d483 : decode y28_ 9 = .ok (.iload_n 0, 1) := by decide +kernel
theorem d484 : decode y28_ 10 = .ok (.ifCond .le 8, 3) := by decide +kernel
theorem d485 : decode y28_ 13 = .ok (.iconst 1, 1) := by decide +kernel
theorem d486 : decode y28_ 14 = .ok (.istore_n 1, 1) := by decide +kernel
theorem d487 : decode y28_ 15 = .ok (.goto 5, 3) := by decide +kernel
theorem d488 : decode y28_ 18 = .ok (.iconst 0, 1) := by decide +kernel
theorem d489 : decode y28_ 19 = .ok (.istore_n 1, 1) := by decide +kernel
abbrev mn490 : MethodName := ⟨"com/example/headings_from_text/headingsfromtext/evaluation/TrecRunCompareCodePointsPinLaw", "sign", "(I)I"⟩
theorem own_sgnw (l : Launch) (Z : State) (a0 : Array Value) (cx : Ctx Z a0) (ws : List Jvm.Cond) (x : Int32) (vm0 : Vm) (h0 : Heap) (X00 : Ext Z.heap h0)  :
    Met l mn490 y28_ 2 (some .int) ws ({ frames := 0, cells := 0, slots := 0, locals := 0 } : Room) Z consts_1 vm0 h0 #[(.int x)] (fun rv vm h => rv = some (.int (own_sgn x)) ∧ h0 = h) := by
  obtain ⟨hw, hEL, ⟨zc, Scs, hzc⟩, ⟨fm, Sfm, hfm⟩, Sad, Shi, Slo⟩ := id cx
  have hSA := own_SA hw
  refine Met.of_walk (a0 := a0) #[vi x, un] (plainFor_of_name own_pn436) X00 hEL (fun m => by first | (simp [entryFrame, mkF, argsToLocals, Value.category]; done) | rfl) ?_
  intro p e s m below meth c vm hx hby hml hret hnm hC0 hW0
  refine uIN 1 hx hby d476 rfl rfl ?_
  by_cases g1 : x < (0 : Int32)
  · refine uN 4 hx hby d477 rfl ((if0 _ _).trans (tlt g1).2.1) ?_
    refine uKc 5 (-1 : Int32) hx hby d478 rfl rfl ?_
    refine uSIN 6 #[vi x, vi (-1 : Int32)] hx hby d479 rfl rfl ?_
    refine uG 20 hx hby d480 (by decide) (by decide) ?_
    refine uIN 21 hx hby d481 rfl rfl ?_
    exact gretI hx hret (hb hby d482) (by decide) (by decide) (fun vq Cq => ⟨(congrArg (fun z => some (Value.int z)) (by rw [own_sgn, if_pos g1])), rfl⟩)
  · refine uY 9 hx hby d477 ((if0 _ _).trans (flt g1).2.1) (by decide) (by decide) ?_
    refine uIN 10 hx hby d483 rfl rfl ?_
    by_cases g2 : (0 : Int32) < x
    · refine uN 13 hx hby d484 rfl ((if0 _ _).trans (tlt g2).2.2.2) ?_
      refine uKc 14 (1 : Int32) hx hby d485 rfl rfl ?_
      refine uSIN 15 #[vi x, vi (1 : Int32)] hx hby d486 rfl rfl ?_
      refine uG 20 hx hby d487 (by decide) (by decide) ?_
      refine uIN 21 hx hby d481 rfl rfl ?_
      exact gretI hx hret (hb hby d482) (by decide) (by decide) (fun vq Cq => ⟨(congrArg (fun z => some (Value.int z)) (by rw [own_sgn, if_neg g1, if_pos g2])), rfl⟩)
    · refine uY 18 hx hby d484 ((if0 _ _).trans (flt g2).2.2.2) (by decide) (by decide) ?_
      refine uKc 19 (0 : Int32) hx hby d488 rfl rfl ?_
      refine uSIN 20 #[vi x, vi (0 : Int32)] hx hby d489 rfl rfl ?_
      refine uIN 21 hx hby d481 rfl rfl ?_
      exact gretI hx hret (hb hby d482) (by decide) (by decide) (fun vq Cq => ⟨(congrArg (fun z => some (Value.int z)) (by rw [own_sgn, if_neg g1, if_neg g2])), rfl⟩)
def own_ref (n a b k c d : Int32) : Int32 := if n = (0 : Int32) then own_cmp n k else if k = (0 : Int32) then own_cmp n k else if a = c then (if n = (1 : Int32) then own_cmp n k else if k = (1 : Int32) then own_cmp n k else if b = d then (0 : Int32) else own_cmp b d) else own_cmp a c
theorem d491 : decode y29_ 0 = .ok (.iload_n 0, 1) := by decide +kernel
theorem d492 : decode y29_ 1 = .ok (.ifCond .eq 7, 3) := by decide +kernel
theorem d493 : decode y29_ 8 = .ok (.iload_n 0, 1) := by decide +kernel
theorem d494 : decode y29_ 9 = .ok (.iload_n 3, 1) := by decide +kernel
theorem d495 : decode y29_ 10 = .ok (.invokestatic 48, 3) := by decide +kernel
theorem d496 : decode y29_ 13 = .ok (.istore 6, 2) := by decide +kernel
theorem d497 : decode y29_ 15 = .ok (.goto 60, 3) := by decide +kernel
theorem d498 : decode y29_ 75 = .ok (.iload 6, 2) := by decide +kernel
theorem d499 : decode y29_ 77 = .ok (.ireturn, 1) := by decide +kernel
theorem d500 : decode y29_ 4 = .ok (.iload_n 3, 1) := by decide +kernel
theorem d501 : decode y29_ 5 = .ok (.ifCond .ne 13, 3) := by decide +kernel
theorem d502 : decode y29_ 18 = .ok (.iload_n 1, 1) := by decide +kernel
theorem d503 : decode y29_ 19 = .ok (.iload 4, 2) := by decide +kernel
theorem d504 : decode y29_ 21 = .ok (.if_icmp .eq 14, 3) := by decide +kernel
theorem d505 : decode y29_ 35 = .ok (.iload_n 0, 1) := by decide +kernel
theorem d506 : decode y29_ 36 = .ok (.iconst 1, 1) := by decide +kernel
theorem d507 : decode y29_ 37 = .ok (.if_icmp .eq 8, 3) := by decide +kernel
theorem d508 : decode y29_ 45 = .ok (.iload_n 0, 1) := by decide +kernel
theorem d509 : decode y29_ 46 = .ok (.iload_n 3, 1) := by decide +kernel
theorem d510 : decode y29_ 47 = .ok (.invokestatic 48, 3) := by decide +kernel
theorem d511 : decode y29_ 50 = .ok (.istore 6, 2) := by decide +kernel
theorem d512 : decode y29_ 52 = .ok (.goto 23, 3) := by decide +kernel
theorem d513 : decode y29_ 40 = .ok (.iload_n 3, 1) := by decide +kernel
theorem d514 : decode y29_ 41 = .ok (.iconst 1, 1) := by decide +kernel
theorem d515 : decode y29_ 42 = .ok (.if_icmp .ne 13, 3) := by decide +kernel
theorem d516 : decode y29_ 55 = .ok (.iload_n 2, 1) := by decide +kernel
theorem d517 : decode y29_ 56 = .ok (.iload 5, 2) := by decide +kernel
theorem d518 : decode y29_ 58 = .ok (.if_icmp .eq 14, 3) := by decide +kernel
theorem d519 : decode y29_ 72 = .ok (.iconst 0, 1) := by decide +kernel
theorem d520 : decode y29_ 73 = .ok (.istore 6, 2) := by decide +kernel
theorem d521 : decode y29_ 61 = .ok (.iload_n 2, 1) := by decide +kernel
theorem d522 : decode y29_ 62 = .ok (.iload 5, 2) := by decide +kernel
theorem d523 : decode y29_ 64 = .ok (.invokestatic 48, 3) := by decide +kernel
theorem d524 : decode y29_ 67 = .ok (.istore 6, 2) := by decide +kernel
theorem d525 : decode y29_ 69 = .ok (.goto 6, 3) := by decide +kernel
theorem d526 : decode y29_ 24 = .ok (.iload_n 1, 1) := by decide +kernel
theorem d527 : decode y29_ 25 = .ok (.iload 4, 2) := by decide +kernel
theorem d528 : decode y29_ 27 = .ok (.invokestatic 48, 3) := by decide +kernel
theorem d529 : decode y29_ 30 = .ok (.istore 6, 2) := by decide +kernel
theorem d530 : decode y29_ 32 = .ok (.goto 43, 3) := by decide +kernel
abbrev mn531 : MethodName := ⟨"com/example/headings_from_text/headingsfromtext/evaluation/TrecRunCompareCodePointsPinLaw", "reference", "(IIIIII)I"⟩
theorem own_refw (l : Launch) (Z : State) (a0 : Array Value) (cx : Ctx Z a0) (ws : List Jvm.Cond) (n : Int32) (a : Int32) (b : Int32) (k : Int32) (u : Int32) (d : Int32) (vm0 : Vm) (h0 : Heap) (X00 : Ext Z.heap h0)  :
    Met l mn531 y29_ 7 (some .int) ws ({ frames := 1, cells := 0, slots := 0, locals := 14 } : Room) Z consts_1 vm0 h0 #[(.int n), (.int a), (.int b), (.int k), (.int u), (.int d)] (fun rv vm h => rv = some (.int (own_ref n a b k u d)) ∧ h0 = h) := by
  obtain ⟨hw, hEL, ⟨zc, Scs, hzc⟩, ⟨fm, Sfm, hfm⟩, Sad, Shi, Slo⟩ := id cx
  have hSA := own_SA hw
  refine Met.of_walk (a0 := a0) #[vi n, vi a, vi b, vi k, vi u, vi d, un] (plainFor_of_name own_pn436) X00 hEL (fun m => by first | (simp [entryFrame, mkF, argsToLocals, Value.category]; done) | rfl) ?_
  intro p e s m below meth c vm hx hby hml hret hnm hC0 hW0
  refine uIN 1 hx hby d491 rfl rfl ?_
  by_cases g0 : n = (0 : Int32)
  · refine uY 8 hx hby d492 ((if0 _ _).trans (teq g0).1) (by decide) (by decide) ?_
    refine uIN 9 hx hby d493 rfl rfl ?_
    refine uIN 10 hx hby d494 rfl rfl ?_
    refine ginfo fun _ _ O1 => ?_
    refine gcallS (y := mn475) hx (ow hw 62 rfl) (ow hw 63 rfl) (ow hw 2 rfl) (ow hw 64 rfl) (by decide) (fun hZ H hEL => Pay.of_met (W := 0) (own_cmpw l Z a0 cx [] (n) (k) vm h0 O1 ) (ow hw 64 rfl) (ow hw 2 rfl) (by decide) (by decide) hZ H hEL) 13 (argsL := [(.int n), (.int k)]) (rest := []) (lenOf own_pd353 rfl) rfl rfl (Nat.le_of_eq rfl) (by rw [hml]; rfl) (hb hby d495) rfl (by decide) (by decide) ?_
    rintro _ vm1 h1 C1 ⟨rfl, rfl⟩
    have z1 := C1.2.1
    refine gat1 ?_
    refine uSI 15 #[vi n, vi a, vi b, vi k, vi u, vi d, vi (own_cmp n k)] hx hby d496 rfl rfl ?_
    refine uG 75 hx hby d497 (by decide) (by decide) ?_
    refine uI 77 hx hby d498 rfl rfl ?_
    exact gretI hx hret (hb hby d499) (by decide) (by decide) (fun vq Cq => ⟨(congrArg (fun z => some (Value.int z)) (by rw [own_ref, if_pos g0])), rfl⟩)
  · refine uN 4 hx hby d492 rfl ((if0 _ _).trans (feq g0).1) ?_
    refine uIN 5 hx hby d500 rfl rfl ?_
    by_cases g1 : k = (0 : Int32)
    · refine uN 8 hx hby d501 rfl ((if0 _ _).trans (teq g1).2) ?_
      refine uIN 9 hx hby d493 rfl rfl ?_
      refine uIN 10 hx hby d494 rfl rfl ?_
      refine ginfo fun _ _ O3 => ?_
      refine gcallS (y := mn475) hx (ow hw 62 rfl) (ow hw 63 rfl) (ow hw 2 rfl) (ow hw 64 rfl) (by decide) (fun hZ H hEL => Pay.of_met (W := 0) (own_cmpw l Z a0 cx [] (n) (k) vm h0 O3 ) (ow hw 64 rfl) (ow hw 2 rfl) (by decide) (by decide) hZ H hEL) 13 (argsL := [(.int n), (.int k)]) (rest := []) (lenOf own_pd353 rfl) rfl rfl (Nat.le_of_eq rfl) (by rw [hml]; rfl) (hb hby d495) rfl (by decide) (by decide) ?_
      rintro _ vm3 h3 C3 ⟨rfl, rfl⟩
      have z3 := C3.2.1
      refine gat1 ?_
      refine uSI 15 #[vi n, vi a, vi b, vi k, vi u, vi d, vi (own_cmp n k)] hx hby d496 rfl rfl ?_
      refine uG 75 hx hby d497 (by decide) (by decide) ?_
      refine uI 77 hx hby d498 rfl rfl ?_
      exact gretI hx hret (hb hby d499) (by decide) (by decide) (fun vq Cq => ⟨(congrArg (fun z => some (Value.int z)) (by rw [own_ref, if_neg g0, if_pos g1])), rfl⟩)
    · refine uY 18 hx hby d501 ((if0 _ _).trans (feq g1).2) (by decide) (by decide) ?_
      refine uIN 19 hx hby d502 rfl rfl ?_
      refine uI 21 hx hby d503 rfl rfl ?_
      by_cases g2 : a = u
      · refine uYc 35 hx hby d504 (teq g2).1 (by decide) (by decide) ?_
        refine uIN 36 hx hby d505 rfl rfl ?_
        refine uKc 37 (1 : Int32) hx hby d506 rfl rfl ?_
        by_cases g3 : n = (1 : Int32)
        · refine uYc 45 hx hby d507 (teq g3).1 (by decide) (by decide) ?_
          refine uIN 46 hx hby d508 rfl rfl ?_
          refine uIN 47 hx hby d509 rfl rfl ?_
          refine ginfo fun _ _ O5 => ?_
          refine gcallS (y := mn475) hx (ow hw 62 rfl) (ow hw 63 rfl) (ow hw 2 rfl) (ow hw 64 rfl) (by decide) (fun hZ H hEL => Pay.of_met (W := 0) (own_cmpw l Z a0 cx [] (n) (k) vm h0 O5 ) (ow hw 64 rfl) (ow hw 2 rfl) (by decide) (by decide) hZ H hEL) 50 (argsL := [(.int n), (.int k)]) (rest := []) (lenOf own_pd353 rfl) rfl rfl (Nat.le_of_eq rfl) (by rw [hml]; rfl) (hb hby d510) rfl (by decide) (by decide) ?_
          rintro _ vm5 h5 C5 ⟨rfl, rfl⟩
          have z5 := C5.2.1
          refine gat1 ?_
          refine uSI 52 #[vi n, vi a, vi b, vi k, vi u, vi d, vi (own_cmp n k)] hx hby d511 rfl rfl ?_
          refine uG 75 hx hby d512 (by decide) (by decide) ?_
          refine uI 77 hx hby d498 rfl rfl ?_
          exact gretI hx hret (hb hby d499) (by decide) (by decide) (fun vq Cq => ⟨(congrArg (fun z => some (Value.int z)) (by rw [own_ref, if_neg g0, if_neg g1, if_pos g2, if_pos g3])), rfl⟩)
        · refine uNc 40 hx hby d507 rfl (feq g3).1 ?_
          refine uIN 41 hx hby d513 rfl rfl ?_
          refine uKc 42 (1 : Int32) hx hby d514 rfl rfl ?_
          by_cases g4 : k = (1 : Int32)
          · refine uNc 45 hx hby d515 rfl (teq g4).2 ?_
            refine uIN 46 hx hby d508 rfl rfl ?_
            refine uIN 47 hx hby d509 rfl rfl ?_
            refine ginfo fun _ _ O7 => ?_
            refine gcallS (y := mn475) hx (ow hw 62 rfl) (ow hw 63 rfl) (ow hw 2 rfl) (ow hw 64 rfl) (by decide) (fun hZ H hEL => Pay.of_met (W := 0) (own_cmpw l Z a0 cx [] (n) (k) vm h0 O7 ) (ow hw 64 rfl) (ow hw 2 rfl) (by decide) (by decide) hZ H hEL) 50 (argsL := [(.int n), (.int k)]) (rest := []) (lenOf own_pd353 rfl) rfl rfl (Nat.le_of_eq rfl) (by rw [hml]; rfl) (hb hby d510) rfl (by decide) (by decide) ?_
            rintro _ vm7 h7 C7 ⟨rfl, rfl⟩
            have z7 := C7.2.1
            refine gat1 ?_
            refine uSI 52 #[vi n, vi a, vi b, vi k, vi u, vi d, vi (own_cmp n k)] hx hby d511 rfl rfl ?_
            refine uG 75 hx hby d512 (by decide) (by decide) ?_
            refine uI 77 hx hby d498 rfl rfl ?_
            exact gretI hx hret (hb hby d499) (by decide) (by decide) (fun vq Cq => ⟨(congrArg (fun z => some (Value.int z)) (by rw [own_ref, if_neg g0, if_neg g1, if_pos g2, if_neg g3, if_pos g4])), rfl⟩)
          · refine uYc 55 hx hby d515 (feq g4).2 (by decide) (by decide) ?_
            refine uIN 56 hx hby d516 rfl rfl ?_
            refine uI 58 hx hby d517 rfl rfl ?_
            by_cases g5 : b = d
            · refine uYc 72 hx hby d518 (teq g5).1 (by decide) (by decide) ?_
              refine uKc 73 (0 : Int32) hx hby d519 rfl rfl ?_
              refine uSI 75 #[vi n, vi a, vi b, vi k, vi u, vi d, vi (0 : Int32)] hx hby d520 rfl rfl ?_
              refine uI 77 hx hby d498 rfl rfl ?_
              exact gretI hx hret (hb hby d499) (by decide) (by decide) (fun vq Cq => ⟨(congrArg (fun z => some (Value.int z)) (by rw [own_ref, if_neg g0, if_neg g1, if_pos g2, if_neg g3, if_neg g4, if_pos g5])), rfl⟩)
            · refine uNc 61 hx hby d518 rfl (feq g5).1 ?_
              refine uIN 62 hx hby d521 rfl rfl ?_
              refine uI 64 hx hby d522 rfl rfl ?_
              refine ginfo fun _ _ O10 => ?_
              refine gcallS (y := mn475) hx (ow hw 62 rfl) (ow hw 63 rfl) (ow hw 2 rfl) (ow hw 64 rfl) (by decide) (fun hZ H hEL => Pay.of_met (W := 0) (own_cmpw l Z a0 cx [] (b) (d) vm h0 O10 ) (ow hw 64 rfl) (ow hw 2 rfl) (by decide) (by decide) hZ H hEL) 67 (argsL := [(.int b), (.int d)]) (rest := []) (lenOf own_pd353 rfl) rfl rfl (Nat.le_of_eq rfl) (by rw [hml]; rfl) (hb hby d523) rfl (by decide) (by decide) ?_
              rintro _ vm10 h10 C10 ⟨rfl, rfl⟩
              have z10 := C10.2.1
              refine gat1 ?_
              refine uSI 69 #[vi n, vi a, vi b, vi k, vi u, vi d, vi (own_cmp b d)] hx hby d524 rfl rfl ?_
              refine uG 75 hx hby d525 (by decide) (by decide) ?_
              refine uI 77 hx hby d498 rfl rfl ?_
              exact gretI hx hret (hb hby d499) (by decide) (by decide) (fun vq Cq => ⟨(congrArg (fun z => some (Value.int z)) (by rw [own_ref, if_neg g0, if_neg g1, if_pos g2, if_neg g3, if_neg g4, if_neg g5])), rfl⟩)
      · refine uNc 24 hx hby d504 rfl (feq g2).1 ?_
        refine uIN 25 hx hby d526 rfl rfl ?_
        refine uI 27 hx hby d527 rfl rfl ?_
        refine ginfo fun _ _ O12 => ?_
        refine gcallS (y := mn475) hx (ow hw 62 rfl) (ow hw 63 rfl) (ow hw 2 rfl) (ow hw 64 rfl) (by decide) (fun hZ H hEL => Pay.of_met (W := 0) (own_cmpw l Z a0 cx [] (a) (u) vm h0 O12 ) (ow hw 64 rfl) (ow hw 2 rfl) (by decide) (by decide) hZ H hEL) 30 (argsL := [(.int a), (.int u)]) (rest := []) (lenOf own_pd353 rfl) rfl rfl (Nat.le_of_eq rfl) (by rw [hml]; rfl) (hb hby d528) rfl (by decide) (by decide) ?_
        rintro _ vm12 h12 C12 ⟨rfl, rfl⟩
        have z12 := C12.2.1
        refine gat1 ?_
        refine uSI 32 #[vi n, vi a, vi b, vi k, vi u, vi d, vi (own_cmp a u)] hx hby d529 rfl rfl ?_
        refine uG 75 hx hby d530 (by decide) (by decide) ?_
        refine uI 77 hx hby d498 rfl rfl ?_
        exact gretI hx hret (hb hby d499) (by decide) (by decide) (fun vq Cq => ⟨(congrArg (fun z => some (Value.int z)) (by rw [own_ref, if_neg g0, if_neg g1, if_neg g2])), rfl⟩)
def own_ca (k : Nat) (ds : List Int32) : List Value := ds.map Value.int ++ List.replicate (k - ds.length) (.int (0 : Int32))
theorem own_cal {k : Nat} {ds : List Int32} (h : ds.length ≤ k) : (own_ca k ds).length = k := by rw [own_ca, List.length_append, List.length_map, List.length_replicate]; omega
theorem own_ca0 (k : Nat) : List.replicate k (Value.int (0 : Int32)) = own_ca k [] := by rw [own_ca]; simp
theorem own_ca1 {k : Nat} {ds : List Int32} {c : Int32} (h : ds.length < k) : (own_ca k ds).set ds.length (.int c) = own_ca k (ds ++ [c]) := by
  obtain ⟨j, hj⟩ : ∃ j, k - ds.length = j + 1 := ⟨k - ds.length - 1, by omega⟩
  rw [own_ca, own_ca, List.set_append_right _ _ (by rw [List.length_map]; exact Nat.le_refl _), List.length_map, Nat.sub_self, hj, List.length_append, List.map_append, List.append_assoc, show k - (ds.length + [c].length) = j by simp; omega]
  rfl
theorem own_len1 {ds : List Int32} {c : Int32} (h : ds.length ≤ 3000) : Int32.ofNat ds.length + (1 : Int32) = Int32.ofNat (ds ++ [c]).length := by rw [own_add1 h, List.length_append]; rfl
theorem own_len2 {ds : List Int32} {c d : Int32} (h : ds.length ≤ 3000) : Int32.ofNat ds.length + (2 : Int32) = Int32.ofNat (ds ++ [c, d]).length := by rw [List.length_append]; exact addOf (b := 2) (by omega)
def own_hi (c : Int32) : Int32 := (55296 : Int32) + (((c - (65536 : Int32)).toUInt32 >>> ((10 : Int32) &&& 31).toUInt32).toInt32)
def own_lo (c : Int32) : Int32 := (56320 : Int32) + ((c - (65536 : Int32)) &&& (1023 : Int32))
def own_V (c : Int32) : Prop := 0 ≤ c.toInt ∧ c.toInt ≤ 1114111 ∧ (c.toInt < 55296 ∨ 57344 ≤ c.toInt)
def own_e (c : Int32) : List Int32 := if c < (65536 : Int32) then [c] else [own_hi c, own_lo c]
theorem own_hl {c : Int32} (h : own_V c) (g : ¬ c < (65536 : Int32)) : (own_hi c).toInt = 55296 + (c.toInt - 65536) / 1024 ∧ (own_lo c).toInt = 56320 + (c.toInt - 65536) % 1024 := by
  have e : (65536 : Int32).toInt = 65536 := rfl
  have e1 : (55296 : Int32).toInt = 55296 := rfl
  have e2 : (56320 : Int32).toInt = 56320 := rfl
  rw [Int32.lt_iff_toInt_lt, e] at g
  have q := c_isub c 65536
  have r := rng32 (c - 65536)
  rw [e] at q
  unfold own_V at h
  have s : (c - 65536).toInt = c.toInt - 65536 := by omega
  have m3 := c_iushr (c - 65536) 10 10 (by decide) (by decide)
  have m2 := c_mask (c - 65536) 1023 10 (by decide) (by decide)
  have a1 := c_iadd 55296 (((c - (65536 : Int32)).toUInt32 >>> ((10 : Int32) &&& 31).toUInt32).toInt32)
  have a2 := c_iadd 56320 ((c - (65536 : Int32)) &&& (1023 : Int32))
  have r1 := rng32 (own_hi c)
  have r2 := rng32 (own_lo c)
  unfold own_hi own_lo at *
  rw [s] at m2 m3
  rw [e1, m3] at a1
  rw [e2, m2] at a2
  omega
theorem own_b16 {c : Int32} (h : 0 ≤ c.toInt ∧ c.toInt ≤ 65535) : ¬ c < 0 ∧ ¬ (65535 : Int32) < c := by
  have e0 : (0 : Int32).toInt = 0 := rfl
  have e2 : (65535 : Int32).toInt = 65535 := rfl
  rw [Int32.lt_iff_toInt_lt, Int32.lt_iff_toInt_lt, e0, e2]; omega
theorem own_e16 {c : Int32} (h : own_V c) : ∀ z ∈ own_e c, ¬ z < 0 ∧ ¬ (65535 : Int32) < z := fun z hz => by
  unfold own_e at hz
  have e : (65536 : Int32).toInt = 65536 := rfl
  by_cases g : c < (65536 : Int32)
  · rw [if_pos g] at hz
    cases List.mem_singleton.mp hz
    rw [Int32.lt_iff_toInt_lt, e] at g
    exact own_b16 ⟨h.1, by omega⟩
  · rw [if_neg g] at hz
    obtain ⟨q1, q2⟩ := own_hl h g
    unfold own_V at h
    rcases List.mem_cons.mp hz with rfl | hz
    · exact own_b16 (by omega)
    · cases List.mem_singleton.mp hz
      exact own_b16 (by omega)
theorem own_el (c : Int32) : (own_e c).length ≤ 2 := by unfold own_e; split <;> simp
def own_str (n a b : Int32) : List Int32 := if n = (0 : Int32) then [] else if n = (1 : Int32) then own_e a else own_e a ++ own_e b
theorem own_strl (n a b : Int32) : (own_str n a b).length ≤ 4 := by
  unfold own_str
  have h1 := own_el a
  have h2 := own_el b
  split
  · simp
  · split
    · omega
    · rw [List.length_append]; omega
theorem own_str16 {n a b : Int32} (ha : own_V a) (hb : own_V b) : ∀ z ∈ own_str n a b, ¬ z < 0 ∧ ¬ (65535 : Int32) < z := fun z hz => by
  unfold own_str at hz
  split at hz
  · cases hz
  · split at hz
    · exact own_e16 ha z hz
    · rcases List.mem_append.mp hz with q | q
      · exact own_e16 ha z q
      · exact own_e16 hb z q
theorem own_shape {ds : List Int32} (h : ds.length ≤ 4) : ds = [] ∨ (∃ c0, ds = [c0]) ∨ (∃ c0 c1, ds = [c0, c1]) ∨ (∃ c0 c1 c2, ds = [c0, c1, c2]) ∨ (∃ c0 c1 c2 c3, ds = [c0, c1, c2, c3]) := by
  match ds, h with
  | [], _ => exact Or.inl rfl
  | [c0], _ => exact Or.inr (Or.inl ⟨c0, rfl⟩)
  | [c0, c1], _ => exact Or.inr (Or.inr (Or.inl ⟨c0, c1, rfl⟩))
  | [c0, c1, c2], _ => exact Or.inr (Or.inr (Or.inr (Or.inl ⟨c0, c1, c2, rfl⟩)))
  | [c0, c1, c2, c3], _ => exact Or.inr (Or.inr (Or.inr (Or.inr ⟨c0, c1, c2, c3, rfl⟩)))
  | _ :: _ :: _ :: _ :: _ :: _, h => simp at h
theorem d532 : decode y25_ 0 = .ok (.iload_n 2, 1) := by decide +kernel
theorem d533 : decode y25_ 1 = .ok (.ldc 40, 2) := by decide +kernel
theorem d534 : decode y25_ 3 = .ok (.if_icmp .ge 15, 3) := by decide +kernel
theorem d535 : decode y25_ 6 = .ok (.aload_n 0, 1) := by decide +kernel
theorem d536 : decode y25_ 7 = .ok (.iload_n 1, 1) := by decide +kernel
theorem d537 : decode y25_ 8 = .ok (.iload_n 2, 1) := by decide +kernel
theorem d538 : decode y25_ 9 = .ok (.i2c, 1) := by decide +kernel
theorem d539 : decode y25_ 10 = .ok (.castore, 1) := by decide +kernel
theorem d540 : decode y25_ 11 = .ok (.iload_n 1, 1) := by decide +kernel
theorem d541 : decode y25_ 12 = .ok (.iconst 1, 1) := by decide +kernel
theorem d542 : decode y25_ 13 = .ok (.iadd, 1) := by decide +kernel
theorem d543 : decode y25_ 14 = .ok (.istore_n 3, 1) := by decide +kernel
theorem d544 : decode y25_ 15 = .ok (.goto 40, 3) := by decide +kernel
theorem d545 : decode y25_ 55 = .ok (.iload_n 3, 1) := by decide +kernel
theorem d546 : decode y25_ 56 = .ok (.ireturn, 1) := by decide +kernel
theorem d547 : decode y25_ 18 = .ok (.iload_n 2, 1) := by decide +kernel
theorem d548 : decode y25_ 19 = .ok (.ldc 40, 2) := by decide +kernel
theorem d549 : decode y25_ 21 = .ok (.isub, 1) := by decide +kernel
theorem d550 : decode y25_ 22 = .ok (.istore 4, 2) := by decide +kernel
theorem d551 : decode y25_ 24 = .ok (.aload_n 0, 1) := by decide +kernel
theorem d552 : decode y25_ 25 = .ok (.iload_n 1, 1) := by decide +kernel
theorem d553 : decode y25_ 26 = .ok (.ldc 38, 2) := by decide +kernel
theorem d554 : decode y25_ 28 = .ok (.iload 4, 2) := by decide +kernel
theorem d555 : decode y25_ 30 = .ok (.bipush 10, 2) := by decide +kernel
theorem d556 : decode y25_ 32 = .ok (.iushr, 1) := by decide +kernel
theorem d557 : decode y25_ 33 = .ok (.iadd, 1) := by decide +kernel
theorem d558 : decode y25_ 34 = .ok (.i2c, 1) := by decide +kernel
theorem d559 : decode y25_ 35 = .ok (.castore, 1) := by decide +kernel
theorem d560 : decode y25_ 36 = .ok (.aload_n 0, 1) := by decide +kernel
theorem d561 : decode y25_ 37 = .ok (.iload_n 1, 1) := by decide +kernel
theorem d562 : decode y25_ 38 = .ok (.iconst 1, 1) := by decide +kernel
theorem d563 : decode y25_ 39 = .ok (.iadd, 1) := by decide +kernel
theorem d564 : decode y25_ 40 = .ok (.ldc 42, 2) := by decide +kernel
theorem d565 : decode y25_ 42 = .ok (.iload 4, 2) := by decide +kernel
theorem d566 : decode y25_ 44 = .ok (.sipush 1023, 3) := by decide +kernel
theorem d567 : decode y25_ 47 = .ok (.iand, 1) := by decide +kernel
theorem d568 : decode y25_ 48 = .ok (.iadd, 1) := by decide +kernel
theorem d569 : decode y25_ 49 = .ok (.i2c, 1) := by decide +kernel
theorem d570 : decode y25_ 50 = .ok (.castore, 1) := by decide +kernel
theorem d571 : decode y25_ 51 = .ok (.iload_n 1, 1) := by decide +kernel
theorem d572 : decode y25_ 52 = .ok (.iconst 2, 1) := by decide +kernel
theorem d573 : decode y25_ 53 = .ok (.iadd, 1) := by decide +kernel
theorem d574 : decode y25_ 54 = .ok (.istore_n 3, 1) := by decide +kernel
abbrev mn575 : MethodName := ⟨"com/example/headings_from_text/headingsfromtext/evaluation/TrecRunCompareCodePointsPinLaw", "put", "([CII)I"⟩
theorem own_put (l : Launch) (Z : State) (a0 : Array Value) (cx : Ctx Z a0) (ws : List Jvm.Cond) (a : Addr) (ka : ClassId) (ds : List Int32) (c_ : Int32) (vm0 : Vm) (h0 : Heap) (X00 : Ext Z.heap h0) (P0 : Arv Z h0 a ka .char (4 : Int32) (own_ca 4 ds) (.int (0 : Int32))) (P1 : Z.heap.size ≤ a) (hd : (ds.length ≤ 2)) (hV : (own_V c_)) :
    Met l mn575 y25_ 5 (some .int) ws ({ frames := 0, cells := 0, slots := 0, locals := 0 } : Room) Z consts_1 vm0 h0 #[(.ref a), (.int (Int32.ofNat ds.length)), (.int c_)] (fun rv vm h => rv = some (.int (Int32.ofNat (ds ++ own_e c_).length)) ∧ Keep h0 h [a] ∧ Arv Z h a ka .char (4 : Int32) (own_ca 4 (ds ++ own_e c_)) (.int (0 : Int32))) := by
  obtain ⟨hw, hEL, ⟨zc, Scs, hzc⟩, ⟨fm, Sfm, hfm⟩, Sad, Shi, Slo⟩ := id cx
  have hSA := own_SA hw
  refine Met.of_walk (a0 := a0) #[vr a, vi (Int32.ofNat ds.length), vi c_, un, un] (plainFor_of_name own_pn436) X00 hEL (fun m => by first | (simp [entryFrame, mkF, argsToLocals, Value.category]; done) | rfl) ?_
  intro p e s m below meth c vm hx hby hml hret hnm hC0 hW0
  have lt_a : h0.size > a := P0.lt
  refine uIN 1 hx hby d532 rfl rfl ?_
  refine gldcI hx (ow hw 4 rfl) 3 (hb hby d533) rfl ?_
  by_cases g : c_ < (65536 : Int32)
  · refine uNc 6 hx hby d534 rfl (tlt g).2.1 ?_
    have e16 := own_e16 hV
    rw [own_e, if_pos g] at e16
    refine uAN 7 hx hby d535 rfl rfl rfl ?_
    refine uIN 8 hx hby d536 rfl rfl ?_
    refine uIN 9 hx hby d537 rfl rfl ?_
    refine gi2c hx (own_nar16 (e16 _ (List.mem_of_getElem? (i := 0) rfl))) 10 (hb hby d538) rfl ?_
    refine gstC hx P0 ⟨nn0 (by omega), (ltOf (b := 4) (by omega) (by omega)).mpr (by omega)⟩ (i := ds.length) (tn (by omega)) (by rw [own_cal (by omega)]; omega) (y := c_) (own_nar16 (e16 _ (List.mem_of_getElem? (i := 0) rfl))) P1 11 (hb hby d539) rfl ?_
    intro h2 W2 C2 V2
    have z2 := C2.2.1
    have X3 : Arv Z h2 a ka .char (4 : Int32) (own_ca 4 (ds ++ [c_])) (.int (0 : Int32)) := Eq.mp (congrArg (fun z => Arv Z h2 a ka .char (4 : Int32) z (.int (0 : Int32))) (own_ca1 (by omega))) V2
    refine uIN 12 hx hby d540 rfl rfl ?_
    refine uKc 13 (1 : Int32) hx hby d541 rfl rfl ?_
    refine uiadd 14 ((Int32.ofNat ds.length) + (1 : Int32)) hx hby d542 rfl rfl ?_
    refine uSIN 15 #[vr a, vi (Int32.ofNat ds.length), vi c_, vi ((Int32.ofNat ds.length) + (1 : Int32)), un] hx hby d543 rfl rfl ?_
    refine uG 55 hx hby d544 (by decide) (by decide) ?_
    refine uIN 56 hx hby d545 rfl rfl ?_
    exact gretI hx hret (hb hby d546) (by decide) (by decide) (fun vq Cq => ⟨(congrArg (fun z => some (Value.int z)) (by rw [own_e, if_pos g]; exact own_len1 (by omega))), ((Keep.refl h0 [a]).wr W2 (Or.inl (List.mem_of_getElem? (i := 0) rfl))), (by rw [own_e, if_pos g]; exact X3)⟩)
  · refine uYc 18 hx hby d534 (flt g).2.1 (by decide) (by decide) ?_
    have e16 := own_e16 hV
    rw [own_e, if_neg g] at e16
    refine uIN 19 hx hby d547 rfl rfl ?_
    refine gldcI hx (ow hw 4 rfl) 21 (hb hby d548) rfl ?_
    refine uisub 22 (c_ - (65536 : Int32)) hx hby d549 rfl rfl ?_
    refine uSI 24 #[vr a, vi (Int32.ofNat ds.length), vi c_, un, vi (c_ - (65536 : Int32))] hx hby d550 rfl rfl ?_
    refine uAN 25 hx hby d551 rfl rfl rfl ?_
    refine uIN 26 hx hby d552 rfl rfl ?_
    refine gldcI hx (ow hw 10 rfl) 28 (hb hby d553) rfl ?_
    refine uI 30 hx hby d554 rfl rfl ?_
    refine uKb 32 (10 : Int32) hx hby d555 rfl rfl ?_
    refine gs (mkF m 33 #[vr a, vi (Int32.ofNat ds.length), vi c_, un, vi (c_ - (65536 : Int32))] [(.int (((c_ - (65536 : Int32)).toUInt32 >>> ((10 : Int32) &&& 31).toUInt32).toInt32)), (.int (55296 : Int32)), (.int (Int32.ofNat ds.length)), (.ref a)]) (fun _ _ A kq => XS.iushr A hx rfl (hb hby d556) rfl kq) ?_
    refine uiadd 34 ((55296 : Int32) + (((c_ - (65536 : Int32)).toUInt32 >>> ((10 : Int32) &&& 31).toUInt32).toInt32)) hx hby d557 rfl rfl ?_
    refine gi2c hx (own_nar16 (e16 _ (List.mem_of_getElem? (i := 0) rfl))) 35 (hb hby d558) rfl ?_
    refine gstC hx P0 ⟨nn0 (by omega), (ltOf (b := 4) (by omega) (by omega)).mpr (by omega)⟩ (i := ds.length) (tn (by omega)) (by rw [own_cal (by omega)]; omega) (y := (own_hi c_)) (own_nar16 (e16 _ (List.mem_of_getElem? (i := 0) rfl))) P1 36 (hb hby d559) rfl ?_
    intro h7 W7 C7 V7
    have z7 := C7.2.1
    have X8 : Arv Z h7 a ka .char (4 : Int32) (own_ca 4 (ds ++ [(own_hi c_)])) (.int (0 : Int32)) := Eq.mp (congrArg (fun z => Arv Z h7 a ka .char (4 : Int32) z (.int (0 : Int32))) (own_ca1 (by omega))) V7
    refine uAN 37 hx hby d560 rfl rfl rfl ?_
    refine uIN 38 hx hby d561 rfl rfl ?_
    refine uKc 39 (1 : Int32) hx hby d562 rfl rfl ?_
    refine uiadd 40 ((Int32.ofNat ds.length) + (1 : Int32)) hx hby d563 rfl rfl ?_
    refine gat (mkF m 40 #[vr a, vi (Int32.ofNat ds.length), vi c_, un, vi (c_ - (65536 : Int32))] [(.int (Int32.ofNat (ds ++ [(own_hi c_)]).length)), (.ref a)]) (by rw [own_len1 (c := (own_hi c_)) (by omega)]) ?_
    have hl1 : (ds ++ [(own_hi c_)]).length = ds.length + 1 := by simp only [List.length_append, List.length_cons, List.length_nil]
    refine gldcI hx (ow hw 100 rfl) 42 (hb hby d564) rfl ?_
    refine uI 44 hx hby d565 rfl rfl ?_
    refine uKs 47 (1023 : Int32) hx hby d566 rfl rfl ?_
    refine uiand 48 ((c_ - (65536 : Int32)) &&& (1023 : Int32)) hx hby d567 rfl rfl ?_
    refine uiadd 49 ((56320 : Int32) + ((c_ - (65536 : Int32)) &&& (1023 : Int32))) hx hby d568 rfl rfl ?_
    refine gi2c hx (own_nar16 (e16 _ (List.mem_of_getElem? (i := 1) rfl))) 50 (hb hby d569) rfl ?_
    refine gstC hx X8 ⟨nn0 (by omega), (ltOf (b := 4) (by omega) (by omega)).mpr (by omega)⟩ (i := (ds ++ [(own_hi c_)]).length) (tn (by omega)) (by rw [own_cal (by omega)]; omega) (y := (own_lo c_)) (own_nar16 (e16 _ (List.mem_of_getElem? (i := 1) rfl))) P1 51 (hb hby d570) rfl ?_
    intro h10 W10 C10 V10
    have z10 := C10.2.1
    have X11 : Arv Z h10 a ka .char (4 : Int32) (own_ca 4 ((ds ++ [(own_hi c_)]) ++ [(own_lo c_)])) (.int (0 : Int32)) := Eq.mp (congrArg (fun z => Arv Z h10 a ka .char (4 : Int32) z (.int (0 : Int32))) (own_ca1 (by omega))) V10
    refine uIN 52 hx hby d571 rfl rfl ?_
    refine uKc 53 (2 : Int32) hx hby d572 rfl rfl ?_
    refine uiadd 54 ((Int32.ofNat ds.length) + (2 : Int32)) hx hby d573 rfl rfl ?_
    refine uSIN 55 #[vr a, vi (Int32.ofNat ds.length), vi c_, vi ((Int32.ofNat ds.length) + (2 : Int32)), vi (c_ - (65536 : Int32))] hx hby d574 rfl rfl ?_
    refine uIN 56 hx hby d545 rfl rfl ?_
    exact gretI hx hret (hb hby d546) (by decide) (by decide) (fun vq Cq => ⟨(congrArg (fun z => some (Value.int z)) (by rw [own_e, if_neg g]; exact own_len2 (by omega))), (((Keep.refl h0 [a]).wr W7 (Or.inl (List.mem_of_getElem? (i := 0) rfl))).wr W10 (Or.inl (List.mem_of_getElem? (i := 0) rfl))), (by have z := X11; rw [List.append_assoc] at z; rw [own_e, if_neg g]; exact z)⟩)
theorem d576 : decode y26_ 0 = .ok (.iload_n 1, 1) := by decide +kernel
theorem d577 : decode y26_ 1 = .ok (.ifCond .ne 17, 3) := by decide +kernel
theorem d578 : decode y26_ 4 = .ok (.new 43, 3) := by decide +kernel
theorem d579 : decode y26_ 7 = .ok (.dup, 1) := by decide +kernel
theorem d580 : decode y26_ 8 = .ok (.iconst 0, 1) := by decide +kernel
theorem d581 : decode y26_ 9 = .ok (.newarray .char, 2) := by decide +kernel
theorem d582 : decode y26_ 11 = .ok (.invokespecial 45, 3) := by decide +kernel
theorem own_pd583 : parseMethodDescriptor "([C)V" = some ⟨[(.array .char)], none⟩ := by decide +kernel
theorem d584 : decode y26_ 14 = .ok (.astore_n 2, 1) := by decide +kernel
theorem d585 : decode y26_ 15 = .ok (.goto 131, 3) := by decide +kernel
theorem d586 : decode y26_ 146 = .ok (.aload_n 2, 1) := by decide +kernel
theorem d587 : decode y26_ 147 = .ok (.areturn, 1) := by decide +kernel
theorem d588 : decode y26_ 18 = .ok (.iload_n 1, 1) := by decide +kernel
theorem d589 : decode y26_ 19 = .ok (.iconst 1, 1) := by decide +kernel
theorem d590 : decode y26_ 20 = .ok (.if_icmp .ne 23, 3) := by decide +kernel
theorem d591 : decode y26_ 23 = .ok (.new 43, 3) := by decide +kernel
theorem d592 : decode y26_ 26 = .ok (.dup, 1) := by decide +kernel
theorem d593 : decode y26_ 27 = .ok (.iconst 1, 1) := by decide +kernel
theorem d594 : decode y26_ 28 = .ok (.newarray .char, 2) := by decide +kernel
theorem d595 : decode y26_ 30 = .ok (.dup, 1) := by decide +kernel
theorem d596 : decode y26_ 31 = .ok (.iconst 0, 1) := by decide +kernel
theorem d597 : decode y26_ 32 = .ok (.aload_n 0, 1) := by decide +kernel
theorem d598 : decode y26_ 33 = .ok (.iconst 0, 1) := by decide +kernel
theorem d599 : decode y26_ 34 = .ok (.caload, 1) := by decide +kernel
theorem d600 : decode y26_ 35 = .ok (.castore, 1) := by decide +kernel
theorem d601 : decode y26_ 36 = .ok (.invokespecial 45, 3) := by decide +kernel
theorem d602 : decode y26_ 39 = .ok (.astore_n 2, 1) := by decide +kernel
theorem d603 : decode y26_ 40 = .ok (.goto 106, 3) := by decide +kernel
theorem d604 : decode y26_ 43 = .ok (.iload_n 1, 1) := by decide +kernel
theorem d605 : decode y26_ 44 = .ok (.iconst 2, 1) := by decide +kernel
theorem d606 : decode y26_ 45 = .ok (.if_icmp .ne 29, 3) := by decide +kernel
theorem d607 : decode y26_ 48 = .ok (.new 43, 3) := by decide +kernel
theorem d608 : decode y26_ 51 = .ok (.dup, 1) := by decide +kernel
theorem d609 : decode y26_ 52 = .ok (.iconst 2, 1) := by decide +kernel
theorem d610 : decode y26_ 53 = .ok (.newarray .char, 2) := by decide +kernel
theorem d611 : decode y26_ 55 = .ok (.dup, 1) := by decide +kernel
theorem d612 : decode y26_ 56 = .ok (.iconst 0, 1) := by decide +kernel
theorem d613 : decode y26_ 57 = .ok (.aload_n 0, 1) := by decide +kernel
theorem d614 : decode y26_ 58 = .ok (.iconst 0, 1) := by decide +kernel
theorem d615 : decode y26_ 59 = .ok (.caload, 1) := by decide +kernel
theorem d616 : decode y26_ 60 = .ok (.castore, 1) := by decide +kernel
theorem d617 : decode y26_ 61 = .ok (.dup, 1) := by decide +kernel
theorem d618 : decode y26_ 62 = .ok (.iconst 1, 1) := by decide +kernel
theorem d619 : decode y26_ 63 = .ok (.aload_n 0, 1) := by decide +kernel
theorem d620 : decode y26_ 64 = .ok (.iconst 1, 1) := by decide +kernel
theorem d621 : decode y26_ 65 = .ok (.caload, 1) := by decide +kernel
theorem d622 : decode y26_ 66 = .ok (.castore, 1) := by decide +kernel
theorem d623 : decode y26_ 67 = .ok (.invokespecial 45, 3) := by decide +kernel
theorem d624 : decode y26_ 70 = .ok (.astore_n 2, 1) := by decide +kernel
theorem d625 : decode y26_ 71 = .ok (.goto 75, 3) := by decide +kernel
theorem d626 : decode y26_ 74 = .ok (.iload_n 1, 1) := by decide +kernel
theorem d627 : decode y26_ 75 = .ok (.iconst 3, 1) := by decide +kernel
theorem d628 : decode y26_ 76 = .ok (.if_icmp .ne 35, 3) := by decide +kernel
theorem d629 : decode y26_ 79 = .ok (.new 43, 3) := by decide +kernel
theorem d630 : decode y26_ 82 = .ok (.dup, 1) := by decide +kernel
theorem d631 : decode y26_ 83 = .ok (.iconst 3, 1) := by decide +kernel
theorem d632 : decode y26_ 84 = .ok (.newarray .char, 2) := by decide +kernel
theorem d633 : decode y26_ 86 = .ok (.dup, 1) := by decide +kernel
theorem d634 : decode y26_ 87 = .ok (.iconst 0, 1) := by decide +kernel
theorem d635 : decode y26_ 88 = .ok (.aload_n 0, 1) := by decide +kernel
theorem d636 : decode y26_ 89 = .ok (.iconst 0, 1) := by decide +kernel
theorem d637 : decode y26_ 90 = .ok (.caload, 1) := by decide +kernel
theorem d638 : decode y26_ 91 = .ok (.castore, 1) := by decide +kernel
theorem d639 : decode y26_ 92 = .ok (.dup, 1) := by decide +kernel
theorem d640 : decode y26_ 93 = .ok (.iconst 1, 1) := by decide +kernel
theorem d641 : decode y26_ 94 = .ok (.aload_n 0, 1) := by decide +kernel
theorem d642 : decode y26_ 95 = .ok (.iconst 1, 1) := by decide +kernel
theorem d643 : decode y26_ 96 = .ok (.caload, 1) := by decide +kernel
theorem d644 : decode y26_ 97 = .ok (.castore, 1) := by decide +kernel
theorem d645 : decode y26_ 98 = .ok (.dup, 1) := by decide +kernel
theorem d646 : decode y26_ 99 = .ok (.iconst 2, 1) := by decide +kernel
theorem d647 : decode y26_ 100 = .ok (.aload_n 0, 1) := by decide +kernel
theorem d648 : decode y26_ 101 = .ok (.iconst 2, 1) := by decide +kernel
theorem d649 : decode y26_ 102 = .ok (.caload, 1) := by decide +kernel
theorem d650 : decode y26_ 103 = .ok (.castore, 1) := by decide +kernel
theorem d651 : decode y26_ 104 = .ok (.invokespecial 45, 3) := by decide +kernel
theorem d652 : decode y26_ 107 = .ok (.astore_n 2, 1) := by decide +kernel
theorem d653 : decode y26_ 108 = .ok (.goto 38, 3) := by decide +kernel
theorem d654 : decode y26_ 111 = .ok (.new 43, 3) := by decide +kernel
theorem d655 : decode y26_ 114 = .ok (.dup, 1) := by decide +kernel
theorem d656 : decode y26_ 115 = .ok (.iconst 4, 1) := by decide +kernel
theorem d657 : decode y26_ 116 = .ok (.newarray .char, 2) := by decide +kernel
theorem d658 : decode y26_ 118 = .ok (.dup, 1) := by decide +kernel
theorem d659 : decode y26_ 119 = .ok (.iconst 0, 1) := by decide +kernel
theorem d660 : decode y26_ 120 = .ok (.aload_n 0, 1) := by decide +kernel
theorem d661 : decode y26_ 121 = .ok (.iconst 0, 1) := by decide +kernel
theorem d662 : decode y26_ 122 = .ok (.caload, 1) := by decide +kernel
theorem d663 : decode y26_ 123 = .ok (.castore, 1) := by decide +kernel
theorem d664 : decode y26_ 124 = .ok (.dup, 1) := by decide +kernel
theorem d665 : decode y26_ 125 = .ok (.iconst 1, 1) := by decide +kernel
theorem d666 : decode y26_ 126 = .ok (.aload_n 0, 1) := by decide +kernel
theorem d667 : decode y26_ 127 = .ok (.iconst 1, 1) := by decide +kernel
theorem d668 : decode y26_ 128 = .ok (.caload, 1) := by decide +kernel
theorem d669 : decode y26_ 129 = .ok (.castore, 1) := by decide +kernel
theorem d670 : decode y26_ 130 = .ok (.dup, 1) := by decide +kernel
theorem d671 : decode y26_ 131 = .ok (.iconst 2, 1) := by decide +kernel
theorem d672 : decode y26_ 132 = .ok (.aload_n 0, 1) := by decide +kernel
theorem d673 : decode y26_ 133 = .ok (.iconst 2, 1) := by decide +kernel
theorem d674 : decode y26_ 134 = .ok (.caload, 1) := by decide +kernel
theorem d675 : decode y26_ 135 = .ok (.castore, 1) := by decide +kernel
theorem d676 : decode y26_ 136 = .ok (.dup, 1) := by decide +kernel
theorem d677 : decode y26_ 137 = .ok (.iconst 3, 1) := by decide +kernel
theorem d678 : decode y26_ 138 = .ok (.aload_n 0, 1) := by decide +kernel
theorem d679 : decode y26_ 139 = .ok (.iconst 3, 1) := by decide +kernel
theorem d680 : decode y26_ 140 = .ok (.caload, 1) := by decide +kernel
theorem d681 : decode y26_ 141 = .ok (.castore, 1) := by decide +kernel
theorem d682 : decode y26_ 142 = .ok (.invokespecial 45, 3) := by decide +kernel
theorem d683 : decode y26_ 145 = .ok (.astore_n 2, 1) := by decide +kernel
abbrev mn684 : MethodName := ⟨"com/example/headings_from_text/headingsfromtext/evaluation/TrecRunCompareCodePointsPinLaw", "text", "([CI)Ljava/lang/String;"⟩
theorem own_text (l : Launch) (Z : State) (a0 : Array Value) (cx : Ctx Z a0) (ws : List Jvm.Cond) (a : Addr) (ka : ClassId) (ds : List Int32) (vm0 : Vm) (h0 : Heap) (X00 : Ext Z.heap h0) (P0 : Arv Z h0 a ka .char (4 : Int32) (own_ca 4 ds) (.int (0 : Int32))) (hd : (ds.length ≤ 4)) (hh : (∀ c ∈ ds, ¬ c < 0 ∧ ¬ (65535 : Int32) < c)) :
    Met l mn684 y26_ 3 (some (.object c0_)) ws ({ frames := 6, cells := 6, slots := 20, locals := 88 } : Room) Z consts_1 vm0 h0 #[(.ref a), (.int (Int32.ofNat ds.length))] (fun rv vm h => ∃ (r : Addr), ∃ (t : Addr), rv = some (.ref r) ∧ Keep h0 h [] ∧ h0.size ≤ r ∧ Txt Z h r t ds) := by
  obtain ⟨hw, hEL, ⟨zc, Scs, hzc⟩, ⟨fm, Sfm, hfm⟩, Sad, Shi, Slo⟩ := id cx
  have hSA := own_SA hw
  refine Met.of_walk (a0 := a0) #[vr a, vi (Int32.ofNat ds.length), un] (plainFor_of_name own_pn436) X00 hEL (fun m => by first | (simp [entryFrame, mkF, argsToLocals, Value.category]; done) | rfl) ?_
  intro p e s m below meth c vm hx hby hml hret hnm hC0 hW0
  have lt_a : h0.size > a := P0.lt
  rcases own_shape hd with rfl | ⟨c0, rfl⟩ | ⟨c0, c1, rfl⟩ | ⟨c0, c1, c2, rfl⟩ | ⟨c0, c1, c2, c3, rfl⟩
  · refine gat (mkF m 0 #[vr a, vi (0 : Int32), un] []) rfl ?_
    have VA : Arv Z h0 a ka .char (4 : Int32) [(.int (0 : Int32)), (.int (0 : Int32)), (.int (0 : Int32)), (.int (0 : Int32))] (.int (0 : Int32)) := P0
    refine uIN 1 hx hby d576 rfl rfl ?_
    refine uN 4 hx hby d577 rfl ((if0 _ _).trans (teq (by decide)).2) ?_
    refine gnewO hx (ow hw 15 rfl) (ow hw 16 rfl) (ow hw 17 rfl) 7 (hb hby d578) rfl (by decide) (by decide) ?_
    intro b1 h1 g1 E1 C1 A1 D1 n1 L1
    have z1 := C1.2.1
    have lt_b1 : h1.size > b1 := A1.lt
    have F1_value : Fld Z h1 b1 c0_ "value" "[B" .null := D1 (Or.inr (ow hw 30 rfl)) (ty := (.array .byte)) (by decide)
    have F1_coder : Fld Z h1 b1 c0_ "coder" "B" (.int (0 : Int32)) := D1 (Or.inr (ow hw 31 rfl)) (ty := .byte) (by decide)
    refine uD 8 hx hby d579 rfl rfl ?_
    refine uKc 9 (0 : Int32) hx hby d580 rfl rfl ?_
    refine gnewPE hx (ow hw 11 rfl) (n := (0 : Int32)) (by decide) (cap := 0) (by decide) (by decide) (ad := "[C") (by decide) 11 (hb hby d581) rfl (by decide) (by decide) ?_
    intro b2 h2 k2 g2 E2 C2 V2 A2 n2 L2
    have z2 := C2.2.1
    have V2 : Arv Z h2 b2 k2 .char (0 : Int32) [] (.int (0 : Int32)) := V2.pad (pad_rep [] (.int (0 : Int32)) 0)
    have lt_b2 : h2.size > b2 := V2.lt
    have f4 := (A1.ext E2)
    have f5 := (F1_value.ext E2)
    have f6 := (F1_coder.ext E2)
    have f7 := (C2.safe (show h1.size > b1 by omega) L1)
    refine ginfo fun _ _ O3 => ?_
    refine gcallI (y := mn185) hx rfl (ow hw 18 rfl) (ow hw 19 rfl) (ow hw 20 rfl) (by decide) (fun hZ H hEL => Pay.of_met (W := 1) (own_emp1 l Z a0 cx [] (b1) (b2) (.null) ((.int (0 : Int32))) (k2) vm h2 O3 f4 f5 f6 n1 f7 V2) (ow hw 20 rfl) (ow hw 17 rfl) (by decide) (by decide) hZ H hEL) (a := b1) 14 (argsL := [(.ref b2)]) (rest := [(.ref b1)]) (lenOf own_pd583 rfl) rfl rfl (Nat.le_of_eq rfl) (by rw [hml]; rfl) (hb hby d582) rfl (by decide) (by decide) ?_
    rintro _ vm3 h3 C3 ⟨t3, rfl, K3, q3_0, q3_1⟩
    have z3 := C3.2.1
    have lt_t3 : h3.size > t3 := q3_0.tlt
    refine gat0 ?_
    refine uSAN 15 #[vr a, vi (0 : Int32), vr b1] hx hby d584 rfl rfl rfl ?_
    refine uG 146 hx hby d585 (by decide) (by decide) ?_
    refine uAN 147 hx hby d586 rfl rfl rfl ?_
    exact gretA hx hret rfl rfl (hb hby d587) (by decide) (by decide) (fun vq Cq => ⟨b1, t3, rfl, ((((Keep.refl h0 []).ext E1).ext E2).trans K3 (allS (Or.inr (by omega)) all0)), (by omega), (own_txt0 q3_0)⟩)
  · refine gat (mkF m 0 #[vr a, vi (1 : Int32), un] []) rfl ?_
    have VA : Arv Z h0 a ka .char (4 : Int32) [(.int c0), (.int (0 : Int32)), (.int (0 : Int32)), (.int (0 : Int32))] (.int (0 : Int32)) := P0
    refine uIN 1 hx hby d576 rfl rfl ?_
    refine uY 18 hx hby d577 ((if0 _ _).trans (feq (by decide)).2) (by decide) (by decide) ?_
    refine uIN 19 hx hby d588 rfl rfl ?_
    refine uKc 20 (1 : Int32) hx hby d589 rfl rfl ?_
    refine uNc 23 hx hby d590 rfl (teq (by decide)).2 ?_
    refine gnewO hx (ow hw 15 rfl) (ow hw 16 rfl) (ow hw 17 rfl) 26 (hb hby d591) rfl (by decide) (by decide) ?_
    intro b9 h9 g9 E9 C9 A9 D9 n9 L9
    have z9 := C9.2.1
    have lt_b9 : h9.size > b9 := A9.lt
    have F9_value : Fld Z h9 b9 c0_ "value" "[B" .null := D9 (Or.inr (ow hw 30 rfl)) (ty := (.array .byte)) (by decide)
    have F9_coder : Fld Z h9 b9 c0_ "coder" "B" (.int (0 : Int32)) := D9 (Or.inr (ow hw 31 rfl)) (ty := .byte) (by decide)
    refine uD 27 hx hby d592 rfl rfl ?_
    refine uKc 28 (1 : Int32) hx hby d593 rfl rfl ?_
    refine gnewPE hx (ow hw 11 rfl) (n := (1 : Int32)) (by decide) (cap := 1) (by decide) (by decide) (ad := "[C") (by decide) 30 (hb hby d594) rfl (by decide) (by decide) ?_
    intro b10 h10 k10 g10 E10 C10 V10 A10 n10 L10
    have z10 := C10.2.1
    have V10 : Arv Z h10 b10 k10 .char (1 : Int32) [(.int (0 : Int32))] (.int (0 : Int32)) := V10.pad (pad_rep [] (.int (0 : Int32)) 1)
    have lt_b10 : h10.size > b10 := V10.lt
    refine uD 31 hx hby d595 rfl rfl ?_
    refine uKc 32 (0 : Int32) hx hby d596 rfl rfl ?_
    refine uAN 33 hx hby d597 rfl rfl rfl ?_
    refine uKc 34 (0 : Int32) hx hby d598 rfl rfl ?_
    have f11 := ((VA.ext E9).ext E10)
    refine gldC hx f11 ⟨by decide, by decide⟩ (i := 0) rfl (v := (.int c0)) rfl 35 (hb hby d599) rfl ?_
    refine gstC hx V10 ⟨by decide, by decide⟩ (i := 0) rfl (Nat.le_of_ble_eq_true rfl) (y := c0) (own_nar16 (hh _ (List.mem_of_getElem? (i := 0) rfl))) n10 36 (hb hby d600) rfl ?_
    intro h12 W12 C12 V12
    have z12 := C12.2.1
    replace V12 : Arv Z h12 b10 k10 .char (1 : Int32) [(.int c0)] (.int (0 : Int32)) := V12
    have f14 := ((A9.ext E10).wr W12)
    have f15 := ((F9_value.ext E10).other W12 (Or.inl (Nat.ne_of_lt (by omega))))
    have f16 := ((F9_coder.ext E10).other W12 (Or.inl (Nat.ne_of_lt (by omega))))
    have f17 := (C12.safe (show h10.size > b9 by omega) (C10.safe (show h9.size > b9 by omega) L9))
    refine ginfo fun _ _ O13 => ?_
    refine gcallI (y := mn185) hx rfl (ow hw 18 rfl) (ow hw 19 rfl) (ow hw 20 rfl) (by decide) (fun hZ H hEL => Pay.of_met (W := 1) (own_i1_1 l Z a0 cx [] (b9) (b10) (.null) ((.int (0 : Int32))) (k10) (c0) vm h12 O13 f14 f15 f16 n9 f17 V12 hh) (ow hw 20 rfl) (ow hw 17 rfl) (by decide) (by decide) hZ H hEL) (a := b9) 39 (argsL := [(.ref b10)]) (rest := [(.ref b9)]) (lenOf own_pd583 rfl) rfl rfl (Nat.le_of_eq rfl) (by rw [hml]; rfl) (hb hby d601) rfl (by decide) (by decide) ?_
    rintro _ vm13 h13 C13 ⟨t13, rfl, K13, q13_0⟩
    have z13 := C13.2.1
    have lt_t13 : h13.size > t13 := q13_0.tlt
    refine gat0 ?_
    refine uSAN 40 #[vr a, vi (1 : Int32), vr b9] hx hby d602 rfl rfl rfl ?_
    refine uG 146 hx hby d603 (by decide) (by decide) ?_
    refine uAN 147 hx hby d586 rfl rfl rfl ?_
    exact gretA hx hret rfl rfl (hb hby d587) (by decide) (by decide) (fun vq Cq => ⟨b9, t13, rfl, (((((Keep.refl h0 []).ext E9).ext E10).wr W12 (Or.inr (by omega))).trans K13 (allS (Or.inr (by omega)) all0)), (by omega), q13_0⟩)
  · refine gat (mkF m 0 #[vr a, vi (2 : Int32), un] []) rfl ?_
    have VA : Arv Z h0 a ka .char (4 : Int32) [(.int c0), (.int c1), (.int (0 : Int32)), (.int (0 : Int32))] (.int (0 : Int32)) := P0
    refine uIN 1 hx hby d576 rfl rfl ?_
    refine uY 18 hx hby d577 ((if0 _ _).trans (feq (by decide)).2) (by decide) (by decide) ?_
    refine uIN 19 hx hby d588 rfl rfl ?_
    refine uKc 20 (1 : Int32) hx hby d589 rfl rfl ?_
    refine uYc 43 hx hby d590 (feq (by decide)).2 (by decide) (by decide) ?_
    refine uIN 44 hx hby d604 rfl rfl ?_
    refine uKc 45 (2 : Int32) hx hby d605 rfl rfl ?_
    refine uNc 48 hx hby d606 rfl (teq (by decide)).2 ?_
    refine gnewO hx (ow hw 15 rfl) (ow hw 16 rfl) (ow hw 17 rfl) 51 (hb hby d607) rfl (by decide) (by decide) ?_
    intro b19 h19 g19 E19 C19 A19 D19 n19 L19
    have z19 := C19.2.1
    have lt_b19 : h19.size > b19 := A19.lt
    have F19_value : Fld Z h19 b19 c0_ "value" "[B" .null := D19 (Or.inr (ow hw 30 rfl)) (ty := (.array .byte)) (by decide)
    have F19_coder : Fld Z h19 b19 c0_ "coder" "B" (.int (0 : Int32)) := D19 (Or.inr (ow hw 31 rfl)) (ty := .byte) (by decide)
    refine uD 52 hx hby d608 rfl rfl ?_
    refine uKc 53 (2 : Int32) hx hby d609 rfl rfl ?_
    refine gnewPE hx (ow hw 11 rfl) (n := (2 : Int32)) (by decide) (cap := 2) (by decide) (by decide) (ad := "[C") (by decide) 55 (hb hby d610) rfl (by decide) (by decide) ?_
    intro b20 h20 k20 g20 E20 C20 V20 A20 n20 L20
    have z20 := C20.2.1
    have V20 : Arv Z h20 b20 k20 .char (2 : Int32) [(.int (0 : Int32)), (.int (0 : Int32))] (.int (0 : Int32)) := V20.pad (pad_rep [] (.int (0 : Int32)) 2)
    have lt_b20 : h20.size > b20 := V20.lt
    refine uD 56 hx hby d611 rfl rfl ?_
    refine uKc 57 (0 : Int32) hx hby d612 rfl rfl ?_
    refine uAN 58 hx hby d613 rfl rfl rfl ?_
    refine uKc 59 (0 : Int32) hx hby d614 rfl rfl ?_
    have f21 := ((VA.ext E19).ext E20)
    refine gldC hx f21 ⟨by decide, by decide⟩ (i := 0) rfl (v := (.int c0)) rfl 60 (hb hby d615) rfl ?_
    refine gstC hx V20 ⟨by decide, by decide⟩ (i := 0) rfl (Nat.le_of_ble_eq_true rfl) (y := c0) (own_nar16 (hh _ (List.mem_of_getElem? (i := 0) rfl))) n20 61 (hb hby d616) rfl ?_
    intro h22 W22 C22 V22
    have z22 := C22.2.1
    replace V22 : Arv Z h22 b20 k20 .char (2 : Int32) [(.int c0), (.int (0 : Int32))] (.int (0 : Int32)) := V22
    refine uD 62 hx hby d617 rfl rfl ?_
    refine uKc 63 (1 : Int32) hx hby d618 rfl rfl ?_
    refine uAN 64 hx hby d619 rfl rfl rfl ?_
    refine uKc 65 (1 : Int32) hx hby d620 rfl rfl ?_
    have f23 := (f21.other W22 (Nat.ne_of_lt (by omega)))
    refine gldC hx f23 ⟨by decide, by decide⟩ (i := 1) rfl (v := (.int c1)) rfl 66 (hb hby d621) rfl ?_
    refine gstC hx V22 ⟨by decide, by decide⟩ (i := 1) rfl (Nat.le_of_ble_eq_true rfl) (y := c1) (own_nar16 (hh _ (List.mem_of_getElem? (i := 1) rfl))) n20 67 (hb hby d622) rfl ?_
    intro h24 W24 C24 V24
    have z24 := C24.2.1
    replace V24 : Arv Z h24 b20 k20 .char (2 : Int32) [(.int c0), (.int c1)] (.int (0 : Int32)) := V24
    have f26 := (((A19.ext E20).wr W22).wr W24)
    have f27 := (((F19_value.ext E20).other W22 (Or.inl (Nat.ne_of_lt (by omega)))).other W24 (Or.inl (Nat.ne_of_lt (by omega))))
    have f28 := (((F19_coder.ext E20).other W22 (Or.inl (Nat.ne_of_lt (by omega)))).other W24 (Or.inl (Nat.ne_of_lt (by omega))))
    have f29 := (C24.safe (show h22.size > b19 by omega) (C22.safe (show h20.size > b19 by omega) (C20.safe (show h19.size > b19 by omega) L19)))
    refine ginfo fun _ _ O25 => ?_
    refine gcallI (y := mn185) hx rfl (ow hw 18 rfl) (ow hw 19 rfl) (ow hw 20 rfl) (by decide) (fun hZ H hEL => Pay.of_met (W := 1) (own_i1_2 l Z a0 cx [] (b19) (b20) (.null) ((.int (0 : Int32))) (k20) (c0) (c1) vm h24 O25 f26 f27 f28 n19 f29 V24 hh) (ow hw 20 rfl) (ow hw 17 rfl) (by decide) (by decide) hZ H hEL) (a := b19) 70 (argsL := [(.ref b20)]) (rest := [(.ref b19)]) (lenOf own_pd583 rfl) rfl rfl (Nat.le_of_eq rfl) (by rw [hml]; rfl) (hb hby d623) rfl (by decide) (by decide) ?_
    rintro _ vm25 h25 C25 ⟨t25, rfl, K25, q25_0⟩
    have z25 := C25.2.1
    have lt_t25 : h25.size > t25 := q25_0.tlt
    refine gat0 ?_
    refine uSAN 71 #[vr a, vi (2 : Int32), vr b19] hx hby d624 rfl rfl rfl ?_
    refine uG 146 hx hby d625 (by decide) (by decide) ?_
    refine uAN 147 hx hby d586 rfl rfl rfl ?_
    exact gretA hx hret rfl rfl (hb hby d587) (by decide) (by decide) (fun vq Cq => ⟨b19, t25, rfl, ((((((Keep.refl h0 []).ext E19).ext E20).wr W22 (Or.inr (by omega))).wr W24 (Or.inr (by omega))).trans K25 (allS (Or.inr (by omega)) all0)), (by omega), q25_0⟩)
  · refine gat (mkF m 0 #[vr a, vi (3 : Int32), un] []) rfl ?_
    have VA : Arv Z h0 a ka .char (4 : Int32) [(.int c0), (.int c1), (.int c2), (.int (0 : Int32))] (.int (0 : Int32)) := P0
    refine uIN 1 hx hby d576 rfl rfl ?_
    refine uY 18 hx hby d577 ((if0 _ _).trans (feq (by decide)).2) (by decide) (by decide) ?_
    refine uIN 19 hx hby d588 rfl rfl ?_
    refine uKc 20 (1 : Int32) hx hby d589 rfl rfl ?_
    refine uYc 43 hx hby d590 (feq (by decide)).2 (by decide) (by decide) ?_
    refine uIN 44 hx hby d604 rfl rfl ?_
    refine uKc 45 (2 : Int32) hx hby d605 rfl rfl ?_
    refine uYc 74 hx hby d606 (feq (by decide)).2 (by decide) (by decide) ?_
    refine uIN 75 hx hby d626 rfl rfl ?_
    refine uKc 76 (3 : Int32) hx hby d627 rfl rfl ?_
    refine uNc 79 hx hby d628 rfl (teq (by decide)).2 ?_
    refine gnewO hx (ow hw 15 rfl) (ow hw 16 rfl) (ow hw 17 rfl) 82 (hb hby d629) rfl (by decide) (by decide) ?_
    intro b31 h31 g31 E31 C31 A31 D31 n31 L31
    have z31 := C31.2.1
    have lt_b31 : h31.size > b31 := A31.lt
    have F31_value : Fld Z h31 b31 c0_ "value" "[B" .null := D31 (Or.inr (ow hw 30 rfl)) (ty := (.array .byte)) (by decide)
    have F31_coder : Fld Z h31 b31 c0_ "coder" "B" (.int (0 : Int32)) := D31 (Or.inr (ow hw 31 rfl)) (ty := .byte) (by decide)
    refine uD 83 hx hby d630 rfl rfl ?_
    refine uKc 84 (3 : Int32) hx hby d631 rfl rfl ?_
    refine gnewPE hx (ow hw 11 rfl) (n := (3 : Int32)) (by decide) (cap := 3) (by decide) (by decide) (ad := "[C") (by decide) 86 (hb hby d632) rfl (by decide) (by decide) ?_
    intro b32 h32 k32 g32 E32 C32 V32 A32 n32 L32
    have z32 := C32.2.1
    have V32 : Arv Z h32 b32 k32 .char (3 : Int32) [(.int (0 : Int32)), (.int (0 : Int32)), (.int (0 : Int32))] (.int (0 : Int32)) := V32.pad (pad_rep [] (.int (0 : Int32)) 3)
    have lt_b32 : h32.size > b32 := V32.lt
    refine uD 87 hx hby d633 rfl rfl ?_
    refine uKc 88 (0 : Int32) hx hby d634 rfl rfl ?_
    refine uAN 89 hx hby d635 rfl rfl rfl ?_
    refine uKc 90 (0 : Int32) hx hby d636 rfl rfl ?_
    have f33 := ((VA.ext E31).ext E32)
    refine gldC hx f33 ⟨by decide, by decide⟩ (i := 0) rfl (v := (.int c0)) rfl 91 (hb hby d637) rfl ?_
    refine gstC hx V32 ⟨by decide, by decide⟩ (i := 0) rfl (Nat.le_of_ble_eq_true rfl) (y := c0) (own_nar16 (hh _ (List.mem_of_getElem? (i := 0) rfl))) n32 92 (hb hby d638) rfl ?_
    intro h34 W34 C34 V34
    have z34 := C34.2.1
    replace V34 : Arv Z h34 b32 k32 .char (3 : Int32) [(.int c0), (.int (0 : Int32)), (.int (0 : Int32))] (.int (0 : Int32)) := V34
    refine uD 93 hx hby d639 rfl rfl ?_
    refine uKc 94 (1 : Int32) hx hby d640 rfl rfl ?_
    refine uAN 95 hx hby d641 rfl rfl rfl ?_
    refine uKc 96 (1 : Int32) hx hby d642 rfl rfl ?_
    have f35 := (f33.other W34 (Nat.ne_of_lt (by omega)))
    refine gldC hx f35 ⟨by decide, by decide⟩ (i := 1) rfl (v := (.int c1)) rfl 97 (hb hby d643) rfl ?_
    refine gstC hx V34 ⟨by decide, by decide⟩ (i := 1) rfl (Nat.le_of_ble_eq_true rfl) (y := c1) (own_nar16 (hh _ (List.mem_of_getElem? (i := 1) rfl))) n32 98 (hb hby d644) rfl ?_
    intro h36 W36 C36 V36
    have z36 := C36.2.1
    replace V36 : Arv Z h36 b32 k32 .char (3 : Int32) [(.int c0), (.int c1), (.int (0 : Int32))] (.int (0 : Int32)) := V36
    refine uD 99 hx hby d645 rfl rfl ?_
    refine uKc 100 (2 : Int32) hx hby d646 rfl rfl ?_
    refine uAN 101 hx hby d647 rfl rfl rfl ?_
    refine uKc 102 (2 : Int32) hx hby d648 rfl rfl ?_
    have f37 := (f35.other W36 (Nat.ne_of_lt (by omega)))
    refine gldC hx f37 ⟨by decide, by decide⟩ (i := 2) rfl (v := (.int c2)) rfl 103 (hb hby d649) rfl ?_
    refine gstC hx V36 ⟨by decide, by decide⟩ (i := 2) rfl (Nat.le_of_ble_eq_true rfl) (y := c2) (own_nar16 (hh _ (List.mem_of_getElem? (i := 2) rfl))) n32 104 (hb hby d650) rfl ?_
    intro h38 W38 C38 V38
    have z38 := C38.2.1
    replace V38 : Arv Z h38 b32 k32 .char (3 : Int32) [(.int c0), (.int c1), (.int c2)] (.int (0 : Int32)) := V38
    have f40 := ((((A31.ext E32).wr W34).wr W36).wr W38)
    have f41 := ((((F31_value.ext E32).other W34 (Or.inl (Nat.ne_of_lt (by omega)))).other W36 (Or.inl (Nat.ne_of_lt (by omega)))).other W38 (Or.inl (Nat.ne_of_lt (by omega))))
    have f42 := ((((F31_coder.ext E32).other W34 (Or.inl (Nat.ne_of_lt (by omega)))).other W36 (Or.inl (Nat.ne_of_lt (by omega)))).other W38 (Or.inl (Nat.ne_of_lt (by omega))))
    have f43 := (C38.safe (show h36.size > b31 by omega) (C36.safe (show h34.size > b31 by omega) (C34.safe (show h32.size > b31 by omega) (C32.safe (show h31.size > b31 by omega) L31))))
    refine ginfo fun _ _ O39 => ?_
    refine gcallI (y := mn185) hx rfl (ow hw 18 rfl) (ow hw 19 rfl) (ow hw 20 rfl) (by decide) (fun hZ H hEL => Pay.of_met (W := 1) (own_i1_3 l Z a0 cx [] (b31) (b32) (.null) ((.int (0 : Int32))) (k32) (c0) (c1) (c2) vm h38 O39 f40 f41 f42 n31 f43 V38 hh) (ow hw 20 rfl) (ow hw 17 rfl) (by decide) (by decide) hZ H hEL) (a := b31) 107 (argsL := [(.ref b32)]) (rest := [(.ref b31)]) (lenOf own_pd583 rfl) rfl rfl (Nat.le_of_eq rfl) (by rw [hml]; rfl) (hb hby d651) rfl (by decide) (by decide) ?_
    rintro _ vm39 h39 C39 ⟨t39, rfl, K39, q39_0⟩
    have z39 := C39.2.1
    have lt_t39 : h39.size > t39 := q39_0.tlt
    refine gat0 ?_
    refine uSAN 108 #[vr a, vi (3 : Int32), vr b31] hx hby d652 rfl rfl rfl ?_
    refine uG 146 hx hby d653 (by decide) (by decide) ?_
    refine uAN 147 hx hby d586 rfl rfl rfl ?_
    exact gretA hx hret rfl rfl (hb hby d587) (by decide) (by decide) (fun vq Cq => ⟨b31, t39, rfl, (((((((Keep.refl h0 []).ext E31).ext E32).wr W34 (Or.inr (by omega))).wr W36 (Or.inr (by omega))).wr W38 (Or.inr (by omega))).trans K39 (allS (Or.inr (by omega)) all0)), (by omega), q39_0⟩)
  · refine gat (mkF m 0 #[vr a, vi (4 : Int32), un] []) rfl ?_
    have VA : Arv Z h0 a ka .char (4 : Int32) [(.int c0), (.int c1), (.int c2), (.int c3)] (.int (0 : Int32)) := P0
    refine uIN 1 hx hby d576 rfl rfl ?_
    refine uY 18 hx hby d577 ((if0 _ _).trans (feq (by decide)).2) (by decide) (by decide) ?_
    refine uIN 19 hx hby d588 rfl rfl ?_
    refine uKc 20 (1 : Int32) hx hby d589 rfl rfl ?_
    refine uYc 43 hx hby d590 (feq (by decide)).2 (by decide) (by decide) ?_
    refine uIN 44 hx hby d604 rfl rfl ?_
    refine uKc 45 (2 : Int32) hx hby d605 rfl rfl ?_
    refine uYc 74 hx hby d606 (feq (by decide)).2 (by decide) (by decide) ?_
    refine uIN 75 hx hby d626 rfl rfl ?_
    refine uKc 76 (3 : Int32) hx hby d627 rfl rfl ?_
    refine uYc 111 hx hby d628 (feq (by decide)).2 (by decide) (by decide) ?_
    refine gnewO hx (ow hw 15 rfl) (ow hw 16 rfl) (ow hw 17 rfl) 114 (hb hby d654) rfl (by decide) (by decide) ?_
    intro b45 h45 g45 E45 C45 A45 D45 n45 L45
    have z45 := C45.2.1
    have lt_b45 : h45.size > b45 := A45.lt
    have F45_value : Fld Z h45 b45 c0_ "value" "[B" .null := D45 (Or.inr (ow hw 30 rfl)) (ty := (.array .byte)) (by decide)
    have F45_coder : Fld Z h45 b45 c0_ "coder" "B" (.int (0 : Int32)) := D45 (Or.inr (ow hw 31 rfl)) (ty := .byte) (by decide)
    refine uD 115 hx hby d655 rfl rfl ?_
    refine uKc 116 (4 : Int32) hx hby d656 rfl rfl ?_
    refine gnewPE hx (ow hw 11 rfl) (n := (4 : Int32)) (by decide) (cap := 4) (by decide) (by decide) (ad := "[C") (by decide) 118 (hb hby d657) rfl (by decide) (by decide) ?_
    intro b46 h46 k46 g46 E46 C46 V46 A46 n46 L46
    have z46 := C46.2.1
    have V46 : Arv Z h46 b46 k46 .char (4 : Int32) [(.int (0 : Int32)), (.int (0 : Int32)), (.int (0 : Int32)), (.int (0 : Int32))] (.int (0 : Int32)) := V46.pad (pad_rep [] (.int (0 : Int32)) 4)
    have lt_b46 : h46.size > b46 := V46.lt
    refine uD 119 hx hby d658 rfl rfl ?_
    refine uKc 120 (0 : Int32) hx hby d659 rfl rfl ?_
    refine uAN 121 hx hby d660 rfl rfl rfl ?_
    refine uKc 122 (0 : Int32) hx hby d661 rfl rfl ?_
    have f47 := ((VA.ext E45).ext E46)
    refine gldC hx f47 ⟨by decide, by decide⟩ (i := 0) rfl (v := (.int c0)) rfl 123 (hb hby d662) rfl ?_
    refine gstC hx V46 ⟨by decide, by decide⟩ (i := 0) rfl (Nat.le_of_ble_eq_true rfl) (y := c0) (own_nar16 (hh _ (List.mem_of_getElem? (i := 0) rfl))) n46 124 (hb hby d663) rfl ?_
    intro h48 W48 C48 V48
    have z48 := C48.2.1
    replace V48 : Arv Z h48 b46 k46 .char (4 : Int32) [(.int c0), (.int (0 : Int32)), (.int (0 : Int32)), (.int (0 : Int32))] (.int (0 : Int32)) := V48
    refine uD 125 hx hby d664 rfl rfl ?_
    refine uKc 126 (1 : Int32) hx hby d665 rfl rfl ?_
    refine uAN 127 hx hby d666 rfl rfl rfl ?_
    refine uKc 128 (1 : Int32) hx hby d667 rfl rfl ?_
    have f49 := (f47.other W48 (Nat.ne_of_lt (by omega)))
    refine gldC hx f49 ⟨by decide, by decide⟩ (i := 1) rfl (v := (.int c1)) rfl 129 (hb hby d668) rfl ?_
    refine gstC hx V48 ⟨by decide, by decide⟩ (i := 1) rfl (Nat.le_of_ble_eq_true rfl) (y := c1) (own_nar16 (hh _ (List.mem_of_getElem? (i := 1) rfl))) n46 130 (hb hby d669) rfl ?_
    intro h50 W50 C50 V50
    have z50 := C50.2.1
    replace V50 : Arv Z h50 b46 k46 .char (4 : Int32) [(.int c0), (.int c1), (.int (0 : Int32)), (.int (0 : Int32))] (.int (0 : Int32)) := V50
    refine uD 131 hx hby d670 rfl rfl ?_
    refine uKc 132 (2 : Int32) hx hby d671 rfl rfl ?_
    refine uAN 133 hx hby d672 rfl rfl rfl ?_
    refine uKc 134 (2 : Int32) hx hby d673 rfl rfl ?_
    have f51 := (f49.other W50 (Nat.ne_of_lt (by omega)))
    refine gldC hx f51 ⟨by decide, by decide⟩ (i := 2) rfl (v := (.int c2)) rfl 135 (hb hby d674) rfl ?_
    refine gstC hx V50 ⟨by decide, by decide⟩ (i := 2) rfl (Nat.le_of_ble_eq_true rfl) (y := c2) (own_nar16 (hh _ (List.mem_of_getElem? (i := 2) rfl))) n46 136 (hb hby d675) rfl ?_
    intro h52 W52 C52 V52
    have z52 := C52.2.1
    replace V52 : Arv Z h52 b46 k46 .char (4 : Int32) [(.int c0), (.int c1), (.int c2), (.int (0 : Int32))] (.int (0 : Int32)) := V52
    refine uD 137 hx hby d676 rfl rfl ?_
    refine uKc 138 (3 : Int32) hx hby d677 rfl rfl ?_
    refine uAN 139 hx hby d678 rfl rfl rfl ?_
    refine uKc 140 (3 : Int32) hx hby d679 rfl rfl ?_
    have f53 := (f51.other W52 (Nat.ne_of_lt (by omega)))
    refine gldC hx f53 ⟨by decide, by decide⟩ (i := 3) rfl (v := (.int c3)) rfl 141 (hb hby d680) rfl ?_
    refine gstC hx V52 ⟨by decide, by decide⟩ (i := 3) rfl (Nat.le_of_ble_eq_true rfl) (y := c3) (own_nar16 (hh _ (List.mem_of_getElem? (i := 3) rfl))) n46 142 (hb hby d681) rfl ?_
    intro h54 W54 C54 V54
    have z54 := C54.2.1
    replace V54 : Arv Z h54 b46 k46 .char (4 : Int32) [(.int c0), (.int c1), (.int c2), (.int c3)] (.int (0 : Int32)) := V54
    have f56 := (((((A45.ext E46).wr W48).wr W50).wr W52).wr W54)
    have f57 := (((((F45_value.ext E46).other W48 (Or.inl (Nat.ne_of_lt (by omega)))).other W50 (Or.inl (Nat.ne_of_lt (by omega)))).other W52 (Or.inl (Nat.ne_of_lt (by omega)))).other W54 (Or.inl (Nat.ne_of_lt (by omega))))
    have f58 := (((((F45_coder.ext E46).other W48 (Or.inl (Nat.ne_of_lt (by omega)))).other W50 (Or.inl (Nat.ne_of_lt (by omega)))).other W52 (Or.inl (Nat.ne_of_lt (by omega)))).other W54 (Or.inl (Nat.ne_of_lt (by omega))))
    have f59 := (C54.safe (show h52.size > b45 by omega) (C52.safe (show h50.size > b45 by omega) (C50.safe (show h48.size > b45 by omega) (C48.safe (show h46.size > b45 by omega) (C46.safe (show h45.size > b45 by omega) L45)))))
    refine ginfo fun _ _ O55 => ?_
    refine gcallI (y := mn185) hx rfl (ow hw 18 rfl) (ow hw 19 rfl) (ow hw 20 rfl) (by decide) (fun hZ H hEL => Pay.of_met (W := 1) (own_i1_4 l Z a0 cx [] (b45) (b46) (.null) ((.int (0 : Int32))) (k46) (c0) (c1) (c2) (c3) vm h54 O55 f56 f57 f58 n45 f59 V54 hh) (ow hw 20 rfl) (ow hw 17 rfl) (by decide) (by decide) hZ H hEL) (a := b45) 145 (argsL := [(.ref b46)]) (rest := [(.ref b45)]) (lenOf own_pd583 rfl) rfl rfl (Nat.le_of_eq rfl) (by rw [hml]; rfl) (hb hby d682) rfl (by decide) (by decide) ?_
    rintro _ vm55 h55 C55 ⟨t55, rfl, K55, q55_0⟩
    have z55 := C55.2.1
    have lt_t55 : h55.size > t55 := q55_0.tlt
    refine gat0 ?_
    refine uSAN 146 #[vr a, vi (4 : Int32), vr b45] hx hby d683 rfl rfl rfl ?_
    refine uAN 147 hx hby d586 rfl rfl rfl ?_
    exact gretA hx hret rfl rfl (hb hby d587) (by decide) (by decide) (fun vq Cq => ⟨b45, t55, rfl, ((((((((Keep.refl h0 []).ext E45).ext E46).wr W48 (Or.inr (by omega))).wr W50 (Or.inr (by omega))).wr W52 (Or.inr (by omega))).wr W54 (Or.inr (by omega))).trans K55 (allS (Or.inr (by omega)) all0)), (by omega), q55_0⟩)
theorem own_cpV (x : Int32) : own_V (own_cp x) := by
  have u := c_iushr x 2 2 (by decide) (by decide)
  have hx : 0 ≤ ((x.toUInt32 >>> ((2 : Int32) &&& 31).toUInt32).toInt32).toInt ∧ ((x.toUInt32 >>> ((2 : Int32) &&& 31).toUInt32).toInt32).toInt < 1073741824 := by rw [u]; omega
  clear u
  unfold own_cp own_V
  generalize ((x.toUInt32 >>> ((2 : Int32) &&& 31).toUInt32).toInt32) = y at *
  have e1 : (57344 : Int32).toInt = 57344 := rfl
  have e2 : (65536 : Int32).toInt = 65536 := rfl
  split
  · have m := c_mask y 127 7 (by decide) (by decide); omega
  · split
    · have m := c_irem y 55296 55296 rfl; have := m.1 hx.1; omega
    · split
      · have m := c_mask y 8191 13 (by decide) (by decide)
        have a := c_iadd 57344 (y &&& 8191)
        have r2 := rng32 (57344 + (y &&& 8191))
        rw [e1, m] at a; omega
      · have m := (c_irem y 1048576 1048576 rfl).1 hx.1
        have a := c_iadd 65536 (y % 1048576)
        have r2 := rng32 (65536 + (y % 1048576))
        rw [e2, m] at a; omega
theorem own_xor {a z : Int32} (ha : 0 ≤ a.toInt) (hz : 0 ≤ z.toInt ∧ z.toInt < 1024) : 0 ≤ (a ^^^ z).toInt ∧ (a ^^^ z).toInt / 1024 = a.toInt / 1024 := by
  have na : a.toInt = (a.toBitVec.toNat : Int) := by
    have := Int32.toInt.eq_1 a
    rw [this, BitVec.toInt_eq_toNat_of_msb]
    rw [← Bool.not_eq_true]; intro q
    have := BitVec.toInt_neg_of_msb_true q
    have e := Int32.toInt.eq_1 a
    omega
  have nz : z.toInt = (z.toBitVec.toNat : Int) := by
    have := Int32.toInt.eq_1 z
    rw [this, BitVec.toInt_eq_toNat_of_msb]
    rw [← Bool.not_eq_true]; intro q
    have := BitVec.toInt_neg_of_msb_true q
    have e := Int32.toInt.eq_1 z
    omega
  have ra := a.toInt_lt
  have xn : (a ^^^ z).toBitVec.toNat = a.toBitVec.toNat ^^^ z.toBitVec.toNat := by rw [Int32.toBitVec_xor, BitVec.toNat_xor]
  have sh : (a.toBitVec.toNat ^^^ z.toBitVec.toNat) >>> 10 = a.toBitVec.toNat >>> 10 := by
    rw [Nat.shiftRight_xor_distrib, show z.toBitVec.toNat >>> 10 = 0 by rw [Nat.shiftRight_eq_div_pow]; omega, Nat.xor_zero]
  rw [Nat.shiftRight_eq_div_pow, Nat.shiftRight_eq_div_pow] at sh
  have lt : a.toBitVec.toNat ^^^ z.toBitVec.toNat < 2 ^ 31 := Nat.xor_lt_two_pow (by omega) (by omega)
  have ex : (a ^^^ z).toInt = ((a.toBitVec.toNat ^^^ z.toBitVec.toNat : Nat) : Int) := by
    have e := Int32.toInt.eq_1 (a ^^^ z)
    rw [e, BitVec.toInt_eq_toNat_of_lt (by rw [xn]; omega), xn]
  rw [ex, na]
  omega
theorem own_ptV {a : Int32} (x k : Int32) (h : own_V a) : own_V (own_pt a x k) := by
  unfold own_pt
  split
  · exact h
  · split
    · have m := c_mask x 1023 10 (by decide) (by decide)
      have q := own_xor (a := a) (z := x &&& 1023) h.1 (by omega)
      unfold own_V at *
      omega
    · exact own_cpV x
theorem own_ordI {c : Int32} (h : 0 ≤ c.toInt ∧ c.toInt ≤ 65535) : (own_ord c).toInt = if c.toInt < 55296 then c.toInt else if c.toInt < 57344 then c.toInt + 8192 else c.toInt - 2048 := by
  have e1 : (55296 : Int32).toInt = 55296 := rfl
  have e2 : (57344 : Int32).toInt = 57344 := rfl
  have e3 : (8192 : Int32).toInt = 8192 := rfl
  have e4 : (2048 : Int32).toInt = 2048 := rfl
  have a := c_iadd c 8192
  have b := c_isub c 2048
  have ra := rng32 (c + 8192)
  have rb := rng32 (c - 2048)
  rw [e3] at a
  rw [e4] at b
  unfold own_ord own_sur
  simp only [Int32.lt_iff_toInt_lt, e1, e2]
  by_cases g1 : c.toInt < 55296
  · rw [if_pos g1, if_pos rfl, if_pos (by omega), if_pos g1]
  · rw [if_neg g1, if_neg g1]
    by_cases g2 : c.toInt < 57344
    · rw [if_pos g2, if_neg (by decide), if_pos g2]; omega
    · rw [if_neg g2, if_pos rfl, if_neg g2, if_neg g2]; omega
theorem own_sgc {x y a c : Int32} (h1 : x.toInt < y.toInt ↔ a.toInt < c.toInt) (h2 : y.toInt < x.toInt ↔ c.toInt < a.toInt) : own_sgn (own_cmpI x y) = own_cmp a c := by
  unfold own_cmpI own_cmp
  by_cases g1 : x < y
  · have k : a < c := Int32.lt_iff_toInt_lt.mpr (h1.mp (Int32.lt_iff_toInt_lt.mp g1))
    rw [if_pos g1, if_pos k]; decide
  · have k : ¬ a < c := fun q => g1 (Int32.lt_iff_toInt_lt.mpr (h1.mpr (Int32.lt_iff_toInt_lt.mp q)))
    rw [if_neg g1, if_neg k]
    by_cases g2 : x = y
    · have k2 : ¬ c < a := fun q => by
        have z := h2.mpr (Int32.lt_iff_toInt_lt.mp q)
        rw [g2] at z; omega
      rw [if_pos g2, if_neg k2]; decide
    · have z : y.toInt < x.toInt := by
        have n1 : ¬ x.toInt < y.toInt := fun q => g1 (Int32.lt_iff_toInt_lt.mpr q)
        have n2 : ¬ x.toInt = y.toInt := fun q => g2 (Int32.toInt_inj.mp q)
        omega
      have k2 : c < a := Int32.lt_iff_toInt_lt.mpr (h2.mp z)
      rw [if_neg g2, if_pos k2]; decide
def own_cc : List Int32 → List Int32 → Int32 → Int32 → Int32
  | c :: cs, d :: ds, n, k => if c = d then own_cc cs ds n k else own_cmpI (own_ord c) (own_ord d)
  | [], _, n, k => own_cmpI n k
  | _ :: _, [], n, k => own_cmpI n k
theorem own_ccx_eq : ∀ (f j : Nat) (cs ds : List Int32), cs.length ≤ j + f → own_ccx f j cs ds = own_cc (cs.drop j) (ds.drop j) (Int32.ofNat cs.length) (Int32.ofNat ds.length)
  | 0, j, cs, ds, h => by
    rw [List.drop_eq_nil_of_le (by omega : cs.length ≤ j)]
    cases ds.drop j <;> rfl
  | f + 1, j, cs, ds, h => by
    rw [own_ccx_s]
    by_cases g : j < min cs.length ds.length
    · rw [if_pos g, List.drop_eq_getElem_cons (show j < cs.length by omega), List.drop_eq_getElem_cons (show j < ds.length by omega)]
      have e1 : cs.getD j 0 = cs[j]'(by omega) := by rw [List.getD_eq_getElem?_getD, List.getElem?_eq_getElem (by omega)]; rfl
      have e2 : ds.getD j 0 = ds[j]'(by omega) := by rw [List.getD_eq_getElem?_getD, List.getElem?_eq_getElem (by omega)]; rfl
      rw [e1, e2]
      show _ = if _ then _ else _
      by_cases q : cs[j]'(by omega) = ds[j]'(by omega)
      · rw [if_pos q, if_pos q, own_ccx_eq f (j + 1) cs ds (by omega)]
      · rw [if_neg q, if_neg q]
    · rw [if_neg g]
      rcases Nat.lt_or_ge j cs.length with p | p
      · have z : ds.drop j = [] := List.drop_eq_nil_of_le (by omega)
        rw [z, List.drop_eq_getElem_cons p]; rfl
      · rw [List.drop_eq_nil_of_le p]
        cases ds.drop j <;> rfl
theorem own_pre : ∀ (u r s : List Int32) (n k : Int32), own_cc (u ++ r) (u ++ s) n k = own_cc r s n k
  | [], _, _, _, _ => rfl
  | c :: u, r, s, n, k => by show (if c = c then own_cc (u ++ r) (u ++ s) n k else _) = _; rw [if_pos rfl]; exact own_pre u r s n k
theorem own_dif {a c : Int32} (ha : own_V a) (hc : own_V c) (h : ¬ a = c) (r s : List Int32) (n k : Int32) : own_sgn (own_cc (own_e a ++ r) (own_e c ++ s) n k) = own_cmp a c := by
  have e : (65536 : Int32).toInt = 65536 := rfl
  have hne : a.toInt ≠ c.toInt := fun q => h (Int32.toInt_inj.mp q)
  by_cases ga : a < (65536 : Int32)
  · have ga' := ga
    rw [Int32.lt_iff_toInt_lt, e] at ga'
    rw [show own_e a = [a] from if_pos ga]
    have oa := own_ordI (c := a) ⟨ha.1, by omega⟩
    by_cases gc : c < (65536 : Int32)
    · have gc' := gc
      rw [Int32.lt_iff_toInt_lt, e] at gc'
      rw [show own_e c = [c] from if_pos gc]
      have oc := own_ordI (c := c) ⟨hc.1, by omega⟩
      show own_sgn (if a = c then _ else _) = _
      rw [if_neg h]
      unfold own_V at ha hc
      have ea : (own_ord a).toInt = if a.toInt < 55296 then a.toInt else a.toInt - 2048 := by rw [oa]; split <;> (try split) <;> omega
      have ec : (own_ord c).toInt = if c.toInt < 55296 then c.toInt else c.toInt - 2048 := by rw [oc]; split <;> (try split) <;> omega
      refine own_sgc ?_ ?_ <;> rw [ea, ec] <;> split <;> split <;> omega
    · have gc' := gc
      rw [Int32.lt_iff_toInt_lt, e] at gc'
      rw [show own_e c = [own_hi c, own_lo c] from if_neg gc]
      obtain ⟨q1, q2⟩ := own_hl hc gc
      unfold own_V at ha hc
      have oc := own_ordI (c := own_hi c) (by omega)
      have n1 : ¬ a = own_hi c := fun q => by rw [q] at ha; omega
      show own_sgn (if a = own_hi c then _ else _) = _
      rw [if_neg n1]
      rw [if_neg (by omega), if_pos (by omega)] at oc
      have ea : (own_ord a).toInt ≤ 63487 := by rw [oa]; split <;> (try split) <;> omega
      exact own_sgc (by omega) (by omega)
  · have ga' := ga
    rw [Int32.lt_iff_toInt_lt, e] at ga'
    rw [show own_e a = [own_hi a, own_lo a] from if_neg ga]
    obtain ⟨p1, p2⟩ := own_hl ha ga
    unfold own_V at ha
    have oa := own_ordI (c := own_hi a) (by omega)
    rw [if_neg (by omega), if_pos (by omega)] at oa
    by_cases gc : c < (65536 : Int32)
    · have gc' := gc
      rw [Int32.lt_iff_toInt_lt, e] at gc'
      rw [show own_e c = [c] from if_pos gc]
      unfold own_V at hc
      have oc := own_ordI (c := c) ⟨hc.1, by omega⟩
      have n1 : ¬ own_hi a = c := fun q => by rw [← q] at hc; omega
      show own_sgn (if own_hi a = c then _ else _) = _
      rw [if_neg n1]
      have ec : (own_ord c).toInt ≤ 63487 := by rw [oc]; split <;> (try split) <;> omega
      exact own_sgc (by omega) (by omega)
    · have gc' := gc
      rw [Int32.lt_iff_toInt_lt, e] at gc'
      rw [show own_e c = [own_hi c, own_lo c] from if_neg gc]
      obtain ⟨q1, q2⟩ := own_hl hc gc
      unfold own_V at hc
      have oc := own_ordI (c := own_hi c) (by omega)
      rw [if_neg (by omega), if_pos (by omega)] at oc
      show own_sgn (if own_hi a = own_hi c then (if own_lo a = own_lo c then _ else _) else _) = _
      by_cases g : own_hi a = own_hi c
      · have g' := congrArg Int32.toInt g
        have n1 : ¬ own_lo a = own_lo c := fun q => by have := congrArg Int32.toInt q; omega
        rw [if_pos g, if_neg n1]
        have la := own_ordI (c := own_lo a) (by omega)
        have lc := own_ordI (c := own_lo c) (by omega)
        rw [if_neg (by omega), if_pos (by omega)] at la
        rw [if_neg (by omega), if_pos (by omega)] at lc
        exact own_sgc (by omega) (by omega)
      · have g' : (own_hi a).toInt ≠ (own_hi c).toInt := fun q => g (Int32.toInt_inj.mp q)
        rw [if_neg g]
        exact own_sgc (by omega) (by omega)
theorem own_e1 (c : Int32) : 1 ≤ (own_e c).length := by unfold own_e; split <;> simp
theorem own_scn {p q : Nat} {n k : Int32} (hp : p ≤ 4) (hq : q ≤ 4) (h1 : p < q ↔ n.toInt < k.toInt) (h2 : q < p ↔ k.toInt < n.toInt) : own_sgn (own_cmpI (Int32.ofNat p) (Int32.ofNat q)) = own_cmp n k := by
  refine own_sgc ?_ ?_ <;> rw [Int32.toInt_ofNat_of_lt (by omega), Int32.toInt_ofNat_of_lt (by omega)] <;> omega
theorem own_cc_nil (r : List Int32) (n k : Int32) : own_cc [] r n k = own_cmpI n k := by cases r <;> rfl
theorem own_cc_nil2 (r : List Int32) (n k : Int32) : own_cc r [] n k = own_cmpI n k := by cases r <;> rfl
theorem own_main {n a b k c d : Int32} (hn : n = 0 ∨ n = 1 ∨ n = 2) (hk : k = 0 ∨ k = 1 ∨ k = 2) (ha : own_V a) (hb : own_V b) (hc : own_V c) (hd : own_V d) : own_sgn (own_ccx 5 0 (own_str n a b) (own_str k c d)) = own_ref n a b k c d := by
  have ln := own_strl n a b
  have lk := own_strl k c d
  rw [own_ccx_eq 5 0 _ _ (by omega), List.drop_zero, List.drop_zero]
  have a1 := own_e1 a
  have a2 := own_el a
  have b1 := own_e1 b
  have b2 := own_el b
  have c1 := own_e1 c
  have c2 := own_el c
  have d1 := own_e1 d
  have d2 := own_el d
  have i0 : (0 : Int32).toInt = 0 := rfl
  have i1 : (1 : Int32).toInt = 1 := rfl
  have i2 : (2 : Int32).toInt = 2 := rfl
  have n10 : ¬ (1 : Int32) = 0 := by decide
  have n20 : ¬ (2 : Int32) = 0 := by decide
  have n21 : ¬ (2 : Int32) = 1 := by decide
  have s0 : own_str 0 c d = [] := if_pos rfl
  have s1 : own_str 1 c d = own_e c := by rw [own_str, if_neg n10, if_pos rfl]
  have s2 : own_str 2 c d = own_e c ++ own_e d := by rw [own_str, if_neg n20, if_neg n21]
  unfold own_ref
  rcases hn with rfl | rfl | rfl
  · rw [if_pos rfl, show own_str 0 a b = [] from if_pos rfl, own_cc_nil]
    refine own_scn (by simp) lk ?_ ?_ <;> rcases hk with rfl | rfl | rfl
    all_goals simp only [s0, s1, s2, List.length_append, List.length_nil, i0, i1, i2]
    all_goals omega
  · rw [if_neg n10]
    have sa : own_str 1 a b = own_e a := by rw [own_str, if_neg n10, if_pos rfl]
    rcases hk with rfl | rfl | rfl
    · rw [if_pos rfl, show own_str 0 c d = [] from if_pos rfl, own_cc_nil2, sa]
      exact own_scn (by omega) (by simp) (by simp [i0, i1]) (by simp only [List.length_nil, i0, i1]; omega)
    · rw [if_neg n10, if_pos rfl, sa, show own_str 1 c d = own_e c by rw [own_str, if_neg n10, if_pos rfl]]
      by_cases g : a = c
      · subst g
        rw [if_pos rfl]
        have q := own_pre (own_e a) [] [] (Int32.ofNat (own_e a).length) (Int32.ofNat (own_e a).length)
        rw [List.append_nil] at q
        rw [q, own_cc_nil]
        exact own_scn (by omega) (by omega) (by omega) (by omega)
      · rw [if_neg g]
        have q := own_dif ha hc g [] [] (Int32.ofNat (own_e a).length) (Int32.ofNat (own_e c).length)
        rw [List.append_nil, List.append_nil] at q
        exact q
    · rw [if_neg n20, if_pos rfl, sa, show own_str 2 c d = own_e c ++ own_e d by rw [own_str, if_neg n20, if_neg n21]]
      by_cases g : a = c
      · subst g
        rw [if_pos rfl]
        have q := own_pre (own_e a) [] (own_e d) (Int32.ofNat (own_e a).length) (Int32.ofNat (own_e a ++ own_e d).length)
        rw [List.append_nil] at q
        rw [q, own_cc_nil]
        exact own_scn (by omega) (by rw [List.length_append]; omega) (by rw [List.length_append, i1, i2]; omega) (by rw [List.length_append, i1, i2]; omega)
      · rw [if_neg g]
        have q := own_dif ha hc g [] (own_e d) (Int32.ofNat (own_e a).length) (Int32.ofNat (own_e c ++ own_e d).length)
        rw [List.append_nil] at q
        exact q
  · rw [if_neg n20]
    have sa : own_str 2 a b = own_e a ++ own_e b := by rw [own_str, if_neg n20, if_neg n21]
    rcases hk with rfl | rfl | rfl
    · rw [if_pos rfl, show own_str 0 c d = [] from if_pos rfl, own_cc_nil2, sa]
      exact own_scn (by rw [List.length_append]; omega) (by simp) (by simp [i0, i2]) (by simp only [List.length_nil, List.length_append, i0, i2]; omega)
    · rw [if_neg n10, if_neg n21, if_pos rfl, sa, show own_str 1 c d = own_e c by rw [own_str, if_neg n10, if_pos rfl]]
      by_cases g : a = c
      · subst g
        rw [if_pos rfl]
        have q := own_pre (own_e a) (own_e b) [] (Int32.ofNat (own_e a ++ own_e b).length) (Int32.ofNat (own_e a).length)
        rw [List.append_nil] at q
        rw [q, own_cc_nil2]
        exact own_scn (by rw [List.length_append]; omega) (by omega) (by rw [List.length_append, i1, i2]; omega) (by rw [List.length_append, i1, i2]; omega)
      · rw [if_neg g]
        have q := own_dif ha hc g (own_e b) [] (Int32.ofNat (own_e a ++ own_e b).length) (Int32.ofNat (own_e c).length)
        rw [List.append_nil] at q
        exact q
    · rw [if_neg n20, if_neg n21, if_neg n21, sa, show own_str 2 c d = own_e c ++ own_e d by rw [own_str, if_neg n20, if_neg n21]]
      by_cases g : a = c
      · subst g
        rw [if_pos rfl, own_pre]
        by_cases g2 : b = d
        · subst g2
          rw [if_pos rfl]
          have q := own_pre (own_e b) [] [] (Int32.ofNat (own_e a ++ own_e b).length) (Int32.ofNat (own_e a ++ own_e b).length)
          rw [List.append_nil] at q
          rw [q, own_cc_nil, own_cmpI, if_neg (by rw [Int32.lt_iff_toInt_lt]; omega), if_pos rfl]; decide
        · rw [if_neg g2]
          have q := own_dif hb hd g2 [] [] (Int32.ofNat (own_e a ++ own_e b).length) (Int32.ofNat (own_e a ++ own_e d).length)
          rw [List.append_nil, List.append_nil] at q
          exact q
      · rw [if_neg g]
        exact own_dif ha hc g _ _ _ _
theorem own_n3 (z : Int32) : ((z &&& (3 : Int32)) % (3 : Int32)) = 0 ∨ ((z &&& (3 : Int32)) % (3 : Int32)) = 1 ∨ ((z &&& (3 : Int32)) % (3 : Int32)) = 2 := by
  have h1 := c_mask z 3 2 (by decide) (by decide)
  generalize (z &&& (3 : Int32)) = y at *
  have h2 := c_irem y 3 3 rfl
  have h0 : (0 : Int32).toInt = 0 := rfl
  have e1 : (1 : Int32).toInt = 1 := rfl
  have e2 : (2 : Int32).toInt = 2 := rfl
  rw [← Int32.toInt_inj, ← Int32.toInt_inj, ← Int32.toInt_inj, h0, e1, e2]
  have h3 : 0 ≤ y.toInt := by rw [h1]; omega
  have h4 := h2.1 h3
  omega
theorem own_pd685 : parseMethodDescriptor "(III)I" = some ⟨[.int, .int, .int], some .int⟩ := by decide +kernel
theorem own_pd686 : parseMethodDescriptor "([CII)I" = some ⟨[(.array .char), .int, .int], some .int⟩ := by decide +kernel
theorem own_pd687 : parseMethodDescriptor "([CI)Ljava/lang/String;" = some ⟨[(.array .char), .int], some (.object "java/lang/String")⟩ := by decide +kernel
theorem own_pd688 : parseMethodDescriptor "(Ljava/lang/String;Ljava/lang/String;)I" = some ⟨[(.object "java/lang/String"), (.object "java/lang/String")], some .int⟩ := by decide +kernel
theorem own_pd689 : parseMethodDescriptor "(IIIIII)I" = some ⟨[.int, .int, .int, .int, .int, .int], some .int⟩ := by decide +kernel
theorem own_law (l : Launch) (Z : State) (a0 : Array Value) (cx : Ctx Z a0) (ws : List Jvm.Cond) (x0 : Int32) (x1 : Int32) (x2 : Int32) (x3 : Int32) (x4 : Int32) (vm0 : Vm) (h0 : Heap) (X00 : Ext Z.heap h0)  :
    Met l x code maxLocals ret ws room_1 Z consts_1 vm0 h0 #[(.int x0), (.int x1), (.int x2), (.int x3), (.int x4)] (fun rv vm h => rv = some (.int (1 : Int32)) ∧ Keep h0 h []) := by
  obtain ⟨hw, hEL, ⟨zc, Scs, hzc⟩, ⟨fm, Sfm, hfm⟩, Sad, Shi, Slo⟩ := id cx
  have hSA := own_SA hw
  refine Met.of_walk (a0 := a0) #[vi x0, vi x1, vi x2, vi x3, vi x4, un, un, un, un, un, un, un, un, un, un, un, un, un, un] (plainFor_of_name own_pn436) X00 hEL (fun m => by first | (simp [entryFrame, mkF, argsToLocals, Value.category, maxLocals]; done) | rfl) ?_
  intro p e s m below meth c vm hx hby hml hret hnm hC0 hW0
  refine uI 2 hx hby at_0 rfl rfl ?_
  refine uKc 3 (3 : Int32) hx hby at_2 rfl rfl ?_
  refine uiand 4 (x4 &&& (3 : Int32)) hx hby at_3 rfl rfl ?_
  refine uKc 5 (3 : Int32) hx hby at_4 rfl rfl ?_
  refine gx (mkF m 6 #[vi x0, vi x1, vi x2, vi x3, vi x4, un, un, un, un, un, un, un, un, un, un, un, un, un, un] [(.int ((x4 &&& (3 : Int32)) % (3 : Int32)))]) (fun T locs X _ _ _ _ kq => iremM X hx rfl (hb hby at_5) rfl (by decide) kq) ?_
  refine uSI 8 #[vi x0, vi x1, vi x2, vi x3, vi x4, vi ((x4 &&& (3 : Int32)) % (3 : Int32)), un, un, un, un, un, un, un, un, un, un, un, un, un] hx hby at_6 rfl rfl ?_
  refine uI 10 hx hby at_8 rfl rfl ?_
  refine uKc 11 (2 : Int32) hx hby at_10 rfl rfl ?_
  refine gs (mkF m 12 #[vi x0, vi x1, vi x2, vi x3, vi x4, vi ((x4 &&& (3 : Int32)) % (3 : Int32)), un, un, un, un, un, un, un, un, un, un, un, un, un] [(.int ((x4.toUInt32 >>> ((2 : Int32) &&& 31).toUInt32).toInt32))]) (fun _ _ A kq => XS.iushr A hx rfl (hb hby at_11) rfl kq) ?_
  refine uKc 13 (3 : Int32) hx hby at_12 rfl rfl ?_
  refine uiand 14 (((x4.toUInt32 >>> ((2 : Int32) &&& 31).toUInt32).toInt32) &&& (3 : Int32)) hx hby at_13 rfl rfl ?_
  refine uKc 15 (3 : Int32) hx hby at_14 rfl rfl ?_
  refine gx (mkF m 16 #[vi x0, vi x1, vi x2, vi x3, vi x4, vi ((x4 &&& (3 : Int32)) % (3 : Int32)), un, un, un, un, un, un, un, un, un, un, un, un, un] [(.int ((((x4.toUInt32 >>> ((2 : Int32) &&& 31).toUInt32).toInt32) &&& (3 : Int32)) % (3 : Int32)))]) (fun T locs X _ _ _ _ kq => iremM X hx rfl (hb hby at_15) rfl (by decide) kq) ?_
  refine uSI 18 #[vi x0, vi x1, vi x2, vi x3, vi x4, vi ((x4 &&& (3 : Int32)) % (3 : Int32)), vi ((((x4.toUInt32 >>> ((2 : Int32) &&& 31).toUInt32).toInt32) &&& (3 : Int32)) % (3 : Int32)), un, un, un, un, un, un, un, un, un, un, un, un] hx hby at_16 rfl rfl ?_
  refine uIN 19 hx hby at_18 rfl rfl ?_
  refine ginfo fun _ _ O1 => ?_
  refine gcallS (y := mn435) hx (ow hw 0 rfl) (ow hw 1 rfl) (ow hw 2 rfl) (ow hw 3 rfl) (by decide) (fun hZ H hEL => Pay.of_met (W := 0) (own_cpw l Z a0 cx [] (x0) vm h0 O1 ) (ow hw 3 rfl) (ow hw 2 rfl) (by decide) (by decide) hZ H hEL) 22 (argsL := [(.int x0)]) (rest := []) (lenOf own_pd39 rfl) rfl rfl (Nat.le_of_eq rfl) (by rw [hml]; rfl) (hb hby at_19) rfl (by decide) (by decide) ?_
  rintro _ vm1 h1 C1 ⟨rfl, rfl⟩
  have z1 := C1.2.1
  refine gat1 ?_
  refine uSI 24 #[vi x0, vi x1, vi x2, vi x3, vi x4, vi ((x4 &&& (3 : Int32)) % (3 : Int32)), vi ((((x4.toUInt32 >>> ((2 : Int32) &&& 31).toUInt32).toInt32) &&& (3 : Int32)) % (3 : Int32)), vi (own_cp x0), un, un, un, un, un, un, un, un, un, un, un] hx hby at_22 rfl rfl ?_
  refine uIN 25 hx hby at_24 rfl rfl ?_
  refine ginfo fun _ _ O2 => ?_
  refine gcallS (y := mn435) hx (ow hw 0 rfl) (ow hw 1 rfl) (ow hw 2 rfl) (ow hw 3 rfl) (by decide) (fun hZ H hEL => Pay.of_met (W := 0) (own_cpw l Z a0 cx [] (x1) vm1 h0 O2 ) (ow hw 3 rfl) (ow hw 2 rfl) (by decide) (by decide) hZ H hEL) 28 (argsL := [(.int x1)]) (rest := []) (lenOf own_pd39 rfl) rfl rfl (Nat.le_of_eq rfl) (by rw [hml]; rfl) (hb hby at_25) rfl (by decide) (by decide) ?_
  rintro _ vm2 h2 C2 ⟨rfl, rfl⟩
  have z2 := C2.2.1
  refine gat1 ?_
  refine uSI 30 #[vi x0, vi x1, vi x2, vi x3, vi x4, vi ((x4 &&& (3 : Int32)) % (3 : Int32)), vi ((((x4.toUInt32 >>> ((2 : Int32) &&& 31).toUInt32).toInt32) &&& (3 : Int32)) % (3 : Int32)), vi (own_cp x0), vi (own_cp x1), un, un, un, un, un, un, un, un, un, un] hx hby at_28 rfl rfl ?_
  refine uI 32 hx hby at_30 rfl rfl ?_
  refine uIN 33 hx hby at_32 rfl rfl ?_
  refine uI 35 hx hby at_33 rfl rfl ?_
  refine uKc 36 (4 : Int32) hx hby at_35 rfl rfl ?_
  refine gs (mkF m 37 #[vi x0, vi x1, vi x2, vi x3, vi x4, vi ((x4 &&& (3 : Int32)) % (3 : Int32)), vi ((((x4.toUInt32 >>> ((2 : Int32) &&& 31).toUInt32).toInt32) &&& (3 : Int32)) % (3 : Int32)), vi (own_cp x0), vi (own_cp x1), un, un, un, un, un, un, un, un, un, un] [(.int ((x4.toUInt32 >>> ((4 : Int32) &&& 31).toUInt32).toInt32)), (.int x2), (.int (own_cp x0))]) (fun _ _ A kq => XS.iushr A hx rfl (hb hby at_36) rfl kq) ?_
  refine uKc 38 (3 : Int32) hx hby at_37 rfl rfl ?_
  refine uiand 39 (((x4.toUInt32 >>> ((4 : Int32) &&& 31).toUInt32).toInt32) &&& (3 : Int32)) hx hby at_38 rfl rfl ?_
  refine ginfo fun _ _ O3 => ?_
  refine gcallS (y := mn458) hx (ow hw 6 rfl) (ow hw 7 rfl) (ow hw 2 rfl) (ow hw 8 rfl) (by decide) (fun hZ H hEL => Pay.of_met (W := 0) (own_ptw l Z a0 cx [] ((own_cp x0)) (x2) ((((x4.toUInt32 >>> ((4 : Int32) &&& 31).toUInt32).toInt32) &&& (3 : Int32))) vm2 h0 O3 ) (ow hw 8 rfl) (ow hw 2 rfl) (by decide) (by decide) hZ H hEL) 42 (argsL := [(.int (own_cp x0)), (.int x2), (.int (((x4.toUInt32 >>> ((4 : Int32) &&& 31).toUInt32).toInt32) &&& (3 : Int32)))]) (rest := []) (lenOf own_pd685 rfl) rfl rfl (Nat.le_of_eq rfl) (by rw [hml]; rfl) (hb hby at_39) rfl (by decide) (by decide) ?_
  rintro _ vm3 h3 C3 ⟨rfl, rfl⟩
  have z3 := C3.2.1
  refine gat1 ?_
  refine uSI 44 #[vi x0, vi x1, vi x2, vi x3, vi x4, vi ((x4 &&& (3 : Int32)) % (3 : Int32)), vi ((((x4.toUInt32 >>> ((2 : Int32) &&& 31).toUInt32).toInt32) &&& (3 : Int32)) % (3 : Int32)), vi (own_cp x0), vi (own_cp x1), vi (own_pt (own_cp x0) x2 (((x4.toUInt32 >>> ((4 : Int32) &&& 31).toUInt32).toInt32) &&& (3 : Int32))), un, un, un, un, un, un, un, un, un] hx hby at_42 rfl rfl ?_
  refine uI 46 hx hby at_44 rfl rfl ?_
  refine uIN 47 hx hby at_46 rfl rfl ?_
  refine uI 49 hx hby at_47 rfl rfl ?_
  refine uKb 51 (6 : Int32) hx hby at_49 rfl rfl ?_
  refine gs (mkF m 52 #[vi x0, vi x1, vi x2, vi x3, vi x4, vi ((x4 &&& (3 : Int32)) % (3 : Int32)), vi ((((x4.toUInt32 >>> ((2 : Int32) &&& 31).toUInt32).toInt32) &&& (3 : Int32)) % (3 : Int32)), vi (own_cp x0), vi (own_cp x1), vi (own_pt (own_cp x0) x2 (((x4.toUInt32 >>> ((4 : Int32) &&& 31).toUInt32).toInt32) &&& (3 : Int32))), un, un, un, un, un, un, un, un, un] [(.int ((x4.toUInt32 >>> ((6 : Int32) &&& 31).toUInt32).toInt32)), (.int x3), (.int (own_cp x1))]) (fun _ _ A kq => XS.iushr A hx rfl (hb hby at_51) rfl kq) ?_
  refine uKc 53 (3 : Int32) hx hby at_52 rfl rfl ?_
  refine uiand 54 (((x4.toUInt32 >>> ((6 : Int32) &&& 31).toUInt32).toInt32) &&& (3 : Int32)) hx hby at_53 rfl rfl ?_
  refine ginfo fun _ _ O4 => ?_
  refine gcallS (y := mn458) hx (ow hw 6 rfl) (ow hw 7 rfl) (ow hw 2 rfl) (ow hw 8 rfl) (by decide) (fun hZ H hEL => Pay.of_met (W := 0) (own_ptw l Z a0 cx [] ((own_cp x1)) (x3) ((((x4.toUInt32 >>> ((6 : Int32) &&& 31).toUInt32).toInt32) &&& (3 : Int32))) vm3 h0 O4 ) (ow hw 8 rfl) (ow hw 2 rfl) (by decide) (by decide) hZ H hEL) 57 (argsL := [(.int (own_cp x1)), (.int x3), (.int (((x4.toUInt32 >>> ((6 : Int32) &&& 31).toUInt32).toInt32) &&& (3 : Int32)))]) (rest := []) (lenOf own_pd685 rfl) rfl rfl (Nat.le_of_eq rfl) (by rw [hml]; rfl) (hb hby at_54) rfl (by decide) (by decide) ?_
  rintro _ vm4 h4 C4 ⟨rfl, rfl⟩
  have z4 := C4.2.1
  refine gat1 ?_
  refine uSI 59 #[vi x0, vi x1, vi x2, vi x3, vi x4, vi ((x4 &&& (3 : Int32)) % (3 : Int32)), vi ((((x4.toUInt32 >>> ((2 : Int32) &&& 31).toUInt32).toInt32) &&& (3 : Int32)) % (3 : Int32)), vi (own_cp x0), vi (own_cp x1), vi (own_pt (own_cp x0) x2 (((x4.toUInt32 >>> ((4 : Int32) &&& 31).toUInt32).toInt32) &&& (3 : Int32))), vi (own_pt (own_cp x1) x3 (((x4.toUInt32 >>> ((6 : Int32) &&& 31).toUInt32).toInt32) &&& (3 : Int32))), un, un, un, un, un, un, un, un] hx hby at_57 rfl rfl ?_
  refine uKc 60 (4 : Int32) hx hby at_59 rfl rfl ?_
  refine gnewPE hx (ow hw 11 rfl) (n := (4 : Int32)) (by decide) (cap := 4) (by decide) (by decide) (ad := "[C") (by decide) 62 (hb hby at_60) rfl (by decide) (by decide) ?_
  intro b5 h5 k5 g5 E5 C5 V5 A5 n5 L5
  have z5 := C5.2.1
  have V5 : Arv Z h5 b5 k5 .char (4 : Int32) [(.int (0 : Int32)), (.int (0 : Int32)), (.int (0 : Int32)), (.int (0 : Int32))] (.int (0 : Int32)) := V5.pad (pad_rep [] (.int (0 : Int32)) 4)
  have lt_b5 : h5.size > b5 := V5.lt
  refine uSA 64 #[vi x0, vi x1, vi x2, vi x3, vi x4, vi ((x4 &&& (3 : Int32)) % (3 : Int32)), vi ((((x4.toUInt32 >>> ((2 : Int32) &&& 31).toUInt32).toInt32) &&& (3 : Int32)) % (3 : Int32)), vi (own_cp x0), vi (own_cp x1), vi (own_pt (own_cp x0) x2 (((x4.toUInt32 >>> ((4 : Int32) &&& 31).toUInt32).toInt32) &&& (3 : Int32))), vi (own_pt (own_cp x1) x3 (((x4.toUInt32 >>> ((6 : Int32) &&& 31).toUInt32).toInt32) &&& (3 : Int32))), vr b5, un, un, un, un, un, un, un] hx hby at_62 rfl rfl rfl ?_
  refine uKc 65 (4 : Int32) hx hby at_64 rfl rfl ?_
  refine gnewPE hx (ow hw 11 rfl) (n := (4 : Int32)) (by decide) (cap := 4) (by decide) (by decide) (ad := "[C") (by decide) 67 (hb hby at_65) rfl (by decide) (by decide) ?_
  intro b6 h6 k6 g6 E6 C6 V6 A6 n6 L6
  have z6 := C6.2.1
  have V6 : Arv Z h6 b6 k6 .char (4 : Int32) [(.int (0 : Int32)), (.int (0 : Int32)), (.int (0 : Int32)), (.int (0 : Int32))] (.int (0 : Int32)) := V6.pad (pad_rep [] (.int (0 : Int32)) 4)
  have lt_b6 : h6.size > b6 := V6.lt
  refine uSA 69 #[vi x0, vi x1, vi x2, vi x3, vi x4, vi ((x4 &&& (3 : Int32)) % (3 : Int32)), vi ((((x4.toUInt32 >>> ((2 : Int32) &&& 31).toUInt32).toInt32) &&& (3 : Int32)) % (3 : Int32)), vi (own_cp x0), vi (own_cp x1), vi (own_pt (own_cp x0) x2 (((x4.toUInt32 >>> ((4 : Int32) &&& 31).toUInt32).toInt32) &&& (3 : Int32))), vi (own_pt (own_cp x1) x3 (((x4.toUInt32 >>> ((6 : Int32) &&& 31).toUInt32).toInt32) &&& (3 : Int32))), vr b5, vr b6, un, un, un, un, un, un] hx hby at_67 rfl rfl rfl ?_
  refine uKc 70 (0 : Int32) hx hby at_69 rfl rfl ?_
  refine uSI 72 #[vi x0, vi x1, vi x2, vi x3, vi x4, vi ((x4 &&& (3 : Int32)) % (3 : Int32)), vi ((((x4.toUInt32 >>> ((2 : Int32) &&& 31).toUInt32).toInt32) &&& (3 : Int32)) % (3 : Int32)), vi (own_cp x0), vi (own_cp x1), vi (own_pt (own_cp x0) x2 (((x4.toUInt32 >>> ((4 : Int32) &&& 31).toUInt32).toInt32) &&& (3 : Int32))), vi (own_pt (own_cp x1) x3 (((x4.toUInt32 >>> ((6 : Int32) &&& 31).toUInt32).toInt32) &&& (3 : Int32))), vr b5, vr b6, vi (0 : Int32), un, un, un, un, un] hx hby at_70 rfl rfl ?_
  have va := own_cpV x0
  have vb := own_cpV x1
  have vc := own_ptV x2 (((x4.toUInt32 >>> ((4 : Int32) &&& 31).toUInt32).toInt32) &&& (3 : Int32)) va
  have vd := own_ptV x3 (((x4.toUInt32 >>> ((6 : Int32) &&& 31).toUInt32).toInt32) &&& (3 : Int32)) vb
  have f8 := (V5.ext E6)
  have X7 : Arv Z h6 b5 k5 .char (4 : Int32) (own_ca 4 ([] : List Int32)) (.int (0 : Int32)) := f8
  have X9 : Arv Z h6 b6 k6 .char (4 : Int32) (own_ca 4 ([] : List Int32)) (.int (0 : Int32)) := V6
  refine gat (mkF m 72 #[vi x0, vi x1, vi x2, vi x3, vi x4, vi ((x4 &&& (3 : Int32)) % (3 : Int32)), vi ((((x4.toUInt32 >>> ((2 : Int32) &&& 31).toUInt32).toInt32) &&& (3 : Int32)) % (3 : Int32)), vi (own_cp x0), vi (own_cp x1), vi (own_pt (own_cp x0) x2 (((x4.toUInt32 >>> ((4 : Int32) &&& 31).toUInt32).toInt32) &&& (3 : Int32))), vi (own_pt (own_cp x1) x3 (((x4.toUInt32 >>> ((6 : Int32) &&& 31).toUInt32).toInt32) &&& (3 : Int32))), vr b5, vr b6, vi (Int32.ofNat ([] : List Int32).length), un, un, un, un, un] []) rfl ?_
  refine gjoin (fun vmJ hJ gJ => ∃ (es10 : List Int32), ∃ (jes10 : Int32), gJ = (mkF m 106 #[vi x0, vi x1, vi x2, vi x3, vi x4, vi ((x4 &&& (3 : Int32)) % (3 : Int32)), vi ((((x4.toUInt32 >>> ((2 : Int32) &&& 31).toUInt32).toInt32) &&& (3 : Int32)) % (3 : Int32)), vi (own_cp x0), vi (own_cp x1), vi (own_pt (own_cp x0) x2 (((x4.toUInt32 >>> ((4 : Int32) &&& 31).toUInt32).toInt32) &&& (3 : Int32))), vi (own_pt (own_cp x1) x3 (((x4.toUInt32 >>> ((6 : Int32) &&& 31).toUInt32).toInt32) &&& (3 : Int32))), vr b5, vr b6, vi jes10, un, un, un, un, un] []) ∧ Keep h6 hJ [b5] ∧ CHr Z consts_1 vm4 h6 vmJ hJ ∧ Arv Z hJ b5 k5 .char (4 : Int32) (own_ca 4 es10) (.int (0 : Int32)) ∧ (es10 = (own_str ((x4 &&& (3 : Int32)) % (3 : Int32)) (own_cp x0) (own_cp x1))) ∧ (jes10 = Int32.ofNat es10.length)) 2 8 ?_ ?_
  · rintro vm10 h10 _ ⟨es10, jes10, rfl, K10, C10, q10_0, q10_1, q10_2⟩
    have z10 := C10.2.1
    subst q10_1
    refine gat (mkF m 106 #[vi x0, vi x1, vi x2, vi x3, vi x4, vi ((x4 &&& (3 : Int32)) % (3 : Int32)), vi ((((x4.toUInt32 >>> ((2 : Int32) &&& 31).toUInt32).toInt32) &&& (3 : Int32)) % (3 : Int32)), vi (own_cp x0), vi (own_cp x1), vi (own_pt (own_cp x0) x2 (((x4.toUInt32 >>> ((4 : Int32) &&& 31).toUInt32).toInt32) &&& (3 : Int32))), vi (own_pt (own_cp x1) x3 (((x4.toUInt32 >>> ((6 : Int32) &&& 31).toUInt32).toInt32) &&& (3 : Int32))), vr b5, vr b6, vi (Int32.ofNat (own_str ((x4 &&& (3 : Int32)) % (3 : Int32)) (own_cp x0) (own_cp x1)).length), un, un, un, un, un] []) (by rw [q10_2]) ?_
    refine uKc 107 (0 : Int32) hx hby at_106 rfl rfl ?_
    refine uSI 109 #[vi x0, vi x1, vi x2, vi x3, vi x4, vi ((x4 &&& (3 : Int32)) % (3 : Int32)), vi ((((x4.toUInt32 >>> ((2 : Int32) &&& 31).toUInt32).toInt32) &&& (3 : Int32)) % (3 : Int32)), vi (own_cp x0), vi (own_cp x1), vi (own_pt (own_cp x0) x2 (((x4.toUInt32 >>> ((4 : Int32) &&& 31).toUInt32).toInt32) &&& (3 : Int32))), vi (own_pt (own_cp x1) x3 (((x4.toUInt32 >>> ((6 : Int32) &&& 31).toUInt32).toInt32) &&& (3 : Int32))), vr b5, vr b6, vi (Int32.ofNat (own_str ((x4 &&& (3 : Int32)) % (3 : Int32)) (own_cp x0) (own_cp x1)).length), vi (0 : Int32), un, un, un, un] hx hby at_107 rfl rfl ?_
    refine gat (mkF m 109 #[vi x0, vi x1, vi x2, vi x3, vi x4, vi ((x4 &&& (3 : Int32)) % (3 : Int32)), vi ((((x4.toUInt32 >>> ((2 : Int32) &&& 31).toUInt32).toInt32) &&& (3 : Int32)) % (3 : Int32)), vi (own_cp x0), vi (own_cp x1), vi (own_pt (own_cp x0) x2 (((x4.toUInt32 >>> ((4 : Int32) &&& 31).toUInt32).toInt32) &&& (3 : Int32))), vi (own_pt (own_cp x1) x3 (((x4.toUInt32 >>> ((6 : Int32) &&& 31).toUInt32).toInt32) &&& (3 : Int32))), vr b5, vr b6, vi (Int32.ofNat (own_str ((x4 &&& (3 : Int32)) % (3 : Int32)) (own_cp x0) (own_cp x1)).length), vi (Int32.ofNat ([] : List Int32).length), un, un, un, un] []) rfl ?_
    refine gjoin (fun vmJ hJ gJ => ∃ (fs14 : List Int32), ∃ (jfs14 : Int32), gJ = (mkF m 143 #[vi x0, vi x1, vi x2, vi x3, vi x4, vi ((x4 &&& (3 : Int32)) % (3 : Int32)), vi ((((x4.toUInt32 >>> ((2 : Int32) &&& 31).toUInt32).toInt32) &&& (3 : Int32)) % (3 : Int32)), vi (own_cp x0), vi (own_cp x1), vi (own_pt (own_cp x0) x2 (((x4.toUInt32 >>> ((4 : Int32) &&& 31).toUInt32).toInt32) &&& (3 : Int32))), vi (own_pt (own_cp x1) x3 (((x4.toUInt32 >>> ((6 : Int32) &&& 31).toUInt32).toInt32) &&& (3 : Int32))), vr b5, vr b6, vi (Int32.ofNat (own_str ((x4 &&& (3 : Int32)) % (3 : Int32)) (own_cp x0) (own_cp x1)).length), vi jfs14, un, un, un, un] []) ∧ Keep h10 hJ [b6] ∧ CHr Z consts_1 vm10 h10 vmJ hJ ∧ Arv Z hJ b6 k6 .char (4 : Int32) (own_ca 4 fs14) (.int (0 : Int32)) ∧ (fs14 = (own_str ((((x4.toUInt32 >>> ((2 : Int32) &&& 31).toUInt32).toInt32) &&& (3 : Int32)) % (3 : Int32)) (own_pt (own_cp x0) x2 (((x4.toUInt32 >>> ((4 : Int32) &&& 31).toUInt32).toInt32) &&& (3 : Int32))) (own_pt (own_cp x1) x3 (((x4.toUInt32 >>> ((6 : Int32) &&& 31).toUInt32).toInt32) &&& (3 : Int32))))) ∧ (jfs14 = Int32.ofNat fs14.length)) 2 8 ?_ ?_
    · rintro vm14 h14 _ ⟨fs14, jfs14, rfl, K14, C14, q14_0, q14_1, q14_2⟩
      have z14 := C14.2.1
      subst q14_1
      refine gat (mkF m 143 #[vi x0, vi x1, vi x2, vi x3, vi x4, vi ((x4 &&& (3 : Int32)) % (3 : Int32)), vi ((((x4.toUInt32 >>> ((2 : Int32) &&& 31).toUInt32).toInt32) &&& (3 : Int32)) % (3 : Int32)), vi (own_cp x0), vi (own_cp x1), vi (own_pt (own_cp x0) x2 (((x4.toUInt32 >>> ((4 : Int32) &&& 31).toUInt32).toInt32) &&& (3 : Int32))), vi (own_pt (own_cp x1) x3 (((x4.toUInt32 >>> ((6 : Int32) &&& 31).toUInt32).toInt32) &&& (3 : Int32))), vr b5, vr b6, vi (Int32.ofNat (own_str ((x4 &&& (3 : Int32)) % (3 : Int32)) (own_cp x0) (own_cp x1)).length), vi (Int32.ofNat (own_str ((((x4.toUInt32 >>> ((2 : Int32) &&& 31).toUInt32).toInt32) &&& (3 : Int32)) % (3 : Int32)) (own_pt (own_cp x0) x2 (((x4.toUInt32 >>> ((4 : Int32) &&& 31).toUInt32).toInt32) &&& (3 : Int32))) (own_pt (own_cp x1) x3 (((x4.toUInt32 >>> ((6 : Int32) &&& 31).toUInt32).toInt32) &&& (3 : Int32)))).length), un, un, un, un] []) (by rw [q14_2]) ?_
      refine uA 145 hx hby at_143 rfl rfl rfl ?_
      refine uI 147 hx hby at_145 rfl rfl ?_
      have f22 := (q10_0.keep K14 (ninS (Nat.ne_of_lt (by omega)) nin0))
      refine ginfo fun _ _ O21 => ?_
      refine gcallS (y := mn684) hx (ow hw 12 rfl) (ow hw 13 rfl) (ow hw 2 rfl) (ow hw 14 rfl) (by decide) (fun hZ H hEL => Pay.of_met (W := 0) (own_text l Z a0 cx [] (b5) (k5) ((own_str ((x4 &&& (3 : Int32)) % (3 : Int32)) (own_cp x0) (own_cp x1))) vm14 h14 O21 f22 (own_strl _ _ _) (own_str16 va vb)) (ow hw 14 rfl) (ow hw 2 rfl) (by decide) (by decide) hZ H hEL) 150 (argsL := [(.ref b5), (.int (Int32.ofNat (own_str ((x4 &&& (3 : Int32)) % (3 : Int32)) (own_cp x0) (own_cp x1)).length))]) (rest := []) (lenOf own_pd687 rfl) rfl rfl (Nat.le_of_eq rfl) (by rw [hml]; rfl) (hb hby at_147) rfl (by decide) (by decide) ?_
      rintro _ vm21 h21 C21 ⟨r21, t21, rfl, K21, q21_0, q21_1⟩
      have z21 := C21.2.1
      have lt_t21 : h21.size > t21 := q21_1.tlt
      have lt_r21 : h21.size > r21 := q21_1.1.lt
      refine gat1 ?_
      refine uSA 152 #[vi x0, vi x1, vi x2, vi x3, vi x4, vi ((x4 &&& (3 : Int32)) % (3 : Int32)), vi ((((x4.toUInt32 >>> ((2 : Int32) &&& 31).toUInt32).toInt32) &&& (3 : Int32)) % (3 : Int32)), vi (own_cp x0), vi (own_cp x1), vi (own_pt (own_cp x0) x2 (((x4.toUInt32 >>> ((4 : Int32) &&& 31).toUInt32).toInt32) &&& (3 : Int32))), vi (own_pt (own_cp x1) x3 (((x4.toUInt32 >>> ((6 : Int32) &&& 31).toUInt32).toInt32) &&& (3 : Int32))), vr b5, vr b6, vi (Int32.ofNat (own_str ((x4 &&& (3 : Int32)) % (3 : Int32)) (own_cp x0) (own_cp x1)).length), vi (Int32.ofNat (own_str ((((x4.toUInt32 >>> ((2 : Int32) &&& 31).toUInt32).toInt32) &&& (3 : Int32)) % (3 : Int32)) (own_pt (own_cp x0) x2 (((x4.toUInt32 >>> ((4 : Int32) &&& 31).toUInt32).toInt32) &&& (3 : Int32))) (own_pt (own_cp x1) x3 (((x4.toUInt32 >>> ((6 : Int32) &&& 31).toUInt32).toInt32) &&& (3 : Int32)))).length), vr r21, un, un, un] hx hby at_150 rfl rfl rfl ?_
      refine uA 154 hx hby at_152 rfl rfl rfl ?_
      refine uI 156 hx hby at_154 rfl rfl ?_
      have f24 := (q14_0.keep K21 nin0)
      refine ginfo fun _ _ O23 => ?_
      refine gcallS (y := mn684) hx (ow hw 12 rfl) (ow hw 13 rfl) (ow hw 2 rfl) (ow hw 14 rfl) (by decide) (fun hZ H hEL => Pay.of_met (W := 0) (own_text l Z a0 cx [] (b6) (k6) ((own_str ((((x4.toUInt32 >>> ((2 : Int32) &&& 31).toUInt32).toInt32) &&& (3 : Int32)) % (3 : Int32)) (own_pt (own_cp x0) x2 (((x4.toUInt32 >>> ((4 : Int32) &&& 31).toUInt32).toInt32) &&& (3 : Int32))) (own_pt (own_cp x1) x3 (((x4.toUInt32 >>> ((6 : Int32) &&& 31).toUInt32).toInt32) &&& (3 : Int32))))) vm21 h21 O23 f24 (own_strl _ _ _) (own_str16 vc vd)) (ow hw 14 rfl) (ow hw 2 rfl) (by decide) (by decide) hZ H hEL) 159 (argsL := [(.ref b6), (.int (Int32.ofNat (own_str ((((x4.toUInt32 >>> ((2 : Int32) &&& 31).toUInt32).toInt32) &&& (3 : Int32)) % (3 : Int32)) (own_pt (own_cp x0) x2 (((x4.toUInt32 >>> ((4 : Int32) &&& 31).toUInt32).toInt32) &&& (3 : Int32))) (own_pt (own_cp x1) x3 (((x4.toUInt32 >>> ((6 : Int32) &&& 31).toUInt32).toInt32) &&& (3 : Int32)))).length))]) (rest := []) (lenOf own_pd687 rfl) rfl rfl (Nat.le_of_eq rfl) (by rw [hml]; rfl) (hb hby at_156) rfl (by decide) (by decide) ?_
      rintro _ vm23 h23 C23 ⟨r23, t23, rfl, K23, q23_0, q23_1⟩
      have z23 := C23.2.1
      have lt_t23 : h23.size > t23 := q23_1.tlt
      have lt_r23 : h23.size > r23 := q23_1.1.lt
      refine gat1 ?_
      refine uSA 161 #[vi x0, vi x1, vi x2, vi x3, vi x4, vi ((x4 &&& (3 : Int32)) % (3 : Int32)), vi ((((x4.toUInt32 >>> ((2 : Int32) &&& 31).toUInt32).toInt32) &&& (3 : Int32)) % (3 : Int32)), vi (own_cp x0), vi (own_cp x1), vi (own_pt (own_cp x0) x2 (((x4.toUInt32 >>> ((4 : Int32) &&& 31).toUInt32).toInt32) &&& (3 : Int32))), vi (own_pt (own_cp x1) x3 (((x4.toUInt32 >>> ((6 : Int32) &&& 31).toUInt32).toInt32) &&& (3 : Int32))), vr b5, vr b6, vi (Int32.ofNat (own_str ((x4 &&& (3 : Int32)) % (3 : Int32)) (own_cp x0) (own_cp x1)).length), vi (Int32.ofNat (own_str ((((x4.toUInt32 >>> ((2 : Int32) &&& 31).toUInt32).toInt32) &&& (3 : Int32)) % (3 : Int32)) (own_pt (own_cp x0) x2 (((x4.toUInt32 >>> ((4 : Int32) &&& 31).toUInt32).toInt32) &&& (3 : Int32))) (own_pt (own_cp x1) x3 (((x4.toUInt32 >>> ((6 : Int32) &&& 31).toUInt32).toInt32) &&& (3 : Int32)))).length), vr r21, vr r23, un, un] hx hby at_159 rfl rfl rfl ?_
      refine uA 163 hx hby at_161 rfl rfl rfl ?_
      refine uA 165 hx hby at_163 rfl rfl rfl ?_
      have f26 := (q21_1.keep K23 nin0 nin0)
      refine ginfo fun _ _ O25 => ?_
      refine gcallS (y := mn393) hx (ow hw 36 rfl) (ow hw 37 rfl) (ow hw 38 rfl) (ow hw 39 rfl) (by decide) (fun hZ H hEL => Pay.of_met (W := 0) (own_ccp l Z a0 cx [] (r21) (r23) (t21) (t23) ((own_str ((x4 &&& (3 : Int32)) % (3 : Int32)) (own_cp x0) (own_cp x1))) ((own_str ((((x4.toUInt32 >>> ((2 : Int32) &&& 31).toUInt32).toInt32) &&& (3 : Int32)) % (3 : Int32)) (own_pt (own_cp x0) x2 (((x4.toUInt32 >>> ((4 : Int32) &&& 31).toUInt32).toInt32) &&& (3 : Int32))) (own_pt (own_cp x1) x3 (((x4.toUInt32 >>> ((6 : Int32) &&& 31).toUInt32).toInt32) &&& (3 : Int32))))) vm23 h23 O25 f26 q23_1) (ow hw 39 rfl) (ow hw 38 rfl) (by decide) (by decide) hZ H hEL) 168 (argsL := [(.ref r21), (.ref r23)]) (rest := []) (lenOf own_pd688 rfl) rfl rfl (Nat.le_of_eq rfl) (by rw [hml]; rfl) (hb hby at_165) rfl (by decide) (by decide) ?_
      rintro _ vm25 h25 C25 ⟨rfl, rfl⟩
      have z25 := C25.2.1
      refine gat1 ?_
      refine uSI 170 #[vi x0, vi x1, vi x2, vi x3, vi x4, vi ((x4 &&& (3 : Int32)) % (3 : Int32)), vi ((((x4.toUInt32 >>> ((2 : Int32) &&& 31).toUInt32).toInt32) &&& (3 : Int32)) % (3 : Int32)), vi (own_cp x0), vi (own_cp x1), vi (own_pt (own_cp x0) x2 (((x4.toUInt32 >>> ((4 : Int32) &&& 31).toUInt32).toInt32) &&& (3 : Int32))), vi (own_pt (own_cp x1) x3 (((x4.toUInt32 >>> ((6 : Int32) &&& 31).toUInt32).toInt32) &&& (3 : Int32))), vr b5, vr b6, vi (Int32.ofNat (own_str ((x4 &&& (3 : Int32)) % (3 : Int32)) (own_cp x0) (own_cp x1)).length), vi (Int32.ofNat (own_str ((((x4.toUInt32 >>> ((2 : Int32) &&& 31).toUInt32).toInt32) &&& (3 : Int32)) % (3 : Int32)) (own_pt (own_cp x0) x2 (((x4.toUInt32 >>> ((4 : Int32) &&& 31).toUInt32).toInt32) &&& (3 : Int32))) (own_pt (own_cp x1) x3 (((x4.toUInt32 >>> ((6 : Int32) &&& 31).toUInt32).toInt32) &&& (3 : Int32)))).length), vr r21, vr r23, vi (own_ccx 5 0 (own_str ((x4 &&& (3 : Int32)) % (3 : Int32)) (own_cp x0) (own_cp x1)) (own_str ((((x4.toUInt32 >>> ((2 : Int32) &&& 31).toUInt32).toInt32) &&& (3 : Int32)) % (3 : Int32)) (own_pt (own_cp x0) x2 (((x4.toUInt32 >>> ((4 : Int32) &&& 31).toUInt32).toInt32) &&& (3 : Int32))) (own_pt (own_cp x1) x3 (((x4.toUInt32 >>> ((6 : Int32) &&& 31).toUInt32).toInt32) &&& (3 : Int32))))), un] hx hby at_168 rfl rfl ?_
      refine uI 172 hx hby at_170 rfl rfl ?_
      refine uI 174 hx hby at_172 rfl rfl ?_
      refine uI 176 hx hby at_174 rfl rfl ?_
      refine uI 178 hx hby at_176 rfl rfl ?_
      refine uI 180 hx hby at_178 rfl rfl ?_
      refine uI 182 hx hby at_180 rfl rfl ?_
      refine ginfo fun _ _ O27 => ?_
      refine gcallS (y := mn531) hx (ow hw 59 rfl) (ow hw 60 rfl) (ow hw 2 rfl) (ow hw 61 rfl) (by decide) (fun hZ H hEL => Pay.of_met (W := 0) (own_refw l Z a0 cx [] (((x4 &&& (3 : Int32)) % (3 : Int32))) ((own_cp x0)) ((own_cp x1)) (((((x4.toUInt32 >>> ((2 : Int32) &&& 31).toUInt32).toInt32) &&& (3 : Int32)) % (3 : Int32))) ((own_pt (own_cp x0) x2 (((x4.toUInt32 >>> ((4 : Int32) &&& 31).toUInt32).toInt32) &&& (3 : Int32)))) ((own_pt (own_cp x1) x3 (((x4.toUInt32 >>> ((6 : Int32) &&& 31).toUInt32).toInt32) &&& (3 : Int32)))) vm25 h23 O27 ) (ow hw 61 rfl) (ow hw 2 rfl) (by decide) (by decide) hZ H hEL) 185 (argsL := [(.int ((x4 &&& (3 : Int32)) % (3 : Int32))), (.int (own_cp x0)), (.int (own_cp x1)), (.int ((((x4.toUInt32 >>> ((2 : Int32) &&& 31).toUInt32).toInt32) &&& (3 : Int32)) % (3 : Int32))), (.int (own_pt (own_cp x0) x2 (((x4.toUInt32 >>> ((4 : Int32) &&& 31).toUInt32).toInt32) &&& (3 : Int32)))), (.int (own_pt (own_cp x1) x3 (((x4.toUInt32 >>> ((6 : Int32) &&& 31).toUInt32).toInt32) &&& (3 : Int32))))]) (rest := []) (lenOf own_pd689 rfl) rfl rfl (Nat.le_of_eq rfl) (by rw [hml]; rfl) (hb hby at_182) rfl (by decide) (by decide) ?_
      rintro _ vm27 h27 C27 ⟨rfl, rfl⟩
      have z27 := C27.2.1
      refine gat1 ?_
      refine uSI 187 #[vi x0, vi x1, vi x2, vi x3, vi x4, vi ((x4 &&& (3 : Int32)) % (3 : Int32)), vi ((((x4.toUInt32 >>> ((2 : Int32) &&& 31).toUInt32).toInt32) &&& (3 : Int32)) % (3 : Int32)), vi (own_cp x0), vi (own_cp x1), vi (own_pt (own_cp x0) x2 (((x4.toUInt32 >>> ((4 : Int32) &&& 31).toUInt32).toInt32) &&& (3 : Int32))), vi (own_pt (own_cp x1) x3 (((x4.toUInt32 >>> ((6 : Int32) &&& 31).toUInt32).toInt32) &&& (3 : Int32))), vr b5, vr b6, vi (Int32.ofNat (own_str ((x4 &&& (3 : Int32)) % (3 : Int32)) (own_cp x0) (own_cp x1)).length), vi (Int32.ofNat (own_str ((((x4.toUInt32 >>> ((2 : Int32) &&& 31).toUInt32).toInt32) &&& (3 : Int32)) % (3 : Int32)) (own_pt (own_cp x0) x2 (((x4.toUInt32 >>> ((4 : Int32) &&& 31).toUInt32).toInt32) &&& (3 : Int32))) (own_pt (own_cp x1) x3 (((x4.toUInt32 >>> ((6 : Int32) &&& 31).toUInt32).toInt32) &&& (3 : Int32)))).length), vr r21, vr r23, vi (own_ccx 5 0 (own_str ((x4 &&& (3 : Int32)) % (3 : Int32)) (own_cp x0) (own_cp x1)) (own_str ((((x4.toUInt32 >>> ((2 : Int32) &&& 31).toUInt32).toInt32) &&& (3 : Int32)) % (3 : Int32)) (own_pt (own_cp x0) x2 (((x4.toUInt32 >>> ((4 : Int32) &&& 31).toUInt32).toInt32) &&& (3 : Int32))) (own_pt (own_cp x1) x3 (((x4.toUInt32 >>> ((6 : Int32) &&& 31).toUInt32).toInt32) &&& (3 : Int32))))), vi (own_ref ((x4 &&& (3 : Int32)) % (3 : Int32)) (own_cp x0) (own_cp x1) ((((x4.toUInt32 >>> ((2 : Int32) &&& 31).toUInt32).toInt32) &&& (3 : Int32)) % (3 : Int32)) (own_pt (own_cp x0) x2 (((x4.toUInt32 >>> ((4 : Int32) &&& 31).toUInt32).toInt32) &&& (3 : Int32))) (own_pt (own_cp x1) x3 (((x4.toUInt32 >>> ((6 : Int32) &&& 31).toUInt32).toInt32) &&& (3 : Int32))))] hx hby at_185 rfl rfl ?_
      refine uI 189 hx hby at_187 rfl rfl ?_
      refine ginfo fun _ _ O28 => ?_
      refine gcallS (y := mn490) hx (ow hw 65 rfl) (ow hw 66 rfl) (ow hw 2 rfl) (ow hw 67 rfl) (by decide) (fun hZ H hEL => Pay.of_met (W := 0) (own_sgnw l Z a0 cx [] ((own_ccx 5 0 (own_str ((x4 &&& (3 : Int32)) % (3 : Int32)) (own_cp x0) (own_cp x1)) (own_str ((((x4.toUInt32 >>> ((2 : Int32) &&& 31).toUInt32).toInt32) &&& (3 : Int32)) % (3 : Int32)) (own_pt (own_cp x0) x2 (((x4.toUInt32 >>> ((4 : Int32) &&& 31).toUInt32).toInt32) &&& (3 : Int32))) (own_pt (own_cp x1) x3 (((x4.toUInt32 >>> ((6 : Int32) &&& 31).toUInt32).toInt32) &&& (3 : Int32)))))) vm27 h23 O28 ) (ow hw 67 rfl) (ow hw 2 rfl) (by decide) (by decide) hZ H hEL) 192 (argsL := [(.int (own_ccx 5 0 (own_str ((x4 &&& (3 : Int32)) % (3 : Int32)) (own_cp x0) (own_cp x1)) (own_str ((((x4.toUInt32 >>> ((2 : Int32) &&& 31).toUInt32).toInt32) &&& (3 : Int32)) % (3 : Int32)) (own_pt (own_cp x0) x2 (((x4.toUInt32 >>> ((4 : Int32) &&& 31).toUInt32).toInt32) &&& (3 : Int32))) (own_pt (own_cp x1) x3 (((x4.toUInt32 >>> ((6 : Int32) &&& 31).toUInt32).toInt32) &&& (3 : Int32))))))]) (rest := []) (lenOf own_pd39 rfl) rfl rfl (Nat.le_of_eq rfl) (by rw [hml]; rfl) (hb hby at_189) rfl (by decide) (by decide) ?_
      rintro _ vm28 h28 C28 ⟨rfl, rfl⟩
      have z28 := C28.2.1
      refine gat1 ?_
      refine uI 194 hx hby at_192 rfl rfl ?_
      refine uNc 197 hx hby at_194 rfl (teq (own_main (own_n3 _) (own_n3 _) va vb vc vd)).2 ?_
      refine uKc 198 (1 : Int32) hx hby at_197 rfl rfl ?_
      refine uG 202 hx hby at_198 (by decide) (by decide) ?_
      exact gretN (t := .boolean) hx hret (by simp) (hb hby at_202) (by decide) (by decide) (fun vq Cq => ⟨rfl, (((((((Keep.refl h0 []).ext E5).ext E6).trans K10 (allS (Or.inr (by omega)) all0)).trans K14 (allS (Or.inr (by omega)) all0)).trans K21 all0).trans K23 all0)⟩)
    · intro J14
      refine uI 111 hx hby at_109 rfl rfl ?_
      rcases own_n3 ((x4.toUInt32 >>> ((2 : Int32) &&& 31).toUInt32).toInt32) with nq | nq | nq
      · refine uKc 112 (1 : Int32) hx hby at_111 rfl rfl ?_
        refine uYc 126 hx hby at_112 (tlt (by rw [nq]; decide)).1 (by decide) (by decide) ?_
        refine uI 128 hx hby at_126 rfl rfl ?_
        refine uKc 129 (2 : Int32) hx hby at_128 rfl rfl ?_
        refine uYc 143 hx hby at_129 (tlt (by rw [nq]; decide)).1 (by decide) (by decide) ?_
        have f15 := (X9.keep K10 (ninS (Nat.ne_of_gt (by omega)) nin0))
        refine ginfo fun _ Hq _ => ?_
        exact gmono (by decide) (by decide) (J14 _ _ _ ⟨([] : List Int32), (Int32.ofNat ([] : List Int32).length), rfl, (Keep.refl h10 [b6]), (CHr.refl Hq), f15, (by rw [own_str, nq]; exact rfl), rfl⟩)
      · refine uKc 112 (1 : Int32) hx hby at_111 rfl rfl ?_
        refine uNc 115 hx hby at_112 rfl (flt (by rw [nq]; decide)).1 ?_
        refine uA 117 hx hby at_115 rfl rfl rfl ?_
        refine uI 119 hx hby at_117 rfl rfl ?_
        refine uI 121 hx hby at_119 rfl rfl ?_
        have f17 := (X9.keep K10 (ninS (Nat.ne_of_gt (by omega)) nin0))
        refine ginfo fun _ _ O16 => ?_
        refine gcallS (y := mn575) hx (ow hw 68 rfl) (ow hw 69 rfl) (ow hw 2 rfl) (ow hw 70 rfl) (by decide) (fun hZ H hEL => Pay.of_met (W := 0) (own_put l Z a0 cx [] (b6) (k6) (([] : List Int32)) ((own_pt (own_cp x0) x2 (((x4.toUInt32 >>> ((4 : Int32) &&& 31).toUInt32).toInt32) &&& (3 : Int32)))) vm10 h10 O16 f17 n6 (by simp only [List.nil_append, List.length_nil]; first | decide | exact own_el _) vc) (ow hw 70 rfl) (ow hw 2 rfl) (by decide) (by decide) hZ H hEL) 124 (argsL := [(.ref b6), (.int (Int32.ofNat ([] : List Int32).length)), (.int (own_pt (own_cp x0) x2 (((x4.toUInt32 >>> ((4 : Int32) &&& 31).toUInt32).toInt32) &&& (3 : Int32))))]) (rest := []) (lenOf own_pd686 rfl) rfl rfl (Nat.le_of_eq rfl) (by rw [hml]; rfl) (hb hby at_121) rfl (by decide) (by decide) ?_
        rintro _ vm16 h16 C16 ⟨rfl, K16, q16_0⟩
        have z16 := C16.2.1
        refine gat1 ?_
        refine uSI 126 #[vi x0, vi x1, vi x2, vi x3, vi x4, vi ((x4 &&& (3 : Int32)) % (3 : Int32)), vi ((((x4.toUInt32 >>> ((2 : Int32) &&& 31).toUInt32).toInt32) &&& (3 : Int32)) % (3 : Int32)), vi (own_cp x0), vi (own_cp x1), vi (own_pt (own_cp x0) x2 (((x4.toUInt32 >>> ((4 : Int32) &&& 31).toUInt32).toInt32) &&& (3 : Int32))), vi (own_pt (own_cp x1) x3 (((x4.toUInt32 >>> ((6 : Int32) &&& 31).toUInt32).toInt32) &&& (3 : Int32))), vr b5, vr b6, vi (Int32.ofNat (own_str ((x4 &&& (3 : Int32)) % (3 : Int32)) (own_cp x0) (own_cp x1)).length), vi (Int32.ofNat (([] : List Int32) ++ own_e (own_pt (own_cp x0) x2 (((x4.toUInt32 >>> ((4 : Int32) &&& 31).toUInt32).toInt32) &&& (3 : Int32)))).length), un, un, un, un] hx hby at_124 rfl rfl ?_
        refine uI 128 hx hby at_126 rfl rfl ?_
        refine uKc 129 (2 : Int32) hx hby at_128 rfl rfl ?_
        refine uYc 143 hx hby at_129 (tlt (by rw [nq]; decide)).1 (by decide) (by decide) ?_
        exact gmono (by decide) (by decide) (J14 _ _ _ ⟨(([] : List Int32) ++ own_e (own_pt (own_cp x0) x2 (((x4.toUInt32 >>> ((4 : Int32) &&& 31).toUInt32).toInt32) &&& (3 : Int32)))), (Int32.ofNat (([] : List Int32) ++ own_e (own_pt (own_cp x0) x2 (((x4.toUInt32 >>> ((4 : Int32) &&& 31).toUInt32).toInt32) &&& (3 : Int32)))).length), rfl, ((Keep.refl h10 [b6]).trans K16 (allS (Or.inl (List.mem_of_getElem? (i := 0) rfl)) all0)), C16, q16_0, (by rw [own_str, nq]; exact rfl), rfl⟩)
      · refine uKc 112 (1 : Int32) hx hby at_111 rfl rfl ?_
        refine uNc 115 hx hby at_112 rfl (flt (by rw [nq]; decide)).1 ?_
        refine uA 117 hx hby at_115 rfl rfl rfl ?_
        refine uI 119 hx hby at_117 rfl rfl ?_
        refine uI 121 hx hby at_119 rfl rfl ?_
        have f19 := (X9.keep K10 (ninS (Nat.ne_of_gt (by omega)) nin0))
        refine ginfo fun _ _ O18 => ?_
        refine gcallS (y := mn575) hx (ow hw 68 rfl) (ow hw 69 rfl) (ow hw 2 rfl) (ow hw 70 rfl) (by decide) (fun hZ H hEL => Pay.of_met (W := 0) (own_put l Z a0 cx [] (b6) (k6) (([] : List Int32)) ((own_pt (own_cp x0) x2 (((x4.toUInt32 >>> ((4 : Int32) &&& 31).toUInt32).toInt32) &&& (3 : Int32)))) vm10 h10 O18 f19 n6 (by simp only [List.nil_append, List.length_nil]; first | decide | exact own_el _) vc) (ow hw 70 rfl) (ow hw 2 rfl) (by decide) (by decide) hZ H hEL) 124 (argsL := [(.ref b6), (.int (Int32.ofNat ([] : List Int32).length)), (.int (own_pt (own_cp x0) x2 (((x4.toUInt32 >>> ((4 : Int32) &&& 31).toUInt32).toInt32) &&& (3 : Int32))))]) (rest := []) (lenOf own_pd686 rfl) rfl rfl (Nat.le_of_eq rfl) (by rw [hml]; rfl) (hb hby at_121) rfl (by decide) (by decide) ?_
        rintro _ vm18 h18 C18 ⟨rfl, K18, q18_0⟩
        have z18 := C18.2.1
        refine gat1 ?_
        refine uSI 126 #[vi x0, vi x1, vi x2, vi x3, vi x4, vi ((x4 &&& (3 : Int32)) % (3 : Int32)), vi ((((x4.toUInt32 >>> ((2 : Int32) &&& 31).toUInt32).toInt32) &&& (3 : Int32)) % (3 : Int32)), vi (own_cp x0), vi (own_cp x1), vi (own_pt (own_cp x0) x2 (((x4.toUInt32 >>> ((4 : Int32) &&& 31).toUInt32).toInt32) &&& (3 : Int32))), vi (own_pt (own_cp x1) x3 (((x4.toUInt32 >>> ((6 : Int32) &&& 31).toUInt32).toInt32) &&& (3 : Int32))), vr b5, vr b6, vi (Int32.ofNat (own_str ((x4 &&& (3 : Int32)) % (3 : Int32)) (own_cp x0) (own_cp x1)).length), vi (Int32.ofNat (([] : List Int32) ++ own_e (own_pt (own_cp x0) x2 (((x4.toUInt32 >>> ((4 : Int32) &&& 31).toUInt32).toInt32) &&& (3 : Int32)))).length), un, un, un, un] hx hby at_124 rfl rfl ?_
        refine uI 128 hx hby at_126 rfl rfl ?_
        refine uKc 129 (2 : Int32) hx hby at_128 rfl rfl ?_
        refine uNc 132 hx hby at_129 rfl (flt (by rw [nq]; decide)).1 ?_
        refine uA 134 hx hby at_132 rfl rfl rfl ?_
        refine uI 136 hx hby at_134 rfl rfl ?_
        refine uI 138 hx hby at_136 rfl rfl ?_
        refine ginfo fun _ _ O20 => ?_
        refine gcallS (y := mn575) hx (ow hw 68 rfl) (ow hw 69 rfl) (ow hw 2 rfl) (ow hw 70 rfl) (by decide) (fun hZ H hEL => Pay.of_met (W := 0) (own_put l Z a0 cx [] (b6) (k6) ((([] : List Int32) ++ own_e (own_pt (own_cp x0) x2 (((x4.toUInt32 >>> ((4 : Int32) &&& 31).toUInt32).toInt32) &&& (3 : Int32))))) ((own_pt (own_cp x1) x3 (((x4.toUInt32 >>> ((6 : Int32) &&& 31).toUInt32).toInt32) &&& (3 : Int32)))) vm18 h18 O20 q18_0 n6 (by simp only [List.nil_append, List.length_nil]; first | decide | exact own_el _) vd) (ow hw 70 rfl) (ow hw 2 rfl) (by decide) (by decide) hZ H hEL) 141 (argsL := [(.ref b6), (.int (Int32.ofNat (([] : List Int32) ++ own_e (own_pt (own_cp x0) x2 (((x4.toUInt32 >>> ((4 : Int32) &&& 31).toUInt32).toInt32) &&& (3 : Int32)))).length)), (.int (own_pt (own_cp x1) x3 (((x4.toUInt32 >>> ((6 : Int32) &&& 31).toUInt32).toInt32) &&& (3 : Int32))))]) (rest := []) (lenOf own_pd686 rfl) rfl rfl (Nat.le_of_eq rfl) (by rw [hml]; rfl) (hb hby at_138) rfl (by decide) (by decide) ?_
        rintro _ vm20 h20 C20 ⟨rfl, K20, q20_0⟩
        have z20 := C20.2.1
        refine gat1 ?_
        refine uSI 143 #[vi x0, vi x1, vi x2, vi x3, vi x4, vi ((x4 &&& (3 : Int32)) % (3 : Int32)), vi ((((x4.toUInt32 >>> ((2 : Int32) &&& 31).toUInt32).toInt32) &&& (3 : Int32)) % (3 : Int32)), vi (own_cp x0), vi (own_cp x1), vi (own_pt (own_cp x0) x2 (((x4.toUInt32 >>> ((4 : Int32) &&& 31).toUInt32).toInt32) &&& (3 : Int32))), vi (own_pt (own_cp x1) x3 (((x4.toUInt32 >>> ((6 : Int32) &&& 31).toUInt32).toInt32) &&& (3 : Int32))), vr b5, vr b6, vi (Int32.ofNat (own_str ((x4 &&& (3 : Int32)) % (3 : Int32)) (own_cp x0) (own_cp x1)).length), vi (Int32.ofNat ((([] : List Int32) ++ own_e (own_pt (own_cp x0) x2 (((x4.toUInt32 >>> ((4 : Int32) &&& 31).toUInt32).toInt32) &&& (3 : Int32)))) ++ own_e (own_pt (own_cp x1) x3 (((x4.toUInt32 >>> ((6 : Int32) &&& 31).toUInt32).toInt32) &&& (3 : Int32)))).length), un, un, un, un] hx hby at_141 rfl rfl ?_
        exact gmono (by decide) (by decide) (J14 _ _ _ ⟨((([] : List Int32) ++ own_e (own_pt (own_cp x0) x2 (((x4.toUInt32 >>> ((4 : Int32) &&& 31).toUInt32).toInt32) &&& (3 : Int32)))) ++ own_e (own_pt (own_cp x1) x3 (((x4.toUInt32 >>> ((6 : Int32) &&& 31).toUInt32).toInt32) &&& (3 : Int32)))), (Int32.ofNat ((([] : List Int32) ++ own_e (own_pt (own_cp x0) x2 (((x4.toUInt32 >>> ((4 : Int32) &&& 31).toUInt32).toInt32) &&& (3 : Int32)))) ++ own_e (own_pt (own_cp x1) x3 (((x4.toUInt32 >>> ((6 : Int32) &&& 31).toUInt32).toInt32) &&& (3 : Int32)))).length), rfl, (((Keep.refl h10 [b6]).trans K18 (allS (Or.inl (List.mem_of_getElem? (i := 0) rfl)) all0)).trans K20 (allS (Or.inl (List.mem_of_getElem? (i := 0) rfl)) all0)), (C18.trans C20), q20_0, (by rw [own_str, nq]; exact rfl), rfl⟩)
  · intro J10
    refine uI 74 hx hby at_72 rfl rfl ?_
    rcases own_n3 x4 with nq | nq | nq
    · refine uKc 75 (1 : Int32) hx hby at_74 rfl rfl ?_
      refine uYc 89 hx hby at_75 (tlt (by rw [nq]; decide)).1 (by decide) (by decide) ?_
      refine uI 91 hx hby at_89 rfl rfl ?_
      refine uKc 92 (2 : Int32) hx hby at_91 rfl rfl ?_
      refine uYc 106 hx hby at_92 (tlt (by rw [nq]; decide)).1 (by decide) (by decide) ?_
      refine ginfo fun _ Hq _ => ?_
      exact gmono (by decide) (by decide) (J10 _ _ _ ⟨([] : List Int32), (Int32.ofNat ([] : List Int32).length), rfl, (Keep.refl h6 [b5]), (CHr.refl Hq), X7, (by rw [own_str, nq]; exact rfl), rfl⟩)
    · refine uKc 75 (1 : Int32) hx hby at_74 rfl rfl ?_
      refine uNc 78 hx hby at_75 rfl (flt (by rw [nq]; decide)).1 ?_
      refine uA 80 hx hby at_78 rfl rfl rfl ?_
      refine uI 82 hx hby at_80 rfl rfl ?_
      refine uI 84 hx hby at_82 rfl rfl ?_
      refine ginfo fun _ _ O11 => ?_
      refine gcallS (y := mn575) hx (ow hw 68 rfl) (ow hw 69 rfl) (ow hw 2 rfl) (ow hw 70 rfl) (by decide) (fun hZ H hEL => Pay.of_met (W := 0) (own_put l Z a0 cx [] (b5) (k5) (([] : List Int32)) ((own_cp x0)) vm4 h6 O11 X7 n5 (by simp only [List.nil_append, List.length_nil]; first | decide | exact own_el _) va) (ow hw 70 rfl) (ow hw 2 rfl) (by decide) (by decide) hZ H hEL) 87 (argsL := [(.ref b5), (.int (Int32.ofNat ([] : List Int32).length)), (.int (own_cp x0))]) (rest := []) (lenOf own_pd686 rfl) rfl rfl (Nat.le_of_eq rfl) (by rw [hml]; rfl) (hb hby at_84) rfl (by decide) (by decide) ?_
      rintro _ vm11 h11 C11 ⟨rfl, K11, q11_0⟩
      have z11 := C11.2.1
      refine gat1 ?_
      refine uSI 89 #[vi x0, vi x1, vi x2, vi x3, vi x4, vi ((x4 &&& (3 : Int32)) % (3 : Int32)), vi ((((x4.toUInt32 >>> ((2 : Int32) &&& 31).toUInt32).toInt32) &&& (3 : Int32)) % (3 : Int32)), vi (own_cp x0), vi (own_cp x1), vi (own_pt (own_cp x0) x2 (((x4.toUInt32 >>> ((4 : Int32) &&& 31).toUInt32).toInt32) &&& (3 : Int32))), vi (own_pt (own_cp x1) x3 (((x4.toUInt32 >>> ((6 : Int32) &&& 31).toUInt32).toInt32) &&& (3 : Int32))), vr b5, vr b6, vi (Int32.ofNat (([] : List Int32) ++ own_e (own_cp x0)).length), un, un, un, un, un] hx hby at_87 rfl rfl ?_
      refine uI 91 hx hby at_89 rfl rfl ?_
      refine uKc 92 (2 : Int32) hx hby at_91 rfl rfl ?_
      refine uYc 106 hx hby at_92 (tlt (by rw [nq]; decide)).1 (by decide) (by decide) ?_
      exact gmono (by decide) (by decide) (J10 _ _ _ ⟨(([] : List Int32) ++ own_e (own_cp x0)), (Int32.ofNat (([] : List Int32) ++ own_e (own_cp x0)).length), rfl, ((Keep.refl h6 [b5]).trans K11 (allS (Or.inl (List.mem_of_getElem? (i := 0) rfl)) all0)), C11, q11_0, (by rw [own_str, nq]; exact rfl), rfl⟩)
    · refine uKc 75 (1 : Int32) hx hby at_74 rfl rfl ?_
      refine uNc 78 hx hby at_75 rfl (flt (by rw [nq]; decide)).1 ?_
      refine uA 80 hx hby at_78 rfl rfl rfl ?_
      refine uI 82 hx hby at_80 rfl rfl ?_
      refine uI 84 hx hby at_82 rfl rfl ?_
      refine ginfo fun _ _ O12 => ?_
      refine gcallS (y := mn575) hx (ow hw 68 rfl) (ow hw 69 rfl) (ow hw 2 rfl) (ow hw 70 rfl) (by decide) (fun hZ H hEL => Pay.of_met (W := 0) (own_put l Z a0 cx [] (b5) (k5) (([] : List Int32)) ((own_cp x0)) vm4 h6 O12 X7 n5 (by simp only [List.nil_append, List.length_nil]; first | decide | exact own_el _) va) (ow hw 70 rfl) (ow hw 2 rfl) (by decide) (by decide) hZ H hEL) 87 (argsL := [(.ref b5), (.int (Int32.ofNat ([] : List Int32).length)), (.int (own_cp x0))]) (rest := []) (lenOf own_pd686 rfl) rfl rfl (Nat.le_of_eq rfl) (by rw [hml]; rfl) (hb hby at_84) rfl (by decide) (by decide) ?_
      rintro _ vm12 h12 C12 ⟨rfl, K12, q12_0⟩
      have z12 := C12.2.1
      refine gat1 ?_
      refine uSI 89 #[vi x0, vi x1, vi x2, vi x3, vi x4, vi ((x4 &&& (3 : Int32)) % (3 : Int32)), vi ((((x4.toUInt32 >>> ((2 : Int32) &&& 31).toUInt32).toInt32) &&& (3 : Int32)) % (3 : Int32)), vi (own_cp x0), vi (own_cp x1), vi (own_pt (own_cp x0) x2 (((x4.toUInt32 >>> ((4 : Int32) &&& 31).toUInt32).toInt32) &&& (3 : Int32))), vi (own_pt (own_cp x1) x3 (((x4.toUInt32 >>> ((6 : Int32) &&& 31).toUInt32).toInt32) &&& (3 : Int32))), vr b5, vr b6, vi (Int32.ofNat (([] : List Int32) ++ own_e (own_cp x0)).length), un, un, un, un, un] hx hby at_87 rfl rfl ?_
      refine uI 91 hx hby at_89 rfl rfl ?_
      refine uKc 92 (2 : Int32) hx hby at_91 rfl rfl ?_
      refine uNc 95 hx hby at_92 rfl (flt (by rw [nq]; decide)).1 ?_
      refine uA 97 hx hby at_95 rfl rfl rfl ?_
      refine uI 99 hx hby at_97 rfl rfl ?_
      refine uI 101 hx hby at_99 rfl rfl ?_
      refine ginfo fun _ _ O13 => ?_
      refine gcallS (y := mn575) hx (ow hw 68 rfl) (ow hw 69 rfl) (ow hw 2 rfl) (ow hw 70 rfl) (by decide) (fun hZ H hEL => Pay.of_met (W := 0) (own_put l Z a0 cx [] (b5) (k5) ((([] : List Int32) ++ own_e (own_cp x0))) ((own_cp x1)) vm12 h12 O13 q12_0 n5 (by simp only [List.nil_append, List.length_nil]; first | decide | exact own_el _) vb) (ow hw 70 rfl) (ow hw 2 rfl) (by decide) (by decide) hZ H hEL) 104 (argsL := [(.ref b5), (.int (Int32.ofNat (([] : List Int32) ++ own_e (own_cp x0)).length)), (.int (own_cp x1))]) (rest := []) (lenOf own_pd686 rfl) rfl rfl (Nat.le_of_eq rfl) (by rw [hml]; rfl) (hb hby at_101) rfl (by decide) (by decide) ?_
      rintro _ vm13 h13 C13 ⟨rfl, K13, q13_0⟩
      have z13 := C13.2.1
      refine gat1 ?_
      refine uSI 106 #[vi x0, vi x1, vi x2, vi x3, vi x4, vi ((x4 &&& (3 : Int32)) % (3 : Int32)), vi ((((x4.toUInt32 >>> ((2 : Int32) &&& 31).toUInt32).toInt32) &&& (3 : Int32)) % (3 : Int32)), vi (own_cp x0), vi (own_cp x1), vi (own_pt (own_cp x0) x2 (((x4.toUInt32 >>> ((4 : Int32) &&& 31).toUInt32).toInt32) &&& (3 : Int32))), vi (own_pt (own_cp x1) x3 (((x4.toUInt32 >>> ((6 : Int32) &&& 31).toUInt32).toInt32) &&& (3 : Int32))), vr b5, vr b6, vi (Int32.ofNat ((([] : List Int32) ++ own_e (own_cp x0)) ++ own_e (own_cp x1)).length), un, un, un, un, un] hx hby at_104 rfl rfl ?_
      exact gmono (by decide) (by decide) (J10 _ _ _ ⟨((([] : List Int32) ++ own_e (own_cp x0)) ++ own_e (own_cp x1)), (Int32.ofNat ((([] : List Int32) ++ own_e (own_cp x0)) ++ own_e (own_cp x1)).length), rfl, (((Keep.refl h6 [b5]).trans K12 (allS (Or.inl (List.mem_of_getElem? (i := 0) rfl)) all0)).trans K13 (allS (Or.inl (List.mem_of_getElem? (i := 0) rfl)) all0)), (C12.trans C13), q13_0, (by rw [own_str, nq]; exact rfl), rfl⟩)
theorem comes_1 {Post : Tables → Env → Array Value → State → Outcome → State → Prop} (hpost : ∀ tb e args s v u, (limb_1_1.after args s (.returned v) u = true ∧ limb_1_2.after args s (.returned v) u = true ∧ True) → ReturnedEndW s (.returned v) u (Jvm.fieldLocs frame_1_writes args s ++ Jvm.arrayLocs frame_1_arrays args s ++ Jvm.staticLocs frame_1_statics s) 32 1216 → Post tb e args s (.returned v) u) :
    ArmFor flags0 classFile x code maxLocals ret World_1 tables_1 room_1 Calls_1 rest_1 Pre_1 Post := by
  intro l hfl _ _ p e ha hc hk s m args below hf hA hF happ hP
  obtain ⟨hcalls, hrest, hpre⟩ := hP
  obtain ⟨-, -, -, hnamed, -, -, -, hat⟩ := (Spec.applies_iff hf).mp happ
  obtain ⟨hg, hn⟩ := and_e (Cond.before_iff.mp (show (Jvm.Cond.and given_1 narrow_1).before args s = true from hpre))
  obtain ⟨gc, g0⟩ := and_e hg
  obtain ⟨ga0, g1⟩ := and_e g0
  obtain ⟨ga1, g2⟩ := and_e g1
  obtain ⟨ga2, g3⟩ := and_e g2
  obtain ⟨ga3, g4⟩ := and_e g3
  have ga4 := g4
  obtain ⟨w0, w1, w2, w3, w4, rfl⟩ : ∃ w0 w1 w2 w3 w4 : Value, args = #[w0, w1, w2, w3, w4] := by
    have hs : args.size = 5 := by simpa [Cond.value, given_1] using gc
    obtain ⟨L⟩ := args
    match L, hs with
    | [w0, w1, w2, w3, w4], _ => exact ⟨w0, w1, w2, w3, w4, rfl⟩
  have hw := fun d (hd : d ∈ tables_1) => atoms_spec (ws := Jvm.Cond.code x code maxLocals ret :: tables_1) hat d (List.mem_cons_of_mem _ hd)
  have hfit : Fit s := fun {y c} hc i hi => by
    obtain ⟨ha, rfl⟩ := Array.getElem?_eq_some_iff.mp hc
    have q := List.all_eq_true.mp ((Array.all_eq_true_iff_forall_mem.mp hF) _ (Array.getElem_mem ha)) i (List.mem_range.mpr hi)
    simpa [Array.getElem?_eq_getElem hi] using q
  obtain ⟨hsets, hown0⟩ := atoms_of _ (rest_1_c_eq ▸ (show rest_1_c.before _ s = true from hrest))
  obtain ⟨i0, ei0⟩ := is_v ga0
  obtain rfl : w0 = (.int i0) := Option.some.inj ei0
  obtain ⟨i1, ei1⟩ := is_v ga1
  obtain rfl : w1 = (.int i1) := Option.some.inj ei1
  obtain ⟨i2, ei2⟩ := is_v ga2
  obtain rfl : w2 = (.int i2) := Option.some.inj ei2
  obtain ⟨i3, ei3⟩ := is_v ga3
  obtain rfl : w3 = (.int i3) := Option.some.inj ei3
  obtain ⟨i4, ei4⟩ := is_v ga4
  obtain rfl : w4 = (.int i4) := Option.some.inj ei4
  obtain ⟨zc, eG⟩ := is_v (Cond.before_iff.mp (hsets _ (List.mem_of_getElem? (i := 1) rfl)))
  have Scs := Sta.start eG (Or.inl (hsets _ (List.mem_of_getElem? (i := 0) rfl)))
  have hcw := hsets _ (List.mem_of_getElem? (i := 2) rfl)
  have hzc : ¬ zc = 0 := by
    have q := not_v (Cond.before_iff.mp hcw)
    intro z
    have q2 := eq_i (x := .int zc) (y := .int 0) eG (Term.int_eval (0)) (by rw [z])
    rw [q2] at q; cases q
  obtain ⟨fm, eF, hfm⟩ := isR_v (Cond.before_iff.mp (hsets _ (List.mem_of_getElem? (i := 8) rfl)))
  have Sfm := Sta.start eF (Or.inl (hsets _ (List.mem_of_getElem? (i := 7) rfl)))
  have hEL : EW s _ consts_1 := (EW.cons (ow hw 28 rfl) (by decide +kernel) EW.nil)
  have hCH : CHv s consts_1 s.vm s.heap := CHv.start hEL (fun p hp => hcalls.1 p hp) hcw (ow hw 29 rfl) (ow hw 16 rfl)
  have Sad := staI (hsets _ (List.mem_of_getElem? (i := 12) rfl)) (hsets _ (List.mem_of_getElem? (i := 11) rfl))
  have Shi := staI (hsets _ (List.mem_of_getElem? (i := 15) rfl)) (hsets _ (List.mem_of_getElem? (i := 14) rfl))
  have Slo := staI (hsets _ (List.mem_of_getElem? (i := 18) rfl)) (hsets _ (List.mem_of_getElem? (i := 17) rfl))
  have cx : Ctx s _ := ⟨hw, hEL, ⟨zc, Scs, hzc⟩, ⟨fm, Sfm, hfm⟩, Sad, Shi, Slo⟩
  obtain ⟨n, o, h1, h2, h3, _, L, rfl, ⟨N, ⟨rfl, -⟩⟩, hCq, hq⟩ := own_law l s _ cx tables_1 i0 i1 i2 i3 i4 s.vm s.heap ⟨Nat.le_refl _, fun _ _ q => q⟩ p e ha hc hk s m _ below hf ((Spec.applies_iff_loose hf).mp happ).1 ⟨rfl, State.Warmed39.refl s, rfl, CHr.refl hCH, State.Warmed39.of_rootvm (s := s) rfl (State.Warmed39.refl s)⟩ trivial
  refine ⟨n, _, h1, h2, h3, hpost _ _ _ _ _ _ ⟨Cond.after_iff.mpr rfl, Cond.after_iff.mpr (eq_i res_at (Term.int_eval (1)) rfl), trivial⟩ ⟨hq.1, hq.2.1, hq.2.2.1, (hq.2.2.2.sift fun y hy => Or.inr (N y hy)).mono (by decide) (by decide)⟩⟩
theorem main_1_1 : Claimed_1_1 := comes_1 fun _ _ _ _ _ _ h hF => ⟨h.1, hF⟩
theorem main_1_2 : Claimed_1_2 := comes_1 fun _ _ _ _ _ _ h hF => ⟨h.2.1, hF⟩
end Jvm.Pilot.@@N@@
namespace Jvm.Pilot.@@N@@
open Jvm Jvm.ClassFile Sem Op Lib Jvm.Free Jvm.Stand Jvm.Pilot.@@N@@.Jvm.D
/-! MADE BY PROGRAM (witnessworld.py) out of the Statement's table words and the real class files: 24 classes; the members and pool entries that the words name. The judged class is class 1, her method 1. -/
namespace start1
open Jvm.ClassFile
def u (s : String) : CpInfo := .utf8 (stringToUtf16 s)
/-- a pool by its gaps: so many unusable entries, then the entry; so many at the end -/
def gap : Nat → List CpInfo → List CpInfo
  | 0, r => r
  | n + 1, r => .unusable :: gap n r
def poolList (es : List (Nat × CpInfo)) (last : Nat) : List CpInfo := es.foldr (fun e r => gap e.1 (e.2 :: r)) (gap last [])
def pool (es : List (Nat × CpInfo)) (last : Nat) : Array CpInfo := ⟨poolList es last⟩
def fileOf (pool : Array CpInfo) (this : Nat) (attrs : Array Attribute := #[]) (ms : Array MethodInfo := #[]) (fl : Nat := 33) (sup : Nat := 0) (ifs : Array Nat := #[]) (fds : Array FieldInfo := #[]) : ClassFile where
  minorVersion := 0
  majorVersion := 65
  constantPool := pool
  accessFlags := fl
  thisClass := this
  superClass := sup
  interfaces := ifs
  fields := fds
  methods := ms
  attributes := attrs
def plain (name : String) (sup : Option ClassId) : Class where
  name := name
  kind := .ordinary
  loader := none
  accessFlags := 33
  super := sup
  interfaces := #[]
  cf := none
  fields := #[]
  methods := #[]
  instanceTypes := #[]
  staticTypes := #[]
  resolved := #[]
  callSites := []
  init := .initialized
  statics := none
  mirror := none

def pool0 : Array CpInfo := pool [(5, u "<init>"), (0, u "()V"), (1, .class_ 10), (1, u "java/lang/Object")] 113

def k0c0 : Code := { maxStack := 0, maxLocals := 1, code := object_method_1_code, exceptionTable := #[], attributes := #[] }
def k0m0 : Method := { name := "<init>", desc := "()V", sig := { parameters := [], returnType := none }, accessFlags := 1, code := some k0c0 }
/-- java/lang/Object -/
def k0 : Class := { plain "java/lang/Object" none with
  accessFlags := 33
  interfaces := #[]
  cf := some (fileOf pool0 8 #[] #[{ accessFlags := 1, nameIndex := 5, descriptorIndex := 6, attributes := #[] }] 33 0 #[] #[])
  fields := #[]
  methods := #[k0m0]
  instanceTypes := #[]
  staticTypes := #[]
  resolved := Array.replicate 124 none
  statics := none }

def pool1 : Array CpInfo := pool [(2, .class_ 4), (1, u "java/lang/Object"), (0, u "<init>"), (0, u "()V"), (0, .methodref 8 9), (0, .class_ 10), (0, .nameAndType 11 12), (0, u "com/example/headings_from_text/headingsfromtext/evaluation/TrecRunCompareCodePointsPinLaw"), (0, u "codePoint"), (0, u "(I)I"), (0, .methodref 8 14), (0, .nameAndType 15 16), (0, u "partner"), (0, u "(III)I"), (0, .methodref 8 18), (0, .nameAndType 19 20), (0, u "put"), (0, u "([CII)I"), (0, .methodref 8 22), (0, .nameAndType 23 24), (0, u "text"), (0, u "([CI)Ljava/lang/String;"), (0, .methodref 26 27), (0, .class_ 28), (0, .nameAndType 29 30), (0, u "com/example/headings_from_text/headingsfromtext/evaluation/TrecRun"), (0, u "compareCodePoints"), (0, u "(Ljava/lang/String;Ljava/lang/String;)I"), (0, .methodref 8 32), (0, .nameAndType 33 34), (0, u "reference"), (0, u "(IIIIII)I"), (0, .methodref 8 36), (0, .nameAndType 37 12), (0, u "sign"), (0, .integer 55296), (0, .integer 57344), (0, .integer 65536), (0, .integer 1048576), (0, .integer 56320), (0, .class_ 44), (0, u "java/lang/String"), (0, .methodref 43 46), (0, .nameAndType 5 47), (0, u "([C)V"), (0, .methodref 8 49), (0, .nameAndType 50 51), (0, u "cmp"), (0, u "(II)I"), (2, u "law"), (0, u "(IIIII)Z")] 5

def k1m0 : Method := { name := "<init>", desc := "()V", sig := { parameters := [], returnType := none }, accessFlags := 2, code := none }
def k1c1 : Code := { maxStack := 6, maxLocals := 19, code := code, exceptionTable := #[], attributes := #[] }
def k1m1 : Method := { name := "law", desc := "(IIIII)Z", sig := { parameters := [.int, .int, .int, .int, .int], returnType := some .boolean }, accessFlags := 9, code := some k1c1 }
def k1c2 : Code := { maxStack := 3, maxLocals := 4, code := method_3_code, exceptionTable := #[], attributes := #[] }
def k1m2 : Method := { name := "codePoint", desc := "(I)I", sig := { parameters := [.int], returnType := some .int }, accessFlags := 10, code := some k1c2 }
def k1c3 : Code := { maxStack := 3, maxLocals := 4, code := method_4_code, exceptionTable := #[], attributes := #[] }
def k1m3 : Method := { name := "partner", desc := "(III)I", sig := { parameters := [.int, .int, .int], returnType := some .int }, accessFlags := 10, code := some k1c3 }
def k1c4 : Code := { maxStack := 5, maxLocals := 5, code := method_5_code, exceptionTable := #[], attributes := #[] }
def k1m4 : Method := { name := "put", desc := "([CII)I", sig := { parameters := [(.array .char), .int, .int], returnType := some .int }, accessFlags := 10, code := some k1c4 }
def k1c5 : Code := { maxStack := 7, maxLocals := 3, code := method_6_code, exceptionTable := #[], attributes := #[] }
def k1m5 : Method := { name := "text", desc := "([CI)Ljava/lang/String;", sig := { parameters := [(.array .char), .int], returnType := some (.object "java/lang/String") }, accessFlags := 10, code := some k1c5 }
def k1c6 : Code := { maxStack := 2, maxLocals := 3, code := method_7_code, exceptionTable := #[], attributes := #[] }
def k1m6 : Method := { name := "cmp", desc := "(II)I", sig := { parameters := [.int, .int], returnType := some .int }, accessFlags := 10, code := some k1c6 }
def k1c7 : Code := { maxStack := 1, maxLocals := 2, code := method_8_code, exceptionTable := #[], attributes := #[] }
def k1m7 : Method := { name := "sign", desc := "(I)I", sig := { parameters := [.int], returnType := some .int }, accessFlags := 10, code := some k1c7 }
def k1c8 : Code := { maxStack := 2, maxLocals := 7, code := method_9_code, exceptionTable := #[], attributes := #[] }
def k1m8 : Method := { name := "reference", desc := "(IIIIII)I", sig := { parameters := [.int, .int, .int, .int, .int, .int], returnType := some .int }, accessFlags := 10, code := some k1c8 }
/-- com/example/headings_from_text/headingsfromtext/evaluation/TrecRunCompareCodePointsPinLaw -/
def k1 : Class := { plain "com/example/headings_from_text/headingsfromtext/evaluation/TrecRunCompareCodePointsPinLaw" (some 0) with
  accessFlags := 49
  interfaces := #[]
  cf := some (fileOf pool1 8 #[] #[{ accessFlags := 2, nameIndex := 5, descriptorIndex := 6, attributes := #[] }, { accessFlags := 9, nameIndex := 54, descriptorIndex := 55, attributes := #[] }, { accessFlags := 10, nameIndex := 11, descriptorIndex := 12, attributes := #[] }, { accessFlags := 10, nameIndex := 15, descriptorIndex := 16, attributes := #[] }, { accessFlags := 10, nameIndex := 19, descriptorIndex := 20, attributes := #[] }, { accessFlags := 10, nameIndex := 23, descriptorIndex := 24, attributes := #[] }, { accessFlags := 10, nameIndex := 50, descriptorIndex := 51, attributes := #[] }, { accessFlags := 10, nameIndex := 37, descriptorIndex := 12, attributes := #[] }, { accessFlags := 10, nameIndex := 33, descriptorIndex := 34, attributes := #[] }] 49 2 #[] #[])
  fields := #[]
  methods := #[k1m0, k1m1, k1m2, k1m3, k1m4, k1m5, k1m6, k1m7, k1m8]
  instanceTypes := #[]
  staticTypes := #[]
  resolved := Array.replicate 61 none
  statics := none }

def pool2 : Array CpInfo := pool [(1, .class_ 2), (0, u "java/io/Serializable"), (0, .class_ 4), (0, u "java/lang/Object")] 2

/-- java/io/Serializable -/
def k2 : Class := { plain "java/io/Serializable" (some 0) with
  accessFlags := 1537
  interfaces := #[]
  cf := some (fileOf pool2 1 #[] #[] 1537 3 #[] #[])
  fields := #[]
  methods := #[]
  instanceTypes := #[]
  staticTypes := #[]
  resolved := Array.replicate 7 none
  statics := none }

def pool3 : Array CpInfo := pool [(1, .class_ 2), (0, u "java/lang/Comparable"), (0, .class_ 4), (0, u "java/lang/Object")] 7

/-- java/lang/Comparable -/
def k3 : Class := { plain "java/lang/Comparable" (some 0) with
  accessFlags := 1537
  interfaces := #[]
  cf := some (fileOf pool3 1 #[] #[] 1537 3 #[] #[])
  fields := #[]
  methods := #[]
  instanceTypes := #[]
  staticTypes := #[]
  resolved := Array.replicate 12 none
  statics := none }

def pool4 : Array CpInfo := pool [(2, .class_ 4), (1, u "java/lang/CharSequence"), (42, .class_ 48), (0, u "java/lang/CharSequence$1CodePointIterator"), (10, .class_ 60), (0, u "java/lang/CharSequence$1CharIterator"), (5, .class_ 67), (0, u "java/lang/Object")] 63

/-- java/lang/CharSequence -/
def k4 : Class := { plain "java/lang/CharSequence" (some 0) with
  accessFlags := 1537
  interfaces := #[]
  cf := some (fileOf pool4 2 #[.nestMembers #[47, 59]] #[] 1537 66 #[] #[])
  fields := #[]
  methods := #[]
  instanceTypes := #[]
  staticTypes := #[]
  resolved := Array.replicate 131 none
  statics := none }

def pool5 : Array CpInfo := pool [(1, .class_ 2), (0, u "java/lang/constant/Constable"), (0, .class_ 4), (0, u "java/lang/Object")] 6

/-- java/lang/constant/Constable -/
def k5 : Class := { plain "java/lang/constant/Constable" (some 0) with
  accessFlags := 1537
  interfaces := #[]
  cf := some (fileOf pool5 1 #[] #[] 1537 3 #[] #[])
  fields := #[]
  methods := #[]
  instanceTypes := #[]
  staticTypes := #[]
  resolved := Array.replicate 11 none
  statics := none }

def pool6 : Array CpInfo := pool [(1, .class_ 2), (0, u "java/lang/constant/ConstantDesc"), (0, .class_ 4), (0, u "java/lang/Object")] 32

/-- java/lang/constant/ConstantDesc -/
def k6 : Class := { plain "java/lang/constant/ConstantDesc" (some 0) with
  accessFlags := 1537
  interfaces := #[]
  cf := some (fileOf pool6 1 #[] #[] 1537 3 #[] #[])
  fields := #[]
  methods := #[]
  instanceTypes := #[]
  staticTypes := #[]
  resolved := Array.replicate 37 none
  statics := none }

def pool7 : Array CpInfo := pool [(1, .methodref 2 3), (0, .class_ 4), (0, .nameAndType 5 6), (0, u "java/lang/Object"), (0, u "<init>"), (0, u "()V"), (0, .string 8), (0, u ""), (0, .fieldref 10 11), (0, .class_ 12), (0, .nameAndType 13 14), (0, u "java/lang/String"), (0, u "value"), (0, u "[B"), (0, .fieldref 10 16), (0, .nameAndType 17 18), (0, u "coder"), (0, u "B"), (2, u "hash"), (0, u "I"), (2, u "hashIsZero"), (0, u "Z"), (0, .methodref 10 28), (0, .nameAndType 5 29), (0, u "([CIILjava/lang/Void;)V"), (8, .fieldref 10 39), (0, .nameAndType 40 26), (0, u "COMPACT_STRINGS"), (1, .class_ 44), (1, u "java/lang/StringUTF16"), (0, u "compress"), (1, .methodref 42 48), (0, .nameAndType 49 50), (0, u "coderFromArrayLen"), (0, u "([BI)B"), (56, .class_ 109), (1, u "java/lang/StringLatin1"), (32, u "()Z"), (34, .methodref 42 178), (0, .nameAndType 45 179), (0, u "([CII)[B"), (154, u "()I"), (0, .methodref 10 336), (0, .nameAndType 17 337), (0, u "()B"), (25, u "([BI)C"), (27, u "(II)V"), (35, u "(I)C"), (64, .methodref 10 493), (0, .nameAndType 494 142), (0, u "isLatin1"), (0, .methodref 107 496), (0, .nameAndType 497 363), (0, u "charAt"), (0, .methodref 42 496), (2, u "checkIndex"), (5, u "length"), (67, .class_ 576), (0, u "java/lang/CharSequence"), (22, u "CASE_INSENSITIVE_ORDER"), (0, u "Ljava/util/Comparator;"), (409, u "([C)V"), (42, .fieldref 1054 1055), (0, .class_ 1056), (0, .nameAndType 1057 1058), (0, u "jdk/internal/util/Preconditions"), (0, u "SIOOBE_FORMATTER"), (0, u "Ljava/util/function/BiFunction;"), (0, .methodref 1054 1060), (0, .nameAndType 501 1061), (0, u "(IILjava/util/function/BiFunction;)I"), (39, u "serialPersistentFields"), (0, u "[Ljava/io/ObjectStreamField;"), (0, .class_ 1104), (0, u "java/lang/String$CaseInsensitiveComparator"), (1, .class_ 1107), (0, u "java/io/Serializable"), (0, .class_ 1109), (0, u "java/lang/Comparable"), (0, .class_ 1111), (0, u "java/lang/constant/Constable"), (0, .class_ 1113), (0, u "java/lang/constant/ConstantDesc"), (2, u "serialVersionUID"), (0, u "J"), (3, u "REPL"), (0, u "C"), (2, u "LATIN1"), (1, u "UTF16")] 323

def k7m0 : Method := { name := "<init>", desc := "()V", sig := { parameters := [], returnType := none }, accessFlags := 1, code := none }
def k7c1 : Code := { maxStack := 5, maxLocals := 2, code := jdk_42_method_3_code, exceptionTable := #[], attributes := #[] }
def k7m1 : Method := { name := "<init>", desc := "([C)V", sig := { parameters := [(.array .char)], returnType := none }, accessFlags := 1, code := some k7c1 }
def k7c2 : Code := { maxStack := 2, maxLocals := 1, code := jdk_42_method_54_code, exceptionTable := #[], attributes := #[] }
def k7m2 : Method := { name := "length", desc := "()I", sig := { parameters := [], returnType := some .int }, accessFlags := 1, code := some k7c2 }
def k7c3 : Code := { maxStack := 2, maxLocals := 2, code := jdk_42_method_56_code, exceptionTable := #[], attributes := #[] }
def k7m3 : Method := { name := "charAt", desc := "(I)C", sig := { parameters := [.int], returnType := some .char }, accessFlags := 1, code := some k7c3 }
def k7c4 : Code := { maxStack := 4, maxLocals := 6, code := jdk_42_method_149_code, exceptionTable := #[], attributes := #[] }
def k7m4 : Method := { name := "<init>", desc := "([CIILjava/lang/Void;)V", sig := { parameters := [(.array .char), .int, .int, (.object "java/lang/Void")], returnType := none }, accessFlags := 2, code := some k7c4 }
def k7c5 : Code := { maxStack := 1, maxLocals := 1, code := jdk_42_method_152_code, exceptionTable := #[], attributes := #[] }
def k7m5 : Method := { name := "coder", desc := "()B", sig := { parameters := [], returnType := some .byte }, accessFlags := 0, code := some k7c5 }
def k7c6 : Code := { maxStack := 1, maxLocals := 1, code := jdk_42_method_154_code, exceptionTable := #[], attributes := #[] }
def k7m6 : Method := { name := "isLatin1", desc := "()Z", sig := { parameters := [], returnType := some .boolean }, accessFlags := 0, code := some k7c6 }
def k7c7 : Code := { maxStack := 3, maxLocals := 2, code := jdk_42_method_155_code, exceptionTable := #[], attributes := #[] }
def k7m7 : Method := { name := "checkIndex", desc := "(II)V", sig := { parameters := [.int, .int], returnType := none }, accessFlags := 8, code := some k7c7 }
/-- java/lang/String -/
def k7 : Class := { plain "java/lang/String" (some 0) with
  accessFlags := 49
  interfaces := #[2, 3, 4, 5, 6]
  cf := some (fileOf pool7 10 #[.nestMembers #[1103]] #[{ accessFlags := 1, nameIndex := 5, descriptorIndex := 6, attributes := #[] }, { accessFlags := 1, nameIndex := 5, descriptorIndex := 1010, attributes := #[] }, { accessFlags := 1, nameIndex := 507, descriptorIndex := 334, attributes := #[] }, { accessFlags := 1, nameIndex := 497, descriptorIndex := 427, attributes := #[] }, { accessFlags := 2, nameIndex := 5, descriptorIndex := 29, attributes := #[] }, { accessFlags := 0, nameIndex := 17, descriptorIndex := 337, attributes := #[] }, { accessFlags := 0, nameIndex := 494, descriptorIndex := 142, attributes := #[] }, { accessFlags := 8, nameIndex := 501, descriptorIndex := 391, attributes := #[] }] 49 2 #[1106, 1108, 575, 1110, 1112] #[{ accessFlags := 18, nameIndex := 13, descriptorIndex := 14, attributes := #[] }, { accessFlags := 18, nameIndex := 17, descriptorIndex := 18, attributes := #[] }, { accessFlags := 2, nameIndex := 21, descriptorIndex := 22, attributes := #[] }, { accessFlags := 2, nameIndex := 25, descriptorIndex := 26, attributes := #[] }, { accessFlags := 26, nameIndex := 1116, descriptorIndex := 1117, attributes := #[] }, { accessFlags := 24, nameIndex := 40, descriptorIndex := 26, attributes := #[] }, { accessFlags := 26, nameIndex := 1101, descriptorIndex := 1102, attributes := #[] }, { accessFlags := 26, nameIndex := 1121, descriptorIndex := 1122, attributes := #[] }, { accessFlags := 25, nameIndex := 599, descriptorIndex := 600, attributes := #[] }, { accessFlags := 24, nameIndex := 1125, descriptorIndex := 18, attributes := #[] }, { accessFlags := 24, nameIndex := 1127, descriptorIndex := 18, attributes := #[] }])
  fields := #[{ name := "value", type := (.array .byte), accessFlags := 18, slot := 0, constantValue := 0 }, { name := "coder", type := .byte, accessFlags := 18, slot := 1, constantValue := 0 }, { name := "hash", type := .int, accessFlags := 2, slot := 2, constantValue := 0 }, { name := "hashIsZero", type := .boolean, accessFlags := 2, slot := 3, constantValue := 0 }, { name := "serialVersionUID", type := .long, accessFlags := 26, slot := 0, constantValue := 0 }, { name := "COMPACT_STRINGS", type := .boolean, accessFlags := 24, slot := 1, constantValue := 0 }, { name := "serialPersistentFields", type := (.array (.object "java/io/ObjectStreamField")), accessFlags := 26, slot := 2, constantValue := 0 }, { name := "REPL", type := .char, accessFlags := 26, slot := 3, constantValue := 0 }, { name := "CASE_INSENSITIVE_ORDER", type := (.object "java/util/Comparator"), accessFlags := 25, slot := 4, constantValue := 0 }, { name := "LATIN1", type := .byte, accessFlags := 24, slot := 5, constantValue := 0 }, { name := "UTF16", type := .byte, accessFlags := 24, slot := 6, constantValue := 0 }]
  methods := #[k7m0, k7m1, k7m2, k7m3, k7m4, k7m5, k7m6, k7m7]
  instanceTypes := #[(.array .byte), .byte, .int, .boolean]
  staticTypes := #[.long, .boolean, (.array (.object "java/io/ObjectStreamField")), .char, (.object "java/util/Comparator"), .byte, .byte]
  resolved := Array.replicate 1451 none
  statics := some 0 }

def pool8 : Array CpInfo := pool [(2, .class_ 4), (1, u "java/lang/Object"), (3, .class_ 10), (1, u "com/example/headings_from_text/headingsfromtext/evaluation/TrecRun"), (0, u "rankings"), (0, u "Ljava/util/Map;"), (2, u "LAYOUT"), (0, u "Lcom/example/headings_from_text/headingsfromtext/input/LineLayout;"), (42, .class_ 60), (0, u "java/lang/String"), (15, u "Q0"), (66, u "compare"), (8, u "()I"), (8, .methodref 59 162), (0, .nameAndType 163 152), (0, u "length"), (0, .methodref 165 166), (0, .class_ 167), (0, .nameAndType 168 169), (0, u "java/lang/Math"), (0, u "min"), (0, u "(II)I"), (0, .methodref 59 171), (0, .nameAndType 172 173), (0, u "charAt"), (0, u "(I)C"), (0, .methodref 175 176), (0, .class_ 177), (0, .nameAndType 143 169), (0, u "java/lang/Integer"), (0, .methodref 8 179), (0, .nameAndType 180 181), (0, u "codePointOrder"), (0, u "(C)I"), (0, .methodref 183 184), (0, .class_ 185), (0, .nameAndType 186 187), (0, u "java/lang/Character"), (0, u "isSurrogate"), (0, u "(C)Z"), (0, .integer 57344), (2, u "SCORE"), (0, u "Ljava/util/regex/Pattern;"), (29, u "compareCodePoints"), (0, u "(Ljava/lang/String;Ljava/lang/String;)I"), (19, u "Ljava/lang/String;"), (1, u "SCORE_FORMAT")] 60

def k8c0 : Code := { maxStack := 3, maxLocals := 5, code := prog_14_method_7_code, exceptionTable := #[], attributes := #[] }
def k8m0 : Method := { name := "compareCodePoints", desc := "(Ljava/lang/String;Ljava/lang/String;)I", sig := { parameters := [(.object "java/lang/String"), (.object "java/lang/String")], returnType := some .int }, accessFlags := 8, code := some k8c0 }
def k8c1 : Code := { maxStack := 2, maxLocals := 2, code := prog_14_method_8_code, exceptionTable := #[], attributes := #[] }
def k8m1 : Method := { name := "codePointOrder", desc := "(C)I", sig := { parameters := [.char], returnType := some .int }, accessFlags := 10, code := some k8c1 }
/-- com/example/headings_from_text/headingsfromtext/evaluation/TrecRun -/
def k8 : Class := { plain "com/example/headings_from_text/headingsfromtext/evaluation/TrecRun" (some 0) with
  accessFlags := 33
  interfaces := #[]
  cf := some (fileOf pool8 8 #[] #[{ accessFlags := 8, nameIndex := 222, descriptorIndex := 223, attributes := #[] }, { accessFlags := 10, nameIndex := 180, descriptorIndex := 181, attributes := #[] }] 33 2 #[] #[{ accessFlags := 26, nameIndex := 15, descriptorIndex := 16, attributes := #[] }, { accessFlags := 26, nameIndex := 76, descriptorIndex := 243, attributes := #[] }, { accessFlags := 26, nameIndex := 245, descriptorIndex := 243, attributes := #[] }, { accessFlags := 26, nameIndex := 191, descriptorIndex := 192, attributes := #[] }, { accessFlags := 18, nameIndex := 11, descriptorIndex := 12, attributes := #[] }])
  fields := #[{ name := "LAYOUT", type := (.object "com/example/headings_from_text/headingsfromtext/input/LineLayout"), accessFlags := 26, slot := 0, constantValue := 0 }, { name := "Q0", type := (.object "java/lang/String"), accessFlags := 26, slot := 1, constantValue := 0 }, { name := "SCORE_FORMAT", type := (.object "java/lang/String"), accessFlags := 26, slot := 2, constantValue := 0 }, { name := "SCORE", type := (.object "java/util/regex/Pattern"), accessFlags := 26, slot := 3, constantValue := 0 }, { name := "rankings", type := (.object "java/util/Map"), accessFlags := 18, slot := 0, constantValue := 0 }]
  methods := #[k8m0, k8m1]
  instanceTypes := #[(.object "java/util/Map")]
  staticTypes := #[(.object "com/example/headings_from_text/headingsfromtext/input/LineLayout"), (.object "java/lang/String"), (.object "java/lang/String"), (.object "java/util/regex/Pattern")]
  resolved := Array.replicate 306 none
  statics := none }

def pool9 : Array CpInfo := pool [(1, .class_ 2), (0, u "java/lang/Math"), (1, .class_ 6), (1, u "java/lang/Object"), (0, u "<init>"), (0, u "()V"), (89, .class_ 100), (1, u "java/lang/Math$RandomNumberGeneratorHolder"), (71, u "negativeZeroFloatBits"), (0, u "J"), (2, u "negativeZeroDoubleBits"), (24, u "min"), (43, u "$assertionsDisabled"), (0, u "Z"), (88, u "(II)I"), (2, u "twoToTheDoubleScaleDown"), (0, u "D"), (4, u "twoToTheDoubleScaleUp"), (9, u "E"), (3, u "PI"), (2, u "TAU"), (2, u "DEGREES_TO_RADIANS"), (0, u "RADIANS_TO_DEGREES")] 94

def k9m0 : Method := { name := "<init>", desc := "()V", sig := { parameters := [], returnType := none }, accessFlags := 2, code := none }
def k9c1 : Code := { maxStack := 2, maxLocals := 2, code := jdk_29_method_69_code, exceptionTable := #[], attributes := #[] }
def k9m1 : Method := { name := "min", desc := "(II)I", sig := { parameters := [.int, .int], returnType := some .int }, accessFlags := 9, code := some k9c1 }
/-- java/lang/Math -/
def k9 : Class := { plain "java/lang/Math" (some 0) with
  accessFlags := 49
  interfaces := #[]
  cf := some (fileOf pool9 1 #[.nestMembers #[98]] #[{ accessFlags := 2, nameIndex := 7, descriptorIndex := 8, attributes := #[] }, { accessFlags := 9, nameIndex := 201, descriptorIndex := 335, attributes := #[] }] 49 4 #[] #[{ accessFlags := 25, nameIndex := 354, descriptorIndex := 339, attributes := #[] }, { accessFlags := 25, nameIndex := 358, descriptorIndex := 339, attributes := #[] }, { accessFlags := 25, nameIndex := 361, descriptorIndex := 339, attributes := #[] }, { accessFlags := 26, nameIndex := 364, descriptorIndex := 339, attributes := #[] }, { accessFlags := 26, nameIndex := 365, descriptorIndex := 339, attributes := #[] }, { accessFlags := 26, nameIndex := 172, descriptorIndex := 173, attributes := #[] }, { accessFlags := 26, nameIndex := 176, descriptorIndex := 173, attributes := #[] }, { accessFlags := 8, nameIndex := 344, descriptorIndex := 339, attributes := #[] }, { accessFlags := 8, nameIndex := 338, descriptorIndex := 339, attributes := #[] }, { accessFlags := 4120, nameIndex := 245, descriptorIndex := 246, attributes := #[] }])
  fields := #[{ name := "E", type := .double, accessFlags := 25, slot := 0, constantValue := 0 }, { name := "PI", type := .double, accessFlags := 25, slot := 1, constantValue := 0 }, { name := "TAU", type := .double, accessFlags := 25, slot := 2, constantValue := 0 }, { name := "DEGREES_TO_RADIANS", type := .double, accessFlags := 26, slot := 3, constantValue := 0 }, { name := "RADIANS_TO_DEGREES", type := .double, accessFlags := 26, slot := 4, constantValue := 0 }, { name := "negativeZeroFloatBits", type := .long, accessFlags := 26, slot := 5, constantValue := 0 }, { name := "negativeZeroDoubleBits", type := .long, accessFlags := 26, slot := 6, constantValue := 0 }, { name := "twoToTheDoubleScaleUp", type := .double, accessFlags := 8, slot := 7, constantValue := 0 }, { name := "twoToTheDoubleScaleDown", type := .double, accessFlags := 8, slot := 8, constantValue := 0 }, { name := "$assertionsDisabled", type := .boolean, accessFlags := 4120, slot := 9, constantValue := 0 }]
  methods := #[k9m0, k9m1]
  instanceTypes := #[]
  staticTypes := #[.double, .double, .double, .double, .double, .long, .long, .double, .double, .boolean]
  resolved := Array.replicate 460 none
  statics := none }

def pool10 : Array CpInfo := pool [(2, .class_ 4), (1, u "java/lang/Object"), (0, u "<init>"), (0, u "()V"), (1, .class_ 10), (1, u "java/lang/Number"), (2, .class_ 14), (0, u "java/io/Serializable"), (0, u "serialVersionUID"), (0, u "J")] 20

def k10m0 : Method := { name := "<init>", desc := "()V", sig := { parameters := [], returnType := none }, accessFlags := 1, code := none }
/-- java/lang/Number -/
def k10 : Class := { plain "java/lang/Number" (some 0) with
  accessFlags := 1057
  interfaces := #[2]
  cf := some (fileOf pool10 8 #[] #[{ accessFlags := 1, nameIndex := 5, descriptorIndex := 6, attributes := #[] }] 1057 2 #[13] #[{ accessFlags := 26, nameIndex := 15, descriptorIndex := 16, attributes := #[] }])
  fields := #[{ name := "serialVersionUID", type := .long, accessFlags := 26, slot := 0, constantValue := 0 }]
  methods := #[k10m0]
  instanceTypes := #[]
  staticTypes := #[.long]
  resolved := Array.replicate 37 none
  statics := none }

def pool11 : Array CpInfo := pool [(1, .class_ 2), (0, u "java/lang/Integer"), (16, u "digits"), (0, u "[C"), (39, u "(II)I"), (24, u "DigitOnes"), (0, u "[B"), (2, u "DigitTens"), (99, .class_ 190), (0, u "java/lang/Integer$IntegerCache"), (3, u "I"), (8, .class_ 204), (0, u "java/lang/Number"), (2, u "value"), (53, u "compare"), (40, u "TYPE"), (0, u "Ljava/lang/Class;"), (0, .class_ 305), (0, u "java/lang/Comparable"), (0, .class_ 307), (0, u "java/lang/constant/Constable"), (0, .class_ 309), (0, u "java/lang/constant/ConstantDesc"), (0, u "MIN_VALUE"), (1, u "MAX_VALUE"), (3, u "SIZE"), (1, u "BYTES"), (1, u "serialVersionUID"), (0, u "J")] 131

def k11c0 : Code := { maxStack := 2, maxLocals := 2, code := jdk_33_method_40_code, exceptionTable := #[], attributes := #[] }
def k11m0 : Method := { name := "compare", desc := "(II)I", sig := { parameters := [.int, .int], returnType := some .int }, accessFlags := 9, code := some k11c0 }
/-- java/lang/Integer -/
def k11 : Class := { plain "java/lang/Integer" (some 10) with
  accessFlags := 49
  interfaces := #[3, 5, 6]
  cf := some (fileOf pool11 1 #[.nestMembers #[189]] #[{ accessFlags := 9, nameIndex := 261, descriptorIndex := 60, attributes := #[] }] 49 203 #[304, 306, 308] #[{ accessFlags := 25, nameIndex := 310, descriptorIndex := 194, attributes := #[] }, { accessFlags := 25, nameIndex := 312, descriptorIndex := 194, attributes := #[] }, { accessFlags := 25, nameIndex := 302, descriptorIndex := 303, attributes := #[] }, { accessFlags := 24, nameIndex := 19, descriptorIndex := 20, attributes := #[] }, { accessFlags := 24, nameIndex := 89, descriptorIndex := 86, attributes := #[] }, { accessFlags := 24, nameIndex := 85, descriptorIndex := 86, attributes := #[] }, { accessFlags := 18, nameIndex := 207, descriptorIndex := 194, attributes := #[] }, { accessFlags := 25, nameIndex := 316, descriptorIndex := 194, attributes := #[] }, { accessFlags := 25, nameIndex := 318, descriptorIndex := 194, attributes := #[] }, { accessFlags := 26, nameIndex := 320, descriptorIndex := 321, attributes := #[] }])
  fields := #[{ name := "MIN_VALUE", type := .int, accessFlags := 25, slot := 0, constantValue := 0 }, { name := "MAX_VALUE", type := .int, accessFlags := 25, slot := 1, constantValue := 0 }, { name := "TYPE", type := (.object "java/lang/Class"), accessFlags := 25, slot := 2, constantValue := 0 }, { name := "digits", type := (.array .char), accessFlags := 24, slot := 3, constantValue := 0 }, { name := "DigitTens", type := (.array .byte), accessFlags := 24, slot := 4, constantValue := 0 }, { name := "DigitOnes", type := (.array .byte), accessFlags := 24, slot := 5, constantValue := 0 }, { name := "value", type := .int, accessFlags := 18, slot := 0, constantValue := 0 }, { name := "SIZE", type := .int, accessFlags := 25, slot := 6, constantValue := 0 }, { name := "BYTES", type := .int, accessFlags := 25, slot := 7, constantValue := 0 }, { name := "serialVersionUID", type := .long, accessFlags := 26, slot := 8, constantValue := 0 }]
  methods := #[k11m0]
  instanceTypes := #[.int]
  staticTypes := #[.int, .int, (.object "java/lang/Class"), (.array .char), (.array .byte), (.array .byte), .int, .int, .long]
  resolved := Array.replicate 453 none
  statics := none }

def pool12 : Array CpInfo := pool [(3, .class_ 4), (0, u "java/lang/String"), (1, .class_ 8), (1, u "java/lang/Object"), (0, u "<init>"), (0, u "()V"), (0, .methodref 12 13), (0, .class_ 14), (0, .nameAndType 15 16), (0, u "java/lang/StringUTF16"), (0, u "newBytesLength"), (0, u "(I)I"), (3, .integer 1073741823), (23, .fieldref 12 45), (0, .nameAndType 46 47), (0, u "$assertionsDisabled"), (0, u "Z"), (0, .methodref 12 49), (0, .nameAndType 50 51), (0, u "length"), (0, u "([B)I"), (7, .fieldref 12 60), (0, .nameAndType 61 62), (0, u "HI_BYTE_SHIFT"), (0, u "I"), (0, .fieldref 12 64), (0, .nameAndType 65 62), (0, u "LO_BYTE_SHIFT"), (1, .methodref 12 68), (0, .nameAndType 69 70), (0, u "checkIndex"), (0, u "(I[B)V"), (0, .methodref 12 72), (0, .nameAndType 73 74), (0, u "getChar"), (0, u "([BI)C"), (32, .methodref 12 108), (0, .nameAndType 109 110), (0, u "newBytesFor"), (0, u "(I)[B"), (0, .methodref 12 112), (0, .nameAndType 113 114), (0, u "putChar"), (0, u "([BII)V"), (0, .methodref 12 116), (0, .nameAndType 117 118), (0, u "compress"), (0, u "([CI[BII)I"), (0, .methodref 12 120), (0, .nameAndType 121 122), (0, u "toBytes"), (0, u "([CII)[B"), (138, u "coderFromArrayLen"), (0, u "([BI)B"), (106, .class_ 371), (1, u "java/lang/StringUTF16$LinesSpliterator"), (20, u "charAt"), (21, .methodref 3 415), (0, .nameAndType 69 416), (0, u "(II)V"), (13, u "MAX_LENGTH"), (196, .class_ 628), (0, u "java/lang/StringUTF16$CodePointsSpliterator"), (0, .class_ 630), (0, u "java/lang/StringUTF16$CharsSpliterator")] 4

def k12m0 : Method := { name := "<init>", desc := "()V", sig := { parameters := [], returnType := none }, accessFlags := 0, code := none }
def k12c1 : Code := { maxStack := 1, maxLocals := 1, code := jdk_52_method_2_code, exceptionTable := #[], attributes := #[] }
def k12m1 : Method := { name := "newBytesFor", desc := "(I)[B", sig := { parameters := [.int], returnType := some (.array .byte) }, accessFlags := 9, code := some k12c1 }
def k12c2 : Code := { maxStack := 4, maxLocals := 1, code := jdk_52_method_3_code, exceptionTable := #[], attributes := #[] }
def k12m2 : Method := { name := "newBytesLength", desc := "(I)I", sig := { parameters := [.int], returnType := some .int }, accessFlags := 9, code := some k12c2 }
def k12c3 : Code := { maxStack := 4, maxLocals := 3, code := jdk_52_method_4_code, exceptionTable := #[], attributes := #[] }
def k12m3 : Method := { name := "putChar", desc := "([BII)V", sig := { parameters := [(.array .byte), .int, .int], returnType := none }, accessFlags := 8, code := some k12c3 }
def k12c4 : Code := { maxStack := 3, maxLocals := 2, code := jdk_52_method_5_code, exceptionTable := #[], attributes := #[] }
def k12m4 : Method := { name := "getChar", desc := "([BI)C", sig := { parameters := [(.array .byte), .int], returnType := some .char }, accessFlags := 8, code := some k12c4 }
def k12c5 : Code := { maxStack := 2, maxLocals := 1, code := jdk_52_method_6_code, exceptionTable := #[], attributes := #[] }
def k12m5 : Method := { name := "length", desc := "([B)I", sig := { parameters := [(.array .byte)], returnType := some .int }, accessFlags := 9, code := some k12c5 }
def k12c6 : Code := { maxStack := 4, maxLocals := 5, code := jdk_52_method_14_code, exceptionTable := #[], attributes := #[] }
def k12m6 : Method := { name := "toBytes", desc := "([CII)[B", sig := { parameters := [(.array .char), .int, .int], returnType := some (.array .byte) }, accessFlags := 9, code := some k12c6 }
def k12c7 : Code := { maxStack := 2, maxLocals := 2, code := jdk_52_method_15_code, exceptionTable := #[], attributes := #[] }
def k12m7 : Method := { name := "coderFromArrayLen", desc := "([BI)B", sig := { parameters := [(.array .byte), .int], returnType := some .byte }, accessFlags := 8, code := some k12c7 }
def k12c8 : Code := { maxStack := 5, maxLocals := 6, code := jdk_52_method_16_code, exceptionTable := #[], attributes := #[] }
def k12m8 : Method := { name := "compress", desc := "([CII)[B", sig := { parameters := [(.array .char), .int, .int], returnType := some (.array .byte) }, accessFlags := 9, code := some k12c8 }
def k12c9 : Code := { maxStack := 3, maxLocals := 7, code := jdk_52_method_21_code, exceptionTable := #[], attributes := #[] }
def k12m9 : Method := { name := "compress", desc := "([CI[BII)I", sig := { parameters := [(.array .char), .int, (.array .byte), .int, .int], returnType := some .int }, accessFlags := 9, code := some k12c9 }
def k12c10 : Code := { maxStack := 2, maxLocals := 2, code := jdk_52_method_83_code, exceptionTable := #[], attributes := #[] }
def k12m10 : Method := { name := "charAt", desc := "([BI)C", sig := { parameters := [(.array .byte), .int], returnType := some .char }, accessFlags := 9, code := some k12c10 }
def k12c11 : Code := { maxStack := 2, maxLocals := 2, code := jdk_52_method_91_code, exceptionTable := #[], attributes := #[] }
def k12m11 : Method := { name := "checkIndex", desc := "(I[B)V", sig := { parameters := [.int, (.array .byte)], returnType := none }, accessFlags := 9, code := some k12c11 }
/-- java/lang/StringUTF16 -/
def k12 : Class := { plain "java/lang/StringUTF16" (some 0) with
  accessFlags := 48
  interfaces := #[]
  cf := some (fileOf pool12 12 #[.nestMembers #[627, 629, 369]] #[{ accessFlags := 0, nameIndex := 9, descriptorIndex := 10, attributes := #[] }, { accessFlags := 9, nameIndex := 109, descriptorIndex := 110, attributes := #[] }, { accessFlags := 9, nameIndex := 15, descriptorIndex := 16, attributes := #[] }, { accessFlags := 8, nameIndex := 113, descriptorIndex := 114, attributes := #[] }, { accessFlags := 8, nameIndex := 73, descriptorIndex := 74, attributes := #[] }, { accessFlags := 9, nameIndex := 50, descriptorIndex := 51, attributes := #[] }, { accessFlags := 9, nameIndex := 121, descriptorIndex := 122, attributes := #[] }, { accessFlags := 8, nameIndex := 261, descriptorIndex := 262, attributes := #[] }, { accessFlags := 9, nameIndex := 117, descriptorIndex := 122, attributes := #[] }, { accessFlags := 9, nameIndex := 117, descriptorIndex := 118, attributes := #[] }, { accessFlags := 9, nameIndex := 392, descriptorIndex := 74, attributes := #[] }, { accessFlags := 9, nameIndex := 69, descriptorIndex := 70, attributes := #[] }] 48 6 #[] #[{ accessFlags := 26, nameIndex := 61, descriptorIndex := 62, attributes := #[] }, { accessFlags := 26, nameIndex := 65, descriptorIndex := 62, attributes := #[] }, { accessFlags := 24, nameIndex := 430, descriptorIndex := 62, attributes := #[] }, { accessFlags := 4120, nameIndex := 46, descriptorIndex := 47, attributes := #[] }])
  fields := #[{ name := "HI_BYTE_SHIFT", type := .int, accessFlags := 26, slot := 0, constantValue := 0 }, { name := "LO_BYTE_SHIFT", type := .int, accessFlags := 26, slot := 1, constantValue := 0 }, { name := "MAX_LENGTH", type := .int, accessFlags := 24, slot := 2, constantValue := 0 }, { name := "$assertionsDisabled", type := .boolean, accessFlags := 4120, slot := 3, constantValue := 0 }]
  methods := #[k12m0, k12m1, k12m2, k12m3, k12m4, k12m5, k12m6, k12m7, k12m8, k12m9, k12m10, k12m11]
  instanceTypes := #[]
  staticTypes := #[.int, .int, .int, .boolean]
  resolved := Array.replicate 635 none
  statics := some 1 }

def pool13 : Array CpInfo := pool [(1, .class_ 2), (0, u "java/lang/String"), (1, .class_ 6), (1, u "java/lang/Object"), (0, u "<init>"), (0, u "()V"), (0, .methodref 1 10), (0, .nameAndType 11 12), (0, u "checkIndex"), (0, u "(II)V"), (1, .class_ 16), (1, u "java/lang/StringLatin1"), (36, u "([BI)C"), (67, u "$assertionsDisabled"), (0, u "Z"), (98, .class_ 223), (1, u "java/lang/StringLatin1$LinesSpliterator"), (28, u "charAt"), (137, .class_ 391), (0, u "java/lang/StringLatin1$CharsSpliterator")] 3

def k13m0 : Method := { name := "<init>", desc := "()V", sig := { parameters := [], returnType := none }, accessFlags := 0, code := none }
def k13c1 : Code := { maxStack := 2, maxLocals := 2, code := jdk_43_method_2_code, exceptionTable := #[], attributes := #[] }
def k13m1 : Method := { name := "charAt", desc := "([BI)C", sig := { parameters := [(.array .byte), .int], returnType := some .char }, accessFlags := 9, code := some k13c1 }
/-- java/lang/StringLatin1 -/
def k13 : Class := { plain "java/lang/StringLatin1" (some 0) with
  accessFlags := 48
  interfaces := #[]
  cf := some (fileOf pool13 14 #[.nestMembers #[390, 221]] #[{ accessFlags := 0, nameIndex := 7, descriptorIndex := 8, attributes := #[] }, { accessFlags := 9, nameIndex := 252, descriptorIndex := 53, attributes := #[] }] 48 4 #[] #[{ accessFlags := 4120, nameIndex := 121, descriptorIndex := 122, attributes := #[] }])
  fields := #[{ name := "$assertionsDisabled", type := .boolean, accessFlags := 4120, slot := 0, constantValue := 0 }]
  methods := #[k13m0, k13m1]
  instanceTypes := #[]
  staticTypes := #[.boolean]
  resolved := Array.replicate 395 none
  statics := none }

def pool14 : Array CpInfo := pool [(2, .class_ 4), (1, u "java/lang/Object"), (0, u "<init>"), (0, u "()V"), (17, .class_ 26), (1, u "jdk/internal/util/Preconditions"), (6, u "checkIndex"), (21, .class_ 56), (0, u "jdk/internal/util/Preconditions$4"), (57, .class_ 115), (0, u "jdk/internal/util/Preconditions$1"), (7, u "SIOOBE_FORMATTER"), (0, u "Ljava/util/function/BiFunction;"), (0, .class_ 126), (0, u "jdk/internal/util/Preconditions$2"), (3, u "AIOOBE_FORMATTER"), (0, .class_ 132), (0, u "jdk/internal/util/Preconditions$3"), (3, u "IOOBE_FORMATTER"), (41, u "(IILjava/util/function/BiFunction;)I")] 15

def k14m0 : Method := { name := "<init>", desc := "()V", sig := { parameters := [], returnType := none }, accessFlags := 1, code := none }
def k14c1 : Code := { maxStack := 3, maxLocals := 3, code := jdk_41_method_11_code, exceptionTable := #[], attributes := #[] }
def k14m1 : Method := { name := "checkIndex", desc := "(IILjava/util/function/BiFunction;)I", sig := { parameters := [.int, .int, (.object "java/util/function/BiFunction")], returnType := some .int }, accessFlags := 9, code := some k14c1 }
/-- jdk/internal/util/Preconditions -/
def k14 : Class := { plain "jdk/internal/util/Preconditions" (some 0) with
  accessFlags := 33
  interfaces := #[]
  cf := some (fileOf pool14 24 #[.nestMembers #[55, 131, 125, 114]] #[{ accessFlags := 1, nameIndex := 5, descriptorIndex := 6, attributes := #[] }, { accessFlags := 9, nameIndex := 33, descriptorIndex := 178, attributes := #[] }] 33 2 #[] #[{ accessFlags := 25, nameIndex := 123, descriptorIndex := 124, attributes := #[] }, { accessFlags := 25, nameIndex := 130, descriptorIndex := 124, attributes := #[] }, { accessFlags := 25, nameIndex := 136, descriptorIndex := 124, attributes := #[] }])
  fields := #[{ name := "SIOOBE_FORMATTER", type := (.object "java/util/function/BiFunction"), accessFlags := 25, slot := 0, constantValue := 0 }, { name := "AIOOBE_FORMATTER", type := (.object "java/util/function/BiFunction"), accessFlags := 25, slot := 1, constantValue := 0 }, { name := "IOOBE_FORMATTER", type := (.object "java/util/function/BiFunction"), accessFlags := 25, slot := 2, constantValue := 0 }]
  methods := #[k14m0, k14m1]
  instanceTypes := #[]
  staticTypes := #[(.object "java/util/function/BiFunction"), (.object "java/util/function/BiFunction"), (.object "java/util/function/BiFunction")]
  resolved := Array.replicate 194 none
  statics := some 2 }

def pool15 : Array CpInfo := pool [(1, .class_ 2), (0, u "java/lang/Character"), (18, u "value"), (0, u "C"), (19, .class_ 44), (1, u "java/lang/Object"), (3, .class_ 50), (1, u "java/lang/Character$CharacterCache"), (24, .integer 55296), (1, .integer 57344), (3, u "(C)Z"), (202, u "$assertionsDisabled"), (0, u "Z"), (21, .class_ 309), (1, u "java/lang/Character$UnicodeBlock"), (73, u "TYPE"), (0, u "Ljava/lang/Class;"), (0, .class_ 386), (0, u "java/io/Serializable"), (0, .class_ 388), (0, u "java/lang/Comparable"), (0, .class_ 390), (0, u "java/lang/constant/Constable"), (0, u "MIN_RADIX"), (0, u "I"), (2, u "MAX_RADIX"), (1, u "MIN_VALUE"), (1, u "MAX_VALUE"), (3, u "UNASSIGNED"), (0, u "B"), (0, u "UPPERCASE_LETTER"), (1, u "LOWERCASE_LETTER"), (0, u "TITLECASE_LETTER"), (1, u "MODIFIER_LETTER"), (1, u "OTHER_LETTER"), (1, u "NON_SPACING_MARK"), (1, u "ENCLOSING_MARK"), (1, u "COMBINING_SPACING_MARK"), (1, u "DECIMAL_DIGIT_NUMBER"), (1, u "LETTER_NUMBER"), (1, u "OTHER_NUMBER"), (1, u "SPACE_SEPARATOR"), (1, u "LINE_SEPARATOR"), (1, u "PARAGRAPH_SEPARATOR"), (1, u "CONTROL"), (1, u "FORMAT"), (1, u "PRIVATE_USE"), (1, u "SURROGATE"), (1, u "DASH_PUNCTUATION"), (1, u "START_PUNCTUATION"), (1, u "END_PUNCTUATION"), (1, u "CONNECTOR_PUNCTUATION"), (1, u "OTHER_PUNCTUATION"), (1, u "MATH_SYMBOL"), (1, u "CURRENCY_SYMBOL"), (1, u "MODIFIER_SYMBOL"), (1, u "OTHER_SYMBOL"), (1, u "INITIAL_QUOTE_PUNCTUATION"), (1, u "FINAL_QUOTE_PUNCTUATION"), (1, u "ERROR"), (1, u "DIRECTIONALITY_UNDEFINED"), (0, u "DIRECTIONALITY_LEFT_TO_RIGHT"), (0, u "DIRECTIONALITY_RIGHT_TO_LEFT"), (0, u "DIRECTIONALITY_RIGHT_TO_LEFT_ARABIC"), (0, u "DIRECTIONALITY_EUROPEAN_NUMBER"), (0, u "DIRECTIONALITY_EUROPEAN_NUMBER_SEPARATOR"), (0, u "DIRECTIONALITY_EUROPEAN_NUMBER_TERMINATOR"), (0, u "DIRECTIONALITY_ARABIC_NUMBER"), (0, u "DIRECTIONALITY_COMMON_NUMBER_SEPARATOR"), (0, u "DIRECTIONALITY_NONSPACING_MARK"), (0, u "DIRECTIONALITY_BOUNDARY_NEUTRAL"), (0, u "DIRECTIONALITY_PARAGRAPH_SEPARATOR"), (0, u "DIRECTIONALITY_SEGMENT_SEPARATOR"), (0, u "DIRECTIONALITY_WHITESPACE"), (0, u "DIRECTIONALITY_OTHER_NEUTRALS"), (0, u "DIRECTIONALITY_LEFT_TO_RIGHT_EMBEDDING"), (0, u "DIRECTIONALITY_LEFT_TO_RIGHT_OVERRIDE"), (0, u "DIRECTIONALITY_RIGHT_TO_LEFT_EMBEDDING"), (0, u "DIRECTIONALITY_RIGHT_TO_LEFT_OVERRIDE"), (1, u "DIRECTIONALITY_POP_DIRECTIONAL_FORMAT"), (0, u "DIRECTIONALITY_LEFT_TO_RIGHT_ISOLATE"), (0, u "DIRECTIONALITY_RIGHT_TO_LEFT_ISOLATE"), (0, u "DIRECTIONALITY_FIRST_STRONG_ISOLATE"), (0, u "DIRECTIONALITY_POP_DIRECTIONAL_ISOLATE"), (0, u "MIN_HIGH_SURROGATE"), (0, u "MAX_HIGH_SURROGATE"), (1, u "MIN_LOW_SURROGATE"), (0, u "MAX_LOW_SURROGATE"), (1, u "MIN_SURROGATE"), (0, u "MAX_SURROGATE"), (0, u "MIN_SUPPLEMENTARY_CODE_POINT"), (0, u "MIN_CODE_POINT"), (0, u "MAX_CODE_POINT"), (1, u "serialVersionUID"), (0, u "J"), (2, u "SIZE"), (0, u "BYTES"), (24, u "isSurrogate"), (63, .class_ 596), (0, u "java/lang/Character$UnicodeScript"), (0, .class_ 598), (0, u "java/lang/Character$Subset")] 5

def k15c0 : Code := { maxStack := 2, maxLocals := 1, code := jdk_89_method_16_code, exceptionTable := #[], attributes := #[] }
def k15m0 : Method := { name := "isSurrogate", desc := "(C)Z", sig := { parameters := [.char], returnType := some .boolean }, accessFlags := 9, code := some k15c0 }
/-- java/lang/Character -/
def k15 : Class := { plain "java/lang/Character" (some 0) with
  accessFlags := 49
  interfaces := #[2, 3, 5]
  cf := some (fileOf pool15 1 #[.nestMembers #[48, 595, 307, 597]] #[{ accessFlags := 9, nameIndex := 531, descriptorIndex := 81, attributes := #[] }] 49 42 #[385, 387, 389] #[{ accessFlags := 25, nameIndex := 391, descriptorIndex := 392, attributes := #[] }, { accessFlags := 25, nameIndex := 395, descriptorIndex := 392, attributes := #[] }, { accessFlags := 25, nameIndex := 397, descriptorIndex := 22, attributes := #[] }, { accessFlags := 25, nameIndex := 399, descriptorIndex := 22, attributes := #[] }, { accessFlags := 25, nameIndex := 383, descriptorIndex := 384, attributes := #[] }, { accessFlags := 25, nameIndex := 403, descriptorIndex := 404, attributes := #[] }, { accessFlags := 25, nameIndex := 405, descriptorIndex := 404, attributes := #[] }, { accessFlags := 25, nameIndex := 407, descriptorIndex := 404, attributes := #[] }, { accessFlags := 25, nameIndex := 408, descriptorIndex := 404, attributes := #[] }, { accessFlags := 25, nameIndex := 410, descriptorIndex := 404, attributes := #[] }, { accessFlags := 25, nameIndex := 412, descriptorIndex := 404, attributes := #[] }, { accessFlags := 25, nameIndex := 414, descriptorIndex := 404, attributes := #[] }, { accessFlags := 25, nameIndex := 416, descriptorIndex := 404, attributes := #[] }, { accessFlags := 25, nameIndex := 418, descriptorIndex := 404, attributes := #[] }, { accessFlags := 25, nameIndex := 420, descriptorIndex := 404, attributes := #[] }, { accessFlags := 25, nameIndex := 422, descriptorIndex := 404, attributes := #[] }, { accessFlags := 25, nameIndex := 424, descriptorIndex := 404, attributes := #[] }, { accessFlags := 25, nameIndex := 426, descriptorIndex := 404, attributes := #[] }, { accessFlags := 25, nameIndex := 428, descriptorIndex := 404, attributes := #[] }, { accessFlags := 25, nameIndex := 430, descriptorIndex := 404, attributes := #[] }, { accessFlags := 25, nameIndex := 432, descriptorIndex := 404, attributes := #[] }, { accessFlags := 25, nameIndex := 434, descriptorIndex := 404, attributes := #[] }, { accessFlags := 25, nameIndex := 436, descriptorIndex := 404, attributes := #[] }, { accessFlags := 25, nameIndex := 438, descriptorIndex := 404, attributes := #[] }, { accessFlags := 25, nameIndex := 440, descriptorIndex := 404, attributes := #[] }, { accessFlags := 25, nameIndex := 442, descriptorIndex := 404, attributes := #[] }, { accessFlags := 25, nameIndex := 444, descriptorIndex := 404, attributes := #[] }, { accessFlags := 25, nameIndex := 446, descriptorIndex := 404, attributes := #[] }, { accessFlags := 25, nameIndex := 448, descriptorIndex := 404, attributes := #[] }, { accessFlags := 25, nameIndex := 450, descriptorIndex := 404, attributes := #[] }, { accessFlags := 25, nameIndex := 452, descriptorIndex := 404, attributes := #[] }, { accessFlags := 25, nameIndex := 454, descriptorIndex := 404, attributes := #[] }, { accessFlags := 25, nameIndex := 456, descriptorIndex := 404, attributes := #[] }, { accessFlags := 25, nameIndex := 458, descriptorIndex := 404, attributes := #[] }, { accessFlags := 25, nameIndex := 460, descriptorIndex := 404, attributes := #[] }, { accessFlags := 24, nameIndex := 462, descriptorIndex := 392, attributes := #[] }, { accessFlags := 25, nameIndex := 464, descriptorIndex := 404, attributes := #[] }, { accessFlags := 25, nameIndex := 465, descriptorIndex := 404, attributes := #[] }, { accessFlags := 25, nameIndex := 466, descriptorIndex := 404, attributes := #[] }, { accessFlags := 25, nameIndex := 467, descriptorIndex := 404, attributes := #[] }, { accessFlags := 25, nameIndex := 468, descriptorIndex := 404, attributes := #[] }, { accessFlags := 25, nameIndex := 469, descriptorIndex := 404, attributes := #[] }, { accessFlags := 25, nameIndex := 470, descriptorIndex := 404, attributes := #[] }, { accessFlags := 25, nameIndex := 471, descriptorIndex := 404, attributes := #[] }, { accessFlags := 25, nameIndex := 472, descriptorIndex := 404, attributes := #[] }, { accessFlags := 25, nameIndex := 473, descriptorIndex := 404, attributes := #[] }, { accessFlags := 25, nameIndex := 474, descriptorIndex := 404, attributes := #[] }, { accessFlags := 25, nameIndex := 475, descriptorIndex := 404, attributes := #[] }, { accessFlags := 25, nameIndex := 476, descriptorIndex := 404, attributes := #[] }, { accessFlags := 25, nameIndex := 477, descriptorIndex := 404, attributes := #[] }, { accessFlags := 25, nameIndex := 478, descriptorIndex := 404, attributes := #[] }, { accessFlags := 25, nameIndex := 479, descriptorIndex := 404, attributes := #[] }, { accessFlags := 25, nameIndex := 480, descriptorIndex := 404, attributes := #[] }, { accessFlags := 25, nameIndex := 481, descriptorIndex := 404, attributes := #[] }, { accessFlags := 25, nameIndex := 482, descriptorIndex := 404, attributes := #[] }, { accessFlags := 25, nameIndex := 484, descriptorIndex := 404, attributes := #[] }, { accessFlags := 25, nameIndex := 485, descriptorIndex := 404, attributes := #[] }, { accessFlags := 25, nameIndex := 486, descriptorIndex := 404, attributes := #[] }, { accessFlags := 25, nameIndex := 487, descriptorIndex := 404, attributes := #[] }, { accessFlags := 25, nameIndex := 488, descriptorIndex := 404, attributes := #[] }, { accessFlags := 25, nameIndex := 489, descriptorIndex := 22, attributes := #[] }, { accessFlags := 25, nameIndex := 490, descriptorIndex := 22, attributes := #[] }, { accessFlags := 25, nameIndex := 492, descriptorIndex := 22, attributes := #[] }, { accessFlags := 25, nameIndex := 493, descriptorIndex := 22, attributes := #[] }, { accessFlags := 25, nameIndex := 495, descriptorIndex := 22, attributes := #[] }, { accessFlags := 25, nameIndex := 496, descriptorIndex := 22, attributes := #[] }, { accessFlags := 25, nameIndex := 497, descriptorIndex := 392, attributes := #[] }, { accessFlags := 25, nameIndex := 498, descriptorIndex := 392, attributes := #[] }, { accessFlags := 25, nameIndex := 499, descriptorIndex := 392, attributes := #[] }, { accessFlags := 18, nameIndex := 21, descriptorIndex := 22, attributes := #[] }, { accessFlags := 26, nameIndex := 501, descriptorIndex := 502, attributes := #[] }, { accessFlags := 25, nameIndex := 505, descriptorIndex := 392, attributes := #[] }, { accessFlags := 25, nameIndex := 506, descriptorIndex := 392, attributes := #[] }, { accessFlags := 4120, nameIndex := 284, descriptorIndex := 285, attributes := #[] }])
  fields := #[{ name := "MIN_RADIX", type := .int, accessFlags := 25, slot := 0, constantValue := 0 }, { name := "MAX_RADIX", type := .int, accessFlags := 25, slot := 1, constantValue := 0 }, { name := "MIN_VALUE", type := .char, accessFlags := 25, slot := 2, constantValue := 0 }, { name := "MAX_VALUE", type := .char, accessFlags := 25, slot := 3, constantValue := 0 }, { name := "TYPE", type := (.object "java/lang/Class"), accessFlags := 25, slot := 4, constantValue := 0 }, { name := "UNASSIGNED", type := .byte, accessFlags := 25, slot := 5, constantValue := 0 }, { name := "UPPERCASE_LETTER", type := .byte, accessFlags := 25, slot := 6, constantValue := 0 }, { name := "LOWERCASE_LETTER", type := .byte, accessFlags := 25, slot := 7, constantValue := 0 }, { name := "TITLECASE_LETTER", type := .byte, accessFlags := 25, slot := 8, constantValue := 0 }, { name := "MODIFIER_LETTER", type := .byte, accessFlags := 25, slot := 9, constantValue := 0 }, { name := "OTHER_LETTER", type := .byte, accessFlags := 25, slot := 10, constantValue := 0 }, { name := "NON_SPACING_MARK", type := .byte, accessFlags := 25, slot := 11, constantValue := 0 }, { name := "ENCLOSING_MARK", type := .byte, accessFlags := 25, slot := 12, constantValue := 0 }, { name := "COMBINING_SPACING_MARK", type := .byte, accessFlags := 25, slot := 13, constantValue := 0 }, { name := "DECIMAL_DIGIT_NUMBER", type := .byte, accessFlags := 25, slot := 14, constantValue := 0 }, { name := "LETTER_NUMBER", type := .byte, accessFlags := 25, slot := 15, constantValue := 0 }, { name := "OTHER_NUMBER", type := .byte, accessFlags := 25, slot := 16, constantValue := 0 }, { name := "SPACE_SEPARATOR", type := .byte, accessFlags := 25, slot := 17, constantValue := 0 }, { name := "LINE_SEPARATOR", type := .byte, accessFlags := 25, slot := 18, constantValue := 0 }, { name := "PARAGRAPH_SEPARATOR", type := .byte, accessFlags := 25, slot := 19, constantValue := 0 }, { name := "CONTROL", type := .byte, accessFlags := 25, slot := 20, constantValue := 0 }, { name := "FORMAT", type := .byte, accessFlags := 25, slot := 21, constantValue := 0 }, { name := "PRIVATE_USE", type := .byte, accessFlags := 25, slot := 22, constantValue := 0 }, { name := "SURROGATE", type := .byte, accessFlags := 25, slot := 23, constantValue := 0 }, { name := "DASH_PUNCTUATION", type := .byte, accessFlags := 25, slot := 24, constantValue := 0 }, { name := "START_PUNCTUATION", type := .byte, accessFlags := 25, slot := 25, constantValue := 0 }, { name := "END_PUNCTUATION", type := .byte, accessFlags := 25, slot := 26, constantValue := 0 }, { name := "CONNECTOR_PUNCTUATION", type := .byte, accessFlags := 25, slot := 27, constantValue := 0 }, { name := "OTHER_PUNCTUATION", type := .byte, accessFlags := 25, slot := 28, constantValue := 0 }, { name := "MATH_SYMBOL", type := .byte, accessFlags := 25, slot := 29, constantValue := 0 }, { name := "CURRENCY_SYMBOL", type := .byte, accessFlags := 25, slot := 30, constantValue := 0 }, { name := "MODIFIER_SYMBOL", type := .byte, accessFlags := 25, slot := 31, constantValue := 0 }, { name := "OTHER_SYMBOL", type := .byte, accessFlags := 25, slot := 32, constantValue := 0 }, { name := "INITIAL_QUOTE_PUNCTUATION", type := .byte, accessFlags := 25, slot := 33, constantValue := 0 }, { name := "FINAL_QUOTE_PUNCTUATION", type := .byte, accessFlags := 25, slot := 34, constantValue := 0 }, { name := "ERROR", type := .int, accessFlags := 24, slot := 35, constantValue := 0 }, { name := "DIRECTIONALITY_UNDEFINED", type := .byte, accessFlags := 25, slot := 36, constantValue := 0 }, { name := "DIRECTIONALITY_LEFT_TO_RIGHT", type := .byte, accessFlags := 25, slot := 37, constantValue := 0 }, { name := "DIRECTIONALITY_RIGHT_TO_LEFT", type := .byte, accessFlags := 25, slot := 38, constantValue := 0 }, { name := "DIRECTIONALITY_RIGHT_TO_LEFT_ARABIC", type := .byte, accessFlags := 25, slot := 39, constantValue := 0 }, { name := "DIRECTIONALITY_EUROPEAN_NUMBER", type := .byte, accessFlags := 25, slot := 40, constantValue := 0 }, { name := "DIRECTIONALITY_EUROPEAN_NUMBER_SEPARATOR", type := .byte, accessFlags := 25, slot := 41, constantValue := 0 }, { name := "DIRECTIONALITY_EUROPEAN_NUMBER_TERMINATOR", type := .byte, accessFlags := 25, slot := 42, constantValue := 0 }, { name := "DIRECTIONALITY_ARABIC_NUMBER", type := .byte, accessFlags := 25, slot := 43, constantValue := 0 }, { name := "DIRECTIONALITY_COMMON_NUMBER_SEPARATOR", type := .byte, accessFlags := 25, slot := 44, constantValue := 0 }, { name := "DIRECTIONALITY_NONSPACING_MARK", type := .byte, accessFlags := 25, slot := 45, constantValue := 0 }, { name := "DIRECTIONALITY_BOUNDARY_NEUTRAL", type := .byte, accessFlags := 25, slot := 46, constantValue := 0 }, { name := "DIRECTIONALITY_PARAGRAPH_SEPARATOR", type := .byte, accessFlags := 25, slot := 47, constantValue := 0 }, { name := "DIRECTIONALITY_SEGMENT_SEPARATOR", type := .byte, accessFlags := 25, slot := 48, constantValue := 0 }, { name := "DIRECTIONALITY_WHITESPACE", type := .byte, accessFlags := 25, slot := 49, constantValue := 0 }, { name := "DIRECTIONALITY_OTHER_NEUTRALS", type := .byte, accessFlags := 25, slot := 50, constantValue := 0 }, { name := "DIRECTIONALITY_LEFT_TO_RIGHT_EMBEDDING", type := .byte, accessFlags := 25, slot := 51, constantValue := 0 }, { name := "DIRECTIONALITY_LEFT_TO_RIGHT_OVERRIDE", type := .byte, accessFlags := 25, slot := 52, constantValue := 0 }, { name := "DIRECTIONALITY_RIGHT_TO_LEFT_EMBEDDING", type := .byte, accessFlags := 25, slot := 53, constantValue := 0 }, { name := "DIRECTIONALITY_RIGHT_TO_LEFT_OVERRIDE", type := .byte, accessFlags := 25, slot := 54, constantValue := 0 }, { name := "DIRECTIONALITY_POP_DIRECTIONAL_FORMAT", type := .byte, accessFlags := 25, slot := 55, constantValue := 0 }, { name := "DIRECTIONALITY_LEFT_TO_RIGHT_ISOLATE", type := .byte, accessFlags := 25, slot := 56, constantValue := 0 }, { name := "DIRECTIONALITY_RIGHT_TO_LEFT_ISOLATE", type := .byte, accessFlags := 25, slot := 57, constantValue := 0 }, { name := "DIRECTIONALITY_FIRST_STRONG_ISOLATE", type := .byte, accessFlags := 25, slot := 58, constantValue := 0 }, { name := "DIRECTIONALITY_POP_DIRECTIONAL_ISOLATE", type := .byte, accessFlags := 25, slot := 59, constantValue := 0 }, { name := "MIN_HIGH_SURROGATE", type := .char, accessFlags := 25, slot := 60, constantValue := 0 }, { name := "MAX_HIGH_SURROGATE", type := .char, accessFlags := 25, slot := 61, constantValue := 0 }, { name := "MIN_LOW_SURROGATE", type := .char, accessFlags := 25, slot := 62, constantValue := 0 }, { name := "MAX_LOW_SURROGATE", type := .char, accessFlags := 25, slot := 63, constantValue := 0 }, { name := "MIN_SURROGATE", type := .char, accessFlags := 25, slot := 64, constantValue := 0 }, { name := "MAX_SURROGATE", type := .char, accessFlags := 25, slot := 65, constantValue := 0 }, { name := "MIN_SUPPLEMENTARY_CODE_POINT", type := .int, accessFlags := 25, slot := 66, constantValue := 0 }, { name := "MIN_CODE_POINT", type := .int, accessFlags := 25, slot := 67, constantValue := 0 }, { name := "MAX_CODE_POINT", type := .int, accessFlags := 25, slot := 68, constantValue := 0 }, { name := "value", type := .char, accessFlags := 18, slot := 0, constantValue := 0 }, { name := "serialVersionUID", type := .long, accessFlags := 26, slot := 69, constantValue := 0 }, { name := "SIZE", type := .int, accessFlags := 25, slot := 70, constantValue := 0 }, { name := "BYTES", type := .int, accessFlags := 25, slot := 71, constantValue := 0 }, { name := "$assertionsDisabled", type := .boolean, accessFlags := 4120, slot := 72, constantValue := 0 }]
  methods := #[k15m0]
  instanceTypes := #[.char]
  staticTypes := #[.int, .int, .char, .char, (.object "java/lang/Class"), .byte, .byte, .byte, .byte, .byte, .byte, .byte, .byte, .byte, .byte, .byte, .byte, .byte, .byte, .byte, .byte, .byte, .byte, .byte, .byte, .byte, .byte, .byte, .byte, .byte, .byte, .byte, .byte, .byte, .byte, .int, .byte, .byte, .byte, .byte, .byte, .byte, .byte, .byte, .byte, .byte, .byte, .byte, .byte, .byte, .byte, .byte, .byte, .byte, .byte, .byte, .byte, .byte, .byte, .byte, .char, .char, .char, .char, .char, .char, .int, .int, .int, .long, .int, .int, .boolean]
  resolved := Array.replicate 604 none
  statics := none }

def pool16 : Array CpInfo := pool [(9, u "<init>"), (6, .class_ 18), (1, u "java/lang/Object"), (0, u "()V"), (1, .class_ 23), (1, u "jdk/internal/util/ArraysSupport"), (0, u "LOG2_ARRAY_LONG_INDEX_SCALE"), (0, u "I"), (2, u "U"), (0, u "Ljdk/internal/misc/Unsafe;"), (8, u "BIG_ENDIAN"), (0, u "Z"), (8, u "LOG2_BYTE_BIT_SIZE"), (4, u "LOG2_ARRAY_INT_INDEX_SCALE"), (54, u "JLA"), (0, u "Ljdk/internal/access/JavaLangAccess;"), (11, u "LOG2_ARRAY_BOOLEAN_INDEX_SCALE"), (9, u "LOG2_ARRAY_BYTE_INDEX_SCALE"), (5, u "LOG2_ARRAY_CHAR_INDEX_SCALE"), (5, u "LOG2_ARRAY_SHORT_INDEX_SCALE"), (18, u "LOG2_ARRAY_FLOAT_INDEX_SCALE"), (24, u "LOG2_ARRAY_DOUBLE_INDEX_SCALE"), (89, u "T_BOOLEAN"), (2, u "T_CHAR"), (1, u "T_FLOAT"), (1, u "T_DOUBLE"), (1, u "T_BYTE"), (1, u "T_SHORT"), (1, u "T_INT"), (1, u "T_LONG"), (1, u "SOFT_MAX_ARRAY_LENGTH")] 83

def k16m0 : Method := { name := "<init>", desc := "()V", sig := { parameters := [], returnType := none }, accessFlags := 2, code := none }
/-- jdk/internal/util/ArraysSupport -/
def k16 : Class := { plain "jdk/internal/util/ArraysSupport" (some 0) with
  accessFlags := 33
  interfaces := #[]
  cf := some (fileOf pool16 21 #[] #[{ accessFlags := 2, nameIndex := 9, descriptorIndex := 19, attributes := #[] }] 33 16 #[] #[{ accessFlags := 24, nameIndex := 28, descriptorIndex := 29, attributes := #[] }, { accessFlags := 26, nameIndex := 38, descriptorIndex := 39, attributes := #[] }, { accessFlags := 25, nameIndex := 121, descriptorIndex := 25, attributes := #[] }, { accessFlags := 25, nameIndex := 131, descriptorIndex := 25, attributes := #[] }, { accessFlags := 25, nameIndex := 137, descriptorIndex := 25, attributes := #[] }, { accessFlags := 25, nameIndex := 143, descriptorIndex := 25, attributes := #[] }, { accessFlags := 25, nameIndex := 53, descriptorIndex := 25, attributes := #[] }, { accessFlags := 25, nameIndex := 24, descriptorIndex := 25, attributes := #[] }, { accessFlags := 25, nameIndex := 162, descriptorIndex := 25, attributes := #[] }, { accessFlags := 25, nameIndex := 187, descriptorIndex := 25, attributes := #[] }, { accessFlags := 26, nameIndex := 48, descriptorIndex := 25, attributes := #[] }, { accessFlags := 25, nameIndex := 277, descriptorIndex := 25, attributes := #[] }, { accessFlags := 25, nameIndex := 280, descriptorIndex := 25, attributes := #[] }, { accessFlags := 25, nameIndex := 282, descriptorIndex := 25, attributes := #[] }, { accessFlags := 25, nameIndex := 284, descriptorIndex := 25, attributes := #[] }, { accessFlags := 25, nameIndex := 286, descriptorIndex := 25, attributes := #[] }, { accessFlags := 25, nameIndex := 288, descriptorIndex := 25, attributes := #[] }, { accessFlags := 25, nameIndex := 290, descriptorIndex := 25, attributes := #[] }, { accessFlags := 25, nameIndex := 292, descriptorIndex := 25, attributes := #[] }, { accessFlags := 26, nameIndex := 108, descriptorIndex := 109, attributes := #[] }, { accessFlags := 25, nameIndex := 294, descriptorIndex := 25, attributes := #[] }])
  fields := #[{ name := "U", type := (.object "jdk/internal/misc/Unsafe"), accessFlags := 24, slot := 0, constantValue := 0 }, { name := "BIG_ENDIAN", type := .boolean, accessFlags := 26, slot := 1, constantValue := 0 }, { name := "LOG2_ARRAY_BOOLEAN_INDEX_SCALE", type := .int, accessFlags := 25, slot := 2, constantValue := 0 }, { name := "LOG2_ARRAY_BYTE_INDEX_SCALE", type := .int, accessFlags := 25, slot := 3, constantValue := 0 }, { name := "LOG2_ARRAY_CHAR_INDEX_SCALE", type := .int, accessFlags := 25, slot := 4, constantValue := 0 }, { name := "LOG2_ARRAY_SHORT_INDEX_SCALE", type := .int, accessFlags := 25, slot := 5, constantValue := 0 }, { name := "LOG2_ARRAY_INT_INDEX_SCALE", type := .int, accessFlags := 25, slot := 6, constantValue := 0 }, { name := "LOG2_ARRAY_LONG_INDEX_SCALE", type := .int, accessFlags := 25, slot := 7, constantValue := 0 }, { name := "LOG2_ARRAY_FLOAT_INDEX_SCALE", type := .int, accessFlags := 25, slot := 8, constantValue := 0 }, { name := "LOG2_ARRAY_DOUBLE_INDEX_SCALE", type := .int, accessFlags := 25, slot := 9, constantValue := 0 }, { name := "LOG2_BYTE_BIT_SIZE", type := .int, accessFlags := 26, slot := 10, constantValue := 0 }, { name := "T_BOOLEAN", type := .int, accessFlags := 25, slot := 11, constantValue := 0 }, { name := "T_CHAR", type := .int, accessFlags := 25, slot := 12, constantValue := 0 }, { name := "T_FLOAT", type := .int, accessFlags := 25, slot := 13, constantValue := 0 }, { name := "T_DOUBLE", type := .int, accessFlags := 25, slot := 14, constantValue := 0 }, { name := "T_BYTE", type := .int, accessFlags := 25, slot := 15, constantValue := 0 }, { name := "T_SHORT", type := .int, accessFlags := 25, slot := 16, constantValue := 0 }, { name := "T_INT", type := .int, accessFlags := 25, slot := 17, constantValue := 0 }, { name := "T_LONG", type := .int, accessFlags := 25, slot := 18, constantValue := 0 }, { name := "JLA", type := (.object "jdk/internal/access/JavaLangAccess"), accessFlags := 26, slot := 19, constantValue := 0 }, { name := "SOFT_MAX_ARRAY_LENGTH", type := .int, accessFlags := 25, slot := 20, constantValue := 0 }]
  methods := #[k16m0]
  instanceTypes := #[]
  staticTypes := #[(.object "jdk/internal/misc/Unsafe"), .boolean, .int, .int, .int, .int, .int, .int, .int, .int, .int, .int, .int, .int, .int, .int, .int, .int, .int, (.object "jdk/internal/access/JavaLangAccess"), .int]
  resolved := Array.replicate 378 none
  statics := none }

def pool17 : Array CpInfo := pool [(1, u "java/lang/Cloneable"), (0, .class_ 1), (0, u "java/lang/Object"), (0, .class_ 3)] 3

/-- java/lang/Cloneable -/
def k17 : Class := { plain "java/lang/Cloneable" (some 0) with
  accessFlags := 1537
  interfaces := #[]
  cf := some (fileOf pool17 2 #[] #[] 1537 4 #[] #[])
  fields := #[]
  methods := #[]
  instanceTypes := #[]
  staticTypes := #[]
  resolved := Array.replicate 8 none
  statics := none }

/-- the primitive byte -/
def k18 : Class := { plain "byte" none with kind := .primitive 'B', accessFlags := 0x411 }
/-- [B -/
def k19 : Class := { plain "[B" (some 0) with kind := .array 18 .byte, interfaces := #[17, 2], accessFlags := 1041 }

/-- the primitive char -/
def k20 : Class := { plain "char" none with kind := .primitive 'C', accessFlags := 0x411 }
/-- [C -/
def k21 : Class := { plain "[C" (some 0) with kind := .array 20 .char, interfaces := #[17, 2], accessFlags := 1041 }

/-- the primitive int -/
def k22 : Class := { plain "int" none with kind := .primitive 'I', accessFlags := 0x411 }
/-- [I -/
def k23 : Class := { plain "[I" (some 0) with kind := .array 22 .int, interfaces := #[17, 2], accessFlags := 1041 }

def heap : Heap := #[{ cls := 7, slots := #[.long 0, .int 1, .null, .int 0, .null, .int 0, .int 0], vm := .statics 7 },
  { cls := 12, slots := #[.int 0, .int 8, .int 0, .int 1], vm := .statics 12 },
  { cls := 14, slots := #[.null, .null, .null], vm := .statics 14 }]
def classes : Array Class := #[k0, k1, k2, k3, k4, k5, k6, k7, k8, k9, k10, k11, k12, k13, k14, k15, k16, k17, k18, k19, k20, k21, k22, k23]
def interned : List (Array UInt16 × Addr) := []
def slotsUsed : Nat := 14
def theMethod : MethodId := ⟨1, 1⟩
def args0 : Array Value := #[.int 1, .int 5, .int 9, .int 13, .int 21]
def aboutOver (below : List Frame) : State where
  vm := { classes := classes, interned := interned.toArray }
  heap := heap
  slotsUsed := slotsUsed
  threads := #[{ frames := .invoking theMethod args0 :: below }]
def below0 : List Frame := [.native { method := ⟨0, 0⟩, args := #[] }]
def about1 : State := aboutOver below0
def p0 : Program := .bare "" "" ""
def e0 : Env := launch0.env 0 0 0
theorem w_frames : about1.frames = Frame.invoking theMethod args0 :: below0 := rfl
set_option maxRecDepth 65536 in
theorem w_args : argsFit about1.vm theMethod args0 = true := by decide +kernel
set_option maxRecDepth 65536 in
theorem w_heap : heapFits about1 = true := by decide +kernel
set_option maxRecDepth 65536 in
theorem w_runnable : about1.curStatus? = some .runnable := by decide +kernel
set_option maxRecDepth 65536 in
theorem w_alone : about1.alone = true := by decide +kernel
set_option maxRecDepth 65536 in
theorem w_named : about1.methodNamed? x = some theMethod := by decide +kernel
set_option maxRecDepth 65536 in
theorem w_hears : about1.hears theMethod below0 = true := by decide +kernel
set_option maxRecDepth 65536 in
theorem w_ripe : about1.ripe theMethod args0 below0 = true := by decide +kernel
theorem w_running : about1.status = .running := rfl
set_option maxRecDepth 65536 in
theorem w_room : about1.hasRoom e0.platform room_1 = true :=
  launch0.hasRoom_least _ room_1 (by decide +kernel) (by decide +kernel) (by decide +kernel) (by decide +kernel) (by decide +kernel) (by decide +kernel)
theorem allAtoms_all (ts : List Jvm.Cond) (a : Array Jvm.Value) (st : Jvm.State) : (allAtoms ts).before a st = ts.all (fun c => c.before a st) := by
  induction ts with
  | nil => rfl
  | cons c t ih =>
    show (Jvm.Cond.and c (allAtoms t)).before a st = _
    rw [Jvm.Cond.before_and, ih, List.all_cons]
def words1 : List Jvm.Cond := Jvm.Cond.code x code maxLocals ret :: tables_1
/-- a 'code' word, met by the world's own term for the bytes: nothing is compared byte by byte -/
theorem code_word {y : MethodName} {bytes : ByteArray} {mx : Nat} {rt : Option FieldType} {a : Array Value} {s : State} {m : MethodId} {meth : Method} {c : Code} (h1 : s.methodNamed? y = some m) (h2 : s.vm.method? m = some meth) (h3 : meth.code = some c) (h4 : c.code = bytes)
    (h5 : (c.maxLocals == mx && c.exceptionTable.isEmpty && decide (c.maxStack ≤ mostOperands) && decide (meth.sig.returnType = rt) && !meth.locks && decide (parseMethodDescriptor y.desc = some meth.sig)) = true) : (Jvm.Cond.code y bytes mx rt).before a s = true := by
  simp only [Bool.and_eq_true, beq_iff_eq, Bool.not_eq_true', decide_eq_true_eq] at h5
  obtain ⟨⟨⟨⟨⟨g1, g2⟩, g3⟩, g4⟩, g5⟩, g6⟩ := h5
  simp [Cond.before, Cond.holds, Cond.value, h1, h2, h3, h4, g1, g2, g3, g4, g5, g6]
def isCode : Jvm.Cond → Bool
  | .code _ _ _ _ => true
  | _ => false
theorem all_split {L : List Jvm.Cond} {P : Jvm.Cond → Bool} (h1 : L.all (fun c => isCode c || P c) = true) (h2 : ∀ c ∈ L.filter isCode, P c = true) : L.all P = true := by
  refine List.all_eq_true.mpr fun c hc => ?_
  have h := List.all_eq_true.mp h1 c hc
  rcases Bool.eq_false_or_eq_true (isCode c) with hi | hi
  · exact h2 c (List.mem_filter.mpr ⟨hc, hi⟩)
  · simpa [hi] using h
set_option maxRecDepth 65536 in
theorem w_c0 : (Jvm.Cond.code x code maxLocals ret).before args0 about1 = true := code_word (m := ⟨1, 1⟩) (meth := k1m1) (c := k1c1) (by decide +kernel) rfl rfl rfl (by decide +kernel)
set_option maxRecDepth 65536 in
theorem w_c1 : (Jvm.Cond.code ({ cls := "com/example/headings_from_text/headingsfromtext/evaluation/TrecRunCompareCodePointsPinLaw", name := "codePoint", desc := "(I)I" } : Jvm.MethodName) method_3_code (4 : Nat) (Option.some Jvm.ClassFile.FieldType.int)).before args0 about1 = true := code_word (m := ⟨1, 2⟩) (meth := k1m2) (c := k1c2) (by decide +kernel) rfl rfl rfl (by decide +kernel)
set_option maxRecDepth 65536 in
theorem w_c2 : (Jvm.Cond.code ({ cls := "com/example/headings_from_text/headingsfromtext/evaluation/TrecRunCompareCodePointsPinLaw", name := "partner", desc := "(III)I" } : Jvm.MethodName) method_4_code (4 : Nat) (Option.some Jvm.ClassFile.FieldType.int)).before args0 about1 = true := code_word (m := ⟨1, 3⟩) (meth := k1m3) (c := k1c3) (by decide +kernel) rfl rfl rfl (by decide +kernel)
set_option maxRecDepth 65536 in
theorem w_c3 : (Jvm.Cond.code ({ cls := "com/example/headings_from_text/headingsfromtext/evaluation/TrecRunCompareCodePointsPinLaw", name := "text", desc := "([CI)Ljava/lang/String;" } : Jvm.MethodName) method_6_code (3 : Nat) (Option.some (Jvm.ClassFile.FieldType.object "java/lang/String"))).before args0 about1 = true := code_word (m := ⟨1, 5⟩) (meth := k1m5) (c := k1c5) (by decide +kernel) rfl rfl rfl (by decide +kernel)
set_option maxRecDepth 65536 in
theorem w_c4 : (Jvm.Cond.code ({ cls := "java/lang/String", name := "<init>", desc := "([C)V" } : Jvm.MethodName) jdk_42_method_3_code (2 : Nat) (Option.none : Option Jvm.ClassFile.FieldType)).before args0 about1 = true := code_word (m := ⟨7, 1⟩) (meth := k7m1) (c := k7c1) (by decide +kernel) rfl rfl rfl (by decide +kernel)
set_option maxRecDepth 65536 in
theorem w_c5 : (Jvm.Cond.code ({ cls := "java/lang/String", name := "<init>", desc := "([CIILjava/lang/Void;)V" } : Jvm.MethodName) jdk_42_method_149_code (6 : Nat) (Option.none : Option Jvm.ClassFile.FieldType)).before args0 about1 = true := code_word (m := ⟨7, 4⟩) (meth := k7m4) (c := k7c4) (by decide +kernel) rfl rfl rfl (by decide +kernel)
set_option maxRecDepth 65536 in
theorem w_c6 : (Jvm.Cond.code ({ cls := "java/lang/Object", name := "<init>", desc := "()V" } : Jvm.MethodName) object_method_1_code (1 : Nat) (Option.none : Option Jvm.ClassFile.FieldType)).before args0 about1 = true := code_word (m := ⟨0, 0⟩) (meth := k0m0) (c := k0c0) (by decide +kernel) rfl rfl rfl (by decide +kernel)
set_option maxRecDepth 65536 in
theorem w_c7 : (Jvm.Cond.code ({ cls := "com/example/headings_from_text/headingsfromtext/evaluation/TrecRun", name := "compareCodePoints", desc := "(Ljava/lang/String;Ljava/lang/String;)I" } : Jvm.MethodName) prog_14_method_7_code (5 : Nat) (Option.some Jvm.ClassFile.FieldType.int)).before args0 about1 = true := code_word (m := ⟨8, 0⟩) (meth := k8m0) (c := k8c0) (by decide +kernel) rfl rfl rfl (by decide +kernel)
set_option maxRecDepth 65536 in
theorem w_c8 : (Jvm.Cond.code ({ cls := "java/lang/String", name := "length", desc := "()I" } : Jvm.MethodName) jdk_42_method_54_code (1 : Nat) (Option.some Jvm.ClassFile.FieldType.int)).before args0 about1 = true := code_word (m := ⟨7, 2⟩) (meth := k7m2) (c := k7c2) (by decide +kernel) rfl rfl rfl (by decide +kernel)
set_option maxRecDepth 65536 in
theorem w_c9 : (Jvm.Cond.code ({ cls := "java/lang/String", name := "coder", desc := "()B" } : Jvm.MethodName) jdk_42_method_152_code (1 : Nat) (Option.some Jvm.ClassFile.FieldType.byte)).before args0 about1 = true := code_word (m := ⟨7, 5⟩) (meth := k7m5) (c := k7c5) (by decide +kernel) rfl rfl rfl (by decide +kernel)
set_option maxRecDepth 65536 in
theorem w_c10 : (Jvm.Cond.code ({ cls := "java/lang/Math", name := "min", desc := "(II)I" } : Jvm.MethodName) jdk_29_method_69_code (2 : Nat) (Option.some Jvm.ClassFile.FieldType.int)).before args0 about1 = true := code_word (m := ⟨9, 1⟩) (meth := k9m1) (c := k9c1) (by decide +kernel) rfl rfl rfl (by decide +kernel)
set_option maxRecDepth 65536 in
theorem w_c11 : (Jvm.Cond.code ({ cls := "java/lang/Integer", name := "compare", desc := "(II)I" } : Jvm.MethodName) jdk_33_method_40_code (2 : Nat) (Option.some Jvm.ClassFile.FieldType.int)).before args0 about1 = true := code_word (m := ⟨11, 0⟩) (meth := k11m0) (c := k11c0) (by decide +kernel) rfl rfl rfl (by decide +kernel)
set_option maxRecDepth 65536 in
theorem w_c12 : (Jvm.Cond.code ({ cls := "com/example/headings_from_text/headingsfromtext/evaluation/TrecRunCompareCodePointsPinLaw", name := "reference", desc := "(IIIIII)I" } : Jvm.MethodName) method_9_code (7 : Nat) (Option.some Jvm.ClassFile.FieldType.int)).before args0 about1 = true := code_word (m := ⟨1, 8⟩) (meth := k1m8) (c := k1c8) (by decide +kernel) rfl rfl rfl (by decide +kernel)
set_option maxRecDepth 65536 in
theorem w_c13 : (Jvm.Cond.code ({ cls := "com/example/headings_from_text/headingsfromtext/evaluation/TrecRunCompareCodePointsPinLaw", name := "cmp", desc := "(II)I" } : Jvm.MethodName) method_7_code (3 : Nat) (Option.some Jvm.ClassFile.FieldType.int)).before args0 about1 = true := code_word (m := ⟨1, 6⟩) (meth := k1m6) (c := k1c6) (by decide +kernel) rfl rfl rfl (by decide +kernel)
set_option maxRecDepth 65536 in
theorem w_c14 : (Jvm.Cond.code ({ cls := "com/example/headings_from_text/headingsfromtext/evaluation/TrecRunCompareCodePointsPinLaw", name := "sign", desc := "(I)I" } : Jvm.MethodName) method_8_code (2 : Nat) (Option.some Jvm.ClassFile.FieldType.int)).before args0 about1 = true := code_word (m := ⟨1, 7⟩) (meth := k1m7) (c := k1c7) (by decide +kernel) rfl rfl rfl (by decide +kernel)
set_option maxRecDepth 65536 in
theorem w_c15 : (Jvm.Cond.code ({ cls := "com/example/headings_from_text/headingsfromtext/evaluation/TrecRunCompareCodePointsPinLaw", name := "put", desc := "([CII)I" } : Jvm.MethodName) method_5_code (5 : Nat) (Option.some Jvm.ClassFile.FieldType.int)).before args0 about1 = true := code_word (m := ⟨1, 4⟩) (meth := k1m4) (c := k1c4) (by decide +kernel) rfl rfl rfl (by decide +kernel)
set_option maxRecDepth 65536 in
theorem w_c16 : (Jvm.Cond.code ({ cls := "java/lang/StringUTF16", name := "compress", desc := "([CII)[B" } : Jvm.MethodName) jdk_52_method_16_code (6 : Nat) (Option.some (Jvm.ClassFile.FieldType.array Jvm.ClassFile.FieldType.byte))).before args0 about1 = true := code_word (m := ⟨12, 8⟩) (meth := k12m8) (c := k12c8) (by decide +kernel) rfl rfl rfl (by decide +kernel)
set_option maxRecDepth 65536 in
theorem w_c17 : (Jvm.Cond.code ({ cls := "java/lang/StringUTF16", name := "compress", desc := "([CI[BII)I" } : Jvm.MethodName) jdk_52_method_21_code (7 : Nat) (Option.some Jvm.ClassFile.FieldType.int)).before args0 about1 = true := code_word (m := ⟨12, 9⟩) (meth := k12m9) (c := k12c9) (by decide +kernel) rfl rfl rfl (by decide +kernel)
set_option maxRecDepth 65536 in
theorem w_c18 : (Jvm.Cond.code ({ cls := "java/lang/StringUTF16", name := "toBytes", desc := "([CII)[B" } : Jvm.MethodName) jdk_52_method_14_code (5 : Nat) (Option.some (Jvm.ClassFile.FieldType.array Jvm.ClassFile.FieldType.byte))).before args0 about1 = true := code_word (m := ⟨12, 6⟩) (meth := k12m6) (c := k12c6) (by decide +kernel) rfl rfl rfl (by decide +kernel)
set_option maxRecDepth 65536 in
theorem w_c19 : (Jvm.Cond.code ({ cls := "java/lang/StringUTF16", name := "newBytesFor", desc := "(I)[B" } : Jvm.MethodName) jdk_52_method_2_code (1 : Nat) (Option.some (Jvm.ClassFile.FieldType.array Jvm.ClassFile.FieldType.byte))).before args0 about1 = true := code_word (m := ⟨12, 1⟩) (meth := k12m1) (c := k12c1) (by decide +kernel) rfl rfl rfl (by decide +kernel)
set_option maxRecDepth 65536 in
theorem w_c20 : (Jvm.Cond.code ({ cls := "java/lang/StringUTF16", name := "newBytesLength", desc := "(I)I" } : Jvm.MethodName) jdk_52_method_3_code (1 : Nat) (Option.some Jvm.ClassFile.FieldType.int)).before args0 about1 = true := code_word (m := ⟨12, 2⟩) (meth := k12m2) (c := k12c2) (by decide +kernel) rfl rfl rfl (by decide +kernel)
set_option maxRecDepth 65536 in
theorem w_c21 : (Jvm.Cond.code ({ cls := "java/lang/StringUTF16", name := "putChar", desc := "([BII)V" } : Jvm.MethodName) jdk_52_method_4_code (3 : Nat) (Option.none : Option Jvm.ClassFile.FieldType)).before args0 about1 = true := code_word (m := ⟨12, 3⟩) (meth := k12m3) (c := k12c3) (by decide +kernel) rfl rfl rfl (by decide +kernel)
set_option maxRecDepth 65536 in
theorem w_c22 : (Jvm.Cond.code ({ cls := "java/lang/StringUTF16", name := "getChar", desc := "([BI)C" } : Jvm.MethodName) jdk_52_method_5_code (2 : Nat) (Option.some Jvm.ClassFile.FieldType.char)).before args0 about1 = true := code_word (m := ⟨12, 4⟩) (meth := k12m4) (c := k12c4) (by decide +kernel) rfl rfl rfl (by decide +kernel)
set_option maxRecDepth 65536 in
theorem w_c23 : (Jvm.Cond.code ({ cls := "java/lang/StringUTF16", name := "coderFromArrayLen", desc := "([BI)B" } : Jvm.MethodName) jdk_52_method_15_code (2 : Nat) (Option.some Jvm.ClassFile.FieldType.byte)).before args0 about1 = true := code_word (m := ⟨12, 7⟩) (meth := k12m7) (c := k12c7) (by decide +kernel) rfl rfl rfl (by decide +kernel)
set_option maxRecDepth 65536 in
theorem w_c24 : (Jvm.Cond.code ({ cls := "java/lang/String", name := "charAt", desc := "(I)C" } : Jvm.MethodName) jdk_42_method_56_code (2 : Nat) (Option.some Jvm.ClassFile.FieldType.char)).before args0 about1 = true := code_word (m := ⟨7, 3⟩) (meth := k7m3) (c := k7c3) (by decide +kernel) rfl rfl rfl (by decide +kernel)
set_option maxRecDepth 65536 in
theorem w_c25 : (Jvm.Cond.code ({ cls := "java/lang/String", name := "isLatin1", desc := "()Z" } : Jvm.MethodName) jdk_42_method_154_code (1 : Nat) (Option.some Jvm.ClassFile.FieldType.boolean)).before args0 about1 = true := code_word (m := ⟨7, 6⟩) (meth := k7m6) (c := k7c6) (by decide +kernel) rfl rfl rfl (by decide +kernel)
set_option maxRecDepth 65536 in
theorem w_c26 : (Jvm.Cond.code ({ cls := "java/lang/StringLatin1", name := "charAt", desc := "([BI)C" } : Jvm.MethodName) jdk_43_method_2_code (2 : Nat) (Option.some Jvm.ClassFile.FieldType.char)).before args0 about1 = true := code_word (m := ⟨13, 1⟩) (meth := k13m1) (c := k13c1) (by decide +kernel) rfl rfl rfl (by decide +kernel)
set_option maxRecDepth 65536 in
theorem w_c27 : (Jvm.Cond.code ({ cls := "java/lang/String", name := "checkIndex", desc := "(II)V" } : Jvm.MethodName) jdk_42_method_155_code (2 : Nat) (Option.none : Option Jvm.ClassFile.FieldType)).before args0 about1 = true := code_word (m := ⟨7, 7⟩) (meth := k7m7) (c := k7c7) (by decide +kernel) rfl rfl rfl (by decide +kernel)
set_option maxRecDepth 65536 in
theorem w_c28 : (Jvm.Cond.code ({ cls := "jdk/internal/util/Preconditions", name := "checkIndex", desc := "(IILjava/util/function/BiFunction;)I" } : Jvm.MethodName) jdk_41_method_11_code (3 : Nat) (Option.some Jvm.ClassFile.FieldType.int)).before args0 about1 = true := code_word (m := ⟨14, 1⟩) (meth := k14m1) (c := k14c1) (by decide +kernel) rfl rfl rfl (by decide +kernel)
set_option maxRecDepth 65536 in
theorem w_c29 : (Jvm.Cond.code ({ cls := "java/lang/StringUTF16", name := "charAt", desc := "([BI)C" } : Jvm.MethodName) jdk_52_method_83_code (2 : Nat) (Option.some Jvm.ClassFile.FieldType.char)).before args0 about1 = true := code_word (m := ⟨12, 10⟩) (meth := k12m10) (c := k12c10) (by decide +kernel) rfl rfl rfl (by decide +kernel)
set_option maxRecDepth 65536 in
theorem w_c30 : (Jvm.Cond.code ({ cls := "java/lang/StringUTF16", name := "checkIndex", desc := "(I[B)V" } : Jvm.MethodName) jdk_52_method_91_code (2 : Nat) (Option.none : Option Jvm.ClassFile.FieldType)).before args0 about1 = true := code_word (m := ⟨12, 11⟩) (meth := k12m11) (c := k12c11) (by decide +kernel) rfl rfl rfl (by decide +kernel)
set_option maxRecDepth 65536 in
theorem w_c31 : (Jvm.Cond.code ({ cls := "java/lang/StringUTF16", name := "length", desc := "([B)I" } : Jvm.MethodName) jdk_52_method_6_code (1 : Nat) (Option.some Jvm.ClassFile.FieldType.int)).before args0 about1 = true := code_word (m := ⟨12, 5⟩) (meth := k12m5) (c := k12c5) (by decide +kernel) rfl rfl rfl (by decide +kernel)
set_option maxRecDepth 65536 in
theorem w_c32 : (Jvm.Cond.code ({ cls := "com/example/headings_from_text/headingsfromtext/evaluation/TrecRun", name := "codePointOrder", desc := "(C)I" } : Jvm.MethodName) prog_14_method_8_code (2 : Nat) (Option.some Jvm.ClassFile.FieldType.int)).before args0 about1 = true := code_word (m := ⟨8, 1⟩) (meth := k8m1) (c := k8c1) (by decide +kernel) rfl rfl rfl (by decide +kernel)
set_option maxRecDepth 65536 in
theorem w_c33 : (Jvm.Cond.code ({ cls := "java/lang/Character", name := "isSurrogate", desc := "(C)Z" } : Jvm.MethodName) jdk_89_method_16_code (1 : Nat) (Option.some Jvm.ClassFile.FieldType.boolean)).before args0 about1 = true := code_word (m := ⟨15, 0⟩) (meth := k15m0) (c := k15c0) (by decide +kernel) rfl rfl rfl (by decide +kernel)
def codes1 : List Jvm.Cond := [Jvm.Cond.code x code maxLocals ret, Jvm.Cond.code ({ cls := "com/example/headings_from_text/headingsfromtext/evaluation/TrecRunCompareCodePointsPinLaw", name := "codePoint", desc := "(I)I" } : Jvm.MethodName) method_3_code (4 : Nat) (Option.some Jvm.ClassFile.FieldType.int), Jvm.Cond.code ({ cls := "com/example/headings_from_text/headingsfromtext/evaluation/TrecRunCompareCodePointsPinLaw", name := "partner", desc := "(III)I" } : Jvm.MethodName) method_4_code (4 : Nat) (Option.some Jvm.ClassFile.FieldType.int), Jvm.Cond.code ({ cls := "com/example/headings_from_text/headingsfromtext/evaluation/TrecRunCompareCodePointsPinLaw", name := "text", desc := "([CI)Ljava/lang/String;" } : Jvm.MethodName) method_6_code (3 : Nat) (Option.some (Jvm.ClassFile.FieldType.object "java/lang/String")), Jvm.Cond.code ({ cls := "java/lang/String", name := "<init>", desc := "([C)V" } : Jvm.MethodName) jdk_42_method_3_code (2 : Nat) (Option.none : Option Jvm.ClassFile.FieldType), Jvm.Cond.code ({ cls := "java/lang/String", name := "<init>", desc := "([CIILjava/lang/Void;)V" } : Jvm.MethodName) jdk_42_method_149_code (6 : Nat) (Option.none : Option Jvm.ClassFile.FieldType), Jvm.Cond.code ({ cls := "java/lang/Object", name := "<init>", desc := "()V" } : Jvm.MethodName) object_method_1_code (1 : Nat) (Option.none : Option Jvm.ClassFile.FieldType), Jvm.Cond.code ({ cls := "com/example/headings_from_text/headingsfromtext/evaluation/TrecRun", name := "compareCodePoints", desc := "(Ljava/lang/String;Ljava/lang/String;)I" } : Jvm.MethodName) prog_14_method_7_code (5 : Nat) (Option.some Jvm.ClassFile.FieldType.int), Jvm.Cond.code ({ cls := "java/lang/String", name := "length", desc := "()I" } : Jvm.MethodName) jdk_42_method_54_code (1 : Nat) (Option.some Jvm.ClassFile.FieldType.int), Jvm.Cond.code ({ cls := "java/lang/String", name := "coder", desc := "()B" } : Jvm.MethodName) jdk_42_method_152_code (1 : Nat) (Option.some Jvm.ClassFile.FieldType.byte), Jvm.Cond.code ({ cls := "java/lang/Math", name := "min", desc := "(II)I" } : Jvm.MethodName) jdk_29_method_69_code (2 : Nat) (Option.some Jvm.ClassFile.FieldType.int), Jvm.Cond.code ({ cls := "java/lang/Integer", name := "compare", desc := "(II)I" } : Jvm.MethodName) jdk_33_method_40_code (2 : Nat) (Option.some Jvm.ClassFile.FieldType.int), Jvm.Cond.code ({ cls := "com/example/headings_from_text/headingsfromtext/evaluation/TrecRunCompareCodePointsPinLaw", name := "reference", desc := "(IIIIII)I" } : Jvm.MethodName) method_9_code (7 : Nat) (Option.some Jvm.ClassFile.FieldType.int), Jvm.Cond.code ({ cls := "com/example/headings_from_text/headingsfromtext/evaluation/TrecRunCompareCodePointsPinLaw", name := "cmp", desc := "(II)I" } : Jvm.MethodName) method_7_code (3 : Nat) (Option.some Jvm.ClassFile.FieldType.int), Jvm.Cond.code ({ cls := "com/example/headings_from_text/headingsfromtext/evaluation/TrecRunCompareCodePointsPinLaw", name := "sign", desc := "(I)I" } : Jvm.MethodName) method_8_code (2 : Nat) (Option.some Jvm.ClassFile.FieldType.int), Jvm.Cond.code ({ cls := "com/example/headings_from_text/headingsfromtext/evaluation/TrecRunCompareCodePointsPinLaw", name := "put", desc := "([CII)I" } : Jvm.MethodName) method_5_code (5 : Nat) (Option.some Jvm.ClassFile.FieldType.int), Jvm.Cond.code ({ cls := "java/lang/StringUTF16", name := "compress", desc := "([CII)[B" } : Jvm.MethodName) jdk_52_method_16_code (6 : Nat) (Option.some (Jvm.ClassFile.FieldType.array Jvm.ClassFile.FieldType.byte)), Jvm.Cond.code ({ cls := "java/lang/StringUTF16", name := "compress", desc := "([CI[BII)I" } : Jvm.MethodName) jdk_52_method_21_code (7 : Nat) (Option.some Jvm.ClassFile.FieldType.int), Jvm.Cond.code ({ cls := "java/lang/StringUTF16", name := "toBytes", desc := "([CII)[B" } : Jvm.MethodName) jdk_52_method_14_code (5 : Nat) (Option.some (Jvm.ClassFile.FieldType.array Jvm.ClassFile.FieldType.byte)), Jvm.Cond.code ({ cls := "java/lang/StringUTF16", name := "newBytesFor", desc := "(I)[B" } : Jvm.MethodName) jdk_52_method_2_code (1 : Nat) (Option.some (Jvm.ClassFile.FieldType.array Jvm.ClassFile.FieldType.byte)), Jvm.Cond.code ({ cls := "java/lang/StringUTF16", name := "newBytesLength", desc := "(I)I" } : Jvm.MethodName) jdk_52_method_3_code (1 : Nat) (Option.some Jvm.ClassFile.FieldType.int), Jvm.Cond.code ({ cls := "java/lang/StringUTF16", name := "putChar", desc := "([BII)V" } : Jvm.MethodName) jdk_52_method_4_code (3 : Nat) (Option.none : Option Jvm.ClassFile.FieldType), Jvm.Cond.code ({ cls := "java/lang/StringUTF16", name := "getChar", desc := "([BI)C" } : Jvm.MethodName) jdk_52_method_5_code (2 : Nat) (Option.some Jvm.ClassFile.FieldType.char), Jvm.Cond.code ({ cls := "java/lang/StringUTF16", name := "coderFromArrayLen", desc := "([BI)B" } : Jvm.MethodName) jdk_52_method_15_code (2 : Nat) (Option.some Jvm.ClassFile.FieldType.byte), Jvm.Cond.code ({ cls := "java/lang/String", name := "charAt", desc := "(I)C" } : Jvm.MethodName) jdk_42_method_56_code (2 : Nat) (Option.some Jvm.ClassFile.FieldType.char), Jvm.Cond.code ({ cls := "java/lang/String", name := "isLatin1", desc := "()Z" } : Jvm.MethodName) jdk_42_method_154_code (1 : Nat) (Option.some Jvm.ClassFile.FieldType.boolean), Jvm.Cond.code ({ cls := "java/lang/StringLatin1", name := "charAt", desc := "([BI)C" } : Jvm.MethodName) jdk_43_method_2_code (2 : Nat) (Option.some Jvm.ClassFile.FieldType.char), Jvm.Cond.code ({ cls := "java/lang/String", name := "checkIndex", desc := "(II)V" } : Jvm.MethodName) jdk_42_method_155_code (2 : Nat) (Option.none : Option Jvm.ClassFile.FieldType), Jvm.Cond.code ({ cls := "jdk/internal/util/Preconditions", name := "checkIndex", desc := "(IILjava/util/function/BiFunction;)I" } : Jvm.MethodName) jdk_41_method_11_code (3 : Nat) (Option.some Jvm.ClassFile.FieldType.int), Jvm.Cond.code ({ cls := "java/lang/StringUTF16", name := "charAt", desc := "([BI)C" } : Jvm.MethodName) jdk_52_method_83_code (2 : Nat) (Option.some Jvm.ClassFile.FieldType.char), Jvm.Cond.code ({ cls := "java/lang/StringUTF16", name := "checkIndex", desc := "(I[B)V" } : Jvm.MethodName) jdk_52_method_91_code (2 : Nat) (Option.none : Option Jvm.ClassFile.FieldType), Jvm.Cond.code ({ cls := "java/lang/StringUTF16", name := "length", desc := "([B)I" } : Jvm.MethodName) jdk_52_method_6_code (1 : Nat) (Option.some Jvm.ClassFile.FieldType.int), Jvm.Cond.code ({ cls := "com/example/headings_from_text/headingsfromtext/evaluation/TrecRun", name := "codePointOrder", desc := "(C)I" } : Jvm.MethodName) prog_14_method_8_code (2 : Nat) (Option.some Jvm.ClassFile.FieldType.int), Jvm.Cond.code ({ cls := "java/lang/Character", name := "isSurrogate", desc := "(C)Z" } : Jvm.MethodName) jdk_89_method_16_code (1 : Nat) (Option.some Jvm.ClassFile.FieldType.boolean)]
set_option maxRecDepth 65536 in
theorem codes_eq : words1.filter isCode = codes1 := rfl
theorem w_codes : ∀ c ∈ words1.filter isCode, c.before args0 about1 = true := by
  rw [codes_eq]
  intro c hc
  simp only [codes1, List.mem_cons, List.not_mem_nil, or_false] at hc
  rcases hc with rfl | rfl | rfl | rfl | rfl | rfl | rfl | rfl | rfl | rfl | rfl | rfl | rfl | rfl | rfl | rfl | rfl | rfl | rfl | rfl | rfl | rfl | rfl | rfl | rfl | rfl | rfl | rfl | rfl | rfl | rfl | rfl | rfl | rfl
  · exact w_c0
  · exact w_c1
  · exact w_c2
  · exact w_c3
  · exact w_c4
  · exact w_c5
  · exact w_c6
  · exact w_c7
  · exact w_c8
  · exact w_c9
  · exact w_c10
  · exact w_c11
  · exact w_c12
  · exact w_c13
  · exact w_c14
  · exact w_c15
  · exact w_c16
  · exact w_c17
  · exact w_c18
  · exact w_c19
  · exact w_c20
  · exact w_c21
  · exact w_c22
  · exact w_c23
  · exact w_c24
  · exact w_c25
  · exact w_c26
  · exact w_c27
  · exact w_c28
  · exact w_c29
  · exact w_c30
  · exact w_c31
  · exact w_c32
  · exact w_c33
set_option maxRecDepth 65536 in
theorem w_t1 : (words1.take 24).all (fun c => isCode c || c.before args0 about1) = true := by decide +kernel
set_option maxRecDepth 65536 in
theorem w_t2 : ((words1.drop 24).take 24).all (fun c => isCode c || c.before args0 about1) = true := by decide +kernel
set_option maxRecDepth 65536 in
theorem w_t3 : (((words1.drop 24).drop 24).take 24).all (fun c => isCode c || c.before args0 about1) = true := by decide +kernel
set_option maxRecDepth 65536 in
theorem w_t4 : ((((words1.drop 24).drop 24).drop 24).take 24).all (fun c => isCode c || c.before args0 about1) = true := by decide +kernel
set_option maxRecDepth 65536 in
theorem w_t5 : (((((words1.drop 24).drop 24).drop 24).drop 24).take 24).all (fun c => isCode c || c.before args0 about1) = true := by decide +kernel
set_option maxRecDepth 65536 in
theorem w_t6 : (((((words1.drop 24).drop 24).drop 24).drop 24).drop 24).all (fun c => isCode c || c.before args0 about1) = true := by decide +kernel
theorem w_tables : (allAtoms (Jvm.Cond.code x code maxLocals ret :: tables_1)).before args0 about1 = true := by
  rw [allAtoms_all]
  show words1.all (fun c => c.before args0 about1) = true
  refine all_split ?_ w_codes
  rw [← List.take_append_drop 24 words1, List.all_append, w_t1, ← List.take_append_drop 24 (words1.drop 24), List.all_append, w_t2, ← List.take_append_drop 24 ((words1.drop 24).drop 24), List.all_append, w_t3, ← List.take_append_drop 24 (((words1.drop 24).drop 24).drop 24), List.all_append, w_t4, ← List.take_append_drop 24 ((((words1.drop 24).drop 24).drop 24).drop 24), List.all_append, w_t5, w_t6]
  rfl
set_option maxRecDepth 65536 in
theorem w_rest : rest_1_c.before args0 about1 = true := by decide +kernel
set_option maxRecDepth 65536 in
theorem w_case : (Jvm.Cond.and given_1 narrow_1).before args0 about1 = true := by decide +kernel
set_option maxRecDepth 65536 in
theorem w_consts : constsHeld consts_1 about1 := Jvm.Lit.constsHeldB_iff.mp (by decide +kernel)
theorem w_applies : (headSpec (Jvm.Cond.code x code maxLocals ret :: tables_1) room_1).applies x e0.platform about1 = true :=
  (Spec.applies_iff w_frames).mpr ⟨w_running, w_runnable, w_alone, w_named, w_hears, w_ripe, w_room, w_tables⟩
theorem atStart : AtStart classFile x code maxLocals ret World_1 tables_1 room_1 Calls_1 rest_1 Pre_1 launch0 p0 e0 about1 theMethod args0 below0 :=
  ⟨lists_1, trivial, launch0.admits_env _ _ _, launch0.least_env, fairChoices_fair.cas, fairChoices_fair.clock, w_frames, w_args, w_heap, w_applies, ⟨w_consts, trivial⟩, w_rest, w_case⟩
end start1
theorem witness_1 : WitnessClaimed_1 := ⟨start1.p0, start1.e0, start1.about1, start1.theMethod, start1.args0, start1.below0, start1.atStart⟩
end Jvm.Pilot.@@N@@
