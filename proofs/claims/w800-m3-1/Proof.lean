import JvmDerived
import JvmDerived.Pilot.@@N@@Statement
import JvmDerived.Pilot.@@N@@Code
set_option linter.unusedVariables false
set_option linter.unusedSimpArgs false
namespace Jvm.OwnKit
open Sem ClassFile Op Lib Bundle Jvm.Stand Jvm.Free Jvm.LawKit Jvm.RoadKit
section Kit0
variable {p : Program} {l : Launch} {e : Env} {R : Room} {s : State} {m : MethodId} {args : Array Value} {below : List Frame} {meth : Method} {c : Code} {Z T : State} {a0 : Array Value} {EL : List (String × Nat)} {vm vm0 vm1 vm2 : Vm} {h h' h2 : Heap} {locs : List Loc} {cells slots : Nat}
/-- what a walk that interns nothing keeps -/
def CHq (Z : State) (EL : List (String × Nat)) (vm : Vm) (h : Heap) (vm1 : Vm) (h' : Heap) : Prop := CHv Z EL vm1 h' ∧ h.size ≤ h'.size ∧ ((∀ y, Bk Z EL vm1 h' y → Bk Z EL vm h y ∨ h.size ≤ y) ∧ (Z.setVm vm).WarmedH vm1)
theorem CHq.up (A : CHr Z EL vm h vm1 h') (W : (Z.setVm vm).WarmedH vm1) : CHq Z EL vm h vm1 h' := ⟨A.1, A.2.1, A.2.2, W⟩
theorem CHq.dn (A : CHq Z EL vm h vm1 h') : CHr Z EL vm h vm1 h' := ⟨A.1, A.2.1, A.2.2.1⟩
theorem CHq.refl (H : CHv Z EL vm h) : CHq Z EL vm h vm h := CHq.up (CHr.refl H) (State.WarmedH.refl (Z.setVm vm))
theorem CHq.trans (A : CHq Z EL vm h vm1 h') (B : CHq Z EL vm1 h' vm2 h2) : CHq Z EL vm h vm2 h2 := CHq.up (A.dn.trans B.dn) (State.WarmedH.trans (t := Z.setVm vm1) A.2.2.2 B.2.2.2)
theorem CHq.safe (A : CHq Z EL vm h vm1 h') {x : Addr} (hx : x < h.size) (S : Safe Z EL vm h x) : Safe Z EL vm1 h' x := A.dn.safe hx S
theorem CHq.ext (E : Ext h h') (H : CHv Z EL vm h) : CHq Z EL vm h vm h' := CHq.up (CHr.ext E H) (State.WarmedH.refl (Z.setVm vm))
theorem CHq.keep {ws : List Addr} (K : Keep h h' ws) (hs : ∀ x ∈ ws, Safe Z EL vm h x) (H : CHv Z EL vm h) : CHq Z EL vm h vm h' := CHq.up (CHr.keep K hs H) (State.WarmedH.refl (Z.setVm vm))
theorem CHq.wr {a : Addr} {sl : Nat} {v : Value} (W : Wr h h' a sl v) (S : Safe Z EL vm h a) (H : CHv Z EL vm h) : CHq Z EL vm h vm h' := CHq.up (CHr.wr W S H) (State.WarmedH.refl (Z.setVm vm))
theorem CHq.at (X : Stand p l e R (s.setVm vm0) m args below meth c T locs cells slots) (hZ : Z.Warmed39 vm0) (w : EW Z a0 EL) (H : CHv Z EL vm0 h) : CHq Z EL vm0 h T.vm h := CHq.up (CHv.at X hZ w H) (State.WarmedH.of_rootvm (s := s.setVm vm0) rfl X.warmed)
end Kit0
end Jvm.OwnKit
namespace Jvm.OwnKit
open Sem ClassFile Op Lib Bundle Jvm.Stand Jvm.Free Jvm.LawKit Jvm.RoadKit
section Kit
variable {p : Program} {l : Launch} {e : Env} {R : Room} {s : State} {m : MethodId} {args : Array Value} {below : List Frame} {meth : Method} {c : Code} {Z : State} {a0 : Array Value} {EL : List (String × Nat)} {own : String} {Q : Option Value → Vm → Heap → Prop} {vm : Vm} {h : Heap} {cells slots : Nat} {g : JFrame}
/-- the k-th word -/
theorem ow {L : List Jvm.Cond} (hw : ∀ d ∈ L, d.before a0 Z = true) (k : Nat) {d : Jvm.Cond} (q : L[k]? = some d) : d.before a0 Z = true := hw _ (List.mem_of_getElem? q)
abbrev vr (a : Addr) : Slot := .val (.ref a)
abbrev vi (x : Int32) : Slot := .val (.int x)
abbrev un : Slot := .unset
/-- a standing place of a walk that may have interned: tables vm, heap h, usage -/
def St (p : Program) (l : Launch) (e : Env) (R : Room) (s : State) (m : MethodId) (args : Array Value) (below : List Frame) (meth : Method) (c : Code) (Z : State) (a0 : Array Value) (EL : List (String × Nat)) (own : String) (vm : Vm) (T : State) (h : Heap) (cells slots : Nat) : Prop :=
  ∃ (locs : List Loc) (k0 : Nat), Stand p l e R (s.setVm vm) m args below meth c T locs cells slots ∧ T.heap = h ∧ Z.Warmed39 vm ∧ vm.findClass own = some m.cls ∧ s.Since vm k0 ∧ k0 ≤ h.size ∧ Fr Z.heap.size locs ∧ CHq Z EL s.vm s.heap vm h ∧ Ext Z.heap s.heap ∧ EW Z a0 EL ∧ p.tables.exec = Jvm.exec ∧ meth.locks = false
/-- from every such place with this frame the method ends as Q says -/
def Go (p : Program) (l : Launch) (e : Env) (R : Room) (s : State) (m : MethodId) (args : Array Value) (below : List Frame) (meth : Method) (c : Code) (Z : State) (a0 : Array Value) (EL : List (String × Nat)) (own : String) (Q : Option Value → Vm → Heap → Prop) (vm : Vm) (h : Heap) (cells slots : Nat) (g : JFrame) : Prop :=
  ∀ T, St p l e R s m args below meth c Z a0 EL own vm T h cells slots → ∃ s₂ o, Steps p.tables e below (T.setTop g) s₂ ∧ s₂.status = .running ∧ Ended s₂ below o ∧
    ∃ v L, o = .returned v ∧ (Fr Z.heap.size L ∧ Q v s₂.vm s₂.heap) ∧ CHq Z EL s.vm s.heap s₂.vm s₂.heap ∧ ReturnedEndW s o s₂ L R.cells R.slots
/-- a plain step -/
theorem gs (g' : JFrame) (st : ∀ T target, At T m c below → Steps p.tables e below (T.setTop g') target → Steps p.tables e below (T.setTop g) target)
    (k : Go p l e R s m args below meth c Z a0 EL own Q vm h cells slots g') : Go p l e R s m args below meth c Z a0 EL own Q vm h cells slots g := fun T X => by
  obtain ⟨s2, o, q1, q2⟩ := k T X
  obtain ⟨locs, k0, X', -⟩ := X
  exact ⟨s2, o, st _ _ X'.here q1, q2⟩
theorem gat (g' : JFrame) (q : g = g') (k : Go p l e R s m args below meth c Z a0 EL own Q vm h cells slots g') : Go p l e R s m args below meth c Z a0 EL own Q vm h cells slots g := q ▸ k
/-- a step that asks the standing place -/
theorem gx (g' : JFrame) (st : ∀ T locs, Stand p l e R (s.setVm vm) m args below meth c T locs cells slots → Z.Warmed39 vm → vm.findClass own = some m.cls → T.heap = h → ∀ target, Steps p.tables e below (T.setTop g') target → Steps p.tables e below (T.setTop g) target)
    (k : Go p l e R s m args below meth c Z a0 EL own Q vm h cells slots g') : Go p l e R s m args below meth c Z a0 EL own Q vm h cells slots g := fun T X => by
  obtain ⟨s2, o, q1, q2⟩ := k T X
  obtain ⟨locs, k0, X', eT, hZ, hown, -⟩ := X
  exact ⟨s2, o, st _ _ X' hZ hown eT _ q1, q2⟩
/-- a step to another state, the heap as it was -/
theorem gy (g' : JFrame) (st : ∀ T locs, Stand p l e R (s.setVm vm) m args below meth c T locs cells slots → Z.Warmed39 vm → vm.findClass own = some m.cls → T.heap = h → ∃ T', Stand p l e R (s.setVm vm) m args below meth c T' locs cells slots ∧ T'.heap = h ∧ ∀ target, Steps p.tables e below (T'.setTop g') target → Steps p.tables e below (T.setTop g) target)
    (k : Go p l e R s m args below meth c Z a0 EL own Q vm h cells slots g') : Go p l e R s m args below meth c Z a0 EL own Q vm h cells slots g := fun T X => by
  obtain ⟨locs, k0, X', eT, hZ, hown, r⟩ := X
  obtain ⟨T', X1, e1, s1⟩ := st T locs X' hZ hown eT
  obtain ⟨s2, o, q1, q2⟩ := k T' ⟨locs, k0, X1, e1, hZ, hown, r⟩
  exact ⟨s2, o, s1 _ q1, q2⟩
/-- what the standing place knows -/
theorem ginfo (k : Z.Warmed39 vm → CHv Z EL vm h → Ext Z.heap h → Go p l e R s m args below meth c Z a0 EL own Q vm h cells slots g) : Go p l e R s m args below meth c Z a0 EL own Q vm h cells slots g := fun T X => by
  have X0 := X
  obtain ⟨locs, k0, X', eT, hZ, hown, hS, hk, N, H, E0, r⟩ := X
  refine k hZ H.1 ⟨?_, ?_⟩ T X0
  · exact Nat.le_trans E0.1 H.2.1
  · intro b cl hcl
    have hb := (Array.getElem?_eq_some_iff.mp hcl).1
    obtain ⟨c', h1, h2, -, h4⟩ := X'.same.2.2.2.2.2 b cl (show s.heap[b]? = some cl from E0.2 b cl hcl)
    have hsl : c'.slots = cl.slots := Array.ext_getElem? fun i => h4 i fun hm => absurd (N _ hm) (Nat.not_le.mpr hb)
    have hcc : c' = cl := by rw [h2, hsl]
    have h1' : T.heap[b]? = some c' := h1
    rw [← eT, ← hcc]; exact h1'
theorem gmono {cells' slots' : Nat} (hc : cells ≤ cells') (hs : slots ≤ slots') (k : Go p l e R s m args below meth c Z a0 EL own Q vm h cells' slots' g) : Go p l e R s m args below meth c Z a0 EL own Q vm h cells slots g := fun T X => by
  obtain ⟨locs, k0, X', r⟩ := X
  exact k T ⟨locs, k0, { X' with same := X'.same.mono hc hs }, r⟩
/-- the heap grows at its end -/
theorem gnew {cells' slots' : Nat} {P : Heap → Prop} (g' : Heap → JFrame)
    (st : ∀ T locs, Stand p l e R (s.setVm vm) m args below meth c T locs cells slots → Z.Warmed39 vm → vm.findClass own = some m.cls → T.heap = h → ∃ T' h', Stand p l e R (s.setVm vm) m args below meth c T' locs cells' slots' ∧ T'.heap = h' ∧ Ext h h' ∧ P h' ∧ ∀ target, Steps p.tables e below (T'.setTop (g' h')) target → Steps p.tables e below (T.setTop g) target)
    (k : ∀ h', Ext h h' → CHq Z EL vm h vm h' → P h' → Z.heap.size ≤ h.size → Safe Z EL vm h' h.size → Go p l e R s m args below meth c Z a0 EL own Q vm h' cells' slots' (g' h')) : Go p l e R s m args below meth c Z a0 EL own Q vm h cells slots g := fun T X => by
  obtain ⟨locs, k0, X', eT, hZ, hown, hS, hk, N, H, E0, r⟩ := X
  obtain ⟨T', h', X1, e1, E, hP, s1⟩ := st T locs X' hZ hown eT
  obtain ⟨s2, o, q1, q2⟩ := k h' E (CHq.ext E H.1) hP (Nat.le_trans E0.1 H.2.1) (Safe.ext E H.1 (Safe.new (Nat.le_refl _))) T' ⟨locs, k0, X1, e1, hZ, hown, hS, Nat.le_trans hk E.1, N, H.trans (CHq.ext E H.1), E0, r⟩
  exact ⟨s2, o, s1 _ q1, q2⟩
/-- one place is written -/
theorem gwr (g' : JFrame) {a : Addr} {sl : Nat} {v : Value} (ha : Z.heap.size ≤ a) (hs : Z.vm.Alike vm → Safe Z EL vm h a)
    (st : ∀ T locs, Stand p l e R (s.setVm vm) m args below meth c T locs cells slots → Z.Warmed39 vm → vm.findClass own = some m.cls → T.heap = h → ∃ T' h', Stand p l e R (s.setVm vm) m args below meth c T' (locs ++ [⟨a, sl⟩]) cells slots ∧ T'.heap = h' ∧ Wr h h' a sl v ∧ ∀ target, Steps p.tables e below (T'.setTop g') target → Steps p.tables e below (T.setTop g) target)
    (k : ∀ h', Wr h h' a sl v → CHq Z EL vm h vm h' → Go p l e R s m args below meth c Z a0 EL own Q vm h' cells slots g') : Go p l e R s m args below meth c Z a0 EL own Q vm h cells slots g := fun T X => by
  obtain ⟨locs, k0, X', eT, hZ, hown, hS, hk, N, H, E0, r⟩ := X
  obtain ⟨T', h', X1, e1, W, s1⟩ := st T locs X' hZ hown eT
  obtain ⟨s2, o, q1, q2⟩ := k h' W (CHq.wr W (hs hZ.alike) H.1) T' ⟨_, k0, X1, e1, hZ, hown, hS, by rw [W.size]; exact hk, Fr.snoc X1 N ha, H.trans (CHq.wr W (hs hZ.alike) H.1), E0, r⟩
  exact ⟨s2, o, s1 _ q1, q2⟩
/-- the end -/
theorem gret {v : Option Value} (hv : meth.sig.returnType = none → v = none) (hc : cells ≤ R.cells) (hs : slots ≤ R.slots)
    (st : ∀ T locs fs, Stand p l e R (s.setVm vm) m args below meth c T locs cells slots → (∀ (f : JFrame) (acts : List Action), f.method = m → f.locked = none → f.entered = [] → (doReturn e (T.setTop f) acts v).1 = T.setFrames fs) → Steps p.tables e below (T.setTop g) (T.setFrames fs))
    (hq : ∀ vm', CHq Z EL vm h vm' h → Q v vm' h) : Go p l e R s m args below meth c Z a0 EL own Q vm h cells slots g := fun T X => by
  obtain ⟨locs, k0, X', eT, hZ, hown, hS, hk, N, H, E0, hw, hx, hlk⟩ := X
  obtain ⟨fs, hr, hrun, hend, hW⟩ := X'.leaveW hS (by rw [eT]; exact hk) hv hlk
  have C1 : CHq Z EL vm h T.vm h := CHq.at X' hZ hw H.1
  refine ⟨_, _, st T locs fs X' hr, hrun, hend, v, locs, rfl, ⟨N, ?_⟩, ?_, ?_⟩
  · show Q v T.vm T.heap
    rw [eT]; exact hq _ C1
  · show CHq Z EL s.vm s.heap T.vm T.heap
    rw [eT]; exact H.trans C1
  · exact ⟨hW.1, hW.2.1, hW.2.2.1, hW.2.2.2.mono hc hs⟩
theorem gretI {pc : Nat} {Ls : Array Slot} {z : Int32} {rest : List Value} (hx : p.tables.exec = Jvm.exec) (hret : meth.sig.returnType = some .int) (hd : decode c.code pc = .ok (.ireturn, 1)) (hc : cells ≤ R.cells) (hs : slots ≤ R.slots)
    (hq : ∀ vm', CHq Z EL vm h vm' h → Q (some (.int z)) vm' h) : Go p l e R s m args below meth c Z a0 EL own Q vm h cells slots (mkF m pc Ls (.int z :: rest)) :=
  gret (v := some (.int z)) (fun q => by rw [hret] at q; cases q) hc hs (fun T locs fs X hr => retOut X hx hret rfl (Or.inl ⟨rfl, Or.inl rfl, z, rfl⟩) hd hr) hq
theorem gretN {t : FieldType} {pc : Nat} {Ls : Array Slot} {z : Int32} {rest : List Value} (hx : p.tables.exec = Jvm.exec) (hret : meth.sig.returnType = some t) (ht : t = .boolean ∨ t = .byte ∨ t = .char ∨ t = .short) (hd : decode c.code pc = .ok (.ireturn, 1)) (hc : cells ≤ R.cells) (hs : slots ≤ R.slots)
    (hq : ∀ vm', CHq Z EL vm h vm' h → Q (some (.int (nar t z))) vm' h) : Go p l e R s m args below meth c Z a0 EL own Q vm h cells slots (mkF m pc Ls (.int z :: rest)) :=
  gret (v := some (.int (nar t z))) (fun q => by rw [hret] at q; cases q) hc hs (fun T locs fs X hr => retN X hx hret ht hd hr) hq
theorem gretA {t : FieldType} {pc : Nat} {Ls : Array Slot} {v : Value} {rest : List Value} (hx : p.tables.exec = Jvm.exec) (hret : meth.sig.returnType = some t) (ht : t.isReference = true) (hv : v.isRef = true) (hd : decode c.code pc = .ok (.areturn, 1)) (hc : cells ≤ R.cells) (hs : slots ≤ R.slots)
    (hq : ∀ vm', CHq Z EL vm h vm' h → Q (some v) vm' h) : Go p l e R s m args below meth c Z a0 EL own Q vm h cells slots (mkF m pc Ls (v :: rest)) :=
  gret (v := some v) (fun q => by rw [hret] at q; cases q) hc hs (fun T locs fs X hr => retOut X hx hret (by cases t <;> first | (cases ht; done) | (cases v <;> first | rfl | (cases hv; done))) (Or.inr (Or.inr (Or.inr (Or.inr ⟨rfl, ht, hv⟩)))) hd hr) hq
theorem gretV {pc : Nat} {Ls : Array Slot} (hx : p.tables.exec = Jvm.exec) (hret : meth.sig.returnType = none) (hd : decode c.code pc = .ok (.return_, 1)) (hc : cells ≤ R.cells) (hs : slots ≤ R.slots)
    (hq : ∀ vm', CHq Z EL vm h vm' h → Q none vm' h) : Go p l e R s m args below meth c Z a0 EL own Q vm h cells slots (mkF m pc Ls []) :=
  gret (v := none) (fun _ => rfl) hc hs (fun T locs fs X hr => X.returnOut hx hret hd hr) hq
/-! contracts -/
def Met (l : Launch) (y : MethodName) (bytes : ByteArray) (maxL : Nat) (ret : Option FieldType) (ws : List Jvm.Cond) (rm : Room) (Z : State) (EL : List (String × Nat)) (vm0 : Vm) (h0 : Heap) (as' : Array Value) (Q : Option Value → Vm → Heap → Prop) : Prop :=
  MetFree l y (head1 (Jvm.Cond.code y bytes maxL ret :: ws) rm) (fun a U => a = as' ∧ Z.Warmed39 U.vm ∧ U.heap = h0 ∧ CHq Z EL vm0 h0 U.vm h0 ∧ (Z.setVm vm0).Warmed39 U.vm) (fun _ _ _ _ _ => True)
    (fun _ U o U' => ∃ v L, o = .returned v ∧ (Fr Z.heap.size L ∧ Q v U'.vm U'.heap) ∧ CHq Z EL U.vm U.heap U'.vm U'.heap ∧ ReturnedEndW U o U' L rm.cells rm.slots)
theorem Met.of_walk {y : MethodName} {bytes : ByteArray} {maxL : Nat} {ret : Option FieldType} {ws : List Jvm.Cond} {rm : Room} {vm0 : Vm} {h0 : Heap} {as' : Array Value} (L0 : Array Slot) (hpn : plainFor y = true) (X00 : Ext Z.heap h0) (hEL : EW Z a0 EL)
    (hef : ∀ m, entryFrame m as' maxL = mkF m 0 L0 [])
    (walk : ∀ (p : Program) (e : Env) (s : State) (m : MethodId) (below : List Frame) (meth : Method) (c : Code) (vm : Vm), p.tables.exec = Jvm.exec → c.code = bytes → c.maxLocals = maxL → meth.sig.returnType = ret → meth.name = y.name → CHq Z EL vm0 h0 vm h0 → (Z.setVm vm0).Warmed39 vm →
      Go p l e rm s m as' below meth c Z a0 EL y.cls Q vm h0 0 0 (mkF m 0 L0 [])) : Met l y bytes maxL ret ws rm Z EL vm0 h0 as' Q := by
  refine MetFree.of_bodySF hpn hisR ?_
  intro p e s m args below meth c s₁ Bd hml0 hP hK
  obtain ⟨rfl, hZ, hh, hC, hW0⟩ := hP
  have X0 : Stand p l e rm s m args below meth c s₁ [] 0 0 := Stand.of_body Bd
  have e0 : s₁.heap = h0 := by rw [← hh, Bd.state]; rfl
  obtain ⟨s2, o, q1, q2⟩ := walk p e s m below meth c s.vm Bd.exec Bd.bytes hml0 Bd.returns (name_of_methodNamed Bd.named Bd.method).1 hC hW0 s₁
    ⟨[], 0, X0, e0, hZ, findClass_of_methodNamed Bd.named, (State.WarmedH.refl s).since 0, Nat.zero_le _, Fr.nil _, by rw [hh]; exact CHq.refl hC.1, by rw [hh]; exact X00, hEL, Bd.exec, Bd.notSynchronized⟩
  exact ⟨s2, o, by rw [hef]; exact q1, q2⟩
def Pay (l : Launch) (R : Room) (p : Program) (e : Env) (below : List Frame) (s : State) (args : Array Value) (Z : State) (EL : List (String × Nat)) (vm : Vm) (h : Heap) (y : MethodName) (len W : Nat) (as' : Array Value) (rc rs : Nat) (Q : Option Value → Vm → Heap → Prop) : Prop :=
  BackS l R p e below (s.setVm vm) args y len W (fun A a => a = as' ∧ A.U.heap = h ∧ A.cells + rc ≤ R.cells ∧ A.slots + rs ≤ R.slots)
    (fun A _ v B => ∃ L, (Fr Z.heap.size L ∧ Q v B.U.vm B.U.heap) ∧ B.locs = A.locs ++ L ∧ B.cells = A.cells + rc ∧ B.slots = A.slots + rs ∧ CHq Z EL vm h B.U.vm B.U.heap)
theorem Pay.of_met {y : MethodName} {bytes : ByteArray} {maxL : Nat} {ret : Option FieldType} {rm : Room} {len W : Nat} {as' : Array Value} (hM : Met l y bytes maxL ret [] rm Z EL vm h as' Q)
    (wc : (Jvm.Cond.code y bytes maxL ret).before a0 Z = true) (wz : (Jvm.Cond.initialized y.cls).before a0 Z = true) (hf : rm.frames + 1 ≤ R.frames) (hl : W + (maxL + 11) + rm.locals ≤ R.locals) (hZ : Z.Warmed39 vm) (H : CHv Z EL vm h) (hEL : EW Z a0 EL) :
    Pay l R p e below s args Z EL vm h y len W as' rm.cells rm.slots Q :=
  BackS.of_freeW (bytes := bytes) (maxL := maxL) (ret := ret) (E := fun _ first o t L k n => k = rm.cells ∧ n = rm.slots ∧ (∃ v, o = .returned v ∧ (Fr Z.heap.size L ∧ Q v t.vm t.heap)) ∧ CHq Z EL first.vm first.heap t.vm t.heap) hM hf hl
    (fun m meth c A a Y hp => have hU : Z.Warmed39 A.U.vm := wtrans (s := s.setVm vm) hZ Y.warmed
      ⟨by show (Jvm.Cond.and _ .tt).before a A.U = true; rw [Cond.before_and, mv hU wc]; rfl, mv hU wc, mv hU wz, hp.2.2.1, hp.2.2.2⟩)
    (fun m meth c A a g mk Y hp => ⟨hp.1, wtrans (s := s.setVm vm) hZ Y.warmed, hp.2.1, (show CHq Z EL vm h A.U.vm h from CHq.at Y hZ hEL H), State.Warmed39.of_rootvm (s := s.setVm vm) rfl (show (s.setVm vm).Warmed39 A.U.vm from Y.warmed.wide)⟩) (fun _ _ _ _ _ _ _ _ _ => trivial)
    (fun _ _ _ _ ⟨v, L, h1, h2, h3, h4⟩ => ⟨L, _, _, h4, rfl, rfl, ⟨v, h1, h2⟩, h3⟩)
    (fun m meth c A a g mk v t L k n Y hp _ _ ⟨e1, e2, ⟨v', e3, e4⟩, e5⟩ => by
      cases e3; subst e1 e2
      refine ⟨L, e4, rfl, rfl, rfl, (CHq.at Y hZ hEL H).trans ?_⟩
      rw [← hp.2.1]; exact e5)
theorem Pay.of_back {y : MethodName} {len W : Nat} {as' : Array Value} {rc rs : Nat} {Q0 : Option Value → Heap → List Loc → Prop}
    (hK : Back l R p e below (s.setVm vm) args y len W (fun A a => a = as' ∧ A.U.heap = h ∧ A.cells + rc ≤ R.cells ∧ A.slots + rs ≤ R.slots) (fun A _ v B => ∃ L, Q0 v B.U.heap L ∧ B.locs = A.locs ++ L ∧ B.cells = A.cells + rc ∧ B.slots = A.slots + rs))
    (hZ : Z.Warmed39 vm) (H : CHv Z EL vm h) (hEL : EW Z a0 EL)
    (hq : ∀ v h' L, Q0 v h' L → Fr Z.heap.size L ∧ (∃ ws, Keep h h' ws ∧ ∀ x ∈ ws, Safe Z EL vm h x) ∧ ∀ vm', CHq Z EL vm h vm' h' → Q v vm' h') : Pay l R p e below s args Z EL vm h y len W as' rc rs Q := by
  intro m meth c A g ig mk a X hg hsize hdg hW hn hp
  obtain ⟨v, B, X', ⟨L, q0, q1, q2, q3⟩, hsteps⟩ := hK m meth c A g ig mk a X hg hsize hdg hW hn hp
  obtain ⟨hF, ⟨ws, K, hs⟩, hQ⟩ := hq _ _ _ q0
  have C1 : CHq Z EL vm h vm B.U.heap := CHq.keep K hs H
  have C2 : CHq Z EL vm h B.U.vm B.U.heap := C1.trans (CHq.at X' hZ hEL C1.1)
  exact ⟨v, B, X'.retabled X'.warmed.wide, X'.warmed.since _, by rw [hp.2.1]; exact K.1, ⟨L, ⟨hF, hQ _ C2⟩, q1, q2, q3, C2⟩, hsteps⟩
theorem Pay.mono {y : MethodName} {len W rc rs : Nat} {as' : Array Value} {Q' : Option Value → Vm → Heap → Prop} (hP : Pay l R p e below s args Z EL vm h y len W as' rc rs Q) (hq : ∀ v vm' h', Q v vm' h' → Q' v vm' h') : Pay l R p e below s args Z EL vm h y len W as' rc rs Q' := by
  intro m meth c A g ig mk a X hg hsize hdg hW hn hp
  obtain ⟨v, B, X', h1, h2, ⟨L, ⟨q1, q2⟩, r⟩, st⟩ := hP m meth c A g ig mk a X hg hsize hdg hW hn hp
  exact ⟨v, B, X', h1, h2, ⟨L, ⟨q1, hq _ _ _ q2⟩, r⟩, st⟩
/-- behind any call -/
theorem gback {y : MethodName} {rc rs : Nat} {as' : Array Value} {Q' : Option Value → Vm → Heap → Prop} {rest : List Value} {pc' : Nat} {L : Array Slot}
    (st : ∀ T locs, Stand p l e R (s.setVm vm) m args below meth c T locs cells slots → Z.Warmed39 vm → vm.findClass own = some m.cls → T.heap = h → CHv Z EL vm h → EW Z a0 EL →
      ∃ (v : Option Value) (vm₁ : Vm) (B : Pt), (s.setVm vm).WarmedH vm₁ ∧ Stand p l e R ((s.setVm vm).setVm B.U.vm) m args below meth c B.U B.locs B.cells B.slots ∧ (s.setVm vm).Since B.U.vm B.U.heap.size ∧ T.heap.size ≤ B.U.heap.size ∧
        (∃ L, (Fr Z.heap.size L ∧ Q' v B.U.vm B.U.heap) ∧ B.locs = locs ++ L ∧ B.cells = cells + rc ∧ B.slots = slots + rs ∧ CHq Z EL vm h B.U.vm B.U.heap) ∧ Steps p.tables e below (T.setTop g) (B.U.setTop (mkF m pc' L (v.toList ++ rest))))
    (k : ∀ v vm' h', CHq Z EL vm h vm' h' → Q' v vm' h' → Go p l e R s m args below meth c Z a0 EL own Q vm' h' (cells + rc) (slots + rs) (mkF m pc' L (v.toList ++ rest))) : Go p l e R s m args below meth c Z a0 EL own Q vm h cells slots g := fun T X => by
  obtain ⟨locs, k0, X', eT, hZ, hown, hS, hk, N, H, E0, hEL, hx, hlk⟩ := X
  obtain ⟨v, vm1, ⟨U, Lx, cx, sx⟩, hW1, X1, hS1, hgr, ⟨L1, ⟨hF, hQ⟩, hl, hc, hs, hC⟩, s1⟩ := st T locs X' hZ hown eT H.1 hEL
  dsimp only [Pt.U, Pt.locs, Pt.cells, Pt.slots] at X1 hS1 hgr hF hQ hl hc hs hC s1
  subst hl hc hs
  obtain ⟨s2, o, q1, q2⟩ := k v U.vm U.heap hC hQ U ⟨_, U.heap.size, X1, rfl, State.Warmed39.trans (t := s.setVm vm) hZ hS1.1, (hS1.1.alike.findClass _ _).trans hown, hS.trans hS1 (Nat.le_trans hk (by rw [← eT]; exact hgr)), Nat.le_refl _, Fr.app N hF, H.trans hC, E0, hEL, hx, hlk⟩
  exact ⟨s2, o, s1.trans q1, q2⟩
end Kit
end Jvm.OwnKit
namespace Jvm.OwnKit
open Sem ClassFile Op Lib Bundle Jvm.Stand Jvm.Free Jvm.LawKit Jvm.RoadKit
section Kit2
variable {p : Program} {l : Launch} {e : Env} {R : Room} {s : State} {m : MethodId} {args : Array Value} {below : List Frame} {meth : Method} {c : Code} {Z : State} {a0 : Array Value} {EL : List (String × Nat)} {own : String} {Q : Option Value → Vm → Heap → Prop} {vm : Vm} {h : Heap} {cells slots : Nat} {g : JFrame}
/-! calls -/
theorem gcallS {index : Nat} {y : MethodName} {bytes : ByteArray} {maxL : Nat} {ret : Option FieldType} (hx : p.tables.exec = Jvm.exec) (wl : (Cond.methodLink own index y).before a0 Z = true) (wst : (Cond.static y).before a0 Z = true) (wz : (Cond.initialized y.cls).before a0 Z = true) (wc : (Cond.code y bytes maxL ret).before a0 Z = true)
    (hy : y.cls ≠ "java/lang/invoke/MethodHandle" ∧ y.cls ≠ "java/lang/invoke/VarHandle") {W rc rs : Nat} {as' : Array Value} {Q' : Option Value → Vm → Heap → Prop} (hP : Z.Warmed39 vm → CHv Z EL vm h → EW Z a0 EL → Pay l R p e below s args Z EL vm h y 3 W as' rc rs Q')
    {pc : Nat} (pc' : Nat) {L : Array Slot} {S argsL rest : List Value} (hlen : ∀ sig, parseMethodDescriptor y.desc = some sig → argsL.length = sig.parameters.length) (has : argsL.toArray = as') (hstk : S = argsL.reverse ++ rest) (hW : (rest.map fun v => v.category).sum ≤ W) (hml : L.size = c.maxLocals)
    (hd : decode c.code pc = .ok (.invokestatic index, 3)) (hp : pc + 3 = pc') (hc : cells + rc ≤ R.cells) (hs : slots + rs ≤ R.slots)
    (k : ∀ v vm' h', CHq Z EL vm h vm' h' → Q' v vm' h' → Go p l e R s m args below meth c Z a0 EL own Q vm' h' (cells + rc) (slots + rs) (mkF m pc' L (v.toList ++ rest))) : Go p l e R s m args below meth c Z a0 EL own Q vm h cells slots (mkF m pc L S) :=
  gback (y := y) (as' := as') (fun T locs X hZ hown eT H hEL => by
    subst has hp hstk
    exact callSS (s := s.setVm vm) X hx hown (mvT hZ wl) (mvT hZ wst) (mvT hZ wz) (mvT hZ wc) hy (hP hZ H hEL) (g := mkF m pc L _) rfl hml hlen rfl (by show 2 * 0 + _ ≤ _; omega) hd (fun _ _ => ⟨rfl, eT, hc, hs⟩)) k
theorem gcallI {index : Nat} {y : MethodName} {bytes : ByteArray} {maxL : Nat} (hx : p.tables.exec = Jvm.exec) (hyi : y.name = "<init>") (wl : (Cond.methodLink own index y).before a0 Z = true) (wi : (Cond.instanceMethod y).before a0 Z = true) (wc : (Cond.code y bytes maxL none).before a0 Z = true)
    (hy : y.cls ≠ "java/lang/invoke/MethodHandle" ∧ y.cls ≠ "java/lang/invoke/VarHandle") {W rc rs : Nat} {as' : Array Value} {Q' : Option Value → Vm → Heap → Prop} (hP : Z.Warmed39 vm → CHv Z EL vm h → EW Z a0 EL → Pay l R p e below s args Z EL vm h y 3 W as' rc rs Q')
    {pc : Nat} (pc' : Nat) {L : Array Slot} {S argsL rest : List Value} {a : Addr} (hlen : ∀ sig, parseMethodDescriptor y.desc = some sig → argsL.length = sig.parameters.length) (has : (.ref a :: argsL).toArray = as') (hstk : S = argsL.reverse ++ .ref a :: rest) (hW : (rest.map fun v => v.category).sum ≤ W) (hml : L.size = c.maxLocals)
    (hd : decode c.code pc = .ok (.invokespecial index, 3)) (hp : pc + 3 = pc') (hc : cells + rc ≤ R.cells) (hs : slots + rs ≤ R.slots)
    (k : ∀ v vm' h', CHq Z EL vm h vm' h' → Q' v vm' h' → Go p l e R s m args below meth c Z a0 EL own Q vm' h' (cells + rc) (slots + rs) (mkF m pc' L (v.toList ++ rest))) : Go p l e R s m args below meth c Z a0 EL own Q vm h cells slots (mkF m pc L S) :=
  gback (y := y) (as' := as') (fun T locs X hZ hown eT H hEL => by
    subst has hp hstk
    exact X.specialBackS (s := s.setVm vm) hx hyi hown (mvT hZ wl) (mvT hZ wi) (mvT hZ wc) hy (hP hZ H hEL) (g := mkF m pc L _) rfl hml (Steps.refl _) hlen rfl (by show 2 * 0 + _ ≤ _; omega) hd (fun _ _ => ⟨rfl, eT, hc, hs⟩)) k
theorem gcallV {index : Nat} {C : String} {y z : MethodName} (hx : p.tables.exec = Jvm.exec) (wl : (Cond.methodLink own index y).before a0 Z = true) (wd : (Cond.declares y).before a0 Z = true) (nf : ∀ (U : State), Z.Warmed39 U.vm → NotFace U y) (wsel : (Cond.selects C y z).before a0 Z = true) (wi : (Cond.instanceMethod z).before a0 Z = true)
    (hy : y.cls ≠ "java/lang/invoke/MethodHandle" ∧ y.cls ≠ "java/lang/invoke/VarHandle") {W rc rs : Nat} {as' : Array Value} {Q' : Option Value → Vm → Heap → Prop} (hP : Z.Warmed39 vm → CHv Z EL vm h → EW Z a0 EL → Pay l R p e below s args Z EL vm h z 3 W as' rc rs Q')
    {pc : Nat} (pc' : Nat) {L : Array Slot} {S argsL rest : List Value} {a : Addr} (E : Exa Z h a C) (hlen : ∀ sig, parseMethodDescriptor y.desc = some sig → argsL.length = sig.parameters.length) (has : (.ref a :: argsL).toArray = as') (hstk : S = argsL.reverse ++ .ref a :: rest) (hW : (rest.map fun v => v.category).sum ≤ W) (hml : L.size = c.maxLocals)
    (hd : decode c.code pc = .ok (.invokevirtual index, 3)) (hp : pc + 3 = pc') (hc : cells + rc ≤ R.cells) (hs : slots + rs ≤ R.slots)
    (k : ∀ v vm' h', CHq Z EL vm h vm' h' → Q' v vm' h' → Go p l e R s m args below meth c Z a0 EL own Q vm' h' (cells + rc) (slots + rs) (mkF m pc' L (v.toList ++ rest))) : Go p l e R s m args below meth c Z a0 EL own Q vm h cells slots (mkF m pc L S) :=
  gback (y := z) (as' := as') (fun T locs X hZ hown eT H hEL => by
    subst has hp hstk
    obtain ⟨cB, kB, h1, h2, h3⟩ := isOf (s := s.setVm vm) hZ eT E
    exact X.virtualBackS (s := s.setVm vm) hx hown (mvT hZ wl) (mvT hZ wd) (nf _ hZ) (mvT hZ wsel) (mvT hZ wi) hy (hP hZ H hEL) h1 h3 (g := mkF m pc L _) rfl hml (Steps.refl _) hlen rfl (by show 2 * 0 + _ ≤ _; omega) hd (fun _ _ => ⟨rfl, eT, hc, hs⟩)) k
theorem nfSel {C : String} {y : MethodName} (w : (Cond.selects C y y).before a0 Z = true) : ∀ (U : State), Z.Warmed39 U.vm → NotFace U y := fun U hU => notFace_of_selects (args := #[]) (mvT hU w)
theorem gcallF {index count : Nat} {C : String} {xi y : MethodName} (hx : p.tables.exec = Jvm.exec) (wl : (Cond.methodLink own index xi).before a0 Z = true) (wd : (Cond.declares xi).before a0 Z = true) (wf : ∀ (U : State) (aa : Array Value), Z.Warmed39 U.vm → (Cond.interfaceMethod xi.cls xi.cls xi.name xi.desc).before aa U = true) (wsel : (Cond.selects C xi y).before a0 Z = true) (wi : (Cond.instanceMethod y).before a0 Z = true)
    (wp : (Cond.publicMethod y).before a0 Z = true) (wu : (Cond.unhidden C xi.name xi.desc).before a0 Z = true) (wca : (Cond.castable C xi.cls).before a0 Z = true)
    (hy : xi.cls ≠ "java/lang/invoke/MethodHandle" ∧ xi.cls ≠ "java/lang/invoke/VarHandle") {W rc rs : Nat} {as' : Array Value} {Q' : Option Value → Vm → Heap → Prop} (hP : Z.Warmed39 vm → CHv Z EL vm h → EW Z a0 EL → Pay l R p e below s args Z EL vm h y 5 W as' rc rs Q')
    {pc : Nat} (pc' : Nat) {L : Array Slot} {S argsL rest : List Value} {a : Addr} (E : Exa Z h a C) (hlen : ∀ sig, parseMethodDescriptor xi.desc = some sig → argsL.length = sig.parameters.length) (has : (.ref a :: argsL).toArray = as') (hstk : S = argsL.reverse ++ .ref a :: rest) (hW : (rest.map fun v => v.category).sum ≤ W) (hml : L.size = c.maxLocals)
    (hd : decode c.code pc = .ok (.invokeinterface index count, 5)) (hp : pc + 5 = pc') (hc : cells + rc ≤ R.cells) (hs : slots + rs ≤ R.slots)
    (k : ∀ v vm' h', CHq Z EL vm h vm' h' → Q' v vm' h' → Go p l e R s m args below meth c Z a0 EL own Q vm' h' (cells + rc) (slots + rs) (mkF m pc' L (v.toList ++ rest))) : Go p l e R s m args below meth c Z a0 EL own Q vm h cells slots (mkF m pc L S) :=
  gback (y := y) (as' := as') (fun T locs X hZ hown eT H hEL => by
    subst has hp hstk
    obtain ⟨cB, kB, h1, h2, h3⟩ := isOf (s := s.setVm vm) hZ eT E
    exact X.interfaceBackS (s := s.setVm vm) hx hown (mvT hZ wl) (mvT hZ wd) (wf _ _ hZ) (mvT hZ wsel) (mvT hZ wi) (mvT hZ wp) (mvT hZ wu) (mvT hZ wca) hy (hP hZ H hEL) h1 h2 h3 (g := mkF m pc L _) rfl hml (Steps.refl _) hlen rfl (by show 2 * 0 + _ ≤ _; omega) hd (fun _ _ => ⟨rfl, eT, hc, hs⟩)) k
theorem gcallP {index : Nat} {y : MethodName} {bytes : ByteArray} {maxL : Nat} {ret : Option FieldType} (hx : p.tables.exec = Jvm.exec) (wl : (Cond.methodLink own index y).before a0 Z = true) (wi : (Cond.instanceMethod y).before a0 Z = true) (wsel : (Cond.selects y.cls y y).before a0 Z = true) (wp : (Cond.privateMethod y).before a0 Z = true) (wc : (Cond.code y bytes maxL ret).before a0 Z = true)
    (hy : y.cls ≠ "java/lang/invoke/MethodHandle" ∧ y.cls ≠ "java/lang/invoke/VarHandle") {W rc rs : Nat} {as' : Array Value} {Q' : Option Value → Vm → Heap → Prop} (hP : Z.Warmed39 vm → CHv Z EL vm h → EW Z a0 EL → Pay l R p e below s args Z EL vm h y 3 W as' rc rs Q')
    {pc : Nat} (pc' : Nat) {L : Array Slot} {S argsL rest : List Value} {a : Addr} {K : String} (E : Exa Z h a K) (hlen : ∀ sig, parseMethodDescriptor y.desc = some sig → argsL.length = sig.parameters.length) (has : (.ref a :: argsL).toArray = as') (hstk : S = argsL.reverse ++ .ref a :: rest) (hW : (rest.map fun v => v.category).sum ≤ W) (hml : L.size = c.maxLocals)
    (hd : decode c.code pc = .ok (.invokevirtual index, 3)) (hp : pc + 3 = pc') (hc : cells + rc ≤ R.cells) (hs : slots + rs ≤ R.slots)
    (k : ∀ v vm' h', CHq Z EL vm h vm' h' → Q' v vm' h' → Go p l e R s m args below meth c Z a0 EL own Q vm' h' (cells + rc) (slots + rs) (mkF m pc' L (v.toList ++ rest))) : Go p l e R s m args below meth c Z a0 EL own Q vm h cells slots (mkF m pc L S) :=
  gback (y := y) (as' := as') (fun T locs X hZ hown eT H hEL => by
    subst has hp hstk
    obtain ⟨cq, q1, q2⟩ := E.cell
    exact X.privateBackS (s := s.setVm vm) hx hown (mvT hZ wl) (mvT hZ wi) (mvT hZ wsel) (Cond.privateMethod_at (mvP (s := s.setVm vm) hZ wp (args := #[]))) (mvT hZ wc) hy (hP hZ H hEL) (g := mkF m pc L _) rfl hml (Steps.refl _) (by rw [eT]; exact q1) q2 hlen rfl (by show 2 * 0 + _ ≤ _; omega) hd (fun _ _ => ⟨rfl, eT, hc, hs⟩)) k
/-- Object.<init> -/
theorem ginitO {idx : Nat} (hx : p.tables.exec = Jvm.exec) (w1 : (Cond.methodLink own idx Lib.objectInit).before a0 Z = true) (w2 : (Cond.instanceMethod Lib.objectInit).before a0 Z = true) (w3 : (Cond.code Lib.objectInit ⟨#[0xb1]⟩ 1 none).before a0 Z = true)
    {pc : Nat} (pc' : Nat) {L : Array Slot} {rest : List Value} {a : Addr} {W : Nat} (hW : (rest.map fun v => v.category).sum ≤ W) (hml : L.size = c.maxLocals) (hd : decode c.code pc = .ok (.invokespecial idx, 3)) (hp : pc + 3 = pc') (hf : 1 ≤ R.frames) (hl : W + 12 ≤ R.locals)
    (k : Go p l e R s m args below meth c Z a0 EL own Q vm h cells slots (mkF m pc' L rest)) : Go p l e R s m args below meth c Z a0 EL own Q vm h cells slots (mkF m pc L (.ref a :: rest)) :=
  gy _ (fun T locs X hZ hown eT => by
    subst hp
    exact initO (s := s.setVm vm) X hx hZ hown w1 w2 w3 eT (g := mkF m pc L (.ref a :: rest)) rfl hml rfl hd hf (W := W) (by show 2 * 0 + _ ≤ _; omega) hl) k
/-! fields -/
theorem ggetF {R0 O n d host : String} {index : Nat} (hx : p.tables.exec = Jvm.exec) (w : (Cond.fieldLink own index R0 n d).before a0 Z = true ∨ (Cond.fieldLinkNest own index R0 n d host).before a0 Z = true) (via : Via Z R0 O n d) {a : Addr} {v : Value} (F : Fld Z h a O n d v)
    {pc : Nat} (pc' : Nat) {L : Array Slot} {rest : List Value} (hd : decode c.code pc = .ok (.getfield index, 3)) (hp : pc + 3 = pc')
    (k : Go p l e R s m args below meth c Z a0 EL own Q vm h cells slots (mkF m pc' L (v :: rest))) : Go p l e R s m args below meth c Z a0 EL own Q vm h cells slots (mkF m pc L (.ref a :: rest)) :=
  gy _ (fun T locs X hZ hown eT => by
    subst hp
    exact getF (s := s.setVm vm) X hx hZ hown (host := host) w via eT F (g := mkF m pc L (.ref a :: rest)) rfl rfl hd) k
theorem ggetS {R0 O n d host : String} {index : Nat} (hx : p.tables.exec = Jvm.exec) (w : (Cond.fieldLink own index R0 n d).before a0 Z = true ∨ (Cond.fieldLinkNest own index R0 n d host).before a0 Z = true) (via : Via Z R0 O n d) {v : Value} (F : Sta Z Z.heap O n d v)
    {pc : Nat} (pc' : Nat) {L : Array Slot} {S : List Value} (hd : decode c.code pc = .ok (.getstatic index, 3)) (hp : pc + 3 = pc')
    (k : Go p l e R s m args below meth c Z a0 EL own Q vm h cells slots (mkF m pc' L (v :: S))) : Go p l e R s m args below meth c Z a0 EL own Q vm h cells slots (mkF m pc L S) :=
  ginfo fun _ _ E => gy _ (fun T locs X hZ hown eT => by
    subst hp
    exact getS2 (s := s.setVm vm) X hx hZ hown (host := host) w via eT (F.ext E) (g := mkF m pc L S) rfl hd) k
theorem gputF {R0 O n d host C : String} {index kk : Nat} {ty : FieldType} (hx : p.tables.exec = Jvm.exec) (w : (Cond.fieldLink own index R0 n d).before a0 Z = true ∨ (Cond.fieldLinkNest own index R0 n d host).before a0 Z = true) (via : Via Z R0 O n d) {a : Addr} {v old : Value} (F : Fld Z h a O n d old) (E : Exa Z h a C)
    (Lw : (Cond.lays C O n d).before a0 Z = true ∨ ((Cond.laysFinal C O n d).before a0 Z = true ∧ own = O ∧ meth.name = "<init>")) (wi : (Cond.instantiable C kk).before a0 Z = true) (hty : parseFieldDescriptor d = some ty) (hn : narrow ty v = v) (hf : fits ty v = true) (ha : Z.heap.size ≤ a) (hs : Z.vm.Alike vm → Safe Z EL vm h a)
    {pc : Nat} (pc' : Nat) {L : Array Slot} {rest : List Value} (hd : decode c.code pc = .ok (.putfield index, 3)) (hp : pc + 3 = pc')
    (k : ∀ h', Wr h h' a (Jvm.RoadKit.slotOf Z O n d) v → CHq Z EL vm h vm h' → Go p l e R s m args below meth c Z a0 EL own Q vm h' cells slots (mkF m pc' L rest)) : Go p l e R s m args below meth c Z a0 EL own Q vm h cells slots (mkF m pc L (v :: .ref a :: rest)) :=
  gwr _ ha hs (fun T locs X hZ hown eT => by
    subst hp
    exact putF (s := s.setVm vm) X hx hZ hown (host := host) w via eT F E Lw wi hty hn hf (g := mkF m pc L (v :: .ref a :: rest)) rfl rfl hd) k
/-! objects and arrays are made -/
theorem gnewO {C : String} {index n : Nat} (hx : p.tables.exec = Jvm.exec) (w : (Cond.classLink own index C).before a0 Z = true) (wi : (Cond.instantiable C n).before a0 Z = true) (wz : (Cond.initialized C).before a0 Z = true)
    {pc : Nat} (pc' : Nat) {L : Array Slot} {S : List Value} (hd : decode c.code pc = .ok (.new index, 3)) (hp : pc + 3 = pc') (hc : cells + 1 ≤ R.cells) (hl : slots + n ≤ R.slots)
    (k : ∀ (b : Addr) (h' : Heap), h.size = b → Ext h h' → CHq Z EL vm h vm h' → Exa Z h' b C → (∀ {O nm d : String} {ty : FieldType}, Laid Z a0 C O nm d → parseFieldDescriptor d = some ty → Fld Z h' b O nm d (defaultValue ty)) → Z.heap.size ≤ b → Safe Z EL vm h' b → Go p l e R s m args below meth c Z a0 EL own Q vm h' (cells + 1) (slots + n) (mkF m pc' L (.ref b :: S))) :
    Go p l e R s m args below meth c Z a0 EL own Q vm h cells slots (mkF m pc L S) :=
  gnew (P := fun h' => Exa Z h' h.size C ∧ ∀ (O nm d : String) (ty : FieldType), Laid Z a0 C O nm d → parseFieldDescriptor d = some ty → Fld Z h' h.size O nm d (defaultValue ty)) (fun _ => mkF m pc' L (.ref h.size :: S))
    (fun T locs X hZ hown eT => by
      subst hp
      obtain ⟨T', h', X', e', E, A, D, -, st⟩ := newO (s := s.setVm vm) X hx hZ hown w wi wz eT (g := mkF m pc L S) rfl hd hc hl
      exact ⟨T', h', X', e', E, ⟨A, fun _ _ _ _ q r => D q r⟩, st⟩)
    (fun h' E hC hP hz hs => k _ h' rfl E hC hP.1 (fun q r => hP.2 _ _ _ _ q r) hz hs)
theorem gnewR {C : String} {index : Nat} (hx : p.tables.exec = Jvm.exec) (w1 : (Cond.classLink own index C).before a0 Z = true) (w2 : (Cond.arrayOver (.object C)).before a0 Z = true) {n : Int32} (hn : ¬ n < 0) {cap : Nat} (hcap : n.toNatClampNeg ≤ cap) (hb : cap * 8 ≤ 536870912) {ad : String} (had : "[" ++ (FieldType.object C).toString = ad)
    {pc : Nat} (pc' : Nat) {L : Array Slot} {S : List Value} (hd : decode c.code pc = .ok (.anewarray index, 3)) (hp : pc + 3 = pc') (hc : cells + 1 ≤ R.cells) (hl : slots + cap ≤ R.slots)
    (k : ∀ (b : Addr) (h' : Heap) (cA : ClassId), h.size = b → Ext h h' → CHq Z EL vm h vm h' → Arv Z h' b cA (.object C) n [] .null → Exa Z h' b ad → Ovr Z cA C → Z.heap.size ≤ b → Safe Z EL vm h' b → Go p l e R s m args below meth c Z a0 EL own Q vm h' (cells + 1) (slots + cap) (mkF m pc' L (.ref b :: S))) :
    Go p l e R s m args below meth c Z a0 EL own Q vm h cells slots (mkF m pc L (.int n :: S)) :=
  gnew (P := fun h' => ∃ cA, Arv Z h' h.size cA (.object C) n [] .null ∧ Exa Z h' h.size ad ∧ Ovr Z cA C) (fun _ => mkF m pc' L (.ref h.size :: S))
    (fun T locs X hZ hown eT => by
      subst hp
      obtain ⟨T', h', cA, X', e', E, A, X1, O, st⟩ := newRE (s := s.setVm vm) X hx hZ hown w1 w2 eT (g := mkF m pc L (.int n :: S)) rfl hd rfl hn hcap hb hc hl had
      exact ⟨T', h', X', e', E, ⟨cA, Arv.new A hn, X1, O⟩, st⟩)
    (fun h' E hC hP hz hs => by obtain ⟨cA, V, X1, O⟩ := hP; exact k _ h' cA rfl E hC V X1 O hz hs)
/-! arrays are written and read -/
theorem gstC {a : Addr} {kc : ClassId} {n : Int32} {vs : List Value} {d : Value} {j x y : Int32} {i : Nat} (hx : p.tables.exec = Jvm.exec) (F : Arv Z h a kc .char n vs d) (hin : ¬ j < 0 ∧ j < n) (hj : j.toNatClampNeg = i) (hi : i < vs.length) (hy : nar .char x = y) (ha : Z.heap.size ≤ a)
    {pc : Nat} (pc' : Nat) {L : Array Slot} {rest : List Value} (hd : decode c.code pc = .ok (.castore, 1)) (hp : pc + 1 = pc')
    (k : ∀ h', Wr h h' a i (.int y) → CHq Z EL vm h vm h' → Arv Z h' a kc .char n (vs.set i (.int y)) d → Go p l e R s m args below meth c Z a0 EL own Q vm h' cells slots (mkF m pc' L rest)) : Go p l e R s m args below meth c Z a0 EL own Q vm h cells slots (mkF m pc L (.int x :: .int j :: .ref a :: rest)) := by
  subst hy hj hp
  obtain ⟨cl, Ar, q1, q2, q3, q4, q5⟩ := F
  exact gwr _ ha (fun al => Safe.arr al Ar (by decide)) (fun T locs X hZ hown eT => stC (s := s.setVm vm) X hx hZ eT Ar (j := j) (inb_of q2 hin) (g := mkF m pc L (.int x :: .int j :: .ref a :: rest)) rfl rfl hd) fun h' W hC => k h' W hC (Arv.set Ar q1 q2 q3 q4 q5 (fits_nar_char _) W _ rfl hi)
theorem gstB {a : Addr} {kc : ClassId} {n : Int32} {vs : List Value} {d : Value} {j x y : Int32} {i : Nat} (hx : p.tables.exec = Jvm.exec) (F : Arv Z h a kc .byte n vs d) (hin : ¬ j < 0 ∧ j < n) (hj : j.toNatClampNeg = i) (hi : i < vs.length) (hy : nar .byte x = y) (ha : Z.heap.size ≤ a) (hs : Z.vm.Alike vm → Safe Z EL vm h a)
    {pc : Nat} (pc' : Nat) {L : Array Slot} {rest : List Value} (hd : decode c.code pc = .ok (.bastore, 1)) (hp : pc + 1 = pc')
    (k : ∀ h', Wr h h' a i (.int y) → CHq Z EL vm h vm h' → Arv Z h' a kc .byte n (vs.set i (.int y)) d → Go p l e R s m args below meth c Z a0 EL own Q vm h' cells slots (mkF m pc' L rest)) : Go p l e R s m args below meth c Z a0 EL own Q vm h cells slots (mkF m pc L (.int x :: .int j :: .ref a :: rest)) := by
  subst hy hj hp
  obtain ⟨cl, Ar, q1, q2, q3, q4, q5⟩ := F
  exact gwr _ ha hs (fun T locs X hZ hown eT => stB (s := s.setVm vm) X hx hZ eT Ar (j := j) (inb_of q2 hin) (g := mkF m pc L (.int x :: .int j :: .ref a :: rest)) rfl rfl hd) fun h' W hC => k h' W hC (Arv.set Ar q1 q2 q3 q4 q5 (fits_nar_byte _) W _ rfl hi)
theorem gstR {a : Addr} {kc : ClassId} {C : String} {n : Int32} {vs : List Value} {d v : Value} {j : Int32} {i : Nat} (hx : p.tables.exec = Jvm.exec) (F : Arv Z h a kc (.object C) n vs d) (hin : ¬ j < 0 ∧ j < n) (hj : j.toNatClampNeg = i) (hi : i < vs.length) (S : Sto Z h a v) (hv : v.isRef = true) (ha : Z.heap.size ≤ a)
    {pc : Nat} (pc' : Nat) {L : Array Slot} {rest : List Value} (hd : decode c.code pc = .ok (.aastore, 1)) (hp : pc + 1 = pc')
    (k : ∀ h', Wr h h' a i v → CHq Z EL vm h vm h' → Arv Z h' a kc (.object C) n (vs.set i v) d → Go p l e R s m args below meth c Z a0 EL own Q vm h' cells slots (mkF m pc' L rest)) : Go p l e R s m args below meth c Z a0 EL own Q vm h cells slots (mkF m pc L (v :: .int j :: .ref a :: rest)) := by
  subst hj hp
  obtain ⟨cl, Ar, q1, q2, q3, q4, q5⟩ := F
  exact gwr _ ha (fun al => Safe.arr al Ar nofun) (fun T locs X hZ hown eT => stR (s := s.setVm vm) X hx hZ eT Ar (j := j) (inb_of q2 hin) rfl S (g := mkF m pc L (v :: .int j :: .ref a :: rest)) rfl rfl hd) fun h' W hC => k h' W hC (Arv.set Ar q1 q2 q3 q4 q5 (by cases v <;> first | rfl | (cases hv; done)) W _ rfl hi)
theorem gldC {a : Addr} {kc : ClassId} {n : Int32} {vs : List Value} {d v : Value} {j : Int32} {i : Nat} (hx : p.tables.exec = Jvm.exec) (F : Arv Z h a kc .char n vs d) (hin : ¬ j < 0 ∧ j < n) (hj : j.toNatClampNeg = i) (hv : vs.getD i d = v)
    {pc : Nat} (pc' : Nat) {L : Array Slot} {rest : List Value} (hd : decode c.code pc = .ok (.caload, 1)) (hp : pc + 1 = pc')
    (k : Go p l e R s m args below meth c Z a0 EL own Q vm h cells slots (mkF m pc' L (v :: rest))) : Go p l e R s m args below meth c Z a0 EL own Q vm h cells slots (mkF m pc L (.int j :: .ref a :: rest)) := by
  subst hj hp
  obtain ⟨cl, Ar, q1, q2, q3, q4, q5⟩ := F
  exact gx _ (fun T locs X hZ hown eT => X.caload (s := s.setVm vm) hx (by rw [eT]; exact Ar.1) (State.isArrayOf_alike hZ.alike Ar.2.1) Ar.2.2 (inb_of q2 hin) (q4.at (inb_of q2 hin) hv) (g := mkF m pc L (.int j :: .ref a :: rest)) rfl rfl hd) k
theorem gldB {a : Addr} {kc : ClassId} {n : Int32} {vs : List Value} {d v : Value} {j : Int32} {i : Nat} (hx : p.tables.exec = Jvm.exec) (F : Arv Z h a kc .byte n vs d) (hin : ¬ j < 0 ∧ j < n) (hj : j.toNatClampNeg = i) (hv : vs.getD i d = v)
    {pc : Nat} (pc' : Nat) {L : Array Slot} {rest : List Value} (hd : decode c.code pc = .ok (.baload, 1)) (hp : pc + 1 = pc')
    (k : Go p l e R s m args below meth c Z a0 EL own Q vm h cells slots (mkF m pc' L (v :: rest))) : Go p l e R s m args below meth c Z a0 EL own Q vm h cells slots (mkF m pc L (.int j :: .ref a :: rest)) := by
  subst hj hp
  obtain ⟨cl, Ar, q1, q2, q3, q4, q5⟩ := F
  exact gx _ (fun T locs X hZ hown eT => X.baloadBytes (s := s.setVm vm) hx (by rw [eT]; exact Ar.1) (State.isArrayOf_alike hZ.alike Ar.2.1) Ar.2.2 (inb_of q2 hin) (q4.at (inb_of q2 hin) hv) (g := mkF m pc L (.int j :: .ref a :: rest)) rfl rfl hd) k
theorem gldI {a : Addr} {kc : ClassId} {n : Int32} {vs : List Value} {d v : Value} {j : Int32} {i : Nat} (hx : p.tables.exec = Jvm.exec) (F : Arv Z h a kc .int n vs d) (hin : ¬ j < 0 ∧ j < n) (hj : j.toNatClampNeg = i) (hv : vs.getD i d = v)
    {pc : Nat} (pc' : Nat) {L : Array Slot} {rest : List Value} (hd : decode c.code pc = .ok (.iaload, 1)) (hp : pc + 1 = pc')
    (k : Go p l e R s m args below meth c Z a0 EL own Q vm h cells slots (mkF m pc' L (v :: rest))) : Go p l e R s m args below meth c Z a0 EL own Q vm h cells slots (mkF m pc L (.int j :: .ref a :: rest)) := by
  subst hj hp
  obtain ⟨cl, Ar, q1, q2, q3, q4, q5⟩ := F
  exact gx _ (fun T locs X hZ hown eT => X.iaload (s := s.setVm vm) hx (by rw [eT]; exact Ar.1) (State.isArrayOf_alike hZ.alike Ar.2.1) Ar.2.2 (inb_of q2 hin) (q4.at (inb_of q2 hin) hv) (g := mkF m pc L (.int j :: .ref a :: rest)) rfl rfl hd) k
theorem gldR {a : Addr} {kc : ClassId} {C : String} {n : Int32} {vs : List Value} {d v : Value} {j : Int32} {i : Nat} (hx : p.tables.exec = Jvm.exec) (F : Arv Z h a kc (.object C) n vs d) (hin : ¬ j < 0 ∧ j < n) (hj : j.toNatClampNeg = i) (hv : vs.getD i d = v)
    {pc : Nat} (pc' : Nat) {L : Array Slot} {rest : List Value} (hd : decode c.code pc = .ok (.aaload, 1)) (hp : pc + 1 = pc')
    (k : Go p l e R s m args below meth c Z a0 EL own Q vm h cells slots (mkF m pc' L (v :: rest))) : Go p l e R s m args below meth c Z a0 EL own Q vm h cells slots (mkF m pc L (.int j :: .ref a :: rest)) := by
  subst hj hp
  obtain ⟨cl, Ar, q1, q2, q3, q4, q5⟩ := F
  exact gx _ (fun T locs X hZ hown eT => X.aaload (s := s.setVm vm) hx (by rw [eT]; exact Ar.1) (State.isArrayOf_alike hZ.alike Ar.2.1) rfl Ar.2.2 (inb_of q2 hin) (q4.at (inb_of q2 hin) hv) (g := mkF m pc L (.int j :: .ref a :: rest)) rfl rfl hd) k
theorem glen {a : Addr} {kc : ClassId} {ty : FieldType} {n : Int32} {vs : List Value} {d : Value} (hx : p.tables.exec = Jvm.exec) (F : Arv Z h a kc ty n vs d)
    {pc : Nat} (pc' : Nat) {L : Array Slot} {rest : List Value} (hd : decode c.code pc = .ok (.arraylength, 1)) (hp : pc + 1 = pc')
    (k : Go p l e R s m args below meth c Z a0 EL own Q vm h cells slots (mkF m pc' L (.int n :: rest))) : Go p l e R s m args below meth c Z a0 EL own Q vm h cells slots (mkF m pc L (.ref a :: rest)) := by
  subst hp
  obtain ⟨cl, Ar, q1, q2, q3, q4, q5⟩ := F
  exact gx _ (fun T locs X hZ hown eT t kk => X.arraylength (s := s.setVm vm) hx (by rw [eT]; exact Ar.1) (State.isArrayOf_alike hZ.alike Ar.2.1) (g := mkF m pc L (.ref a :: rest)) rfl rfl hd t (by rw [len_of q2 q3]; exact kk)) k
/-! casts, constants -/
theorem gcast {K : String} {index : Nat} (hx : p.tables.exec = Jvm.exec) (w : (Cond.classLink own index K).before a0 Z = true) {a : Addr} (F : Ins Z h a K true) {pc : Nat} (pc' : Nat) {L : Array Slot} {rest : List Value} (hd : decode c.code pc = .ok (.checkcast index, 3)) (hp : pc + 3 = pc')
    (k : Go p l e R s m args below meth c Z a0 EL own Q vm h cells slots (mkF m pc' L (.ref a :: rest))) : Go p l e R s m args below meth c Z a0 EL own Q vm h cells slots (mkF m pc L (.ref a :: rest)) :=
  gy _ (fun T locs X hZ hown eT => by
    subst hp
    exact castY (s := s.setVm vm) X hx hZ hown w eT F (g := mkF m pc L (.ref a :: rest)) rfl rfl hd) k
theorem ginstN {K C : String} {index : Nat} (hx : p.tables.exec = Jvm.exec) (w : (Cond.classLink own index K).before a0 Z = true) {a : Addr} (E : Exa Z h a C) (F : ∃ c t, Z.vm.findClass C = some c ∧ Z.vm.findClass K = some t ∧ Z.vm.assignable c t = false) {pc : Nat} (pc' : Nat) {L : Array Slot} {rest : List Value} (hd : decode c.code pc = .ok (.instanceof index, 3)) (hp : pc + 3 = pc')
    (k : Go p l e R s m args below meth c Z a0 EL own Q vm h cells slots (mkF m pc' L (.int 0 :: rest))) : Go p l e R s m args below meth c Z a0 EL own Q vm h cells slots (mkF m pc L (.ref a :: rest)) :=
  gy _ (fun T locs X hZ hown eT => by
    subst hp
    exact instNo (s := s.setVm vm) X hx hZ hown w eT E F (g := mkF m pc L (.ref a :: rest)) rfl rfl hd) k
end Kit2
end Jvm.OwnKit
namespace Jvm.OwnKit
open Sem ClassFile Op Lib Bundle Jvm.Stand Jvm.Free Jvm.LawKit Jvm.RoadKit
section Kit3
variable {p : Program} {l : Launch} {e : Env} {R : Room} {s : State} {m : MethodId} {args : Array Value} {below : List Frame} {meth : Method} {c : Code} {Z : State} {a0 : Array Value} {EL : List (String × Nat)} {own : String} {Q : Option Value → Vm → Heap → Prop} {vm : Vm} {h h' : Heap} {cells slots : Nat} {g : JFrame}
theorem gi2c {x y : Int32} (hx : p.tables.exec = Jvm.exec) (hy : x.toUInt32.toUInt16.toUInt32.toInt32 = y) {pc : Nat} (pc' : Nat) {L : Array Slot} {rest : List Value} (hd : decode c.code pc = .ok (.i2c, 1)) (hp : pc + 1 = pc')
    (k : Go p l e R s m args below meth c Z a0 EL own Q vm h cells slots (mkF m pc' L (.int y :: rest))) : Go p l e R s m args below meth c Z a0 EL own Q vm h cells slots (mkF m pc L (.int x :: rest)) := by
  subst hy hp
  exact gs _ (fun _ _ A k => XS.i2c A hx rfl hd rfl k) k
theorem narC (x : Int32) : nar .char (x &&& 255) = x &&& 255 := i2c_mask x
theorem narC2 (x : Int32) : nar .char (x.toUInt32.toUInt16.toUInt32.toInt32) = x.toUInt32.toUInt16.toUInt32.toInt32 := by
  show (x.toUInt32.toUInt16.toUInt32.toInt32).toUInt32.toUInt16.toUInt32.toInt32 = _
  simp only [UInt32.toUInt32_toInt32, UInt16.toUInt16_toUInt32]
/-- a char of 0 to 255 -/
def B8 (c : Int32) : Prop := ¬ c < 0 ∧ ¬ (255 : Int32) < c
theorem b255 (x : Int32) : B8 (x &&& 255) := by
  have h := c_mask x 255 8 (by decide) (by decide)
  have e1 : (0 : Int32).toInt = 0 := rfl
  have e2 : (255 : Int32).toInt = 255 := rfl
  refine ⟨?_, ?_⟩
  · rw [Int32.lt_iff_toInt_lt, h, e1]; omega
  · rw [Int32.lt_iff_toInt_lt, h, e2]; omega
theorem bnil : ∀ c ∈ ([] : List Int32), B8 c := fun _ q => nomatch q
theorem bcons {a : Int32} {L : List Int32} (q : B8 a) (r : ∀ c ∈ L, B8 c) : ∀ c ∈ a :: L, B8 c := fun c z => (List.mem_cons.mp z).elim (fun u => u ▸ q) (r c)
/-- an ordinary Latin-1 String and its bytes -/
def Str (Z : State) (h : Heap) (a t : Addr) (cs : List Int32) : Prop := Exa Z h a "java/lang/String" ∧ Fld Z h a "java/lang/String" "coder" "B" (.int 0) ∧ Fld Z h a "java/lang/String" "value" "[B" (.ref t) ∧
  (∃ kb, Arv Z h t kb .byte (Int32.ofNat cs.length) ((cs.map fun c => c.toInt8.toInt32).map Value.int) (.int 0)) ∧ (∀ c ∈ cs, B8 c) ∧ cs.length ≤ 4000
variable {a t o : Addr} {cs : List Int32} {ws : List Addr} {sl : Nat} {v : Value}
theorem Str.ext (F : Str Z h a t cs) (E : Ext h h') : Str Z h' a t cs := by
  obtain ⟨f1, f2, f3, ⟨kb, f4⟩, f5⟩ := F
  exact ⟨f1.ext E, f2.ext E, f3.ext E, ⟨kb, f4.ext E⟩, f5⟩
theorem Str.keep (F : Str Z h a t cs) (K : Keep h h' ws) (q : a ∉ ws) (r : t ∉ ws) : Str Z h' a t cs := by
  obtain ⟨f1, f2, f3, ⟨kb, f4⟩, f5⟩ := F
  exact ⟨f1.keep K, f2.keep K q, f3.keep K q, ⟨kb, f4.keep K r⟩, f5⟩
theorem Str.other (F : Str Z h a t cs) (W : Wr h h' o sl v) (q : a ≠ o) (r : t ≠ o) : Str Z h' a t cs := by
  obtain ⟨f1, f2, f3, ⟨kb, f4⟩, f5⟩ := F
  exact ⟨f1.wr W, f2.other W (Or.inl q), f3.other W (Or.inl q), ⟨kb, f4.other W r⟩, f5⟩
theorem Str.tlt (F : Str Z h a t cs) : t < h.size := by
  obtain ⟨f1, f2, f3, ⟨kb, f4⟩, f5⟩ := F
  exact f4.lt
theorem Arv.sto {kc : ClassId} {C : String} {n : Int32} {vs : List Value} {d : Value} {y : Addr} (F : Arv Z h a kc (.object C) n vs d) (O : Ovr Z kc C) (I : Ins Z h y C true) : Sto Z h a (.ref y) := by
  obtain ⟨cl, Ar, q1, -⟩ := F
  exact Sto.ofV Ar q1 O I
end Kit3
end Jvm.OwnKit
namespace Jvm.OwnKit
open Sem ClassFile Op Lib Bundle Jvm.Stand Jvm.Free Jvm.LawKit Jvm.RoadKit
section Kit4
variable {p : Program} {l : Launch} {e : Env} {R : Room} {s : State} {m : MethodId} {args : Array Value} {below : List Frame} {meth : Method} {c : Code} {Z : State} {a0 : Array Value} {EL : List (String × Nat)} {own : String} {Q : Option Value → Vm → Heap → Prop} {vm : Vm} {h h' : Heap} {cells slots : Nat} {g : JFrame}
/-- roads that meet -/
theorem gjoin (P : Vm → Heap → JFrame → Prop) (cells' slots' : Nat) (k1 : ∀ vm' h' g', P vm' h' g' → Go p l e R s m args below meth c Z a0 EL own Q vm' h' cells' slots' g')
    (k2 : (∀ vm' h' g', P vm' h' g' → Go p l e R s m args below meth c Z a0 EL own Q vm' h' cells' slots' g') → Go p l e R s m args below meth c Z a0 EL own Q vm h cells slots g) : Go p l e R s m args below meth c Z a0 EL own Q vm h cells slots g := k2 k1
/-- C's chain of superclasses doesn't meet an instantiable K -/
theorem NSroot {O K : String} {n : Nat} (w : (Cond.noSuperclass O).before a0 Z = true) (wk : (Cond.instantiable K n).before a0 Z = true) (hn : O ≠ K) : NS Z O K := by
  obtain ⟨c, k, h1, h2, h3, -, -⟩ := Cond.noSuperclass_spec w
  obtain ⟨t, k', g1, g2, g3, g4, -⟩ := Cond.instantiable_spec wk
  have ne := ids_ne h1 g1 hn
  refine ⟨c, t, h1, g1, fun fuel => ?_⟩
  cases fuel with
  | zero => rfl
  | succ f => simp [Vm.isSubclassAux, ne, h2, h3]
theorem NSno {C S K : String} {n : Nat} (w : (Cond.superclass C S).before a0 Z = true) (wk : (Cond.instantiable K n).before a0 Z = true) (nn : NS Z C K) (hn : C ≠ K) : ∃ c t, Z.vm.findClass C = some c ∧ Z.vm.findClass K = some t ∧ Z.vm.assignable c t = false := by
  obtain ⟨c, t, h0, g0, n3⟩ := nn
  obtain ⟨p, k, kp, h1, h2, h3, h4, h5, -, h7⟩ := Cond.superclass_spec h0 w
  obtain ⟨t', k', g1, g2, g3, g4, -⟩ := Cond.instantiable_spec wk
  cases g0.symm.trans g1
  have ne := ids_ne h0 g0 hn
  have g5 : k'.isInterface = false := by cases hq : k'.isInterface <;> simp [hq] at g4 ⊢
  refine ⟨c, t, h0, g0, ?_⟩
  show Z.vm.assignableAux (255 + 1) c t = false
  simp [Vm.assignableAux, ne, h2, g2, h5, g3, g5, Vm.isSubclass, n3]
variable {b : Addr} {cs : List Int32} {ws : List Addr} {sl : Nat} {v : Value} {o : Addr}
theorem narB (x : Int32) : nar .byte (x.toInt8.toInt32) = x.toInt8.toInt32 := by
  show (x.toInt8.toInt32).toInt8.toInt32 = _
  simp
/-! out of the case's words -/
theorem eqI {t : Term} {x y : Int32} {idx : List Nat} (h1 : t.eval args s none idx s = some (.int x)) (h2 : (Cond.eq t (Term.int y)).value args s none s idx = some true) : x = y := by simpa [Cond.value, Term.eval, h1] using h2
theorem lenlt {t : Term} {v : Value} {aa : Addr} {cl : Cell} (h : (Term.length t).eval args s none [] s = some v) (ht : t.eval args s none [] s = some (.ref aa)) (hA : s.arrayAt? aa = some cl) : cl.slots.size < 2 ^ 31 := by
  apply Decidable.byContradiction
  intro hb
  simp [Term.eval, ht, hA, hb] at h
theorem lenI {t : Term} {n : Int32} {aa : Addr} {cl : Cell} (w : (Cond.eq (Term.length t) (Term.int n)).value args s none s [] = some true) (ht : t.eval args s none [] s = some (.ref aa)) (hA : s.arrayAt? aa = some cl) : cl.slots.size < 2 ^ 31 ∧ cl.slots.size.toInt32 = n := by
  obtain ⟨x, y, f1, f2, -, -⟩ := cmp_v (Or.inl w)
  have hb := lenlt f1 ht hA
  exact ⟨hb, eqI (len_f ht hA hb) w⟩
theorem elI {t : Term} {aa : Addr} {cl : Cell} {j y : Int32} (ht : t.eval args s none [] s = some (.ref aa)) (hc : s.heap[aa]? = some cl) (w : (Cond.eq (Term.elem t (Term.int j)) (Term.int y)).value args s none s [] = some true) : cl.slots[j.toNatClampNeg]? = some (.int y) := by
  obtain ⟨x, y', e1, e2, k1, k2⟩ := cmp_v (Or.inl w)
  cases (Option.some.inj e2 : Value.int y = y')
  obtain ⟨z, rfl⟩ := k2
  have := eqI e1 w
  subst this
  exact (elem_in e1 ht rfl hc).2
theorem fldI {t : Term} {aa : Addr} {C n d : String} {y : Int32} (ht : t.eval args s none [] s = some (.ref aa)) (w : (Cond.eq (Term.field t C n d) (Term.int y)).value args s none s [] = some true) : Fld s s.heap aa C n d (.int y) := by
  obtain ⟨x, y', e1, e2, k1, k2⟩ := cmp_v (Or.inl w)
  cases (Option.some.inj e2 : Value.int y = y')
  obtain ⟨z, rfl⟩ := k2
  have := eqI e1 w
  subst this
  exact Fld.start ((fld_at ht).symm.trans e1)
theorem Str.start {t : Term} {cs : List Int32} {n : Int32} {aa : Addr} (hf : Fit s) (ev : t.eval args s none [] s = some (.ref aa)) (wE : (Cond.exactly t "java/lang/String").value args s none s [] = some true) (wC : (Cond.eq (Term.field t "java/lang/String" "coder" "B") (Term.int 0)).value args s none s [] = some true)
    (wA : (Cond.arrayOf (Term.field t "java/lang/String" "value" "[B") .byte).value args s none s [] = some true) (wL : (Cond.eq (Term.length (Term.field t "java/lang/String" "value" "[B")) (Term.int n)).value args s none s [] = some true) (hn : n = Int32.ofNat cs.length) (hl : cs.length ≤ 4000) (hb : ∀ c ∈ cs, B8 c)
    (H : ∀ (tt : Addr) (cl : Cell), (Term.field t "java/lang/String" "value" "[B").eval args s none [] s = some (.ref tt) → s.heap[tt]? = some cl → HasL cl 0 ((cs.map fun c => c.toInt8.toInt32).map Value.int)) : ∃ tt, Str s s.heap aa tt cs := by
  obtain ⟨tt, et⟩ := arr_v wA
  obtain ⟨cl, Ar⟩ := Arr.start et wA
  have hA : s.arrayAt? tt = some cl := Ar.fin (Vm.Alike.refl _)
  obtain ⟨h1, h2⟩ := lenI wL et hA
  have hz : ¬ n < 0 := by rw [hn, Int32.lt_iff_toInt_lt, Int32.toInt_ofNat_of_lt (by omega)]; simp
  have hz2 : n.toNatClampNeg = cs.length := by rw [hn, Int32.toNatClampNeg, Int32.toInt_ofNat_of_lt (by omega)]; rfl
  refine ⟨tt, Exa.start ev wE, fldI ev wC, Fld.start ((fld_at ev).symm.trans et), ⟨cl.cls, ?_⟩, hb, hl⟩
  rw [← hn]
  exact Arv.start hf Ar h1 h2 hz (by rw [hz2]; simp) (H tt cl et Ar.1)
end Kit4
end Jvm.OwnKit
namespace Jvm.OwnKit
open Sem ClassFile Op Lib Bundle Jvm.Stand Jvm.Free Jvm.LawKit Jvm.RoadKit
section Kit5
variable {p : Program} {l : Launch} {e : Env} {R : Room} {s : State} {m : MethodId} {args : Array Value} {below : List Frame} {meth : Method} {c : Code} {Z : State} {a0 : Array Value} {EL : List (String × Nat)} {own : String} {Q : Option Value → Vm → Heap → Prop} {vm : Vm} {h h' : Heap} {cells slots : Nat} {g : JFrame}
/-- a private method reached by invokevirtual, the word 'selects' at the receiver's class -/
theorem nfSame {C : String} {y y' : MethodName} (w : (Cond.selects C y' y').before a0 Z = true) (wi : (Cond.instanceMethod y').before a0 Z = true) (he : y'.cls = y.cls) : ∀ (U : State), Z.Warmed39 U.vm → NotFace U y := fun U hU r0 h0 => by
  have n1 : NotFace U y' := notFace_of_selects (args := #[]) (mvT hU w)
  obtain ⟨mk, mM, hn, -⟩ := Cond.instanceMethod_spec (show (Cond.instanceMethod y').before #[] U = true from mvT hU wi)
  obtain ⟨kr, h1, h2⟩ := n1 mk hn
  have e1 := findClass_of_methodNamed hn
  have e2 := findClass_of_methodNamed h0
  rw [he] at e1
  have e3 := Option.some.inj (e1.symm.trans e2)
  exact ⟨kr, by rw [← e3]; exact h1, h2⟩
/-! arrays of bytes are copied -/
theorem tn {n : Nat} (h : n < 2147483648) : (Int32.ofNat n).toNatClampNeg = n := by rw [Int32.toNatClampNeg, Int32.toInt_ofNat_of_lt (by omega)]; rfl
theorem nn0 {n : Nat} (h : n < 2147483648) : ¬ Int32.ofNat n < 0 := by rw [Int32.lt_iff_toInt_lt, Int32.toInt_ofNat_of_lt (by omega)]; simp
theorem range_get (vs : List Value) (dv : Value) (i n : Nat) (hn : i + n ≤ vs.length) : (vs.drop i).take n = (List.range n).map fun t => vs.getD (i + t) dv := by
  apply List.ext_getElem
  · simp; omega
  · intro t h1 h2
    simp at h1 h2
    simp [List.getD_eq_getElem?_getD, List.getElem?_eq_getElem (show i + t < vs.length by omega)]
/-! a StringBuilder of Latin-1 signs -/
variable {b v t o : Addr} {cap : Nat} {cs ds : List Int32} {ws : List Addr} {sl : Nat} {w : Value}
theorem shr0 {a : Nat} (h : a ≤ 4000) : (Int32.ofNat a >>> ((0 : Int32) &&& 31)) = Int32.ofNat a := by
  apply Int32.toInt_inj.mp
  rw [c_ishr _ 0 0 (by decide)]; simp
end Kit5
end Jvm.OwnKit
namespace Jvm.OwnKit
open Sem ClassFile Op Lib Bundle Jvm.Stand Jvm.Free Jvm.LawKit Jvm.RoadKit
section Kit6
variable {p : Program} {l : Launch} {e : Env} {R : Room} {s : State} {m : MethodId} {args : Array Value} {below : List Frame} {meth : Method} {c : Code} {Z : State} {a0 : Array Value} {EL : List (String × Nat)} {own : String} {Q : Option Value → Vm → Heap → Prop} {vm : Vm} {h h' : Heap} {cells slots : Nat} {g : JFrame}
/-- a private method reached by invokevirtual, the word 'selects' at the receiver's class -/
theorem gldcM {C : String} {index : Nat} {mr : Addr} (hx : p.tables.exec = Jvm.exec) (w : (Cond.classLink own index C).before a0 Z = true) (M : Mir Z C mr) {pc : Nat} (pc' : Nat) {L : Array Slot} {S : List Value} (hd : decode c.code pc = .ok (.ldc index, 2)) (hp : pc + 2 = pc')
    (k : Go p l e R s m args below meth c Z a0 EL own Q vm h cells slots (mkF m pc' L (.ref mr :: S))) : Go p l e R s m args below meth c Z a0 EL own Q vm h cells slots (mkF m pc L S) :=
  gy _ (fun T locs X hZ hown eT => by
    subst hp
    obtain ⟨cc, kc, m1, m2, m3, -⟩ := M
    obtain ⟨k', q, ek⟩ := hZ.alike.2.2 _ _ m2
    have f1 : vm.findClass C = some cc := by rw [hZ.alike.findClass]; exact m1
    have f3 : k'.mirror = some mr := by rw [ek]; exact m3
    have hev : (Term.mirror C).eval args (s.setVm vm) none [] (s.setVm vm) = some (.ref mr) := by simp [Term.eval, f1, q, f3]
    obtain ⟨vm', X', st⟩ := X.ldcMirror hx hown (mv (s := s.setVm vm) hZ w) hev (g := mkF m pc L S) rfl hd
    exact ⟨_, X', eT, st⟩) k
theorem ggcls {C : String} {index : Nat} {mr a : Addr} (hx : p.tables.exec = Jvm.exec) (w1 : (Cond.methodLink own index ⟨"java/lang/Object", "getClass", "()Ljava/lang/Class;"⟩).before a0 Z = true) (w2 : (Cond.declares ⟨"java/lang/Object", "getClass", "()Ljava/lang/Class;"⟩).before a0 Z = true) (w3 : (Cond.noSuperclass "java/lang/Object").before a0 Z = true) (w4 : (Cond.selects C ⟨"java/lang/Object", "getClass", "()Ljava/lang/Class;"⟩ ⟨"java/lang/Object", "getClass", "()Ljava/lang/Class;"⟩).before a0 Z = true)
    (w5 : (Cond.instanceMethod ⟨"java/lang/Object", "getClass", "()Ljava/lang/Class;"⟩).before a0 Z = true) (w6 : (Cond.native ⟨"java/lang/Object", "getClass", "()Ljava/lang/Class;"⟩).before a0 Z = true) (E : Exa Z h a C) (M : Mir Z C mr)
    {pc : Nat} (pc' : Nat) {L : Array Slot} {rest : List Value} {W : Nat} (hW : (rest.map fun v => v.category).sum ≤ W) (hml : L.size = c.maxLocals) (hd : decode c.code pc = .ok (.invokevirtual index, 3)) (hp : pc + 3 = pc') (hf : 1 ≤ R.frames) (hlo : W + (nativeFrameWords "java/lang/Object" "getClass" 1 + 11) ≤ R.locals)
    (k : Go p l e R s m args below meth c Z a0 EL own Q vm h cells slots (mkF m pc' L (.ref mr :: rest))) : Go p l e R s m args below meth c Z a0 EL own Q vm h cells slots (mkF m pc L (.ref a :: rest)) :=
  gy _ (fun T locs X hZ hown eT => by
    subst hp
    exact gcls (s := s.setVm vm) X hx hZ hown w1 w2 w3 w4 w5 w6 eT E M (g := mkF m pc L (.ref a :: rest)) rfl hml rfl hd hf (W := W) (by show 2 * 0 + _ ≤ _; omega) hlo) k
theorem gcopyR {index : Nat} (hx : p.tables.exec = Jvm.exec) (w1 : (Cond.methodLink own index Jvm.Stand.acN).before a0 Z = true) (w2 : (Cond.native Jvm.Stand.acN).before a0 Z = true) (w3 : (Cond.static Jvm.Stand.acN).before a0 Z = true) (w4 : (Cond.initialized "java/lang/System").before a0 Z = true)
    {Ca Cb : String} {a b : Addr} {ka kb : ClassId} {z z' sp dp nn : Int32} {vs vd : List Value} {dv dd : Value} (i j n N M : Nat) (A : Arv Z h a ka (.object Ca) z vs dv) (B : Arv Z h b kb (.object Cb) z' vd dd) (hsp : sp = Int32.ofNat i) (hdp : dp = Int32.ofNat j) (hnn : nn = Int32.ofNat n) (hz : z = Int32.ofNat N) (hz' : z' = Int32.ofNat M)
    (hN : N < 2147483648) (hM : M < 2147483648) (h4 : i + n ≤ N) (h5 : j + n ≤ M) (hvs : vs.length = N) (hvd : vd.length = M) (hsto : StoL Z h b ((vs.drop i).take n)) (ge : Z.heap.size ≤ b) (hs : Z.vm.Alike vm → Safe Z EL vm h b)
    {pc : Nat} (pc' : Nat) {L : Array Slot} {rest : List Value} {W : Nat} (hW : (rest.map fun v => v.category).sum ≤ W) (hml : L.size = c.maxLocals) (hd : decode c.code pc = .ok (.invokestatic index, 3)) (hp : pc + 3 = pc') (hf : 1 ≤ R.frames) (hlo : W + 18 ≤ R.locals)
    (k : ∀ h', Keep h h' [b] → CHq Z EL vm h vm h' → Arv Z h' b kb (.object Cb) z' (vd.take j ++ (vs.drop i).take n ++ vd.drop (j + n)) dd → Go p l e R s m args below meth c Z a0 EL own Q vm h' cells slots (mkF m pc' L rest)) :
    Go p l e R s m args below meth c Z a0 EL own Q vm h cells slots (mkF m pc L (.int nn :: .int dp :: .ref b :: .int sp :: .ref a :: rest)) := fun T X => by
  subst hp hsp hdp hnn hz hz'
  obtain ⟨locs, k0, X', eT, hZ, hown, hS, hk, N0, H, E0, hEL, hx', hlk⟩ := X
  have ti : (Int32.ofNat i).toNatClampNeg = i := tn (by omega)
  have tj : (Int32.ofNat j).toNatClampNeg = j := tn (by omega)
  have tnn : (Int32.ofNat n).toNatClampNeg = n := tn (by omega)
  obtain ⟨T', h', L', X1, e1, F1, K1, V1, st⟩ := cpA (s := s.setVm vm) X' hx hZ hown w1 w2 w3 w4 eT A B (Or.inr ⟨rfl, rfl, hsto⟩) (nn0 (by omega)) (nn0 (by omega)) (nn0 (by omega)) (by rw [ti, tnn, tn hN]; exact h4) (by rw [tj, tnn, tn hM]; exact h5) (us := (vs.drop i).take n) (by rw [ti, tnn]; exact range_get vs dv i n (by omega)) (by rw [tj, tnn]; omega) N0 ge
    (g := mkF m pc L (.int (Int32.ofNat n) :: .int (Int32.ofNat j) :: .ref b :: .int (Int32.ofNat i) :: .ref a :: rest)) rfl hml rfl hd hf (W := W) (by show 2 * 0 + _ ≤ _; omega) (by show W + (7 + 11) ≤ _; omega)
  rw [tj, tnn] at V1
  have C1 : CHq Z EL vm h vm h' := CHq.keep K1 (allS (hs hZ.alike) all0) H.1
  obtain ⟨s2, o, q1, q2⟩ := k h' K1 C1 V1 T' ⟨L', k0, X1, e1, hZ, hown, hS, Nat.le_trans hk K1.1, F1, H.trans C1, E0, hEL, hx', hlk⟩
  exact ⟨s2, o, st _ q1, q2⟩
theorem NSroot3 {O K C : String} {x y : MethodName} (w : (Cond.noSuperclass O).before a0 Z = true) (wk : (Cond.selects C x y).before a0 Z = true) (hy : y.cls = K) (hn : O ≠ K) : NS Z O K := by
  obtain ⟨c, k, h1, h2, h3, -, -⟩ := Cond.noSuperclass_spec w
  obtain ⟨_, _, mm, -, -, q3, -, mk, q5, q6⟩ := Cond.selects_spec wk
  have g1 := findClass_of_methodNamed q3
  rw [hy] at g1
  have ne := ids_ne h1 g1 hn
  refine ⟨c, mm.cls, h1, g1, fun fuel => ?_⟩
  cases fuel with
  | zero => rfl
  | succ f => simp [Vm.isSubclassAux, ne, h2, h3]
theorem NSno3 {C S K D : String} {x y : MethodName} (w : (Cond.superclass C S).before a0 Z = true) (wk : (Cond.selects D x y).before a0 Z = true) (hy : y.cls = K) (nn : NS Z C K) (hn : C ≠ K) : ∃ c t, Z.vm.findClass C = some c ∧ Z.vm.findClass K = some t ∧ Z.vm.assignable c t = false := by
  obtain ⟨c, t, h0, g0, n3⟩ := nn
  obtain ⟨p, k, kp, h1, h2, h3, h4, h5, -, h7⟩ := Cond.superclass_spec h0 w
  obtain ⟨_, _, mm, -, -, q3, -, mk, q5, q6⟩ := Cond.selects_spec wk
  have g1 := findClass_of_methodNamed q3
  rw [hy] at g1
  cases g0.symm.trans g1
  have ne := ids_ne h0 g0 hn
  refine ⟨c, _, h0, g0, ?_⟩
  show Z.vm.assignableAux (255 + 1) c _ = false
  cases hk : mk.kind <;> simp [Vm.assignableAux, ne, h2, q5, h5, hk, q6, Vm.isSubclass, n3]
theorem gnewPE {aty : ArrayType} {ad : String} (hx : p.tables.exec = Jvm.exec) (w : (Cond.arrayClass (newarray.typeOf aty)).before a0 Z = true) {n : Int32} (hn : ¬ n < 0) {cap : Nat} (hcap : n.toNatClampNeg ≤ cap) (hb : cap * 8 ≤ 536870912) (had : "[" ++ (newarray.typeOf aty).toString = ad)
    {pc : Nat} (pc' : Nat) {L : Array Slot} {S : List Value} (hd : decode c.code pc = .ok (.newarray aty, 2)) (hp : pc + 2 = pc') (hc : cells + 1 ≤ R.cells) (hl : slots + cap ≤ R.slots)
    (k : ∀ (b : Addr) (h' : Heap) (cA : ClassId), h.size = b → Ext h h' → CHq Z EL vm h vm h' → Arv Z h' b cA (newarray.typeOf aty) n [] (defaultValue (newarray.typeOf aty)) → Exa Z h' b ad → Z.heap.size ≤ b → Safe Z EL vm h' b → Go p l e R s m args below meth c Z a0 EL own Q vm h' (cells + 1) (slots + cap) (mkF m pc' L (.ref b :: S))) :
    Go p l e R s m args below meth c Z a0 EL own Q vm h cells slots (mkF m pc L (.int n :: S)) :=
  gnew (P := fun h' => ∃ cA, Arv Z h' h.size cA (newarray.typeOf aty) n [] (defaultValue (newarray.typeOf aty)) ∧ Exa Z h' h.size ad) (fun _ => mkF m pc' L (.ref h.size :: S))
    (fun T locs X hZ hown eT => by
      subst hp
      obtain ⟨T', h', cA, X', e', E, A, XE, st⟩ := newPE (s := s.setVm vm) X hx hZ w eT (g := mkF m pc L (.int n :: S)) rfl hd rfl hn hcap hb hc hl had
      exact ⟨T', h', X', e', E, ⟨cA, Arv.new A hn, XE⟩, st⟩)
    (fun h' E hC hP hz hs => by obtain ⟨cA, V, XE⟩ := hP; exact k _ h' cA rfl E hC V XE hz hs)
end Kit6
end Jvm.OwnKit
namespace Jvm.OwnKit
open Sem ClassFile Op Lib Bundle Jvm.Stand Jvm.Free Jvm.LawKit Jvm.RoadKit
section Kit7
variable {p : Program} {l : Launch} {e : Env} {R : Room} {s : State} {m : MethodId} {args : Array Value} {below : List Frame} {meth : Method} {c : Code} {Z : State} {a0 : Array Value} {EL : List (String × Nat)} {own : String} {Q : Option Value → Vm → Heap → Prop} {vm : Vm} {h h' : Heap} {cells slots : Nat} {g : JFrame}
end Kit7
end Jvm.OwnKit
namespace Jvm.OwnKit
open Sem ClassFile Op Lib Bundle Jvm.Stand Jvm.Free Jvm.LawKit Jvm.RoadKit
section Kit8
variable {p : Program} {l : Launch} {e : Env} {R : Room} {s : State} {m : MethodId} {args : Array Value} {below : List Frame} {meth : Method} {c : Code} {Z : State} {a0 : Array Value} {EL : List (String × Nat)} {own : String} {Q : Option Value → Vm → Heap → Prop} {vm : Vm} {h h' : Heap} {cells slots : Nat} {g : JFrame}
variable {bytes : ByteArray} {pc n : Nat} {nf : Fin 4} {L : Array Slot} {S : List Value} {v : Value} {z y : Int32} {i : Int}
theorem uA (pc' : Nat) (hx : p.tables.exec = Jvm.exec) (hby : c.code = bytes) (hd : decode bytes pc = .ok (.aload n, 2)) (hp : pc + 2 = pc') (hl : L[n]? = some (.val v)) (hv : v.isRef = true) (k : Go p l e R s m args below meth c Z a0 EL own Q vm h cells slots (mkF m pc' L (v :: S))) : Go p l e R s m args below meth c Z a0 EL own Q vm h cells slots (mkF m pc L S) := by
  subst hp
  exact gs _ (fun _ _ A kq => XS.aload A hx rfl (hb hby hd) hl hv kq) k
theorem uAN (pc' : Nat) (hx : p.tables.exec = Jvm.exec) (hby : c.code = bytes) (hd : decode bytes pc = .ok (.aload_n nf, 1)) (hp : pc + 1 = pc') (hl : L[nf.val]? = some (.val v)) (hv : v.isRef = true) (k : Go p l e R s m args below meth c Z a0 EL own Q vm h cells slots (mkF m pc' L (v :: S))) : Go p l e R s m args below meth c Z a0 EL own Q vm h cells slots (mkF m pc L S) := by
  subst hp
  exact gs _ (fun _ _ A kq => XS.aloadN A hx rfl (hb hby hd) hl hv kq) k
theorem uI (pc' : Nat) (hx : p.tables.exec = Jvm.exec) (hby : c.code = bytes) (hd : decode bytes pc = .ok (.iload n, 2)) (hp : pc + 2 = pc') (hl : L[n]? = some (.val (.int z))) (k : Go p l e R s m args below meth c Z a0 EL own Q vm h cells slots (mkF m pc' L (.int z :: S))) : Go p l e R s m args below meth c Z a0 EL own Q vm h cells slots (mkF m pc L S) := by
  subst hp
  exact gs _ (fun _ _ A kq => XS.iload A hx rfl (hb hby hd) hl kq) k
theorem uIN (pc' : Nat) (hx : p.tables.exec = Jvm.exec) (hby : c.code = bytes) (hd : decode bytes pc = .ok (.iload_n nf, 1)) (hp : pc + 1 = pc') (hl : L[nf.val]? = some (.val (.int z))) (k : Go p l e R s m args below meth c Z a0 EL own Q vm h cells slots (mkF m pc' L (.int z :: S))) : Go p l e R s m args below meth c Z a0 EL own Q vm h cells slots (mkF m pc L S) := by
  subst hp
  exact gs _ (fun _ _ A kq => XS.iloadN A hx rfl (hb hby hd) hl kq) k
theorem uD (pc' : Nat) (hx : p.tables.exec = Jvm.exec) (hby : c.code = bytes) (hd : decode bytes pc = .ok (.dup, 1)) (hp : pc + 1 = pc') (hc : v.category = 1) (k : Go p l e R s m args below meth c Z a0 EL own Q vm h cells slots (mkF m pc' L (v :: v :: S))) : Go p l e R s m args below meth c Z a0 EL own Q vm h cells slots (mkF m pc L (v :: S)) := by
  subst hp
  exact gs _ (fun _ _ A kq => XS.dup A hx rfl (hb hby hd) rfl hc kq) k
theorem uP (pc' : Nat) (hx : p.tables.exec = Jvm.exec) (hby : c.code = bytes) (hd : decode bytes pc = .ok (.pop, 1)) (hp : pc + 1 = pc') (hc : v.category = 1) (k : Go p l e R s m args below meth c Z a0 EL own Q vm h cells slots (mkF m pc' L S)) : Go p l e R s m args below meth c Z a0 EL own Q vm h cells slots (mkF m pc L (v :: S)) := by
  subst hp
  exact gs _ (fun _ _ A kq => XS.pop A hx rfl (hb hby hd) rfl hc kq) k
theorem uU (pc' : Nat) (hx : p.tables.exec = Jvm.exec) (hby : c.code = bytes) (hd : decode bytes pc = .ok (.aconst_null, 1)) (hp : pc + 1 = pc') (k : Go p l e R s m args below meth c Z a0 EL own Q vm h cells slots (mkF m pc' L (.null :: S))) : Go p l e R s m args below meth c Z a0 EL own Q vm h cells slots (mkF m pc L S) := by
  subst hp
  exact gs _ (fun _ _ A kq => XS.aconstNull A hx rfl (hb hby hd) kq) k
theorem uG (pc' : Nat) (hx : p.tables.exec = Jvm.exec) (hby : c.code = bytes) (hd : decode bytes pc = .ok (.goto i, 3)) (ho : 0 ≤ (pc : Int) + i) (hp : ((pc : Int) + i).toNat = pc') (k : Go p l e R s m args below meth c Z a0 EL own Q vm h cells slots (mkF m pc' L S)) : Go p l e R s m args below meth c Z a0 EL own Q vm h cells slots (mkF m pc L S) := gs _ (fun _ _ A kq => XS.goto A hx rfl (pc0 := pc) (pc' := pc') rfl (hb hby hd) ho hp kq) k
theorem gcallVU {index : Nat} {C owner : String} {y z : MethodName} (hx : p.tables.exec = Jvm.exec) (wl : (Cond.methodLink own index y).before a0 Z = true) (wsm : (Cond.sameMethod y.cls owner y.name y.desc).before a0 Z = true) (wd : (Cond.declares ⟨owner, y.name, y.desc⟩).before a0 Z = true) (wsel : (Cond.selects C y z).before a0 Z = true) (wi : (Cond.instanceMethod z).before a0 Z = true)
    (hy : owner ≠ "java/lang/invoke/MethodHandle" ∧ owner ≠ "java/lang/invoke/VarHandle") {W rc rs : Nat} {as' : Array Value} {Q' : Option Value → Vm → Heap → Prop} (hP : Z.Warmed39 vm → CHv Z EL vm h → EW Z a0 EL → Pay l R p e below s args Z EL vm h z 3 W as' rc rs Q')
    {pc : Nat} (pc' : Nat) {L : Array Slot} {S argsL rest : List Value} {a : Addr} (E : Exa Z h a C) (hlen : ∀ sig, parseMethodDescriptor y.desc = some sig → argsL.length = sig.parameters.length) (has : (.ref a :: argsL).toArray = as') (hstk : S = argsL.reverse ++ .ref a :: rest) (hW : (rest.map fun v => v.category).sum ≤ W) (hml : L.size = c.maxLocals)
    (hd : decode c.code pc = .ok (.invokevirtual index, 3)) (hp : pc + 3 = pc') (hc : cells + rc ≤ R.cells) (hs : slots + rs ≤ R.slots)
    (k : ∀ v vm' h', CHq Z EL vm h vm' h' → Q' v vm' h' → Go p l e R s m args below meth c Z a0 EL own Q vm' h' (cells + rc) (slots + rs) (mkF m pc' L (v.toList ++ rest))) : Go p l e R s m args below meth c Z a0 EL own Q vm h cells slots (mkF m pc L S) :=
  gback (y := z) (as' := as') (fun T locs X hZ hown eT H hEL => by
    subst has hp hstk
    obtain ⟨cB, kB, h1, h2, h3⟩ := isOf (s := s.setVm vm) hZ eT E
    exact X.virtualBackUpS (s := s.setVm vm) hx hown (mvT hZ wl) (mvT hZ wsm) (mvT hZ wd) hy (mvT hZ wsel) (mvT hZ wi) (hP hZ H hEL) h1 h3 (g := mkF m pc L _) rfl hml (Steps.refl _) hlen rfl (by show 2 * 0 + _ ≤ _; omega) hd (fun _ _ => ⟨rfl, eT, hc, hs⟩)) k
end Kit8
end Jvm.OwnKit
namespace Jvm.OwnKit
open Sem ClassFile Op Lib Bundle Jvm.Stand Jvm.Free Jvm.LawKit Jvm.RoadKit
section Kit9
variable {p : Program} {l : Launch} {e : Env} {R : Room} {s : State} {m : MethodId} {args : Array Value} {below : List Frame} {meth : Method} {c : Code} {Z : State} {a0 : Array Value} {EL : List (String × Nat)} {own : String} {Q : Option Value → Vm → Heap → Prop} {vm : Vm} {h h' : Heap} {cells slots : Nat} {g : JFrame}
variable {bytes : ByteArray} {pc n : Nat} {nf : Fin 4} {L : Array Slot} {S : List Value} {v : Value} {z y : Int32} {i : Int}
variable {cd : ClassFile.Cond} {b : Addr}
theorem uKc (pc' : Nat) (z : Int32) (hx : p.tables.exec = Jvm.exec) (hby : c.code = bytes) (hd : decode bytes pc = .ok (.iconst i, 1)) (hp : pc + 1 = pc') (hz : Int32.ofInt i = z) (k : Go p l e R s m args below meth c Z a0 EL own Q vm h cells slots (mkF m pc' L (.int z :: S))) : Go p l e R s m args below meth c Z a0 EL own Q vm h cells slots (mkF m pc L S) := by
  subst hp hz
  exact gs _ (fun _ _ A kq => XS.iconst A hx rfl (hb hby hd) kq) k
theorem uKb (pc' : Nat) (z : Int32) (hx : p.tables.exec = Jvm.exec) (hby : c.code = bytes) (hd : decode bytes pc = .ok (.bipush i, 2)) (hp : pc + 2 = pc') (hz : (Int8.ofInt i).toInt32 = z) (k : Go p l e R s m args below meth c Z a0 EL own Q vm h cells slots (mkF m pc' L (.int z :: S))) : Go p l e R s m args below meth c Z a0 EL own Q vm h cells slots (mkF m pc L S) := by
  subst hp hz
  exact gs _ (fun _ _ A kq => XS.bipush A hx rfl (hb hby hd) kq) k
theorem uKs (pc' : Nat) (z : Int32) (hx : p.tables.exec = Jvm.exec) (hby : c.code = bytes) (hd : decode bytes pc = .ok (.sipush i, 3)) (hp : pc + 3 = pc') (hz : (Int16.ofInt i).toInt32 = z) (k : Go p l e R s m args below meth c Z a0 EL own Q vm h cells slots (mkF m pc' L (.int z :: S))) : Go p l e R s m args below meth c Z a0 EL own Q vm h cells slots (mkF m pc L S) := by
  subst hp hz
  exact gs _ (fun _ _ A kq => XS.sipush A hx rfl (hb hby hd) kq) k
theorem uiadd (pc' : Nat) (w : Int32) (hx : p.tables.exec = Jvm.exec) (hby : c.code = bytes) (hd : decode bytes pc = .ok (.iadd, 1)) (hp : pc + 1 = pc') (hw : z + y = w) (k : Go p l e R s m args below meth c Z a0 EL own Q vm h cells slots (mkF m pc' L (.int w :: S))) : Go p l e R s m args below meth c Z a0 EL own Q vm h cells slots (mkF m pc L (.int y :: .int z :: S)) := by
  subst hp hw
  exact gs _ (fun _ _ A kq => XS.iadd A hx rfl (hb hby hd) rfl kq) k
theorem uisub (pc' : Nat) (w : Int32) (hx : p.tables.exec = Jvm.exec) (hby : c.code = bytes) (hd : decode bytes pc = .ok (.isub, 1)) (hp : pc + 1 = pc') (hw : z - y = w) (k : Go p l e R s m args below meth c Z a0 EL own Q vm h cells slots (mkF m pc' L (.int w :: S))) : Go p l e R s m args below meth c Z a0 EL own Q vm h cells slots (mkF m pc L (.int y :: .int z :: S)) := by
  subst hp hw
  exact gs _ (fun _ _ A kq => XS.isub A hx rfl (hb hby hd) rfl kq) k
theorem uimul (pc' : Nat) (w : Int32) (hx : p.tables.exec = Jvm.exec) (hby : c.code = bytes) (hd : decode bytes pc = .ok (.imul, 1)) (hp : pc + 1 = pc') (hw : z * y = w) (k : Go p l e R s m args below meth c Z a0 EL own Q vm h cells slots (mkF m pc' L (.int w :: S))) : Go p l e R s m args below meth c Z a0 EL own Q vm h cells slots (mkF m pc L (.int y :: .int z :: S)) := by
  subst hp hw
  exact gs _ (fun _ _ A kq => XS.imul A hx rfl (hb hby hd) rfl kq) k
theorem uiand (pc' : Nat) (w : Int32) (hx : p.tables.exec = Jvm.exec) (hby : c.code = bytes) (hd : decode bytes pc = .ok (.iand, 1)) (hp : pc + 1 = pc') (hw : z &&& y = w) (k : Go p l e R s m args below meth c Z a0 EL own Q vm h cells slots (mkF m pc' L (.int w :: S))) : Go p l e R s m args below meth c Z a0 EL own Q vm h cells slots (mkF m pc L (.int y :: .int z :: S)) := by
  subst hp hw
  exact gs _ (fun _ _ A kq => XS.iand A hx rfl (hb hby hd) rfl kq) k
theorem uSI (pc' : Nat) (L' : Array Slot) (hx : p.tables.exec = Jvm.exec) (hby : c.code = bytes) (hd : decode bytes pc = .ok (.istore n, 2)) (hp : pc + 2 = pc') (hl : storeLocals L n (.int z) = some L') (k : Go p l e R s m args below meth c Z a0 EL own Q vm h cells slots (mkF m pc' L' S)) : Go p l e R s m args below meth c Z a0 EL own Q vm h cells slots (mkF m pc L (.int z :: S)) := by
  subst hp
  exact gs _ (fun _ _ A kq => XS.istore A hx rfl (hb hby hd) rfl hl kq) k
theorem uSIN (pc' : Nat) (L' : Array Slot) (hx : p.tables.exec = Jvm.exec) (hby : c.code = bytes) (hd : decode bytes pc = .ok (.istore_n nf, 1)) (hp : pc + 1 = pc') (hl : storeLocals L nf.val (.int z) = some L') (k : Go p l e R s m args below meth c Z a0 EL own Q vm h cells slots (mkF m pc' L' S)) : Go p l e R s m args below meth c Z a0 EL own Q vm h cells slots (mkF m pc L (.int z :: S)) := by
  subst hp
  exact gs _ (fun _ _ A kq => XS.istoreN A hx rfl (hb hby hd) rfl hl kq) k
theorem uSA (pc' : Nat) (L' : Array Slot) (hx : p.tables.exec = Jvm.exec) (hby : c.code = bytes) (hd : decode bytes pc = .ok (.astore n, 2)) (hp : pc + 2 = pc') (hv : v.isRef = true) (hl : storeLocals L n v = some L') (k : Go p l e R s m args below meth c Z a0 EL own Q vm h cells slots (mkF m pc' L' S)) : Go p l e R s m args below meth c Z a0 EL own Q vm h cells slots (mkF m pc L (v :: S)) := by
  subst hp
  exact gs _ (fun _ _ A kq => XS.astore A hx rfl (hb hby hd) rfl hv hl kq) k
theorem uSAN (pc' : Nat) (L' : Array Slot) (hx : p.tables.exec = Jvm.exec) (hby : c.code = bytes) (hd : decode bytes pc = .ok (.astore_n nf, 1)) (hp : pc + 1 = pc') (hv : v.isRef = true) (hl : storeLocals L nf.val v = some L') (k : Go p l e R s m args below meth c Z a0 EL own Q vm h cells slots (mkF m pc' L' S)) : Go p l e R s m args below meth c Z a0 EL own Q vm h cells slots (mkF m pc L (v :: S)) := by
  subst hp
  exact gs _ (fun _ _ A kq => XS.astoreN A hx rfl (hb hby hd) rfl hv hl kq) k
theorem uInc (pc' : Nat) (L' : Array Slot) (hx : p.tables.exec = Jvm.exec) (hby : c.code = bytes) (hd : decode bytes pc = .ok (.iinc n i, 3)) (hp : pc + 3 = pc') (hl : L[n]? = some (.val (.int z))) (hl' : storeLocals L n (.int (z + Int32.ofInt i)) = some L') (k : Go p l e R s m args below meth c Z a0 EL own Q vm h cells slots (mkF m pc' L' S)) : Go p l e R s m args below meth c Z a0 EL own Q vm h cells slots (mkF m pc L S) := by
  subst hp
  exact gs _ (fun _ _ A kq => XS.iinc A hx rfl (hb hby hd) hl hl' kq) k
theorem uN (pc' : Nat) (hx : p.tables.exec = Jvm.exec) (hby : c.code = bytes) (hd : decode bytes pc = .ok (.ifCond cd i, 3)) (hp : pc + 3 = pc') (hc : ifCond.holds cd z = false) (k : Go p l e R s m args below meth c Z a0 EL own Q vm h cells slots (mkF m pc' L S)) : Go p l e R s m args below meth c Z a0 EL own Q vm h cells slots (mkF m pc L (.int z :: S)) := by
  subst hp
  exact gs _ (fun _ _ A kq => XS.ifNo A hx rfl (hb hby hd) rfl hc kq) k
theorem uNc (pc' : Nat) (hx : p.tables.exec = Jvm.exec) (hby : c.code = bytes) (hd : decode bytes pc = .ok (.if_icmp cd i, 3)) (hp : pc + 3 = pc') (hc : if_icmp.holds cd z y = false) (k : Go p l e R s m args below meth c Z a0 EL own Q vm h cells slots (mkF m pc' L S)) : Go p l e R s m args below meth c Z a0 EL own Q vm h cells slots (mkF m pc L (.int y :: .int z :: S)) := by
  subst hp
  exact gs _ (fun _ _ A kq => XS.icmpNo A hx rfl (hb hby hd) rfl hc kq) k
theorem uN0 (pc' : Nat) (hx : p.tables.exec = Jvm.exec) (hby : c.code = bytes) (hd : decode bytes pc = .ok (.ifnull i, 3)) (hp : pc + 3 = pc') (k : Go p l e R s m args below meth c Z a0 EL own Q vm h cells slots (mkF m pc' L S)) : Go p l e R s m args below meth c Z a0 EL own Q vm h cells slots (mkF m pc L (.ref b :: S)) := by
  subst hp
  exact gs _ (fun _ _ A kq => XS.ifnullNo A hx rfl (hb hby hd) rfl kq) k
theorem uN1 (pc' : Nat) (hx : p.tables.exec = Jvm.exec) (hby : c.code = bytes) (hd : decode bytes pc = .ok (.ifnonnull i, 3)) (hp : pc + 3 = pc') (k : Go p l e R s m args below meth c Z a0 EL own Q vm h cells slots (mkF m pc' L S)) : Go p l e R s m args below meth c Z a0 EL own Q vm h cells slots (mkF m pc L (.null :: S)) := by
  subst hp
  exact gs _ (fun _ _ A kq => XS.ifnonnullNo A hx rfl (hb hby hd) rfl kq) k
theorem uY (pc' : Nat) (hx : p.tables.exec = Jvm.exec) (hby : c.code = bytes) (hd : decode bytes pc = .ok (.ifCond cd i, 3)) (hc : ifCond.holds cd z = true) (ho : 0 ≤ (pc : Int) + i) (hp : ((pc : Int) + i).toNat = pc') (k : Go p l e R s m args below meth c Z a0 EL own Q vm h cells slots (mkF m pc' L S)) : Go p l e R s m args below meth c Z a0 EL own Q vm h cells slots (mkF m pc L (.int z :: S)) := gs _ (fun _ _ A kq => XS.ifYes A hx rfl (pc0 := pc) (pc' := pc') rfl (hb hby hd) rfl hc ho hp kq) k
theorem uYc (pc' : Nat) (hx : p.tables.exec = Jvm.exec) (hby : c.code = bytes) (hd : decode bytes pc = .ok (.if_icmp cd i, 3)) (hc : if_icmp.holds cd z y = true) (ho : 0 ≤ (pc : Int) + i) (hp : ((pc : Int) + i).toNat = pc') (k : Go p l e R s m args below meth c Z a0 EL own Q vm h cells slots (mkF m pc' L S)) : Go p l e R s m args below meth c Z a0 EL own Q vm h cells slots (mkF m pc L (.int y :: .int z :: S)) := gs _ (fun _ _ A kq => XS.icmpYes A hx rfl (pc0 := pc) (pc' := pc') rfl (hb hby hd) rfl hc ho hp kq) k
theorem uY0 (pc' : Nat) (hx : p.tables.exec = Jvm.exec) (hby : c.code = bytes) (hd : decode bytes pc = .ok (.ifnull i, 3)) (ho : 0 ≤ (pc : Int) + i) (hp : ((pc : Int) + i).toNat = pc') (k : Go p l e R s m args below meth c Z a0 EL own Q vm h cells slots (mkF m pc' L S)) : Go p l e R s m args below meth c Z a0 EL own Q vm h cells slots (mkF m pc L (.null :: S)) := gs _ (fun _ _ A kq => XS.ifnullYes A hx rfl (pc0 := pc) (pc' := pc') rfl (hb hby hd) rfl ho hp kq) k
theorem uY1 (pc' : Nat) (hx : p.tables.exec = Jvm.exec) (hby : c.code = bytes) (hd : decode bytes pc = .ok (.ifnonnull i, 3)) (ho : 0 ≤ (pc : Int) + i) (hp : ((pc : Int) + i).toNat = pc') (k : Go p l e R s m args below meth c Z a0 EL own Q vm h cells slots (mkF m pc' L S)) : Go p l e R s m args below meth c Z a0 EL own Q vm h cells slots (mkF m pc L (.ref b :: S)) := gs _ (fun _ _ A kq => XS.ifnonnullYes A hx rfl (pc0 := pc) (pc' := pc') rfl (hb hby hd) rfl ho hp kq) k
theorem gat1 (k : Go p l e R s m args below meth c Z a0 EL own Q vm h cells slots (mkF m pc L (v :: S))) : Go p l e R s m args below meth c Z a0 EL own Q vm h cells slots (mkF m pc L ((some v).toList ++ S)) := k
theorem gat0 (k : Go p l e R s m args below meth c Z a0 EL own Q vm h cells slots (mkF m pc L S)) : Go p l e R s m args below meth c Z a0 EL own Q vm h cells slots (mkF m pc L ((none : Option Value).toList ++ S)) := k
end Kit9
end Jvm.OwnKit
/- laws to paste: Road.lenW, Road.codOf (cut by pick.py; bodies as the Statement names them) -/
namespace Jvm.Pilot.@@N@@
namespace StrChars
open Jvm Sem ClassFile Op Lib Jvm.Stand Jvm.Free.XT Jvm.Free.ALB Jvm.Free.JM Jvm.Free
open Jvm.Lib.Cold (StaticIs)
/-- a char array whose places are chars -/
def Ch (a : Addr) (A : Cell) (U : State) : Prop := Arr .char a A U ∧ Typed .char A
theorem Ch.mv {a : Addr} {A : Cell} {U U' : State} (h : Ch a A U) (hal : U.vm.Alike U'.vm) (hh : U'.heap = U.heap) : Ch a A U' := ⟨h.1.mv hal hh, h.2⟩
theorem Ch.keep {a : Addr} {A : Cell} {U U' : State} (h : Ch a A U) (hal : U.vm.Alike U'.vm) (hk : U'.heap[a]? = some A) : Ch a A U' := ⟨h.1.keep hal hk, h.2⟩
/-- what place i of a char[]'s cell holds -/
def cv (A : Cell) (i : Nat) : Int32 := match A.slots[i]? with | some (.int x) => x | _ => 0
theorem Ch.get {a : Addr} {A : Cell} {U : State} (h : Ch a A U) {i : Nat} (hi : i < A.slots.size) : A.slots[i]? = some (.int (cv A i)) := by
  have e := Array.getElem?_eq_getElem hi
  have f := h.2 i _ e
  unfold cv; rw [e]
  generalize A.slots[i] = v at f
  cases v <;> simp [fits] at f ⊢
/-- the byte that i2b leaves of a char -/
def lo8 (x : Int32) : Int32 := x.toInt8.toInt32
theorem fits_lo8 (y : Int32) : fits .byte (.int (lo8 y)) = true := by
  have h1 := y.toInt8.le_toInt
  have h2 := y.toInt8.toInt_lt
  simp only [lo8, fits, Bool.and_eq_true, decide_eq_true_eq, Int32.le_iff_toInt_le, Int8.toInt_toInt32, show (-128 : Int32).toInt = -128 from by decide, show (127 : Int32).toInt = 127 from by decide]
  omega
/-- A' is A but that each place j of lo .. hi - 1 holds f j -/
def Laid (A A' : Cell) (lo hi : Nat) (f : Nat → Value) : Prop := A'.cls = A.cls ∧ A'.vm = A.vm ∧ A'.slots.size = A.slots.size ∧ ∀ i, A'.slots[i]? = if lo ≤ i ∧ i < hi then some (f i) else A.slots[i]?
theorem Laid.zero (A : Cell) (lo : Nat) (f : Nat → Value) : Laid A A lo (lo + 0) f := ⟨rfl, rfl, rfl, fun i => by rw [if_neg (by omega)]⟩
theorem Laid.step {A Ak : Cell} {lo k : Nat} {f : Nat → Value} {v : Value} (h : Laid A Ak lo k f) (hlo : lo ≤ k) (hk : k < Ak.slots.size) (hv : v = f k) : Laid A (Ak.setSlot k v) lo (k + 1) f := by
  refine ⟨h.1, h.2.1, by simpa [Cell.setSlot] using h.2.2.1, fun i => ?_⟩
  by_cases e : k = i
  · subst e; rw [Cell.slots_setSlot_self v hk, if_pos (by omega), hv]
  · rw [Cell.slots_setSlot_ne v e, h.2.2.2 i]
    by_cases q : lo ≤ i ∧ i < k
    · rw [if_pos q, if_pos (by omega)]
    · rw [if_neg q, if_neg (by omega)]
def U16 : String := "java/lang/StringUTF16"
namespace Cmp5
def yN : MethodName := ⟨"java/lang/StringUTF16", "compress", "([CI[BII)I"⟩
abbrev yB : ByteArray := jdk_52_method_21_code
theorem d0 : decode yB 0 = .ok (.iconst 0, 1) := by decide +kernel
theorem d1 : decode yB 1 = .ok (.istore 5, 2) := by decide +kernel
theorem d3 : decode yB 3 = .ok (.iload 5, 2) := by decide +kernel
theorem d5 : decode yB 5 = .ok (.iload 4, 2) := by decide +kernel
theorem d7 : decode yB 7 = .ok (.if_icmp (.ge) 37, 3) := by decide +kernel
theorem d10 : decode yB 10 = .ok (.aload_n 0, 1) := by decide +kernel
theorem d11 : decode yB 11 = .ok (.iload_n 1, 1) := by decide +kernel
theorem d12 : decode yB 12 = .ok (.caload, 1) := by decide +kernel
theorem d13 : decode yB 13 = .ok (.istore 6, 2) := by decide +kernel
theorem d15 : decode yB 15 = .ok (.iload 6, 2) := by decide +kernel
theorem d17 : decode yB 17 = .ok (.sipush 255, 3) := by decide +kernel
theorem d20 : decode yB 20 = .ok (.if_icmp (.le) 6, 3) := by decide +kernel
theorem d26 : decode yB 26 = .ok (.aload_n 2, 1) := by decide +kernel
theorem d27 : decode yB 27 = .ok (.iload_n 3, 1) := by decide +kernel
theorem d28 : decode yB 28 = .ok (.iload 6, 2) := by decide +kernel
theorem d30 : decode yB 30 = .ok (.i2b, 1) := by decide +kernel
theorem d31 : decode yB 31 = .ok (.bastore, 1) := by decide +kernel
theorem d32 : decode yB 32 = .ok (.iinc 1 1, 3) := by decide +kernel
theorem d35 : decode yB 35 = .ok (.iinc 3 1, 3) := by decide +kernel
theorem d38 : decode yB 38 = .ok (.iinc 5 1, 3) := by decide +kernel
theorem d41 : decode yB 41 = .ok (.goto (-38), 3) := by decide +kernel
theorem d44 : decode yB 44 = .ok (.iload 4, 2) := by decide +kernel
theorem d46 : decode yB 46 = .ok (.ireturn, 1) := by decide +kernel
def site : List Cond := []
def tab : Cond := tabOf yN yB 7 (some .int) site
def P (b : Addr) (A : Cell) (d : Addr) (B : Cell) (o q len : Nat) (args : Array Value) (s : State) : Prop := args = #[.ref b, .int (Int32.ofNat o), .ref d, .int (Int32.ofNat q), .int (Int32.ofNat len)] ∧ Ch b A s ∧ Arr .byte d B s ∧ b ≠ d ∧ o + len ≤ A.slots.size ∧ q + len ≤ B.slots.size ∧ ∀ i, i < len → ¬ 255 < cv A (o + i)
def E (b : Addr) (A : Cell) (d : Addr) (B : Cell) (o q len : Nat) (r : Option Value) (s u : State) : Prop := r = some (.int (Int32.ofNat len)) ∧ ∃ B', Put d B' s u ∧ Laid B B' q (q + len) (fun j => Value.int (lo8 (cv A (o + (j - q)))))
/-- no char of the range above 255: len; the places written hold each char's low byte -/
theorem law (l : Launch) (b : Addr) (A : Cell) (d : Addr) (B : Cell) (o q len : Nat) : Law l yN 5 5 0 0 yB 7 (some .int) site (P b A d B o q len) (E b A d B o q len) (copyLocs d q len) 0 0 := by
  refine Law.of_walk (plainFor_of_name (by decide +kernel)) (by decide +kernel) (by decide +kernel) (by decide) (fun _ _ h => by rw [h.1]; rfl) (fun _ U U' hal hh h => ⟨h.1, h.2.1.mv hal hh, h.2.2.1.mv hal hh, h.2.2.2⟩) (fun r U U' V V' h1 hal h2 h => ⟨h.1, h.2.elim fun B' q => ⟨B', q.1.mv h1 h2, q.2⟩⟩) ?_
  intro p e s m args below meth c s₁ X0 hexec hbytes hml hret hlk hnm hown hh0 W hP
  obtain ⟨rfl, hA, hB, hne, l1, l2, hp⟩ := hP
  have c1 : Steps p.tables e below (s₁.setTop (entryFrame m #[.ref b, .int (Int32.ofNat o), .ref d, .int (Int32.ofNat q), .int (Int32.ofNat len)] 7)) (s₁.setTop (mkF m 0 #[.val (.ref b), .val (.int (Int32.ofNat o)), .val (.ref d), .val (.int (Int32.ofNat q)), .val (.int (Int32.ofNat len)), .unset, .unset] [])) := entry rfl
  have hA0 := hA.1.mv X0.warmed.alike hh0
  have hB0 := hB.mv X0.warmed.alike hh0
  have a31 := hA.1.2.2.2
  have c2 : Steps p.tables e below (s₁.setTop (entryFrame m #[.ref b, .int (Int32.ofNat o), .ref d, .int (Int32.ofNat q), .int (Int32.ofNat len)] 7)) (s₁.setTop (mkF m 3 #[.val (.ref b), .val (.int (Int32.ofNat o)), .val (.ref d), .val (.int (Int32.ofNat q)), .val (.int (Int32.ofNat len)), .val (.int 0), .unset] [])) := c1.trans (by
    refine iconstV X0.here hexec rfl 0 (hb hbytes d0) (by decide) ?_
    refine XS.istore X0.here hexec rfl (hb hbytes d1) rfl rfl ?_
    exact Steps.refl _)
  have loop : ∀ (r i : Nat), i + r = len → ∀ (z : Slot), (z = .unset ∨ ∃ w, z = .val w ∧ w.category = 1) → ∀ (Tl : State) (Bk : Cell), Stand p l e { frames := 0, locals := 0, cells := 0, slots := 0 } s m #[.ref b, .int (Int32.ofNat o), .ref d, .int (Int32.ofNat q), .int (Int32.ofNat len)] below meth c Tl ([] ++ copyLocs d q i) 0 0 → Put d Bk s₁ Tl → Laid B Bk q (q + i) (fun j => Value.int (lo8 (cv A (o + (j - q))))) →
      Steps p.tables e below (s₁.setTop (entryFrame m #[.ref b, .int (Int32.ofNat o), .ref d, .int (Int32.ofNat q), .int (Int32.ofNat len)] 7)) (Tl.setTop (mkF m 3 #[.val (.ref b), .val (.int (Int32.ofNat (o + i))), .val (.ref d), .val (.int (Int32.ofNat (q + i))), .val (.int (Int32.ofNat len)), .val (.int (Int32.ofNat i)), z] [])) → ∃ (T' : State) (B' : Cell) (z' : Slot), Stand p l e { frames := 0, locals := 0, cells := 0, slots := 0 } s m #[.ref b, .int (Int32.ofNat o), .ref d, .int (Int32.ofNat q), .int (Int32.ofNat len)] below meth c T' ([] ++ copyLocs d q len) 0 0 ∧ Put d B' s₁ T' ∧ Laid B B' q (q + len) (fun j => Value.int (lo8 (cv A (o + (j - q))))) ∧
      Steps p.tables e below (s₁.setTop (entryFrame m #[.ref b, .int (Int32.ofNat o), .ref d, .int (Int32.ofNat q), .int (Int32.ofNat len)] 7)) (T'.setTop (mkF m 3 #[.val (.ref b), .val (.int (Int32.ofNat (o + len))), .val (.ref d), .val (.int (Int32.ofNat (q + len))), .val (.int (Int32.ofNat len)), .val (.int (Int32.ofNat len)), z'] [])) := by
    intro r
    induction r with
    | zero =>
      intro i hi z hz Tl Bk Xl pl fl cl
      have hil : i = len := by omega
      rw [hil] at Xl fl cl
      exact ⟨Tl, Bk, z, Xl, pl, fl, cl⟩
    | succ r ih =>
      intro i hi z hz Tl Bk Xl pl fl cl
      have all := X0.warmed.alike.symm.trans Xl.warmed.alike
      have hAl := hA0.keep all (pl.other hne hA0.1)
      have hBk := hB0.like all pl.1 fl.1 fl.2.1 fl.2.2.1
      have hlt : q + i < Bk.slots.size := by rw [fl.2.2.1]; omega
      have c3 : Steps p.tables e below (s₁.setTop (entryFrame m #[.ref b, .int (Int32.ofNat o), .ref d, .int (Int32.ofNat q), .int (Int32.ofNat len)] 7)) (Tl.setTop (mkF m 12 #[.val (.ref b), .val (.int (Int32.ofNat (o + i))), .val (.ref d), .val (.int (Int32.ofNat (q + i))), .val (.int (Int32.ofNat len)), .val (.int (Int32.ofNat i)), z] [.int (Int32.ofNat (o + i)), .ref b])) := cl.trans (by
        refine XS.iload Xl.here hexec rfl (hb hbytes d3) rfl ?_
        refine XS.iload Xl.here hexec rfl (hb hbytes d5) rfl ?_
        refine XS.icmpNo Xl.here hexec rfl (hb hbytes d7) rfl (ii_ge_f (lt32 (by omega) (by omega))) ?_
        refine XS.aloadN Xl.here hexec rfl (hb hbytes d10) rfl rfl ?_
        refine XS.iloadN Xl.here hexec rfl (hb hbytes d11) rfl ?_
        exact Steps.refl _)
      have c4 : Steps p.tables e below (s₁.setTop (entryFrame m #[.ref b, .int (Int32.ofNat o), .ref d, .int (Int32.ofNat q), .int (Int32.ofNat len)] 7)) (Tl.setTop (mkF m 13 #[.val (.ref b), .val (.int (Int32.ofNat (o + i))), .val (.ref d), .val (.int (Int32.ofNat (q + i))), .val (.int (Int32.ofNat len)), .val (.int (Int32.ofNat i)), z] [.int (cv A (o + i))])) := c3.trans (by
        refine Xl.aget hexec hAl rfl (hA.get (i := o + i) (by omega)) rfl rfl (hb hbytes d12) ?_
        exact Steps.refl _)
      have c5 : Steps p.tables e below (s₁.setTop (entryFrame m #[.ref b, .int (Int32.ofNat o), .ref d, .int (Int32.ofNat q), .int (Int32.ofNat len)] 7)) (Tl.setTop (mkF m 15 #[.val (.ref b), .val (.int (Int32.ofNat (o + i))), .val (.ref d), .val (.int (Int32.ofNat (q + i))), .val (.int (Int32.ofNat len)), .val (.int (Int32.ofNat i)), .val (.int (cv A (o + i)))] [])) := c4.trans (by
        refine XS.istoreS Xl.here hexec rfl (hb hbytes d13) rfl rfl hz ?_
        exact Steps.refl _)
      have c6 : Steps p.tables e below (s₁.setTop (entryFrame m #[.ref b, .int (Int32.ofNat o), .ref d, .int (Int32.ofNat q), .int (Int32.ofNat len)] 7)) (Tl.setTop (mkF m 31 #[.val (.ref b), .val (.int (Int32.ofNat (o + i))), .val (.ref d), .val (.int (Int32.ofNat (q + i))), .val (.int (Int32.ofNat len)), .val (.int (Int32.ofNat i)), .val (.int (cv A (o + i)))] [.int (lo8 (cv A (o + i))), .int (Int32.ofNat (q + i)), .ref d])) := c5.trans (by
        refine XS.iload Xl.here hexec rfl (hb hbytes d15) rfl ?_
        refine sipushV Xl.here hexec rfl 255 (hb hbytes d17) (by decide) ?_
        refine XS.icmpYes Xl.here hexec rfl (pc0 := 20) rfl (hb hbytes d20) rfl (ii_le_t (hp i (by omega))) (by decide) rfl ?_
        refine XS.aloadN Xl.here hexec rfl (hb hbytes d26) rfl rfl ?_
        refine XS.iloadN Xl.here hexec rfl (hb hbytes d27) rfl ?_
        refine XS.iload Xl.here hexec rfl (hb hbytes d28) rfl ?_
        refine i2b Xl.here hexec rfl (hb hbytes d30) rfl ?_
        exact Steps.refl _)
      obtain ⟨T7, X7, p7, st7⟩ := Xl.aput hexec hBk rfl hlt rfl (fits_lo8 (cv A (o + i))) (g := (mkF m 31 #[.val (.ref b), .val (.int (Int32.ofNat (o + i))), .val (.ref d), .val (.int (Int32.ofNat (q + i))), .val (.int (Int32.ofNat len)), .val (.int (Int32.ofNat i)), .val (.int (cv A (o + i)))] [.int (lo8 (cv A (o + i))), .int (Int32.ofNat (q + i)), .ref d])) rfl (rest := []) rfl (hb hbytes d31)
      have c8 : Steps p.tables e below (s₁.setTop (entryFrame m #[.ref b, .int (Int32.ofNat o), .ref d, .int (Int32.ofNat q), .int (Int32.ofNat len)] 7)) (T7.setTop (mkF m 32 #[.val (.ref b), .val (.int (Int32.ofNat (o + i))), .val (.ref d), .val (.int (Int32.ofNat (q + i))), .val (.int (Int32.ofNat len)), .val (.int (Int32.ofNat i)), .val (.int (cv A (o + i)))] [])) := c6.trans (st7 _ (Steps.refl _))
      have c9 : Steps p.tables e below (s₁.setTop (entryFrame m #[.ref b, .int (Int32.ofNat o), .ref d, .int (Int32.ofNat q), .int (Int32.ofNat len)] 7)) (T7.setTop (mkF m 3 #[.val (.ref b), .val (.int (Int32.ofNat (o + i) + 1)), .val (.ref d), .val (.int (Int32.ofNat (q + i) + 1)), .val (.int (Int32.ofNat len)), .val (.int (Int32.ofNat i + 1)), .val (.int (cv A (o + i)))] [])) := c8.trans (by
        refine iincV X7.here hexec rfl 1 (hb hbytes d32) (by decide) rfl rfl ?_
        refine iincV X7.here hexec rfl 1 (hb hbytes d35) (by decide) rfl rfl ?_
        refine iincV X7.here hexec rfl 1 (hb hbytes d38) (by decide) rfl rfl ?_
        refine XS.goto X7.here hexec rfl (pc0 := 41) rfl (hb hbytes d41) (by decide) rfl ?_
        exact Steps.refl _)
      have c10 : Steps p.tables e below (s₁.setTop (entryFrame m #[.ref b, .int (Int32.ofNat o), .ref d, .int (Int32.ofNat q), .int (Int32.ofNat len)] 7)) (T7.setTop (mkF m 3 #[.val (.ref b), .val (.int (Int32.ofNat (o + (i + 1)))), .val (.ref d), .val (.int (Int32.ofNat (q + (i + 1)))), .val (.int (Int32.ofNat len)), .val (.int (Int32.ofNat (i + 1))), .val (.int (cv A (o + i)))] [])) := by
        have := c9
        rw [succ32, succ32, succ32] at this
        exact this
      exact ih (i + 1) (by omega) _ (Or.inr ⟨_, rfl, rfl⟩) T7 _ (by rw [copyLocs_step, ← List.append_assoc]; exact X7) (pl.trans p7) (fl.step (by omega) hlt (by simp)) c10
  obtain ⟨T9, B9, z9, X9, p9, f9, g9⟩ := loop len 0 (by omega) .unset (Or.inl rfl) s₁ B (by simpa [copyLocs] using X0) ⟨hB0.1, fun _ _ => rfl, rfl⟩ (Laid.zero _ _ _) c2
  have c11 : Steps p.tables e below (s₁.setTop (entryFrame m #[.ref b, .int (Int32.ofNat o), .ref d, .int (Int32.ofNat q), .int (Int32.ofNat len)] 7)) (T9.setTop (mkF m 46 #[.val (.ref b), .val (.int (Int32.ofNat (o + len))), .val (.ref d), .val (.int (Int32.ofNat (q + len))), .val (.int (Int32.ofNat len)), .val (.int (Int32.ofNat len)), z9] [.int (Int32.ofNat len)])) := g9.trans (by
    refine XS.iload X9.here hexec rfl (hb hbytes d3) rfl ?_
    refine XS.iload X9.here hexec rfl (hb hbytes d5) rfl ?_
    refine XS.icmpYes X9.here hexec rfl (pc0 := 7) rfl (hb hbytes d7) rfl (ii_ge_t (nlt32 (by omega) (Nat.le_refl _))) (by decide) rfl ?_
    refine XS.iload X9.here hexec rfl (hb hbytes d44) rfl ?_
    exact Steps.refl _)
  exact ⟨T9, some (.int (Int32.ofNat len)), _, _, _, X9, by simp, rfl, rfl, (fun h => by cases h), ⟨rfl, B9, p9.from hh0, f9⟩, fun fs hl => c11.trans (X9.ireturnOut hexec hret rfl (Or.inl rfl) (hb hbytes d46) hl)⟩
end Cmp5
namespace Cmp3
def yN : MethodName := ⟨"java/lang/StringUTF16", "compress", "([CII)[B"⟩
abbrev yB : ByteArray := jdk_52_method_16_code
theorem d0 : decode yB 0 = .ok (.iload_n 2, 1) := by decide +kernel
theorem d1 : decode yB 1 = .ok (.newarray .byte, 2) := by decide +kernel
theorem d3 : decode yB 3 = .ok (.astore_n 3, 1) := by decide +kernel
theorem d4 : decode yB 4 = .ok (.aload_n 0, 1) := by decide +kernel
theorem d5 : decode yB 5 = .ok (.iload_n 1, 1) := by decide +kernel
theorem d6 : decode yB 6 = .ok (.aload_n 3, 1) := by decide +kernel
theorem d7 : decode yB 7 = .ok (.iconst 0, 1) := by decide +kernel
theorem d8 : decode yB 8 = .ok (.iload_n 2, 1) := by decide +kernel
theorem d9 : decode yB 9 = .ok (.invokestatic 115, 3) := by decide +kernel
theorem d12 : decode yB 12 = .ok (.istore 4, 2) := by decide +kernel
theorem d14 : decode yB 14 = .ok (.iload 4, 2) := by decide +kernel
theorem d16 : decode yB 16 = .ok (.iload_n 2, 1) := by decide +kernel
theorem d17 : decode yB 17 = .ok (.if_icmp (.eq) 40, 3) := by decide +kernel
theorem d57 : decode yB 57 = .ok (.aload_n 3, 1) := by decide +kernel
theorem d58 : decode yB 58 = .ok (.areturn, 1) := by decide +kernel
def site : List Cond := [.arrayClass .byte, Cmp5.tab] ++ staticW U16 115 Cmp5.yN
def tab : Cond := tabOf yN yB 6 (some (.array .byte)) site
def P (b : Addr) (A : Cell) (o len : Nat) (args : Array Value) (s : State) : Prop := args = #[.ref b, .int (Int32.ofNat o), .int (Int32.ofNat len)] ∧ Ch b A s ∧ o + len ≤ A.slots.size ∧ len ≤ 536870912 ∧ ∀ i, i < len → ¬ 255 < cv A (o + i)
def E (b : Addr) (A : Cell) (o len : Nat) (r : Option Value) (s u : State) : Prop := NewArr .byte "[B" len (fun j => .int (lo8 (cv A (o + j)))) r s u ∧ u.heap.size = s.heap.size + 1
/-- no char of the range above 255: a new byte[] of their low bytes -/
theorem law (l : Launch) (b : Addr) (A : Cell) (o len : Nat) : Law l yN 3 3 1 18 yB 6 (some (.array .byte)) site (P b A o len) (E b A o len) [] 1 len := by
  refine Law.of_walk (plainFor_of_name (by decide +kernel)) (by decide +kernel) (by decide +kernel) (by decide) (fun _ _ h => by rw [h.1]; rfl) (fun _ U U' hal hh h => ⟨h.1, h.2.1.mv hal hh, h.2.2⟩) (fun r U U' V V' h1 hal h2 h => ⟨NewArr.mv r U U' V V' h1 hal h2 h.1, by rw [h1, h2]; exact h.2⟩) ?_
  intro p e s m args below meth c s₁ X0 hexec hbytes hml hret hlk hnm hown hh0 W hP
  obtain ⟨rfl, hA, l1, l2, hp⟩ := hP
  have a31 := hA.1.2.2.2
  have c1 : Steps p.tables e below (s₁.setTop (entryFrame m #[.ref b, .int (Int32.ofNat o), .int (Int32.ofNat len)] 6)) (s₁.setTop (mkF m 0 #[.val (.ref b), .val (.int (Int32.ofNat o)), .val (.int (Int32.ofNat len)), .unset, .unset, .unset] [])) := entry rfl
  have c2 : Steps p.tables e below (s₁.setTop (entryFrame m #[.ref b, .int (Int32.ofNat o), .int (Int32.ofNat len)] 6)) (s₁.setTop (mkF m 1 #[.val (.ref b), .val (.int (Int32.ofNat o)), .val (.int (Int32.ofNat len)), .unset, .unset, .unset] [.int (Int32.ofNat len)])) := c1.trans (by
    refine XS.iloadN X0.here hexec rfl (hb hbytes d0) rfl ?_
    exact Steps.refl _)
  obtain ⟨T3, B3, X3, ba3, bs3, bv3, bh3, bf3, st3⟩ := X0.anew hexec (atype := .byte) (wk W (.arrayClass .byte)) rfl (by show len * 1 ≤ _; omega) (by omega) (g := (mkF m 1 #[.val (.ref b), .val (.int (Int32.ofNat o)), .val (.int (Int32.ofNat len)), .unset, .unset, .unset] [.int (Int32.ofNat len)])) rfl (hb hbytes d1) (rest := []) rfl (Nat.le_refl _) (by show 0 + len ≤ len; omega)
  rw [hh0] at ba3 st3
  have kp3 : XT.Kept s T3 := (XT.Kept.of_eq hh0).push bh3
  have hA3 := hA.keep X3.warmed.alike (kp3 _ _ hA.1.1)
  have hne : b ≠ s.heap.size := hA.1.ne
  have c4 : Steps p.tables e below (s₁.setTop (entryFrame m #[.ref b, .int (Int32.ofNat o), .int (Int32.ofNat len)] 6)) (T3.setTop (mkF m 3 #[.val (.ref b), .val (.int (Int32.ofNat o)), .val (.int (Int32.ofNat len)), .unset, .unset, .unset] [.ref s.heap.size])) := c2.trans (st3 _ (Steps.refl _))
  have c5 : Steps p.tables e below (s₁.setTop (entryFrame m #[.ref b, .int (Int32.ofNat o), .int (Int32.ofNat len)] 6)) (T3.setTop (mkF m 9 #[.val (.ref b), .val (.int (Int32.ofNat o)), .val (.int (Int32.ofNat len)), .val (.ref s.heap.size), .unset, .unset] [.int (Int32.ofNat len), .int 0, .ref s.heap.size, .int (Int32.ofNat o), .ref b])) := c4.trans (by
    refine XS.astoreN X3.here hexec rfl (hb hbytes d3) rfl rfl rfl ?_
    refine XS.aloadN X3.here hexec rfl (hb hbytes d4) rfl rfl ?_
    refine XS.iloadN X3.here hexec rfl (hb hbytes d5) rfl ?_
    refine XS.aloadN X3.here hexec rfl (hb hbytes d6) rfl rfl ?_
    refine iconstV X3.here hexec rfl 0 (hb hbytes d7) (by decide) ?_
    refine XS.iloadN X3.here hexec rfl (hb hbytes d8) rfl ?_
    exact Steps.refl _)
  obtain ⟨v6, T6, X6, E6, g6⟩ := X3.callS hexec (Cmp5.law l b A s.heap.size B3 o 0 len) hown (wks W (staticW U16 115 Cmp5.yN)) (wk W Cmp5.tab) (W := 0) (Nat.le_of_ble_eq_true rfl) (Nat.le_of_ble_eq_true rfl) (Nat.le_refl _) (by show 0 + len + 0 ≤ len; omega) (g := (mkF m 9 #[.val (.ref b), .val (.int (Int32.ofNat o)), .val (.int (Int32.ofNat len)), .val (.ref s.heap.size), .unset, .unset] [.int (Int32.ofNat len), .int (Int32.ofNat 0), .ref s.heap.size, .int (Int32.ofNat o), .ref b])) rfl (by rw [hml]; rfl) c5 (argsL := [.ref b, .int (Int32.ofNat o), .ref s.heap.size, .int (Int32.ofNat 0), .int (Int32.ofNat len)]) (rest := []) rfl rfl (by show 2 * 0 + 0 ≤ _; decide) (hb hbytes d9) (⟨rfl, hA3, ba3, hne, l1, by rw [bs3]; simp, hp⟩)
  obtain ⟨rfl, B6, p6, f6⟩ := E6
  have c7 : Steps p.tables e below (s₁.setTop (entryFrame m #[.ref b, .int (Int32.ofNat o), .int (Int32.ofNat len)] 6)) (T6.setTop (mkF m 12 #[.val (.ref b), .val (.int (Int32.ofNat o)), .val (.int (Int32.ofNat len)), .val (.ref s.heap.size), .unset, .unset] [.int (Int32.ofNat len)])) := g6
  have c8 : Steps p.tables e below (s₁.setTop (entryFrame m #[.ref b, .int (Int32.ofNat o), .int (Int32.ofNat len)] 6)) (T6.setTop (mkF m 58 #[.val (.ref b), .val (.int (Int32.ofNat o)), .val (.int (Int32.ofNat len)), .val (.ref s.heap.size), .val (.int (Int32.ofNat len)), .unset] [.ref s.heap.size])) := c7.trans (by
    refine XS.istore X6.here hexec rfl (hb hbytes d12) rfl rfl ?_
    refine XS.iload X6.here hexec rfl (hb hbytes d14) rfl ?_
    refine XS.iloadN X6.here hexec rfl (hb hbytes d16) rfl ?_
    refine XS.icmpYes X6.here hexec rfl (pc0 := 17) rfl (hb hbytes d17) rfl (ii_eq_t rfl) (by decide) rfl ?_
    refine XS.aloadN X6.here hexec rfl (hb hbytes d57) rfl rfl ?_
    exact Steps.refl _)
  have X8 := X6.wide (L' := []) (cells' := 1) (slots' := len) (fun x hx hlt => by
    simp only [List.nil_append, copyLocs, List.mem_map, List.mem_range] at hx
    obtain ⟨i, -, rfl⟩ := hx
    exact absurd hlt (Nat.lt_irrefl _)) (Nat.le_refl _) (by omega)
  exact ⟨T6, some (.ref s.heap.size), _, _, _, X8, rfl, rfl, rfl, (fun h => by cases h), ⟨⟨rfl, B6, ba3.like (X3.warmed.alike.symm.trans X6.warmed.alike) p6.1 f6.1 f6.2.1 f6.2.2.1, f6.2.1.trans bv3, by rw [X6.warmed.alike.findClass, f6.1]; exact bf3, by rw [f6.2.2.1, bs3]; simp, fun j hj => by rw [f6.2.2.2 j, if_pos (by omega)]; rfl, kp3.put p6 (Nat.le_refl _)⟩, by rw [p6.2.2, bh3, hh0]; simp⟩, fun fs hl => c8.trans (X8.areturnOut hexec rfl hret rfl (hb hbytes d58) hl)⟩
end Cmp3
namespace CodL
def yN : MethodName := ⟨"java/lang/StringUTF16", "coderFromArrayLen", "([BI)B"⟩
abbrev yB : ByteArray := jdk_52_method_15_code
theorem d0 : decode yB 0 = .ok (.iload_n 1, 1) := by decide +kernel
theorem d1 : decode yB 1 = .ok (.aload_n 0, 1) := by decide +kernel
theorem d2 : decode yB 2 = .ok (.arraylength, 1) := by decide +kernel
theorem d3 : decode yB 3 = .ok (.isub, 1) := by decide +kernel
theorem d4 : decode yB 4 = .ok (.bipush 31, 2) := by decide +kernel
theorem d6 : decode yB 6 = .ok (.iushr, 1) := by decide +kernel
theorem d7 : decode yB 7 = .ok (.i2b, 1) := by decide +kernel
theorem d8 : decode yB 8 = .ok (.ireturn, 1) := by decide +kernel
def site : List Cond := []
def tab : Cond := tabOf yN yB 2 (some .byte) site
def P (d : Addr) (B : Cell) (args : Array Value) (s : State) : Prop := args = #[.ref d, .int (Int32.ofNat B.slots.size)] ∧ Arr .byte d B s
def E (r : Option Value) (s u : State) : Prop := XT.PureE (some (.int 0)) r s u
/-- an array as long as the number of chars: LATIN1 -/
theorem law (l : Launch) (d : Addr) (B : Cell) : Law l yN 2 2 0 0 yB 2 (some .byte) site (P d B) E [] 0 0 := by
  refine Law.of_walk (plainFor_of_name (by decide +kernel)) (by decide +kernel) (by decide +kernel) (by decide) (fun _ _ h => by rw [h.1]; rfl) (fun _ U U' hal hh h => ⟨h.1, h.2.mv hal hh⟩) (fun r U U' V V' h1 hal h2 h => XT.PureE.mv r U U' V V' h1 hal h2 h) ?_
  intro p e s m args below meth c s₁ X0 hexec hbytes hml hret hlk hnm hown hh0 W hP
  obtain ⟨rfl, hB⟩ := hP
  have hB0 := hB.mv X0.warmed.alike hh0
  have c1 : Steps p.tables e below (s₁.setTop (entryFrame m #[.ref d, .int (Int32.ofNat B.slots.size)] 2)) (s₁.setTop (mkF m 0 #[.val (.ref d), .val (.int (Int32.ofNat B.slots.size))] [])) := entry rfl
  have c2 : Steps p.tables e below (s₁.setTop (entryFrame m #[.ref d, .int (Int32.ofNat B.slots.size)] 2)) (s₁.setTop (mkF m 2 #[.val (.ref d), .val (.int (Int32.ofNat B.slots.size))] [.ref d, .int (Int32.ofNat B.slots.size)])) := c1.trans (by
    refine XS.iloadN X0.here hexec rfl (hb hbytes d0) rfl ?_
    refine XS.aloadN X0.here hexec rfl (hb hbytes d1) rfl rfl ?_
    exact Steps.refl _)
  have c3 : Steps p.tables e below (s₁.setTop (entryFrame m #[.ref d, .int (Int32.ofNat B.slots.size)] 2)) (s₁.setTop (mkF m 8 #[.val (.ref d), .val (.int (Int32.ofNat B.slots.size))] [.int (lo8 (ushr (Int32.ofNat B.slots.size - Int32.ofNat B.slots.size) 31))])) := c2.trans (by
    refine X0.alen hexec hB0 rfl rfl (hb hbytes d2) ?_
    refine XS.isub X0.here hexec rfl (hb hbytes d3) rfl ?_
    refine bipushV X0.here hexec rfl 31 (hb hbytes d4) (by decide) ?_
    refine iushr X0.here hexec rfl (hb hbytes d6) rfl ?_
    refine i2b X0.here hexec rfl (hb hbytes d7) rfl ?_
    exact Steps.refl _)
  have e0 : lo8 (ushr (Int32.ofNat B.slots.size - Int32.ofNat B.slots.size) 31) = 0 := by rw [Int32.sub_self]; decide
  rw [e0] at c3
  exact ⟨s₁, some (.int 0), _, _, _, X0, rfl, rfl, rfl, (fun h => by cases h), ⟨rfl, hh0⟩, fun fs hl => c3.trans (X0.ireturnOut hexec hret rfl (Or.inr (Or.inr (Or.inl rfl))) (hb hbytes d8) hl)⟩
end CodL
/-- the String at a is Latin-1 over a new byte[] (the heap's one new cell): the low bytes of the len chars of A from o on; every cell but a is kept -/
def Got (a : Addr) (D : Cell) (fV fC : Field) (A : Cell) (o len : Nat) (r : Option Value) (s u : State) : Prop := r = none ∧ ∃ D' V : Cell, Blank "java/lang/String" a D' u ∧ Same D D' [fV.slot, fC.slot] ∧ D'.slots[fV.slot]? = some (.ref s.heap.size) ∧ D'.slots[fC.slot]? = some (.int 0) ∧ Arr .byte s.heap.size V u ∧ V.vm = .none ∧ u.vm.findClass "[B" = some V.cls ∧ V.slots.size = len ∧ (∀ j, j < len → V.slots[j]? = some (.int (lo8 (cv A (o + j))))) ∧ (∀ (y : Addr) (c : Cell), y ≠ a → s.heap[y]? = some c → u.heap[y]? = some c) ∧ u.heap.size = s.heap.size + 1
theorem Got.mv {a : Addr} {D A : Cell} {fV fC : Field} {o len : Nat} : ∀ r (U U' V V' : State), U'.heap = U.heap → V.vm.Alike V'.vm → V'.heap = V.heap → Got a D fV fC A o len r U V → Got a D fV fC A o len r U' V' :=
  fun r U U' V V' h1 hal h2 ⟨e0, D', X, a1, a2, a3, a4, a5, a6, a7, a8, a9, a10, a11⟩ => ⟨e0, D', X, a1.mv hal h2, a2, by rw [h1]; exact a3, a4, by rw [h1]; exact a5.mv hal h2, a6, by rw [hal.findClass]; exact a7, a8, a9, by rw [h1, h2]; exact a10, by rw [h1, h2]; exact a11⟩
namespace New4
def yN : MethodName := ⟨"java/lang/String", "<init>", "([CIILjava/lang/Void;)V"⟩
abbrev yB : ByteArray := jdk_42_method_149_code
theorem d0 : decode yB 0 = .ok (.aload_n 0, 1) := by decide +kernel
theorem d1 : decode yB 1 = .ok (.invokespecial 1, 3) := by decide +kernel
theorem d4 : decode yB 4 = .ok (.iload_n 3, 1) := by decide +kernel
theorem d5 : decode yB 5 = .ok (.ifCond (.ne) 22, 3) := by decide +kernel
theorem d27 : decode yB 27 = .ok (.getstatic 38, 3) := by decide +kernel
theorem d30 : decode yB 30 = .ok (.ifCond (.eq) 28, 3) := by decide +kernel
theorem d33 : decode yB 33 = .ok (.aload_n 1, 1) := by decide +kernel
theorem d34 : decode yB 34 = .ok (.iload_n 2, 1) := by decide +kernel
theorem d35 : decode yB 35 = .ok (.iload_n 3, 1) := by decide +kernel
theorem d36 : decode yB 36 = .ok (.invokestatic 177, 3) := by decide +kernel
theorem d39 : decode yB 39 = .ok (.astore 5, 2) := by decide +kernel
theorem d41 : decode yB 41 = .ok (.aload_n 0, 1) := by decide +kernel
theorem d42 : decode yB 42 = .ok (.aload 5, 2) := by decide +kernel
theorem d44 : decode yB 44 = .ok (.iload_n 3, 1) := by decide +kernel
theorem d45 : decode yB 45 = .ok (.invokestatic 47, 3) := by decide +kernel
theorem d48 : decode yB 48 = .ok (.putfield 15, 3) := by decide +kernel
theorem d51 : decode yB 51 = .ok (.aload_n 0, 1) := by decide +kernel
theorem d52 : decode yB 52 = .ok (.aload 5, 2) := by decide +kernel
theorem d54 : decode yB 54 = .ok (.putfield 9, 3) := by decide +kernel
theorem d57 : decode yB 57 = .ok (.return_, 1) := by decide +kernel
def site : List Cond := [.fieldLink "java/lang/String" 38 "java/lang/String" "COMPACT_STRINGS" "Z", Cmp3.tab, CodL.tab, .laysFinal "java/lang/String" "java/lang/String" "value" "[B", .fieldLink "java/lang/String" 9 "java/lang/String" "value" "[B", .laysFinal "java/lang/String" "java/lang/String" "coder" "B", .fieldLink "java/lang/String" 15 "java/lang/String" "coder" "B"] ++ objW "java/lang/String" 1 ++ staticW "java/lang/String" 177 Cmp3.yN ++ staticW "java/lang/String" 47 CodL.yN
def tab : Cond := tabOf yN yB 6 none site
def P (a : Addr) (D : Cell) (fV fC : Field) (b : Addr) (A : Cell) (z : Int32) (o len : Nat) (args : Array Value) (s : State) : Prop := args = #[.ref a, .ref b, .int (Int32.ofNat o), .int (Int32.ofNat len), .null] ∧ Blank "java/lang/String" a D s ∧ Found "java/lang/String" "value" "[B" fV s ∧ Found "java/lang/String" "coder" "B" fC s ∧ Ch b A s ∧ StaticIs s "java/lang/String" "COMPACT_STRINGS" "Z" (.int z) ∧ ¬ z = 0 ∧ 0 < len ∧ o + len ≤ A.slots.size ∧ len ≤ 536870912 ∧ ∀ i, i < len → ¬ 255 < cv A (o + i)
def E (a : Addr) (D : Cell) (fV fC : Field) (A : Cell) (o len : Nat) (r : Option Value) (s u : State) : Prop := Got a D fV fC A o len r s u
/-- len > 0, no char of the range above 255: a Latin-1 String of their low bytes -/
theorem law (l : Launch) (a : Addr) (D : Cell) (fV fC : Field) (b : Addr) (A : Cell) (z : Int32) (o len : Nat) : Law l yN 5 4 2 35 yB 6 none site (P a D fV fC b A z o len) (E a D fV fC A o len) [⟨a, fC.slot⟩, ⟨a, fV.slot⟩] 1 len := by
  refine Law.of_walk (plainFor_of_name (by decide +kernel)) (by decide +kernel) (by decide +kernel) (by decide) (fun _ _ h => by rw [h.1]; rfl) (fun _ U U' hal hh h => ⟨h.1, h.2.1.mv hal hh, h.2.2.1.al hal, h.2.2.2.1.al hal, h.2.2.2.2.1.mv hal hh, h.2.2.2.2.2.1.there hal hh, h.2.2.2.2.2.2⟩) (fun r U U' V V' h1 hal h2 h => Got.mv r U U' V V' h1 hal h2 h) ?_
  intro p e s m args below meth c s₁ X0 hexec hbytes hml hret hlk hnm hown hh0 W hP
  obtain ⟨rfl, hB, f1, f2, hA, s1, hz, l0, l1, l2, hp⟩ := hP
  have a31 := hA.1.2.2.2
  have c1 : Steps p.tables e below (s₁.setTop (entryFrame m #[.ref a, .ref b, .int (Int32.ofNat o), .int (Int32.ofNat len), .null] 6)) (s₁.setTop (mkF m 0 #[.val (.ref a), .val (.ref b), .val (.int (Int32.ofNat o)), .val (.int (Int32.ofNat len)), .val .null, .unset] [])) := entry rfl
  have c2 : Steps p.tables e below (s₁.setTop (entryFrame m #[.ref a, .ref b, .int (Int32.ofNat o), .int (Int32.ofNat len), .null] 6)) (s₁.setTop (mkF m 1 #[.val (.ref a), .val (.ref b), .val (.int (Int32.ofNat o)), .val (.int (Int32.ofNat len)), .val .null, .unset] [.ref a])) := c1.trans (by
    refine XS.aloadN X0.here hexec rfl (hb hbytes d0) rfl rfl ?_
    exact Steps.refl _)
  obtain ⟨T3, X3, q3, st3⟩ := X0.oinit hexec hown (wks W (objW "java/lang/String" 1)) (g := (mkF m 1 #[.val (.ref a), .val (.ref b), .val (.int (Int32.ofNat o)), .val (.int (Int32.ofNat len)), .val .null, .unset] [.ref a])) rfl (by rw [hml]; rfl) (rest := []) rfl (hb hbytes d1) (W := 0) (by show 2 * 0 + 0 ≤ _; decide) (Nat.le_of_ble_eq_true rfl) (Nat.le_of_ble_eq_true rfl)
  have hh3 := q3.trans hh0
  have c4 : Steps p.tables e below (s₁.setTop (entryFrame m #[.ref a, .ref b, .int (Int32.ofNat o), .int (Int32.ofNat len), .null] 6)) (T3.setTop (mkF m 27 #[.val (.ref a), .val (.ref b), .val (.int (Int32.ofNat o)), .val (.int (Int32.ofNat len)), .val .null, .unset] [])) := (c2.trans (st3 _ (Steps.refl _))).trans (by
    refine XS.iloadN X3.here hexec rfl (hb hbytes d4) rfl ?_
    refine XS.ifYes X3.here hexec rfl (pc0 := 5) rfl (hb hbytes d5) rfl (i0_ne_t (nz32 (by omega) l0)) (by decide) rfl ?_
    exact Steps.refl _)
  obtain ⟨T5, X5, q5, st5⟩ := X3.sget hexec hown (wk W (.fieldLink "java/lang/String" 38 "java/lang/String" "COMPACT_STRINGS" "Z")) s1 (fun _ _ h => by rw [hh3]; exact h) (g := (mkF m 27 #[.val (.ref a), .val (.ref b), .val (.int (Int32.ofNat o)), .val (.int (Int32.ofNat len)), .val .null, .unset] [])) rfl (hb hbytes d27)
  have hh5 := q5.trans hh3
  have c6 : Steps p.tables e below (s₁.setTop (entryFrame m #[.ref a, .ref b, .int (Int32.ofNat o), .int (Int32.ofNat len), .null] 6)) (T5.setTop (mkF m 30 #[.val (.ref a), .val (.ref b), .val (.int (Int32.ofNat o)), .val (.int (Int32.ofNat len)), .val .null, .unset] [.int z])) := c4.trans (st5 _ (Steps.refl _))
  have c7 : Steps p.tables e below (s₁.setTop (entryFrame m #[.ref a, .ref b, .int (Int32.ofNat o), .int (Int32.ofNat len), .null] 6)) (T5.setTop (mkF m 36 #[.val (.ref a), .val (.ref b), .val (.int (Int32.ofNat o)), .val (.int (Int32.ofNat len)), .val .null, .unset] [.int (Int32.ofNat len), .int (Int32.ofNat o), .ref b])) := c6.trans (by
    refine XS.ifNo X5.here hexec rfl (hb hbytes d30) rfl (i0_eq_f hz) ?_
    refine XS.aloadN X5.here hexec rfl (hb hbytes d33) rfl rfl ?_
    refine XS.iloadN X5.here hexec rfl (hb hbytes d34) rfl ?_
    refine XS.iloadN X5.here hexec rfl (hb hbytes d35) rfl ?_
    exact Steps.refl _)
  obtain ⟨v8, T8, X8, E8, g8⟩ := X5.callS hexec (Cmp3.law l b A o len) hown (wks W (staticW "java/lang/String" 177 Cmp3.yN)) (wk W Cmp3.tab) (W := 0) (Nat.le_of_ble_eq_true rfl) (Nat.le_of_ble_eq_true rfl) (Nat.le_refl _) (by show 0 + len ≤ len; omega) (g := (mkF m 36 #[.val (.ref a), .val (.ref b), .val (.int (Int32.ofNat o)), .val (.int (Int32.ofNat len)), .val .null, .unset] [.int (Int32.ofNat len), .int (Int32.ofNat o), .ref b])) rfl (by rw [hml]; rfl) c7 (argsL := [.ref b, .int (Int32.ofNat o), .int (Int32.ofNat len)]) (rest := []) rfl rfl (by show 2 * 0 + 0 ≤ _; decide) (hb hbytes d36) (⟨rfl, hA.mv X5.warmed.alike hh5, l1, l2, hp⟩)
  obtain ⟨e8, z8⟩ := E8
  obtain ⟨rfl, N, n1, n2, n3, n4, n5, n6⟩ := NewArr.mv _ T5 s _ _ hh5.symm (Vm.Alike.refl _) rfl e8
  rw [hh5] at z8
  have hB1 := hB.keep X8.warmed.alike (n6 _ _ hB.1)
  have hne : s.heap.size ≠ a := (Nat.ne_of_lt (Array.getElem?_eq_some_iff.mp hB.1).1).symm
  have c9 : Steps p.tables e below (s₁.setTop (entryFrame m #[.ref a, .ref b, .int (Int32.ofNat o), .int (Int32.ofNat len), .null] 6)) (T8.setTop (mkF m 39 #[.val (.ref a), .val (.ref b), .val (.int (Int32.ofNat o)), .val (.int (Int32.ofNat len)), .val .null, .unset] [.ref s.heap.size])) := g8
  have c10 : Steps p.tables e below (s₁.setTop (entryFrame m #[.ref a, .ref b, .int (Int32.ofNat o), .int (Int32.ofNat len), .null] 6)) (T8.setTop (mkF m 45 #[.val (.ref a), .val (.ref b), .val (.int (Int32.ofNat o)), .val (.int (Int32.ofNat len)), .val .null, .val (.ref s.heap.size)] [.int (Int32.ofNat N.slots.size), .ref s.heap.size, .ref a])) := by
    have hc : Steps p.tables e below (s₁.setTop (entryFrame m #[.ref a, .ref b, .int (Int32.ofNat o), .int (Int32.ofNat len), .null] 6)) (T8.setTop (mkF m 45 #[.val (.ref a), .val (.ref b), .val (.int (Int32.ofNat o)), .val (.int (Int32.ofNat len)), .val .null, .val (.ref s.heap.size)] [.int (Int32.ofNat len), .ref s.heap.size, .ref a])) := c9.trans (by
      refine XS.astore X8.here hexec rfl (hb hbytes d39) rfl rfl rfl ?_
      refine XS.aloadN X8.here hexec rfl (hb hbytes d41) rfl rfl ?_
      refine XS.aload X8.here hexec rfl (hb hbytes d42) rfl rfl ?_
      refine XS.iloadN X8.here hexec rfl (hb hbytes d44) rfl ?_
      exact Steps.refl _)
    rw [n4]; exact hc
  obtain ⟨v11, T11, X11, E11, g11⟩ := X8.callS hexec (CodL.law l s.heap.size N) hown (wks W (staticW "java/lang/String" 47 CodL.yN)) (wk W CodL.tab) (W := 1) (Nat.le_of_ble_eq_true rfl) (Nat.le_of_ble_eq_true rfl) (Nat.le_refl _) (by show 0 + len + 0 ≤ len; omega) (g := (mkF m 45 #[.val (.ref a), .val (.ref b), .val (.int (Int32.ofNat o)), .val (.int (Int32.ofNat len)), .val .null, .val (.ref s.heap.size)] [.int (Int32.ofNat N.slots.size), .ref s.heap.size, .ref a])) rfl (by rw [hml]; rfl) c10 (argsL := [.ref s.heap.size, .int (Int32.ofNat N.slots.size)]) (rest := [.ref a]) rfl rfl (by show 2 * 0 + (1 + 0) ≤ _; decide) (hb hbytes d45) (⟨rfl, n1⟩)
  obtain ⟨rfl, q11⟩ := E11
  have hB11 := hB1.mv (X8.warmed.alike.symm.trans X11.warmed.alike) q11
  have c12 : Steps p.tables e below (s₁.setTop (entryFrame m #[.ref a, .ref b, .int (Int32.ofNat o), .int (Int32.ofNat len), .null] 6)) (T11.setTop (mkF m 48 #[.val (.ref a), .val (.ref b), .val (.int (Int32.ofNat o)), .val (.int (Int32.ofNat len)), .val .null, .val (.ref s.heap.size)] [.int 0, .ref a])) := g11
  obtain ⟨T13, X13, p13, bl13, sl13, st13⟩ := X11.finit hexec hown (wk W (.fieldLink "java/lang/String" 15 "java/lang/String" "coder" "B")) (Or.inr ⟨_, (wk W (.laysFinal "java/lang/String" "java/lang/String" "coder" "B"))⟩) (Or.inl ⟨rfl, hnm⟩) f2 (Or.inl rfl) hB11 (t := .byte) (by decide +kernel) rfl (g := (mkF m 48 #[.val (.ref a), .val (.ref b), .val (.int (Int32.ofNat o)), .val (.int (Int32.ofNat len)), .val .null, .val (.ref s.heap.size)] [.int 0, .ref a])) rfl (rest := []) rfl (hb hbytes d48)
  have c14 : Steps p.tables e below (s₁.setTop (entryFrame m #[.ref a, .ref b, .int (Int32.ofNat o), .int (Int32.ofNat len), .null] 6)) (T13.setTop (mkF m 54 #[.val (.ref a), .val (.ref b), .val (.int (Int32.ofNat o)), .val (.int (Int32.ofNat len)), .val .null, .val (.ref s.heap.size)] [.ref s.heap.size, .ref a])) := (c12.trans (st13 _ (Steps.refl _))).trans (by
    refine XS.aloadN X13.here hexec rfl (hb hbytes d51) rfl rfl ?_
    refine XS.aload X13.here hexec rfl (hb hbytes d52) rfl rfl ?_
    exact Steps.refl _)
  obtain ⟨T15, X15, p15, bl15, sl15, st15⟩ := X13.finit hexec hown (wk W (.fieldLink "java/lang/String" 9 "java/lang/String" "value" "[B")) (Or.inr ⟨_, (wk W (.laysFinal "java/lang/String" "java/lang/String" "value" "[B"))⟩) (Or.inl ⟨rfl, hnm⟩) f1 (Or.inl rfl) bl13 (t := (.array .byte)) (by decide +kernel) rfl (g := (mkF m 54 #[.val (.ref a), .val (.ref b), .val (.int (Int32.ofNat o)), .val (.int (Int32.ofNat len)), .val .null, .val (.ref s.heap.size)] [.ref s.heap.size, .ref a])) rfl (rest := []) rfl (hb hbytes d54)
  have c16 : Steps p.tables e below (s₁.setTop (entryFrame m #[.ref a, .ref b, .int (Int32.ofNat o), .int (Int32.ofNat len), .null] 6)) (T15.setTop (mkF m 57 #[.val (.ref a), .val (.ref b), .val (.int (Int32.ofNat o)), .val (.int (Int32.ofNat len)), .val .null, .val (.ref s.heap.size)] [])) := c14.trans (st15 _ (Steps.refl _))
  have ap := apart (Or.inr ⟨_, (wk W (.laysFinal "java/lang/String" "java/lang/String" "value" "[B"))⟩) (Or.inr ⟨_, (wk W (.laysFinal "java/lang/String" "java/lang/String" "coder" "B"))⟩) f1 f2 (t₁ := .array .byte) (t₂ := .byte) (by decide +kernel) (by decide +kernel) (by decide)
  have al := X8.warmed.alike.symm.trans X15.warmed.alike
  have n7 : T11.heap[s.heap.size]? = some N := by rw [q11]; exact n1.1
  exact ⟨T15, none, _, _, _, X15, by simp, rfl, by omega, (fun _ => rfl), ⟨rfl, _, N, bl15, ((Same.refl D _).set _ (by simp)).set _ (by simp), sl15, (Cell.slots_setSlot_ne _ ap).trans sl13, n1.keep al (p15.other hne (p13.other hne n7)), n2, by rw [al.findClass]; exact n3, n4, n5, fun y c h1 h2 => p15.other h1 (p13.other h1 (by rw [q11]; exact n6 y c h2)), by rw [p15.2.2, p13.2.2, q11]; exact z8⟩, fun fs hl => c16.trans (X15.returnOut hexec hret (hb hbytes d57) hl)⟩
end New4
namespace New1
def yN : MethodName := ⟨"java/lang/String", "<init>", "([C)V"⟩
abbrev yB : ByteArray := jdk_42_method_3_code
theorem d0 : decode yB 0 = .ok (.aload_n 0, 1) := by decide +kernel
theorem d1 : decode yB 1 = .ok (.aload_n 1, 1) := by decide +kernel
theorem d2 : decode yB 2 = .ok (.iconst 0, 1) := by decide +kernel
theorem d3 : decode yB 3 = .ok (.aload_n 1, 1) := by decide +kernel
theorem d4 : decode yB 4 = .ok (.arraylength, 1) := by decide +kernel
theorem d5 : decode yB 5 = .ok (.aconst_null, 1) := by decide +kernel
theorem d6 : decode yB 6 = .ok (.invokespecial 27, 3) := by decide +kernel
theorem d9 : decode yB 9 = .ok (.return_, 1) := by decide +kernel
def site : List Cond := [New4.tab] ++ initW "java/lang/String" 27 New4.yN
def tab : Cond := tabOf yN yB 2 none site
def P (a : Addr) (D : Cell) (fV fC : Field) (b : Addr) (A : Cell) (z : Int32) (args : Array Value) (s : State) : Prop := args = #[.ref a, .ref b] ∧ Blank "java/lang/String" a D s ∧ Found "java/lang/String" "value" "[B" fV s ∧ Found "java/lang/String" "coder" "B" fC s ∧ Ch b A s ∧ StaticIs s "java/lang/String" "COMPACT_STRINGS" "Z" (.int z) ∧ ¬ z = 0 ∧ 0 < A.slots.size ∧ A.slots.size ≤ 536870912 ∧ ∀ i, i < A.slots.size → ¬ 255 < cv A i
def E (a : Addr) (D : Cell) (fV fC : Field) (A : Cell) (r : Option Value) (s u : State) : Prop := Got a D fV fC A 0 A.slots.size r s u
/-- new String(chars), not empty, no char above 255: a Latin-1 String of their low bytes -/
theorem law (l : Launch) (a : Addr) (D : Cell) (fV fC : Field) (b : Addr) (A : Cell) (z : Int32) : Law l yN 2 1 3 52 yB 2 none site (P a D fV fC b A z) (E a D fV fC A) [⟨a, fC.slot⟩, ⟨a, fV.slot⟩] 1 A.slots.size := by
  refine Law.of_walk (plainFor_of_name (by decide +kernel)) (by decide +kernel) (by decide +kernel) (by decide) (fun _ _ h => by rw [h.1]; rfl) (fun _ U U' hal hh h => ⟨h.1, h.2.1.mv hal hh, h.2.2.1.al hal, h.2.2.2.1.al hal, h.2.2.2.2.1.mv hal hh, h.2.2.2.2.2.1.there hal hh, h.2.2.2.2.2.2⟩) (fun r U U' V V' h1 hal h2 h => Got.mv r U U' V V' h1 hal h2 h) ?_
  intro p e s m args below meth c s₁ X0 hexec hbytes hml hret hlk hnm hown hh0 W hP
  obtain ⟨rfl, hB, f1, f2, hA, s1, hz, l0, l2, hp⟩ := hP
  have c1 : Steps p.tables e below (s₁.setTop (entryFrame m #[.ref a, .ref b] 2)) (s₁.setTop (mkF m 0 #[.val (.ref a), .val (.ref b)] [])) := entry rfl
  have c2 : Steps p.tables e below (s₁.setTop (entryFrame m #[.ref a, .ref b] 2)) (s₁.setTop (mkF m 6 #[.val (.ref a), .val (.ref b)] [.null, .int (Int32.ofNat A.slots.size), .int 0, .ref b, .ref a])) := c1.trans (by
    refine XS.aloadN X0.here hexec rfl (hb hbytes d0) rfl rfl ?_
    refine XS.aloadN X0.here hexec rfl (hb hbytes d1) rfl rfl ?_
    refine iconstV X0.here hexec rfl 0 (hb hbytes d2) (by decide) ?_
    refine XS.aloadN X0.here hexec rfl (hb hbytes d3) rfl rfl ?_
    refine X0.alen hexec (hA.1.mv X0.warmed.alike hh0) rfl rfl (hb hbytes d4) ?_
    refine XS.aconstNull X0.here hexec rfl (hb hbytes d5) ?_
    exact Steps.refl _)
  obtain ⟨v3, T3, X3, E3, g3⟩ := X0.callN hexec (New4.law l a D fV fC b A z 0 A.slots.size) rfl hown (wks W (initW "java/lang/String" 27 New4.yN)) (W New4.tab (by simp only [site, List.mem_cons, List.mem_append, true_or, or_true])) (W := 0) (Nat.le_of_ble_eq_true rfl) (Nat.le_of_ble_eq_true rfl) (Nat.le_refl _) (by show 0 + A.slots.size ≤ A.slots.size; omega) (g := (mkF m 6 #[.val (.ref a), .val (.ref b)] [.null, .int (Int32.ofNat A.slots.size), .int (Int32.ofNat 0), .ref b, .ref a])) rfl (by rw [hml]; rfl) c2 (argsL := [.ref b, .int (Int32.ofNat 0), .int (Int32.ofNat A.slots.size), .null]) (rest := []) rfl rfl (by show 2 * 0 + 0 ≤ _; decide) (hb hbytes d6) (⟨rfl, hB.mv X0.warmed.alike hh0, f1.al X0.warmed.alike, f2.al X0.warmed.alike, hA.mv X0.warmed.alike hh0, s1.there X0.warmed.alike hh0, hz, l0, by omega, l2, fun i hi => by rw [Nat.zero_add]; exact hp i hi⟩)
  have e0 := Got.mv _ s₁ s _ _ hh0.symm (Vm.Alike.refl _) rfl E3
  obtain rfl := e0.1
  have c4 : Steps p.tables e below (s₁.setTop (entryFrame m #[.ref a, .ref b] 2)) (T3.setTop (mkF m 9 #[.val (.ref a), .val (.ref b)] [])) := g3
  exact ⟨T3, none, _, _, _, X3, by simp, rfl, by omega, (fun _ => rfl), e0, fun fs hl => c4.trans (X3.returnOut hexec hret (hb hbytes d9) hl)⟩
theorem pays {l : Launch} {R : Room} {p : Program} {e : Env} {below : List Frame} {s : State} {sargs : Array Value} {len W : Nat} (a : Addr) (D : Cell) (fV fC : Field) (b : Addr) (A : Cell) (z : Int32) (htab : tab.before sargs s = true) (hfr : 4 ≤ R.frames) (hlo : W + 65 ≤ R.locals) :
    Back l R p e below s sargs yN len W (fun A₁ a₁ => A₁.cells + 1 ≤ R.cells ∧ A₁.slots + A.slots.size ≤ R.slots ∧ P a D fV fC b A z a₁ A₁.U) (fun A₁ _ v₁ B₁ => E a D fV fC A v₁ A₁.U B₁.U ∧ B₁.locs = A₁.locs ++ [⟨a, fC.slot⟩, ⟨a, fV.slot⟩] ∧ B₁.cells = A₁.cells + 1 ∧ B₁.slots = A₁.slots + A.slots.size) :=
  (law l a D fV fC b A z).pays htab hfr (by omega)
end New1
end StrChars
namespace StrChars.Road
open Jvm Sem ClassFile Op Lib Jvm.Stand Jvm.Free Jvm.Free.XT
open Jvm.Lib.Cold (StaticIs)
abbrev ST : String := "java/lang/String"
/-- every table word that New1's law asks, flat -/
abbrev words : List Jvm.Cond := [.code New1.yN New1.yB 2 none, .initialized ST, .methodLink ST 27 New4.yN, .instanceMethod New4.yN,
  .code New4.yN New4.yB 6 none, .fieldLink ST 38 ST "COMPACT_STRINGS" "Z", .laysFinal ST ST "value" "[B", .fieldLink ST 9 ST "value" "[B", .laysFinal ST ST "coder" "B", .fieldLink ST 15 ST "coder" "B",
  .methodLink ST 1 Lib.objectInit, .instanceMethod Lib.objectInit, .code Lib.objectInit ⟨#[0xb1]⟩ 1 none, .methodLink ST 177 Cmp3.yN, .static Cmp3.yN, .methodLink ST 47 CodL.yN, .static CodL.yN,
  .code Cmp3.yN Cmp3.yB 6 (some (.array .byte)), .initialized U16, .arrayClass .byte, .methodLink U16 115 Cmp5.yN, .static Cmp5.yN, .code Cmp5.yN Cmp5.yB 7 (some .int), .code CodL.yN CodL.yB 2 (some .byte)]
theorem tab_of {a : Array Value} {s : State} (h : ∀ w ∈ words, w.before a s = true) : New1.tab.before a s = true := by
  have h5 : Cmp5.tab.before a s = true := unparts (wk h (.code Cmp5.yN Cmp5.yB 7 (some .int))) (wks h (.initialized Cmp5.yN.cls :: Cmp5.site))
  have hc : CodL.tab.before a s = true := unparts (wk h (.code CodL.yN CodL.yB 2 (some .byte))) (wks h (.initialized CodL.yN.cls :: CodL.site))
  have q5 : ∀ w ∈ Cmp5.tab :: words, w.before a s = true := fun w hw => (List.mem_cons.mp hw).elim (fun e => e ▸ h5) (h w)
  have h3 : Cmp3.tab.before a s = true := unparts (wk q5 (.code Cmp3.yN Cmp3.yB 6 (some (.array .byte)))) (wks q5 (.initialized Cmp3.yN.cls :: Cmp3.site))
  have q3 : ∀ w ∈ Cmp3.tab :: CodL.tab :: words, w.before a s = true := fun w hw => (List.mem_cons.mp hw).elim (fun e => e ▸ h3) fun hw => (List.mem_cons.mp hw).elim (fun e => e ▸ hc) (h w)
  have h4 : New4.tab.before a s = true := unparts (wk q3 (.code New4.yN New4.yB 6 none)) (wks q3 (.initialized New4.yN.cls :: New4.site))
  have q4 : ∀ w ∈ New4.tab :: words, w.before a s = true := fun w hw => (List.mem_cons.mp hw).elim (fun e => e ▸ h4) (h w)
  exact unparts (wk q4 (.code New1.yN New1.yB 2 none)) (wks q4 (.initialized New1.yN.cls :: New1.site))
/-- the words ride from the start Z to the walk's own state -/
theorem moved {Z s : State} {a0 args : Array Value} (hZ : Z.Warmed39 s.vm) (hw : ∀ d ∈ words, d.before a0 Z = true) : ∀ d ∈ words, d.before args s = true := fun d hd => by
  have q := hw d hd
  have t : ∀ d ∈ words, d = .arrayClass .byte ∨ (d.onTables && d.keepsFace) = true := by decide +kernel
  rcases t d hd with rfl | t
  · exact RoadKit.mvA hZ q
  · exact RoadKit.mv hZ q t
/-- WHAT COMES BACK, over the tables of the start Z: h the heap at the call, h' behind it -/
def Q (Z : State) (x : Addr) (A : Cell) (h : Heap) (v : Option Value) (h' : Heap) (L : List Loc) : Prop := v = none ∧ (∀ y ∈ L, y.base = x) ∧ RoadKit.Keep h h' [x] ∧ h'.size = h.size + 1 ∧ RoadKit.Exa Z h' x ST ∧ RoadKit.Fld Z h' x ST "value" "[B" (.ref h.size) ∧ RoadKit.Fld Z h' x ST "coder" "B" (.int 0) ∧
  (∃ V : Cell, RoadKit.Arr Z h' h.size V .byte ∧ V.vm = .none ∧ Z.vm.findClass "[B" = some V.cls ∧ V.slots.size = A.slots.size ∧ ∀ j, j < A.slots.size → V.slots[j]? = some (.int (lo8 (cv A j)))) ∧
  ∀ (O n d : String) (w : Value), RoadKit.Fld Z h x O n d w → RoadKit.slotOf Z O n d ≠ RoadKit.slotOf Z ST "value" "[B" → RoadKit.slotOf Z O n d ≠ RoadKit.slotOf Z ST "coder" "B" → RoadKit.Fld Z h' x O n d w
/-- **new String(chars) AT A CALL, IN THE ROAD'S FORM**: for specialBack behind newO: x the fresh String, b the char[] with the cell A -/
theorem back {p : Program} {l : Launch} {e : Env} {R : Room} {s : State} {args : Array Value} {below : List Frame} {len W : Nat} {Z : State} {a0 : Array Value} {h : Heap} (hZ : Z.Warmed39 s.vm) (hw : ∀ d ∈ words, d.before a0 Z = true) {kI : Nat} (wi : (Jvm.Cond.instantiable ST kI).before a0 Z = true)
    {x b : Addr} {A : Cell} {z : Int32} {v0 c0 : Value} (E : RoadKit.Exa Z h x ST) (V : RoadKit.Fld Z h x ST "value" "[B" v0) (C : RoadKit.Fld Z h x ST "coder" "B" c0) (K : RoadKit.Arr Z h b A .char) (hty : Typed .char A) (S : RoadKit.Sta Z h ST "COMPACT_STRINGS" "Z" (.int z)) (hz : ¬ z = 0)
    (l0 : 0 < A.slots.size) (l2 : A.slots.size ≤ 536870912) (hp : ∀ i, i < A.slots.size → ¬ 255 < cv A i) (hfr : 4 ≤ R.frames) (hlo : W + 65 ≤ R.locals) :
    Back l R p e below s args New1.yN len W (fun P a => a = #[.ref x, .ref b] ∧ P.U.heap = h ∧ P.cells + 1 ≤ R.cells ∧ P.slots + A.slots.size ≤ R.slots)
      (fun P _ v B => ∃ L, Q Z x A h v B.U.heap L ∧ B.locs = P.locs ++ L ∧ B.cells = P.cells + 1 ∧ B.slots = P.slots + A.slots.size) := by
  intro m meth c P g ig mk a X hg hsize hdg hW hn hp'
  obtain ⟨rfl, rfl, r1, r2⟩ := hp'
  have al : Z.vm.Alike P.U.vm := hZ.alike.trans X.warmed.alike
  obtain ⟨D, cfV, kV, iV, fV, hD, gV, stV, knV, obV, asV, slV⟩ := id V
  obtain ⟨D', cfC, kC, iC, fC, hD', gC, stC, -, -, asC, slC⟩ := id C
  cases hD.symm.trans hD'
  obtain ⟨D2, kD, e1, e2, e3, e4, e5⟩ := id E
  cases hD.symm.trans e1
  obtain ⟨c2, k2, i1, i2, i3, -⟩ := Cond.instantiable_spec wi
  cases e2.symm.trans i1
  cases e3.symm.trans i2
  obtain ⟨kU, u1, u2⟩ := al.2.2 _ _ e3
  have hB : Blank ST x D P.U := ⟨hD, ⟨knV, fun q hq => by rw [hq] at obV; cases obV⟩, by rw [al.findClass]; exact e2, kU, u1, by rw [u2]; exact i3, by rw [u2]; exact e5 i3⟩
  have F1 : Found ST "value" "[B" fV P.U := ⟨SBG.found_only al ⟨cfV, kV, iV, gV⟩, stV⟩
  have F2 : Found ST "coder" "B" fC P.U := ⟨SBG.found_only al ⟨cfC, kC, iC, gC⟩, stC⟩
  have hA : Ch b A P.U := ⟨⟨K.1, State.isArrayOf_alike al K.2.1, K.2.2, by omega⟩, hty⟩
  have hS : StaticIs P.U ST "COMPACT_STRINGS" "Z" (.int z) := by
    obtain ⟨cfS, iS, kS, fS, st, cS, t1, t2, t3, t4, t5, t6, t7⟩ := S
    exact StaticIs.there (s := { Z with heap := P.U.heap }) ⟨cfS, iS, kS, fS, st, cS, t1, t2, t3, t4, t5, (fun q => by rw [q] at t6; cases t6), t7⟩ al rfl
  obtain ⟨v, B, X', ⟨⟨hv, E', V', q1, q2, q3, q4, q5, q6, q7, q8, q9, q10, q11⟩, hl, hc, hs⟩, st⟩ := New1.pays x D fV fC b A z (tab_of (moved hZ hw)) hfr hlo m meth c P g ig mk _ X hg hsize hdg hW hn ⟨r1, r2, rfl, hB, F1, F2, hA, hS, hz, l0, l2, hp⟩
  have al' : Z.vm.Alike B.U.vm := hZ.alike.trans X'.warmed.alike
  have hsz : E'.slots.size = D.slots.size := by
    obtain ⟨-, -, -, kB, w1, w2, w3⟩ := q1
    obtain ⟨kB', y1, y2⟩ := al'.2.2 _ _ e3
    rw [q2.2.1] at w1
    cases w1.symm.trans y1
    rw [w3, e5 i3, y2]
  refine ⟨v, B, X', ⟨_, ⟨hv, ?_, ⟨by omega, fun y cy hy hn' => q10 y cy (by simpa using hn') hy, fun y cy hy => ?_⟩, q11, ⟨E', _, q1.1, by rw [q2.2.1]; exact e2, by rw [q2.2.1]; exact e3, by rw [q2.1]; exact obV, fun _ => by rw [hsz]; exact e5 i3⟩,
    ⟨E', cfV, kV, iV, fV, q1.1, gV, stV, by rw [q2.1]; exact knV, by rw [q2.1]; exact obV, by rw [q2.2.1]; exact asV, q3⟩, ⟨E', cfC, kC, iC, fC, q1.1, gC, stC, by rw [q2.1]; exact knV, by rw [q2.1]; exact obV, by rw [q2.2.1]; exact asC, q4⟩,
    ⟨V', ⟨q5.1, State.isArrayOf_alike al'.symm q5.2.1, q5.2.2.1⟩, q6, by rw [← al'.findClass]; exact q7, q8, fun j hj => by have := q9 j hj; rwa [Nat.zero_add] at this⟩, fun O n d w F n1 n2 => ?_⟩, hl, hc, hs⟩, st⟩
  · intro y hy
    simp only [List.mem_cons, List.not_mem_nil, or_false] at hy
    rcases hy with rfl | rfl <;> rfl
  · by_cases q : y = x
    · subst q
      cases hD.symm.trans hy
      exact ⟨E', q1.1, q2.2.1, q2.1, hsz⟩
    · exact ⟨cy, q10 y cy q hy, rfl, rfl, rfl⟩
  · obtain ⟨D3, cf, k, i, f, g1, g2, g3, g4, g5, g6, g7⟩ := F
    cases hD.symm.trans g1
    simp only [RoadKit.slotOf, g2, gV, gC, Option.map_some, Option.getD_some] at n1 n2
    exact ⟨E', cf, k, i, f, q1.1, g2, g3, by rw [q2.1]; exact g4, by rw [q2.1]; exact g5, by rw [q2.2.1]; exact g6, by rw [q2.2.2 f.slot (by simp [n1, n2])]; exact g7⟩
end StrChars.Road
namespace StrChars.Road
open Jvm Sem ClassFile Op Lib Jvm.Stand Jvm.Free Jvm.Free.XT
/-- WHAT COMES BACK, the byte[] as a list of values -/
def QA (Z : State) (x : Addr) (zn : Int32) (cs : List Int32) (h : Heap) (v : Option Value) (h' : Heap) (L : List Loc) : Prop := v = none ∧ (∀ y ∈ L, y.base = x) ∧ RoadKit.Keep h h' [x] ∧ h'.size = h.size + 1 ∧ RoadKit.Exa Z h' x ST ∧ RoadKit.Fld Z h' x ST "value" "[B" (.ref h.size) ∧ RoadKit.Fld Z h' x ST "coder" "B" (.int 0) ∧
  (∃ kb, Z.vm.findClass "[B" = some kb ∧ RoadKit.Arv Z h' h.size kb .byte zn (cs.map fun c => .int (lo8 c)) (.int 0)) ∧
  ∀ (O n d : String) (w : Value), RoadKit.Fld Z h x O n d w → RoadKit.slotOf Z O n d ≠ RoadKit.slotOf Z ST "value" "[B" → RoadKit.slotOf Z O n d ≠ RoadKit.slotOf Z ST "coder" "B" → RoadKit.Fld Z h' x O n d w
/-- **new String(chars) AT A CALL, THE ARRAYS AS LISTS**: the char[] at b holds cs, not empty, no char above 255 -/
theorem backArv {p : Program} {l : Launch} {e : Env} {R : Room} {s : State} {args : Array Value} {below : List Frame} {len W : Nat} {Z : State} {a0 : Array Value} {h : Heap} (hZ : Z.Warmed39 s.vm) (hw : ∀ d ∈ words, d.before a0 Z = true) {kI : Nat} (wi : (Jvm.Cond.instantiable ST kI).before a0 Z = true)
    {x b : Addr} {k : ClassId} {zn z : Int32} {cs : List Int32} {dv v0 c0 : Value} (E : RoadKit.Exa Z h x ST) (V : RoadKit.Fld Z h x ST "value" "[B" v0) (C : RoadKit.Fld Z h x ST "coder" "B" c0) (K : RoadKit.Arv Z h b k .char zn (cs.map Value.int) dv) (S : RoadKit.Sta Z h ST "COMPACT_STRINGS" "Z" (.int z)) (hz : ¬ z = 0)
    (hlen : zn.toNatClampNeg = cs.length) (h0 : 0 < cs.length) (hbig : cs.length ≤ 536870912) (hall : ∀ c ∈ cs, ¬ 255 < c) (hfr : 4 ≤ R.frames) (hlo : W + 65 ≤ R.locals) :
    Back l R p e below s args New1.yN len W (fun P a => a = #[.ref x, .ref b] ∧ P.U.heap = h ∧ P.cells + 1 ≤ R.cells ∧ P.slots + cs.length ≤ R.slots)
      (fun P _ v B => ∃ L, QA Z x zn cs h v B.U.heap L ∧ B.locs = P.locs ++ L ∧ B.cells = P.cells + 1 ∧ B.slots = P.slots + cs.length) := by
  obtain ⟨A, K1, K2, K3, K4, K5, K6⟩ := K
  have e : A.slots.size = cs.length := K3.trans hlen
  have hat : ∀ (i : Nat) (hi : i < cs.length), A.slots[i]? = some (.int cs[i]) := fun i hi => by rw [K5 i (by omega)]; simp [List.getD_eq_getElem?_getD, hi]
  have hcv : ∀ (i : Nat) (hi : i < cs.length), cv A i = cs[i] := fun i hi => by unfold cv; rw [hat i hi]
  have hty : Typed .char A := fun i v hv => by
    have hi : i < A.slots.size := (Array.getElem?_eq_some_iff.mp hv).1
    have q := K5 i hi
    rw [hv] at q
    rw [Option.some.inj q]
    exact K6 i hi
  refine Back.mono (back hZ hw wi E V C K1 hty S hz (by omega) (by omega) (fun i hi => by rw [hcv i (by omega)]; exact hall _ (List.getElem_mem _)) hfr hlo) (fun P a hp => ⟨hp.1, hp.2.1, hp.2.2.1, by rw [e]; exact hp.2.2.2⟩) (fun P a v B hp hq => ?_)
  obtain ⟨L, ⟨q1, q2, q3, q4, q5, q6, q7, ⟨V', v1, v2, v3, v4, v5⟩, q9⟩, hl, hc, hs⟩ := hq
  refine ⟨L, ⟨q1, q2, q3, q4, q5, q6, q7, ⟨V'.cls, v3, V', v1, rfl, by rw [v4, e, hlen], K4, fun i hi => ?_, fun i hi => ?_⟩, q9⟩, hl, hc, by rw [hs, e]⟩
  · have hi' : i < cs.length := by omega
    rw [v5 i (by omega), hcv i hi']; simp [List.getD_eq_getElem?_getD, hi']
  · have hi' : i < cs.length := by omega
    simp only [List.getD_eq_getElem?_getD, List.getElem?_map, List.getElem?_eq_getElem hi', Option.map_some, Option.getD_some]
    exact fits_lo8 _
end StrChars.Road
namespace StrChars.Road
open Jvm Sem ClassFile Op Lib Jvm.Stand Jvm.Free Jvm.Free.XT
/-- WHAT COMES BACK, in the writer's own shape -/
def QV (Z : State) (x : Addr) (N : Int32) (bs : List Int32) (h : Heap) (n0 : Nat) (v : Option Value) (h' : Heap) (L : List Loc) : Prop := v = none ∧ RoadKit.Fr n0 L ∧ RoadKit.Keep h h' [x] ∧ RoadKit.Exa Z h' x ST ∧ RoadKit.Fld Z h' x ST "coder" "B" (.int 0) ∧
  ∃ (t : Addr) (kb : ClassId), n0 ≤ t ∧ h.size ≤ t ∧ ¬ t = x ∧ RoadKit.Fld Z h' x ST "value" "[B" (.ref t) ∧ RoadKit.Arv Z h' t kb .byte N (bs.map Value.int) (.int 0)
/-- **new String(chars) AT A CALL, FOR THE WRITER**: a char[] of n known ints, each 0 to 255 -/
theorem backV {p : Program} {l : Launch} {e : Env} {R : Room} {s : State} {args : Array Value} {below : List Frame} {len W : Nat} {Z : State} {a0 : Array Value} {h : Heap} (hZ : Z.Warmed39 s.vm) (hw : ∀ d ∈ words, d.before a0 Z = true) {kI : Nat} (wi : (Jvm.Cond.instantiable ST kI).before a0 Z = true)
    {x b : Addr} {kC : ClassId} {cs bs : List Int32} {d v0 c0 : Value} {z N : Int32} {n n0 : Nat} (hx0 : n0 ≤ x) (hh0 : n0 ≤ h.size) (E : RoadKit.Exa Z h x ST) (V : RoadKit.Fld Z h x ST "value" "[B" v0) (C : RoadKit.Fld Z h x ST "coder" "B" c0) (K : RoadKit.Arv Z h b kC .char N (cs.map Value.int) d) (S : RoadKit.Sta Z h ST "COMPACT_STRINGS" "Z" (.int z)) (hz : ¬ z = 0)
    (hn : cs.length = n) (hN : N = Int32.ofNat n) (l0 : 0 < n) (l2 : n ≤ 4000) (hp : ∀ c ∈ cs, ¬ c < 0 ∧ ¬ (255 : Int32) < c) (hb : bs = cs.map (fun c => c.toInt8.toInt32)) (hfr : 4 ≤ R.frames) (hlo : W + 65 ≤ R.locals) :
    Back l R p e below s args (⟨"java/lang/String", "<init>", "([C)V"⟩ : MethodName) len W (fun P a => a = #[.ref x, .ref b] ∧ P.U.heap = h ∧ P.cells + 1 ≤ R.cells ∧ P.slots + n ≤ R.slots)
      (fun P _ v B => ∃ L, QV Z x N bs h n0 v B.U.heap L ∧ B.locs = P.locs ++ L ∧ B.cells = P.cells + 1 ∧ B.slots = P.slots + n) := by
  subst hn hN hb
  refine Back.mono (backArv hZ hw wi E V C K S hz (n32 (by omega)) l0 (by omega) (fun c hc => (hp c hc).2) hfr hlo) (fun P a hp => hp) (fun P a v B hp hq => ?_)
  obtain ⟨L, ⟨q1, q2, q3, q4, q5, q6, q7, ⟨kb, v1, v2⟩, q9⟩, hl, hc, hs⟩ := hq
  exact ⟨L, ⟨q1, fun y hy => by rw [q2 y hy]; exact hx0, q3, q5, q7, h.size, kb, hh0, Nat.le_refl _, Nat.ne_of_gt E.lt, q6, by rw [List.map_map]; exact v2⟩, hl, hc, hs⟩
end StrChars.Road
namespace StrChars
open Jvm Sem ClassFile Op Lib Jvm.Stand Jvm.Free.XT Jvm.Free.ALB Jvm.Free.JM Jvm.Free
open Jvm.Lib.Cold (StaticIs)
def hi8 (x : Int32) : Int32 := lo8 (x >>> ((8 : Int32) &&& 31))
theorem shr0 (c : Int32) : c >>> ((0 : Int32) &&& 31) = c := by
  have e : ((0 : Int32) &&& 31) = 0 := by decide
  rw [e]
  apply Int32.toBitVec_inj.mp
  rw [Int32.toBitVec_shiftRight]
  have e1 : ((0 : Int32).toBitVec.smod 32) = 0#32 := by decide
  rw [e1, BitVec.sshiftRight_eq']
  exact BitVec.sshiftRight_zero
end StrChars
namespace StrChars
open Jvm Sem ClassFile Op Lib Jvm.Stand Jvm.Free.XT Jvm.Free.ALB Jvm.Free.JM Jvm.Free
open Jvm.Lib.Cold (StaticIs)
theorem shr1 {n : Nat} (h : 2 * n < 2 ^ 31) : Int32.ofNat (2 * n) >>> ((1 : Int32) &&& 31) = Int32.ofNat n := by
  have e : ((1 : Int32) &&& 31) = 1 := by decide
  rw [e]
  apply Int32.toBitVec_inj.mp
  rw [Int32.toBitVec_shiftRight]
  have e1 : ((1 : Int32).toBitVec.smod 32) = 1#32 := by decide
  have hm : (BitVec.ofNat 32 (2 * n)).toNat = 2 * n := by rw [BitVec.toNat_ofNat, Nat.mod_eq_of_lt (by omega)]
  rw [e1, BitVec.sshiftRight_eq']
  apply BitVec.eq_of_toNat_eq
  show ((BitVec.ofNat 32 (2 * n)).sshiftRight 1).toNat = (BitVec.ofNat 32 n).toNat
  rw [BitVec.toNat_sshiftRight_of_msb_false (by rw [BitVec.msb_eq_false_iff_two_mul_lt, hm]; omega), hm, BitVec.toNat_ofNat, Nat.shiftRight_eq_div_pow]
  omega
/-- the array's cell V codes the n chars f 0 .. f (n - 1) by the coder cd, as the JDK does: coder 1 just where some char is above 255 -/
def Cod (cd : Int32) (n : Nat) (f : Nat → Int32) (V : Cell) : Prop := (cd = 0 ∧ V.slots.size = n ∧ ∀ j, j < n → V.slots[j]? = some (.int (lo8 (f j))) ∧ ¬ 255 < f j) ∨ (cd = 1 ∧ V.slots.size = 2 * n ∧ (∀ j, j < n → V.slots[2 * j]? = some (.int (lo8 (f j))) ∧ V.slots[2 * j + 1]? = some (.int (hi8 (f j)))) ∧ ∃ j, j < n ∧ 255 < f j)
theorem Cod.cd {cd : Int32} {n : Nat} {f : Nat → Int32} {V : Cell} (h : Cod cd n f V) : cd = 0 ∨ cd = 1 := h.imp (fun q => q.1) fun q => q.1
theorem Cod.len {cd : Int32} {n : Nat} {f : Nat → Int32} {V : Cell} (h : Cod cd n f V) (hs : V.slots.size < 2 ^ 31) : Int32.ofNat V.slots.size >>> (cd &&& 31) = Int32.ofNat n := by
  rcases h with ⟨rfl, h, -⟩ | ⟨rfl, h, -⟩
  · rw [shr0, h]
  · rw [h, shr1 (by omega)]
/-- **x is a String of the n chars f 0 .. f (n - 1)**, Latin-1 or UTF-16; its array at t has the cell V -/
def Txt (x t : Addr) (V : Cell) (cd : Int32) (n : Nat) (f : Nat → Int32) (U : State) : Prop := Exact "java/lang/String" x U ∧ Has x "java/lang/String" "value" "[B" (.ref t) U ∧ Has x "java/lang/String" "coder" "B" (.int cd) U ∧ XT.Arr .byte t V U ∧ Cod cd n f V ∧ ∀ j, j < n → ¬ f j < 0 ∧ ¬ 65535 < f j
theorem Txt.mv {x t : Addr} {V : Cell} {cd : Int32} {n : Nat} {f : Nat → Int32} {U U' : State} (h : Txt x t V cd n f U) (hal : U.vm.Alike U'.vm) (hh : U'.heap = U.heap) : Txt x t V cd n f U' := ⟨h.1.mv hal hh, h.2.1.mv hal hh, h.2.2.1.mv hal hh, h.2.2.2.1.mv hal hh, h.2.2.2.2⟩
namespace Cdr
def yN : MethodName := ⟨"java/lang/String", "coder", "()B"⟩
abbrev yB : ByteArray := jdk_42_method_152_code
theorem d0 : decode yB 0 = .ok (.getstatic 38, 3) := by decide +kernel
theorem d3 : decode yB 3 = .ok (.ifCond (.eq) 10, 3) := by decide +kernel
theorem d6 : decode yB 6 = .ok (.aload_n 0, 1) := by decide +kernel
theorem d7 : decode yB 7 = .ok (.getfield 15, 3) := by decide +kernel
theorem d10 : decode yB 10 = .ok (.goto 4, 3) := by decide +kernel
theorem d14 : decode yB 14 = .ok (.ireturn, 1) := by decide +kernel
def site : List Cond := [.fieldLink "java/lang/String" 38 "java/lang/String" "COMPACT_STRINGS" "Z", .fieldLink "java/lang/String" 15 "java/lang/String" "coder" "B"]
def tab : Cond := tabOf yN yB 1 (some .byte) site
def P (x : Addr) (cd z : Int32) (args : Array Value) (s : State) : Prop := args = #[.ref x] ∧ Has x "java/lang/String" "coder" "B" (.int cd) s ∧ (cd = 0 ∨ cd = 1) ∧ StaticIs s "java/lang/String" "COMPACT_STRINGS" "Z" (.int z) ∧ ¬ z = 0
def E (cd : Int32) (r : Option Value) (s u : State) : Prop := XT.PureE (some (.int cd)) r s u
theorem law (l : Launch) (x : Addr) (cd z : Int32) : Law l yN 1 0 0 0 yB 1 (some .byte) site (P x cd z) (E cd) [] 0 0 := by
  refine Law.of_walk (plainFor_of_name (by decide +kernel)) (by decide +kernel) (by decide +kernel) (by decide) (fun _ _ h => by rw [h.1]; rfl) (fun _ U U' hal hh h => ⟨h.1, h.2.1.mv hal hh, h.2.2.1, h.2.2.2.1.there hal hh, h.2.2.2.2⟩) (fun r U U' V V' h1 hal h2 h => XT.PureE.mv r U U' V V' h1 hal h2 h) ?_
  intro p e s m args below meth c s₁ X0 hexec hbytes hml hret hlk hnm hown hh0 W hP
  obtain ⟨rfl, hx, hc, s1, hz⟩ := hP
  have c1 : Steps p.tables e below (s₁.setTop (entryFrame m #[.ref x] 1)) (s₁.setTop (mkF m 0 #[.val (.ref x)] [])) := entry rfl
  obtain ⟨T2, X2, q2, st2⟩ := X0.sget hexec hown (wk W (.fieldLink "java/lang/String" 38 "java/lang/String" "COMPACT_STRINGS" "Z")) s1 (fun _ _ h => by rw [hh0]; exact h) (g := (mkF m 0 #[.val (.ref x)] [])) rfl (hb hbytes d0)
  have hh2 := q2.trans hh0
  have c3 : Steps p.tables e below (s₁.setTop (entryFrame m #[.ref x] 1)) (T2.setTop (mkF m 7 #[.val (.ref x)] [.ref x])) := (c1.trans (st2 _ (Steps.refl _))).trans (by
    refine XS.ifNo X2.here hexec rfl (hb hbytes d3) rfl (i0_eq_f hz) ?_
    refine XS.aloadN X2.here hexec rfl (hb hbytes d6) rfl rfl ?_
    exact Steps.refl _)
  obtain ⟨T4, X4, q4, st4⟩ := X2.hget hexec hown (wk W (.fieldLink "java/lang/String" 15 "java/lang/String" "coder" "B")) (hx.mv X2.warmed.alike hh2) (g := (mkF m 7 #[.val (.ref x)] [.ref x])) rfl (rest := []) rfl (hb hbytes d7)
  have c5 : Steps p.tables e below (s₁.setTop (entryFrame m #[.ref x] 1)) (T4.setTop (mkF m 14 #[.val (.ref x)] [.int cd])) := (c3.trans (st4 _ (Steps.refl _))).trans (by
    refine XS.goto X4.here hexec rfl (pc0 := 10) rfl (hb hbytes d10) (by decide) rfl ?_
    exact Steps.refl _)
  exact ⟨T4, some (.int cd), _, _, _, X4, rfl, rfl, rfl, (fun h => by cases h), ⟨rfl, q4.trans hh2⟩, fun fs hl => c5.trans (X4.ireturnOut hexec hret (by rcases hc with rfl | rfl <;> rfl) (Or.inr (Or.inr (Or.inl rfl))) (hb hbytes d14) hl)⟩
end Cdr
namespace Len
def yN : MethodName := ⟨"java/lang/String", "length", "()I"⟩
abbrev yB : ByteArray := jdk_42_method_54_code
theorem d0 : decode yB 0 = .ok (.aload_n 0, 1) := by decide +kernel
theorem d1 : decode yB 1 = .ok (.getfield 9, 3) := by decide +kernel
theorem d4 : decode yB 4 = .ok (.arraylength, 1) := by decide +kernel
theorem d5 : decode yB 5 = .ok (.aload_n 0, 1) := by decide +kernel
theorem d6 : decode yB 6 = .ok (.invokevirtual 335, 3) := by decide +kernel
theorem d9 : decode yB 9 = .ok (.ishr, 1) := by decide +kernel
theorem d10 : decode yB 10 = .ok (.ireturn, 1) := by decide +kernel
def site : List Cond := [.fieldLink "java/lang/String" 9 "java/lang/String" "value" "[B", Cdr.tab] ++ virtW "java/lang/String" 335 "java/lang/String" Cdr.yN Cdr.yN
def tab : Cond := tabOf yN yB 1 (some .int) site
def P (x t : Addr) (V : Cell) (cd : Int32) (n : Nat) (f : Nat → Int32) (z : Int32) (args : Array Value) (s : State) : Prop := args = #[.ref x] ∧ Txt x t V cd n f s ∧ StaticIs s "java/lang/String" "COMPACT_STRINGS" "Z" (.int z) ∧ ¬ z = 0
def E (n : Nat) (r : Option Value) (s u : State) : Prop := XT.PureE (some (.int (Int32.ofNat n))) r s u
/-- length() of a String of n chars, in either coding -/
theorem law (l : Launch) (x t : Addr) (V : Cell) (cd : Int32) (n : Nat) (f : Nat → Int32) (z : Int32) : Law l yN 1 0 1 13 yB 1 (some .int) site (P x t V cd n f z) (E n) [] 0 0 := by
  refine Law.of_walk (plainFor_of_name (by decide +kernel)) (by decide +kernel) (by decide +kernel) (by decide) (fun _ _ h => by rw [h.1]; rfl) (fun _ U U' hal hh h => ⟨h.1, h.2.1.mv hal hh, h.2.2.1.there hal hh, h.2.2.2⟩) (fun r U U' V V' h1 hal h2 h => XT.PureE.mv r U U' V V' h1 hal h2 h) ?_
  intro p e s m args below meth c s₁ X0 hexec hbytes hml hret hlk hnm hown hh0 W hP
  obtain ⟨rfl, hx, s1, hz⟩ := hP
  have v31 := hx.2.2.2.1.2.2.2
  have c1 : Steps p.tables e below (s₁.setTop (entryFrame m #[.ref x] 1)) (s₁.setTop (mkF m 1 #[.val (.ref x)] [.ref x])) := Steps.trans (entry rfl) (by
    show Steps p.tables e below (s₁.setTop (mkF m 0 #[.val (.ref x)] [])) _
    refine XS.aloadN X0.here hexec rfl (hb hbytes d0) rfl rfl ?_
    exact Steps.refl _)
  obtain ⟨T2, X2, q2, st2⟩ := X0.hget hexec hown (wk W (.fieldLink "java/lang/String" 9 "java/lang/String" "value" "[B")) (hx.mv X0.warmed.alike hh0).2.1 (g := (mkF m 1 #[.val (.ref x)] [.ref x])) rfl (rest := []) rfl (hb hbytes d1)
  have hh2 := q2.trans hh0
  have hx2 := hx.mv X2.warmed.alike hh2
  have c3 : Steps p.tables e below (s₁.setTop (entryFrame m #[.ref x] 1)) (T2.setTop (mkF m 6 #[.val (.ref x)] [.ref x, .int (Int32.ofNat V.slots.size)])) := (c1.trans (st2 _ (Steps.refl _))).trans (by
    refine X2.alen hexec hx2.2.2.2.1 rfl rfl (hb hbytes d4) ?_
    refine XS.aloadN X2.here hexec rfl (hb hbytes d5) rfl rfl ?_
    exact Steps.refl _)
  obtain ⟨v4, T4, X4, E4, g4⟩ := X2.callV hexec (Cdr.law l x cd z) hown (wks W (virtW "java/lang/String" 335 "java/lang/String" Cdr.yN Cdr.yN)) rfl (by decide) (wk W Cdr.tab) (W := 1) (Nat.le_of_ble_eq_true rfl) (Nat.le_of_ble_eq_true rfl) (Nat.le_refl _) (Nat.le_refl _) (hx2.1.fc X2.warmed.alike) hx2.1.is (g := (mkF m 6 #[.val (.ref x)] [.ref x, .int (Int32.ofNat V.slots.size)])) rfl (by rw [hml]; rfl) c3 (argsL := []) (rest := [.int (Int32.ofNat V.slots.size)]) rfl rfl (by show 2 * 0 + (1 + 0) ≤ _; decide) (hb hbytes d6) (⟨rfl, hx2.2.2.1, hx.2.2.2.2.1.cd, s1.there X2.warmed.alike hh2, hz⟩)
  obtain ⟨rfl, q4⟩ := E4
  have c5 : Steps p.tables e below (s₁.setTop (entryFrame m #[.ref x] 1)) (T4.setTop (mkF m 10 #[.val (.ref x)] [.int (Int32.ofNat V.slots.size >>> (cd &&& 31))])) := Steps.trans g4 (by
    refine ishr X4.here hexec rfl (hb hbytes d9) rfl ?_
    exact Steps.refl _)
  rw [hx.2.2.2.2.1.len v31] at c5
  exact ⟨T4, some (.int (Int32.ofNat n)), _, _, _, X4, rfl, rfl, rfl, (fun h => by cases h), ⟨rfl, q4.trans hh2⟩, fun fs hl => c5.trans (X4.ireturnOut hexec hret rfl (Or.inl rfl) (hb hbytes d10) hl)⟩
theorem pays {l : Launch} {R : Room} {p : Program} {e : Env} {below : List Frame} {s : State} {sargs : Array Value} {len W : Nat} (x t : Addr) (V : Cell) (cd : Int32) (n : Nat) (f : Nat → Int32) (z : Int32) (htab : tab.before sargs s = true) (hfr : 2 ≤ R.frames) (hlo : W + 25 ≤ R.locals) :
    Back l R p e below s sargs yN len W (fun A₁ a₁ => A₁.cells + 0 ≤ R.cells ∧ A₁.slots + 0 ≤ R.slots ∧ P x t V cd n f z a₁ A₁.U) (fun A₁ _ v₁ B₁ => E n v₁ A₁.U B₁.U ∧ B₁.locs = A₁.locs ++ [] ∧ B₁.cells = A₁.cells + 0 ∧ B₁.slots = A₁.slots + 0) :=
  (law l x t V cd n f z).pays htab hfr (by omega)
end Len
end StrChars
namespace StrChars.Road
open Jvm Sem ClassFile Op Lib Jvm.Stand Jvm.Free Jvm.Free.XT
open Jvm.Lib.Cold (StaticIs)
theorem consq {a : Array Value} {s : State} {c : Jvm.Cond} {L : List Jvm.Cond} (h0 : c.before a s = true) (h : ∀ w ∈ L, w.before a s = true) : ∀ w ∈ c :: L, w.before a s = true := fun w hw => (List.mem_cons.mp hw).elim (fun e => e ▸ h0) (h w)
/-- the words of String.length(), either coding -/
abbrev wordsLen : List Jvm.Cond := [.code Len.yN Len.yB 1 (some .int), .initialized ST, .fieldLink ST 9 ST "value" "[B", .fieldLink ST 38 ST "COMPACT_STRINGS" "Z", .fieldLink ST 15 ST "coder" "B", .code Cdr.yN Cdr.yB 1 (some .byte), .methodLink ST 335 Cdr.yN, .declares Cdr.yN, .selects ST Cdr.yN Cdr.yN, .instanceMethod Cdr.yN]
theorem tabLen_of {a : Array Value} {s : State} (h : ∀ w ∈ wordsLen, w.before a s = true) : Len.tab.before a s = true := by
  have hc : Cdr.tab.before a s = true := unparts (wk h (.code Cdr.yN Cdr.yB 1 (some .byte))) (wks h (.initialized Cdr.yN.cls :: Cdr.site))
  have q := consq hc h
  exact unparts (wk q (.code Len.yN Len.yB 1 (some .int))) (wks q (.initialized Len.yN.cls :: Len.site))
theorem movedLen {Z s : State} {a0 args : Array Value} (hZ : Z.Warmed39 s.vm) (hw : ∀ d ∈ wordsLen, d.before a0 Z = true) : ∀ d ∈ wordsLen, d.before args s = true := fun d hd => by
  have q := hw d hd
  have t : ∀ d ∈ wordsLen, d = .arrayClass .byte ∨ (d.onTables && d.keepsFace) = true := by decide +kernel
  rcases t d hd with rfl | t
  · exact RoadKit.mvA hZ q
  · exact RoadKit.mv hZ q t
/-- the bytes of the chars cs, low before high -/
def wideBytes : List Int32 → List Value
  | [] => []
  | c :: cs => .int (lo8 c) :: .int (hi8 c) :: wideBytes cs
theorem wide_lo (d : Value) : ∀ (cs : List Int32) (j : Nat), j < cs.length → (wideBytes cs).getD (2 * j) d = .int (lo8 (cs.getD j 0))
  | [], j, h => absurd h (Nat.not_lt_zero j)
  | c :: cs, 0, _ => rfl
  | c :: cs, j + 1, h => by
    have q := wide_lo d cs j (by simpa using h)
    rw [show 2 * (j + 1) = 2 * j + 1 + 1 from by omega]
    simpa [wideBytes] using q
theorem wide_hi (d : Value) : ∀ (cs : List Int32) (j : Nat), j < cs.length → (wideBytes cs).getD (2 * j + 1) d = .int (hi8 (cs.getD j 0))
  | [], j, h => absurd h (Nat.not_lt_zero j)
  | c :: cs, 0, _ => rfl
  | c :: cs, j + 1, h => by
    have q := wide_hi d cs j (by simpa using h)
    rw [show 2 * (j + 1) + 1 = 2 * j + 1 + 1 + 1 from by omega]
    simpa [wideBytes] using q
theorem low_at (d : Value) (cs : List Int32) (j : Nat) (h : j < cs.length) : (cs.map fun c => Value.int (lo8 c)).getD j d = .int (lo8 (cs.getD j 0)) := by
  simp [List.getD_eq_getElem?_getD, h]
/-- an array of N2 bytes vs codes the chars cs by the coder cd -/
def CodA (cs : List Int32) (cd N2 : Int32) (vs : List Value) : Prop := (cd = 0 ∧ N2 = Int32.ofNat cs.length ∧ vs = (cs.map fun c => Value.int (lo8 c)) ∧ ∀ c ∈ cs, ¬ 255 < c) ∨ (cd = 1 ∧ N2 = Int32.ofNat (2 * cs.length) ∧ vs = wideBytes cs ∧ ∃ c ∈ cs, 255 < c)
theorem CodA.cod {cs : List Int32} {cd N2 : Int32} {vs : List Value} {V : Cell} (h : CodA cs cd N2 vs) (hn : 2 * cs.length < 2 ^ 31) (hs : V.slots.size = N2.toNatClampNeg) (hv : RoadKit.Has V vs (.int 0)) : Cod cd cs.length (fun j => cs.getD j 0) V := by
  rcases h with ⟨rfl, rfl, rfl, h⟩ | ⟨rfl, rfl, rfl, c, hc, hw⟩
  · rw [n32 (by omega)] at hs
    exact Or.inl ⟨rfl, hs, fun j hj => ⟨by rw [hv j (by omega), low_at _ _ _ hj], by
      have e : cs.getD j 0 = cs[j] := by simp [List.getD_eq_getElem?_getD, hj]
      show ¬ 255 < cs.getD j 0
      rw [e]; exact h _ (List.getElem_mem _)⟩⟩
  · rw [n32 (by omega)] at hs
    obtain ⟨j, hj, rfl⟩ := List.getElem_of_mem hc
    exact Or.inr ⟨rfl, hs, fun j hj => ⟨by rw [hv _ (by omega), wide_lo _ _ _ hj], by rw [hv _ (by omega), wide_hi _ _ _ hj]⟩, j, hj, by
      have e : cs.getD j 0 = cs[j] := by simp [List.getD_eq_getElem?_getD, hj]
      show 255 < cs.getD j 0
      rw [e]; exact hw⟩
/-- an object of exactly java/lang/String, its two fields found: as the laws ask it -/
theorem strObj {Z U : State} {a0 : Array Value} {kI : Nat} (wi : (Jvm.Cond.instantiable ST kI).before a0 Z = true) (al : Z.vm.Alike U.vm) {x : Addr} {v0 c0 : Value} (E : RoadKit.Exa Z U.heap x ST) (V : RoadKit.Fld Z U.heap x ST "value" "[B" v0) (C : RoadKit.Fld Z U.heap x ST "coder" "B" c0) :
    ∃ (D : Cell) (fV fC : Field), Blank ST x D U ∧ Found ST "value" "[B" fV U ∧ Found ST "coder" "B" fC U ∧ D.slots[fV.slot]? = some v0 ∧ D.slots[fC.slot]? = some c0 ∧ RoadKit.slotOf Z ST "value" "[B" = fV.slot ∧ RoadKit.slotOf Z ST "coder" "B" = fC.slot := by
  obtain ⟨D, cfV, kV, iV, fV, hD, gV, stV, knV, obV, asV, slV⟩ := V
  obtain ⟨D', cfC, kC, iC, fC, hD', gC, stC, -, -, asC, slC⟩ := C
  cases hD.symm.trans hD'
  obtain ⟨D2, kD, e1, e2, e3, e4, e5⟩ := E
  cases hD.symm.trans e1
  obtain ⟨c2, k2, i1, i2, i3, -⟩ := Cond.instantiable_spec wi
  cases e2.symm.trans i1
  cases e3.symm.trans i2
  obtain ⟨kU, u1, u2⟩ := al.2.2 _ _ e3
  exact ⟨D, fV, fC, ⟨hD, ⟨knV, fun q hq => by rw [hq] at obV; cases obV⟩, by rw [al.findClass]; exact e2, kU, u1, by rw [u2]; exact i3, by rw [u2]; exact e5 i3⟩, ⟨SBG.found_only al ⟨cfV, kV, iV, gV⟩, stV⟩, ⟨SBG.found_only al ⟨cfC, kC, iC, gC⟩, stC⟩, slV, slC, by simp [RoadKit.slotOf, gV], by simp [RoadKit.slotOf, gC]⟩
theorem sta_is {Z U : State} (al : Z.vm.Alike U.vm) {C n d : String} {v : Value} (S : RoadKit.Sta Z U.heap C n d v) : StaticIs U C n d v := by
  obtain ⟨cfS, iS, kS, fS, st, cS, t1, t2, t3, t4, t5, t6, t7⟩ := S
  exact StaticIs.there (s := { Z with heap := U.heap }) ⟨cfS, iS, kS, fS, st, cS, t1, t2, t3, t4, t5, (fun q => by rw [q] at t6; cases t6), t7⟩ al rfl
/-- **length() OF SUCH A STRING** -/
theorem lenW {p : Program} {l : Launch} {e : Env} {R : Room} {s : State} {args : Array Value} {below : List Frame} {len W : Nat} {Z : State} {a0 : Array Value} {h : Heap} (hZ : Z.Warmed39 s.vm) (hw : ∀ d ∈ wordsLen, d.before a0 Z = true) {kI : Nat} (wi : (Jvm.Cond.instantiable ST kI).before a0 Z = true)
    {x t : Addr} {kb : ClassId} {cs : List Int32} {cd N2 z : Int32} {vs : List Value} (E : RoadKit.Exa Z h x ST) (V : RoadKit.Fld Z h x ST "value" "[B" (.ref t)) (C : RoadKit.Fld Z h x ST "coder" "B" (.int cd)) (K : RoadKit.Arv Z h t kb .byte N2 vs (.int 0)) (hc : CodA cs cd N2 vs) (hb : ∀ c ∈ cs, ¬ c < 0 ∧ ¬ (65535 : Int32) < c)
    (S : RoadKit.Sta Z h ST "COMPACT_STRINGS" "Z" (.int z)) (hz : ¬ z = 0) (l2 : cs.length ≤ 4000) (hfr : 2 ≤ R.frames) (hlo : W + 25 ≤ R.locals) :
    Back l R p e below s args (⟨"java/lang/String", "length", "()I"⟩ : MethodName) len W (fun P a => a = #[.ref x] ∧ P.U.heap = h ∧ P.cells + 0 ≤ R.cells ∧ P.slots + 0 ≤ R.slots)
      (fun P _ v B => ∃ L, (v = some (.int (Int32.ofNat cs.length)) ∧ L = [] ∧ B.U.heap = h) ∧ B.locs = P.locs ++ L ∧ B.cells = P.cells + 0 ∧ B.slots = P.slots + 0) := by
  obtain ⟨A, K1, K2, K3, K4, K5, K6⟩ := K
  have hcod := hc.cod (by omega) K3 K5
  intro m meth c P g ig mk a X hg hsize hdg hW hn hp'
  obtain ⟨rfl, rfl, r1, r2⟩ := hp'
  have al : Z.vm.Alike P.U.vm := hZ.alike.trans X.warmed.alike
  obtain ⟨D, fV, fC, hB, F1, F2, g1, g2, -, -⟩ := strObj wi al E V C
  have hx : Txt x t A cd cs.length (fun j => cs.getD j 0) P.U := ⟨⟨_, hB.2.2.1, D, hB.1, rfl, by cases q : D.vm <;> first | rfl | exact absurd q (hB.2.1.2 _)⟩, Has.of hB F1 g1, Has.of hB F2 g2, ⟨K1.1, State.isArrayOf_alike al K1.2.1, K1.2.2, by rcases hcod with ⟨-, q, -⟩ | ⟨-, q, -⟩ <;> omega⟩, hcod, fun j hj => by
    have e : cs.getD j 0 = cs[j] := by simp [List.getD_eq_getElem?_getD, hj]
    show ¬ cs.getD j 0 < 0 ∧ ¬ 65535 < cs.getD j 0
    rw [e]; exact hb _ (List.getElem_mem _)⟩
  obtain ⟨v, B, X', ⟨⟨hv, hh⟩, hl, hk, hs⟩, st⟩ := Len.pays x t A cd cs.length (fun j => cs.getD j 0) z (tabLen_of (movedLen hZ hw)) hfr hlo m meth c P g ig mk _ X hg hsize hdg hW hn ⟨r1, r2, rfl, hx, sta_is al S, hz⟩
  exact ⟨v, B, X', ⟨[], ⟨hv, rfl, hh⟩, hl, hk, hs⟩, st⟩
end StrChars.Road
namespace StrChars.Road
open Jvm Sem ClassFile Op Lib Jvm.Stand Jvm.Free Jvm.Free.XT
open Jvm.Lib.Cold (StaticIs)
/-- what backV says of its String, as the contracts of this text ask it: cs's low bytes, coder 0 -/
theorem codOf {cs : List Int32} {n : Nat} (hn : cs.length = n) (hb : ∀ c ∈ cs, ¬ 255 < c) : CodA cs 0 (Int32.ofNat n) ((cs.map lo8).map Value.int) := Or.inl ⟨rfl, by rw [hn], by simp [List.map_map, Function.comp_def], hb⟩
end StrChars.Road
end Jvm.Pilot.@@N@@
namespace Jvm.Pilot.@@N@@
open Jvm Jvm.ClassFile Sem Op Lib Jvm.Free Jvm.Stand Jvm.LawKit Jvm.RoadKit Bundle Jvm.Pilot.@@N@@.Jvm.D Jvm.OwnKit
section OwnStr
variable {p : Program} {l : Launch} {e : Env} {R : Room} {s : State} {args : Array Value} {below : List Frame} {Z : State} {a0 : Array Value} {EL : List (String × Nat)} {vm : Vm} {h : Heap} {len W : Nat}
theorem own_up {cs : List Int32} (h : ∀ c ∈ cs, B8 c) : ∀ c ∈ cs, ¬ c < 0 ∧ ¬ (65535 : Int32) < c := fun c hc => ⟨(h c hc).1, fun q => (h c hc).2 (by rw [Int32.lt_iff_toInt_lt] at q ⊢; have e1 : (65535 : Int32).toInt = 65535 := rfl; have e2 : (255 : Int32).toInt = 255 := rfl; omega)⟩
theorem own_payLen {zc : Int32} (hws : ∀ d ∈ StrChars.Road.wordsLen, d.before a0 Z = true) (wi : (Jvm.Cond.instantiable "java/lang/String" 4).before a0 Z = true) (Scs : Sta Z Z.heap "java/lang/String" "COMPACT_STRINGS" "Z" (.int zc)) (hzc : ¬ zc = 0) (O : Ext Z.heap h)
    {x t : Addr} {cs : List Int32} {N : Int32} (F : Str Z h x t cs) (hN : Int32.ofNat cs.length = N) (hfr : 2 ≤ R.frames) (hlo : W + 25 ≤ R.locals) (hZ : Z.Warmed39 vm) (H : CHv Z EL vm h) (hEL : EW Z a0 EL) :
    Pay l R p e below s args Z EL vm h (⟨"java/lang/String", "length", "()I"⟩ : MethodName) len W #[.ref x] 0 0 (fun v _ h' => v = some (.int N) ∧ h = h') := by
  obtain ⟨f1, f2, f3, ⟨kb, f4⟩, f5, f6⟩ := F
  refine Pay.of_back (a0 := a0) (Q0 := fun v h' L => v = some (.int (Int32.ofNat cs.length)) ∧ L = [] ∧ h' = h) (StrChars.Road.lenW (s := s.setVm vm) hZ hws (kI := 4) wi (cs := cs) f1 f3 f2 f4 (StrChars.Road.codOf (n := cs.length) rfl (fun c hc => (f5 c hc).2)) (own_up f5) (Scs.ext O) hzc f6 hfr hlo) hZ H hEL ?_
  rintro v h' L ⟨rfl, rfl, rfl⟩
  exact ⟨Fr.nil _, ⟨[], Keep.refl _ _, all0⟩, fun _ _ => ⟨by rw [hN], rfl⟩⟩
end OwnStr
end Jvm.Pilot.@@N@@
namespace Jvm.Pilot.@@N@@
set_option maxRecDepth 65536
set_option maxHeartbeats 40000000
open Jvm Jvm.ClassFile Sem Op Lib Jvm.Free Jvm.Stand Jvm.LawKit Jvm.RoadKit Bundle Jvm.Pilot.@@N@@.Jvm.D Jvm.OwnKit
def own_tabI : List Int32 := [(1207963663 : Int32), (1207963663 : Int32), (1207963663 : Int32), (1207963663 : Int32), (1207963663 : Int32), (1207963663 : Int32), (1207963663 : Int32), (1207963663 : Int32), (1207963663 : Int32), (1476411407 : Int32), (1342193679 : Int32), (1476411407 : Int32), (1610629135 : Int32), (1342193679 : Int32), (1207963663 : Int32), (1207963663 : Int32), (1207963663 : Int32), (1207963663 : Int32), (1207963663 : Int32), (1207963663 : Int32), (1207963663 : Int32), (1207963663 : Int32), (1207963663 : Int32), (1207963663 : Int32), (1207963663 : Int32), (1207963663 : Int32), (1207963663 : Int32), (1207963663 : Int32), (1342193679 : Int32), (1342193679 : Int32), (1342193679 : Int32), (1476411407 : Int32), (1610629132 : Int32), (1744830488 : Int32), (1744830488 : Int32), (671088664 : Int32), (671113242 : Int32), (671088664 : Int32), (1744830488 : Int32), (1744830488 : Int32), (-402653163), (-402653162), (1744830488 : Int32), (536870937 : Int32), (939524120 : Int32), (536870932 : Int32), (939524120 : Int32), (939524120 : Int32), (402667017 : Int32), (402667017 : Int32), (402667017 : Int32), (402667017 : Int32), (402667017 : Int32), (402667017 : Int32), (402667017 : Int32), (402667017 : Int32), (402667017 : Int32), (402667017 : Int32), (939524120 : Int32), (1744830488 : Int32), (-402653159), (1744830489 : Int32), (-402653159), (1744830488 : Int32), (1744830488 : Int32), (8552417 : Int32), (8552417 : Int32), (8552417 : Int32), (8552417 : Int32), (8552417 : Int32), (8552417 : Int32), (8552417 : Int32), (8552417 : Int32), (8552417 : Int32), (8552417 : Int32), (8552417 : Int32), (8552417 : Int32), (8552417 : Int32), (8552417 : Int32), (8552417 : Int32), (8552417 : Int32), (8552417 : Int32), (8552417 : Int32), (8552417 : Int32), (8552417 : Int32), (8552417 : Int32), (8552417 : Int32), (8552417 : Int32), (8552417 : Int32), (8552417 : Int32), (8552417 : Int32), (-402653163), (1744830488 : Int32), (-402653162), (1744830491 : Int32), (1744850967 : Int32), (1744830491 : Int32), (8486882 : Int32), (8486882 : Int32), (8486882 : Int32), (8486882 : Int32), (8486882 : Int32), (8486882 : Int32), (8486882 : Int32), (8486882 : Int32), (8486882 : Int32), (8486882 : Int32), (8486882 : Int32), (8486882 : Int32), (8486882 : Int32), (8486882 : Int32), (8486882 : Int32), (8486882 : Int32), (8486882 : Int32), (8486882 : Int32), (8486882 : Int32), (8486882 : Int32), (8486882 : Int32), (8486882 : Int32), (8486882 : Int32), (8486882 : Int32), (8486882 : Int32), (8486882 : Int32), (-402653163), (1744830489 : Int32), (-402653162), (1744830489 : Int32), (1207963663 : Int32), (1207963663 : Int32), (1207963663 : Int32), (1207963663 : Int32), (1207963663 : Int32), (1207963663 : Int32), (1342181391 : Int32), (1207963663 : Int32), (1207963663 : Int32), (1207963663 : Int32), (1207963663 : Int32), (1207963663 : Int32), (1207963663 : Int32), (1207963663 : Int32), (1207963663 : Int32), (1207963663 : Int32), (1207963663 : Int32), (1207963663 : Int32), (1207963663 : Int32), (1207963663 : Int32), (1207963663 : Int32), (1207963663 : Int32), (1207963663 : Int32), (1207963663 : Int32), (1207963663 : Int32), (1207963663 : Int32), (1207963663 : Int32), (1207963663 : Int32), (1207963663 : Int32), (1207963663 : Int32), (1207963663 : Int32), (1207963663 : Int32), (1207963663 : Int32), (939524108 : Int32), (1744830488 : Int32), (671113242 : Int32), (671113242 : Int32), (671113242 : Int32), (671113242 : Int32), (1744830492 : Int32), (1744830488 : Int32), (1744830491 : Int32), (1744830492 : Int32), (28677 : Int32), (-402653155), (1744830489 : Int32), (1207963664 : Int32), (1744830492 : Int32), (1744830491 : Int32), (671088668 : Int32), (671088665 : Int32), (402654731 : Int32), (402654731 : Int32), (1744830491 : Int32), (134049794 : Int32), (1744830488 : Int32), (1744830488 : Int32), (1744830491 : Int32), (402654475 : Int32), (28677 : Int32), (-402653154), (1744832523 : Int32), (1744832523 : Int32), (1744832523 : Int32), (1744830488 : Int32), (8548353 : Int32), (8548353 : Int32), (8548353 : Int32), (8548353 : Int32), (8548353 : Int32), (8548353 : Int32), (8548353 : Int32), (8548353 : Int32), (8548353 : Int32), (8548353 : Int32), (8548353 : Int32), (8548353 : Int32), (8548353 : Int32), (8548353 : Int32), (8548353 : Int32), (8548353 : Int32), (8548353 : Int32), (8548353 : Int32), (8548353 : Int32), (8548353 : Int32), (8548353 : Int32), (8548353 : Int32), (8548353 : Int32), (1744830489 : Int32), (8548353 : Int32), (8548353 : Int32), (8548353 : Int32), (8548353 : Int32), (8548353 : Int32), (8548353 : Int32), (8548353 : Int32), (134049794 : Int32), (8482818 : Int32), (8482818 : Int32), (8482818 : Int32), (8482818 : Int32), (8482818 : Int32), (8482818 : Int32), (8482818 : Int32), (8482818 : Int32), (8482818 : Int32), (8482818 : Int32), (8482818 : Int32), (8482818 : Int32), (8482818 : Int32), (8482818 : Int32), (8482818 : Int32), (8482818 : Int32), (8482818 : Int32), (8482818 : Int32), (8482818 : Int32), (8482818 : Int32), (8482818 : Int32), (8482818 : Int32), (8482818 : Int32), (1744830489 : Int32), (8482818 : Int32), (8482818 : Int32), (8482818 : Int32), (8482818 : Int32), (8482818 : Int32), (8482818 : Int32), (8482818 : Int32), (102592514 : Int32)]
def Ctx (Z : State) (a0 : Array Value) : Prop := (∀ d ∈ tables_1, d.before a0 Z = true) ∧ EW Z a0 ([] : List (String × Nat)) ∧ (∃ zc : Int32, Sta Z Z.heap "java/lang/String" "COMPACT_STRINGS" "Z" (.int zc) ∧ ¬ zc = 0) ∧ (∃ fm : Value, Sta Z Z.heap "jdk/internal/util/Preconditions" "SIOOBE_FORMATTER" "Ljava/util/function/BiFunction;" fm ∧ fm.isRef = true) ∧ (∃ dz el ee em mr : Addr, ∃ kd ke : ClassId, Sta Z Z.heap "java/util/ArrayList" "DEFAULTCAPACITY_EMPTY_ELEMENTDATA" "[Ljava/lang/Object;" (.ref dz) ∧ Exa Z Z.heap dz "[Ljava/lang/Object;" ∧ Arv Z Z.heap dz kd (.object "java/lang/Object") (0 : Int32) [] .null ∧ Sta Z Z.heap "java/util/ImmutableCollections" "EMPTY_LIST" "Ljava/util/ImmutableCollections$ListN;" (.ref el) ∧ Exa Z Z.heap el "java/util/ImmutableCollections$ListN" ∧ Fld Z Z.heap el "java/util/ImmutableCollections$ListN" "elements" "[Ljava/lang/Object;" (.ref ee) ∧ Arv Z Z.heap ee ke (.object "java/lang/Object") (0 : Int32) [] .null ∧ Fld Z Z.heap el "java/util/ImmutableCollections$ListN" "allowNulls" "Z" (.int (0 : Int32)) ∧ Sta Z Z.heap "java/util/ImmutableCollections" "EMPTY" "Ljava/lang/Object;" (.ref em) ∧ Exa Z Z.heap em "java/lang/Object" ∧ Mir Z "[Ljava/lang/Object;" mr) ∧ (∃ cdi ca : Addr, ∃ kA : ClassId, Sta Z Z.heap "java/lang/CharacterDataLatin1" "instance" "Ljava/lang/CharacterDataLatin1;" (.ref cdi) ∧ Exa Z Z.heap cdi "java/lang/CharacterDataLatin1" ∧ Sta Z Z.heap "java/lang/CharacterDataLatin1" "A" "[I" (.ref ca) ∧ Arv Z Z.heap ca kA .int (256 : Int32) (own_tabI.map Value.int) (.int (0 : Int32))) ∧ (∃ bt bf : Addr, Sta Z Z.heap "java/lang/Boolean" "TRUE" "Ljava/lang/Boolean;" (.ref bt) ∧ Exa Z Z.heap bt "java/lang/Boolean" ∧ Fld Z Z.heap bt "java/lang/Boolean" "value" "Z" (.int (1 : Int32)) ∧ Sta Z Z.heap "java/lang/Boolean" "FALSE" "Ljava/lang/Boolean;" (.ref bf) ∧ Exa Z Z.heap bf "java/lang/Boolean" ∧ Fld Z Z.heap bf "java/lang/Boolean" "value" "Z" (.int (0 : Int32)))
theorem own_wLen {Z : State} {a0 : Array Value} (hw : ∀ d ∈ tables_1, d.before a0 Z = true) : ∀ d ∈ StrChars.Road.wordsLen, d.before a0 Z = true := fun d hd => hw d ((by decide +kernel : ∀ d ∈ StrChars.Road.wordsLen, d ∈ tables_1) d hd)
abbrev c0_ : String := "Ljava/lang/Object;"
abbrev c1_ : String := "Ljava/lang/String;"
abbrev c2_ : String := "Ljava/util/ArrayList;"
abbrev c3_ : String := "Ljava/util/List;"
abbrev c4_ : String := "[Ljava/lang/Object;"
abbrev c5_ : String := "com/example/headings_from_text/headingsfromtext/vocabulary/Concept"
abbrev c6_ : String := "elementData"
abbrev c7_ : String := "expectedModCount"
abbrev c8_ : String := "hashIsZero"
abbrev c9_ : String := "java/lang/Boolean"
abbrev c10_ : String := "java/lang/CharacterDataLatin1"
abbrev c11_ : String := "java/lang/Object"
abbrev c12_ : String := "java/lang/String"
abbrev c13_ : String := "java/util/AbstractList"
abbrev c14_ : String := "java/util/ArrayList"
abbrev c15_ : String := "java/util/ArrayList$Itr"
abbrev c16_ : String := "java/util/ImmutableCollections"
abbrev c17_ : String := "java/util/ImmutableCollections$List12"
abbrev c18_ : String := "java/util/ImmutableCollections$ListN"
abbrev c19_ : String := "java/util/List"
abbrev y0_ : ByteArray := jdk_116_method_1_code
abbrev y1_ : ByteArray := jdk_116_method_26_code
abbrev y2_ : ByteArray := jdk_2055_method_10_code
abbrev y3_ : ByteArray := jdk_2055_method_5_code
abbrev y4_ : ByteArray := jdk_2055_method_9_code
abbrev y5_ : ByteArray := jdk_22_method_1_code
abbrev y6_ : ByteArray := jdk_29_method_65_code
abbrev y7_ : ByteArray := jdk_29_method_69_code
abbrev y8_ : ByteArray := jdk_31_method_10_code
abbrev y9_ : ByteArray := jdk_31_method_4_code
abbrev y10_ : ByteArray := jdk_31_method_5_code
abbrev y11_ : ByteArray := jdk_38_method_16_code
abbrev y12_ : ByteArray := jdk_38_method_24_code
abbrev y13_ : ByteArray := jdk_38_method_25_code
abbrev y14_ : ByteArray := jdk_38_method_2_code
abbrev y15_ : ByteArray := jdk_38_method_55_code
abbrev y16_ : ByteArray := jdk_38_method_6_code
abbrev y17_ : ByteArray := jdk_38_method_7_code
abbrev y18_ : ByteArray := jdk_38_method_9_code
abbrev y19_ : ByteArray := jdk_39_method_1_code
abbrev y20_ : ByteArray := jdk_40_method_47_code
abbrev y21_ : ByteArray := jdk_40_method_48_code
abbrev y22_ : ByteArray := jdk_42_method_117_code
abbrev y23_ : ByteArray := jdk_42_method_120_code
abbrev y24_ : ByteArray := jdk_42_method_139_code
abbrev y25_ : ByteArray := jdk_42_method_149_code
abbrev y26_ : ByteArray := jdk_42_method_151_code
abbrev y27_ : ByteArray := jdk_42_method_154_code
abbrev y28_ : ByteArray := jdk_42_method_3_code
abbrev y29_ : ByteArray := jdk_42_method_78_code
abbrev y30_ : ByteArray := jdk_43_method_21_code
abbrev y31_ : ByteArray := jdk_43_method_37_code
abbrev y32_ : ByteArray := jdk_43_method_3_code
abbrev y33_ : ByteArray := jdk_43_method_44_code
abbrev y34_ : ByteArray := jdk_43_method_46_code
abbrev y35_ : ByteArray := jdk_44_method_1_code
abbrev y36_ : ByteArray := jdk_44_method_2_code
abbrev y37_ : ByteArray := jdk_44_method_3_code
abbrev y38_ : ByteArray := jdk_44_method_5_code
abbrev y39_ : ByteArray := jdk_45_method_3_code
abbrev y40_ : ByteArray := jdk_46_method_14_code
abbrev y41_ : ByteArray := jdk_46_method_1_code
abbrev y42_ : ByteArray := jdk_47_method_1_code
abbrev y43_ : ByteArray := jdk_48_method_4_code
abbrev y44_ : ByteArray := jdk_48_method_5_code
abbrev y45_ : ByteArray := jdk_49_method_1_code
abbrev y46_ : ByteArray := jdk_49_method_2_code
abbrev y47_ : ByteArray := jdk_49_method_3_code
abbrev y48_ : ByteArray := jdk_49_method_6_code
abbrev y49_ : ByteArray := jdk_52_method_15_code
abbrev y50_ : ByteArray := jdk_52_method_16_code
abbrev y51_ : ByteArray := jdk_52_method_21_code
abbrev y52_ : ByteArray := jdk_56_method_3_code
abbrev y53_ : ByteArray := jdk_65_method_119_code
abbrev y54_ : ByteArray := jdk_65_method_120_code
abbrev y55_ : ByteArray := jdk_65_method_157_code
abbrev y56_ : ByteArray := method_2_code
abbrev y57_ : ByteArray := method_3_code
abbrev y58_ : ByteArray := method_4_code
abbrev y59_ : ByteArray := method_5_code
abbrev y60_ : ByteArray := prog_32_method_1_code
abbrev y61_ : ByteArray := prog_32_method_6_code
def OwnL (Z : State) (dz el ee em mr : Addr) (kd ke : ClassId) : Prop := Sta Z Z.heap c14_ "DEFAULTCAPACITY_EMPTY_ELEMENTDATA" c4_ (.ref dz) ∧ Exa Z Z.heap dz c4_ ∧ Arv Z Z.heap dz kd (.object c11_) (0 : Int32) [] .null ∧ Sta Z Z.heap c16_ "EMPTY_LIST" "Ljava/util/ImmutableCollections$ListN;" (.ref el) ∧ Exa Z Z.heap el c18_ ∧ Fld Z Z.heap el c18_ "elements" c4_ (.ref ee) ∧ Arv Z Z.heap ee ke (.object c11_) (0 : Int32) [] .null ∧ Fld Z Z.heap el c18_ "allowNulls" "Z" (.int (0 : Int32)) ∧ Sta Z Z.heap c16_ "EMPTY" c0_ (.ref em) ∧ Exa Z Z.heap em c11_ ∧ Mir Z c4_ mr
def OwnB (Z : State) (cdi ca : Addr) (kA : ClassId) : Prop := Sta Z Z.heap c10_ "instance" "Ljava/lang/CharacterDataLatin1;" (.ref cdi) ∧ Exa Z Z.heap cdi c10_ ∧ Sta Z Z.heap c10_ "A" "[I" (.ref ca) ∧ Arv Z Z.heap ca kA .int (256 : Int32) (own_tabI.map Value.int) (.int (0 : Int32))
theorem own_has {s : State} {args : Array Value} {cl : Cell} {ca : Addr} (e : (Jvm.Term.static c10_ "A" "[I").eval args s none [] s = some (.ref ca)) (hc : s.heap[ca]? = some cl) (hsets : ∀ w ∈ jdkStatics_1, w.before args s = true) : HasL cl 0 (own_tabI.map Value.int) :=
  ⟨elI e hc (Cond.before_iff.mp (hsets _ (List.mem_of_getElem? (i := 37) rfl))), elI e hc (Cond.before_iff.mp (hsets _ (List.mem_of_getElem? (i := 38) rfl))), elI e hc (Cond.before_iff.mp (hsets _ (List.mem_of_getElem? (i := 39) rfl))), elI e hc (Cond.before_iff.mp (hsets _ (List.mem_of_getElem? (i := 40) rfl))), elI e hc (Cond.before_iff.mp (hsets _ (List.mem_of_getElem? (i := 41) rfl))), elI e hc (Cond.before_iff.mp (hsets _ (List.mem_of_getElem? (i := 42) rfl))), elI e hc (Cond.before_iff.mp (hsets _ (List.mem_of_getElem? (i := 43) rfl))), elI e hc (Cond.before_iff.mp (hsets _ (List.mem_of_getElem? (i := 44) rfl))), elI e hc (Cond.before_iff.mp (hsets _ (List.mem_of_getElem? (i := 45) rfl))), elI e hc (Cond.before_iff.mp (hsets _ (List.mem_of_getElem? (i := 46) rfl))), elI e hc (Cond.before_iff.mp (hsets _ (List.mem_of_getElem? (i := 47) rfl))), elI e hc (Cond.before_iff.mp (hsets _ (List.mem_of_getElem? (i := 48) rfl))), elI e hc (Cond.before_iff.mp (hsets _ (List.mem_of_getElem? (i := 49) rfl))), elI e hc (Cond.before_iff.mp (hsets _ (List.mem_of_getElem? (i := 50) rfl))), elI e hc (Cond.before_iff.mp (hsets _ (List.mem_of_getElem? (i := 51) rfl))), elI e hc (Cond.before_iff.mp (hsets _ (List.mem_of_getElem? (i := 52) rfl))), elI e hc (Cond.before_iff.mp (hsets _ (List.mem_of_getElem? (i := 53) rfl))), elI e hc (Cond.before_iff.mp (hsets _ (List.mem_of_getElem? (i := 54) rfl))), elI e hc (Cond.before_iff.mp (hsets _ (List.mem_of_getElem? (i := 55) rfl))), elI e hc (Cond.before_iff.mp (hsets _ (List.mem_of_getElem? (i := 56) rfl))), elI e hc (Cond.before_iff.mp (hsets _ (List.mem_of_getElem? (i := 57) rfl))), elI e hc (Cond.before_iff.mp (hsets _ (List.mem_of_getElem? (i := 58) rfl))), elI e hc (Cond.before_iff.mp (hsets _ (List.mem_of_getElem? (i := 59) rfl))), elI e hc (Cond.before_iff.mp (hsets _ (List.mem_of_getElem? (i := 60) rfl))), elI e hc (Cond.before_iff.mp (hsets _ (List.mem_of_getElem? (i := 61) rfl))), elI e hc (Cond.before_iff.mp (hsets _ (List.mem_of_getElem? (i := 62) rfl))), elI e hc (Cond.before_iff.mp (hsets _ (List.mem_of_getElem? (i := 63) rfl))), elI e hc (Cond.before_iff.mp (hsets _ (List.mem_of_getElem? (i := 64) rfl))), elI e hc (Cond.before_iff.mp (hsets _ (List.mem_of_getElem? (i := 65) rfl))), elI e hc (Cond.before_iff.mp (hsets _ (List.mem_of_getElem? (i := 66) rfl))), elI e hc (Cond.before_iff.mp (hsets _ (List.mem_of_getElem? (i := 67) rfl))), elI e hc (Cond.before_iff.mp (hsets _ (List.mem_of_getElem? (i := 68) rfl))), elI e hc (Cond.before_iff.mp (hsets _ (List.mem_of_getElem? (i := 69) rfl))), elI e hc (Cond.before_iff.mp (hsets _ (List.mem_of_getElem? (i := 70) rfl))), elI e hc (Cond.before_iff.mp (hsets _ (List.mem_of_getElem? (i := 71) rfl))), elI e hc (Cond.before_iff.mp (hsets _ (List.mem_of_getElem? (i := 72) rfl))), elI e hc (Cond.before_iff.mp (hsets _ (List.mem_of_getElem? (i := 73) rfl))), elI e hc (Cond.before_iff.mp (hsets _ (List.mem_of_getElem? (i := 74) rfl))), elI e hc (Cond.before_iff.mp (hsets _ (List.mem_of_getElem? (i := 75) rfl))), elI e hc (Cond.before_iff.mp (hsets _ (List.mem_of_getElem? (i := 76) rfl))), elI e hc (Cond.before_iff.mp (hsets _ (List.mem_of_getElem? (i := 77) rfl))), elI e hc (Cond.before_iff.mp (hsets _ (List.mem_of_getElem? (i := 78) rfl))), elI e hc (Cond.before_iff.mp (hsets _ (List.mem_of_getElem? (i := 79) rfl))), elI e hc (Cond.before_iff.mp (hsets _ (List.mem_of_getElem? (i := 80) rfl))), elI e hc (Cond.before_iff.mp (hsets _ (List.mem_of_getElem? (i := 81) rfl))), elI e hc (Cond.before_iff.mp (hsets _ (List.mem_of_getElem? (i := 82) rfl))), elI e hc (Cond.before_iff.mp (hsets _ (List.mem_of_getElem? (i := 83) rfl))), elI e hc (Cond.before_iff.mp (hsets _ (List.mem_of_getElem? (i := 84) rfl))), elI e hc (Cond.before_iff.mp (hsets _ (List.mem_of_getElem? (i := 85) rfl))), elI e hc (Cond.before_iff.mp (hsets _ (List.mem_of_getElem? (i := 86) rfl))), elI e hc (Cond.before_iff.mp (hsets _ (List.mem_of_getElem? (i := 87) rfl))), elI e hc (Cond.before_iff.mp (hsets _ (List.mem_of_getElem? (i := 88) rfl))), elI e hc (Cond.before_iff.mp (hsets _ (List.mem_of_getElem? (i := 89) rfl))), elI e hc (Cond.before_iff.mp (hsets _ (List.mem_of_getElem? (i := 90) rfl))), elI e hc (Cond.before_iff.mp (hsets _ (List.mem_of_getElem? (i := 91) rfl))), elI e hc (Cond.before_iff.mp (hsets _ (List.mem_of_getElem? (i := 92) rfl))), elI e hc (Cond.before_iff.mp (hsets _ (List.mem_of_getElem? (i := 93) rfl))), elI e hc (Cond.before_iff.mp (hsets _ (List.mem_of_getElem? (i := 94) rfl))), elI e hc (Cond.before_iff.mp (hsets _ (List.mem_of_getElem? (i := 95) rfl))), elI e hc (Cond.before_iff.mp (hsets _ (List.mem_of_getElem? (i := 96) rfl))), elI e hc (Cond.before_iff.mp (hsets _ (List.mem_of_getElem? (i := 97) rfl))), elI e hc (Cond.before_iff.mp (hsets _ (List.mem_of_getElem? (i := 98) rfl))), elI e hc (Cond.before_iff.mp (hsets _ (List.mem_of_getElem? (i := 99) rfl))), elI e hc (Cond.before_iff.mp (hsets _ (List.mem_of_getElem? (i := 100) rfl))), elI e hc (Cond.before_iff.mp (hsets _ (List.mem_of_getElem? (i := 101) rfl))), elI e hc (Cond.before_iff.mp (hsets _ (List.mem_of_getElem? (i := 102) rfl))), elI e hc (Cond.before_iff.mp (hsets _ (List.mem_of_getElem? (i := 103) rfl))), elI e hc (Cond.before_iff.mp (hsets _ (List.mem_of_getElem? (i := 104) rfl))), elI e hc (Cond.before_iff.mp (hsets _ (List.mem_of_getElem? (i := 105) rfl))), elI e hc (Cond.before_iff.mp (hsets _ (List.mem_of_getElem? (i := 106) rfl))), elI e hc (Cond.before_iff.mp (hsets _ (List.mem_of_getElem? (i := 107) rfl))), elI e hc (Cond.before_iff.mp (hsets _ (List.mem_of_getElem? (i := 108) rfl))), elI e hc (Cond.before_iff.mp (hsets _ (List.mem_of_getElem? (i := 109) rfl))), elI e hc (Cond.before_iff.mp (hsets _ (List.mem_of_getElem? (i := 110) rfl))), elI e hc (Cond.before_iff.mp (hsets _ (List.mem_of_getElem? (i := 111) rfl))), elI e hc (Cond.before_iff.mp (hsets _ (List.mem_of_getElem? (i := 112) rfl))), elI e hc (Cond.before_iff.mp (hsets _ (List.mem_of_getElem? (i := 113) rfl))), elI e hc (Cond.before_iff.mp (hsets _ (List.mem_of_getElem? (i := 114) rfl))), elI e hc (Cond.before_iff.mp (hsets _ (List.mem_of_getElem? (i := 115) rfl))), elI e hc (Cond.before_iff.mp (hsets _ (List.mem_of_getElem? (i := 116) rfl))), elI e hc (Cond.before_iff.mp (hsets _ (List.mem_of_getElem? (i := 117) rfl))), elI e hc (Cond.before_iff.mp (hsets _ (List.mem_of_getElem? (i := 118) rfl))), elI e hc (Cond.before_iff.mp (hsets _ (List.mem_of_getElem? (i := 119) rfl))), elI e hc (Cond.before_iff.mp (hsets _ (List.mem_of_getElem? (i := 120) rfl))), elI e hc (Cond.before_iff.mp (hsets _ (List.mem_of_getElem? (i := 121) rfl))), elI e hc (Cond.before_iff.mp (hsets _ (List.mem_of_getElem? (i := 122) rfl))), elI e hc (Cond.before_iff.mp (hsets _ (List.mem_of_getElem? (i := 123) rfl))), elI e hc (Cond.before_iff.mp (hsets _ (List.mem_of_getElem? (i := 124) rfl))), elI e hc (Cond.before_iff.mp (hsets _ (List.mem_of_getElem? (i := 125) rfl))), elI e hc (Cond.before_iff.mp (hsets _ (List.mem_of_getElem? (i := 126) rfl))), elI e hc (Cond.before_iff.mp (hsets _ (List.mem_of_getElem? (i := 127) rfl))), elI e hc (Cond.before_iff.mp (hsets _ (List.mem_of_getElem? (i := 128) rfl))), elI e hc (Cond.before_iff.mp (hsets _ (List.mem_of_getElem? (i := 129) rfl))), elI e hc (Cond.before_iff.mp (hsets _ (List.mem_of_getElem? (i := 130) rfl))), elI e hc (Cond.before_iff.mp (hsets _ (List.mem_of_getElem? (i := 131) rfl))), elI e hc (Cond.before_iff.mp (hsets _ (List.mem_of_getElem? (i := 132) rfl))), elI e hc (Cond.before_iff.mp (hsets _ (List.mem_of_getElem? (i := 133) rfl))), elI e hc (Cond.before_iff.mp (hsets _ (List.mem_of_getElem? (i := 134) rfl))), elI e hc (Cond.before_iff.mp (hsets _ (List.mem_of_getElem? (i := 135) rfl))), elI e hc (Cond.before_iff.mp (hsets _ (List.mem_of_getElem? (i := 136) rfl))), elI e hc (Cond.before_iff.mp (hsets _ (List.mem_of_getElem? (i := 137) rfl))), elI e hc (Cond.before_iff.mp (hsets _ (List.mem_of_getElem? (i := 138) rfl))), elI e hc (Cond.before_iff.mp (hsets _ (List.mem_of_getElem? (i := 139) rfl))), elI e hc (Cond.before_iff.mp (hsets _ (List.mem_of_getElem? (i := 140) rfl))), elI e hc (Cond.before_iff.mp (hsets _ (List.mem_of_getElem? (i := 141) rfl))), elI e hc (Cond.before_iff.mp (hsets _ (List.mem_of_getElem? (i := 142) rfl))), elI e hc (Cond.before_iff.mp (hsets _ (List.mem_of_getElem? (i := 143) rfl))), elI e hc (Cond.before_iff.mp (hsets _ (List.mem_of_getElem? (i := 144) rfl))), elI e hc (Cond.before_iff.mp (hsets _ (List.mem_of_getElem? (i := 145) rfl))), elI e hc (Cond.before_iff.mp (hsets _ (List.mem_of_getElem? (i := 146) rfl))), elI e hc (Cond.before_iff.mp (hsets _ (List.mem_of_getElem? (i := 147) rfl))), elI e hc (Cond.before_iff.mp (hsets _ (List.mem_of_getElem? (i := 148) rfl))), elI e hc (Cond.before_iff.mp (hsets _ (List.mem_of_getElem? (i := 149) rfl))), elI e hc (Cond.before_iff.mp (hsets _ (List.mem_of_getElem? (i := 150) rfl))), elI e hc (Cond.before_iff.mp (hsets _ (List.mem_of_getElem? (i := 151) rfl))), elI e hc (Cond.before_iff.mp (hsets _ (List.mem_of_getElem? (i := 152) rfl))), elI e hc (Cond.before_iff.mp (hsets _ (List.mem_of_getElem? (i := 153) rfl))), elI e hc (Cond.before_iff.mp (hsets _ (List.mem_of_getElem? (i := 154) rfl))), elI e hc (Cond.before_iff.mp (hsets _ (List.mem_of_getElem? (i := 155) rfl))), elI e hc (Cond.before_iff.mp (hsets _ (List.mem_of_getElem? (i := 156) rfl))), elI e hc (Cond.before_iff.mp (hsets _ (List.mem_of_getElem? (i := 157) rfl))), elI e hc (Cond.before_iff.mp (hsets _ (List.mem_of_getElem? (i := 158) rfl))), elI e hc (Cond.before_iff.mp (hsets _ (List.mem_of_getElem? (i := 159) rfl))), elI e hc (Cond.before_iff.mp (hsets _ (List.mem_of_getElem? (i := 160) rfl))), elI e hc (Cond.before_iff.mp (hsets _ (List.mem_of_getElem? (i := 161) rfl))), elI e hc (Cond.before_iff.mp (hsets _ (List.mem_of_getElem? (i := 162) rfl))), elI e hc (Cond.before_iff.mp (hsets _ (List.mem_of_getElem? (i := 163) rfl))), elI e hc (Cond.before_iff.mp (hsets _ (List.mem_of_getElem? (i := 164) rfl))), elI e hc (Cond.before_iff.mp (hsets _ (List.mem_of_getElem? (i := 165) rfl))), elI e hc (Cond.before_iff.mp (hsets _ (List.mem_of_getElem? (i := 166) rfl))), elI e hc (Cond.before_iff.mp (hsets _ (List.mem_of_getElem? (i := 167) rfl))), elI e hc (Cond.before_iff.mp (hsets _ (List.mem_of_getElem? (i := 168) rfl))), elI e hc (Cond.before_iff.mp (hsets _ (List.mem_of_getElem? (i := 169) rfl))), elI e hc (Cond.before_iff.mp (hsets _ (List.mem_of_getElem? (i := 170) rfl))), elI e hc (Cond.before_iff.mp (hsets _ (List.mem_of_getElem? (i := 171) rfl))), elI e hc (Cond.before_iff.mp (hsets _ (List.mem_of_getElem? (i := 172) rfl))), elI e hc (Cond.before_iff.mp (hsets _ (List.mem_of_getElem? (i := 173) rfl))), elI e hc (Cond.before_iff.mp (hsets _ (List.mem_of_getElem? (i := 174) rfl))), elI e hc (Cond.before_iff.mp (hsets _ (List.mem_of_getElem? (i := 175) rfl))), elI e hc (Cond.before_iff.mp (hsets _ (List.mem_of_getElem? (i := 176) rfl))), elI e hc (Cond.before_iff.mp (hsets _ (List.mem_of_getElem? (i := 177) rfl))), elI e hc (Cond.before_iff.mp (hsets _ (List.mem_of_getElem? (i := 178) rfl))), elI e hc (Cond.before_iff.mp (hsets _ (List.mem_of_getElem? (i := 179) rfl))), elI e hc (Cond.before_iff.mp (hsets _ (List.mem_of_getElem? (i := 180) rfl))), elI e hc (Cond.before_iff.mp (hsets _ (List.mem_of_getElem? (i := 181) rfl))), elI e hc (Cond.before_iff.mp (hsets _ (List.mem_of_getElem? (i := 182) rfl))), elI e hc (Cond.before_iff.mp (hsets _ (List.mem_of_getElem? (i := 183) rfl))), elI e hc (Cond.before_iff.mp (hsets _ (List.mem_of_getElem? (i := 184) rfl))), elI e hc (Cond.before_iff.mp (hsets _ (List.mem_of_getElem? (i := 185) rfl))), elI e hc (Cond.before_iff.mp (hsets _ (List.mem_of_getElem? (i := 186) rfl))), elI e hc (Cond.before_iff.mp (hsets _ (List.mem_of_getElem? (i := 187) rfl))), elI e hc (Cond.before_iff.mp (hsets _ (List.mem_of_getElem? (i := 188) rfl))), elI e hc (Cond.before_iff.mp (hsets _ (List.mem_of_getElem? (i := 189) rfl))), elI e hc (Cond.before_iff.mp (hsets _ (List.mem_of_getElem? (i := 190) rfl))), elI e hc (Cond.before_iff.mp (hsets _ (List.mem_of_getElem? (i := 191) rfl))), elI e hc (Cond.before_iff.mp (hsets _ (List.mem_of_getElem? (i := 192) rfl))), elI e hc (Cond.before_iff.mp (hsets _ (List.mem_of_getElem? (i := 193) rfl))), elI e hc (Cond.before_iff.mp (hsets _ (List.mem_of_getElem? (i := 194) rfl))), elI e hc (Cond.before_iff.mp (hsets _ (List.mem_of_getElem? (i := 195) rfl))), elI e hc (Cond.before_iff.mp (hsets _ (List.mem_of_getElem? (i := 196) rfl))), elI e hc (Cond.before_iff.mp (hsets _ (List.mem_of_getElem? (i := 197) rfl))), elI e hc (Cond.before_iff.mp (hsets _ (List.mem_of_getElem? (i := 198) rfl))), elI e hc (Cond.before_iff.mp (hsets _ (List.mem_of_getElem? (i := 199) rfl))), elI e hc (Cond.before_iff.mp (hsets _ (List.mem_of_getElem? (i := 200) rfl))), elI e hc (Cond.before_iff.mp (hsets _ (List.mem_of_getElem? (i := 201) rfl))), elI e hc (Cond.before_iff.mp (hsets _ (List.mem_of_getElem? (i := 202) rfl))), elI e hc (Cond.before_iff.mp (hsets _ (List.mem_of_getElem? (i := 203) rfl))), elI e hc (Cond.before_iff.mp (hsets _ (List.mem_of_getElem? (i := 204) rfl))), elI e hc (Cond.before_iff.mp (hsets _ (List.mem_of_getElem? (i := 205) rfl))), elI e hc (Cond.before_iff.mp (hsets _ (List.mem_of_getElem? (i := 206) rfl))), elI e hc (Cond.before_iff.mp (hsets _ (List.mem_of_getElem? (i := 207) rfl))), elI e hc (Cond.before_iff.mp (hsets _ (List.mem_of_getElem? (i := 208) rfl))), elI e hc (Cond.before_iff.mp (hsets _ (List.mem_of_getElem? (i := 209) rfl))), elI e hc (Cond.before_iff.mp (hsets _ (List.mem_of_getElem? (i := 210) rfl))), elI e hc (Cond.before_iff.mp (hsets _ (List.mem_of_getElem? (i := 211) rfl))), elI e hc (Cond.before_iff.mp (hsets _ (List.mem_of_getElem? (i := 212) rfl))), elI e hc (Cond.before_iff.mp (hsets _ (List.mem_of_getElem? (i := 213) rfl))), elI e hc (Cond.before_iff.mp (hsets _ (List.mem_of_getElem? (i := 214) rfl))), elI e hc (Cond.before_iff.mp (hsets _ (List.mem_of_getElem? (i := 215) rfl))), elI e hc (Cond.before_iff.mp (hsets _ (List.mem_of_getElem? (i := 216) rfl))), elI e hc (Cond.before_iff.mp (hsets _ (List.mem_of_getElem? (i := 217) rfl))), elI e hc (Cond.before_iff.mp (hsets _ (List.mem_of_getElem? (i := 218) rfl))), elI e hc (Cond.before_iff.mp (hsets _ (List.mem_of_getElem? (i := 219) rfl))), elI e hc (Cond.before_iff.mp (hsets _ (List.mem_of_getElem? (i := 220) rfl))), elI e hc (Cond.before_iff.mp (hsets _ (List.mem_of_getElem? (i := 221) rfl))), elI e hc (Cond.before_iff.mp (hsets _ (List.mem_of_getElem? (i := 222) rfl))), elI e hc (Cond.before_iff.mp (hsets _ (List.mem_of_getElem? (i := 223) rfl))), elI e hc (Cond.before_iff.mp (hsets _ (List.mem_of_getElem? (i := 224) rfl))), elI e hc (Cond.before_iff.mp (hsets _ (List.mem_of_getElem? (i := 225) rfl))), elI e hc (Cond.before_iff.mp (hsets _ (List.mem_of_getElem? (i := 226) rfl))), elI e hc (Cond.before_iff.mp (hsets _ (List.mem_of_getElem? (i := 227) rfl))), elI e hc (Cond.before_iff.mp (hsets _ (List.mem_of_getElem? (i := 228) rfl))), elI e hc (Cond.before_iff.mp (hsets _ (List.mem_of_getElem? (i := 229) rfl))), elI e hc (Cond.before_iff.mp (hsets _ (List.mem_of_getElem? (i := 230) rfl))), elI e hc (Cond.before_iff.mp (hsets _ (List.mem_of_getElem? (i := 231) rfl))), elI e hc (Cond.before_iff.mp (hsets _ (List.mem_of_getElem? (i := 232) rfl))), elI e hc (Cond.before_iff.mp (hsets _ (List.mem_of_getElem? (i := 233) rfl))), elI e hc (Cond.before_iff.mp (hsets _ (List.mem_of_getElem? (i := 234) rfl))), elI e hc (Cond.before_iff.mp (hsets _ (List.mem_of_getElem? (i := 235) rfl))), elI e hc (Cond.before_iff.mp (hsets _ (List.mem_of_getElem? (i := 236) rfl))), elI e hc (Cond.before_iff.mp (hsets _ (List.mem_of_getElem? (i := 237) rfl))), elI e hc (Cond.before_iff.mp (hsets _ (List.mem_of_getElem? (i := 238) rfl))), elI e hc (Cond.before_iff.mp (hsets _ (List.mem_of_getElem? (i := 239) rfl))), elI e hc (Cond.before_iff.mp (hsets _ (List.mem_of_getElem? (i := 240) rfl))), elI e hc (Cond.before_iff.mp (hsets _ (List.mem_of_getElem? (i := 241) rfl))), elI e hc (Cond.before_iff.mp (hsets _ (List.mem_of_getElem? (i := 242) rfl))), elI e hc (Cond.before_iff.mp (hsets _ (List.mem_of_getElem? (i := 243) rfl))), elI e hc (Cond.before_iff.mp (hsets _ (List.mem_of_getElem? (i := 244) rfl))), elI e hc (Cond.before_iff.mp (hsets _ (List.mem_of_getElem? (i := 245) rfl))), elI e hc (Cond.before_iff.mp (hsets _ (List.mem_of_getElem? (i := 246) rfl))), elI e hc (Cond.before_iff.mp (hsets _ (List.mem_of_getElem? (i := 247) rfl))), elI e hc (Cond.before_iff.mp (hsets _ (List.mem_of_getElem? (i := 248) rfl))), elI e hc (Cond.before_iff.mp (hsets _ (List.mem_of_getElem? (i := 249) rfl))), elI e hc (Cond.before_iff.mp (hsets _ (List.mem_of_getElem? (i := 250) rfl))), elI e hc (Cond.before_iff.mp (hsets _ (List.mem_of_getElem? (i := 251) rfl))), elI e hc (Cond.before_iff.mp (hsets _ (List.mem_of_getElem? (i := 252) rfl))), elI e hc (Cond.before_iff.mp (hsets _ (List.mem_of_getElem? (i := 253) rfl))), elI e hc (Cond.before_iff.mp (hsets _ (List.mem_of_getElem? (i := 254) rfl))), elI e hc (Cond.before_iff.mp (hsets _ (List.mem_of_getElem? (i := 255) rfl))), elI e hc (Cond.before_iff.mp (hsets _ (List.mem_of_getElem? (i := 256) rfl))), elI e hc (Cond.before_iff.mp (hsets _ (List.mem_of_getElem? (i := 257) rfl))), elI e hc (Cond.before_iff.mp (hsets _ (List.mem_of_getElem? (i := 258) rfl))), elI e hc (Cond.before_iff.mp (hsets _ (List.mem_of_getElem? (i := 259) rfl))), elI e hc (Cond.before_iff.mp (hsets _ (List.mem_of_getElem? (i := 260) rfl))), elI e hc (Cond.before_iff.mp (hsets _ (List.mem_of_getElem? (i := 261) rfl))), elI e hc (Cond.before_iff.mp (hsets _ (List.mem_of_getElem? (i := 262) rfl))), elI e hc (Cond.before_iff.mp (hsets _ (List.mem_of_getElem? (i := 263) rfl))), elI e hc (Cond.before_iff.mp (hsets _ (List.mem_of_getElem? (i := 264) rfl))), elI e hc (Cond.before_iff.mp (hsets _ (List.mem_of_getElem? (i := 265) rfl))), elI e hc (Cond.before_iff.mp (hsets _ (List.mem_of_getElem? (i := 266) rfl))), elI e hc (Cond.before_iff.mp (hsets _ (List.mem_of_getElem? (i := 267) rfl))), elI e hc (Cond.before_iff.mp (hsets _ (List.mem_of_getElem? (i := 268) rfl))), elI e hc (Cond.before_iff.mp (hsets _ (List.mem_of_getElem? (i := 269) rfl))), elI e hc (Cond.before_iff.mp (hsets _ (List.mem_of_getElem? (i := 270) rfl))), elI e hc (Cond.before_iff.mp (hsets _ (List.mem_of_getElem? (i := 271) rfl))), elI e hc (Cond.before_iff.mp (hsets _ (List.mem_of_getElem? (i := 272) rfl))), elI e hc (Cond.before_iff.mp (hsets _ (List.mem_of_getElem? (i := 273) rfl))), elI e hc (Cond.before_iff.mp (hsets _ (List.mem_of_getElem? (i := 274) rfl))), elI e hc (Cond.before_iff.mp (hsets _ (List.mem_of_getElem? (i := 275) rfl))), elI e hc (Cond.before_iff.mp (hsets _ (List.mem_of_getElem? (i := 276) rfl))), elI e hc (Cond.before_iff.mp (hsets _ (List.mem_of_getElem? (i := 277) rfl))), elI e hc (Cond.before_iff.mp (hsets _ (List.mem_of_getElem? (i := 278) rfl))), elI e hc (Cond.before_iff.mp (hsets _ (List.mem_of_getElem? (i := 279) rfl))), elI e hc (Cond.before_iff.mp (hsets _ (List.mem_of_getElem? (i := 280) rfl))), elI e hc (Cond.before_iff.mp (hsets _ (List.mem_of_getElem? (i := 281) rfl))), elI e hc (Cond.before_iff.mp (hsets _ (List.mem_of_getElem? (i := 282) rfl))), elI e hc (Cond.before_iff.mp (hsets _ (List.mem_of_getElem? (i := 283) rfl))), elI e hc (Cond.before_iff.mp (hsets _ (List.mem_of_getElem? (i := 284) rfl))), elI e hc (Cond.before_iff.mp (hsets _ (List.mem_of_getElem? (i := 285) rfl))), elI e hc (Cond.before_iff.mp (hsets _ (List.mem_of_getElem? (i := 286) rfl))), elI e hc (Cond.before_iff.mp (hsets _ (List.mem_of_getElem? (i := 287) rfl))), elI e hc (Cond.before_iff.mp (hsets _ (List.mem_of_getElem? (i := 288) rfl))), elI e hc (Cond.before_iff.mp (hsets _ (List.mem_of_getElem? (i := 289) rfl))), elI e hc (Cond.before_iff.mp (hsets _ (List.mem_of_getElem? (i := 290) rfl))), elI e hc (Cond.before_iff.mp (hsets _ (List.mem_of_getElem? (i := 291) rfl))), elI e hc (Cond.before_iff.mp (hsets _ (List.mem_of_getElem? (i := 292) rfl))), trivial⟩
theorem own_b8n {c : Int32} (h : B8 c) : c.toNatClampNeg < 256 ∧ Int32.ofNat c.toNatClampNeg = c ∧ (¬ c < 0 ∧ c < (256 : Int32)) := by
  have e0 : (0 : Int32).toInt = 0 := rfl
  have e1 : (255 : Int32).toInt = 255 := rfl
  have e2 : (256 : Int32).toInt = 256 := rfl
  have h1 := h.1
  have h2 := h.2
  rw [Int32.lt_iff_toInt_lt, e0] at h1
  rw [Int32.lt_iff_toInt_lt, e1] at h2
  refine ⟨by rw [Int32.toNatClampNeg]; omega, ?_, by rw [Int32.lt_iff_toInt_lt, e0]; omega, by rw [Int32.lt_iff_toInt_lt, e2]; omega⟩
  apply Int32.toInt_inj.mp
  rw [Int32.toNatClampNeg, Int32.toInt_ofNat_of_lt (by omega)]
  omega
theorem own_nw {c : Int32} (h : B8 c) (h33 : ¬ c < (33 : Int32)) : ¬ (own_tabI.getD c.toNatClampNeg 0 &&& (28672 : Int32)) = (16384 : Int32) := by
  have h1 := (own_b8n h).1
  have h2 : 33 ≤ c.toNatClampNeg := by
    have e1 : (33 : Int32).toInt = 33 := rfl
    rw [Int32.lt_iff_toInt_lt, e1] at h33
    rw [Int32.toNatClampNeg]; omega
  exact (by decide +kernel : ∀ n : Fin 256, 33 ≤ n.val → ¬ (own_tabI.getD n.val 0 &&& (28672 : Int32)) = (16384 : Int32)) ⟨_, h1⟩ h2
theorem own_tabg {c : Int32} (h : B8 c) : (own_tabI.map Value.int).getD c.toNatClampNeg (.int (0 : Int32)) = Value.int (own_tabI.getD c.toNatClampNeg 0) := by
  have h1 : c.toNatClampNeg < own_tabI.length := (own_b8n h).1
  simp [List.getD_eq_getElem?_getD, List.getElem?_map, List.getElem?_eq_getElem h1]
theorem own_b8up {c : Int32} (h : B8 c) : (c.toInt8.toInt32 &&& (255 : Int32)) = c := by
  apply Int32.toInt_inj.mp
  have q := c_mask c.toInt8.toInt32 255 8 (by decide) (by decide)
  have r := own_b8n h
  have e0 : (0 : Int32).toInt = 0 := rfl
  have e2 : (256 : Int32).toInt = 256 := rfl
  obtain ⟨-, -, r1, r2⟩ := r
  rw [Int32.lt_iff_toInt_lt, e0] at r1
  rw [Int32.lt_iff_toInt_lt, e2] at r2
  rw [q, Int8.toInt_toInt32, Int32.toInt_toInt8]
  have w := Int.bmod_emod (x := c.toInt) (m := 2 ^ 8)
  simp only [Nat.reducePow] at w ⊢
  rw [w]
  omega
theorem own_b8c {c : Int32} (h : B8 c) : c.toUInt32.toUInt16.toUInt32.toInt32 = c := by
  have q := c_i2c c
  have r := own_b8n h
  have e0 : (0 : Int32).toInt = 0 := rfl
  have e2 : (256 : Int32).toInt = 256 := rfl
  obtain ⟨-, -, r1, r2⟩ := r
  rw [Int32.lt_iff_toInt_lt, e0] at r1
  rw [Int32.lt_iff_toInt_lt, e2] at r2
  apply Int32.toInt_inj.mp
  omega
theorem d0 : decode y0_ 0 = .ok (.iload_n 1, 1) := by decide +kernel
theorem d1 : decode y0_ 1 = .ok (.i2c, 1) := by decide +kernel
theorem d2 : decode y0_ 2 = .ok (.istore_n 2, 1) := by decide +kernel
theorem d3 : decode y0_ 3 = .ok (.getstatic 1, 3) := by decide +kernel
theorem d4 : decode y0_ 6 = .ok (.iload_n 2, 1) := by decide +kernel
theorem d5 : decode y0_ 7 = .ok (.iaload, 1) := by decide +kernel
theorem d6 : decode y0_ 8 = .ok (.istore_n 3, 1) := by decide +kernel
theorem d7 : decode y0_ 9 = .ok (.iload_n 3, 1) := by decide +kernel
theorem d8 : decode y0_ 10 = .ok (.ireturn, 1) := by decide +kernel
abbrev mn9 : MethodName := ⟨"java/lang/CharacterDataLatin1", "getProperties", "(I)I"⟩
theorem own_pn10 : plainName "java/lang/CharacterDataLatin1" = true := by first | (simp [plainName, overriddenIn]; done) | decide +kernel
theorem own_props (l : Launch) (Z : State) (a0 : Array Value) (cx : Ctx Z a0) (ws : List Jvm.Cond) (x : Addr) (ch : Int32) (cdi : Addr) (ca : Addr) (kA : ClassId) (vm0 : Vm) (h0 : Heap) (X00 : Ext Z.heap h0) (hb8 : (B8 ch)) (h33 : (¬ ch < (33 : Int32))) (hB : (OwnB Z cdi ca kA)) :
    Met l mn9 y0_ 4 (some .int) ws ({ frames := 0, cells := 0, slots := 0, locals := 0 } : Room) Z ([] : List (String × Nat)) vm0 h0 #[(.ref x), (.int ch)] (fun rv vm h => rv = some (.int (own_tabI.getD ch.toNatClampNeg 0)) ∧ h0 = h) := by
  obtain ⟨hw, hEL, ⟨zc, Scs, hzc⟩, ⟨fm, Sfm, hfm⟩, hL0, hB0, hO0⟩ := id cx
  refine Met.of_walk (a0 := a0) #[vr x, vi ch, un, un] (plainFor_of_name own_pn10) X00 hEL (fun m => by first | (simp [entryFrame, mkF, argsToLocals, Value.category]; done) | rfl) ?_
  intro p e s m below meth c vm hx hby hml hret hnm hC0 hW0
  obtain ⟨Sci, Eci, Sca, Vca⟩ := id hB
  refine ginfo fun _ _ OB1 => ?_
  have Eci_1 := Eci.ext OB1
  have Vca_1 := Vca.ext OB1
  have lt_cdi : h0.size > cdi := Eci_1.lt
  have lt_ca : h0.size > ca := Vca_1.lt
  refine uIN 1 hx hby d0 rfl rfl ?_
  refine gi2c hx (own_b8c hb8) 2 (hb hby d1) rfl ?_
  refine uSIN 3 #[vr x, vi ch, vi ch, un] hx hby d2 rfl rfl ?_
  refine ggetS (host := "") hx (Or.inl (ow hw 263 rfl)) Via.refl Sca 6 (hb hby d3) rfl ?_
  refine uIN 7 hx hby d4 rfl rfl ?_
  refine gldI hx Vca_1 (own_b8n hb8).2.2 (i := ch.toNatClampNeg) rfl (v := (.int (own_tabI.getD ch.toNatClampNeg 0))) (own_tabg hb8) 8 (hb hby d5) rfl ?_
  refine uSIN 9 #[vr x, vi ch, vi ch, vi (own_tabI.getD ch.toNatClampNeg 0)] hx hby d6 rfl rfl ?_
  refine uIN 10 hx hby d7 rfl rfl ?_
  exact gretI hx hret (hb hby d8) (by decide) (by decide) (fun vq Cq => ⟨rfl, rfl⟩)
theorem d11 : decode y1_ 0 = .ok (.aload_n 0, 1) := by decide +kernel
theorem d12 : decode y1_ 1 = .ok (.iload_n 1, 1) := by decide +kernel
theorem d13 : decode y1_ 2 = .ok (.invokevirtual 15, 3) := by decide +kernel
theorem own_pd14 : parseMethodDescriptor "(I)I" = some ⟨[.int], some .int⟩ := by decide +kernel
theorem d15 : decode y1_ 5 = .ok (.istore_n 2, 1) := by decide +kernel
theorem d16 : decode y1_ 6 = .ok (.iload_n 2, 1) := by decide +kernel
theorem d17 : decode y1_ 7 = .ok (.sipush 28672, 3) := by decide +kernel
theorem d18 : decode y1_ 10 = .ok (.iand, 1) := by decide +kernel
theorem d19 : decode y1_ 11 = .ok (.sipush 16384, 3) := by decide +kernel
theorem d20 : decode y1_ 14 = .ok (.if_icmp .ne 7, 3) := by decide +kernel
theorem d21 : decode y1_ 21 = .ok (.iconst 0, 1) := by decide +kernel
theorem d22 : decode y1_ 22 = .ok (.ireturn, 1) := by decide +kernel
abbrev mn23 : MethodName := ⟨"java/lang/CharacterDataLatin1", "isWhitespace", "(I)Z"⟩
theorem own_isws (l : Launch) (Z : State) (a0 : Array Value) (cx : Ctx Z a0) (ws : List Jvm.Cond) (x : Addr) (ch : Int32) (cdi : Addr) (ca : Addr) (kA : ClassId) (vm0 : Vm) (h0 : Heap) (X00 : Ext Z.heap h0) (P0 : Exa Z h0 x c10_) (hb8 : (B8 ch)) (h33 : (¬ ch < (33 : Int32))) (hB : (OwnB Z cdi ca kA)) :
    Met l mn23 y1_ 3 (some .boolean) ws ({ frames := 1, cells := 0, slots := 0, locals := 15 } : Room) Z ([] : List (String × Nat)) vm0 h0 #[(.ref x), (.int ch)] (fun rv vm h => rv = some (.int (0 : Int32)) ∧ h0 = h) := by
  obtain ⟨hw, hEL, ⟨zc, Scs, hzc⟩, ⟨fm, Sfm, hfm⟩, hL0, hB0, hO0⟩ := id cx
  refine Met.of_walk (a0 := a0) #[vr x, vi ch, un] (plainFor_of_name own_pn10) X00 hEL (fun m => by first | (simp [entryFrame, mkF, argsToLocals, Value.category]; done) | rfl) ?_
  intro p e s m below meth c vm hx hby hml hret hnm hC0 hW0
  have lt_x : h0.size > x := P0.lt
  refine uAN 1 hx hby d11 rfl rfl rfl ?_
  refine uIN 2 hx hby d12 rfl rfl ?_
  refine ginfo fun _ _ O1 => ?_
  refine gcallV (y := mn9) (z := mn9) hx (ow hw 258 rfl) (ow hw 259 rfl) (nfSel (ow hw 261 rfl)) (ow hw 261 rfl) (ow hw 260 rfl) (by decide) (fun hZ H hEL => Pay.of_met (W := 0) (own_props l Z a0 cx [] (x) (ch) (cdi) (ca) (kA) vm h0 O1 (by first | assumption | decide | omega) (by first | assumption | decide | omega) (by first | assumption | decide | omega)) (ow hw 262 rfl) (ow hw 252 rfl) (by decide) (by decide) hZ H hEL) 5 (argsL := [(.int ch)]) (rest := []) P0 (lenOf own_pd14 rfl) rfl rfl (Nat.le_of_eq rfl) (by rw [hml]; rfl) (hb hby d13) rfl (by decide) (by decide) ?_
  rintro _ vm1 h1 C1 ⟨rfl, rfl⟩
  have z1 := C1.2.1
  refine gat1 ?_
  refine uSIN 6 #[vr x, vi ch, vi (own_tabI.getD ch.toNatClampNeg 0)] hx hby d15 rfl rfl ?_
  refine uIN 7 hx hby d16 rfl rfl ?_
  refine uKs 10 (28672 : Int32) hx hby d17 rfl rfl ?_
  refine uiand 11 ((own_tabI.getD ch.toNatClampNeg 0) &&& (28672 : Int32)) hx hby d18 rfl rfl ?_
  refine uKs 14 (16384 : Int32) hx hby d19 rfl rfl ?_
  refine uYc 21 hx hby d20 (feq (own_nw hb8 h33)).2 (by decide) (by decide) ?_
  refine uKc 22 (0 : Int32) hx hby d21 rfl rfl ?_
  exact gretN (t := .boolean) hx hret (by simp) (hb hby d22) (by decide) (by decide) (fun vq Cq => ⟨rfl, rfl⟩)
theorem d24 : decode y33_ 0 = .ok (.aload_n 0, 1) := by decide +kernel
theorem d25 : decode y33_ 1 = .ok (.iload_n 1, 1) := by decide +kernel
theorem d26 : decode y33_ 2 = .ok (.baload, 1) := by decide +kernel
theorem d27 : decode y33_ 3 = .ok (.sipush 255, 3) := by decide +kernel
theorem d28 : decode y33_ 6 = .ok (.iand, 1) := by decide +kernel
theorem d29 : decode y33_ 7 = .ok (.i2c, 1) := by decide +kernel
theorem d30 : decode y33_ 8 = .ok (.ireturn, 1) := by decide +kernel
abbrev mn31 : MethodName := ⟨"java/lang/StringLatin1", "getChar", "([BI)C"⟩
theorem own_pn32 : plainName "java/lang/StringLatin1" = true := by first | (simp [plainName, overriddenIn]; done) | decide +kernel
theorem own_gch (l : Launch) (Z : State) (a0 : Array Value) (cx : Ctx Z a0) (ws : List Jvm.Cond) (b : Addr) (kb : ClassId) (ch : Int32) (cr : List Int32) (vm0 : Vm) (h0 : Heap) (X00 : Ext Z.heap h0) (P0 : Arv Z h0 b kb .byte (Int32.ofNat (ch :: cr).length) (((ch :: cr).map fun c => c.toInt8.toInt32).map Value.int) (.int (0 : Int32))) (hb8 : (B8 ch)) (hpos : ((0 : Int32) < Int32.ofNat (ch :: cr).length)) :
    Met l mn31 y33_ 2 (some .char) ws ({ frames := 0, cells := 0, slots := 0, locals := 0 } : Room) Z ([] : List (String × Nat)) vm0 h0 #[(.ref b), (.int (0 : Int32))] (fun rv vm h => rv = some (.int ch) ∧ h0 = h) := by
  obtain ⟨hw, hEL, ⟨zc, Scs, hzc⟩, ⟨fm, Sfm, hfm⟩, hL0, hB0, hO0⟩ := id cx
  refine Met.of_walk (a0 := a0) #[vr b, vi (0 : Int32)] (plainFor_of_name own_pn32) X00 hEL (fun m => by first | (simp [entryFrame, mkF, argsToLocals, Value.category]; done) | rfl) ?_
  intro p e s m below meth c vm hx hby hml hret hnm hC0 hW0
  have lt_b : h0.size > b := P0.lt
  refine uAN 1 hx hby d24 rfl rfl rfl ?_
  refine uIN 2 hx hby d25 rfl rfl ?_
  refine gldB hx P0 ⟨by decide, hpos⟩ (i := 0) rfl (v := (.int (ch.toInt8.toInt32))) rfl 3 (hb hby d26) rfl ?_
  refine uKs 6 (255 : Int32) hx hby d27 rfl rfl ?_
  refine uiand 7 ((ch.toInt8.toInt32) &&& (255 : Int32)) hx hby d28 rfl rfl ?_
  refine gi2c hx (i2c_mask _) 8 (hb hby d29) rfl ?_
  exact gretN (t := .char) hx hret (by simp) (hb hby d30) (by decide) (by decide) (fun vq Cq => ⟨(congrArg (fun z => some (Value.int z)) ((narC _).trans (own_b8up hb8))), rfl⟩)
theorem own_lt33 {c y : Int32} (h : ¬ c < (33 : Int32)) (hy : y < (33 : Int32)) : ¬ c = y := fun e => h (e ▸ hy)
theorem d33 : decode y31_ 0 = .ok (.aload_n 0, 1) := by decide +kernel
theorem d34 : decode y31_ 1 = .ok (.arraylength, 1) := by decide +kernel
theorem d35 : decode y31_ 2 = .ok (.istore_n 1, 1) := by decide +kernel
theorem d36 : decode y31_ 3 = .ok (.iconst 0, 1) := by decide +kernel
theorem d37 : decode y31_ 4 = .ok (.istore_n 2, 1) := by decide +kernel
theorem d38 : decode y31_ 5 = .ok (.iload_n 2, 1) := by decide +kernel
theorem d39 : decode y31_ 6 = .ok (.iload_n 1, 1) := by decide +kernel
theorem d40 : decode y31_ 7 = .ok (.if_icmp .ge 40, 3) := by decide +kernel
theorem d41 : decode y31_ 10 = .ok (.aload_n 0, 1) := by decide +kernel
theorem d42 : decode y31_ 11 = .ok (.iload_n 2, 1) := by decide +kernel
theorem d43 : decode y31_ 12 = .ok (.invokestatic 50, 3) := by decide +kernel
theorem own_pd44 : parseMethodDescriptor "([BI)C" = some ⟨[(.array .byte), .int], some .char⟩ := by decide +kernel
theorem d45 : decode y31_ 15 = .ok (.istore_n 3, 1) := by decide +kernel
theorem d46 : decode y31_ 16 = .ok (.iload_n 3, 1) := by decide +kernel
theorem d47 : decode y31_ 17 = .ok (.bipush 32, 2) := by decide +kernel
theorem d48 : decode y31_ 19 = .ok (.if_icmp .eq 22, 3) := by decide +kernel
theorem d49 : decode y31_ 22 = .ok (.iload_n 3, 1) := by decide +kernel
theorem d50 : decode y31_ 23 = .ok (.bipush 9, 2) := by decide +kernel
theorem d51 : decode y31_ 25 = .ok (.if_icmp .eq 16, 3) := by decide +kernel
theorem d52 : decode y31_ 28 = .ok (.getstatic 66, 3) := by decide +kernel
theorem d53 : decode y31_ 31 = .ok (.iload_n 3, 1) := by decide +kernel
theorem d54 : decode y31_ 32 = .ok (.invokevirtual 211, 3) := by decide +kernel
theorem own_pd55 : parseMethodDescriptor "(I)Z" = some ⟨[.int], some .boolean⟩ := by decide +kernel
theorem d56 : decode y31_ 35 = .ok (.ifCond .ne 6, 3) := by decide +kernel
theorem d57 : decode y31_ 38 = .ok (.goto 9, 3) := by decide +kernel
theorem d58 : decode y31_ 47 = .ok (.iload_n 2, 1) := by decide +kernel
theorem d59 : decode y31_ 48 = .ok (.ireturn, 1) := by decide +kernel
abbrev mn60 : MethodName := ⟨"java/lang/StringLatin1", "indexOfNonWhitespace", "([B)I"⟩
theorem own_inw (l : Launch) (Z : State) (a0 : Array Value) (cx : Ctx Z a0) (ws : List Jvm.Cond) (b : Addr) (kb : ClassId) (ch : Int32) (cr : List Int32) (cdi : Addr) (ca : Addr) (kA : ClassId) (vm0 : Vm) (h0 : Heap) (X00 : Ext Z.heap h0) (P0 : Arv Z h0 b kb .byte (Int32.ofNat (ch :: cr).length) (((ch :: cr).map fun c => c.toInt8.toInt32).map Value.int) (.int (0 : Int32))) (hb8 : (B8 ch)) (h33 : (¬ ch < (33 : Int32))) (hpos : ((0 : Int32) < Int32.ofNat (ch :: cr).length)) (hB : (OwnB Z cdi ca kA)) :
    Met l mn60 y31_ 4 (some .int) ws ({ frames := 2, cells := 0, slots := 0, locals := 29 } : Room) Z ([] : List (String × Nat)) vm0 h0 #[(.ref b)] (fun rv vm h => rv = some (.int (0 : Int32)) ∧ h0 = h) := by
  obtain ⟨hw, hEL, ⟨zc, Scs, hzc⟩, ⟨fm, Sfm, hfm⟩, hL0, hB0, hO0⟩ := id cx
  refine Met.of_walk (a0 := a0) #[vr b, un, un, un] (plainFor_of_name own_pn32) X00 hEL (fun m => by first | (simp [entryFrame, mkF, argsToLocals, Value.category]; done) | rfl) ?_
  intro p e s m below meth c vm hx hby hml hret hnm hC0 hW0
  have lt_b : h0.size > b := P0.lt
  obtain ⟨Sci, Eci, Sca, Vca⟩ := id hB
  refine ginfo fun _ _ OB1 => ?_
  have Eci_1 := Eci.ext OB1
  have Vca_1 := Vca.ext OB1
  have lt_cdi : h0.size > cdi := Eci_1.lt
  have lt_ca : h0.size > ca := Vca_1.lt
  refine uAN 1 hx hby d33 rfl rfl rfl ?_
  refine glen hx P0 2 (hb hby d34) rfl ?_
  refine uSIN 3 #[vr b, vi (Int32.ofNat (ch :: cr).length), un, un] hx hby d35 rfl rfl ?_
  refine uKc 4 (0 : Int32) hx hby d36 rfl rfl ?_
  refine uSIN 5 #[vr b, vi (Int32.ofNat (ch :: cr).length), vi (0 : Int32), un] hx hby d37 rfl rfl ?_
  refine uIN 6 hx hby d38 rfl rfl ?_
  refine uIN 7 hx hby d39 rfl rfl ?_
  refine uNc 10 hx hby d40 rfl (tlt hpos).2.1 ?_
  refine uAN 11 hx hby d41 rfl rfl rfl ?_
  refine uIN 12 hx hby d42 rfl rfl ?_
  refine ginfo fun _ _ O2 => ?_
  refine gcallS (y := mn31) hx (ow hw 248 rfl) (ow hw 249 rfl) (ow hw 14 rfl) (ow hw 250 rfl) (by decide) (fun hZ H hEL => Pay.of_met (W := 0) (own_gch l Z a0 cx [] (b) (kb) (ch) (cr) vm h0 O2 P0 (by first | assumption | decide | omega) (by first | assumption | decide | omega)) (ow hw 250 rfl) (ow hw 14 rfl) (by decide) (by decide) hZ H hEL) 15 (argsL := [(.ref b), (.int (0 : Int32))]) (rest := []) (lenOf own_pd44 rfl) rfl rfl (Nat.le_of_eq rfl) (by rw [hml]; rfl) (hb hby d43) rfl (by decide) (by decide) ?_
  rintro _ vm2 h2 C2 ⟨rfl, rfl⟩
  have z2 := C2.2.1
  refine gat1 ?_
  refine uSIN 16 #[vr b, vi (Int32.ofNat (ch :: cr).length), vi (0 : Int32), vi ch] hx hby d45 rfl rfl ?_
  refine uIN 17 hx hby d46 rfl rfl ?_
  refine uKb 19 (32 : Int32) hx hby d47 rfl rfl ?_
  refine uNc 22 hx hby d48 rfl (feq (own_lt33 h33 (by decide))).1 ?_
  refine uIN 23 hx hby d49 rfl rfl ?_
  refine uKb 25 (9 : Int32) hx hby d50 rfl rfl ?_
  refine uNc 28 hx hby d51 rfl (feq (own_lt33 h33 (by decide))).1 ?_
  refine ggetS (host := "") hx (Or.inl (ow hw 251 rfl)) Via.refl Sci 31 (hb hby d52) rfl ?_
  refine uIN 32 hx hby d53 rfl rfl ?_
  refine ginfo fun _ _ O3 => ?_
  refine gcallV (y := mn23) (z := mn23) hx (ow hw 253 rfl) (ow hw 254 rfl) (nfSel (ow hw 256 rfl)) (ow hw 256 rfl) (ow hw 255 rfl) (by decide) (fun hZ H hEL => Pay.of_met (W := 0) (own_isws l Z a0 cx [] (cdi) (ch) (cdi) (ca) (kA) vm2 h0 O3 Eci_1 (by first | assumption | decide | omega) (by first | assumption | decide | omega) (by first | assumption | decide | omega)) (ow hw 257 rfl) (ow hw 252 rfl) (by decide) (by decide) hZ H hEL) 35 (argsL := [(.int ch)]) (rest := []) Eci_1 (lenOf own_pd55 rfl) rfl rfl (Nat.le_of_eq rfl) (by rw [hml]; rfl) (hb hby d54) rfl (by decide) (by decide) ?_
  rintro _ vm3 h3 C3 ⟨rfl, rfl⟩
  have z3 := C3.2.1
  refine gat1 ?_
  refine uN 38 hx hby d56 rfl ((if0 _ _).trans (teq (by decide)).2) ?_
  refine uG 47 hx hby d57 (by decide) (by decide) ?_
  refine uIN 48 hx hby d58 rfl rfl ?_
  exact gretI hx hret (hb hby d59) (by decide) (by decide) (fun vq Cq => ⟨rfl, rfl⟩)
theorem d61 : decode y27_ 0 = .ok (.getstatic 38, 3) := by decide +kernel
theorem d62 : decode y27_ 3 = .ok (.ifCond .eq 14, 3) := by decide +kernel
theorem d63 : decode y27_ 6 = .ok (.aload_n 0, 1) := by decide +kernel
theorem d64 : decode y27_ 7 = .ok (.getfield 15, 3) := by decide +kernel
theorem d65 : decode y27_ 10 = .ok (.ifCond .ne 7, 3) := by decide +kernel
theorem d66 : decode y27_ 13 = .ok (.iconst 1, 1) := by decide +kernel
theorem d67 : decode y27_ 14 = .ok (.goto 4, 3) := by decide +kernel
theorem d68 : decode y27_ 18 = .ok (.ireturn, 1) := by decide +kernel
abbrev mn69 : MethodName := ⟨"java/lang/String", "isLatin1", "()Z"⟩
theorem own_pn70 : plainName "java/lang/String" = true := by first | (simp [plainName, overriddenIn]; done) | decide +kernel
theorem own_slat (l : Launch) (Z : State) (a0 : Array Value) (cx : Ctx Z a0) (ws : List Jvm.Cond) (x : Addr) (t : Addr) (cs : List Int32) (vm0 : Vm) (h0 : Heap) (X00 : Ext Z.heap h0) (P0 : Str Z h0 x t cs) :
    Met l mn69 y27_ 1 (some .boolean) ws ({ frames := 0, cells := 0, slots := 0, locals := 0 } : Room) Z ([] : List (String × Nat)) vm0 h0 #[(.ref x)] (fun rv vm h => rv = some (.int (1 : Int32)) ∧ h0 = h) := by
  obtain ⟨hw, hEL, ⟨zc, Scs, hzc⟩, ⟨fm, Sfm, hfm⟩, hL0, hB0, hO0⟩ := id cx
  refine Met.of_walk (a0 := a0) #[vr x] (plainFor_of_name own_pn70) X00 hEL (fun m => by first | (simp [entryFrame, mkF, argsToLocals, Value.category]; done) | rfl) ?_
  intro p e s m below meth c vm hx hby hml hret hnm hC0 hW0
  have lt_x : h0.size > x := P0.1.lt
  have lt_t : h0.size > t := P0.tlt
  refine ggetS (host := "") hx (Or.inl (ow hw 11 rfl)) Via.refl Scs 3 (hb hby d61) rfl ?_
  refine uN 6 hx hby d62 rfl ((if0 _ _).trans (feq hzc).1) ?_
  refine uAN 7 hx hby d63 rfl rfl rfl ?_
  refine ggetF (host := "") hx (Or.inl (ow hw 31 rfl)) Via.refl P0.2.1 10 (hb hby d64) rfl ?_
  refine uN 13 hx hby d65 rfl ((if0 _ _).trans (teq (by decide)).2) ?_
  refine uKc 14 (1 : Int32) hx hby d66 rfl rfl ?_
  refine uG 18 hx hby d67 (by decide) (by decide) ?_
  exact gretN (t := .boolean) hx hret (by simp) (hb hby d68) (by decide) (by decide) (fun vq Cq => ⟨rfl, rfl⟩)
theorem d71 : decode y23_ 0 = .ok (.aload_n 0, 1) := by decide +kernel
theorem d72 : decode y23_ 1 = .ok (.invokevirtual 492, 3) := by decide +kernel
theorem own_pd73 : parseMethodDescriptor "()Z" = some ⟨[], some .boolean⟩ := by decide +kernel
theorem d74 : decode y23_ 4 = .ok (.ifCond .eq 13, 3) := by decide +kernel
theorem d75 : decode y23_ 7 = .ok (.aload_n 0, 1) := by decide +kernel
theorem d76 : decode y23_ 8 = .ok (.getfield 9, 3) := by decide +kernel
theorem d77 : decode y23_ 11 = .ok (.invokestatic 924, 3) := by decide +kernel
theorem own_pd78 : parseMethodDescriptor "([B)I" = some ⟨[(.array .byte)], some .int⟩ := by decide +kernel
theorem d79 : decode y23_ 14 = .ok (.goto 10, 3) := by decide +kernel
theorem d80 : decode y23_ 24 = .ok (.ireturn, 1) := by decide +kernel
abbrev mn81 : MethodName := ⟨"java/lang/String", "indexOfNonWhitespace", "()I"⟩
theorem own_sinw (l : Launch) (Z : State) (a0 : Array Value) (cx : Ctx Z a0) (ws : List Jvm.Cond) (x : Addr) (t : Addr) (ch : Int32) (cr : List Int32) (cdi : Addr) (ca : Addr) (kA : ClassId) (vm0 : Vm) (h0 : Heap) (X00 : Ext Z.heap h0) (P0 : Str Z h0 x t (ch :: cr)) (hb8 : (B8 ch)) (h33 : (¬ ch < (33 : Int32))) (hpos : ((0 : Int32) < Int32.ofNat (ch :: cr).length)) (hB : (OwnB Z cdi ca kA)) :
    Met l mn81 y23_ 1 (some .int) ws ({ frames := 3, cells := 0, slots := 0, locals := 44 } : Room) Z ([] : List (String × Nat)) vm0 h0 #[(.ref x)] (fun rv vm h => rv = some (.int (0 : Int32)) ∧ h0 = h) := by
  obtain ⟨hw, hEL, ⟨zc, Scs, hzc⟩, ⟨fm, Sfm, hfm⟩, hL0, hB0, hO0⟩ := id cx
  refine Met.of_walk (a0 := a0) #[vr x] (plainFor_of_name own_pn70) X00 hEL (fun m => by first | (simp [entryFrame, mkF, argsToLocals, Value.category]; done) | rfl) ?_
  intro p e s m below meth c vm hx hby hml hret hnm hC0 hW0
  have lt_x : h0.size > x := P0.1.lt
  have lt_t : h0.size > t := P0.tlt
  obtain ⟨ks, eS⟩ := P0.2.2.2.1
  refine uAN 1 hx hby d71 rfl rfl rfl ?_
  refine ginfo fun _ _ O1 => ?_
  refine gcallV (y := mn69) (z := mn69) hx (ow hw 240 rfl) (ow hw 241 rfl) (nfSel (ow hw 243 rfl)) (ow hw 243 rfl) (ow hw 242 rfl) (by decide) (fun hZ H hEL => Pay.of_met (W := 0) (own_slat l Z a0 cx [] (x) (t) ((ch :: cr)) vm h0 O1 P0) (ow hw 244 rfl) (ow hw 9 rfl) (by decide) (by decide) hZ H hEL) 4 (argsL := []) (rest := []) P0.1 (lenOf own_pd73 rfl) rfl rfl (Nat.le_of_eq rfl) (by rw [hml]; rfl) (hb hby d72) rfl (by decide) (by decide) ?_
  rintro _ vm1 h1 C1 ⟨rfl, rfl⟩
  have z1 := C1.2.1
  refine gat1 ?_
  refine uN 7 hx hby d74 rfl ((if0 _ _).trans (feq (by decide)).1) ?_
  refine uAN 8 hx hby d75 rfl rfl rfl ?_
  refine ggetF (host := "") hx (Or.inl (ow hw 29 rfl)) Via.refl P0.2.2.1 11 (hb hby d76) rfl ?_
  refine ginfo fun _ _ O2 => ?_
  refine gcallS (y := mn60) hx (ow hw 245 rfl) (ow hw 246 rfl) (ow hw 14 rfl) (ow hw 247 rfl) (by decide) (fun hZ H hEL => Pay.of_met (W := 0) (own_inw l Z a0 cx [] (t) (ks) (ch) (cr) (cdi) (ca) (kA) vm1 h0 O2 eS (by first | assumption | decide | omega) (by first | assumption | decide | omega) (by first | assumption | decide | omega) (by first | assumption | decide | omega)) (ow hw 247 rfl) (ow hw 14 rfl) (by decide) (by decide) hZ H hEL) 14 (argsL := [(.ref t)]) (rest := []) (lenOf own_pd78 rfl) rfl rfl (Nat.le_of_eq rfl) (by rw [hml]; rfl) (hb hby d77) rfl (by decide) (by decide) ?_
  rintro _ vm2 h2 C2 ⟨rfl, rfl⟩
  have z2 := C2.2.1
  refine gat1 ?_
  refine uG 24 hx hby d79 (by decide) (by decide) ?_
  exact gretI hx hret (hb hby d80) (by decide) (by decide) (fun vq Cq => ⟨rfl, rfl⟩)
theorem d82 : decode y22_ 0 = .ok (.aload_n 0, 1) := by decide +kernel
theorem d83 : decode y22_ 1 = .ok (.invokevirtual 876, 3) := by decide +kernel
theorem own_pd84 : parseMethodDescriptor "()I" = some ⟨[], some .int⟩ := by decide +kernel
theorem d85 : decode y22_ 4 = .ok (.aload_n 0, 1) := by decide +kernel
theorem d86 : decode y22_ 5 = .ok (.invokevirtual 505, 3) := by decide +kernel
abbrev mn87 : MethodName := ⟨"java/lang/String", "length", "()I"⟩
theorem d88 : decode y22_ 8 = .ok (.if_icmp .ne 7, 3) := by decide +kernel
theorem d89 : decode y22_ 15 = .ok (.iconst 0, 1) := by decide +kernel
theorem d90 : decode y22_ 16 = .ok (.ireturn, 1) := by decide +kernel
abbrev mn91 : MethodName := ⟨"java/lang/String", "isBlank", "()Z"⟩
theorem own_isblank (l : Launch) (Z : State) (a0 : Array Value) (cx : Ctx Z a0) (ws : List Jvm.Cond) (x : Addr) (t : Addr) (ch : Int32) (cr : List Int32) (cdi : Addr) (ca : Addr) (kA : ClassId) (vm0 : Vm) (h0 : Heap) (X00 : Ext Z.heap h0) (P0 : Str Z h0 x t (ch :: cr)) (hb8 : (B8 ch)) (h33 : (¬ ch < (33 : Int32))) (hpos : ((0 : Int32) < Int32.ofNat (ch :: cr).length)) (hB : (OwnB Z cdi ca kA)) :
    Met l mn91 y22_ 1 (some .boolean) ws ({ frames := 4, cells := 0, slots := 0, locals := 56 } : Room) Z ([] : List (String × Nat)) vm0 h0 #[(.ref x)] (fun rv vm h => rv = some (.int (0 : Int32)) ∧ h0 = h) := by
  obtain ⟨hw, hEL, ⟨zc, Scs, hzc⟩, ⟨fm, Sfm, hfm⟩, hL0, hB0, hO0⟩ := id cx
  refine Met.of_walk (a0 := a0) #[vr x] (plainFor_of_name own_pn70) X00 hEL (fun m => by first | (simp [entryFrame, mkF, argsToLocals, Value.category]; done) | rfl) ?_
  intro p e s m below meth c vm hx hby hml hret hnm hC0 hW0
  have lt_x : h0.size > x := P0.1.lt
  have lt_t : h0.size > t := P0.tlt
  refine uAN 1 hx hby d82 rfl rfl rfl ?_
  refine ginfo fun _ _ O1 => ?_
  refine gcallP (y := mn81) hx (ow hw 235 rfl) (ow hw 236 rfl) (ow hw 238 rfl) (ow hw 237 rfl) (ow hw 239 rfl) (by decide) (fun hZ H hEL => Pay.of_met (W := 0) (own_sinw l Z a0 cx [] (x) (t) (ch) (cr) (cdi) (ca) (kA) vm h0 O1 P0 (by first | assumption | decide | omega) (by first | assumption | decide | omega) (by first | assumption | decide | omega) (by first | assumption | decide | omega)) (ow hw 239 rfl) (ow hw 9 rfl) (by decide) (by decide) hZ H hEL) 4 (argsL := []) (rest := []) P0.1 (lenOf own_pd84 rfl) rfl rfl (Nat.le_of_eq rfl) (by rw [hml]; rfl) (hb hby d83) rfl (by decide) (by decide) ?_
  rintro _ vm1 h1 C1 ⟨rfl, rfl⟩
  have z1 := C1.2.1
  refine gat1 ?_
  refine uAN 5 hx hby d85 rfl rfl rfl ?_
  refine ginfo fun _ _ O2 => ?_
  refine gcallV (y := mn87) (z := mn87) hx (ow hw 264 rfl) (ow hw 265 rfl) (nfSel (ow hw 267 rfl)) (ow hw 267 rfl) (ow hw 266 rfl) (by decide) (fun hZ H hEL => own_payLen (W := 1) (own_wLen hw) (ow hw 17 rfl) Scs hzc O2 (N := (Int32.ofNat ((ch :: cr)).length)) P0 rfl (by decide) (by decide) hZ H hEL) 8 (argsL := []) (rest := [(.int (0 : Int32))]) P0.1 (lenOf own_pd84 rfl) rfl rfl (Nat.le_of_eq rfl) (by rw [hml]; rfl) (hb hby d86) rfl (by decide) (by decide) ?_
  rintro _ vm2 h2 C2 ⟨rfl, rfl⟩
  have z2 := C2.2.1
  refine gat1 ?_
  refine uYc 15 hx hby d88 (feq (fun q => by rw [← q] at hpos; exact absurd hpos (by decide))).2 (by decide) (by decide) ?_
  refine uKc 16 (0 : Int32) hx hby d89 rfl rfl ?_
  exact gretN (t := .boolean) hx hret (by simp) (hb hby d90) (by decide) (by decide) (fun vq Cq => ⟨rfl, rfl⟩)
theorem d92 : decode y5_ 0 = .ok (.aload_n 0, 1) := by decide +kernel
theorem d93 : decode y5_ 1 = .ok (.invokespecial 1, 3) := by decide +kernel
theorem d94 : decode y5_ 4 = .ok (.return_, 1) := by decide +kernel
abbrev mn95 : MethodName := ⟨"java/util/AbstractCollection", "<init>", "()V"⟩
theorem own_pn96 : plainName "java/util/AbstractCollection" = true := by first | (simp [plainName, overriddenIn]; done) | decide +kernel
theorem own_abcinit (l : Launch) (Z : State) (a0 : Array Value) (cx : Ctx Z a0) (ws : List Jvm.Cond) (x : Addr) (vm0 : Vm) (h0 : Heap) (X00 : Ext Z.heap h0)  :
    Met l mn95 y5_ 1 none ws ({ frames := 1, cells := 0, slots := 0, locals := 12 } : Room) Z ([] : List (String × Nat)) vm0 h0 #[(.ref x)] (fun rv vm h => rv = none ∧ h0 = h) := by
  obtain ⟨hw, hEL, ⟨zc, Scs, hzc⟩, ⟨fm, Sfm, hfm⟩, hL0, hB0, hO0⟩ := id cx
  refine Met.of_walk (a0 := a0) #[vr x] (plainFor_of_name own_pn96) X00 hEL (fun m => by first | (simp [entryFrame, mkF, argsToLocals, Value.category]; done) | rfl) ?_
  intro p e s m below meth c vm hx hby hml hret hnm hC0 hW0
  refine uAN 1 hx hby d92 rfl rfl rfl ?_
  refine ginitO hx (ow hw 51 rfl) (ow hw 27 rfl) (ow hw 28 rfl) 4 (W := 0) (Nat.le_of_eq rfl) (by rw [hml]; rfl) (hb hby d93) rfl (by decide) (by decide) ?_
  exact gretV hx hret (hb hby d94) (by decide) (by decide) (fun vq Cq => ⟨rfl, rfl⟩)
theorem d97 : decode y19_ 0 = .ok (.aload_n 0, 1) := by decide +kernel
theorem d98 : decode y19_ 1 = .ok (.invokespecial 1, 3) := by decide +kernel
theorem own_pd99 : parseMethodDescriptor "()V" = some ⟨[], none⟩ := by decide +kernel
theorem d100 : decode y19_ 4 = .ok (.aload_n 0, 1) := by decide +kernel
theorem d101 : decode y19_ 5 = .ok (.iconst 0, 1) := by decide +kernel
theorem d102 : decode y19_ 6 = .ok (.putfield 7, 3) := by decide +kernel
theorem d103 : decode y19_ 9 = .ok (.return_, 1) := by decide +kernel
abbrev mn104 : MethodName := ⟨"java/util/AbstractList", "<init>", "()V"⟩
theorem own_pn105 : plainName "java/util/AbstractList" = true := by first | (simp [plainName, overriddenIn]; done) | decide +kernel
theorem own_ablinit (l : Launch) (Z : State) (a0 : Array Value) (cx : Ctx Z a0) (ws : List Jvm.Cond) (x : Addr) (mc : Int32) (u : Value) (vm0 : Vm) (h0 : Heap) (X00 : Ext Z.heap h0) (P0 : Exa Z h0 x c14_) (P1 : Fld Z h0 x c13_ "modCount" "I" (.int mc)) (P2 : Z.heap.size ≤ x) (P3 : Fld Z h0 x c14_ c6_ c4_ u) (P4 : Fld Z h0 x c14_ "size" "I" (.int (0 : Int32))) :
    Met l mn104 y19_ 1 none ws ({ frames := 2, cells := 0, slots := 0, locals := 24 } : Room) Z ([] : List (String × Nat)) vm0 h0 #[(.ref x)] (fun rv vm h => rv = none ∧ Keep h0 h [x] ∧ Fld Z h x c13_ "modCount" "I" (.int (0 : Int32)) ∧ Fld Z h x c14_ c6_ c4_ u ∧ Fld Z h x c14_ "size" "I" (.int (0 : Int32))) := by
  obtain ⟨hw, hEL, ⟨zc, Scs, hzc⟩, ⟨fm, Sfm, hfm⟩, hL0, hB0, hO0⟩ := id cx
  refine Met.of_walk (a0 := a0) #[vr x] (plainFor_of_name own_pn105) X00 hEL (fun m => by first | (simp [entryFrame, mkF, argsToLocals, Value.category]; done) | rfl) ?_
  intro p e s m below meth c vm hx hby hml hret hnm hC0 hW0
  have lt_x : h0.size > x := P0.lt
  refine uAN 1 hx hby d97 rfl rfl rfl ?_
  refine ginfo fun _ _ O1 => ?_
  refine gcallI (y := mn95) hx rfl (ow hw 45 rfl) (ow hw 46 rfl) (ow hw 50 rfl) (by decide) (fun hZ H hEL => Pay.of_met (W := 0) (own_abcinit l Z a0 cx [] (x) vm h0 O1 ) (ow hw 50 rfl) (ow hw 49 rfl) (by decide) (by decide) hZ H hEL) (a := x) 4 (argsL := []) (rest := []) (lenOf own_pd99 rfl) rfl rfl (Nat.le_of_eq rfl) (by rw [hml]; rfl) (hb hby d98) rfl (by decide) (by decide) ?_
  rintro _ vm1 h1 C1 ⟨rfl, rfl⟩
  have z1 := C1.2.1
  refine gat0 ?_
  refine uAN 5 hx hby d100 rfl rfl rfl ?_
  refine uKc 6 (0 : Int32) hx hby d101 rfl rfl ?_
  refine gputF (host := "") hx (Or.inl (ow hw 52 rfl)) Via.refl P1 P0 (Or.inl (ow hw 53 rfl)) (ow hw 34 rfl) (ty := .int) (by decide) rfl rfl P2 (fun al => Safe.exa al P0 (by decide) (by decide)) 9 (hb hby d102) rfl ?_
  intro h2 W2 C2
  have z2 := C2.2.1
  have F2 := P1.same W2
  have f4 := (P3.other W2 (Or.inr (slot_ne (Or.inl (ow hw 56 rfl)) (Or.inl (ow hw 53 rfl)) (by decide) (t := (.array (.object c11_))) (t' := .int) (by decide) (by decide))))
  have f5 := (P4.other W2 (Or.inr (slot_ne (Or.inl (ow hw 101 rfl)) (Or.inl (ow hw 53 rfl)) (by decide) (t := .int) (t' := .int) (by decide) (by decide))))
  exact gretV hx hret (hb hby d103) (by decide) (by decide) (fun vq Cq => ⟨rfl, ((Keep.refl h0 [x]).wr W2 (Or.inl (List.mem_of_getElem? (i := 0) rfl))), F2, f4, f5⟩)
theorem d106 : decode y14_ 0 = .ok (.aload_n 0, 1) := by decide +kernel
theorem d107 : decode y14_ 1 = .ok (.invokespecial 1, 3) := by decide +kernel
theorem d108 : decode y14_ 4 = .ok (.aload_n 0, 1) := by decide +kernel
theorem d109 : decode y14_ 5 = .ok (.getstatic 39, 3) := by decide +kernel
theorem d110 : decode y14_ 8 = .ok (.putfield 9, 3) := by decide +kernel
theorem d111 : decode y14_ 11 = .ok (.return_, 1) := by decide +kernel
abbrev mn112 : MethodName := ⟨"java/util/ArrayList", "<init>", "()V"⟩
theorem own_pn113 : plainName "java/util/ArrayList" = true := by first | (simp [plainName, overriddenIn]; done) | decide +kernel
theorem own_alinit (l : Launch) (Z : State) (a0 : Array Value) (cx : Ctx Z a0) (ws : List Jvm.Cond) (x : Addr) (u : Value) (dz : Addr) (el : Addr) (ee : Addr) (em : Addr) (mr : Addr) (kd : ClassId) (ke : ClassId) (vm0 : Vm) (h0 : Heap) (X00 : Ext Z.heap h0) (P0 : Exa Z h0 x c14_) (P1 : Fld Z h0 x c13_ "modCount" "I" (.int (0 : Int32))) (P2 : Fld Z h0 x c14_ c6_ c4_ u) (P3 : Fld Z h0 x c14_ "size" "I" (.int (0 : Int32))) (P4 : Z.heap.size ≤ x) (hL : (OwnL Z dz el ee em mr kd ke)) :
    Met l mn112 y14_ 1 none ws ({ frames := 3, cells := 0, slots := 0, locals := 36 } : Room) Z ([] : List (String × Nat)) vm0 h0 #[(.ref x)] (fun rv vm h => rv = none ∧ Keep h0 h [x] ∧ Fld Z h x c14_ c6_ c4_ (.ref dz) ∧ Fld Z h x c14_ "size" "I" (.int (0 : Int32)) ∧ Fld Z h x c13_ "modCount" "I" (.int (0 : Int32))) := by
  obtain ⟨hw, hEL, ⟨zc, Scs, hzc⟩, ⟨fm, Sfm, hfm⟩, hL0, hB0, hO0⟩ := id cx
  refine Met.of_walk (a0 := a0) #[vr x] (plainFor_of_name own_pn113) X00 hEL (fun m => by first | (simp [entryFrame, mkF, argsToLocals, Value.category]; done) | rfl) ?_
  intro p e s m below meth c vm hx hby hml hret hnm hC0 hW0
  have lt_x : h0.size > x := P0.lt
  obtain ⟨Sdz, Edz, Vdz, Sel, Eel, Fee, Vee, Fan, Sem, Eem, Mmr⟩ := id hL
  refine uAN 1 hx hby d106 rfl rfl rfl ?_
  refine ginfo fun _ _ O1 => ?_
  refine gcallI (y := mn104) hx rfl (ow hw 39 rfl) (ow hw 40 rfl) (ow hw 44 rfl) (by decide) (fun hZ H hEL => Pay.of_met (W := 0) (own_ablinit l Z a0 cx [] (x) ((0 : Int32)) (u) vm h0 O1 P0 P1 P4 P2 P3) (ow hw 44 rfl) (ow hw 43 rfl) (by decide) (by decide) hZ H hEL) (a := x) 4 (argsL := []) (rest := []) (lenOf own_pd99 rfl) rfl rfl (Nat.le_of_eq rfl) (by rw [hml]; rfl) (hb hby d107) rfl (by decide) (by decide) ?_
  rintro _ vm1 h1 C1 ⟨rfl, K1, q1_0, q1_1, q1_2⟩
  have z1 := C1.2.1
  refine gat0 ?_
  refine uAN 5 hx hby d108 rfl rfl rfl ?_
  refine ggetS (host := "") hx (Or.inl (ow hw 54 rfl)) Via.refl Sdz 8 (hb hby d109) rfl ?_
  have f2 := (P0.keep K1)
  refine gputF (host := "") hx (Or.inl (ow hw 55 rfl)) Via.refl q1_1 f2 (Or.inl (ow hw 56 rfl)) (ow hw 34 rfl) (ty := (.array (.object c11_))) (by decide) rfl rfl P4 (fun al => Safe.exa al f2 (by decide) (by decide)) 11 (hb hby d110) rfl ?_
  intro h3 W3 C3
  have z3 := C3.2.1
  have F3 := q1_1.same W3
  have f5 := (q1_2.other W3 (Or.inr (slot_ne (Or.inl (ow hw 101 rfl)) (Or.inl (ow hw 56 rfl)) (by decide) (t := .int) (t' := (.array (.object c11_))) (by decide) (by decide))))
  have f6 := (q1_0.other W3 (Or.inr (slot_ne (Or.inl (ow hw 53 rfl)) (Or.inl (ow hw 56 rfl)) (by decide) (t := .int) (t' := (.array (.object c11_))) (by decide) (by decide))))
  exact gretV hx hret (hb hby d111) (by decide) (by decide) (fun vq Cq => ⟨rfl, (((Keep.refl h0 [x]).trans K1 (allS (Or.inl (List.mem_of_getElem? (i := 0) rfl)) all0)).wr W3 (Or.inl (List.mem_of_getElem? (i := 0) rfl))), F3, f5, f6⟩)
theorem d114 : decode y6_ 0 = .ok (.iload_n 0, 1) := by decide +kernel
theorem d115 : decode y6_ 1 = .ok (.iload_n 1, 1) := by decide +kernel
theorem d116 : decode y6_ 2 = .ok (.if_icmp .lt 7, 3) := by decide +kernel
theorem d117 : decode y6_ 5 = .ok (.iload_n 0, 1) := by decide +kernel
theorem d118 : decode y6_ 6 = .ok (.goto 4, 3) := by decide +kernel
theorem d119 : decode y6_ 10 = .ok (.ireturn, 1) := by decide +kernel
abbrev mn120 : MethodName := ⟨"java/lang/Math", "max", "(II)I"⟩
theorem own_pn121 : plainFor mn120 = true := by first | decide +kernel | (simp [plainFor, plainName, overriddenIn]; done)
theorem own_max10 (l : Launch) (Z : State) (a0 : Array Value) (cx : Ctx Z a0) (ws : List Jvm.Cond)  (vm0 : Vm) (h0 : Heap) (X00 : Ext Z.heap h0)  :
    Met l mn120 y6_ 2 (some .int) ws ({ frames := 0, cells := 0, slots := 0, locals := 0 } : Room) Z ([] : List (String × Nat)) vm0 h0 #[(.int (10 : Int32)), (.int (1 : Int32))] (fun rv vm h => rv = some (.int (10 : Int32)) ∧ h0 = h) := by
  obtain ⟨hw, hEL, ⟨zc, Scs, hzc⟩, ⟨fm, Sfm, hfm⟩, hL0, hB0, hO0⟩ := id cx
  refine Met.of_walk (a0 := a0) #[vi (10 : Int32), vi (1 : Int32)] own_pn121 X00 hEL (fun m => by first | (simp [entryFrame, mkF, argsToLocals, Value.category]; done) | rfl) ?_
  intro p e s m below meth c vm hx hby hml hret hnm hC0 hW0
  refine uIN 1 hx hby d114 rfl rfl ?_
  refine uIN 2 hx hby d115 rfl rfl ?_
  refine uNc 5 hx hby d116 rfl (flt (by decide)).1 ?_
  refine uIN 6 hx hby d117 rfl rfl ?_
  refine uG 10 hx hby d118 (by decide) (by decide) ?_
  exact gretI hx hret (hb hby d119) (by decide) (by decide) (fun vq Cq => ⟨rfl, rfl⟩)
theorem d122 : decode y16_ 0 = .ok (.aload_n 0, 1) := by decide +kernel
theorem d123 : decode y16_ 1 = .ok (.getfield 9, 3) := by decide +kernel
theorem d124 : decode y16_ 4 = .ok (.arraylength, 1) := by decide +kernel
theorem d125 : decode y16_ 5 = .ok (.istore_n 2, 1) := by decide +kernel
theorem d126 : decode y16_ 6 = .ok (.iload_n 2, 1) := by decide +kernel
theorem d127 : decode y16_ 7 = .ok (.ifCond .gt 13, 3) := by decide +kernel
theorem d128 : decode y16_ 10 = .ok (.aload_n 0, 1) := by decide +kernel
theorem d129 : decode y16_ 11 = .ok (.getfield 9, 3) := by decide +kernel
theorem d130 : decode y16_ 14 = .ok (.getstatic 39, 3) := by decide +kernel
theorem d131 : decode y16_ 17 = .ok (.if_acmp .eq 28, 3) := by decide +kernel
theorem d132 : decode y16_ 45 = .ok (.aload_n 0, 1) := by decide +kernel
theorem d133 : decode y16_ 46 = .ok (.bipush 10, 2) := by decide +kernel
theorem d134 : decode y16_ 48 = .ok (.iload_n 1, 1) := by decide +kernel
theorem d135 : decode y16_ 49 = .ok (.invokestatic 79, 3) := by decide +kernel
theorem own_pd136 : parseMethodDescriptor "(II)I" = some ⟨[.int, .int], some .int⟩ := by decide +kernel
theorem d137 : decode y16_ 52 = .ok (.anewarray 7, 3) := by decide +kernel
theorem d138 : decode y16_ 55 = .ok (.dup_x1, 1) := by decide +kernel
theorem d139 : decode y16_ 56 = .ok (.putfield 9, 3) := by decide +kernel
theorem d140 : decode y16_ 59 = .ok (.areturn, 1) := by decide +kernel
abbrev mn141 : MethodName := ⟨"java/util/ArrayList", "grow", "(I)[Ljava/lang/Object;"⟩
theorem own_growI (l : Launch) (Z : State) (a0 : Array Value) (cx : Ctx Z a0) (ws : List Jvm.Cond) (x : Addr) (mc : Int32) (dz : Addr) (el : Addr) (ee : Addr) (em : Addr) (mr : Addr) (kd : ClassId) (ke : ClassId) (vm0 : Vm) (h0 : Heap) (X00 : Ext Z.heap h0) (P0 : Fld Z h0 x c13_ "modCount" "I" (.int mc)) (P1 : Exa Z h0 x c14_) (P2 : Fld Z h0 x c14_ c6_ c4_ (.ref dz)) (P3 : Fld Z h0 x c14_ "size" "I" (.int (0 : Int32))) (P4 : Z.heap.size ≤ x) (hL : (OwnL Z dz el ee em mr kd ke)) :
    Met l mn141 y16_ 4 (some (.array (.object c11_))) ws ({ frames := 1, cells := 1, slots := 10, locals := 14 } : Room) Z ([] : List (String × Nat)) vm0 h0 #[(.ref x), (.int (1 : Int32))] (fun rv vm h => ∃ (d : Addr), ∃ (kc : ClassId), rv = some (.ref d) ∧ Keep h0 h [x] ∧ Fld Z h x c14_ c6_ c4_ (.ref d) ∧ Fld Z h x c14_ "size" "I" (.int (0 : Int32)) ∧ h0.size ≤ d ∧ Z.heap.size ≤ d ∧ Arv Z h d kc (.object c11_) (10 : Int32) [.null, .null, .null, .null, .null, .null, .null, .null, .null, .null] .null ∧ Exa Z h d c4_ ∧ (Ovr Z kc c11_) ∧ Fld Z h x c13_ "modCount" "I" (.int mc)) := by
  obtain ⟨hw, hEL, ⟨zc, Scs, hzc⟩, ⟨fm, Sfm, hfm⟩, hL0, hB0, hO0⟩ := id cx
  refine Met.of_walk (a0 := a0) #[vr x, vi (1 : Int32), un, un] (plainFor_of_name own_pn113) X00 hEL (fun m => by first | (simp [entryFrame, mkF, argsToLocals, Value.category]; done) | rfl) ?_
  intro p e s m below meth c vm hx hby hml hret hnm hC0 hW0
  have lt_x : h0.size > x := P0.lt
  obtain ⟨Sdz, Edz, Vdz, Sel, Eel, Fee, Vee, Fan, Sem, Eem, Mmr⟩ := id hL
  refine ginfo fun _ _ OL1 => ?_
  have Vdz_1 := Vdz.ext OL1
  have lt_dz : h0.size > dz := Vdz_1.lt
  refine uAN 1 hx hby d122 rfl rfl rfl ?_
  refine ggetF (host := "") hx (Or.inl (ow hw 55 rfl)) Via.refl P2 4 (hb hby d123) rfl ?_
  refine glen hx Vdz_1 5 (hb hby d124) rfl ?_
  refine uSIN 6 #[vr x, vi (1 : Int32), vi (0 : Int32), un] hx hby d125 rfl rfl ?_
  refine uIN 7 hx hby d126 rfl rfl ?_
  refine uN 10 hx hby d127 rfl ((if0 _ _).trans (flt (by decide)).2.2.1) ?_
  refine uAN 11 hx hby d128 rfl rfl rfl ?_
  refine ggetF (host := "") hx (Or.inl (ow hw 55 rfl)) Via.refl P2 14 (hb hby d129) rfl ?_
  refine ggetS (host := "") hx (Or.inl (ow hw 54 rfl)) Via.refl Sdz 17 (hb hby d130) rfl ?_
  refine gx (mkF m 45 #[vr x, vi (1 : Int32), vi (0 : Int32), un] []) (fun T locs X _ _ _ _ kq => Jvm.RoadKit.acmp (g := (mkF m 17 #[vr x, vi (1 : Int32), vi (0 : Int32), un] [(.ref dz), (.ref dz)])) X hx rfl rfl rfl (pc0 := 17) (pc' := 45) (same := true) rfl (hb hby d131) rfl (decide_eq_true rfl) (by decide) (by decide) kq) ?_
  refine uAN 46 hx hby d132 rfl rfl rfl ?_
  refine uKb 48 (10 : Int32) hx hby d133 rfl rfl ?_
  refine uIN 49 hx hby d134 rfl rfl ?_
  refine ginfo fun _ _ O2 => ?_
  refine gcallS (y := mn120) hx (ow hw 224 rfl) (ow hw 225 rfl) (ow hw 226 rfl) (ow hw 227 rfl) (by decide) (fun hZ H hEL => Pay.of_met (W := 1) (own_max10 l Z a0 cx []  vm h0 O2 ) (ow hw 227 rfl) (ow hw 226 rfl) (by decide) (by decide) hZ H hEL) 52 (argsL := [(.int (10 : Int32)), (.int (1 : Int32))]) (rest := [(.ref x)]) (lenOf own_pd136 rfl) rfl rfl (Nat.le_of_eq rfl) (by rw [hml]; rfl) (hb hby d135) rfl (by decide) (by decide) ?_
  rintro _ vm2 h2 C2 ⟨rfl, rfl⟩
  have z2 := C2.2.1
  refine gat1 ?_
  refine gnewR hx (ow hw 228 rfl) (ow hw 142 rfl) (n := (10 : Int32)) (by decide) (cap := 10) (by decide) (by decide) (ad := c4_) (by decide) 55 (hb hby d137) rfl (by decide) (by decide) ?_
  intro b3 h3 k3 g3 E3 C3 V3 A3 O3 n3 L3
  have z3 := C3.2.1
  have V3 : Arv Z h3 b3 k3 (.object c11_) (10 : Int32) [.null, .null, .null, .null, .null, .null, .null, .null, .null, .null] .null := V3.pad (pad_rep [] .null 10)
  have lt_b3 : h3.size > b3 := V3.lt
  refine gs (mkF m 56 #[vr x, vi (1 : Int32), vi (0 : Int32), un] [(.ref b3), (.ref x), (.ref b3)]) (fun _ _ A kq => XS.dupX1 A hx rfl (hb hby d138) rfl rfl rfl kq) ?_
  have f4 := (P2.ext E3)
  have f5 := (P1.ext E3)
  refine gputF (host := "") hx (Or.inl (ow hw 55 rfl)) Via.refl f4 f5 (Or.inl (ow hw 56 rfl)) (ow hw 34 rfl) (ty := (.array (.object c11_))) (by decide) rfl rfl P4 (fun al => Safe.exa al f5 (by decide) (by decide)) 59 (hb hby d139) rfl ?_
  intro h6 W6 C6
  have z6 := C6.2.1
  have F6 := f4.same W6
  have f8 := ((P3.ext E3).other W6 (Or.inr (slot_ne (Or.inl (ow hw 101 rfl)) (Or.inl (ow hw 56 rfl)) (by decide) (t := .int) (t' := (.array (.object c11_))) (by decide) (by decide))))
  have f9 := (V3.other W6 (Nat.ne_of_gt (by omega)))
  have f10 := (A3.wr W6)
  have f11 := ((P0.ext E3).other W6 (Or.inr (slot_ne (Or.inl (ow hw 53 rfl)) (Or.inl (ow hw 56 rfl)) (by decide) (t := .int) (t' := (.array (.object c11_))) (by decide) (by decide))))
  exact gretA hx hret rfl rfl (hb hby d140) (by decide) (by decide) (fun vq Cq => ⟨b3, k3, rfl, (((Keep.refl h0 [x]).ext E3).wr W6 (Or.inl (List.mem_of_getElem? (i := 0) rfl))), F6, f8, (by omega), n3, f9, f10, (by first | rfl | assumption | decide | omega), f11⟩)
theorem d142 : decode y17_ 0 = .ok (.aload_n 0, 1) := by decide +kernel
theorem d143 : decode y17_ 1 = .ok (.aload_n 0, 1) := by decide +kernel
theorem d144 : decode y17_ 2 = .ok (.getfield 48, 3) := by decide +kernel
theorem d145 : decode y17_ 5 = .ok (.iconst 1, 1) := by decide +kernel
theorem d146 : decode y17_ 6 = .ok (.iadd, 1) := by decide +kernel
theorem d147 : decode y17_ 7 = .ok (.invokevirtual 69, 3) := by decide +kernel
theorem own_pd148 : parseMethodDescriptor "(I)[Ljava/lang/Object;" = some ⟨[.int], some (.array (.object "java/lang/Object"))⟩ := by decide +kernel
theorem d149 : decode y17_ 10 = .ok (.areturn, 1) := by decide +kernel
abbrev mn150 : MethodName := ⟨"java/util/ArrayList", "grow", "()[Ljava/lang/Object;"⟩
theorem own_grow (l : Launch) (Z : State) (a0 : Array Value) (cx : Ctx Z a0) (ws : List Jvm.Cond) (x : Addr) (mc : Int32) (dz : Addr) (el : Addr) (ee : Addr) (em : Addr) (mr : Addr) (kd : ClassId) (ke : ClassId) (vm0 : Vm) (h0 : Heap) (X00 : Ext Z.heap h0) (P0 : Fld Z h0 x c13_ "modCount" "I" (.int mc)) (P1 : Exa Z h0 x c14_) (P2 : Fld Z h0 x c14_ c6_ c4_ (.ref dz)) (P3 : Fld Z h0 x c14_ "size" "I" (.int (0 : Int32))) (P4 : Z.heap.size ≤ x) (hL : (OwnL Z dz el ee em mr kd ke)) :
    Met l mn150 y17_ 1 (some (.array (.object c11_))) ws ({ frames := 2, cells := 1, slots := 10, locals := 29 } : Room) Z ([] : List (String × Nat)) vm0 h0 #[(.ref x)] (fun rv vm h => ∃ (d : Addr), ∃ (kc : ClassId), rv = some (.ref d) ∧ Keep h0 h [x] ∧ Fld Z h x c14_ c6_ c4_ (.ref d) ∧ Fld Z h x c14_ "size" "I" (.int (0 : Int32)) ∧ h0.size ≤ d ∧ Z.heap.size ≤ d ∧ Arv Z h d kc (.object c11_) (10 : Int32) [.null, .null, .null, .null, .null, .null, .null, .null, .null, .null] .null ∧ Exa Z h d c4_ ∧ (Ovr Z kc c11_) ∧ Fld Z h x c13_ "modCount" "I" (.int mc)) := by
  obtain ⟨hw, hEL, ⟨zc, Scs, hzc⟩, ⟨fm, Sfm, hfm⟩, hL0, hB0, hO0⟩ := id cx
  refine Met.of_walk (a0 := a0) #[vr x] (plainFor_of_name own_pn113) X00 hEL (fun m => by first | (simp [entryFrame, mkF, argsToLocals, Value.category]; done) | rfl) ?_
  intro p e s m below meth c vm hx hby hml hret hnm hC0 hW0
  have lt_x : h0.size > x := P0.lt
  obtain ⟨Sdz, Edz, Vdz, Sel, Eel, Fee, Vee, Fan, Sem, Eem, Mmr⟩ := id hL
  refine uAN 1 hx hby d142 rfl rfl rfl ?_
  refine uAN 2 hx hby d143 rfl rfl rfl ?_
  refine ggetF (host := "") hx (Or.inl (ow hw 129 rfl)) Via.refl P3 5 (hb hby d144) rfl ?_
  refine uKc 6 (1 : Int32) hx hby d145 rfl rfl ?_
  refine uiadd 7 (1 : Int32) hx hby d146 rfl (by decide) ?_
  refine ginfo fun _ _ O1 => ?_
  refine gcallP (y := mn141) hx (ow hw 219 rfl) (ow hw 220 rfl) (ow hw 222 rfl) (ow hw 221 rfl) (ow hw 223 rfl) (by decide) (fun hZ H hEL => Pay.of_met (W := 0) (own_growI l Z a0 cx [] (x) (mc) (dz) (el) (ee) (em) (mr) (kd) (ke) vm h0 O1 P0 P1 P2 P3 P4 (by first | assumption | decide | omega)) (ow hw 223 rfl) (ow hw 35 rfl) (by decide) (by decide) hZ H hEL) 10 (argsL := [(.int (1 : Int32))]) (rest := []) P1 (lenOf own_pd148 rfl) rfl rfl (Nat.le_of_eq rfl) (by rw [hml]; rfl) (hb hby d147) rfl (by decide) (by decide) ?_
  rintro _ vm1 h1 C1 ⟨d1, kc1, rfl, K1, q1_0, q1_1, q1_2, q1_3, q1_4, q1_5, q1_6, q1_7⟩
  have z1 := C1.2.1
  have lt_d1 : h1.size > d1 := q1_4.lt
  refine gat1 ?_
  exact gretA hx hret rfl rfl (hb hby d149) (by decide) (by decide) (fun vq Cq => ⟨d1, kc1, rfl, ((Keep.refl h0 [x]).trans K1 (allS (Or.inl (List.mem_of_getElem? (i := 0) rfl)) all0)), q1_0, q1_1, (by omega), q1_3, q1_4, q1_5, (by first | rfl | assumption | decide | omega), q1_7⟩)
theorem d151 : decode y12_ 0 = .ok (.iload_n 3, 1) := by decide +kernel
theorem d152 : decode y12_ 1 = .ok (.aload_n 2, 1) := by decide +kernel
theorem d153 : decode y12_ 2 = .ok (.arraylength, 1) := by decide +kernel
theorem d154 : decode y12_ 3 = .ok (.if_icmp .ne 8, 3) := by decide +kernel
theorem d155 : decode y12_ 6 = .ok (.aload_n 0, 1) := by decide +kernel
theorem d156 : decode y12_ 7 = .ok (.invokevirtual 129, 3) := by decide +kernel
theorem own_pd157 : parseMethodDescriptor "()[Ljava/lang/Object;" = some ⟨[], some (.array (.object "java/lang/Object"))⟩ := by decide +kernel
theorem d158 : decode y12_ 10 = .ok (.astore_n 2, 1) := by decide +kernel
theorem d159 : decode y12_ 11 = .ok (.aload_n 2, 1) := by decide +kernel
theorem d160 : decode y12_ 12 = .ok (.iload_n 3, 1) := by decide +kernel
theorem d161 : decode y12_ 13 = .ok (.aload_n 1, 1) := by decide +kernel
theorem d162 : decode y12_ 14 = .ok (.aastore, 1) := by decide +kernel
theorem d163 : decode y12_ 15 = .ok (.aload_n 0, 1) := by decide +kernel
theorem d164 : decode y12_ 16 = .ok (.iload_n 3, 1) := by decide +kernel
theorem d165 : decode y12_ 17 = .ok (.iconst 1, 1) := by decide +kernel
theorem d166 : decode y12_ 18 = .ok (.iadd, 1) := by decide +kernel
theorem d167 : decode y12_ 19 = .ok (.putfield 48, 3) := by decide +kernel
theorem d168 : decode y12_ 22 = .ok (.return_, 1) := by decide +kernel
abbrev mn169 : MethodName := ⟨"java/util/ArrayList", "add", "(Ljava/lang/Object;[Ljava/lang/Object;I)V"⟩
theorem own_addh0 (l : Launch) (Z : State) (a0 : Array Value) (cx : Ctx Z a0) (ws : List Jvm.Cond) (x : Addr) (y : Addr) (mc : Int32) (dz : Addr) (el : Addr) (ee : Addr) (em : Addr) (mr : Addr) (kd : ClassId) (ke : ClassId) (vm0 : Vm) (h0 : Heap) (X00 : Ext Z.heap h0) (P0 : Exa Z h0 x c14_) (P1 : Fld Z h0 x c14_ c6_ c4_ (.ref dz)) (P2 : Fld Z h0 x c14_ "size" "I" (.int (0 : Int32))) (P3 : Z.heap.size ≤ x) (P4 : Exa Z h0 y c12_) (P5 : Fld Z h0 x c13_ "modCount" "I" (.int mc)) (hL : (OwnL Z dz el ee em mr kd ke)) :
    Met l mn169 y12_ 4 none ws ({ frames := 3, cells := 1, slots := 10, locals := 41 } : Room) Z ([] : List (String × Nat)) vm0 h0 #[(.ref x), (.ref y), (.ref dz), (.int (0 : Int32))] (fun rv vm h => ∃ (d : Addr), ∃ (kc : ClassId), rv = none ∧ Keep h0 h [x] ∧ Fld Z h x c14_ c6_ c4_ (.ref d) ∧ Fld Z h x c14_ "size" "I" (.int (1 : Int32)) ∧ Arv Z h d kc (.object c11_) (10 : Int32) [(.ref y), .null, .null, .null, .null, .null, .null, .null, .null, .null] .null ∧ h0.size ≤ d ∧ Z.heap.size ≤ d ∧ Exa Z h d c4_ ∧ (Ovr Z kc c11_) ∧ Fld Z h x c13_ "modCount" "I" (.int mc)) := by
  obtain ⟨hw, hEL, ⟨zc, Scs, hzc⟩, ⟨fm, Sfm, hfm⟩, hL0, hB0, hO0⟩ := id cx
  refine Met.of_walk (a0 := a0) #[vr x, vr y, vr dz, vi (0 : Int32)] (plainFor_of_name own_pn113) X00 hEL (fun m => by first | (simp [entryFrame, mkF, argsToLocals, Value.category]; done) | rfl) ?_
  intro p e s m below meth c vm hx hby hml hret hnm hC0 hW0
  have lt_x : h0.size > x := P0.lt
  have lt_y : h0.size > y := P4.lt
  obtain ⟨Sdz, Edz, Vdz, Sel, Eel, Fee, Vee, Fan, Sem, Eem, Mmr⟩ := id hL
  refine ginfo fun _ _ OL1 => ?_
  have Vdz_1 := Vdz.ext OL1
  have lt_dz : h0.size > dz := Vdz_1.lt
  refine uIN 1 hx hby d151 rfl rfl ?_
  refine uAN 2 hx hby d152 rfl rfl rfl ?_
  refine glen hx Vdz_1 3 (hb hby d153) rfl ?_
  refine uNc 6 hx hby d154 rfl (teq (by decide)).2 ?_
  refine uAN 7 hx hby d155 rfl rfl rfl ?_
  refine ginfo fun _ _ O2 => ?_
  refine gcallP (y := mn150) hx (ow hw 214 rfl) (ow hw 215 rfl) (ow hw 217 rfl) (ow hw 216 rfl) (ow hw 218 rfl) (by decide) (fun hZ H hEL => Pay.of_met (W := 0) (own_grow l Z a0 cx [] (x) (mc) (dz) (el) (ee) (em) (mr) (kd) (ke) vm h0 O2 P5 P0 P1 P2 P3 (by first | assumption | decide | omega)) (ow hw 218 rfl) (ow hw 35 rfl) (by decide) (by decide) hZ H hEL) 10 (argsL := []) (rest := []) P0 (lenOf own_pd157 rfl) rfl rfl (Nat.le_of_eq rfl) (by rw [hml]; rfl) (hb hby d156) rfl (by decide) (by decide) ?_
  rintro _ vm2 h2 C2 ⟨d2, kc2, rfl, K2, q2_0, q2_1, q2_2, q2_3, q2_4, q2_5, q2_6, q2_7⟩
  have z2 := C2.2.1
  have lt_d2 : h2.size > d2 := q2_4.lt
  refine gat1 ?_
  refine uSAN 11 #[vr x, vr y, vr d2, vi (0 : Int32)] hx hby d158 rfl rfl rfl ?_
  refine uAN 12 hx hby d159 rfl rfl rfl ?_
  refine uIN 13 hx hby d160 rfl rfl ?_
  refine uAN 14 hx hby d161 rfl rfl rfl ?_
  have f4 := (P4.keep K2)
  refine gstR hx q2_4 ⟨by decide, by decide⟩ (i := 0) rfl (Nat.le_of_ble_eq_true rfl) (Arv.sto q2_4 (by assumption) (Ins.of_exa f4 (ow hw 229 rfl))) rfl q2_3 15 (hb hby d162) rfl ?_
  intro h3 W3 C3 V3
  have z3 := C3.2.1
  replace V3 : Arv Z h3 d2 kc2 (.object c11_) (10 : Int32) [(.ref y), .null, .null, .null, .null, .null, .null, .null, .null, .null] .null := V3
  refine uAN 16 hx hby d163 rfl rfl rfl ?_
  refine uIN 17 hx hby d164 rfl rfl ?_
  refine uKc 18 (1 : Int32) hx hby d165 rfl rfl ?_
  refine uiadd 19 (1 : Int32) hx hby d166 rfl (by decide) ?_
  have f5 := (q2_1.other W3 (Or.inl (Nat.ne_of_lt (by omega))))
  have f6 := ((P0.keep K2).wr W3)
  refine gputF (host := "") hx (Or.inl (ow hw 129 rfl)) Via.refl f5 f6 (Or.inl (ow hw 101 rfl)) (ow hw 34 rfl) (ty := .int) (by decide) rfl rfl P3 (fun al => Safe.exa al f6 (by decide) (by decide)) 22 (hb hby d167) rfl ?_
  intro h7 W7 C7
  have z7 := C7.2.1
  have F7 := f5.same W7
  have f9 := ((q2_0.other W3 (Or.inl (Nat.ne_of_lt (by omega)))).other W7 (Or.inr (slot_ne (Or.inl (ow hw 56 rfl)) (Or.inl (ow hw 101 rfl)) (by decide) (t := (.array (.object c11_))) (t' := .int) (by decide) (by decide))))
  have f10 := (V3.other W7 (Nat.ne_of_gt (by omega)))
  have f11 := ((q2_5.wr W3).wr W7)
  have f12 := ((q2_7.other W3 (Or.inl (Nat.ne_of_lt (by omega)))).other W7 (Or.inr (slot_ne (Or.inl (ow hw 53 rfl)) (Or.inl (ow hw 101 rfl)) (by decide) (t := .int) (t' := .int) (by decide) (by decide))))
  exact gretV hx hret (hb hby d168) (by decide) (by decide) (fun vq Cq => ⟨d2, kc2, rfl, ((((Keep.refl h0 [x]).trans K2 (allS (Or.inl (List.mem_of_getElem? (i := 0) rfl)) all0)).wr W3 (Or.inr (by omega))).wr W7 (Or.inl (List.mem_of_getElem? (i := 0) rfl))), f9, F7, f10, (by omega), q2_3, f11, (by first | rfl | assumption | decide | omega), f12⟩)
theorem d170 : decode y13_ 0 = .ok (.aload_n 0, 1) := by decide +kernel
theorem d171 : decode y13_ 1 = .ok (.dup, 1) := by decide +kernel
theorem d172 : decode y13_ 2 = .ok (.getfield 63, 3) := by decide +kernel
theorem d173 : decode y13_ 5 = .ok (.iconst 1, 1) := by decide +kernel
theorem d174 : decode y13_ 6 = .ok (.iadd, 1) := by decide +kernel
theorem d175 : decode y13_ 7 = .ok (.putfield 63, 3) := by decide +kernel
theorem d176 : decode y13_ 10 = .ok (.aload_n 0, 1) := by decide +kernel
theorem d177 : decode y13_ 11 = .ok (.aload_n 1, 1) := by decide +kernel
theorem d178 : decode y13_ 12 = .ok (.aload_n 0, 1) := by decide +kernel
theorem d179 : decode y13_ 13 = .ok (.getfield 9, 3) := by decide +kernel
theorem d180 : decode y13_ 16 = .ok (.aload_n 0, 1) := by decide +kernel
theorem d181 : decode y13_ 17 = .ok (.getfield 48, 3) := by decide +kernel
theorem d182 : decode y13_ 20 = .ok (.invokevirtual 131, 3) := by decide +kernel
theorem own_pd183 : parseMethodDescriptor "(Ljava/lang/Object;[Ljava/lang/Object;I)V" = some ⟨[(.object "java/lang/Object"), (.array (.object "java/lang/Object")), .int], none⟩ := by decide +kernel
theorem d184 : decode y13_ 23 = .ok (.iconst 1, 1) := by decide +kernel
theorem d185 : decode y13_ 24 = .ok (.ireturn, 1) := by decide +kernel
abbrev mn186 : MethodName := ⟨"java/util/ArrayList", "add", "(Ljava/lang/Object;)Z"⟩
theorem own_add0 (l : Launch) (Z : State) (a0 : Array Value) (cx : Ctx Z a0) (ws : List Jvm.Cond) (x : Addr) (y : Addr) (mc : Int32) (dz : Addr) (el : Addr) (ee : Addr) (em : Addr) (mr : Addr) (kd : ClassId) (ke : ClassId) (vm0 : Vm) (h0 : Heap) (X00 : Ext Z.heap h0) (P0 : Exa Z h0 x c14_) (P1 : Fld Z h0 x c14_ c6_ c4_ (.ref dz)) (P2 : Fld Z h0 x c14_ "size" "I" (.int (0 : Int32))) (P3 : Z.heap.size ≤ x) (P4 : Exa Z h0 y c12_) (P5 : Fld Z h0 x c13_ "modCount" "I" (.int mc)) (hL : (OwnL Z dz el ee em mr kd ke)) :
    Met l mn186 y13_ 2 (some .boolean) ws ({ frames := 4, cells := 1, slots := 10, locals := 56 } : Room) Z ([] : List (String × Nat)) vm0 h0 #[(.ref x), (.ref y)] (fun rv vm h => ∃ (d : Addr), ∃ (kc : ClassId), rv = some (.int (1 : Int32)) ∧ Keep h0 h [x] ∧ Fld Z h x c14_ c6_ c4_ (.ref d) ∧ Fld Z h x c14_ "size" "I" (.int (1 : Int32)) ∧ Arv Z h d kc (.object c11_) (10 : Int32) [(.ref y), .null, .null, .null, .null, .null, .null, .null, .null, .null] .null ∧ h0.size ≤ d ∧ Z.heap.size ≤ d ∧ Exa Z h d c4_ ∧ (Ovr Z kc c11_) ∧ Fld Z h x c13_ "modCount" "I" (.int (mc + (1 : Int32)))) := by
  obtain ⟨hw, hEL, ⟨zc, Scs, hzc⟩, ⟨fm, Sfm, hfm⟩, hL0, hB0, hO0⟩ := id cx
  refine Met.of_walk (a0 := a0) #[vr x, vr y] (plainFor_of_name own_pn113) X00 hEL (fun m => by first | (simp [entryFrame, mkF, argsToLocals, Value.category]; done) | rfl) ?_
  intro p e s m below meth c vm hx hby hml hret hnm hC0 hW0
  have lt_x : h0.size > x := P0.lt
  have lt_y : h0.size > y := P4.lt
  obtain ⟨Sdz, Edz, Vdz, Sel, Eel, Fee, Vee, Fan, Sem, Eem, Mmr⟩ := id hL
  refine uAN 1 hx hby d170 rfl rfl rfl ?_
  refine uD 2 hx hby d171 rfl rfl ?_
  refine ggetF (host := "") hx (Or.inl (ow hw 208 rfl)) (Via.of (ow hw 86 rfl)) P5 5 (hb hby d172) rfl ?_
  refine uKc 6 (1 : Int32) hx hby d173 rfl rfl ?_
  refine uiadd 7 (mc + (1 : Int32)) hx hby d174 rfl rfl ?_
  refine gputF (host := "") hx (Or.inl (ow hw 208 rfl)) (Via.of (ow hw 86 rfl)) P5 P0 (Or.inl (ow hw 53 rfl)) (ow hw 34 rfl) (ty := .int) (by decide) rfl rfl P3 (fun al => Safe.exa al P0 (by decide) (by decide)) 10 (hb hby d175) rfl ?_
  intro h1 W1 C1
  have z1 := C1.2.1
  have F1 := P5.same W1
  refine uAN 11 hx hby d176 rfl rfl rfl ?_
  refine uAN 12 hx hby d177 rfl rfl rfl ?_
  refine uAN 13 hx hby d178 rfl rfl rfl ?_
  have f2 := (P1.other W1 (Or.inr (slot_ne (Or.inl (ow hw 56 rfl)) (Or.inl (ow hw 53 rfl)) (by decide) (t := (.array (.object c11_))) (t' := .int) (by decide) (by decide))))
  refine ggetF (host := "") hx (Or.inl (ow hw 55 rfl)) Via.refl f2 16 (hb hby d179) rfl ?_
  refine uAN 17 hx hby d180 rfl rfl rfl ?_
  have f3 := (P2.other W1 (Or.inr (slot_ne (Or.inl (ow hw 101 rfl)) (Or.inl (ow hw 53 rfl)) (by decide) (t := .int) (t' := .int) (by decide) (by decide))))
  refine ggetF (host := "") hx (Or.inl (ow hw 129 rfl)) Via.refl f3 20 (hb hby d181) rfl ?_
  have f5 := (P0.wr W1)
  have f6 := (P4.wr W1)
  refine ginfo fun _ _ O4 => ?_
  refine gcallP (y := mn169) hx (ow hw 209 rfl) (ow hw 210 rfl) (ow hw 212 rfl) (ow hw 211 rfl) (ow hw 213 rfl) (by decide) (fun hZ H hEL => Pay.of_met (W := 0) (own_addh0 l Z a0 cx [] (x) (y) ((mc + (1 : Int32))) (dz) (el) (ee) (em) (mr) (kd) (ke) vm h1 O4 f5 f2 f3 P3 f6 F1 (by first | assumption | decide | omega)) (ow hw 213 rfl) (ow hw 35 rfl) (by decide) (by decide) hZ H hEL) 23 (argsL := [(.ref y), (.ref dz), (.int (0 : Int32))]) (rest := []) f5 (lenOf own_pd183 rfl) rfl rfl (Nat.le_of_eq rfl) (by rw [hml]; rfl) (hb hby d182) rfl (by decide) (by decide) ?_
  rintro _ vm4 h4 C4 ⟨d4, kc4, rfl, K4, q4_0, q4_1, q4_2, q4_3, q4_4, q4_5, q4_6, q4_7⟩
  have z4 := C4.2.1
  have lt_d4 : h4.size > d4 := q4_2.lt
  refine gat0 ?_
  refine uKc 24 (1 : Int32) hx hby d184 rfl rfl ?_
  exact gretN (t := .boolean) hx hret (by simp) (hb hby d185) (by decide) (by decide) (fun vq Cq => ⟨d4, kc4, rfl, (((Keep.refl h0 [x]).wr W1 (Or.inl (List.mem_of_getElem? (i := 0) rfl))).trans K4 (allS (Or.inl (List.mem_of_getElem? (i := 0) rfl)) all0)), q4_0, q4_1, q4_2, (by omega), q4_4, q4_5, (by first | rfl | assumption | decide | omega), q4_7⟩)
theorem own_addh1 (l : Launch) (Z : State) (a0 : Array Value) (cx : Ctx Z a0) (ws : List Jvm.Cond) (x : Addr) (y : Addr) (d : Addr) (kc : ClassId) (s0_ : Addr) (mc : Int32) (dz : Addr) (el : Addr) (ee : Addr) (em : Addr) (mr : Addr) (kd : ClassId) (ke : ClassId) (vm0 : Vm) (h0 : Heap) (X00 : Ext Z.heap h0) (P0 : Exa Z h0 x c14_) (P1 : Fld Z h0 x c14_ c6_ c4_ (.ref d)) (P2 : Fld Z h0 x c14_ "size" "I" (.int (1 : Int32))) (P3 : Arv Z h0 d kc (.object c11_) (10 : Int32) [(.ref s0_), .null, .null, .null, .null, .null, .null, .null, .null, .null] .null) (P4 : Exa Z h0 d c4_) (hov : (Ovr Z kc c11_)) (P6 : Z.heap.size ≤ x) (P7 : Exa Z h0 y c12_) (P8 : Z.heap.size ≤ d) (P9 : Fld Z h0 x c13_ "modCount" "I" (.int mc)) (hL : (OwnL Z dz el ee em mr kd ke)) :
    Met l mn169 y12_ 4 none ws ({ frames := 0, cells := 0, slots := 0, locals := 0 } : Room) Z ([] : List (String × Nat)) vm0 h0 #[(.ref x), (.ref y), (.ref d), (.int (1 : Int32))] (fun rv vm h => rv = none ∧ Keep h0 h [x, d] ∧ Fld Z h x c14_ c6_ c4_ (.ref d) ∧ Fld Z h x c14_ "size" "I" (.int (2 : Int32)) ∧ Arv Z h d kc (.object c11_) (10 : Int32) [(.ref s0_), (.ref y), .null, .null, .null, .null, .null, .null, .null, .null] .null ∧ Fld Z h x c13_ "modCount" "I" (.int mc)) := by
  obtain ⟨hw, hEL, ⟨zc, Scs, hzc⟩, ⟨fm, Sfm, hfm⟩, hL0, hB0, hO0⟩ := id cx
  refine Met.of_walk (a0 := a0) #[vr x, vr y, vr d, vi (1 : Int32)] (plainFor_of_name own_pn113) X00 hEL (fun m => by first | (simp [entryFrame, mkF, argsToLocals, Value.category]; done) | rfl) ?_
  intro p e s m below meth c vm hx hby hml hret hnm hC0 hW0
  have lt_x : h0.size > x := P0.lt
  have lt_d : h0.size > d := P3.lt
  have lt_y : h0.size > y := P7.lt
  obtain ⟨Sdz, Edz, Vdz, Sel, Eel, Fee, Vee, Fan, Sem, Eem, Mmr⟩ := id hL
  refine uIN 1 hx hby d151 rfl rfl ?_
  refine uAN 2 hx hby d152 rfl rfl rfl ?_
  refine glen hx P3 3 (hb hby d153) rfl ?_
  refine uYc 11 hx hby d154 (feq (by decide)).2 (by decide) (by decide) ?_
  refine uAN 12 hx hby d159 rfl rfl rfl ?_
  refine uIN 13 hx hby d160 rfl rfl ?_
  refine uAN 14 hx hby d161 rfl rfl rfl ?_
  refine gstR hx P3 ⟨by decide, by decide⟩ (i := 1) rfl (Nat.le_of_ble_eq_true rfl) (Arv.sto P3 hov (Ins.of_exa P7 (ow hw 229 rfl))) rfl P8 15 (hb hby d162) rfl ?_
  intro h1 W1 C1 V1
  have z1 := C1.2.1
  replace V1 : Arv Z h1 d kc (.object c11_) (10 : Int32) [(.ref s0_), (.ref y), .null, .null, .null, .null, .null, .null, .null, .null] .null := V1
  refine uAN 16 hx hby d163 rfl rfl rfl ?_
  refine uIN 17 hx hby d164 rfl rfl ?_
  refine uKc 18 (1 : Int32) hx hby d165 rfl rfl ?_
  refine uiadd 19 (2 : Int32) hx hby d166 rfl (by decide) ?_
  have f2 := (P0.wr W1)
  have f3 := (P4.wr W1)
  have f4 := (P2.other W1 (Or.inl (ne_exa f2 f3 (by decide))))
  refine gputF (host := "") hx (Or.inl (ow hw 129 rfl)) Via.refl f4 f2 (Or.inl (ow hw 101 rfl)) (ow hw 34 rfl) (ty := .int) (by decide) rfl rfl P6 (fun al => Safe.exa al f2 (by decide) (by decide)) 22 (hb hby d167) rfl ?_
  intro h5 W5 C5
  have z5 := C5.2.1
  have F5 := f4.same W5
  have f7 := (f2.wr W5)
  have f8 := (f3.wr W5)
  have f9 := ((P1.other W1 (Or.inl (ne_exa f7 f8 (by decide)))).other W5 (Or.inr (slot_ne (Or.inl (ow hw 56 rfl)) (Or.inl (ow hw 101 rfl)) (by decide) (t := (.array (.object c11_))) (t' := .int) (by decide) (by decide))))
  have f10 := (V1.other W5 (ne_exa f8 f7 (by decide)))
  have f11 := ((P9.other W1 (Or.inl (ne_exa f7 f8 (by decide)))).other W5 (Or.inr (slot_ne (Or.inl (ow hw 53 rfl)) (Or.inl (ow hw 101 rfl)) (by decide) (t := .int) (t' := .int) (by decide) (by decide))))
  exact gretV hx hret (hb hby d168) (by decide) (by decide) (fun vq Cq => ⟨rfl, (((Keep.refl h0 [x, d]).wr W1 (Or.inl (List.mem_of_getElem? (i := 1) rfl))).wr W5 (Or.inl (List.mem_of_getElem? (i := 0) rfl))), f9, F5, f10, f11⟩)
theorem own_add1 (l : Launch) (Z : State) (a0 : Array Value) (cx : Ctx Z a0) (ws : List Jvm.Cond) (x : Addr) (y : Addr) (d : Addr) (kc : ClassId) (s0_ : Addr) (mc : Int32) (dz : Addr) (el : Addr) (ee : Addr) (em : Addr) (mr : Addr) (kd : ClassId) (ke : ClassId) (vm0 : Vm) (h0 : Heap) (X00 : Ext Z.heap h0) (P0 : Exa Z h0 x c14_) (P1 : Fld Z h0 x c14_ c6_ c4_ (.ref d)) (P2 : Fld Z h0 x c14_ "size" "I" (.int (1 : Int32))) (P3 : Arv Z h0 d kc (.object c11_) (10 : Int32) [(.ref s0_), .null, .null, .null, .null, .null, .null, .null, .null, .null] .null) (P4 : Exa Z h0 d c4_) (hov : (Ovr Z kc c11_)) (P6 : Z.heap.size ≤ x) (P7 : Exa Z h0 y c12_) (P8 : Z.heap.size ≤ d) (P9 : Fld Z h0 x c13_ "modCount" "I" (.int mc)) (hL : (OwnL Z dz el ee em mr kd ke)) :
    Met l mn186 y13_ 2 (some .boolean) ws ({ frames := 1, cells := 0, slots := 0, locals := 15 } : Room) Z ([] : List (String × Nat)) vm0 h0 #[(.ref x), (.ref y)] (fun rv vm h => rv = some (.int (1 : Int32)) ∧ Keep h0 h [x, d] ∧ Fld Z h x c14_ c6_ c4_ (.ref d) ∧ Fld Z h x c14_ "size" "I" (.int (2 : Int32)) ∧ Arv Z h d kc (.object c11_) (10 : Int32) [(.ref s0_), (.ref y), .null, .null, .null, .null, .null, .null, .null, .null] .null ∧ Fld Z h x c13_ "modCount" "I" (.int (mc + (1 : Int32)))) := by
  obtain ⟨hw, hEL, ⟨zc, Scs, hzc⟩, ⟨fm, Sfm, hfm⟩, hL0, hB0, hO0⟩ := id cx
  refine Met.of_walk (a0 := a0) #[vr x, vr y] (plainFor_of_name own_pn113) X00 hEL (fun m => by first | (simp [entryFrame, mkF, argsToLocals, Value.category]; done) | rfl) ?_
  intro p e s m below meth c vm hx hby hml hret hnm hC0 hW0
  have lt_x : h0.size > x := P0.lt
  have lt_d : h0.size > d := P3.lt
  have lt_y : h0.size > y := P7.lt
  obtain ⟨Sdz, Edz, Vdz, Sel, Eel, Fee, Vee, Fan, Sem, Eem, Mmr⟩ := id hL
  refine uAN 1 hx hby d170 rfl rfl rfl ?_
  refine uD 2 hx hby d171 rfl rfl ?_
  refine ggetF (host := "") hx (Or.inl (ow hw 208 rfl)) (Via.of (ow hw 86 rfl)) P9 5 (hb hby d172) rfl ?_
  refine uKc 6 (1 : Int32) hx hby d173 rfl rfl ?_
  refine uiadd 7 (mc + (1 : Int32)) hx hby d174 rfl rfl ?_
  refine gputF (host := "") hx (Or.inl (ow hw 208 rfl)) (Via.of (ow hw 86 rfl)) P9 P0 (Or.inl (ow hw 53 rfl)) (ow hw 34 rfl) (ty := .int) (by decide) rfl rfl P6 (fun al => Safe.exa al P0 (by decide) (by decide)) 10 (hb hby d175) rfl ?_
  intro h1 W1 C1
  have z1 := C1.2.1
  have F1 := P9.same W1
  refine uAN 11 hx hby d176 rfl rfl rfl ?_
  refine uAN 12 hx hby d177 rfl rfl rfl ?_
  refine uAN 13 hx hby d178 rfl rfl rfl ?_
  have f2 := (P1.other W1 (Or.inr (slot_ne (Or.inl (ow hw 56 rfl)) (Or.inl (ow hw 53 rfl)) (by decide) (t := (.array (.object c11_))) (t' := .int) (by decide) (by decide))))
  refine ggetF (host := "") hx (Or.inl (ow hw 55 rfl)) Via.refl f2 16 (hb hby d179) rfl ?_
  refine uAN 17 hx hby d180 rfl rfl rfl ?_
  have f3 := (P2.other W1 (Or.inr (slot_ne (Or.inl (ow hw 101 rfl)) (Or.inl (ow hw 53 rfl)) (by decide) (t := .int) (t' := .int) (by decide) (by decide))))
  refine ggetF (host := "") hx (Or.inl (ow hw 129 rfl)) Via.refl f3 20 (hb hby d181) rfl ?_
  have f5 := (P0.wr W1)
  have f6 := (P4.wr W1)
  have f7 := (P3.other W1 (ne_exa f6 f5 (by decide)))
  have f8 := (P7.wr W1)
  refine ginfo fun _ _ O4 => ?_
  refine gcallP (y := mn169) hx (ow hw 209 rfl) (ow hw 210 rfl) (ow hw 212 rfl) (ow hw 211 rfl) (ow hw 213 rfl) (by decide) (fun hZ H hEL => Pay.of_met (W := 0) (own_addh1 l Z a0 cx [] (x) (y) (d) (kc) (s0_) ((mc + (1 : Int32))) (dz) (el) (ee) (em) (mr) (kd) (ke) vm h1 O4 f5 f2 f3 f7 f6 (by first | assumption | decide | omega) P6 f8 P8 F1 (by first | assumption | decide | omega)) (ow hw 213 rfl) (ow hw 35 rfl) (by decide) (by decide) hZ H hEL) 23 (argsL := [(.ref y), (.ref d), (.int (1 : Int32))]) (rest := []) f5 (lenOf own_pd183 rfl) rfl rfl (Nat.le_of_eq rfl) (by rw [hml]; rfl) (hb hby d182) rfl (by decide) (by decide) ?_
  rintro _ vm4 h4 C4 ⟨rfl, K4, q4_0, q4_1, q4_2, q4_3⟩
  have z4 := C4.2.1
  refine gat0 ?_
  refine uKc 24 (1 : Int32) hx hby d184 rfl rfl ?_
  exact gretN (t := .boolean) hx hret (by simp) (hb hby d185) (by decide) (by decide) (fun vq Cq => ⟨rfl, (((Keep.refl h0 [x, d]).wr W1 (Or.inl (List.mem_of_getElem? (i := 0) rfl))).trans K4 (allS (Or.inl (List.mem_of_getElem? (i := 0) rfl)) (allS (Or.inl (List.mem_of_getElem? (i := 1) rfl)) all0))), q4_0, q4_1, q4_2, q4_3⟩)
theorem d187 : decode y18_ 0 = .ok (.aload_n 0, 1) := by decide +kernel
theorem d188 : decode y18_ 1 = .ok (.getfield 48, 3) := by decide +kernel
theorem d189 : decode y18_ 4 = .ok (.ifCond .ne 7, 3) := by decide +kernel
theorem d190 : decode y18_ 7 = .ok (.iconst 1, 1) := by decide +kernel
theorem d191 : decode y18_ 8 = .ok (.goto 4, 3) := by decide +kernel
theorem d192 : decode y18_ 12 = .ok (.ireturn, 1) := by decide +kernel
abbrev mn193 : MethodName := ⟨"java/util/ArrayList", "isEmpty", "()Z"⟩
theorem own_alempty0 (l : Launch) (Z : State) (a0 : Array Value) (cx : Ctx Z a0) (ws : List Jvm.Cond) (x : Addr) (vm0 : Vm) (h0 : Heap) (X00 : Ext Z.heap h0) (P0 : Fld Z h0 x c14_ "size" "I" (.int (0 : Int32))) :
    Met l mn193 y18_ 1 (some .boolean) ws ({ frames := 0, cells := 0, slots := 0, locals := 0 } : Room) Z ([] : List (String × Nat)) vm0 h0 #[(.ref x)] (fun rv vm h => rv = some (.int (1 : Int32)) ∧ h0 = h) := by
  obtain ⟨hw, hEL, ⟨zc, Scs, hzc⟩, ⟨fm, Sfm, hfm⟩, hL0, hB0, hO0⟩ := id cx
  refine Met.of_walk (a0 := a0) #[vr x] (plainFor_of_name own_pn113) X00 hEL (fun m => by first | (simp [entryFrame, mkF, argsToLocals, Value.category]; done) | rfl) ?_
  intro p e s m below meth c vm hx hby hml hret hnm hC0 hW0
  have lt_x : h0.size > x := P0.lt
  refine uAN 1 hx hby d187 rfl rfl rfl ?_
  refine ggetF (host := "") hx (Or.inl (ow hw 129 rfl)) Via.refl P0 4 (hb hby d188) rfl ?_
  refine uN 7 hx hby d189 rfl ((if0 _ _).trans (teq (by decide)).2) ?_
  refine uKc 8 (1 : Int32) hx hby d190 rfl rfl ?_
  refine uG 12 hx hby d191 (by decide) (by decide) ?_
  exact gretN (t := .boolean) hx hret (by simp) (hb hby d192) (by decide) (by decide) (fun vq Cq => ⟨rfl, rfl⟩)
theorem d194 : decode y18_ 11 = .ok (.iconst 0, 1) := by decide +kernel
theorem own_alempty1 (l : Launch) (Z : State) (a0 : Array Value) (cx : Ctx Z a0) (ws : List Jvm.Cond) (x : Addr) (vm0 : Vm) (h0 : Heap) (X00 : Ext Z.heap h0) (P0 : Fld Z h0 x c14_ "size" "I" (.int (1 : Int32))) :
    Met l mn193 y18_ 1 (some .boolean) ws ({ frames := 0, cells := 0, slots := 0, locals := 0 } : Room) Z ([] : List (String × Nat)) vm0 h0 #[(.ref x)] (fun rv vm h => rv = some (.int (0 : Int32)) ∧ h0 = h) := by
  obtain ⟨hw, hEL, ⟨zc, Scs, hzc⟩, ⟨fm, Sfm, hfm⟩, hL0, hB0, hO0⟩ := id cx
  refine Met.of_walk (a0 := a0) #[vr x] (plainFor_of_name own_pn113) X00 hEL (fun m => by first | (simp [entryFrame, mkF, argsToLocals, Value.category]; done) | rfl) ?_
  intro p e s m below meth c vm hx hby hml hret hnm hC0 hW0
  have lt_x : h0.size > x := P0.lt
  refine uAN 1 hx hby d187 rfl rfl rfl ?_
  refine ggetF (host := "") hx (Or.inl (ow hw 129 rfl)) Via.refl P0 4 (hb hby d188) rfl ?_
  refine uY 11 hx hby d189 ((if0 _ _).trans (feq (by decide)).2) (by decide) (by decide) ?_
  refine uKc 12 (0 : Int32) hx hby d194 rfl rfl ?_
  exact gretN (t := .boolean) hx hret (by simp) (hb hby d192) (by decide) (by decide) (fun vq Cq => ⟨rfl, rfl⟩)
theorem own_alempty2 (l : Launch) (Z : State) (a0 : Array Value) (cx : Ctx Z a0) (ws : List Jvm.Cond) (x : Addr) (vm0 : Vm) (h0 : Heap) (X00 : Ext Z.heap h0) (P0 : Fld Z h0 x c14_ "size" "I" (.int (2 : Int32))) :
    Met l mn193 y18_ 1 (some .boolean) ws ({ frames := 0, cells := 0, slots := 0, locals := 0 } : Room) Z ([] : List (String × Nat)) vm0 h0 #[(.ref x)] (fun rv vm h => rv = some (.int (0 : Int32)) ∧ h0 = h) := by
  obtain ⟨hw, hEL, ⟨zc, Scs, hzc⟩, ⟨fm, Sfm, hfm⟩, hL0, hB0, hO0⟩ := id cx
  refine Met.of_walk (a0 := a0) #[vr x] (plainFor_of_name own_pn113) X00 hEL (fun m => by first | (simp [entryFrame, mkF, argsToLocals, Value.category]; done) | rfl) ?_
  intro p e s m below meth c vm hx hby hml hret hnm hC0 hW0
  have lt_x : h0.size > x := P0.lt
  refine uAN 1 hx hby d187 rfl rfl rfl ?_
  refine ggetF (host := "") hx (Or.inl (ow hw 129 rfl)) Via.refl P0 4 (hb hby d188) rfl ?_
  refine uY 11 hx hby d189 ((if0 _ _).trans (feq (by decide)).2) (by decide) (by decide) ?_
  refine uKc 12 (0 : Int32) hx hby d194 rfl rfl ?_
  exact gretN (t := .boolean) hx hret (by simp) (hb hby d192) (by decide) (by decide) (fun vq Cq => ⟨rfl, rfl⟩)
theorem d195 : decode jdk_40_method_36_code 0 = .ok (.getstatic 90, 3) := by decide +kernel
theorem d196 : decode jdk_40_method_36_code 3 = .ok (.areturn, 1) := by decide +kernel
abbrev mn197 : MethodName := ⟨"java/util/List", "of", "()Ljava/util/List;"⟩
theorem own_pn198 : plainName "java/util/List" = true := by first | (simp [plainName, overriddenIn]; done) | decide +kernel
theorem own_of0 (l : Launch) (Z : State) (a0 : Array Value) (cx : Ctx Z a0) (ws : List Jvm.Cond) (dz : Addr) (el : Addr) (ee : Addr) (em : Addr) (mr : Addr) (kd : ClassId) (ke : ClassId) (vm0 : Vm) (h0 : Heap) (X00 : Ext Z.heap h0) (hL : (OwnL Z dz el ee em mr kd ke)) :
    Met l mn197 jdk_40_method_36_code 0 (some (.object c19_)) ws ({ frames := 0, cells := 0, slots := 0, locals := 0 } : Room) Z ([] : List (String × Nat)) vm0 h0 #[] (fun rv vm h => rv = some (.ref el) ∧ h0 = h) := by
  obtain ⟨hw, hEL, ⟨zc, Scs, hzc⟩, ⟨fm, Sfm, hfm⟩, hL0, hB0, hO0⟩ := id cx
  refine Met.of_walk (a0 := a0) #[] (plainFor_of_name own_pn198) X00 hEL (fun m => by first | (simp [entryFrame, mkF, argsToLocals, Value.category]; done) | rfl) ?_
  intro p e s m below meth c vm hx hby hml hret hnm hC0 hW0
  obtain ⟨Sdz, Edz, Vdz, Sel, Eel, Fee, Vee, Fan, Sem, Eem, Mmr⟩ := id hL
  refine ggetS (host := "") hx (Or.inl (ow hw 133 rfl)) Via.refl Sel 3 (hb hby d195) rfl ?_
  exact gretA hx hret rfl rfl (hb hby d196) (by decide) (by decide) (fun vq Cq => ⟨rfl, rfl⟩)
theorem d199 : decode y8_ 0 = .ok (.aload_n 0, 1) := by decide +kernel
theorem d200 : decode y8_ 1 = .ok (.ifnonnull 11, 3) := by decide +kernel
theorem d201 : decode y8_ 12 = .ok (.aload_n 0, 1) := by decide +kernel
theorem d202 : decode y8_ 13 = .ok (.areturn, 1) := by decide +kernel
abbrev mn203 : MethodName := ⟨"java/util/Objects", "requireNonNull", "(Ljava/lang/Object;)Ljava/lang/Object;"⟩
theorem own_pn204 : plainName "java/util/Objects" = true := by first | (simp [plainName, overriddenIn]; done) | decide +kernel
theorem own_rnn (l : Launch) (Z : State) (a0 : Array Value) (cx : Ctx Z a0) (ws : List Jvm.Cond) (x : Addr) (vm0 : Vm) (h0 : Heap) (X00 : Ext Z.heap h0)  :
    Met l mn203 y8_ 1 (some (.object c11_)) ws ({ frames := 0, cells := 0, slots := 0, locals := 0 } : Room) Z ([] : List (String × Nat)) vm0 h0 #[(.ref x)] (fun rv vm h => rv = some (.ref x) ∧ h0 = h) := by
  obtain ⟨hw, hEL, ⟨zc, Scs, hzc⟩, ⟨fm, Sfm, hfm⟩, hL0, hB0, hO0⟩ := id cx
  refine Met.of_walk (a0 := a0) #[vr x] (plainFor_of_name own_pn204) X00 hEL (fun m => by first | (simp [entryFrame, mkF, argsToLocals, Value.category]; done) | rfl) ?_
  intro p e s m below meth c vm hx hby hml hret hnm hC0 hW0
  refine uAN 1 hx hby d199 rfl rfl rfl ?_
  refine uY1 12 hx hby d200 (by decide) (by decide) ?_
  refine uAN 13 hx hby d201 rfl rfl rfl ?_
  exact gretA hx hret rfl rfl (hb hby d202) (by decide) (by decide) (fun vq Cq => ⟨rfl, rfl⟩)
theorem d205 : decode y42_ 0 = .ok (.aload_n 0, 1) := by decide +kernel
theorem d206 : decode y42_ 1 = .ok (.invokespecial 1, 3) := by decide +kernel
theorem d207 : decode y42_ 4 = .ok (.return_, 1) := by decide +kernel
abbrev mn208 : MethodName := ⟨"java/util/ImmutableCollections$AbstractImmutableCollection", "<init>", "()V"⟩
theorem own_pn209 : plainName "java/util/ImmutableCollections$AbstractImmutableCollection" = true := by first | (simp [plainName, overriddenIn]; done) | decide +kernel
theorem own_aicinit (l : Launch) (Z : State) (a0 : Array Value) (cx : Ctx Z a0) (ws : List Jvm.Cond) (x : Addr) (vm0 : Vm) (h0 : Heap) (X00 : Ext Z.heap h0)  :
    Met l mn208 y42_ 1 none ws ({ frames := 2, cells := 0, slots := 0, locals := 24 } : Room) Z ([] : List (String × Nat)) vm0 h0 #[(.ref x)] (fun rv vm h => rv = none ∧ h0 = h) := by
  obtain ⟨hw, hEL, ⟨zc, Scs, hzc⟩, ⟨fm, Sfm, hfm⟩, hL0, hB0, hO0⟩ := id cx
  refine Met.of_walk (a0 := a0) #[vr x] (plainFor_of_name own_pn209) X00 hEL (fun m => by first | (simp [entryFrame, mkF, argsToLocals, Value.category]; done) | rfl) ?_
  intro p e s m below meth c vm hx hby hml hret hnm hC0 hW0
  refine uAN 1 hx hby d205 rfl rfl rfl ?_
  refine ginfo fun _ _ O1 => ?_
  refine gcallI (y := mn95) hx rfl (ow hw 339 rfl) (ow hw 46 rfl) (ow hw 50 rfl) (by decide) (fun hZ H hEL => Pay.of_met (W := 0) (own_abcinit l Z a0 cx [] (x) vm h0 O1 ) (ow hw 50 rfl) (ow hw 49 rfl) (by decide) (by decide) hZ H hEL) (a := x) 4 (argsL := []) (rest := []) (lenOf own_pd99 rfl) rfl rfl (Nat.le_of_eq rfl) (by rw [hml]; rfl) (hb hby d206) rfl (by decide) (by decide) ?_
  rintro _ vm1 h1 C1 ⟨rfl, rfl⟩
  have z1 := C1.2.1
  refine gat0 ?_
  exact gretV hx hret (hb hby d207) (by decide) (by decide) (fun vq Cq => ⟨rfl, rfl⟩)
theorem d210 : decode y41_ 0 = .ok (.aload_n 0, 1) := by decide +kernel
theorem d211 : decode y41_ 1 = .ok (.invokespecial 1, 3) := by decide +kernel
theorem d212 : decode y41_ 4 = .ok (.return_, 1) := by decide +kernel
abbrev mn213 : MethodName := ⟨"java/util/ImmutableCollections$AbstractImmutableList", "<init>", "()V"⟩
theorem own_pn214 : plainName "java/util/ImmutableCollections$AbstractImmutableList" = true := by first | (simp [plainName, overriddenIn]; done) | decide +kernel
theorem own_ailinit (l : Launch) (Z : State) (a0 : Array Value) (cx : Ctx Z a0) (ws : List Jvm.Cond) (x : Addr) (vm0 : Vm) (h0 : Heap) (X00 : Ext Z.heap h0)  :
    Met l mn213 y41_ 1 none ws ({ frames := 3, cells := 0, slots := 0, locals := 36 } : Room) Z ([] : List (String × Nat)) vm0 h0 #[(.ref x)] (fun rv vm h => rv = none ∧ h0 = h) := by
  obtain ⟨hw, hEL, ⟨zc, Scs, hzc⟩, ⟨fm, Sfm, hfm⟩, hL0, hB0, hO0⟩ := id cx
  refine Met.of_walk (a0 := a0) #[vr x] (plainFor_of_name own_pn214) X00 hEL (fun m => by first | (simp [entryFrame, mkF, argsToLocals, Value.category]; done) | rfl) ?_
  intro p e s m below meth c vm hx hby hml hret hnm hC0 hW0
  refine uAN 1 hx hby d210 rfl rfl rfl ?_
  refine ginfo fun _ _ O1 => ?_
  refine gcallI (y := mn208) hx rfl (ow hw 333 rfl) (ow hw 334 rfl) (ow hw 338 rfl) (by decide) (fun hZ H hEL => Pay.of_met (W := 0) (own_aicinit l Z a0 cx [] (x) vm h0 O1 ) (ow hw 338 rfl) (ow hw 337 rfl) (by decide) (by decide) hZ H hEL) (a := x) 4 (argsL := []) (rest := []) (lenOf own_pd99 rfl) rfl rfl (Nat.le_of_eq rfl) (by rw [hml]; rfl) (hb hby d211) rfl (by decide) (by decide) ?_
  rintro _ vm1 h1 C1 ⟨rfl, rfl⟩
  have z1 := C1.2.1
  refine gat0 ?_
  exact gretV hx hret (hb hby d212) (by decide) (by decide) (fun vq Cq => ⟨rfl, rfl⟩)
theorem d215 : decode y35_ 0 = .ok (.aload_n 0, 1) := by decide +kernel
theorem d216 : decode y35_ 1 = .ok (.invokespecial 1, 3) := by decide +kernel
theorem d217 : decode y35_ 4 = .ok (.aload_n 0, 1) := by decide +kernel
theorem d218 : decode y35_ 5 = .ok (.aload_n 1, 1) := by decide +kernel
theorem d219 : decode y35_ 6 = .ok (.invokestatic 7, 3) := by decide +kernel
theorem own_pd220 : parseMethodDescriptor "(Ljava/lang/Object;)Ljava/lang/Object;" = some ⟨[(.object "java/lang/Object")], some (.object "java/lang/Object")⟩ := by decide +kernel
theorem d221 : decode y35_ 9 = .ok (.putfield 13, 3) := by decide +kernel
theorem d222 : decode y35_ 12 = .ok (.aload_n 0, 1) := by decide +kernel
theorem d223 : decode y35_ 13 = .ok (.getstatic 19, 3) := by decide +kernel
theorem d224 : decode y35_ 16 = .ok (.putfield 24, 3) := by decide +kernel
theorem d225 : decode y35_ 19 = .ok (.return_, 1) := by decide +kernel
abbrev mn226 : MethodName := ⟨"java/util/ImmutableCollections$List12", "<init>", "(Ljava/lang/Object;)V"⟩
theorem own_pn227 : plainName "java/util/ImmutableCollections$List12" = true := by first | (simp [plainName, overriddenIn]; done) | decide +kernel
theorem own_l12a (l : Launch) (Z : State) (a0 : Array Value) (cx : Ctx Z a0) (ws : List Jvm.Cond) (x : Addr) (a : Addr) (u0 : Value) (u1 : Value) (dz : Addr) (el : Addr) (ee : Addr) (em : Addr) (mr : Addr) (kd : ClassId) (ke : ClassId) (vm0 : Vm) (h0 : Heap) (X00 : Ext Z.heap h0) (P0 : Exa Z h0 x c17_) (P1 : Fld Z h0 x c17_ "e0" c0_ u0) (P2 : Fld Z h0 x c17_ "e1" c0_ u1) (P3 : Z.heap.size ≤ x) (hL : (OwnL Z dz el ee em mr kd ke)) :
    Met l mn226 y35_ 2 none ws ({ frames := 4, cells := 0, slots := 0, locals := 48 } : Room) Z ([] : List (String × Nat)) vm0 h0 #[(.ref x), (.ref a)] (fun rv vm h => rv = none ∧ Keep h0 h [x] ∧ Fld Z h x c17_ "e0" c0_ (.ref a) ∧ Fld Z h x c17_ "e1" c0_ (.ref em)) := by
  obtain ⟨hw, hEL, ⟨zc, Scs, hzc⟩, ⟨fm, Sfm, hfm⟩, hL0, hB0, hO0⟩ := id cx
  refine Met.of_walk (a0 := a0) #[vr x, vr a] (plainFor_of_name own_pn227) X00 hEL (fun m => by first | (simp [entryFrame, mkF, argsToLocals, Value.category]; done) | rfl) ?_
  intro p e s m below meth c vm hx hby hml hret hnm hC0 hW0
  have lt_x : h0.size > x := P0.lt
  obtain ⟨Sdz, Edz, Vdz, Sel, Eel, Fee, Vee, Fan, Sem, Eem, Mmr⟩ := id hL
  refine uAN 1 hx hby d215 rfl rfl rfl ?_
  refine ginfo fun _ _ O1 => ?_
  refine gcallI (y := mn213) hx rfl (ow hw 328 rfl) (ow hw 329 rfl) (ow hw 332 rfl) (by decide) (fun hZ H hEL => Pay.of_met (W := 0) (own_ailinit l Z a0 cx [] (x) vm h0 O1 ) (ow hw 332 rfl) (ow hw 171 rfl) (by decide) (by decide) hZ H hEL) (a := x) 4 (argsL := []) (rest := []) (lenOf own_pd99 rfl) rfl rfl (Nat.le_of_eq rfl) (by rw [hml]; rfl) (hb hby d216) rfl (by decide) (by decide) ?_
  rintro _ vm1 h1 C1 ⟨rfl, rfl⟩
  have z1 := C1.2.1
  refine gat0 ?_
  refine uAN 5 hx hby d217 rfl rfl rfl ?_
  refine uAN 6 hx hby d218 rfl rfl rfl ?_
  refine ginfo fun _ _ O2 => ?_
  refine gcallS (y := mn203) hx (ow hw 341 rfl) (ow hw 342 rfl) (ow hw 152 rfl) (ow hw 343 rfl) (by decide) (fun hZ H hEL => Pay.of_met (W := 1) (own_rnn l Z a0 cx [] (a) vm1 h0 O2 ) (ow hw 343 rfl) (ow hw 152 rfl) (by decide) (by decide) hZ H hEL) 9 (argsL := [(.ref a)]) (rest := [(.ref x)]) (lenOf own_pd220 rfl) rfl rfl (Nat.le_of_eq rfl) (by rw [hml]; rfl) (hb hby d219) rfl (by decide) (by decide) ?_
  rintro _ vm2 h2 C2 ⟨rfl, rfl⟩
  have z2 := C2.2.1
  refine gat1 ?_
  refine gputF (host := "") hx (Or.inl (ow hw 344 rfl)) Via.refl P1 P0 (Or.inr ⟨(ow hw 345 rfl), rfl, hnm⟩) (ow hw 322 rfl) (ty := (.object c11_)) (by decide) rfl rfl P3 (fun al => Safe.exa al P0 (by decide) (by decide)) 12 (hb hby d221) rfl ?_
  intro h3 W3 C3
  have z3 := C3.2.1
  have F3 := P1.same W3
  refine uAN 13 hx hby d222 rfl rfl rfl ?_
  refine ggetS (host := c16_) hx (Or.inr (ow hw 346 rfl)) Via.refl Sem 16 (hb hby d223) rfl ?_
  have f4 := (P2.other W3 (Or.inr (slot_ne (Or.inr (ow hw 348 rfl)) (Or.inr (ow hw 345 rfl)) (by decide) (t := (.object c11_)) (t' := (.object c11_)) (by decide) (by decide))))
  have f5 := (P0.wr W3)
  refine gputF (host := "") hx (Or.inl (ow hw 347 rfl)) Via.refl f4 f5 (Or.inr ⟨(ow hw 348 rfl), rfl, hnm⟩) (ow hw 322 rfl) (ty := (.object c11_)) (by decide) rfl rfl P3 (fun al => Safe.exa al f5 (by decide) (by decide)) 19 (hb hby d224) rfl ?_
  intro h6 W6 C6
  have z6 := C6.2.1
  have F6 := f4.same W6
  have f8 := (F3.other W6 (Or.inr (slot_ne (Or.inr (ow hw 345 rfl)) (Or.inr (ow hw 348 rfl)) (by decide) (t := (.object c11_)) (t' := (.object c11_)) (by decide) (by decide))))
  exact gretV hx hret (hb hby d225) (by decide) (by decide) (fun vq Cq => ⟨rfl, (((Keep.refl h0 [x]).wr W3 (Or.inl (List.mem_of_getElem? (i := 0) rfl))).wr W6 (Or.inl (List.mem_of_getElem? (i := 0) rfl))), f8, F6⟩)
theorem d228 : decode y36_ 0 = .ok (.aload_n 0, 1) := by decide +kernel
theorem d229 : decode y36_ 1 = .ok (.invokespecial 1, 3) := by decide +kernel
theorem d230 : decode y36_ 4 = .ok (.aload_n 0, 1) := by decide +kernel
theorem d231 : decode y36_ 5 = .ok (.aload_n 1, 1) := by decide +kernel
theorem d232 : decode y36_ 6 = .ok (.invokestatic 7, 3) := by decide +kernel
theorem d233 : decode y36_ 9 = .ok (.putfield 13, 3) := by decide +kernel
theorem d234 : decode y36_ 12 = .ok (.aload_n 0, 1) := by decide +kernel
theorem d235 : decode y36_ 13 = .ok (.aload_n 2, 1) := by decide +kernel
theorem d236 : decode y36_ 14 = .ok (.invokestatic 7, 3) := by decide +kernel
theorem d237 : decode y36_ 17 = .ok (.putfield 24, 3) := by decide +kernel
theorem d238 : decode y36_ 20 = .ok (.return_, 1) := by decide +kernel
abbrev mn239 : MethodName := ⟨"java/util/ImmutableCollections$List12", "<init>", "(Ljava/lang/Object;Ljava/lang/Object;)V"⟩
theorem own_l12b (l : Launch) (Z : State) (a0 : Array Value) (cx : Ctx Z a0) (ws : List Jvm.Cond) (x : Addr) (a : Addr) (b : Addr) (u0 : Value) (u1 : Value) (vm0 : Vm) (h0 : Heap) (X00 : Ext Z.heap h0) (P0 : Exa Z h0 x c17_) (P1 : Fld Z h0 x c17_ "e0" c0_ u0) (P2 : Fld Z h0 x c17_ "e1" c0_ u1) (P3 : Z.heap.size ≤ x) :
    Met l mn239 y36_ 3 none ws ({ frames := 4, cells := 0, slots := 0, locals := 48 } : Room) Z ([] : List (String × Nat)) vm0 h0 #[(.ref x), (.ref a), (.ref b)] (fun rv vm h => rv = none ∧ Keep h0 h [x] ∧ Fld Z h x c17_ "e0" c0_ (.ref a) ∧ Fld Z h x c17_ "e1" c0_ (.ref b)) := by
  obtain ⟨hw, hEL, ⟨zc, Scs, hzc⟩, ⟨fm, Sfm, hfm⟩, hL0, hB0, hO0⟩ := id cx
  refine Met.of_walk (a0 := a0) #[vr x, vr a, vr b] (plainFor_of_name own_pn227) X00 hEL (fun m => by first | (simp [entryFrame, mkF, argsToLocals, Value.category]; done) | rfl) ?_
  intro p e s m below meth c vm hx hby hml hret hnm hC0 hW0
  have lt_x : h0.size > x := P0.lt
  refine uAN 1 hx hby d228 rfl rfl rfl ?_
  refine ginfo fun _ _ O1 => ?_
  refine gcallI (y := mn213) hx rfl (ow hw 328 rfl) (ow hw 329 rfl) (ow hw 332 rfl) (by decide) (fun hZ H hEL => Pay.of_met (W := 0) (own_ailinit l Z a0 cx [] (x) vm h0 O1 ) (ow hw 332 rfl) (ow hw 171 rfl) (by decide) (by decide) hZ H hEL) (a := x) 4 (argsL := []) (rest := []) (lenOf own_pd99 rfl) rfl rfl (Nat.le_of_eq rfl) (by rw [hml]; rfl) (hb hby d229) rfl (by decide) (by decide) ?_
  rintro _ vm1 h1 C1 ⟨rfl, rfl⟩
  have z1 := C1.2.1
  refine gat0 ?_
  refine uAN 5 hx hby d230 rfl rfl rfl ?_
  refine uAN 6 hx hby d231 rfl rfl rfl ?_
  refine ginfo fun _ _ O2 => ?_
  refine gcallS (y := mn203) hx (ow hw 341 rfl) (ow hw 342 rfl) (ow hw 152 rfl) (ow hw 343 rfl) (by decide) (fun hZ H hEL => Pay.of_met (W := 1) (own_rnn l Z a0 cx [] (a) vm1 h0 O2 ) (ow hw 343 rfl) (ow hw 152 rfl) (by decide) (by decide) hZ H hEL) 9 (argsL := [(.ref a)]) (rest := [(.ref x)]) (lenOf own_pd220 rfl) rfl rfl (Nat.le_of_eq rfl) (by rw [hml]; rfl) (hb hby d232) rfl (by decide) (by decide) ?_
  rintro _ vm2 h2 C2 ⟨rfl, rfl⟩
  have z2 := C2.2.1
  refine gat1 ?_
  refine gputF (host := "") hx (Or.inl (ow hw 344 rfl)) Via.refl P1 P0 (Or.inr ⟨(ow hw 345 rfl), rfl, hnm⟩) (ow hw 322 rfl) (ty := (.object c11_)) (by decide) rfl rfl P3 (fun al => Safe.exa al P0 (by decide) (by decide)) 12 (hb hby d233) rfl ?_
  intro h3 W3 C3
  have z3 := C3.2.1
  have F3 := P1.same W3
  refine uAN 13 hx hby d234 rfl rfl rfl ?_
  refine uAN 14 hx hby d235 rfl rfl rfl ?_
  refine ginfo fun _ _ O4 => ?_
  refine gcallS (y := mn203) hx (ow hw 341 rfl) (ow hw 342 rfl) (ow hw 152 rfl) (ow hw 343 rfl) (by decide) (fun hZ H hEL => Pay.of_met (W := 1) (own_rnn l Z a0 cx [] (b) vm2 h3 O4 ) (ow hw 343 rfl) (ow hw 152 rfl) (by decide) (by decide) hZ H hEL) 17 (argsL := [(.ref b)]) (rest := [(.ref x)]) (lenOf own_pd220 rfl) rfl rfl (Nat.le_of_eq rfl) (by rw [hml]; rfl) (hb hby d236) rfl (by decide) (by decide) ?_
  rintro _ vm4 h4 C4 ⟨rfl, rfl⟩
  have z4 := C4.2.1
  refine gat1 ?_
  have f5 := (P2.other W3 (Or.inr (slot_ne (Or.inr (ow hw 348 rfl)) (Or.inr (ow hw 345 rfl)) (by decide) (t := (.object c11_)) (t' := (.object c11_)) (by decide) (by decide))))
  have f6 := (P0.wr W3)
  refine gputF (host := "") hx (Or.inl (ow hw 347 rfl)) Via.refl f5 f6 (Or.inr ⟨(ow hw 348 rfl), rfl, hnm⟩) (ow hw 322 rfl) (ty := (.object c11_)) (by decide) rfl rfl P3 (fun al => Safe.exa al f6 (by decide) (by decide)) 20 (hb hby d237) rfl ?_
  intro h7 W7 C7
  have z7 := C7.2.1
  have F7 := f5.same W7
  have f9 := (F3.other W7 (Or.inr (slot_ne (Or.inr (ow hw 345 rfl)) (Or.inr (ow hw 348 rfl)) (by decide) (t := (.object c11_)) (t' := (.object c11_)) (by decide) (by decide))))
  exact gretV hx hret (hb hby d238) (by decide) (by decide) (fun vq Cq => ⟨rfl, (((Keep.refl h0 [x]).wr W3 (Or.inl (List.mem_of_getElem? (i := 0) rfl))).wr W7 (Or.inl (List.mem_of_getElem? (i := 0) rfl))), f9, F7⟩)
theorem d240 : decode y7_ 0 = .ok (.iload_n 0, 1) := by decide +kernel
theorem d241 : decode y7_ 1 = .ok (.iload_n 1, 1) := by decide +kernel
theorem d242 : decode y7_ 2 = .ok (.if_icmp .gt 7, 3) := by decide +kernel
theorem d243 : decode y7_ 9 = .ok (.iload_n 1, 1) := by decide +kernel
theorem d244 : decode y7_ 10 = .ok (.ireturn, 1) := by decide +kernel
abbrev mn245 : MethodName := ⟨"java/lang/Math", "min", "(II)I"⟩
theorem own_pn246 : plainFor mn245 = true := by first | decide +kernel | (simp [plainFor, plainName, overriddenIn]; done)
theorem own_min10_1 (l : Launch) (Z : State) (a0 : Array Value) (cx : Ctx Z a0) (ws : List Jvm.Cond)  (vm0 : Vm) (h0 : Heap) (X00 : Ext Z.heap h0)  :
    Met l mn245 y7_ 2 (some .int) ws ({ frames := 0, cells := 0, slots := 0, locals := 0 } : Room) Z ([] : List (String × Nat)) vm0 h0 #[(.int (10 : Int32)), (.int (1 : Int32))] (fun rv vm h => rv = some (.int (1 : Int32)) ∧ h0 = h) := by
  obtain ⟨hw, hEL, ⟨zc, Scs, hzc⟩, ⟨fm, Sfm, hfm⟩, hL0, hB0, hO0⟩ := id cx
  refine Met.of_walk (a0 := a0) #[vi (10 : Int32), vi (1 : Int32)] own_pn246 X00 hEL (fun m => by first | (simp [entryFrame, mkF, argsToLocals, Value.category]; done) | rfl) ?_
  intro p e s m below meth c vm hx hby hml hret hnm hC0 hW0
  refine uIN 1 hx hby d240 rfl rfl ?_
  refine uIN 2 hx hby d241 rfl rfl ?_
  refine uYc 9 hx hby d242 (tlt (by decide)).2.2.1 (by decide) (by decide) ?_
  refine uIN 10 hx hby d243 rfl rfl ?_
  exact gretI hx hret (hb hby d244) (by decide) (by decide) (fun vq Cq => ⟨rfl, rfl⟩)
theorem d247 : decode y54_ 0 = .ok (.aload_n 2, 1) := by decide +kernel
theorem d248 : decode y54_ 1 = .ok (.ldc 110, 2) := by decide +kernel
theorem d249 : decode y54_ 3 = .ok (.if_acmp .ne 10, 3) := by decide +kernel
theorem d250 : decode y54_ 6 = .ok (.iload_n 1, 1) := by decide +kernel
theorem d251 : decode y54_ 7 = .ok (.anewarray 2, 3) := by decide +kernel
theorem d252 : decode y54_ 10 = .ok (.goto 14, 3) := by decide +kernel
theorem d253 : decode y54_ 24 = .ok (.astore_n 3, 1) := by decide +kernel
theorem d254 : decode y54_ 25 = .ok (.aload_n 0, 1) := by decide +kernel
theorem d255 : decode y54_ 26 = .ok (.iconst 0, 1) := by decide +kernel
theorem d256 : decode y54_ 27 = .ok (.aload_n 3, 1) := by decide +kernel
theorem d257 : decode y54_ 28 = .ok (.iconst 0, 1) := by decide +kernel
theorem d258 : decode y54_ 29 = .ok (.aload_n 0, 1) := by decide +kernel
theorem d259 : decode y54_ 30 = .ok (.arraylength, 1) := by decide +kernel
theorem d260 : decode y54_ 31 = .ok (.iload_n 1, 1) := by decide +kernel
theorem d261 : decode y54_ 32 = .ok (.invokestatic 304, 3) := by decide +kernel
theorem d262 : decode y54_ 35 = .ok (.invokestatic 150, 3) := by decide +kernel
theorem d263 : decode y54_ 38 = .ok (.aload_n 3, 1) := by decide +kernel
theorem d264 : decode y54_ 39 = .ok (.areturn, 1) := by decide +kernel
abbrev mn265 : MethodName := ⟨"java/util/Arrays", "copyOf", "([Ljava/lang/Object;ILjava/lang/Class;)[Ljava/lang/Object;"⟩
theorem own_pn266 : plainName "java/util/Arrays" = true := by first | (simp [plainName, overriddenIn]; done) | decide +kernel
theorem own_cp3_1 (l : Launch) (Z : State) (a0 : Array Value) (cx : Ctx Z a0) (ws : List Jvm.Cond) (d : Addr) (kc : ClassId) (s0_ : Addr) (dz : Addr) (el : Addr) (ee : Addr) (em : Addr) (mr : Addr) (kd : ClassId) (ke : ClassId) (vm0 : Vm) (h0 : Heap) (X00 : Ext Z.heap h0) (P0 : Arv Z h0 d kc (.object c11_) (10 : Int32) [(.ref s0_), .null, .null, .null, .null, .null, .null, .null, .null, .null] .null) (P1 : Exa Z h0 s0_ c12_) (hL : (OwnL Z dz el ee em mr kd ke)) :
    Met l mn265 y54_ 4 (some (.array (.object c11_))) ws ({ frames := 1, cells := 1, slots := 1, locals := 18 } : Room) Z ([] : List (String × Nat)) vm0 h0 #[(.ref d), (.int (1 : Int32)), (.ref mr)] (fun rv vm h => ∃ (r : Addr), ∃ (kr : ClassId), rv = some (.ref r) ∧ Keep h0 h [] ∧ h0.size ≤ r ∧ Arv Z h r kr (.object c11_) (1 : Int32) [(.ref s0_)] .null) := by
  obtain ⟨hw, hEL, ⟨zc, Scs, hzc⟩, ⟨fm, Sfm, hfm⟩, hL0, hB0, hO0⟩ := id cx
  refine Met.of_walk (a0 := a0) #[vr d, vi (1 : Int32), vr mr, un] (plainFor_of_name own_pn266) X00 hEL (fun m => by first | (simp [entryFrame, mkF, argsToLocals, Value.category]; done) | rfl) ?_
  intro p e s m below meth c vm hx hby hml hret hnm hC0 hW0
  have lt_d : h0.size > d := P0.lt
  have lt_s0_ : h0.size > s0_ := P1.lt
  obtain ⟨Sdz, Edz, Vdz, Sel, Eel, Fee, Vee, Fan, Sem, Eem, Mmr⟩ := id hL
  refine uAN 1 hx hby d247 rfl rfl rfl ?_
  refine gldcM hx (ow hw 309 rfl) Mmr 3 (hb hby d248) rfl ?_
  refine gx (mkF m 6 #[vr d, vi (1 : Int32), vr mr, un] []) (fun T locs X _ _ _ _ kq => Jvm.RoadKit.acmp (g := (mkF m 3 #[vr d, vi (1 : Int32), vr mr, un] [(.ref mr), (.ref mr)])) X hx rfl rfl rfl (pc0 := 3) (pc' := 6) (same := true) rfl (hb hby d249) rfl (decide_eq_true rfl) (by decide) (by decide) kq) ?_
  refine uIN 7 hx hby d250 rfl rfl ?_
  refine gnewR hx (ow hw 310 rfl) (ow hw 142 rfl) (n := (1 : Int32)) (by decide) (cap := 1) (by decide) (by decide) (ad := c4_) (by decide) 10 (hb hby d251) rfl (by decide) (by decide) ?_
  intro b2 h2 k2 g2 E2 C2 V2 A2 O2 n2 L2
  have z2 := C2.2.1
  have V2 : Arv Z h2 b2 k2 (.object c11_) (1 : Int32) [.null] .null := V2.pad (pad_rep [] .null 1)
  have lt_b2 : h2.size > b2 := V2.lt
  refine uG 24 hx hby d252 (by decide) (by decide) ?_
  refine uSAN 25 #[vr d, vi (1 : Int32), vr mr, vr b2] hx hby d253 rfl rfl rfl ?_
  refine uAN 26 hx hby d254 rfl rfl rfl ?_
  refine uKc 27 (0 : Int32) hx hby d255 rfl rfl ?_
  refine uAN 28 hx hby d256 rfl rfl rfl ?_
  refine uKc 29 (0 : Int32) hx hby d257 rfl rfl ?_
  refine uAN 30 hx hby d258 rfl rfl rfl ?_
  have f3 := (P0.ext E2)
  refine glen hx f3 31 (hb hby d259) rfl ?_
  refine uIN 32 hx hby d260 rfl rfl ?_
  refine ginfo fun _ _ O4 => ?_
  refine gcallS (y := mn245) hx (ow hw 311 rfl) (ow hw 312 rfl) (ow hw 226 rfl) (ow hw 313 rfl) (by decide) (fun hZ H hEL => Pay.of_met (W := 4) (own_min10_1 l Z a0 cx []  vm h2 O4 ) (ow hw 313 rfl) (ow hw 226 rfl) (by decide) (by decide) hZ H hEL) 35 (argsL := [(.int (10 : Int32)), (.int (1 : Int32))]) (rest := [(.int (0 : Int32)), (.ref b2), (.int (0 : Int32)), (.ref d)]) (lenOf own_pd136 rfl) rfl rfl (Nat.le_of_eq rfl) (by rw [hml]; rfl) (hb hby d261) rfl (by decide) (by decide) ?_
  rintro _ vm4 h4 C4 ⟨rfl, rfl⟩
  have z4 := C4.2.1
  refine gat1 ?_
  have f6 := (P1.ext E2)
  have f7 := (C4.safe (show h2.size > b2 by omega) L2)
  refine gcopyR hx (ow hw 314 rfl) (ow hw 317 rfl) (ow hw 315 rfl) (ow hw 316 rfl) (0) (0) (1) (10) (1) f3 V2 rfl rfl rfl rfl rfl (by decide) (by decide) (by decide) (by decide) rfl rfl (show StoL _ _ _ [(.ref s0_)] from ⟨Arv.sto V2 O2 (Ins.of_exa f6 (ow hw 229 rfl)), trivial⟩) n2 (fun _ => f7) 38 (W := 0) (Nat.le_of_eq rfl) (by rw [hml]; rfl) (hb hby d262) rfl (by decide) (by decide) ?_
  intro h5 K5 C5 V5
  have z5 := C5.2.1
  replace V5 : Arv Z h5 b2 k2 (.object c11_) (1 : Int32) [(.ref s0_)] .null := V5
  refine uAN 39 hx hby d263 rfl rfl rfl ?_
  exact gretA hx hret rfl rfl (hb hby d264) (by decide) (by decide) (fun vq Cq => ⟨b2, k2, rfl, (((Keep.refl h0 []).ext E2).trans K5 (allS (Or.inr (by omega)) all0)), (by omega), V5⟩)
theorem d267 : decode y53_ 0 = .ok (.aload_n 0, 1) := by decide +kernel
theorem d268 : decode y53_ 1 = .ok (.iload_n 1, 1) := by decide +kernel
theorem d269 : decode y53_ 2 = .ok (.aload_n 0, 1) := by decide +kernel
theorem d270 : decode y53_ 3 = .ok (.invokevirtual 86, 3) := by decide +kernel
theorem d271 : decode y53_ 6 = .ok (.invokestatic 300, 3) := by decide +kernel
theorem own_pd272 : parseMethodDescriptor "([Ljava/lang/Object;ILjava/lang/Class;)[Ljava/lang/Object;" = some ⟨[(.array (.object "java/lang/Object")), .int, (.object "java/lang/Class")], some (.array (.object "java/lang/Object"))⟩ := by decide +kernel
theorem d273 : decode y53_ 9 = .ok (.areturn, 1) := by decide +kernel
abbrev mn274 : MethodName := ⟨"java/util/Arrays", "copyOf", "([Ljava/lang/Object;I)[Ljava/lang/Object;"⟩
theorem own_cp2_1 (l : Launch) (Z : State) (a0 : Array Value) (cx : Ctx Z a0) (ws : List Jvm.Cond) (d : Addr) (kc : ClassId) (s0_ : Addr) (dz : Addr) (el : Addr) (ee : Addr) (em : Addr) (mr : Addr) (kd : ClassId) (ke : ClassId) (vm0 : Vm) (h0 : Heap) (X00 : Ext Z.heap h0) (P0 : Arv Z h0 d kc (.object c11_) (10 : Int32) [(.ref s0_), .null, .null, .null, .null, .null, .null, .null, .null, .null] .null) (P1 : Exa Z h0 d c4_) (P2 : Exa Z h0 s0_ c12_) (hL : (OwnL Z dz el ee em mr kd ke)) :
    Met l mn274 y53_ 2 (some (.array (.object c11_))) ws ({ frames := 2, cells := 1, slots := 1, locals := 33 } : Room) Z ([] : List (String × Nat)) vm0 h0 #[(.ref d), (.int (1 : Int32))] (fun rv vm h => ∃ (r : Addr), ∃ (kr : ClassId), rv = some (.ref r) ∧ Keep h0 h [] ∧ h0.size ≤ r ∧ Arv Z h r kr (.object c11_) (1 : Int32) [(.ref s0_)] .null) := by
  obtain ⟨hw, hEL, ⟨zc, Scs, hzc⟩, ⟨fm, Sfm, hfm⟩, hL0, hB0, hO0⟩ := id cx
  refine Met.of_walk (a0 := a0) #[vr d, vi (1 : Int32)] (plainFor_of_name own_pn266) X00 hEL (fun m => by first | (simp [entryFrame, mkF, argsToLocals, Value.category]; done) | rfl) ?_
  intro p e s m below meth c vm hx hby hml hret hnm hC0 hW0
  have lt_d : h0.size > d := P0.lt
  have lt_s0_ : h0.size > s0_ := P2.lt
  obtain ⟨Sdz, Edz, Vdz, Sel, Eel, Fee, Vee, Fan, Sem, Eem, Mmr⟩ := id hL
  refine uAN 1 hx hby d267 rfl rfl rfl ?_
  refine uIN 2 hx hby d268 rfl rfl ?_
  refine uAN 3 hx hby d269 rfl rfl rfl ?_
  refine ggcls hx (ow hw 300 rfl) (ow hw 301 rfl) (ow hw 118 rfl) (ow hw 303 rfl) (ow hw 302 rfl) (ow hw 304 rfl) P1 Mmr 6 (W := 2) (Nat.le_of_eq rfl) (by rw [hml]; rfl) (hb hby d270) rfl (by decide) (by decide) ?_
  refine ginfo fun _ _ O2 => ?_
  refine gcallS (y := mn265) hx (ow hw 306 rfl) (ow hw 307 rfl) (ow hw 156 rfl) (ow hw 308 rfl) (by decide) (fun hZ H hEL => Pay.of_met (W := 0) (own_cp3_1 l Z a0 cx [] (d) (kc) (s0_) (dz) (el) (ee) (em) (mr) (kd) (ke) vm h0 O2 P0 P2 (by first | assumption | decide | omega)) (ow hw 308 rfl) (ow hw 156 rfl) (by decide) (by decide) hZ H hEL) 9 (argsL := [(.ref d), (.int (1 : Int32)), (.ref mr)]) (rest := []) (lenOf own_pd272 rfl) rfl rfl (Nat.le_of_eq rfl) (by rw [hml]; rfl) (hb hby d271) rfl (by decide) (by decide) ?_
  rintro _ vm2 h2 C2 ⟨r2, kr2, rfl, K2, q2_0, q2_1⟩
  have z2 := C2.2.1
  have lt_r2 : h2.size > r2 := q2_1.lt
  refine gat1 ?_
  exact gretA hx hret rfl rfl (hb hby d273) (by decide) (by decide) (fun vq Cq => ⟨r2, kr2, rfl, ((Keep.refl h0 []).trans K2 all0), (by omega), q2_1⟩)
theorem d275 : decode y11_ 0 = .ok (.aload_n 0, 1) := by decide +kernel
theorem d276 : decode y11_ 1 = .ok (.getfield 9, 3) := by decide +kernel
theorem d277 : decode y11_ 4 = .ok (.aload_n 0, 1) := by decide +kernel
theorem d278 : decode y11_ 5 = .ok (.getfield 48, 3) := by decide +kernel
theorem d279 : decode y11_ 8 = .ok (.invokestatic 66, 3) := by decide +kernel
theorem own_pd280 : parseMethodDescriptor "([Ljava/lang/Object;I)[Ljava/lang/Object;" = some ⟨[(.array (.object "java/lang/Object")), .int], some (.array (.object "java/lang/Object"))⟩ := by decide +kernel
theorem d281 : decode y11_ 11 = .ok (.areturn, 1) := by decide +kernel
abbrev mn282 : MethodName := ⟨"java/util/ArrayList", "toArray", "()[Ljava/lang/Object;"⟩
theorem own_toarr1 (l : Launch) (Z : State) (a0 : Array Value) (cx : Ctx Z a0) (ws : List Jvm.Cond) (x : Addr) (d : Addr) (kc : ClassId) (s0_ : Addr) (dz : Addr) (el : Addr) (ee : Addr) (em : Addr) (mr : Addr) (kd : ClassId) (ke : ClassId) (vm0 : Vm) (h0 : Heap) (X00 : Ext Z.heap h0) (P0 : Exa Z h0 x c14_) (P1 : Fld Z h0 x c14_ c6_ c4_ (.ref d)) (P2 : Fld Z h0 x c14_ "size" "I" (.int (1 : Int32))) (P3 : Arv Z h0 d kc (.object c11_) (10 : Int32) [(.ref s0_), .null, .null, .null, .null, .null, .null, .null, .null, .null] .null) (P4 : Exa Z h0 d c4_) (hov : (Ovr Z kc c11_)) (P6 : Exa Z h0 s0_ c12_) (hL : (OwnL Z dz el ee em mr kd ke)) :
    Met l mn282 y11_ 1 (some (.array (.object c11_))) ws ({ frames := 3, cells := 1, slots := 1, locals := 46 } : Room) Z ([] : List (String × Nat)) vm0 h0 #[(.ref x)] (fun rv vm h => ∃ (r : Addr), ∃ (kr : ClassId), rv = some (.ref r) ∧ Keep h0 h [] ∧ h0.size ≤ r ∧ Arv Z h r kr (.object c11_) (1 : Int32) [(.ref s0_)] .null) := by
  obtain ⟨hw, hEL, ⟨zc, Scs, hzc⟩, ⟨fm, Sfm, hfm⟩, hL0, hB0, hO0⟩ := id cx
  refine Met.of_walk (a0 := a0) #[vr x] (plainFor_of_name own_pn113) X00 hEL (fun m => by first | (simp [entryFrame, mkF, argsToLocals, Value.category]; done) | rfl) ?_
  intro p e s m below meth c vm hx hby hml hret hnm hC0 hW0
  have lt_x : h0.size > x := P0.lt
  have lt_d : h0.size > d := P3.lt
  have lt_s0_ : h0.size > s0_ := P6.lt
  obtain ⟨Sdz, Edz, Vdz, Sel, Eel, Fee, Vee, Fan, Sem, Eem, Mmr⟩ := id hL
  refine uAN 1 hx hby d275 rfl rfl rfl ?_
  refine ggetF (host := "") hx (Or.inl (ow hw 55 rfl)) Via.refl P1 4 (hb hby d276) rfl ?_
  refine uAN 5 hx hby d277 rfl rfl rfl ?_
  refine ggetF (host := "") hx (Or.inl (ow hw 129 rfl)) Via.refl P2 8 (hb hby d278) rfl ?_
  refine ginfo fun _ _ O1 => ?_
  refine gcallS (y := mn274) hx (ow hw 297 rfl) (ow hw 298 rfl) (ow hw 156 rfl) (ow hw 299 rfl) (by decide) (fun hZ H hEL => Pay.of_met (W := 0) (own_cp2_1 l Z a0 cx [] (d) (kc) (s0_) (dz) (el) (ee) (em) (mr) (kd) (ke) vm h0 O1 P3 P4 P6 (by first | assumption | decide | omega)) (ow hw 299 rfl) (ow hw 156 rfl) (by decide) (by decide) hZ H hEL) 11 (argsL := [(.ref d), (.int (1 : Int32))]) (rest := []) (lenOf own_pd280 rfl) rfl rfl (Nat.le_of_eq rfl) (by rw [hml]; rfl) (hb hby d279) rfl (by decide) (by decide) ?_
  rintro _ vm1 h1 C1 ⟨r1, kr1, rfl, K1, q1_0, q1_1⟩
  have z1 := C1.2.1
  have lt_r1 : h1.size > r1 := q1_1.lt
  refine gat1 ?_
  exact gretA hx hret rfl rfl (hb hby d281) (by decide) (by decide) (fun vq Cq => ⟨r1, kr1, rfl, ((Keep.refl h0 []).trans K1 all0), (by omega), q1_1⟩)
theorem d283 : decode y20_ 0 = .ok (.aload_n 0, 1) := by decide +kernel
theorem d284 : decode y20_ 1 = .ok (.arraylength, 1) := by decide +kernel
theorem d285 : decode y20_ 2 = .ok (.tableswitch 57 0 2 #[26, 32, 43], 26) := by decide +kernel
theorem d286 : decode y20_ 34 = .ok (.new 96, 3) := by decide +kernel
theorem d287 : decode y20_ 37 = .ok (.dup, 1) := by decide +kernel
theorem d288 : decode y20_ 38 = .ok (.aload_n 0, 1) := by decide +kernel
theorem d289 : decode y20_ 39 = .ok (.iconst 0, 1) := by decide +kernel
theorem d290 : decode y20_ 40 = .ok (.aaload, 1) := by decide +kernel
theorem d291 : decode y20_ 41 = .ok (.invokespecial 98, 3) := by decide +kernel
theorem own_pd292 : parseMethodDescriptor "(Ljava/lang/Object;)V" = some ⟨[(.object "java/lang/Object")], none⟩ := by decide +kernel
theorem d293 : decode y20_ 44 = .ok (.areturn, 1) := by decide +kernel
abbrev mn294 : MethodName := ⟨"java/util/List", "of", "([Ljava/lang/Object;)Ljava/util/List;"⟩
theorem own_of1 (l : Launch) (Z : State) (a0 : Array Value) (cx : Ctx Z a0) (ws : List Jvm.Cond) (a : Addr) (ka : ClassId) (s0_ : Addr) (dz : Addr) (el : Addr) (ee : Addr) (em : Addr) (mr : Addr) (kd : ClassId) (ke : ClassId) (vm0 : Vm) (h0 : Heap) (X00 : Ext Z.heap h0) (P0 : Arv Z h0 a ka (.object c11_) (1 : Int32) [(.ref s0_)] .null) (P1 : Exa Z h0 s0_ c12_) (hL : (OwnL Z dz el ee em mr kd ke)) :
    Met l mn294 y20_ 2 (some (.object c19_)) ws ({ frames := 5, cells := 1, slots := 2, locals := 62 } : Room) Z ([] : List (String × Nat)) vm0 h0 #[(.ref a)] (fun rv vm h => ∃ (r : Addr), rv = some (.ref r) ∧ Keep h0 h [] ∧ h0.size ≤ r ∧ Exa Z h r c17_ ∧ Fld Z h r c17_ "e0" c0_ (.ref s0_) ∧ Fld Z h r c17_ "e1" c0_ (.ref em)) := by
  obtain ⟨hw, hEL, ⟨zc, Scs, hzc⟩, ⟨fm, Sfm, hfm⟩, hL0, hB0, hO0⟩ := id cx
  refine Met.of_walk (a0 := a0) #[vr a, un] (plainFor_of_name own_pn198) X00 hEL (fun m => by first | (simp [entryFrame, mkF, argsToLocals, Value.category]; done) | rfl) ?_
  intro p e s m below meth c vm hx hby hml hret hnm hC0 hW0
  have lt_a : h0.size > a := P0.lt
  have lt_s0_ : h0.size > s0_ := P1.lt
  obtain ⟨Sdz, Edz, Vdz, Sel, Eel, Fee, Vee, Fan, Sem, Eem, Mmr⟩ := id hL
  refine uAN 1 hx hby d283 rfl rfl rfl ?_
  refine glen hx P0 2 (hb hby d284) rfl ?_
  refine gx (mkF m 34 #[vr a, un] []) (fun T locs X _ _ _ target kq => X.tableswitchIn hx (g := (mkF m 2 #[vr a, un] [(.int (1 : Int32))])) rfl rfl (hb hby d285) (by decide) (off := 32) rfl (show (0 : Int) ≤ ((2 : Nat) : Int) + 32 by decide) target kq) ?_
  refine gnewO hx (ow hw 321 rfl) (ow hw 322 rfl) (ow hw 323 rfl) 37 (hb hby d286) rfl (by decide) (by decide) ?_
  intro b1 h1 g1 E1 C1 A1 D1 n1 L1
  have z1 := C1.2.1
  have lt_b1 : h1.size > b1 := A1.lt
  have F1_e0 : Fld Z h1 b1 c17_ "e0" c0_ .null := D1 (Or.inr (ow hw 345 rfl)) (ty := (.object c11_)) (by decide)
  have F1_e1 : Fld Z h1 b1 c17_ "e1" c0_ .null := D1 (Or.inr (ow hw 348 rfl)) (ty := (.object c11_)) (by decide)
  refine uD 38 hx hby d287 rfl rfl ?_
  refine uAN 39 hx hby d288 rfl rfl rfl ?_
  refine uKc 40 (0 : Int32) hx hby d289 rfl rfl ?_
  have f2 := (P0.ext E1)
  refine gldR hx f2 ⟨by decide, by decide⟩ (i := 0) rfl (v := (.ref s0_)) rfl 41 (hb hby d290) rfl ?_
  refine ginfo fun _ _ O3 => ?_
  refine gcallI (y := mn226) hx rfl (ow hw 324 rfl) (ow hw 325 rfl) (ow hw 327 rfl) (by decide) (fun hZ H hEL => Pay.of_met (W := 1) (own_l12a l Z a0 cx [] (b1) (s0_) (.null) (.null) (dz) (el) (ee) (em) (mr) (kd) (ke) vm h1 O3 A1 F1_e0 F1_e1 n1 (by first | assumption | decide | omega)) (ow hw 327 rfl) (ow hw 323 rfl) (by decide) (by decide) hZ H hEL) (a := b1) 44 (argsL := [(.ref s0_)]) (rest := [(.ref b1)]) (lenOf own_pd292 rfl) rfl rfl (Nat.le_of_eq rfl) (by rw [hml]; rfl) (hb hby d291) rfl (by decide) (by decide) ?_
  rintro _ vm3 h3 C3 ⟨rfl, K3, q3_0, q3_1⟩
  have z3 := C3.2.1
  refine gat0 ?_
  have f5 := (A1.keep K3)
  exact gretA hx hret rfl rfl (hb hby d293) (by decide) (by decide) (fun vq Cq => ⟨b1, rfl, (((Keep.refl h0 []).ext E1).trans K3 (allS (Or.inr (by omega)) all0)), (by omega), f5, q3_0, q3_1⟩)
theorem own_min10_2 (l : Launch) (Z : State) (a0 : Array Value) (cx : Ctx Z a0) (ws : List Jvm.Cond)  (vm0 : Vm) (h0 : Heap) (X00 : Ext Z.heap h0)  :
    Met l mn245 y7_ 2 (some .int) ws ({ frames := 0, cells := 0, slots := 0, locals := 0 } : Room) Z ([] : List (String × Nat)) vm0 h0 #[(.int (10 : Int32)), (.int (2 : Int32))] (fun rv vm h => rv = some (.int (2 : Int32)) ∧ h0 = h) := by
  obtain ⟨hw, hEL, ⟨zc, Scs, hzc⟩, ⟨fm, Sfm, hfm⟩, hL0, hB0, hO0⟩ := id cx
  refine Met.of_walk (a0 := a0) #[vi (10 : Int32), vi (2 : Int32)] own_pn246 X00 hEL (fun m => by first | (simp [entryFrame, mkF, argsToLocals, Value.category]; done) | rfl) ?_
  intro p e s m below meth c vm hx hby hml hret hnm hC0 hW0
  refine uIN 1 hx hby d240 rfl rfl ?_
  refine uIN 2 hx hby d241 rfl rfl ?_
  refine uYc 9 hx hby d242 (tlt (by decide)).2.2.1 (by decide) (by decide) ?_
  refine uIN 10 hx hby d243 rfl rfl ?_
  exact gretI hx hret (hb hby d244) (by decide) (by decide) (fun vq Cq => ⟨rfl, rfl⟩)
theorem own_cp3_2 (l : Launch) (Z : State) (a0 : Array Value) (cx : Ctx Z a0) (ws : List Jvm.Cond) (d : Addr) (kc : ClassId) (s0_ : Addr) (s1_ : Addr) (dz : Addr) (el : Addr) (ee : Addr) (em : Addr) (mr : Addr) (kd : ClassId) (ke : ClassId) (vm0 : Vm) (h0 : Heap) (X00 : Ext Z.heap h0) (P0 : Arv Z h0 d kc (.object c11_) (10 : Int32) [(.ref s0_), (.ref s1_), .null, .null, .null, .null, .null, .null, .null, .null] .null) (P1 : Exa Z h0 s0_ c12_) (P2 : Exa Z h0 s1_ c12_) (hL : (OwnL Z dz el ee em mr kd ke)) :
    Met l mn265 y54_ 4 (some (.array (.object c11_))) ws ({ frames := 1, cells := 1, slots := 2, locals := 18 } : Room) Z ([] : List (String × Nat)) vm0 h0 #[(.ref d), (.int (2 : Int32)), (.ref mr)] (fun rv vm h => ∃ (r : Addr), ∃ (kr : ClassId), rv = some (.ref r) ∧ Keep h0 h [] ∧ h0.size ≤ r ∧ Arv Z h r kr (.object c11_) (2 : Int32) [(.ref s0_), (.ref s1_)] .null) := by
  obtain ⟨hw, hEL, ⟨zc, Scs, hzc⟩, ⟨fm, Sfm, hfm⟩, hL0, hB0, hO0⟩ := id cx
  refine Met.of_walk (a0 := a0) #[vr d, vi (2 : Int32), vr mr, un] (plainFor_of_name own_pn266) X00 hEL (fun m => by first | (simp [entryFrame, mkF, argsToLocals, Value.category]; done) | rfl) ?_
  intro p e s m below meth c vm hx hby hml hret hnm hC0 hW0
  have lt_d : h0.size > d := P0.lt
  have lt_s0_ : h0.size > s0_ := P1.lt
  have lt_s1_ : h0.size > s1_ := P2.lt
  obtain ⟨Sdz, Edz, Vdz, Sel, Eel, Fee, Vee, Fan, Sem, Eem, Mmr⟩ := id hL
  refine uAN 1 hx hby d247 rfl rfl rfl ?_
  refine gldcM hx (ow hw 309 rfl) Mmr 3 (hb hby d248) rfl ?_
  refine gx (mkF m 6 #[vr d, vi (2 : Int32), vr mr, un] []) (fun T locs X _ _ _ _ kq => Jvm.RoadKit.acmp (g := (mkF m 3 #[vr d, vi (2 : Int32), vr mr, un] [(.ref mr), (.ref mr)])) X hx rfl rfl rfl (pc0 := 3) (pc' := 6) (same := true) rfl (hb hby d249) rfl (decide_eq_true rfl) (by decide) (by decide) kq) ?_
  refine uIN 7 hx hby d250 rfl rfl ?_
  refine gnewR hx (ow hw 310 rfl) (ow hw 142 rfl) (n := (2 : Int32)) (by decide) (cap := 2) (by decide) (by decide) (ad := c4_) (by decide) 10 (hb hby d251) rfl (by decide) (by decide) ?_
  intro b2 h2 k2 g2 E2 C2 V2 A2 O2 n2 L2
  have z2 := C2.2.1
  have V2 : Arv Z h2 b2 k2 (.object c11_) (2 : Int32) [.null, .null] .null := V2.pad (pad_rep [] .null 2)
  have lt_b2 : h2.size > b2 := V2.lt
  refine uG 24 hx hby d252 (by decide) (by decide) ?_
  refine uSAN 25 #[vr d, vi (2 : Int32), vr mr, vr b2] hx hby d253 rfl rfl rfl ?_
  refine uAN 26 hx hby d254 rfl rfl rfl ?_
  refine uKc 27 (0 : Int32) hx hby d255 rfl rfl ?_
  refine uAN 28 hx hby d256 rfl rfl rfl ?_
  refine uKc 29 (0 : Int32) hx hby d257 rfl rfl ?_
  refine uAN 30 hx hby d258 rfl rfl rfl ?_
  have f3 := (P0.ext E2)
  refine glen hx f3 31 (hb hby d259) rfl ?_
  refine uIN 32 hx hby d260 rfl rfl ?_
  refine ginfo fun _ _ O4 => ?_
  refine gcallS (y := mn245) hx (ow hw 311 rfl) (ow hw 312 rfl) (ow hw 226 rfl) (ow hw 313 rfl) (by decide) (fun hZ H hEL => Pay.of_met (W := 4) (own_min10_2 l Z a0 cx []  vm h2 O4 ) (ow hw 313 rfl) (ow hw 226 rfl) (by decide) (by decide) hZ H hEL) 35 (argsL := [(.int (10 : Int32)), (.int (2 : Int32))]) (rest := [(.int (0 : Int32)), (.ref b2), (.int (0 : Int32)), (.ref d)]) (lenOf own_pd136 rfl) rfl rfl (Nat.le_of_eq rfl) (by rw [hml]; rfl) (hb hby d261) rfl (by decide) (by decide) ?_
  rintro _ vm4 h4 C4 ⟨rfl, rfl⟩
  have z4 := C4.2.1
  refine gat1 ?_
  have f6 := (P1.ext E2)
  have f7 := (P2.ext E2)
  have f8 := (C4.safe (show h2.size > b2 by omega) L2)
  refine gcopyR hx (ow hw 314 rfl) (ow hw 317 rfl) (ow hw 315 rfl) (ow hw 316 rfl) (0) (0) (2) (10) (2) f3 V2 rfl rfl rfl rfl rfl (by decide) (by decide) (by decide) (by decide) rfl rfl (show StoL _ _ _ [(.ref s0_), (.ref s1_)] from ⟨Arv.sto V2 O2 (Ins.of_exa f6 (ow hw 229 rfl)), Arv.sto V2 O2 (Ins.of_exa f7 (ow hw 229 rfl)), trivial⟩) n2 (fun _ => f8) 38 (W := 0) (Nat.le_of_eq rfl) (by rw [hml]; rfl) (hb hby d262) rfl (by decide) (by decide) ?_
  intro h5 K5 C5 V5
  have z5 := C5.2.1
  replace V5 : Arv Z h5 b2 k2 (.object c11_) (2 : Int32) [(.ref s0_), (.ref s1_)] .null := V5
  refine uAN 39 hx hby d263 rfl rfl rfl ?_
  exact gretA hx hret rfl rfl (hb hby d264) (by decide) (by decide) (fun vq Cq => ⟨b2, k2, rfl, (((Keep.refl h0 []).ext E2).trans K5 (allS (Or.inr (by omega)) all0)), (by omega), V5⟩)
theorem own_cp2_2 (l : Launch) (Z : State) (a0 : Array Value) (cx : Ctx Z a0) (ws : List Jvm.Cond) (d : Addr) (kc : ClassId) (s0_ : Addr) (s1_ : Addr) (dz : Addr) (el : Addr) (ee : Addr) (em : Addr) (mr : Addr) (kd : ClassId) (ke : ClassId) (vm0 : Vm) (h0 : Heap) (X00 : Ext Z.heap h0) (P0 : Arv Z h0 d kc (.object c11_) (10 : Int32) [(.ref s0_), (.ref s1_), .null, .null, .null, .null, .null, .null, .null, .null] .null) (P1 : Exa Z h0 d c4_) (P2 : Exa Z h0 s0_ c12_) (P3 : Exa Z h0 s1_ c12_) (hL : (OwnL Z dz el ee em mr kd ke)) :
    Met l mn274 y53_ 2 (some (.array (.object c11_))) ws ({ frames := 2, cells := 1, slots := 2, locals := 33 } : Room) Z ([] : List (String × Nat)) vm0 h0 #[(.ref d), (.int (2 : Int32))] (fun rv vm h => ∃ (r : Addr), ∃ (kr : ClassId), rv = some (.ref r) ∧ Keep h0 h [] ∧ h0.size ≤ r ∧ Arv Z h r kr (.object c11_) (2 : Int32) [(.ref s0_), (.ref s1_)] .null) := by
  obtain ⟨hw, hEL, ⟨zc, Scs, hzc⟩, ⟨fm, Sfm, hfm⟩, hL0, hB0, hO0⟩ := id cx
  refine Met.of_walk (a0 := a0) #[vr d, vi (2 : Int32)] (plainFor_of_name own_pn266) X00 hEL (fun m => by first | (simp [entryFrame, mkF, argsToLocals, Value.category]; done) | rfl) ?_
  intro p e s m below meth c vm hx hby hml hret hnm hC0 hW0
  have lt_d : h0.size > d := P0.lt
  have lt_s0_ : h0.size > s0_ := P2.lt
  have lt_s1_ : h0.size > s1_ := P3.lt
  obtain ⟨Sdz, Edz, Vdz, Sel, Eel, Fee, Vee, Fan, Sem, Eem, Mmr⟩ := id hL
  refine uAN 1 hx hby d267 rfl rfl rfl ?_
  refine uIN 2 hx hby d268 rfl rfl ?_
  refine uAN 3 hx hby d269 rfl rfl rfl ?_
  refine ggcls hx (ow hw 300 rfl) (ow hw 301 rfl) (ow hw 118 rfl) (ow hw 303 rfl) (ow hw 302 rfl) (ow hw 304 rfl) P1 Mmr 6 (W := 2) (Nat.le_of_eq rfl) (by rw [hml]; rfl) (hb hby d270) rfl (by decide) (by decide) ?_
  refine ginfo fun _ _ O2 => ?_
  refine gcallS (y := mn265) hx (ow hw 306 rfl) (ow hw 307 rfl) (ow hw 156 rfl) (ow hw 308 rfl) (by decide) (fun hZ H hEL => Pay.of_met (W := 0) (own_cp3_2 l Z a0 cx [] (d) (kc) (s0_) (s1_) (dz) (el) (ee) (em) (mr) (kd) (ke) vm h0 O2 P0 P2 P3 (by first | assumption | decide | omega)) (ow hw 308 rfl) (ow hw 156 rfl) (by decide) (by decide) hZ H hEL) 9 (argsL := [(.ref d), (.int (2 : Int32)), (.ref mr)]) (rest := []) (lenOf own_pd272 rfl) rfl rfl (Nat.le_of_eq rfl) (by rw [hml]; rfl) (hb hby d271) rfl (by decide) (by decide) ?_
  rintro _ vm2 h2 C2 ⟨r2, kr2, rfl, K2, q2_0, q2_1⟩
  have z2 := C2.2.1
  have lt_r2 : h2.size > r2 := q2_1.lt
  refine gat1 ?_
  exact gretA hx hret rfl rfl (hb hby d273) (by decide) (by decide) (fun vq Cq => ⟨r2, kr2, rfl, ((Keep.refl h0 []).trans K2 all0), (by omega), q2_1⟩)
theorem own_toarr2 (l : Launch) (Z : State) (a0 : Array Value) (cx : Ctx Z a0) (ws : List Jvm.Cond) (x : Addr) (d : Addr) (kc : ClassId) (s0_ : Addr) (s1_ : Addr) (dz : Addr) (el : Addr) (ee : Addr) (em : Addr) (mr : Addr) (kd : ClassId) (ke : ClassId) (vm0 : Vm) (h0 : Heap) (X00 : Ext Z.heap h0) (P0 : Exa Z h0 x c14_) (P1 : Fld Z h0 x c14_ c6_ c4_ (.ref d)) (P2 : Fld Z h0 x c14_ "size" "I" (.int (2 : Int32))) (P3 : Arv Z h0 d kc (.object c11_) (10 : Int32) [(.ref s0_), (.ref s1_), .null, .null, .null, .null, .null, .null, .null, .null] .null) (P4 : Exa Z h0 d c4_) (hov : (Ovr Z kc c11_)) (P6 : Exa Z h0 s0_ c12_) (P7 : Exa Z h0 s1_ c12_) (hL : (OwnL Z dz el ee em mr kd ke)) :
    Met l mn282 y11_ 1 (some (.array (.object c11_))) ws ({ frames := 3, cells := 1, slots := 2, locals := 46 } : Room) Z ([] : List (String × Nat)) vm0 h0 #[(.ref x)] (fun rv vm h => ∃ (r : Addr), ∃ (kr : ClassId), rv = some (.ref r) ∧ Keep h0 h [] ∧ h0.size ≤ r ∧ Arv Z h r kr (.object c11_) (2 : Int32) [(.ref s0_), (.ref s1_)] .null) := by
  obtain ⟨hw, hEL, ⟨zc, Scs, hzc⟩, ⟨fm, Sfm, hfm⟩, hL0, hB0, hO0⟩ := id cx
  refine Met.of_walk (a0 := a0) #[vr x] (plainFor_of_name own_pn113) X00 hEL (fun m => by first | (simp [entryFrame, mkF, argsToLocals, Value.category]; done) | rfl) ?_
  intro p e s m below meth c vm hx hby hml hret hnm hC0 hW0
  have lt_x : h0.size > x := P0.lt
  have lt_d : h0.size > d := P3.lt
  have lt_s0_ : h0.size > s0_ := P6.lt
  have lt_s1_ : h0.size > s1_ := P7.lt
  obtain ⟨Sdz, Edz, Vdz, Sel, Eel, Fee, Vee, Fan, Sem, Eem, Mmr⟩ := id hL
  refine uAN 1 hx hby d275 rfl rfl rfl ?_
  refine ggetF (host := "") hx (Or.inl (ow hw 55 rfl)) Via.refl P1 4 (hb hby d276) rfl ?_
  refine uAN 5 hx hby d277 rfl rfl rfl ?_
  refine ggetF (host := "") hx (Or.inl (ow hw 129 rfl)) Via.refl P2 8 (hb hby d278) rfl ?_
  refine ginfo fun _ _ O1 => ?_
  refine gcallS (y := mn274) hx (ow hw 297 rfl) (ow hw 298 rfl) (ow hw 156 rfl) (ow hw 299 rfl) (by decide) (fun hZ H hEL => Pay.of_met (W := 0) (own_cp2_2 l Z a0 cx [] (d) (kc) (s0_) (s1_) (dz) (el) (ee) (em) (mr) (kd) (ke) vm h0 O1 P3 P4 P6 P7 (by first | assumption | decide | omega)) (ow hw 299 rfl) (ow hw 156 rfl) (by decide) (by decide) hZ H hEL) 11 (argsL := [(.ref d), (.int (2 : Int32))]) (rest := []) (lenOf own_pd280 rfl) rfl rfl (Nat.le_of_eq rfl) (by rw [hml]; rfl) (hb hby d279) rfl (by decide) (by decide) ?_
  rintro _ vm1 h1 C1 ⟨r1, kr1, rfl, K1, q1_0, q1_1⟩
  have z1 := C1.2.1
  have lt_r1 : h1.size > r1 := q1_1.lt
  refine gat1 ?_
  exact gretA hx hret rfl rfl (hb hby d281) (by decide) (by decide) (fun vq Cq => ⟨r1, kr1, rfl, ((Keep.refl h0 []).trans K1 all0), (by omega), q1_1⟩)
theorem d295 : decode y20_ 45 = .ok (.new 96, 3) := by decide +kernel
theorem d296 : decode y20_ 48 = .ok (.dup, 1) := by decide +kernel
theorem d297 : decode y20_ 49 = .ok (.aload_n 0, 1) := by decide +kernel
theorem d298 : decode y20_ 50 = .ok (.iconst 0, 1) := by decide +kernel
theorem d299 : decode y20_ 51 = .ok (.aaload, 1) := by decide +kernel
theorem d300 : decode y20_ 52 = .ok (.aload_n 0, 1) := by decide +kernel
theorem d301 : decode y20_ 53 = .ok (.iconst 1, 1) := by decide +kernel
theorem d302 : decode y20_ 54 = .ok (.aaload, 1) := by decide +kernel
theorem d303 : decode y20_ 55 = .ok (.invokespecial 100, 3) := by decide +kernel
theorem own_pd304 : parseMethodDescriptor "(Ljava/lang/Object;Ljava/lang/Object;)V" = some ⟨[(.object "java/lang/Object"), (.object "java/lang/Object")], none⟩ := by decide +kernel
theorem d305 : decode y20_ 58 = .ok (.areturn, 1) := by decide +kernel
theorem own_of2 (l : Launch) (Z : State) (a0 : Array Value) (cx : Ctx Z a0) (ws : List Jvm.Cond) (a : Addr) (ka : ClassId) (s0_ : Addr) (s1_ : Addr) (dz : Addr) (el : Addr) (ee : Addr) (em : Addr) (mr : Addr) (kd : ClassId) (ke : ClassId) (vm0 : Vm) (h0 : Heap) (X00 : Ext Z.heap h0) (P0 : Arv Z h0 a ka (.object c11_) (2 : Int32) [(.ref s0_), (.ref s1_)] .null) (P1 : Exa Z h0 s0_ c12_) (P2 : Exa Z h0 s1_ c12_) (hL : (OwnL Z dz el ee em mr kd ke)) :
    Met l mn294 y20_ 2 (some (.object c19_)) ws ({ frames := 5, cells := 1, slots := 2, locals := 63 } : Room) Z ([] : List (String × Nat)) vm0 h0 #[(.ref a)] (fun rv vm h => ∃ (r : Addr), rv = some (.ref r) ∧ Keep h0 h [] ∧ h0.size ≤ r ∧ Exa Z h r c17_ ∧ Fld Z h r c17_ "e0" c0_ (.ref s0_) ∧ Fld Z h r c17_ "e1" c0_ (.ref s1_)) := by
  obtain ⟨hw, hEL, ⟨zc, Scs, hzc⟩, ⟨fm, Sfm, hfm⟩, hL0, hB0, hO0⟩ := id cx
  refine Met.of_walk (a0 := a0) #[vr a, un] (plainFor_of_name own_pn198) X00 hEL (fun m => by first | (simp [entryFrame, mkF, argsToLocals, Value.category]; done) | rfl) ?_
  intro p e s m below meth c vm hx hby hml hret hnm hC0 hW0
  have lt_a : h0.size > a := P0.lt
  have lt_s0_ : h0.size > s0_ := P1.lt
  have lt_s1_ : h0.size > s1_ := P2.lt
  obtain ⟨Sdz, Edz, Vdz, Sel, Eel, Fee, Vee, Fan, Sem, Eem, Mmr⟩ := id hL
  refine uAN 1 hx hby d283 rfl rfl rfl ?_
  refine glen hx P0 2 (hb hby d284) rfl ?_
  refine gx (mkF m 45 #[vr a, un] []) (fun T locs X _ _ _ target kq => X.tableswitchIn hx (g := (mkF m 2 #[vr a, un] [(.int (2 : Int32))])) rfl rfl (hb hby d285) (by decide) (off := 43) rfl (show (0 : Int) ≤ ((2 : Nat) : Int) + 43 by decide) target kq) ?_
  refine gnewO hx (ow hw 321 rfl) (ow hw 322 rfl) (ow hw 323 rfl) 48 (hb hby d295) rfl (by decide) (by decide) ?_
  intro b1 h1 g1 E1 C1 A1 D1 n1 L1
  have z1 := C1.2.1
  have lt_b1 : h1.size > b1 := A1.lt
  have F1_e0 : Fld Z h1 b1 c17_ "e0" c0_ .null := D1 (Or.inr (ow hw 345 rfl)) (ty := (.object c11_)) (by decide)
  have F1_e1 : Fld Z h1 b1 c17_ "e1" c0_ .null := D1 (Or.inr (ow hw 348 rfl)) (ty := (.object c11_)) (by decide)
  refine uD 49 hx hby d296 rfl rfl ?_
  refine uAN 50 hx hby d297 rfl rfl rfl ?_
  refine uKc 51 (0 : Int32) hx hby d298 rfl rfl ?_
  have f2 := (P0.ext E1)
  refine gldR hx f2 ⟨by decide, by decide⟩ (i := 0) rfl (v := (.ref s0_)) rfl 52 (hb hby d299) rfl ?_
  refine uAN 53 hx hby d300 rfl rfl rfl ?_
  refine uKc 54 (1 : Int32) hx hby d301 rfl rfl ?_
  refine gldR hx f2 ⟨by decide, by decide⟩ (i := 1) rfl (v := (.ref s1_)) rfl 55 (hb hby d302) rfl ?_
  refine ginfo fun _ _ O3 => ?_
  refine gcallI (y := mn239) hx rfl (ow hw 387 rfl) (ow hw 388 rfl) (ow hw 389 rfl) (by decide) (fun hZ H hEL => Pay.of_met (W := 1) (own_l12b l Z a0 cx [] (b1) (s0_) (s1_) (.null) (.null) vm h1 O3 A1 F1_e0 F1_e1 n1) (ow hw 389 rfl) (ow hw 323 rfl) (by decide) (by decide) hZ H hEL) (a := b1) 58 (argsL := [(.ref s0_), (.ref s1_)]) (rest := [(.ref b1)]) (lenOf own_pd304 rfl) rfl rfl (Nat.le_of_eq rfl) (by rw [hml]; rfl) (hb hby d303) rfl (by decide) (by decide) ?_
  rintro _ vm3 h3 C3 ⟨rfl, K3, q3_0, q3_1⟩
  have z3 := C3.2.1
  refine gat0 ?_
  have f5 := (A1.keep K3)
  exact gretA hx hret rfl rfl (hb hby d305) (by decide) (by decide) (fun vq Cq => ⟨b1, rfl, (((Keep.refl h0 []).ext E1).trans K3 (allS (Or.inr (by omega)) all0)), (by omega), f5, q3_0, q3_1⟩)
theorem d306 : decode y52_ 0 = .ok (.aload_n 0, 1) := by decide +kernel
theorem d307 : decode y52_ 1 = .ok (.instanceof 10, 3) := by decide +kernel
theorem d308 : decode y52_ 4 = .ok (.ifCond .ne 22, 3) := by decide +kernel
theorem d309 : decode y52_ 7 = .ok (.aload_n 0, 1) := by decide +kernel
theorem d310 : decode y52_ 8 = .ok (.instanceof 12, 3) := by decide +kernel
theorem d311 : decode y52_ 11 = .ok (.ifCond .eq 20, 3) := by decide +kernel
theorem d312 : decode y52_ 31 = .ok (.aload_n 0, 1) := by decide +kernel
theorem d313 : decode y52_ 32 = .ok (.invokeinterface 20 1, 5) := by decide +kernel
abbrev mn314 : MethodName := ⟨"java/util/Collection", "isEmpty", "()Z"⟩
theorem d315 : decode y52_ 37 = .ok (.ifCond .eq 7, 3) := by decide +kernel
theorem d316 : decode y52_ 40 = .ok (.invokestatic 26, 3) := by decide +kernel
theorem own_pd317 : parseMethodDescriptor "()Ljava/util/List;" = some ⟨[], some (.object "java/util/List")⟩ := by decide +kernel
theorem d318 : decode y52_ 43 = .ok (.areturn, 1) := by decide +kernel
abbrev mn319 : MethodName := ⟨"java/util/ImmutableCollections", "listCopy", "(Ljava/util/Collection;)Ljava/util/List;"⟩
theorem own_pn320 : plainName "java/util/ImmutableCollections" = true := by first | (simp [plainName, overriddenIn]; done) | decide +kernel
theorem own_lc0 (l : Launch) (Z : State) (a0 : Array Value) (cx : Ctx Z a0) (ws : List Jvm.Cond) (x : Addr) (dz : Addr) (el : Addr) (ee : Addr) (em : Addr) (mr : Addr) (kd : ClassId) (ke : ClassId) (vm0 : Vm) (h0 : Heap) (X00 : Ext Z.heap h0) (P0 : Exa Z h0 x c14_) (P1 : Fld Z h0 x c14_ c6_ c4_ (.ref dz)) (P2 : Fld Z h0 x c14_ "size" "I" (.int (0 : Int32))) (hL : (OwnL Z dz el ee em mr kd ke)) :
    Met l mn319 y52_ 2 (some (.object c19_)) ws ({ frames := 1, cells := 0, slots := 0, locals := 12 } : Room) Z ([] : List (String × Nat)) vm0 h0 #[(.ref x)] (fun rv vm h => rv = some (.ref el) ∧ Keep h0 h []) := by
  obtain ⟨hw, hEL, ⟨zc, Scs, hzc⟩, ⟨fm, Sfm, hfm⟩, hL0, hB0, hO0⟩ := id cx
  refine Met.of_walk (a0 := a0) #[vr x, un] (plainFor_of_name own_pn320) X00 hEL (fun m => by first | (simp [entryFrame, mkF, argsToLocals, Value.category]; done) | rfl) ?_
  intro p e s m below meth c vm hx hby hml hret hnm hC0 hW0
  have lt_x : h0.size > x := P0.lt
  obtain ⟨Sdz, Edz, Vdz, Sel, Eel, Fee, Vee, Fan, Sem, Eem, Mmr⟩ := id hL
  refine uAN 1 hx hby d306 rfl rfl rfl ?_
  refine ginstN hx (ow hw 114 rfl) P0 (NSno (ow hw 115 rfl) (ow hw 322 rfl) (NS.step (ow hw 115 rfl) (NS.step (ow hw 116 rfl) (NS.step (ow hw 117 rfl) (NSroot (ow hw 118 rfl) (ow hw 322 rfl) (by decide)) (by decide)) (by decide)) (by decide)) (by decide)) 4 (hb hby d307) rfl ?_
  refine uN 7 hx hby d308 rfl ((if0 _ _).trans (teq (by decide)).2) ?_
  refine uAN 8 hx hby d309 rfl rfl rfl ?_
  refine ginstN hx (ow hw 119 rfl) P0 (NSno3 (ow hw 115 rfl) (ow hw 176 rfl) rfl (NS.step (ow hw 115 rfl) (NS.step (ow hw 116 rfl) (NS.step (ow hw 117 rfl) (NSroot3 (ow hw 118 rfl) (ow hw 176 rfl) rfl (by decide)) (by decide)) (by decide)) (by decide)) (by decide)) 11 (hb hby d310) rfl ?_
  refine uY 31 hx hby d311 ((if0 _ _).trans (teq (by decide)).1) (by decide) (by decide) ?_
  refine uAN 32 hx hby d312 rfl rfl rfl ?_
  refine ginfo fun _ _ O1 => ?_
  refine gcallF (xi := mn314) (y := mn193) hx (ow hw 120 rfl) (ow hw 121 rfl) (fun _ _ hU => mvT hU (ow hw 122 rfl)) (ow hw 123 rfl) (ow hw 124 rfl) (ow hw 125 rfl) (ow hw 126 rfl) (ow hw 127 rfl) (by decide) (fun hZ H hEL => Pay.of_met (W := 0) (own_alempty0 l Z a0 cx [] (x) vm h0 O1 P2) (ow hw 128 rfl) (ow hw 35 rfl) (by decide) (by decide) hZ H hEL) 37 (argsL := []) (rest := []) P0 (lenOf own_pd73 rfl) rfl rfl (Nat.le_of_eq rfl) (by rw [hml]; rfl) (hb hby d313) rfl (by decide) (by decide) ?_
  rintro _ vm1 h1 C1 ⟨rfl, rfl⟩
  have z1 := C1.2.1
  refine gat1 ?_
  refine uN 40 hx hby d315 rfl ((if0 _ _).trans (feq (by decide)).1) ?_
  refine ginfo fun _ _ O2 => ?_
  refine gcallS (y := mn197) hx (ow hw 130 rfl) (ow hw 131 rfl) (ow hw 108 rfl) (ow hw 132 rfl) (by decide) (fun hZ H hEL => Pay.of_met (W := 0) (own_of0 l Z a0 cx [] (dz) (el) (ee) (em) (mr) (kd) (ke) vm1 h0 O2 (by first | assumption | decide | omega)) (ow hw 132 rfl) (ow hw 108 rfl) (by decide) (by decide) hZ H hEL) 43 (argsL := []) (rest := []) (lenOf own_pd317 rfl) rfl rfl (Nat.le_of_eq rfl) (by rw [hml]; rfl) (hb hby d316) rfl (by decide) (by decide) ?_
  rintro _ vm2 h2 C2 ⟨rfl, rfl⟩
  have z2 := C2.2.1
  refine gat1 ?_
  exact gretA hx hret rfl rfl (hb hby d318) (by decide) (by decide) (fun vq Cq => ⟨rfl, (Keep.refl h0 [])⟩)
theorem d321 : decode y21_ 0 = .ok (.aload_n 0, 1) := by decide +kernel
theorem d322 : decode y21_ 1 = .ok (.invokestatic 112, 3) := by decide +kernel
theorem own_pd323 : parseMethodDescriptor "(Ljava/util/Collection;)Ljava/util/List;" = some ⟨[(.object "java/util/Collection")], some (.object "java/util/List")⟩ := by decide +kernel
theorem d324 : decode y21_ 4 = .ok (.areturn, 1) := by decide +kernel
abbrev mn325 : MethodName := ⟨"java/util/List", "copyOf", "(Ljava/util/Collection;)Ljava/util/List;"⟩
theorem own_copy0 (l : Launch) (Z : State) (a0 : Array Value) (cx : Ctx Z a0) (ws : List Jvm.Cond) (x : Addr) (dz : Addr) (el : Addr) (ee : Addr) (em : Addr) (mr : Addr) (kd : ClassId) (ke : ClassId) (vm0 : Vm) (h0 : Heap) (X00 : Ext Z.heap h0) (P0 : Exa Z h0 x c14_) (P1 : Fld Z h0 x c14_ c6_ c4_ (.ref dz)) (P2 : Fld Z h0 x c14_ "size" "I" (.int (0 : Int32))) (hL : (OwnL Z dz el ee em mr kd ke)) :
    Met l mn325 y21_ 1 (some (.object c19_)) ws ({ frames := 2, cells := 0, slots := 0, locals := 25 } : Room) Z ([] : List (String × Nat)) vm0 h0 #[(.ref x)] (fun rv vm h => rv = some (.ref el) ∧ Keep h0 h []) := by
  obtain ⟨hw, hEL, ⟨zc, Scs, hzc⟩, ⟨fm, Sfm, hfm⟩, hL0, hB0, hO0⟩ := id cx
  refine Met.of_walk (a0 := a0) #[vr x] (plainFor_of_name own_pn198) X00 hEL (fun m => by first | (simp [entryFrame, mkF, argsToLocals, Value.category]; done) | rfl) ?_
  intro p e s m below meth c vm hx hby hml hret hnm hC0 hW0
  have lt_x : h0.size > x := P0.lt
  obtain ⟨Sdz, Edz, Vdz, Sel, Eel, Fee, Vee, Fan, Sem, Eem, Mmr⟩ := id hL
  refine uAN 1 hx hby d321 rfl rfl rfl ?_
  refine ginfo fun _ _ O1 => ?_
  refine gcallS (y := mn319) hx (ow hw 110 rfl) (ow hw 111 rfl) (ow hw 112 rfl) (ow hw 113 rfl) (by decide) (fun hZ H hEL => Pay.of_met (W := 0) (own_lc0 l Z a0 cx [] (x) (dz) (el) (ee) (em) (mr) (kd) (ke) vm h0 O1 P0 P1 P2 (by first | assumption | decide | omega)) (ow hw 113 rfl) (ow hw 112 rfl) (by decide) (by decide) hZ H hEL) 4 (argsL := [(.ref x)]) (rest := []) (lenOf own_pd323 rfl) rfl rfl (Nat.le_of_eq rfl) (by rw [hml]; rfl) (hb hby d322) rfl (by decide) (by decide) ?_
  rintro _ vm1 h1 C1 ⟨rfl, K1⟩
  have z1 := C1.2.1
  refine gat1 ?_
  exact gretA hx hret rfl rfl (hb hby d324) (by decide) (by decide) (fun vq Cq => ⟨rfl, ((Keep.refl h0 []).trans K1 all0)⟩)
theorem d326 : decode y39_ 0 = .ok (.aload_n 0, 1) := by decide +kernel
theorem d327 : decode y39_ 1 = .ok (.getfield 7, 3) := by decide +kernel
theorem d328 : decode y39_ 4 = .ok (.arraylength, 1) := by decide +kernel
theorem d329 : decode y39_ 5 = .ok (.ireturn, 1) := by decide +kernel
abbrev mn330 : MethodName := ⟨"java/util/ImmutableCollections$ListN", "size", "()I"⟩
theorem own_pn331 : plainName "java/util/ImmutableCollections$ListN" = true := by first | (simp [plainName, overriddenIn]; done) | decide +kernel
theorem own_lsize0 (l : Launch) (Z : State) (a0 : Array Value) (cx : Ctx Z a0) (ws : List Jvm.Cond) (dz : Addr) (el : Addr) (ee : Addr) (em : Addr) (mr : Addr) (kd : ClassId) (ke : ClassId) (vm0 : Vm) (h0 : Heap) (X00 : Ext Z.heap h0) (hL : (OwnL Z dz el ee em mr kd ke)) :
    Met l mn330 y39_ 1 (some .int) ws ({ frames := 0, cells := 0, slots := 0, locals := 0 } : Room) Z ([] : List (String × Nat)) vm0 h0 #[(.ref el)] (fun rv vm h => rv = some (.int (0 : Int32)) ∧ h0 = h) := by
  obtain ⟨hw, hEL, ⟨zc, Scs, hzc⟩, ⟨fm, Sfm, hfm⟩, hL0, hB0, hO0⟩ := id cx
  refine Met.of_walk (a0 := a0) #[vr el] (plainFor_of_name own_pn331) X00 hEL (fun m => by first | (simp [entryFrame, mkF, argsToLocals, Value.category]; done) | rfl) ?_
  intro p e s m below meth c vm hx hby hml hret hnm hC0 hW0
  obtain ⟨Sdz, Edz, Vdz, Sel, Eel, Fee, Vee, Fan, Sem, Eem, Mmr⟩ := id hL
  refine ginfo fun _ _ OL1 => ?_
  have Fee_1 := Fee.ext OL1
  have Vee_1 := Vee.ext OL1
  have lt_el : h0.size > el := Fee_1.lt
  have lt_ee : h0.size > ee := Vee_1.lt
  refine uAN 1 hx hby d326 rfl rfl rfl ?_
  refine ggetF (host := "") hx (Or.inl (ow hw 180 rfl)) Via.refl Fee_1 4 (hb hby d327) rfl ?_
  refine glen hx Vee_1 5 (hb hby d328) rfl ?_
  exact gretI hx hret (hb hby d329) (by decide) (by decide) (fun vq Cq => ⟨rfl, rfl⟩)
theorem d332 : decode y52_ 44 = .ok (.aload_n 0, 1) := by decide +kernel
theorem d333 : decode y52_ 45 = .ok (.invokeinterface 30 1, 5) := by decide +kernel
abbrev mn334 : MethodName := ⟨"java/util/Collection", "toArray", "()[Ljava/lang/Object;"⟩
theorem d335 : decode y52_ 50 = .ok (.invokestatic 34, 3) := by decide +kernel
theorem own_pd336 : parseMethodDescriptor "([Ljava/lang/Object;)Ljava/util/List;" = some ⟨[(.array (.object "java/lang/Object"))], some (.object "java/util/List")⟩ := by decide +kernel
theorem d337 : decode y52_ 53 = .ok (.areturn, 1) := by decide +kernel
theorem own_lc1 (l : Launch) (Z : State) (a0 : Array Value) (cx : Ctx Z a0) (ws : List Jvm.Cond) (x : Addr) (d : Addr) (kc : ClassId) (s0_ : Addr) (dz : Addr) (el : Addr) (ee : Addr) (em : Addr) (mr : Addr) (kd : ClassId) (ke : ClassId) (vm0 : Vm) (h0 : Heap) (X00 : Ext Z.heap h0) (P0 : Exa Z h0 x c14_) (P1 : Fld Z h0 x c14_ c6_ c4_ (.ref d)) (P2 : Fld Z h0 x c14_ "size" "I" (.int (1 : Int32))) (P3 : Arv Z h0 d kc (.object c11_) (10 : Int32) [(.ref s0_), .null, .null, .null, .null, .null, .null, .null, .null, .null] .null) (P4 : Exa Z h0 d c4_) (hov : (Ovr Z kc c11_)) (P6 : Exa Z h0 s0_ c12_) (hL : (OwnL Z dz el ee em mr kd ke)) :
    Met l mn319 y52_ 2 (some (.object c19_)) ws ({ frames := 6, cells := 2, slots := 3, locals := 75 } : Room) Z ([] : List (String × Nat)) vm0 h0 #[(.ref x)] (fun rv vm h => ∃ (r : Addr), rv = some (.ref r) ∧ Keep h0 h [] ∧ h0.size ≤ r ∧ Exa Z h r c17_ ∧ Fld Z h r c17_ "e0" c0_ (.ref s0_) ∧ Fld Z h r c17_ "e1" c0_ (.ref em)) := by
  obtain ⟨hw, hEL, ⟨zc, Scs, hzc⟩, ⟨fm, Sfm, hfm⟩, hL0, hB0, hO0⟩ := id cx
  refine Met.of_walk (a0 := a0) #[vr x, un] (plainFor_of_name own_pn320) X00 hEL (fun m => by first | (simp [entryFrame, mkF, argsToLocals, Value.category]; done) | rfl) ?_
  intro p e s m below meth c vm hx hby hml hret hnm hC0 hW0
  have lt_x : h0.size > x := P0.lt
  have lt_d : h0.size > d := P3.lt
  have lt_s0_ : h0.size > s0_ := P6.lt
  obtain ⟨Sdz, Edz, Vdz, Sel, Eel, Fee, Vee, Fan, Sem, Eem, Mmr⟩ := id hL
  refine uAN 1 hx hby d306 rfl rfl rfl ?_
  refine ginstN hx (ow hw 114 rfl) P0 (NSno (ow hw 115 rfl) (ow hw 322 rfl) (NS.step (ow hw 115 rfl) (NS.step (ow hw 116 rfl) (NS.step (ow hw 117 rfl) (NSroot (ow hw 118 rfl) (ow hw 322 rfl) (by decide)) (by decide)) (by decide)) (by decide)) (by decide)) 4 (hb hby d307) rfl ?_
  refine uN 7 hx hby d308 rfl ((if0 _ _).trans (teq (by decide)).2) ?_
  refine uAN 8 hx hby d309 rfl rfl rfl ?_
  refine ginstN hx (ow hw 119 rfl) P0 (NSno3 (ow hw 115 rfl) (ow hw 176 rfl) rfl (NS.step (ow hw 115 rfl) (NS.step (ow hw 116 rfl) (NS.step (ow hw 117 rfl) (NSroot3 (ow hw 118 rfl) (ow hw 176 rfl) rfl (by decide)) (by decide)) (by decide)) (by decide)) (by decide)) 11 (hb hby d310) rfl ?_
  refine uY 31 hx hby d311 ((if0 _ _).trans (teq (by decide)).1) (by decide) (by decide) ?_
  refine uAN 32 hx hby d312 rfl rfl rfl ?_
  refine ginfo fun _ _ O1 => ?_
  refine gcallF (xi := mn314) (y := mn193) hx (ow hw 120 rfl) (ow hw 121 rfl) (fun _ _ hU => mvT hU (ow hw 122 rfl)) (ow hw 123 rfl) (ow hw 124 rfl) (ow hw 125 rfl) (ow hw 126 rfl) (ow hw 127 rfl) (by decide) (fun hZ H hEL => Pay.of_met (W := 0) (own_alempty1 l Z a0 cx [] (x) vm h0 O1 P2) (ow hw 128 rfl) (ow hw 35 rfl) (by decide) (by decide) hZ H hEL) 37 (argsL := []) (rest := []) P0 (lenOf own_pd73 rfl) rfl rfl (Nat.le_of_eq rfl) (by rw [hml]; rfl) (hb hby d313) rfl (by decide) (by decide) ?_
  rintro _ vm1 h1 C1 ⟨rfl, rfl⟩
  have z1 := C1.2.1
  refine gat1 ?_
  refine uY 44 hx hby d315 ((if0 _ _).trans (teq (by decide)).1) (by decide) (by decide) ?_
  refine uAN 45 hx hby d332 rfl rfl rfl ?_
  refine ginfo fun _ _ O2 => ?_
  refine gcallF (xi := mn334) (y := mn282) hx (ow hw 289 rfl) (ow hw 290 rfl) (fun _ _ hU => mvT hU (ow hw 291 rfl)) (ow hw 292 rfl) (ow hw 293 rfl) (ow hw 294 rfl) (ow hw 295 rfl) (ow hw 127 rfl) (by decide) (fun hZ H hEL => Pay.of_met (W := 0) (own_toarr1 l Z a0 cx [] (x) (d) (kc) (s0_) (dz) (el) (ee) (em) (mr) (kd) (ke) vm1 h0 O2 P0 P1 P2 P3 P4 (by first | assumption | decide | omega) P6 (by first | assumption | decide | omega)) (ow hw 296 rfl) (ow hw 35 rfl) (by decide) (by decide) hZ H hEL) 50 (argsL := []) (rest := []) P0 (lenOf own_pd157 rfl) rfl rfl (Nat.le_of_eq rfl) (by rw [hml]; rfl) (hb hby d333) rfl (by decide) (by decide) ?_
  rintro _ vm2 h2 C2 ⟨r2, kr2, rfl, K2, q2_0, q2_1⟩
  have z2 := C2.2.1
  have lt_r2 : h2.size > r2 := q2_1.lt
  refine gat1 ?_
  have f4 := (P6.keep K2)
  refine ginfo fun _ _ O3 => ?_
  refine gcallS (y := mn294) hx (ow hw 318 rfl) (ow hw 319 rfl) (ow hw 108 rfl) (ow hw 320 rfl) (by decide) (fun hZ H hEL => Pay.of_met (W := 0) (own_of1 l Z a0 cx [] (r2) (kr2) (s0_) (dz) (el) (ee) (em) (mr) (kd) (ke) vm2 h2 O3 q2_1 f4 (by first | assumption | decide | omega)) (ow hw 320 rfl) (ow hw 108 rfl) (by decide) (by decide) hZ H hEL) 53 (argsL := [(.ref r2)]) (rest := []) (lenOf own_pd336 rfl) rfl rfl (Nat.le_of_eq rfl) (by rw [hml]; rfl) (hb hby d335) rfl (by decide) (by decide) ?_
  rintro _ vm3 h3 C3 ⟨r3, rfl, K3, q3_0, q3_1, q3_2, q3_3⟩
  have z3 := C3.2.1
  have lt_r3 : h3.size > r3 := q3_1.lt
  refine gat1 ?_
  exact gretA hx hret rfl rfl (hb hby d337) (by decide) (by decide) (fun vq Cq => ⟨r3, rfl, (((Keep.refl h0 []).trans K2 all0).trans K3 all0), (by omega), q3_1, q3_2, q3_3⟩)
theorem own_copy1 (l : Launch) (Z : State) (a0 : Array Value) (cx : Ctx Z a0) (ws : List Jvm.Cond) (x : Addr) (d : Addr) (kc : ClassId) (s0_ : Addr) (dz : Addr) (el : Addr) (ee : Addr) (em : Addr) (mr : Addr) (kd : ClassId) (ke : ClassId) (vm0 : Vm) (h0 : Heap) (X00 : Ext Z.heap h0) (P0 : Exa Z h0 x c14_) (P1 : Fld Z h0 x c14_ c6_ c4_ (.ref d)) (P2 : Fld Z h0 x c14_ "size" "I" (.int (1 : Int32))) (P3 : Arv Z h0 d kc (.object c11_) (10 : Int32) [(.ref s0_), .null, .null, .null, .null, .null, .null, .null, .null, .null] .null) (P4 : Exa Z h0 d c4_) (hov : (Ovr Z kc c11_)) (P6 : Exa Z h0 s0_ c12_) (hL : (OwnL Z dz el ee em mr kd ke)) :
    Met l mn325 y21_ 1 (some (.object c19_)) ws ({ frames := 7, cells := 2, slots := 3, locals := 88 } : Room) Z ([] : List (String × Nat)) vm0 h0 #[(.ref x)] (fun rv vm h => ∃ (r : Addr), rv = some (.ref r) ∧ Keep h0 h [] ∧ h0.size ≤ r ∧ Exa Z h r c17_ ∧ Fld Z h r c17_ "e0" c0_ (.ref s0_) ∧ Fld Z h r c17_ "e1" c0_ (.ref em)) := by
  obtain ⟨hw, hEL, ⟨zc, Scs, hzc⟩, ⟨fm, Sfm, hfm⟩, hL0, hB0, hO0⟩ := id cx
  refine Met.of_walk (a0 := a0) #[vr x] (plainFor_of_name own_pn198) X00 hEL (fun m => by first | (simp [entryFrame, mkF, argsToLocals, Value.category]; done) | rfl) ?_
  intro p e s m below meth c vm hx hby hml hret hnm hC0 hW0
  have lt_x : h0.size > x := P0.lt
  have lt_d : h0.size > d := P3.lt
  have lt_s0_ : h0.size > s0_ := P6.lt
  obtain ⟨Sdz, Edz, Vdz, Sel, Eel, Fee, Vee, Fan, Sem, Eem, Mmr⟩ := id hL
  refine uAN 1 hx hby d321 rfl rfl rfl ?_
  refine ginfo fun _ _ O1 => ?_
  refine gcallS (y := mn319) hx (ow hw 110 rfl) (ow hw 111 rfl) (ow hw 112 rfl) (ow hw 113 rfl) (by decide) (fun hZ H hEL => Pay.of_met (W := 0) (own_lc1 l Z a0 cx [] (x) (d) (kc) (s0_) (dz) (el) (ee) (em) (mr) (kd) (ke) vm h0 O1 P0 P1 P2 P3 P4 (by first | assumption | decide | omega) P6 (by first | assumption | decide | omega)) (ow hw 113 rfl) (ow hw 112 rfl) (by decide) (by decide) hZ H hEL) 4 (argsL := [(.ref x)]) (rest := []) (lenOf own_pd323 rfl) rfl rfl (Nat.le_of_eq rfl) (by rw [hml]; rfl) (hb hby d322) rfl (by decide) (by decide) ?_
  rintro _ vm1 h1 C1 ⟨r1, rfl, K1, q1_0, q1_1, q1_2, q1_3⟩
  have z1 := C1.2.1
  have lt_r1 : h1.size > r1 := q1_1.lt
  refine gat1 ?_
  exact gretA hx hret rfl rfl (hb hby d324) (by decide) (by decide) (fun vq Cq => ⟨r1, rfl, ((Keep.refl h0 []).trans K1 all0), (by omega), q1_1, q1_2, q1_3⟩)
theorem d338 : decode y37_ 0 = .ok (.aload_n 0, 1) := by decide +kernel
theorem d339 : decode y37_ 1 = .ok (.getfield 24, 3) := by decide +kernel
theorem d340 : decode y37_ 4 = .ok (.getstatic 19, 3) := by decide +kernel
theorem d341 : decode y37_ 7 = .ok (.if_acmp .eq 7, 3) := by decide +kernel
theorem d342 : decode y37_ 14 = .ok (.iconst 1, 1) := by decide +kernel
theorem d343 : decode y37_ 15 = .ok (.ireturn, 1) := by decide +kernel
abbrev mn344 : MethodName := ⟨"java/util/ImmutableCollections$List12", "size", "()I"⟩
theorem own_lsize1 (l : Launch) (Z : State) (a0 : Array Value) (cx : Ctx Z a0) (ws : List Jvm.Cond) (r : Addr) (s0_ : Addr) (dz : Addr) (el : Addr) (ee : Addr) (em : Addr) (mr : Addr) (kd : ClassId) (ke : ClassId) (vm0 : Vm) (h0 : Heap) (X00 : Ext Z.heap h0) (P0 : Exa Z h0 r c17_) (P1 : Fld Z h0 r c17_ "e0" c0_ (.ref s0_)) (P2 : Fld Z h0 r c17_ "e1" c0_ (.ref em)) (P3 : Exa Z h0 s0_ c12_) (hL : (OwnL Z dz el ee em mr kd ke)) :
    Met l mn344 y37_ 1 (some .int) ws ({ frames := 0, cells := 0, slots := 0, locals := 0 } : Room) Z ([] : List (String × Nat)) vm0 h0 #[(.ref r)] (fun rv vm h => rv = some (.int (1 : Int32)) ∧ h0 = h) := by
  obtain ⟨hw, hEL, ⟨zc, Scs, hzc⟩, ⟨fm, Sfm, hfm⟩, hL0, hB0, hO0⟩ := id cx
  refine Met.of_walk (a0 := a0) #[vr r] (plainFor_of_name own_pn227) X00 hEL (fun m => by first | (simp [entryFrame, mkF, argsToLocals, Value.category]; done) | rfl) ?_
  intro p e s m below meth c vm hx hby hml hret hnm hC0 hW0
  have lt_r : h0.size > r := P0.lt
  have lt_s0_ : h0.size > s0_ := P3.lt
  obtain ⟨Sdz, Edz, Vdz, Sel, Eel, Fee, Vee, Fan, Sem, Eem, Mmr⟩ := id hL
  refine ginfo fun _ _ OL1 => ?_
  have Eem_1 := Eem.ext OL1
  have lt_em : h0.size > em := Eem_1.lt
  refine uAN 1 hx hby d338 rfl rfl rfl ?_
  refine ggetF (host := "") hx (Or.inl (ow hw 347 rfl)) Via.refl P2 4 (hb hby d339) rfl ?_
  refine ggetS (host := c16_) hx (Or.inr (ow hw 346 rfl)) Via.refl Sem 7 (hb hby d340) rfl ?_
  refine gx (mkF m 14 #[vr r] []) (fun T locs X _ _ _ _ kq => Jvm.RoadKit.acmp (g := (mkF m 7 #[vr r] [(.ref em), (.ref em)])) X hx rfl rfl rfl (pc0 := 7) (pc' := 14) (same := true) rfl (hb hby d341) rfl (decide_eq_true rfl) (by decide) (by decide) kq) ?_
  refine uKc 15 (1 : Int32) hx hby d342 rfl rfl ?_
  exact gretI hx hret (hb hby d343) (by decide) (by decide) (fun vq Cq => ⟨rfl, rfl⟩)
theorem d345 : decode y38_ 0 = .ok (.iload_n 1, 1) := by decide +kernel
theorem d346 : decode y38_ 1 = .ok (.ifCond .ne 8, 3) := by decide +kernel
theorem d347 : decode y38_ 4 = .ok (.aload_n 0, 1) := by decide +kernel
theorem d348 : decode y38_ 5 = .ok (.getfield 13, 3) := by decide +kernel
theorem d349 : decode y38_ 8 = .ok (.areturn, 1) := by decide +kernel
abbrev mn350 : MethodName := ⟨"java/util/ImmutableCollections$List12", "get", "(I)Ljava/lang/Object;"⟩
theorem own_lget1_0 (l : Launch) (Z : State) (a0 : Array Value) (cx : Ctx Z a0) (ws : List Jvm.Cond) (r : Addr) (s0_ : Addr) (dz : Addr) (el : Addr) (ee : Addr) (em : Addr) (mr : Addr) (kd : ClassId) (ke : ClassId) (vm0 : Vm) (h0 : Heap) (X00 : Ext Z.heap h0) (P0 : Exa Z h0 r c17_) (P1 : Fld Z h0 r c17_ "e0" c0_ (.ref s0_)) (P2 : Fld Z h0 r c17_ "e1" c0_ (.ref em)) (P3 : Exa Z h0 s0_ c12_) (hL : (OwnL Z dz el ee em mr kd ke)) :
    Met l mn350 y38_ 2 (some (.object c11_)) ws ({ frames := 0, cells := 0, slots := 0, locals := 0 } : Room) Z ([] : List (String × Nat)) vm0 h0 #[(.ref r), (.int (0 : Int32))] (fun rv vm h => rv = some (.ref s0_) ∧ h0 = h) := by
  obtain ⟨hw, hEL, ⟨zc, Scs, hzc⟩, ⟨fm, Sfm, hfm⟩, hL0, hB0, hO0⟩ := id cx
  refine Met.of_walk (a0 := a0) #[vr r, vi (0 : Int32)] (plainFor_of_name own_pn227) X00 hEL (fun m => by first | (simp [entryFrame, mkF, argsToLocals, Value.category]; done) | rfl) ?_
  intro p e s m below meth c vm hx hby hml hret hnm hC0 hW0
  have lt_r : h0.size > r := P0.lt
  have lt_s0_ : h0.size > s0_ := P3.lt
  obtain ⟨Sdz, Edz, Vdz, Sel, Eel, Fee, Vee, Fan, Sem, Eem, Mmr⟩ := id hL
  refine ginfo fun _ _ OL1 => ?_
  have Eem_1 := Eem.ext OL1
  have lt_em : h0.size > em := Eem_1.lt
  refine uIN 1 hx hby d345 rfl rfl ?_
  refine uN 4 hx hby d346 rfl ((if0 _ _).trans (teq (by decide)).2) ?_
  refine uAN 5 hx hby d347 rfl rfl rfl ?_
  refine ggetF (host := "") hx (Or.inl (ow hw 344 rfl)) Via.refl P1 8 (hb hby d348) rfl ?_
  exact gretA hx hret rfl rfl (hb hby d349) (by decide) (by decide) (fun vq Cq => ⟨rfl, rfl⟩)
theorem own_lc2 (l : Launch) (Z : State) (a0 : Array Value) (cx : Ctx Z a0) (ws : List Jvm.Cond) (x : Addr) (d : Addr) (kc : ClassId) (s0_ : Addr) (s1_ : Addr) (dz : Addr) (el : Addr) (ee : Addr) (em : Addr) (mr : Addr) (kd : ClassId) (ke : ClassId) (vm0 : Vm) (h0 : Heap) (X00 : Ext Z.heap h0) (P0 : Exa Z h0 x c14_) (P1 : Fld Z h0 x c14_ c6_ c4_ (.ref d)) (P2 : Fld Z h0 x c14_ "size" "I" (.int (2 : Int32))) (P3 : Arv Z h0 d kc (.object c11_) (10 : Int32) [(.ref s0_), (.ref s1_), .null, .null, .null, .null, .null, .null, .null, .null] .null) (P4 : Exa Z h0 d c4_) (hov : (Ovr Z kc c11_)) (P6 : Exa Z h0 s0_ c12_) (P7 : Exa Z h0 s1_ c12_) (hL : (OwnL Z dz el ee em mr kd ke)) :
    Met l mn319 y52_ 2 (some (.object c19_)) ws ({ frames := 6, cells := 2, slots := 4, locals := 76 } : Room) Z ([] : List (String × Nat)) vm0 h0 #[(.ref x)] (fun rv vm h => ∃ (r : Addr), rv = some (.ref r) ∧ Keep h0 h [] ∧ h0.size ≤ r ∧ Exa Z h r c17_ ∧ Fld Z h r c17_ "e0" c0_ (.ref s0_) ∧ Fld Z h r c17_ "e1" c0_ (.ref s1_)) := by
  obtain ⟨hw, hEL, ⟨zc, Scs, hzc⟩, ⟨fm, Sfm, hfm⟩, hL0, hB0, hO0⟩ := id cx
  refine Met.of_walk (a0 := a0) #[vr x, un] (plainFor_of_name own_pn320) X00 hEL (fun m => by first | (simp [entryFrame, mkF, argsToLocals, Value.category]; done) | rfl) ?_
  intro p e s m below meth c vm hx hby hml hret hnm hC0 hW0
  have lt_x : h0.size > x := P0.lt
  have lt_d : h0.size > d := P3.lt
  have lt_s0_ : h0.size > s0_ := P6.lt
  have lt_s1_ : h0.size > s1_ := P7.lt
  obtain ⟨Sdz, Edz, Vdz, Sel, Eel, Fee, Vee, Fan, Sem, Eem, Mmr⟩ := id hL
  refine uAN 1 hx hby d306 rfl rfl rfl ?_
  refine ginstN hx (ow hw 114 rfl) P0 (NSno (ow hw 115 rfl) (ow hw 322 rfl) (NS.step (ow hw 115 rfl) (NS.step (ow hw 116 rfl) (NS.step (ow hw 117 rfl) (NSroot (ow hw 118 rfl) (ow hw 322 rfl) (by decide)) (by decide)) (by decide)) (by decide)) (by decide)) 4 (hb hby d307) rfl ?_
  refine uN 7 hx hby d308 rfl ((if0 _ _).trans (teq (by decide)).2) ?_
  refine uAN 8 hx hby d309 rfl rfl rfl ?_
  refine ginstN hx (ow hw 119 rfl) P0 (NSno3 (ow hw 115 rfl) (ow hw 176 rfl) rfl (NS.step (ow hw 115 rfl) (NS.step (ow hw 116 rfl) (NS.step (ow hw 117 rfl) (NSroot3 (ow hw 118 rfl) (ow hw 176 rfl) rfl (by decide)) (by decide)) (by decide)) (by decide)) (by decide)) 11 (hb hby d310) rfl ?_
  refine uY 31 hx hby d311 ((if0 _ _).trans (teq (by decide)).1) (by decide) (by decide) ?_
  refine uAN 32 hx hby d312 rfl rfl rfl ?_
  refine ginfo fun _ _ O1 => ?_
  refine gcallF (xi := mn314) (y := mn193) hx (ow hw 120 rfl) (ow hw 121 rfl) (fun _ _ hU => mvT hU (ow hw 122 rfl)) (ow hw 123 rfl) (ow hw 124 rfl) (ow hw 125 rfl) (ow hw 126 rfl) (ow hw 127 rfl) (by decide) (fun hZ H hEL => Pay.of_met (W := 0) (own_alempty2 l Z a0 cx [] (x) vm h0 O1 P2) (ow hw 128 rfl) (ow hw 35 rfl) (by decide) (by decide) hZ H hEL) 37 (argsL := []) (rest := []) P0 (lenOf own_pd73 rfl) rfl rfl (Nat.le_of_eq rfl) (by rw [hml]; rfl) (hb hby d313) rfl (by decide) (by decide) ?_
  rintro _ vm1 h1 C1 ⟨rfl, rfl⟩
  have z1 := C1.2.1
  refine gat1 ?_
  refine uY 44 hx hby d315 ((if0 _ _).trans (teq (by decide)).1) (by decide) (by decide) ?_
  refine uAN 45 hx hby d332 rfl rfl rfl ?_
  refine ginfo fun _ _ O2 => ?_
  refine gcallF (xi := mn334) (y := mn282) hx (ow hw 289 rfl) (ow hw 290 rfl) (fun _ _ hU => mvT hU (ow hw 291 rfl)) (ow hw 292 rfl) (ow hw 293 rfl) (ow hw 294 rfl) (ow hw 295 rfl) (ow hw 127 rfl) (by decide) (fun hZ H hEL => Pay.of_met (W := 0) (own_toarr2 l Z a0 cx [] (x) (d) (kc) (s0_) (s1_) (dz) (el) (ee) (em) (mr) (kd) (ke) vm1 h0 O2 P0 P1 P2 P3 P4 (by first | assumption | decide | omega) P6 P7 (by first | assumption | decide | omega)) (ow hw 296 rfl) (ow hw 35 rfl) (by decide) (by decide) hZ H hEL) 50 (argsL := []) (rest := []) P0 (lenOf own_pd157 rfl) rfl rfl (Nat.le_of_eq rfl) (by rw [hml]; rfl) (hb hby d333) rfl (by decide) (by decide) ?_
  rintro _ vm2 h2 C2 ⟨r2, kr2, rfl, K2, q2_0, q2_1⟩
  have z2 := C2.2.1
  have lt_r2 : h2.size > r2 := q2_1.lt
  refine gat1 ?_
  have f4 := (P6.keep K2)
  have f5 := (P7.keep K2)
  refine ginfo fun _ _ O3 => ?_
  refine gcallS (y := mn294) hx (ow hw 318 rfl) (ow hw 319 rfl) (ow hw 108 rfl) (ow hw 320 rfl) (by decide) (fun hZ H hEL => Pay.of_met (W := 0) (own_of2 l Z a0 cx [] (r2) (kr2) (s0_) (s1_) (dz) (el) (ee) (em) (mr) (kd) (ke) vm2 h2 O3 q2_1 f4 f5 (by first | assumption | decide | omega)) (ow hw 320 rfl) (ow hw 108 rfl) (by decide) (by decide) hZ H hEL) 53 (argsL := [(.ref r2)]) (rest := []) (lenOf own_pd336 rfl) rfl rfl (Nat.le_of_eq rfl) (by rw [hml]; rfl) (hb hby d335) rfl (by decide) (by decide) ?_
  rintro _ vm3 h3 C3 ⟨r3, rfl, K3, q3_0, q3_1, q3_2, q3_3⟩
  have z3 := C3.2.1
  have lt_r3 : h3.size > r3 := q3_1.lt
  refine gat1 ?_
  exact gretA hx hret rfl rfl (hb hby d337) (by decide) (by decide) (fun vq Cq => ⟨r3, rfl, (((Keep.refl h0 []).trans K2 all0).trans K3 all0), (by omega), q3_1, q3_2, q3_3⟩)
theorem own_copy2 (l : Launch) (Z : State) (a0 : Array Value) (cx : Ctx Z a0) (ws : List Jvm.Cond) (x : Addr) (d : Addr) (kc : ClassId) (s0_ : Addr) (s1_ : Addr) (dz : Addr) (el : Addr) (ee : Addr) (em : Addr) (mr : Addr) (kd : ClassId) (ke : ClassId) (vm0 : Vm) (h0 : Heap) (X00 : Ext Z.heap h0) (P0 : Exa Z h0 x c14_) (P1 : Fld Z h0 x c14_ c6_ c4_ (.ref d)) (P2 : Fld Z h0 x c14_ "size" "I" (.int (2 : Int32))) (P3 : Arv Z h0 d kc (.object c11_) (10 : Int32) [(.ref s0_), (.ref s1_), .null, .null, .null, .null, .null, .null, .null, .null] .null) (P4 : Exa Z h0 d c4_) (hov : (Ovr Z kc c11_)) (P6 : Exa Z h0 s0_ c12_) (P7 : Exa Z h0 s1_ c12_) (hL : (OwnL Z dz el ee em mr kd ke)) :
    Met l mn325 y21_ 1 (some (.object c19_)) ws ({ frames := 7, cells := 2, slots := 4, locals := 89 } : Room) Z ([] : List (String × Nat)) vm0 h0 #[(.ref x)] (fun rv vm h => ∃ (r : Addr), rv = some (.ref r) ∧ Keep h0 h [] ∧ h0.size ≤ r ∧ Exa Z h r c17_ ∧ Fld Z h r c17_ "e0" c0_ (.ref s0_) ∧ Fld Z h r c17_ "e1" c0_ (.ref s1_)) := by
  obtain ⟨hw, hEL, ⟨zc, Scs, hzc⟩, ⟨fm, Sfm, hfm⟩, hL0, hB0, hO0⟩ := id cx
  refine Met.of_walk (a0 := a0) #[vr x] (plainFor_of_name own_pn198) X00 hEL (fun m => by first | (simp [entryFrame, mkF, argsToLocals, Value.category]; done) | rfl) ?_
  intro p e s m below meth c vm hx hby hml hret hnm hC0 hW0
  have lt_x : h0.size > x := P0.lt
  have lt_d : h0.size > d := P3.lt
  have lt_s0_ : h0.size > s0_ := P6.lt
  have lt_s1_ : h0.size > s1_ := P7.lt
  obtain ⟨Sdz, Edz, Vdz, Sel, Eel, Fee, Vee, Fan, Sem, Eem, Mmr⟩ := id hL
  refine uAN 1 hx hby d321 rfl rfl rfl ?_
  refine ginfo fun _ _ O1 => ?_
  refine gcallS (y := mn319) hx (ow hw 110 rfl) (ow hw 111 rfl) (ow hw 112 rfl) (ow hw 113 rfl) (by decide) (fun hZ H hEL => Pay.of_met (W := 0) (own_lc2 l Z a0 cx [] (x) (d) (kc) (s0_) (s1_) (dz) (el) (ee) (em) (mr) (kd) (ke) vm h0 O1 P0 P1 P2 P3 P4 (by first | assumption | decide | omega) P6 P7 (by first | assumption | decide | omega)) (ow hw 113 rfl) (ow hw 112 rfl) (by decide) (by decide) hZ H hEL) 4 (argsL := [(.ref x)]) (rest := []) (lenOf own_pd323 rfl) rfl rfl (Nat.le_of_eq rfl) (by rw [hml]; rfl) (hb hby d322) rfl (by decide) (by decide) ?_
  rintro _ vm1 h1 C1 ⟨r1, rfl, K1, q1_0, q1_1, q1_2, q1_3⟩
  have z1 := C1.2.1
  have lt_r1 : h1.size > r1 := q1_1.lt
  refine gat1 ?_
  exact gretA hx hret rfl rfl (hb hby d324) (by decide) (by decide) (fun vq Cq => ⟨r1, rfl, ((Keep.refl h0 []).trans K1 all0), (by omega), q1_1, q1_2, q1_3⟩)
theorem d351 : decode y37_ 10 = .ok (.iconst 2, 1) := by decide +kernel
theorem d352 : decode y37_ 11 = .ok (.goto 4, 3) := by decide +kernel
theorem own_lsize2 (l : Launch) (Z : State) (a0 : Array Value) (cx : Ctx Z a0) (ws : List Jvm.Cond) (r : Addr) (s0_ : Addr) (s1_ : Addr) (dz : Addr) (el : Addr) (ee : Addr) (em : Addr) (mr : Addr) (kd : ClassId) (ke : ClassId) (vm0 : Vm) (h0 : Heap) (X00 : Ext Z.heap h0) (P0 : Exa Z h0 r c17_) (P1 : Fld Z h0 r c17_ "e0" c0_ (.ref s0_)) (P2 : Fld Z h0 r c17_ "e1" c0_ (.ref s1_)) (P3 : Exa Z h0 s0_ c12_) (P4 : Exa Z h0 s1_ c12_) (hL : (OwnL Z dz el ee em mr kd ke)) :
    Met l mn344 y37_ 1 (some .int) ws ({ frames := 0, cells := 0, slots := 0, locals := 0 } : Room) Z ([] : List (String × Nat)) vm0 h0 #[(.ref r)] (fun rv vm h => rv = some (.int (2 : Int32)) ∧ h0 = h) := by
  obtain ⟨hw, hEL, ⟨zc, Scs, hzc⟩, ⟨fm, Sfm, hfm⟩, hL0, hB0, hO0⟩ := id cx
  refine Met.of_walk (a0 := a0) #[vr r] (plainFor_of_name own_pn227) X00 hEL (fun m => by first | (simp [entryFrame, mkF, argsToLocals, Value.category]; done) | rfl) ?_
  intro p e s m below meth c vm hx hby hml hret hnm hC0 hW0
  have lt_r : h0.size > r := P0.lt
  have lt_s0_ : h0.size > s0_ := P3.lt
  have lt_s1_ : h0.size > s1_ := P4.lt
  obtain ⟨Sdz, Edz, Vdz, Sel, Eel, Fee, Vee, Fan, Sem, Eem, Mmr⟩ := id hL
  refine ginfo fun _ _ OL1 => ?_
  have Eem_1 := Eem.ext OL1
  have lt_em : h0.size > em := Eem_1.lt
  refine uAN 1 hx hby d338 rfl rfl rfl ?_
  refine ggetF (host := "") hx (Or.inl (ow hw 347 rfl)) Via.refl P2 4 (hb hby d339) rfl ?_
  refine ggetS (host := c16_) hx (Or.inr (ow hw 346 rfl)) Via.refl Sem 7 (hb hby d340) rfl ?_
  refine gx (mkF m 10 #[vr r] []) (fun T locs X _ _ _ _ kq => Jvm.RoadKit.acmp (g := (mkF m 7 #[vr r] [(.ref em), (.ref s1_)])) X hx rfl rfl rfl (pc0 := 7) (pc' := 10) (same := false) rfl (hb hby d341) rfl (decide_eq_false fun q => (ne_exa P4 Eem_1 (by decide)) (Value.ref.inj q)) (by decide) (by decide) kq) ?_
  refine uKc 11 (2 : Int32) hx hby d351 rfl rfl ?_
  refine uG 15 hx hby d352 (by decide) (by decide) ?_
  exact gretI hx hret (hb hby d343) (by decide) (by decide) (fun vq Cq => ⟨rfl, rfl⟩)
theorem own_lget2_0 (l : Launch) (Z : State) (a0 : Array Value) (cx : Ctx Z a0) (ws : List Jvm.Cond) (r : Addr) (s0_ : Addr) (s1_ : Addr) (dz : Addr) (el : Addr) (ee : Addr) (em : Addr) (mr : Addr) (kd : ClassId) (ke : ClassId) (vm0 : Vm) (h0 : Heap) (X00 : Ext Z.heap h0) (P0 : Exa Z h0 r c17_) (P1 : Fld Z h0 r c17_ "e0" c0_ (.ref s0_)) (P2 : Fld Z h0 r c17_ "e1" c0_ (.ref s1_)) (P3 : Exa Z h0 s0_ c12_) (P4 : Exa Z h0 s1_ c12_) (hL : (OwnL Z dz el ee em mr kd ke)) :
    Met l mn350 y38_ 2 (some (.object c11_)) ws ({ frames := 0, cells := 0, slots := 0, locals := 0 } : Room) Z ([] : List (String × Nat)) vm0 h0 #[(.ref r), (.int (0 : Int32))] (fun rv vm h => rv = some (.ref s0_) ∧ h0 = h) := by
  obtain ⟨hw, hEL, ⟨zc, Scs, hzc⟩, ⟨fm, Sfm, hfm⟩, hL0, hB0, hO0⟩ := id cx
  refine Met.of_walk (a0 := a0) #[vr r, vi (0 : Int32)] (plainFor_of_name own_pn227) X00 hEL (fun m => by first | (simp [entryFrame, mkF, argsToLocals, Value.category]; done) | rfl) ?_
  intro p e s m below meth c vm hx hby hml hret hnm hC0 hW0
  have lt_r : h0.size > r := P0.lt
  have lt_s0_ : h0.size > s0_ := P3.lt
  have lt_s1_ : h0.size > s1_ := P4.lt
  obtain ⟨Sdz, Edz, Vdz, Sel, Eel, Fee, Vee, Fan, Sem, Eem, Mmr⟩ := id hL
  refine ginfo fun _ _ OL1 => ?_
  have Eem_1 := Eem.ext OL1
  have lt_em : h0.size > em := Eem_1.lt
  refine uIN 1 hx hby d345 rfl rfl ?_
  refine uN 4 hx hby d346 rfl ((if0 _ _).trans (teq (by decide)).2) ?_
  refine uAN 5 hx hby d347 rfl rfl rfl ?_
  refine ggetF (host := "") hx (Or.inl (ow hw 344 rfl)) Via.refl P1 8 (hb hby d348) rfl ?_
  exact gretA hx hret rfl rfl (hb hby d349) (by decide) (by decide) (fun vq Cq => ⟨rfl, rfl⟩)
theorem d353 : decode y38_ 9 = .ok (.iload_n 1, 1) := by decide +kernel
theorem d354 : decode y38_ 10 = .ok (.iconst 1, 1) := by decide +kernel
theorem d355 : decode y38_ 11 = .ok (.if_icmp .ne 18, 3) := by decide +kernel
theorem d356 : decode y38_ 14 = .ok (.aload_n 0, 1) := by decide +kernel
theorem d357 : decode y38_ 15 = .ok (.getfield 24, 3) := by decide +kernel
theorem d358 : decode y38_ 18 = .ok (.getstatic 19, 3) := by decide +kernel
theorem d359 : decode y38_ 21 = .ok (.if_acmp .eq 8, 3) := by decide +kernel
theorem d360 : decode y38_ 24 = .ok (.aload_n 0, 1) := by decide +kernel
theorem d361 : decode y38_ 25 = .ok (.getfield 24, 3) := by decide +kernel
theorem d362 : decode y38_ 28 = .ok (.areturn, 1) := by decide +kernel
theorem own_lget2_1 (l : Launch) (Z : State) (a0 : Array Value) (cx : Ctx Z a0) (ws : List Jvm.Cond) (r : Addr) (s0_ : Addr) (s1_ : Addr) (dz : Addr) (el : Addr) (ee : Addr) (em : Addr) (mr : Addr) (kd : ClassId) (ke : ClassId) (vm0 : Vm) (h0 : Heap) (X00 : Ext Z.heap h0) (P0 : Exa Z h0 r c17_) (P1 : Fld Z h0 r c17_ "e0" c0_ (.ref s0_)) (P2 : Fld Z h0 r c17_ "e1" c0_ (.ref s1_)) (P3 : Exa Z h0 s0_ c12_) (P4 : Exa Z h0 s1_ c12_) (hL : (OwnL Z dz el ee em mr kd ke)) :
    Met l mn350 y38_ 2 (some (.object c11_)) ws ({ frames := 0, cells := 0, slots := 0, locals := 0 } : Room) Z ([] : List (String × Nat)) vm0 h0 #[(.ref r), (.int (1 : Int32))] (fun rv vm h => rv = some (.ref s1_) ∧ h0 = h) := by
  obtain ⟨hw, hEL, ⟨zc, Scs, hzc⟩, ⟨fm, Sfm, hfm⟩, hL0, hB0, hO0⟩ := id cx
  refine Met.of_walk (a0 := a0) #[vr r, vi (1 : Int32)] (plainFor_of_name own_pn227) X00 hEL (fun m => by first | (simp [entryFrame, mkF, argsToLocals, Value.category]; done) | rfl) ?_
  intro p e s m below meth c vm hx hby hml hret hnm hC0 hW0
  have lt_r : h0.size > r := P0.lt
  have lt_s0_ : h0.size > s0_ := P3.lt
  have lt_s1_ : h0.size > s1_ := P4.lt
  obtain ⟨Sdz, Edz, Vdz, Sel, Eel, Fee, Vee, Fan, Sem, Eem, Mmr⟩ := id hL
  refine ginfo fun _ _ OL1 => ?_
  have Eem_1 := Eem.ext OL1
  have lt_em : h0.size > em := Eem_1.lt
  refine uIN 1 hx hby d345 rfl rfl ?_
  refine uY 9 hx hby d346 ((if0 _ _).trans (feq (by decide)).2) (by decide) (by decide) ?_
  refine uIN 10 hx hby d353 rfl rfl ?_
  refine uKc 11 (1 : Int32) hx hby d354 rfl rfl ?_
  refine uNc 14 hx hby d355 rfl (teq (by decide)).2 ?_
  refine uAN 15 hx hby d356 rfl rfl rfl ?_
  refine ggetF (host := "") hx (Or.inl (ow hw 347 rfl)) Via.refl P2 18 (hb hby d357) rfl ?_
  refine ggetS (host := c16_) hx (Or.inr (ow hw 346 rfl)) Via.refl Sem 21 (hb hby d358) rfl ?_
  refine gx (mkF m 24 #[vr r, vi (1 : Int32)] []) (fun T locs X _ _ _ _ kq => Jvm.RoadKit.acmp (g := (mkF m 21 #[vr r, vi (1 : Int32)] [(.ref em), (.ref s1_)])) X hx rfl rfl rfl (pc0 := 21) (pc' := 24) (same := false) rfl (hb hby d359) rfl (decide_eq_false fun q => (ne_exa P4 Eem_1 (by decide)) (Value.ref.inj q)) (by decide) (by decide) kq) ?_
  refine uAN 25 hx hby d360 rfl rfl rfl ?_
  refine ggetF (host := "") hx (Or.inl (ow hw 347 rfl)) Via.refl P2 28 (hb hby d361) rfl ?_
  exact gretA hx hret rfl rfl (hb hby d362) (by decide) (by decide) (fun vq Cq => ⟨rfl, rfl⟩)
theorem d363 : decode y45_ 0 = .ok (.aload_n 0, 1) := by decide +kernel
theorem d364 : decode y45_ 1 = .ok (.aload_n 1, 1) := by decide +kernel
theorem d365 : decode y45_ 2 = .ok (.putfield 1, 3) := by decide +kernel
theorem d366 : decode y45_ 5 = .ok (.aload_n 0, 1) := by decide +kernel
theorem d367 : decode y45_ 6 = .ok (.invokespecial 7, 3) := by decide +kernel
theorem d368 : decode y45_ 9 = .ok (.aload_n 0, 1) := by decide +kernel
theorem d369 : decode y45_ 10 = .ok (.iconst (-1), 1) := by decide +kernel
theorem d370 : decode y45_ 11 = .ok (.putfield 13, 3) := by decide +kernel
theorem d371 : decode y45_ 14 = .ok (.aload_n 0, 1) := by decide +kernel
theorem d372 : decode y45_ 15 = .ok (.aload_n 0, 1) := by decide +kernel
theorem d373 : decode y45_ 16 = .ok (.getfield 1, 3) := by decide +kernel
theorem d374 : decode y45_ 19 = .ok (.getfield 17, 3) := by decide +kernel
theorem d375 : decode y45_ 22 = .ok (.putfield 22, 3) := by decide +kernel
theorem d376 : decode y45_ 25 = .ok (.return_, 1) := by decide +kernel
abbrev mn377 : MethodName := ⟨"java/util/ArrayList$Itr", "<init>", "(Ljava/util/ArrayList;)V"⟩
theorem own_pn378 : plainName "java/util/ArrayList$Itr" = true := by first | (simp [plainName, overriddenIn]; done) | decide +kernel
theorem own_itinit (l : Launch) (Z : State) (a0 : Array Value) (cx : Ctx Z a0) (ws : List Jvm.Cond) (it : Addr) (x : Addr) (u : Value) (mc : Int32) (q1 : Int32) (q2 : Int32) (vm0 : Vm) (h0 : Heap) (X00 : Ext Z.heap h0) (P0 : Exa Z h0 it c15_) (P1 : Fld Z h0 it c15_ "this$0" c2_ u) (P2 : Fld Z h0 it c15_ "lastRet" "I" (.int q1)) (P3 : Fld Z h0 it c15_ c7_ "I" (.int q2)) (P4 : Fld Z h0 it c15_ "cursor" "I" (.int (0 : Int32))) (P5 : Z.heap.size ≤ it) (P6 : Exa Z h0 x c14_) (P7 : Fld Z h0 x c13_ "modCount" "I" (.int mc)) :
    Met l mn377 y45_ 2 none ws ({ frames := 1, cells := 0, slots := 0, locals := 12 } : Room) Z ([] : List (String × Nat)) vm0 h0 #[(.ref it), (.ref x)] (fun rv vm h => rv = none ∧ Keep h0 h [it] ∧ Fld Z h it c15_ "this$0" c2_ (.ref x) ∧ Fld Z h it c15_ "cursor" "I" (.int (0 : Int32)) ∧ Fld Z h it c15_ c7_ "I" (.int mc) ∧ Fld Z h it c15_ "lastRet" "I" (.int (-1 : Int32))) := by
  obtain ⟨hw, hEL, ⟨zc, Scs, hzc⟩, ⟨fm, Sfm, hfm⟩, hL0, hB0, hO0⟩ := id cx
  refine Met.of_walk (a0 := a0) #[vr it, vr x] (plainFor_of_name own_pn378) X00 hEL (fun m => by first | (simp [entryFrame, mkF, argsToLocals, Value.category]; done) | rfl) ?_
  intro p e s m below meth c vm hx hby hml hret hnm hC0 hW0
  have lt_it : h0.size > it := P0.lt
  have lt_x : h0.size > x := P6.lt
  refine uAN 1 hx hby d363 rfl rfl rfl ?_
  refine uAN 2 hx hby d364 rfl rfl rfl ?_
  refine gputF (host := "") hx (Or.inl (ow hw 80 rfl)) Via.refl P1 P0 (Or.inr ⟨(ow hw 81 rfl), rfl, hnm⟩) (ow hw 74 rfl) (ty := (.object c14_)) (by decide) rfl rfl P5 (fun al => Safe.exa al P0 (by decide) (by decide)) 5 (hb hby d365) rfl ?_
  intro h1 W1 C1
  have z1 := C1.2.1
  have F1 := P1.same W1
  refine uAN 6 hx hby d366 rfl rfl rfl ?_
  refine ginitO hx (ow hw 82 rfl) (ow hw 27 rfl) (ow hw 28 rfl) 9 (W := 0) (Nat.le_of_eq rfl) (by rw [hml]; rfl) (hb hby d367) rfl (by decide) (by decide) ?_
  refine uAN 10 hx hby d368 rfl rfl rfl ?_
  refine uKc 11 (-1 : Int32) hx hby d369 rfl rfl ?_
  have f3 := (P2.other W1 (Or.inr (slot_ne (Or.inl (ow hw 84 rfl)) (Or.inr (ow hw 81 rfl)) (by decide) (t := .int) (t' := (.object c14_)) (by decide) (by decide))))
  have f4 := (P0.wr W1)
  refine gputF (host := "") hx (Or.inl (ow hw 83 rfl)) Via.refl f3 f4 (Or.inl (ow hw 84 rfl)) (ow hw 74 rfl) (ty := .int) (by decide) rfl rfl P5 (fun al => Safe.exa al f4 (by decide) (by decide)) 14 (hb hby d370) rfl ?_
  intro h5 W5 C5
  have z5 := C5.2.1
  have F5 := f3.same W5
  refine uAN 15 hx hby d371 rfl rfl rfl ?_
  refine uAN 16 hx hby d372 rfl rfl rfl ?_
  have f6 := (F1.other W5 (Or.inr (slot_ne (Or.inr (ow hw 81 rfl)) (Or.inl (ow hw 84 rfl)) (by decide) (t := (.object c14_)) (t' := .int) (by decide) (by decide))))
  refine ggetF (host := "") hx (Or.inl (ow hw 80 rfl)) Via.refl f6 19 (hb hby d373) rfl ?_
  have f7 := ((P6.wr W1).wr W5)
  have f8 := (f4.wr W5)
  have f9 := ((P7.other W1 (Or.inl (ne_exa f7 f8 (by decide)))).other W5 (Or.inl (ne_exa f7 f8 (by decide))))
  refine ggetF (host := "") hx (Or.inl (ow hw 85 rfl)) (Via.of (ow hw 86 rfl)) f9 22 (hb hby d374) rfl ?_
  have f10 := ((P3.other W1 (Or.inr (slot_ne (Or.inl (ow hw 88 rfl)) (Or.inr (ow hw 81 rfl)) (by decide) (t := .int) (t' := (.object c14_)) (by decide) (by decide)))).other W5 (Or.inr (slot_ne (Or.inl (ow hw 88 rfl)) (Or.inl (ow hw 84 rfl)) (by decide) (t := .int) (t' := .int) (by decide) (by decide))))
  refine gputF (host := "") hx (Or.inl (ow hw 87 rfl)) Via.refl f10 f8 (Or.inl (ow hw 88 rfl)) (ow hw 74 rfl) (ty := .int) (by decide) rfl rfl P5 (fun al => Safe.exa al f8 (by decide) (by decide)) 25 (hb hby d375) rfl ?_
  intro h11 W11 C11
  have z11 := C11.2.1
  have F11 := f10.same W11
  have f13 := (f6.other W11 (Or.inr (slot_ne (Or.inr (ow hw 81 rfl)) (Or.inl (ow hw 88 rfl)) (by decide) (t := (.object c14_)) (t' := .int) (by decide) (by decide))))
  have f14 := (((P4.other W1 (Or.inr (slot_ne (Or.inl (ow hw 99 rfl)) (Or.inr (ow hw 81 rfl)) (by decide) (t := .int) (t' := (.object c14_)) (by decide) (by decide)))).other W5 (Or.inr (slot_ne (Or.inl (ow hw 99 rfl)) (Or.inl (ow hw 84 rfl)) (by decide) (t := .int) (t' := .int) (by decide) (by decide)))).other W11 (Or.inr (slot_ne (Or.inl (ow hw 99 rfl)) (Or.inl (ow hw 88 rfl)) (by decide) (t := .int) (t' := .int) (by decide) (by decide))))
  have f15 := (F5.other W11 (Or.inr (slot_ne (Or.inl (ow hw 84 rfl)) (Or.inl (ow hw 88 rfl)) (by decide) (t := .int) (t' := .int) (by decide) (by decide))))
  exact gretV hx hret (hb hby d376) (by decide) (by decide) (fun vq Cq => ⟨rfl, ((((Keep.refl h0 [it]).wr W1 (Or.inl (List.mem_of_getElem? (i := 0) rfl))).wr W5 (Or.inl (List.mem_of_getElem? (i := 0) rfl))).wr W11 (Or.inl (List.mem_of_getElem? (i := 0) rfl))), f13, f14, F11, f15⟩)
theorem d379 : decode y15_ 0 = .ok (.new 267, 3) := by decide +kernel
theorem d380 : decode y15_ 3 = .ok (.dup, 1) := by decide +kernel
theorem d381 : decode y15_ 4 = .ok (.aload_n 0, 1) := by decide +kernel
theorem d382 : decode y15_ 5 = .ok (.invokespecial 269, 3) := by decide +kernel
theorem own_pd383 : parseMethodDescriptor "(Ljava/util/ArrayList;)V" = some ⟨[(.object "java/util/ArrayList")], none⟩ := by decide +kernel
theorem d384 : decode y15_ 8 = .ok (.areturn, 1) := by decide +kernel
abbrev mn385 : MethodName := ⟨"java/util/ArrayList", "iterator", "()Ljava/util/Iterator;"⟩
theorem own_iterator (l : Launch) (Z : State) (a0 : Array Value) (cx : Ctx Z a0) (ws : List Jvm.Cond) (x : Addr) (mc : Int32) (vm0 : Vm) (h0 : Heap) (X00 : Ext Z.heap h0) (P0 : Exa Z h0 x c14_) (P1 : Fld Z h0 x c13_ "modCount" "I" (.int mc)) :
    Met l mn385 y15_ 1 (some (.object "java/util/Iterator")) ws ({ frames := 2, cells := 1, slots := 4, locals := 26 } : Room) Z ([] : List (String × Nat)) vm0 h0 #[(.ref x)] (fun rv vm h => ∃ (it : Addr), rv = some (.ref it) ∧ Keep h0 h [] ∧ h0.size ≤ it ∧ Z.heap.size ≤ it ∧ Exa Z h it c15_ ∧ Fld Z h it c15_ "this$0" c2_ (.ref x) ∧ Fld Z h it c15_ "cursor" "I" (.int (0 : Int32)) ∧ Fld Z h it c15_ c7_ "I" (.int mc) ∧ Fld Z h it c15_ "lastRet" "I" (.int (-1 : Int32))) := by
  obtain ⟨hw, hEL, ⟨zc, Scs, hzc⟩, ⟨fm, Sfm, hfm⟩, hL0, hB0, hO0⟩ := id cx
  refine Met.of_walk (a0 := a0) #[vr x] (plainFor_of_name own_pn113) X00 hEL (fun m => by first | (simp [entryFrame, mkF, argsToLocals, Value.category]; done) | rfl) ?_
  intro p e s m below meth c vm hx hby hml hret hnm hC0 hW0
  have lt_x : h0.size > x := P0.lt
  refine gnewO hx (ow hw 73 rfl) (ow hw 74 rfl) (ow hw 75 rfl) 3 (hb hby d379) rfl (by decide) (by decide) ?_
  intro b1 h1 g1 E1 C1 A1 D1 n1 L1
  have z1 := C1.2.1
  have lt_b1 : h1.size > b1 := A1.lt
  have F1_this_0 : Fld Z h1 b1 c15_ "this$0" c2_ .null := D1 (Or.inr (ow hw 81 rfl)) (ty := (.object c14_)) (by decide)
  have F1_lastRet : Fld Z h1 b1 c15_ "lastRet" "I" (.int (0 : Int32)) := D1 (Or.inl (ow hw 84 rfl)) (ty := .int) (by decide)
  have F1_expectedModCount : Fld Z h1 b1 c15_ c7_ "I" (.int (0 : Int32)) := D1 (Or.inl (ow hw 88 rfl)) (ty := .int) (by decide)
  have F1_cursor : Fld Z h1 b1 c15_ "cursor" "I" (.int (0 : Int32)) := D1 (Or.inl (ow hw 99 rfl)) (ty := .int) (by decide)
  refine uD 4 hx hby d380 rfl rfl ?_
  refine uAN 5 hx hby d381 rfl rfl rfl ?_
  have f3 := (P0.ext E1)
  have f4 := (P1.ext E1)
  refine ginfo fun _ _ O2 => ?_
  refine gcallI (y := mn377) hx rfl (ow hw 76 rfl) (ow hw 77 rfl) (ow hw 79 rfl) (by decide) (fun hZ H hEL => Pay.of_met (W := 1) (own_itinit l Z a0 cx [] (b1) (x) (.null) (mc) ((0 : Int32)) ((0 : Int32)) vm h1 O2 A1 F1_this_0 F1_lastRet F1_expectedModCount F1_cursor n1 f3 f4) (ow hw 79 rfl) (ow hw 75 rfl) (by decide) (by decide) hZ H hEL) (a := b1) 8 (argsL := [(.ref x)]) (rest := [(.ref b1)]) (lenOf own_pd383 rfl) rfl rfl (Nat.le_of_eq rfl) (by rw [hml]; rfl) (hb hby d382) rfl (by decide) (by decide) ?_
  rintro _ vm2 h2 C2 ⟨rfl, K2, q2_0, q2_1, q2_2, q2_3⟩
  have z2 := C2.2.1
  refine gat0 ?_
  have f6 := (A1.keep K2)
  exact gretA hx hret rfl rfl (hb hby d384) (by decide) (by decide) (fun vq Cq => ⟨b1, rfl, (((Keep.refl h0 []).ext E1).trans K2 (allS (Or.inr (by omega)) all0)), (by omega), n1, f6, q2_0, q2_1, q2_2, q2_3⟩)
theorem d386 : decode y48_ 0 = .ok (.aload_n 0, 1) := by decide +kernel
theorem d387 : decode y48_ 1 = .ok (.getfield 1, 3) := by decide +kernel
theorem d388 : decode y48_ 4 = .ok (.getfield 17, 3) := by decide +kernel
theorem d389 : decode y48_ 7 = .ok (.aload_n 0, 1) := by decide +kernel
theorem d390 : decode y48_ 8 = .ok (.getfield 22, 3) := by decide +kernel
theorem d391 : decode y48_ 11 = .ok (.if_icmp .eq 11, 3) := by decide +kernel
theorem d392 : decode y48_ 22 = .ok (.return_, 1) := by decide +kernel
abbrev mn393 : MethodName := ⟨"java/util/ArrayList$Itr", "checkForComodification", "()V"⟩
theorem own_cfc (l : Launch) (Z : State) (a0 : Array Value) (cx : Ctx Z a0) (ws : List Jvm.Cond) (it : Addr) (x : Addr) (mc : Int32) (vm0 : Vm) (h0 : Heap) (X00 : Ext Z.heap h0) (P0 : Fld Z h0 it c15_ "this$0" c2_ (.ref x)) (P1 : Fld Z h0 it c15_ c7_ "I" (.int mc)) (P2 : Fld Z h0 x c13_ "modCount" "I" (.int mc)) :
    Met l mn393 y48_ 1 none ws ({ frames := 0, cells := 0, slots := 0, locals := 0 } : Room) Z ([] : List (String × Nat)) vm0 h0 #[(.ref it)] (fun rv vm h => rv = none ∧ h0 = h) := by
  obtain ⟨hw, hEL, ⟨zc, Scs, hzc⟩, ⟨fm, Sfm, hfm⟩, hL0, hB0, hO0⟩ := id cx
  refine Met.of_walk (a0 := a0) #[vr it] (plainFor_of_name own_pn378) X00 hEL (fun m => by first | (simp [entryFrame, mkF, argsToLocals, Value.category]; done) | rfl) ?_
  intro p e s m below meth c vm hx hby hml hret hnm hC0 hW0
  have lt_it : h0.size > it := P0.lt
  have lt_x : h0.size > x := P2.lt
  refine uAN 1 hx hby d386 rfl rfl rfl ?_
  refine ggetF (host := "") hx (Or.inl (ow hw 80 rfl)) Via.refl P0 4 (hb hby d387) rfl ?_
  refine ggetF (host := "") hx (Or.inl (ow hw 85 rfl)) (Via.of (ow hw 86 rfl)) P2 7 (hb hby d388) rfl ?_
  refine uAN 8 hx hby d389 rfl rfl rfl ?_
  refine ggetF (host := "") hx (Or.inl (ow hw 87 rfl)) Via.refl P1 11 (hb hby d390) rfl ?_
  refine uYc 22 hx hby d391 (teq rfl).1 (by decide) (by decide) ?_
  exact gretV hx hret (hb hby d392) (by decide) (by decide) (fun vq Cq => ⟨rfl, rfl⟩)
theorem d394 : decode y46_ 0 = .ok (.aload_n 0, 1) := by decide +kernel
theorem d395 : decode y46_ 1 = .ok (.getfield 25, 3) := by decide +kernel
theorem d396 : decode y46_ 4 = .ok (.aload_n 0, 1) := by decide +kernel
theorem d397 : decode y46_ 5 = .ok (.getfield 1, 3) := by decide +kernel
theorem d398 : decode y46_ 8 = .ok (.getfield 28, 3) := by decide +kernel
theorem d399 : decode y46_ 11 = .ok (.if_icmp .eq 7, 3) := by decide +kernel
theorem d400 : decode y46_ 18 = .ok (.iconst 0, 1) := by decide +kernel
theorem d401 : decode y46_ 19 = .ok (.ireturn, 1) := by decide +kernel
abbrev mn402 : MethodName := ⟨"java/util/ArrayList$Itr", "hasNext", "()Z"⟩
theorem own_has0_0 (l : Launch) (Z : State) (a0 : Array Value) (cx : Ctx Z a0) (ws : List Jvm.Cond) (it : Addr) (x : Addr) (vm0 : Vm) (h0 : Heap) (X00 : Ext Z.heap h0) (P0 : Fld Z h0 it c15_ "this$0" c2_ (.ref x)) (P1 : Fld Z h0 it c15_ "cursor" "I" (.int (0 : Int32))) (P2 : Fld Z h0 x c14_ "size" "I" (.int (0 : Int32))) :
    Met l mn402 y46_ 1 (some .boolean) ws ({ frames := 0, cells := 0, slots := 0, locals := 0 } : Room) Z ([] : List (String × Nat)) vm0 h0 #[(.ref it)] (fun rv vm h => rv = some (.int (0 : Int32)) ∧ h0 = h) := by
  obtain ⟨hw, hEL, ⟨zc, Scs, hzc⟩, ⟨fm, Sfm, hfm⟩, hL0, hB0, hO0⟩ := id cx
  refine Met.of_walk (a0 := a0) #[vr it] (plainFor_of_name own_pn378) X00 hEL (fun m => by first | (simp [entryFrame, mkF, argsToLocals, Value.category]; done) | rfl) ?_
  intro p e s m below meth c vm hx hby hml hret hnm hC0 hW0
  have lt_it : h0.size > it := P0.lt
  have lt_x : h0.size > x := P2.lt
  refine uAN 1 hx hby d394 rfl rfl rfl ?_
  refine ggetF (host := "") hx (Or.inl (ow hw 98 rfl)) Via.refl P1 4 (hb hby d395) rfl ?_
  refine uAN 5 hx hby d396 rfl rfl rfl ?_
  refine ggetF (host := "") hx (Or.inl (ow hw 80 rfl)) Via.refl P0 8 (hb hby d397) rfl ?_
  refine ggetF (host := c14_) hx (Or.inr (ow hw 100 rfl)) Via.refl P2 11 (hb hby d398) rfl ?_
  refine uYc 18 hx hby d399 (teq (by decide)).1 (by decide) (by decide) ?_
  refine uKc 19 (0 : Int32) hx hby d400 rfl rfl ?_
  exact gretN (t := .boolean) hx hret (by simp) (hb hby d401) (by decide) (by decide) (fun vq Cq => ⟨rfl, rfl⟩)
theorem d403 : decode y46_ 14 = .ok (.iconst 1, 1) := by decide +kernel
theorem d404 : decode y46_ 15 = .ok (.goto 4, 3) := by decide +kernel
theorem own_has0_1 (l : Launch) (Z : State) (a0 : Array Value) (cx : Ctx Z a0) (ws : List Jvm.Cond) (it : Addr) (x : Addr) (vm0 : Vm) (h0 : Heap) (X00 : Ext Z.heap h0) (P0 : Fld Z h0 it c15_ "this$0" c2_ (.ref x)) (P1 : Fld Z h0 it c15_ "cursor" "I" (.int (0 : Int32))) (P2 : Fld Z h0 x c14_ "size" "I" (.int (1 : Int32))) :
    Met l mn402 y46_ 1 (some .boolean) ws ({ frames := 0, cells := 0, slots := 0, locals := 0 } : Room) Z ([] : List (String × Nat)) vm0 h0 #[(.ref it)] (fun rv vm h => rv = some (.int (1 : Int32)) ∧ h0 = h) := by
  obtain ⟨hw, hEL, ⟨zc, Scs, hzc⟩, ⟨fm, Sfm, hfm⟩, hL0, hB0, hO0⟩ := id cx
  refine Met.of_walk (a0 := a0) #[vr it] (plainFor_of_name own_pn378) X00 hEL (fun m => by first | (simp [entryFrame, mkF, argsToLocals, Value.category]; done) | rfl) ?_
  intro p e s m below meth c vm hx hby hml hret hnm hC0 hW0
  have lt_it : h0.size > it := P0.lt
  have lt_x : h0.size > x := P2.lt
  refine uAN 1 hx hby d394 rfl rfl rfl ?_
  refine ggetF (host := "") hx (Or.inl (ow hw 98 rfl)) Via.refl P1 4 (hb hby d395) rfl ?_
  refine uAN 5 hx hby d396 rfl rfl rfl ?_
  refine ggetF (host := "") hx (Or.inl (ow hw 80 rfl)) Via.refl P0 8 (hb hby d397) rfl ?_
  refine ggetF (host := c14_) hx (Or.inr (ow hw 100 rfl)) Via.refl P2 11 (hb hby d398) rfl ?_
  refine uNc 14 hx hby d399 rfl (feq (by decide)).1 ?_
  refine uKc 15 (1 : Int32) hx hby d403 rfl rfl ?_
  refine uG 19 hx hby d404 (by decide) (by decide) ?_
  exact gretN (t := .boolean) hx hret (by simp) (hb hby d401) (by decide) (by decide) (fun vq Cq => ⟨rfl, rfl⟩)
theorem own_has1_1 (l : Launch) (Z : State) (a0 : Array Value) (cx : Ctx Z a0) (ws : List Jvm.Cond) (it : Addr) (x : Addr) (vm0 : Vm) (h0 : Heap) (X00 : Ext Z.heap h0) (P0 : Fld Z h0 it c15_ "this$0" c2_ (.ref x)) (P1 : Fld Z h0 it c15_ "cursor" "I" (.int (1 : Int32))) (P2 : Fld Z h0 x c14_ "size" "I" (.int (1 : Int32))) :
    Met l mn402 y46_ 1 (some .boolean) ws ({ frames := 0, cells := 0, slots := 0, locals := 0 } : Room) Z ([] : List (String × Nat)) vm0 h0 #[(.ref it)] (fun rv vm h => rv = some (.int (0 : Int32)) ∧ h0 = h) := by
  obtain ⟨hw, hEL, ⟨zc, Scs, hzc⟩, ⟨fm, Sfm, hfm⟩, hL0, hB0, hO0⟩ := id cx
  refine Met.of_walk (a0 := a0) #[vr it] (plainFor_of_name own_pn378) X00 hEL (fun m => by first | (simp [entryFrame, mkF, argsToLocals, Value.category]; done) | rfl) ?_
  intro p e s m below meth c vm hx hby hml hret hnm hC0 hW0
  have lt_it : h0.size > it := P0.lt
  have lt_x : h0.size > x := P2.lt
  refine uAN 1 hx hby d394 rfl rfl rfl ?_
  refine ggetF (host := "") hx (Or.inl (ow hw 98 rfl)) Via.refl P1 4 (hb hby d395) rfl ?_
  refine uAN 5 hx hby d396 rfl rfl rfl ?_
  refine ggetF (host := "") hx (Or.inl (ow hw 80 rfl)) Via.refl P0 8 (hb hby d397) rfl ?_
  refine ggetF (host := c14_) hx (Or.inr (ow hw 100 rfl)) Via.refl P2 11 (hb hby d398) rfl ?_
  refine uYc 18 hx hby d399 (teq (by decide)).1 (by decide) (by decide) ?_
  refine uKc 19 (0 : Int32) hx hby d400 rfl rfl ?_
  exact gretN (t := .boolean) hx hret (by simp) (hb hby d401) (by decide) (by decide) (fun vq Cq => ⟨rfl, rfl⟩)
theorem d405 : decode y47_ 0 = .ok (.aload_n 0, 1) := by decide +kernel
theorem d406 : decode y47_ 1 = .ok (.invokevirtual 31, 3) := by decide +kernel
theorem d407 : decode y47_ 4 = .ok (.aload_n 0, 1) := by decide +kernel
theorem d408 : decode y47_ 5 = .ok (.getfield 25, 3) := by decide +kernel
theorem d409 : decode y47_ 8 = .ok (.istore_n 1, 1) := by decide +kernel
theorem d410 : decode y47_ 9 = .ok (.iload_n 1, 1) := by decide +kernel
theorem d411 : decode y47_ 10 = .ok (.aload_n 0, 1) := by decide +kernel
theorem d412 : decode y47_ 11 = .ok (.getfield 1, 3) := by decide +kernel
theorem d413 : decode y47_ 14 = .ok (.getfield 28, 3) := by decide +kernel
theorem d414 : decode y47_ 17 = .ok (.if_icmp .lt 11, 3) := by decide +kernel
theorem d415 : decode y47_ 28 = .ok (.aload_n 0, 1) := by decide +kernel
theorem d416 : decode y47_ 29 = .ok (.getfield 1, 3) := by decide +kernel
theorem d417 : decode y47_ 32 = .ok (.getfield 37, 3) := by decide +kernel
theorem d418 : decode y47_ 35 = .ok (.astore_n 2, 1) := by decide +kernel
theorem d419 : decode y47_ 36 = .ok (.iload_n 1, 1) := by decide +kernel
theorem d420 : decode y47_ 37 = .ok (.aload_n 2, 1) := by decide +kernel
theorem d421 : decode y47_ 38 = .ok (.arraylength, 1) := by decide +kernel
theorem d422 : decode y47_ 39 = .ok (.if_icmp .lt 11, 3) := by decide +kernel
theorem d423 : decode y47_ 50 = .ok (.aload_n 0, 1) := by decide +kernel
theorem d424 : decode y47_ 51 = .ok (.iload_n 1, 1) := by decide +kernel
theorem d425 : decode y47_ 52 = .ok (.iconst 1, 1) := by decide +kernel
theorem d426 : decode y47_ 53 = .ok (.iadd, 1) := by decide +kernel
theorem d427 : decode y47_ 54 = .ok (.putfield 25, 3) := by decide +kernel
theorem d428 : decode y47_ 57 = .ok (.aload_n 2, 1) := by decide +kernel
theorem d429 : decode y47_ 58 = .ok (.aload_n 0, 1) := by decide +kernel
theorem d430 : decode y47_ 59 = .ok (.iload_n 1, 1) := by decide +kernel
theorem d431 : decode y47_ 60 = .ok (.dup_x1, 1) := by decide +kernel
theorem d432 : decode y47_ 61 = .ok (.putfield 13, 3) := by decide +kernel
theorem d433 : decode y47_ 64 = .ok (.aaload, 1) := by decide +kernel
theorem d434 : decode y47_ 65 = .ok (.areturn, 1) := by decide +kernel
abbrev mn435 : MethodName := ⟨"java/util/ArrayList$Itr", "next", "()Ljava/lang/Object;"⟩
theorem own_next0_1 (l : Launch) (Z : State) (a0 : Array Value) (cx : Ctx Z a0) (ws : List Jvm.Cond) (it : Addr) (x : Addr) (mc : Int32) (lr : Int32) (d : Addr) (kc : ClassId) (s0_ : Addr) (vm0 : Vm) (h0 : Heap) (X00 : Ext Z.heap h0) (P0 : Exa Z h0 it c15_) (P1 : Fld Z h0 it c15_ "this$0" c2_ (.ref x)) (P2 : Fld Z h0 it c15_ "cursor" "I" (.int (0 : Int32))) (P3 : Fld Z h0 it c15_ c7_ "I" (.int mc)) (P4 : Fld Z h0 it c15_ "lastRet" "I" (.int lr)) (P5 : Z.heap.size ≤ it) (P6 : Fld Z h0 x c13_ "modCount" "I" (.int mc)) (P7 : Exa Z h0 x c14_) (P8 : Fld Z h0 x c14_ c6_ c4_ (.ref d)) (P9 : Fld Z h0 x c14_ "size" "I" (.int (1 : Int32))) (P10 : Arv Z h0 d kc (.object c11_) (10 : Int32) [(.ref s0_), .null, .null, .null, .null, .null, .null, .null, .null, .null] .null) (P11 : Exa Z h0 d c4_) (hov : (Ovr Z kc c11_)) :
    Met l mn435 y47_ 3 (some (.object c11_)) ws ({ frames := 1, cells := 0, slots := 0, locals := 12 } : Room) Z ([] : List (String × Nat)) vm0 h0 #[(.ref it)] (fun rv vm h => rv = some (.ref s0_) ∧ Keep h0 h [it] ∧ Fld Z h it c15_ "this$0" c2_ (.ref x) ∧ Fld Z h it c15_ "cursor" "I" (.int (1 : Int32)) ∧ Fld Z h it c15_ c7_ "I" (.int mc) ∧ Fld Z h it c15_ "lastRet" "I" (.int (0 : Int32))) := by
  obtain ⟨hw, hEL, ⟨zc, Scs, hzc⟩, ⟨fm, Sfm, hfm⟩, hL0, hB0, hO0⟩ := id cx
  refine Met.of_walk (a0 := a0) #[vr it, un, un] (plainFor_of_name own_pn378) X00 hEL (fun m => by first | (simp [entryFrame, mkF, argsToLocals, Value.category]; done) | rfl) ?_
  intro p e s m below meth c vm hx hby hml hret hnm hC0 hW0
  have lt_it : h0.size > it := P0.lt
  have lt_x : h0.size > x := P6.lt
  have lt_d : h0.size > d := P10.lt
  refine uAN 1 hx hby d405 rfl rfl rfl ?_
  refine ginfo fun _ _ O1 => ?_
  refine gcallV (y := mn393) (z := mn393) hx (ow hw 282 rfl) (ow hw 283 rfl) (nfSel (ow hw 285 rfl)) (ow hw 285 rfl) (ow hw 284 rfl) (by decide) (fun hZ H hEL => Pay.of_met (W := 0) (own_cfc l Z a0 cx [] (it) (x) (mc) vm h0 O1 P1 P3 P6) (ow hw 286 rfl) (ow hw 75 rfl) (by decide) (by decide) hZ H hEL) 4 (argsL := []) (rest := []) P0 (lenOf own_pd99 rfl) rfl rfl (Nat.le_of_eq rfl) (by rw [hml]; rfl) (hb hby d406) rfl (by decide) (by decide) ?_
  rintro _ vm1 h1 C1 ⟨rfl, rfl⟩
  have z1 := C1.2.1
  refine gat0 ?_
  refine uAN 5 hx hby d407 rfl rfl rfl ?_
  refine ggetF (host := "") hx (Or.inl (ow hw 98 rfl)) Via.refl P2 8 (hb hby d408) rfl ?_
  refine uSIN 9 #[vr it, vi (0 : Int32), un] hx hby d409 rfl rfl ?_
  refine uIN 10 hx hby d410 rfl rfl ?_
  refine uAN 11 hx hby d411 rfl rfl rfl ?_
  refine ggetF (host := "") hx (Or.inl (ow hw 80 rfl)) Via.refl P1 14 (hb hby d412) rfl ?_
  refine ggetF (host := c14_) hx (Or.inr (ow hw 100 rfl)) Via.refl P9 17 (hb hby d413) rfl ?_
  refine uYc 28 hx hby d414 (tlt (by decide)).1 (by decide) (by decide) ?_
  refine uAN 29 hx hby d415 rfl rfl rfl ?_
  refine ggetF (host := "") hx (Or.inl (ow hw 80 rfl)) Via.refl P1 32 (hb hby d416) rfl ?_
  refine ggetF (host := "") hx (Or.inl (ow hw 287 rfl)) Via.refl P8 35 (hb hby d417) rfl ?_
  refine uSAN 36 #[vr it, vi (0 : Int32), vr d] hx hby d418 rfl rfl rfl ?_
  refine uIN 37 hx hby d419 rfl rfl ?_
  refine uAN 38 hx hby d420 rfl rfl rfl ?_
  refine glen hx P10 39 (hb hby d421) rfl ?_
  refine uYc 50 hx hby d422 (tlt (by decide)).1 (by decide) (by decide) ?_
  refine uAN 51 hx hby d423 rfl rfl rfl ?_
  refine uIN 52 hx hby d424 rfl rfl ?_
  refine uKc 53 (1 : Int32) hx hby d425 rfl rfl ?_
  refine uiadd 54 (1 : Int32) hx hby d426 rfl (by decide) ?_
  refine gputF (host := "") hx (Or.inl (ow hw 98 rfl)) Via.refl P2 P0 (Or.inl (ow hw 99 rfl)) (ow hw 74 rfl) (ty := .int) (by decide) rfl rfl P5 (fun al => Safe.exa al P0 (by decide) (by decide)) 57 (hb hby d427) rfl ?_
  intro h2 W2 C2
  have z2 := C2.2.1
  have F2 := P2.same W2
  refine uAN 58 hx hby d428 rfl rfl rfl ?_
  refine uAN 59 hx hby d429 rfl rfl rfl ?_
  refine uIN 60 hx hby d430 rfl rfl ?_
  refine gs (mkF m 61 #[vr it, vi (0 : Int32), vr d] [(.int (0 : Int32)), (.ref it), (.int (0 : Int32)), (.ref d)]) (fun _ _ A kq => XS.dupX1 A hx rfl (hb hby d431) rfl rfl rfl kq) ?_
  have f3 := (P4.other W2 (Or.inr (slot_ne (Or.inl (ow hw 84 rfl)) (Or.inl (ow hw 99 rfl)) (by decide) (t := .int) (t' := .int) (by decide) (by decide))))
  have f4 := (P0.wr W2)
  refine gputF (host := "") hx (Or.inl (ow hw 83 rfl)) Via.refl f3 f4 (Or.inl (ow hw 84 rfl)) (ow hw 74 rfl) (ty := .int) (by decide) rfl rfl P5 (fun al => Safe.exa al f4 (by decide) (by decide)) 64 (hb hby d432) rfl ?_
  intro h5 W5 C5
  have z5 := C5.2.1
  have F5 := f3.same W5
  have f6 := ((P11.wr W2).wr W5)
  have f7 := (f4.wr W5)
  have f8 := ((P10.other W2 (ne_exa f6 f7 (by decide))).other W5 (ne_exa f6 f7 (by decide)))
  refine gldR hx f8 ⟨by decide, by decide⟩ (i := 0) rfl (v := (.ref s0_)) rfl 65 (hb hby d433) rfl ?_
  have f10 := ((P1.other W2 (Or.inr (slot_ne (Or.inr (ow hw 81 rfl)) (Or.inl (ow hw 99 rfl)) (by decide) (t := (.object c14_)) (t' := .int) (by decide) (by decide)))).other W5 (Or.inr (slot_ne (Or.inr (ow hw 81 rfl)) (Or.inl (ow hw 84 rfl)) (by decide) (t := (.object c14_)) (t' := .int) (by decide) (by decide))))
  have f11 := (F2.other W5 (Or.inr (slot_ne (Or.inl (ow hw 99 rfl)) (Or.inl (ow hw 84 rfl)) (by decide) (t := .int) (t' := .int) (by decide) (by decide))))
  have f12 := ((P3.other W2 (Or.inr (slot_ne (Or.inl (ow hw 88 rfl)) (Or.inl (ow hw 99 rfl)) (by decide) (t := .int) (t' := .int) (by decide) (by decide)))).other W5 (Or.inr (slot_ne (Or.inl (ow hw 88 rfl)) (Or.inl (ow hw 84 rfl)) (by decide) (t := .int) (t' := .int) (by decide) (by decide))))
  exact gretA hx hret rfl rfl (hb hby d434) (by decide) (by decide) (fun vq Cq => ⟨rfl, (((Keep.refl h0 [it]).wr W2 (Or.inl (List.mem_of_getElem? (i := 0) rfl))).wr W5 (Or.inl (List.mem_of_getElem? (i := 0) rfl))), f10, f11, f12, F5⟩)
theorem own_has0_2 (l : Launch) (Z : State) (a0 : Array Value) (cx : Ctx Z a0) (ws : List Jvm.Cond) (it : Addr) (x : Addr) (vm0 : Vm) (h0 : Heap) (X00 : Ext Z.heap h0) (P0 : Fld Z h0 it c15_ "this$0" c2_ (.ref x)) (P1 : Fld Z h0 it c15_ "cursor" "I" (.int (0 : Int32))) (P2 : Fld Z h0 x c14_ "size" "I" (.int (2 : Int32))) :
    Met l mn402 y46_ 1 (some .boolean) ws ({ frames := 0, cells := 0, slots := 0, locals := 0 } : Room) Z ([] : List (String × Nat)) vm0 h0 #[(.ref it)] (fun rv vm h => rv = some (.int (1 : Int32)) ∧ h0 = h) := by
  obtain ⟨hw, hEL, ⟨zc, Scs, hzc⟩, ⟨fm, Sfm, hfm⟩, hL0, hB0, hO0⟩ := id cx
  refine Met.of_walk (a0 := a0) #[vr it] (plainFor_of_name own_pn378) X00 hEL (fun m => by first | (simp [entryFrame, mkF, argsToLocals, Value.category]; done) | rfl) ?_
  intro p e s m below meth c vm hx hby hml hret hnm hC0 hW0
  have lt_it : h0.size > it := P0.lt
  have lt_x : h0.size > x := P2.lt
  refine uAN 1 hx hby d394 rfl rfl rfl ?_
  refine ggetF (host := "") hx (Or.inl (ow hw 98 rfl)) Via.refl P1 4 (hb hby d395) rfl ?_
  refine uAN 5 hx hby d396 rfl rfl rfl ?_
  refine ggetF (host := "") hx (Or.inl (ow hw 80 rfl)) Via.refl P0 8 (hb hby d397) rfl ?_
  refine ggetF (host := c14_) hx (Or.inr (ow hw 100 rfl)) Via.refl P2 11 (hb hby d398) rfl ?_
  refine uNc 14 hx hby d399 rfl (feq (by decide)).1 ?_
  refine uKc 15 (1 : Int32) hx hby d403 rfl rfl ?_
  refine uG 19 hx hby d404 (by decide) (by decide) ?_
  exact gretN (t := .boolean) hx hret (by simp) (hb hby d401) (by decide) (by decide) (fun vq Cq => ⟨rfl, rfl⟩)
theorem own_has1_2 (l : Launch) (Z : State) (a0 : Array Value) (cx : Ctx Z a0) (ws : List Jvm.Cond) (it : Addr) (x : Addr) (vm0 : Vm) (h0 : Heap) (X00 : Ext Z.heap h0) (P0 : Fld Z h0 it c15_ "this$0" c2_ (.ref x)) (P1 : Fld Z h0 it c15_ "cursor" "I" (.int (1 : Int32))) (P2 : Fld Z h0 x c14_ "size" "I" (.int (2 : Int32))) :
    Met l mn402 y46_ 1 (some .boolean) ws ({ frames := 0, cells := 0, slots := 0, locals := 0 } : Room) Z ([] : List (String × Nat)) vm0 h0 #[(.ref it)] (fun rv vm h => rv = some (.int (1 : Int32)) ∧ h0 = h) := by
  obtain ⟨hw, hEL, ⟨zc, Scs, hzc⟩, ⟨fm, Sfm, hfm⟩, hL0, hB0, hO0⟩ := id cx
  refine Met.of_walk (a0 := a0) #[vr it] (plainFor_of_name own_pn378) X00 hEL (fun m => by first | (simp [entryFrame, mkF, argsToLocals, Value.category]; done) | rfl) ?_
  intro p e s m below meth c vm hx hby hml hret hnm hC0 hW0
  have lt_it : h0.size > it := P0.lt
  have lt_x : h0.size > x := P2.lt
  refine uAN 1 hx hby d394 rfl rfl rfl ?_
  refine ggetF (host := "") hx (Or.inl (ow hw 98 rfl)) Via.refl P1 4 (hb hby d395) rfl ?_
  refine uAN 5 hx hby d396 rfl rfl rfl ?_
  refine ggetF (host := "") hx (Or.inl (ow hw 80 rfl)) Via.refl P0 8 (hb hby d397) rfl ?_
  refine ggetF (host := c14_) hx (Or.inr (ow hw 100 rfl)) Via.refl P2 11 (hb hby d398) rfl ?_
  refine uNc 14 hx hby d399 rfl (feq (by decide)).1 ?_
  refine uKc 15 (1 : Int32) hx hby d403 rfl rfl ?_
  refine uG 19 hx hby d404 (by decide) (by decide) ?_
  exact gretN (t := .boolean) hx hret (by simp) (hb hby d401) (by decide) (by decide) (fun vq Cq => ⟨rfl, rfl⟩)
theorem own_has2_2 (l : Launch) (Z : State) (a0 : Array Value) (cx : Ctx Z a0) (ws : List Jvm.Cond) (it : Addr) (x : Addr) (vm0 : Vm) (h0 : Heap) (X00 : Ext Z.heap h0) (P0 : Fld Z h0 it c15_ "this$0" c2_ (.ref x)) (P1 : Fld Z h0 it c15_ "cursor" "I" (.int (2 : Int32))) (P2 : Fld Z h0 x c14_ "size" "I" (.int (2 : Int32))) :
    Met l mn402 y46_ 1 (some .boolean) ws ({ frames := 0, cells := 0, slots := 0, locals := 0 } : Room) Z ([] : List (String × Nat)) vm0 h0 #[(.ref it)] (fun rv vm h => rv = some (.int (0 : Int32)) ∧ h0 = h) := by
  obtain ⟨hw, hEL, ⟨zc, Scs, hzc⟩, ⟨fm, Sfm, hfm⟩, hL0, hB0, hO0⟩ := id cx
  refine Met.of_walk (a0 := a0) #[vr it] (plainFor_of_name own_pn378) X00 hEL (fun m => by first | (simp [entryFrame, mkF, argsToLocals, Value.category]; done) | rfl) ?_
  intro p e s m below meth c vm hx hby hml hret hnm hC0 hW0
  have lt_it : h0.size > it := P0.lt
  have lt_x : h0.size > x := P2.lt
  refine uAN 1 hx hby d394 rfl rfl rfl ?_
  refine ggetF (host := "") hx (Or.inl (ow hw 98 rfl)) Via.refl P1 4 (hb hby d395) rfl ?_
  refine uAN 5 hx hby d396 rfl rfl rfl ?_
  refine ggetF (host := "") hx (Or.inl (ow hw 80 rfl)) Via.refl P0 8 (hb hby d397) rfl ?_
  refine ggetF (host := c14_) hx (Or.inr (ow hw 100 rfl)) Via.refl P2 11 (hb hby d398) rfl ?_
  refine uYc 18 hx hby d399 (teq (by decide)).1 (by decide) (by decide) ?_
  refine uKc 19 (0 : Int32) hx hby d400 rfl rfl ?_
  exact gretN (t := .boolean) hx hret (by simp) (hb hby d401) (by decide) (by decide) (fun vq Cq => ⟨rfl, rfl⟩)
theorem own_next0_2 (l : Launch) (Z : State) (a0 : Array Value) (cx : Ctx Z a0) (ws : List Jvm.Cond) (it : Addr) (x : Addr) (mc : Int32) (lr : Int32) (d : Addr) (kc : ClassId) (s0_ : Addr) (s1_ : Addr) (vm0 : Vm) (h0 : Heap) (X00 : Ext Z.heap h0) (P0 : Exa Z h0 it c15_) (P1 : Fld Z h0 it c15_ "this$0" c2_ (.ref x)) (P2 : Fld Z h0 it c15_ "cursor" "I" (.int (0 : Int32))) (P3 : Fld Z h0 it c15_ c7_ "I" (.int mc)) (P4 : Fld Z h0 it c15_ "lastRet" "I" (.int lr)) (P5 : Z.heap.size ≤ it) (P6 : Fld Z h0 x c13_ "modCount" "I" (.int mc)) (P7 : Exa Z h0 x c14_) (P8 : Fld Z h0 x c14_ c6_ c4_ (.ref d)) (P9 : Fld Z h0 x c14_ "size" "I" (.int (2 : Int32))) (P10 : Arv Z h0 d kc (.object c11_) (10 : Int32) [(.ref s0_), (.ref s1_), .null, .null, .null, .null, .null, .null, .null, .null] .null) (P11 : Exa Z h0 d c4_) (hov : (Ovr Z kc c11_)) :
    Met l mn435 y47_ 3 (some (.object c11_)) ws ({ frames := 1, cells := 0, slots := 0, locals := 12 } : Room) Z ([] : List (String × Nat)) vm0 h0 #[(.ref it)] (fun rv vm h => rv = some (.ref s0_) ∧ Keep h0 h [it] ∧ Fld Z h it c15_ "this$0" c2_ (.ref x) ∧ Fld Z h it c15_ "cursor" "I" (.int (1 : Int32)) ∧ Fld Z h it c15_ c7_ "I" (.int mc) ∧ Fld Z h it c15_ "lastRet" "I" (.int (0 : Int32))) := by
  obtain ⟨hw, hEL, ⟨zc, Scs, hzc⟩, ⟨fm, Sfm, hfm⟩, hL0, hB0, hO0⟩ := id cx
  refine Met.of_walk (a0 := a0) #[vr it, un, un] (plainFor_of_name own_pn378) X00 hEL (fun m => by first | (simp [entryFrame, mkF, argsToLocals, Value.category]; done) | rfl) ?_
  intro p e s m below meth c vm hx hby hml hret hnm hC0 hW0
  have lt_it : h0.size > it := P0.lt
  have lt_x : h0.size > x := P6.lt
  have lt_d : h0.size > d := P10.lt
  refine uAN 1 hx hby d405 rfl rfl rfl ?_
  refine ginfo fun _ _ O1 => ?_
  refine gcallV (y := mn393) (z := mn393) hx (ow hw 282 rfl) (ow hw 283 rfl) (nfSel (ow hw 285 rfl)) (ow hw 285 rfl) (ow hw 284 rfl) (by decide) (fun hZ H hEL => Pay.of_met (W := 0) (own_cfc l Z a0 cx [] (it) (x) (mc) vm h0 O1 P1 P3 P6) (ow hw 286 rfl) (ow hw 75 rfl) (by decide) (by decide) hZ H hEL) 4 (argsL := []) (rest := []) P0 (lenOf own_pd99 rfl) rfl rfl (Nat.le_of_eq rfl) (by rw [hml]; rfl) (hb hby d406) rfl (by decide) (by decide) ?_
  rintro _ vm1 h1 C1 ⟨rfl, rfl⟩
  have z1 := C1.2.1
  refine gat0 ?_
  refine uAN 5 hx hby d407 rfl rfl rfl ?_
  refine ggetF (host := "") hx (Or.inl (ow hw 98 rfl)) Via.refl P2 8 (hb hby d408) rfl ?_
  refine uSIN 9 #[vr it, vi (0 : Int32), un] hx hby d409 rfl rfl ?_
  refine uIN 10 hx hby d410 rfl rfl ?_
  refine uAN 11 hx hby d411 rfl rfl rfl ?_
  refine ggetF (host := "") hx (Or.inl (ow hw 80 rfl)) Via.refl P1 14 (hb hby d412) rfl ?_
  refine ggetF (host := c14_) hx (Or.inr (ow hw 100 rfl)) Via.refl P9 17 (hb hby d413) rfl ?_
  refine uYc 28 hx hby d414 (tlt (by decide)).1 (by decide) (by decide) ?_
  refine uAN 29 hx hby d415 rfl rfl rfl ?_
  refine ggetF (host := "") hx (Or.inl (ow hw 80 rfl)) Via.refl P1 32 (hb hby d416) rfl ?_
  refine ggetF (host := "") hx (Or.inl (ow hw 287 rfl)) Via.refl P8 35 (hb hby d417) rfl ?_
  refine uSAN 36 #[vr it, vi (0 : Int32), vr d] hx hby d418 rfl rfl rfl ?_
  refine uIN 37 hx hby d419 rfl rfl ?_
  refine uAN 38 hx hby d420 rfl rfl rfl ?_
  refine glen hx P10 39 (hb hby d421) rfl ?_
  refine uYc 50 hx hby d422 (tlt (by decide)).1 (by decide) (by decide) ?_
  refine uAN 51 hx hby d423 rfl rfl rfl ?_
  refine uIN 52 hx hby d424 rfl rfl ?_
  refine uKc 53 (1 : Int32) hx hby d425 rfl rfl ?_
  refine uiadd 54 (1 : Int32) hx hby d426 rfl (by decide) ?_
  refine gputF (host := "") hx (Or.inl (ow hw 98 rfl)) Via.refl P2 P0 (Or.inl (ow hw 99 rfl)) (ow hw 74 rfl) (ty := .int) (by decide) rfl rfl P5 (fun al => Safe.exa al P0 (by decide) (by decide)) 57 (hb hby d427) rfl ?_
  intro h2 W2 C2
  have z2 := C2.2.1
  have F2 := P2.same W2
  refine uAN 58 hx hby d428 rfl rfl rfl ?_
  refine uAN 59 hx hby d429 rfl rfl rfl ?_
  refine uIN 60 hx hby d430 rfl rfl ?_
  refine gs (mkF m 61 #[vr it, vi (0 : Int32), vr d] [(.int (0 : Int32)), (.ref it), (.int (0 : Int32)), (.ref d)]) (fun _ _ A kq => XS.dupX1 A hx rfl (hb hby d431) rfl rfl rfl kq) ?_
  have f3 := (P4.other W2 (Or.inr (slot_ne (Or.inl (ow hw 84 rfl)) (Or.inl (ow hw 99 rfl)) (by decide) (t := .int) (t' := .int) (by decide) (by decide))))
  have f4 := (P0.wr W2)
  refine gputF (host := "") hx (Or.inl (ow hw 83 rfl)) Via.refl f3 f4 (Or.inl (ow hw 84 rfl)) (ow hw 74 rfl) (ty := .int) (by decide) rfl rfl P5 (fun al => Safe.exa al f4 (by decide) (by decide)) 64 (hb hby d432) rfl ?_
  intro h5 W5 C5
  have z5 := C5.2.1
  have F5 := f3.same W5
  have f6 := ((P11.wr W2).wr W5)
  have f7 := (f4.wr W5)
  have f8 := ((P10.other W2 (ne_exa f6 f7 (by decide))).other W5 (ne_exa f6 f7 (by decide)))
  refine gldR hx f8 ⟨by decide, by decide⟩ (i := 0) rfl (v := (.ref s0_)) rfl 65 (hb hby d433) rfl ?_
  have f10 := ((P1.other W2 (Or.inr (slot_ne (Or.inr (ow hw 81 rfl)) (Or.inl (ow hw 99 rfl)) (by decide) (t := (.object c14_)) (t' := .int) (by decide) (by decide)))).other W5 (Or.inr (slot_ne (Or.inr (ow hw 81 rfl)) (Or.inl (ow hw 84 rfl)) (by decide) (t := (.object c14_)) (t' := .int) (by decide) (by decide))))
  have f11 := (F2.other W5 (Or.inr (slot_ne (Or.inl (ow hw 99 rfl)) (Or.inl (ow hw 84 rfl)) (by decide) (t := .int) (t' := .int) (by decide) (by decide))))
  have f12 := ((P3.other W2 (Or.inr (slot_ne (Or.inl (ow hw 88 rfl)) (Or.inl (ow hw 99 rfl)) (by decide) (t := .int) (t' := .int) (by decide) (by decide)))).other W5 (Or.inr (slot_ne (Or.inl (ow hw 88 rfl)) (Or.inl (ow hw 84 rfl)) (by decide) (t := .int) (t' := .int) (by decide) (by decide))))
  exact gretA hx hret rfl rfl (hb hby d434) (by decide) (by decide) (fun vq Cq => ⟨rfl, (((Keep.refl h0 [it]).wr W2 (Or.inl (List.mem_of_getElem? (i := 0) rfl))).wr W5 (Or.inl (List.mem_of_getElem? (i := 0) rfl))), f10, f11, f12, F5⟩)
theorem own_next1_2 (l : Launch) (Z : State) (a0 : Array Value) (cx : Ctx Z a0) (ws : List Jvm.Cond) (it : Addr) (x : Addr) (mc : Int32) (lr : Int32) (d : Addr) (kc : ClassId) (s0_ : Addr) (s1_ : Addr) (vm0 : Vm) (h0 : Heap) (X00 : Ext Z.heap h0) (P0 : Exa Z h0 it c15_) (P1 : Fld Z h0 it c15_ "this$0" c2_ (.ref x)) (P2 : Fld Z h0 it c15_ "cursor" "I" (.int (1 : Int32))) (P3 : Fld Z h0 it c15_ c7_ "I" (.int mc)) (P4 : Fld Z h0 it c15_ "lastRet" "I" (.int lr)) (P5 : Z.heap.size ≤ it) (P6 : Fld Z h0 x c13_ "modCount" "I" (.int mc)) (P7 : Exa Z h0 x c14_) (P8 : Fld Z h0 x c14_ c6_ c4_ (.ref d)) (P9 : Fld Z h0 x c14_ "size" "I" (.int (2 : Int32))) (P10 : Arv Z h0 d kc (.object c11_) (10 : Int32) [(.ref s0_), (.ref s1_), .null, .null, .null, .null, .null, .null, .null, .null] .null) (P11 : Exa Z h0 d c4_) (hov : (Ovr Z kc c11_)) :
    Met l mn435 y47_ 3 (some (.object c11_)) ws ({ frames := 1, cells := 0, slots := 0, locals := 12 } : Room) Z ([] : List (String × Nat)) vm0 h0 #[(.ref it)] (fun rv vm h => rv = some (.ref s1_) ∧ Keep h0 h [it] ∧ Fld Z h it c15_ "this$0" c2_ (.ref x) ∧ Fld Z h it c15_ "cursor" "I" (.int (2 : Int32)) ∧ Fld Z h it c15_ c7_ "I" (.int mc) ∧ Fld Z h it c15_ "lastRet" "I" (.int (1 : Int32))) := by
  obtain ⟨hw, hEL, ⟨zc, Scs, hzc⟩, ⟨fm, Sfm, hfm⟩, hL0, hB0, hO0⟩ := id cx
  refine Met.of_walk (a0 := a0) #[vr it, un, un] (plainFor_of_name own_pn378) X00 hEL (fun m => by first | (simp [entryFrame, mkF, argsToLocals, Value.category]; done) | rfl) ?_
  intro p e s m below meth c vm hx hby hml hret hnm hC0 hW0
  have lt_it : h0.size > it := P0.lt
  have lt_x : h0.size > x := P6.lt
  have lt_d : h0.size > d := P10.lt
  refine uAN 1 hx hby d405 rfl rfl rfl ?_
  refine ginfo fun _ _ O1 => ?_
  refine gcallV (y := mn393) (z := mn393) hx (ow hw 282 rfl) (ow hw 283 rfl) (nfSel (ow hw 285 rfl)) (ow hw 285 rfl) (ow hw 284 rfl) (by decide) (fun hZ H hEL => Pay.of_met (W := 0) (own_cfc l Z a0 cx [] (it) (x) (mc) vm h0 O1 P1 P3 P6) (ow hw 286 rfl) (ow hw 75 rfl) (by decide) (by decide) hZ H hEL) 4 (argsL := []) (rest := []) P0 (lenOf own_pd99 rfl) rfl rfl (Nat.le_of_eq rfl) (by rw [hml]; rfl) (hb hby d406) rfl (by decide) (by decide) ?_
  rintro _ vm1 h1 C1 ⟨rfl, rfl⟩
  have z1 := C1.2.1
  refine gat0 ?_
  refine uAN 5 hx hby d407 rfl rfl rfl ?_
  refine ggetF (host := "") hx (Or.inl (ow hw 98 rfl)) Via.refl P2 8 (hb hby d408) rfl ?_
  refine uSIN 9 #[vr it, vi (1 : Int32), un] hx hby d409 rfl rfl ?_
  refine uIN 10 hx hby d410 rfl rfl ?_
  refine uAN 11 hx hby d411 rfl rfl rfl ?_
  refine ggetF (host := "") hx (Or.inl (ow hw 80 rfl)) Via.refl P1 14 (hb hby d412) rfl ?_
  refine ggetF (host := c14_) hx (Or.inr (ow hw 100 rfl)) Via.refl P9 17 (hb hby d413) rfl ?_
  refine uYc 28 hx hby d414 (tlt (by decide)).1 (by decide) (by decide) ?_
  refine uAN 29 hx hby d415 rfl rfl rfl ?_
  refine ggetF (host := "") hx (Or.inl (ow hw 80 rfl)) Via.refl P1 32 (hb hby d416) rfl ?_
  refine ggetF (host := "") hx (Or.inl (ow hw 287 rfl)) Via.refl P8 35 (hb hby d417) rfl ?_
  refine uSAN 36 #[vr it, vi (1 : Int32), vr d] hx hby d418 rfl rfl rfl ?_
  refine uIN 37 hx hby d419 rfl rfl ?_
  refine uAN 38 hx hby d420 rfl rfl rfl ?_
  refine glen hx P10 39 (hb hby d421) rfl ?_
  refine uYc 50 hx hby d422 (tlt (by decide)).1 (by decide) (by decide) ?_
  refine uAN 51 hx hby d423 rfl rfl rfl ?_
  refine uIN 52 hx hby d424 rfl rfl ?_
  refine uKc 53 (1 : Int32) hx hby d425 rfl rfl ?_
  refine uiadd 54 (2 : Int32) hx hby d426 rfl (by decide) ?_
  refine gputF (host := "") hx (Or.inl (ow hw 98 rfl)) Via.refl P2 P0 (Or.inl (ow hw 99 rfl)) (ow hw 74 rfl) (ty := .int) (by decide) rfl rfl P5 (fun al => Safe.exa al P0 (by decide) (by decide)) 57 (hb hby d427) rfl ?_
  intro h2 W2 C2
  have z2 := C2.2.1
  have F2 := P2.same W2
  refine uAN 58 hx hby d428 rfl rfl rfl ?_
  refine uAN 59 hx hby d429 rfl rfl rfl ?_
  refine uIN 60 hx hby d430 rfl rfl ?_
  refine gs (mkF m 61 #[vr it, vi (1 : Int32), vr d] [(.int (1 : Int32)), (.ref it), (.int (1 : Int32)), (.ref d)]) (fun _ _ A kq => XS.dupX1 A hx rfl (hb hby d431) rfl rfl rfl kq) ?_
  have f3 := (P4.other W2 (Or.inr (slot_ne (Or.inl (ow hw 84 rfl)) (Or.inl (ow hw 99 rfl)) (by decide) (t := .int) (t' := .int) (by decide) (by decide))))
  have f4 := (P0.wr W2)
  refine gputF (host := "") hx (Or.inl (ow hw 83 rfl)) Via.refl f3 f4 (Or.inl (ow hw 84 rfl)) (ow hw 74 rfl) (ty := .int) (by decide) rfl rfl P5 (fun al => Safe.exa al f4 (by decide) (by decide)) 64 (hb hby d432) rfl ?_
  intro h5 W5 C5
  have z5 := C5.2.1
  have F5 := f3.same W5
  have f6 := ((P11.wr W2).wr W5)
  have f7 := (f4.wr W5)
  have f8 := ((P10.other W2 (ne_exa f6 f7 (by decide))).other W5 (ne_exa f6 f7 (by decide)))
  refine gldR hx f8 ⟨by decide, by decide⟩ (i := 1) rfl (v := (.ref s1_)) rfl 65 (hb hby d433) rfl ?_
  have f10 := ((P1.other W2 (Or.inr (slot_ne (Or.inr (ow hw 81 rfl)) (Or.inl (ow hw 99 rfl)) (by decide) (t := (.object c14_)) (t' := .int) (by decide) (by decide)))).other W5 (Or.inr (slot_ne (Or.inr (ow hw 81 rfl)) (Or.inl (ow hw 84 rfl)) (by decide) (t := (.object c14_)) (t' := .int) (by decide) (by decide))))
  have f11 := (F2.other W5 (Or.inr (slot_ne (Or.inl (ow hw 99 rfl)) (Or.inl (ow hw 84 rfl)) (by decide) (t := .int) (t' := .int) (by decide) (by decide))))
  have f12 := ((P3.other W2 (Or.inr (slot_ne (Or.inl (ow hw 88 rfl)) (Or.inl (ow hw 99 rfl)) (by decide) (t := .int) (t' := .int) (by decide) (by decide)))).other W5 (Or.inr (slot_ne (Or.inl (ow hw 88 rfl)) (Or.inl (ow hw 84 rfl)) (by decide) (t := .int) (t' := .int) (by decide) (by decide))))
  exact gretA hx hret rfl rfl (hb hby d434) (by decide) (by decide) (fun vq Cq => ⟨rfl, (((Keep.refl h0 [it]).wr W2 (Or.inl (List.mem_of_getElem? (i := 0) rfl))).wr W5 (Or.inl (List.mem_of_getElem? (i := 0) rfl))), f10, f11, f12, F5⟩)
theorem d436 : decode y60_ 0 = .ok (.aload_n 0, 1) := by decide +kernel
theorem d437 : decode y60_ 1 = .ok (.invokespecial 1, 3) := by decide +kernel
theorem d438 : decode y60_ 4 = .ok (.aload_n 1, 1) := by decide +kernel
theorem d439 : decode y60_ 5 = .ok (.ifnull 20, 3) := by decide +kernel
theorem d440 : decode y60_ 25 = .ok (.aload_n 3, 1) := by decide +kernel
theorem d441 : decode y60_ 26 = .ok (.invokeinterface 20 1, 5) := by decide +kernel
theorem own_pd442 : parseMethodDescriptor "()Ljava/util/Iterator;" = some ⟨[], some (.object "java/util/Iterator")⟩ := by decide +kernel
abbrev mn443 : MethodName := ⟨"java/util/List", "iterator", "()Ljava/util/Iterator;"⟩
theorem d444 : decode y60_ 31 = .ok (.astore 4, 2) := by decide +kernel
theorem d445 : decode y60_ 33 = .ok (.aload 4, 2) := by decide +kernel
theorem d446 : decode y60_ 35 = .ok (.invokeinterface 26 1, 5) := by decide +kernel
abbrev mn447 : MethodName := ⟨"java/util/Iterator", "hasNext", "()Z"⟩
theorem d448 : decode y60_ 40 = .ok (.ifCond .eq 36, 3) := by decide +kernel
theorem d449 : decode y60_ 76 = .ok (.aload_n 0, 1) := by decide +kernel
theorem d450 : decode y60_ 77 = .ok (.aload_n 1, 1) := by decide +kernel
theorem d451 : decode y60_ 78 = .ok (.putfield 37, 3) := by decide +kernel
theorem d452 : decode y60_ 81 = .ok (.aload_n 0, 1) := by decide +kernel
theorem d453 : decode y60_ 82 = .ok (.iload_n 2, 1) := by decide +kernel
theorem d454 : decode y60_ 83 = .ok (.putfield 43, 3) := by decide +kernel
theorem d455 : decode y60_ 86 = .ok (.aload_n 0, 1) := by decide +kernel
theorem d456 : decode y60_ 87 = .ok (.aload_n 3, 1) := by decide +kernel
theorem d457 : decode y60_ 88 = .ok (.invokestatic 47, 3) := by decide +kernel
theorem d458 : decode y60_ 91 = .ok (.putfield 51, 3) := by decide +kernel
theorem d459 : decode y60_ 94 = .ok (.return_, 1) := by decide +kernel
abbrev mn460 : MethodName := ⟨"com/example/headings_from_text/headingsfromtext/vocabulary/Concept", "<init>", "(Ljava/lang/String;ZLjava/util/List;)V"⟩
theorem own_pn461 : plainName "com/example/headings_from_text/headingsfromtext/vocabulary/Concept" = true := by first | (simp [plainName, overriddenIn]; done) | decide +kernel
theorem own_cc0_0 (l : Launch) (Z : State) (a0 : Array Value) (cx : Ctx Z a0) (ws : List Jvm.Cond) (x : Addr) (pf : Int32) (kl : Addr) (mc : Int32) (u0 : Value) (u1 : Int32) (u2 : Value) (cdi : Addr) (ca : Addr) (kA : ClassId) (dz : Addr) (el : Addr) (ee : Addr) (em : Addr) (mr : Addr) (kd : ClassId) (ke : ClassId) (vm0 : Vm) (h0 : Heap) (X00 : Ext Z.heap h0) (P0 : Exa Z h0 x c5_) (P1 : Fld Z h0 x c5_ "ui" c1_ u0) (P2 : Fld Z h0 x c5_ "preferred" "Z" (.int u1)) (P3 : Fld Z h0 x c5_ "terms" c3_ u2) (P4 : Z.heap.size ≤ x) (b_pf : (pf = 0 ∨ pf = 1)) (P6 : Fld Z h0 kl c13_ "modCount" "I" (.int mc)) (P7 : Exa Z h0 kl c14_) (P8 : Fld Z h0 kl c14_ c6_ c4_ (.ref dz)) (P9 : Fld Z h0 kl c14_ "size" "I" (.int (0 : Int32))) (hB : (OwnB Z cdi ca kA)) (hL : (OwnL Z dz el ee em mr kd ke)) :
    Met l mn460 y60_ 6 none ws ({ frames := 3, cells := 1, slots := 4, locals := 38 } : Room) Z ([] : List (String × Nat)) vm0 h0 #[(.ref x), .null, (.int pf), (.ref kl)] (fun rv vm h => rv = none ∧ Keep h0 h [x] ∧ Fld Z h x c5_ "ui" c1_ .null ∧ Fld Z h x c5_ "preferred" "Z" (.int pf) ∧ Fld Z h x c5_ "terms" c3_ (.ref el)) := by
  obtain ⟨hw, hEL, ⟨zc, Scs, hzc⟩, ⟨fm, Sfm, hfm⟩, hL0, hB0, hO0⟩ := id cx
  refine Met.of_walk (a0 := a0) #[vr x, .val .null, vi pf, vr kl, un, un] (plainFor_of_name own_pn461) X00 hEL (fun m => by first | (simp [entryFrame, mkF, argsToLocals, Value.category]; done) | rfl) ?_
  intro p e s m below meth c vm hx hby hml hret hnm hC0 hW0
  have lt_x : h0.size > x := P0.lt
  have lt_kl : h0.size > kl := P6.lt
  obtain ⟨Sdz, Edz, Vdz, Sel, Eel, Fee, Vee, Fan, Sem, Eem, Mmr⟩ := id hL
  refine uAN 1 hx hby d436 rfl rfl rfl ?_
  refine ginitO hx (ow hw 63 rfl) (ow hw 27 rfl) (ow hw 28 rfl) 4 (W := 0) (Nat.le_of_eq rfl) (by rw [hml]; rfl) (hb hby d437) rfl (by decide) (by decide) ?_
  refine uAN 5 hx hby d438 rfl rfl rfl ?_
  refine uY0 25 hx hby d439 (by decide) (by decide) ?_
  refine uAN 26 hx hby d440 rfl rfl rfl ?_
  refine ginfo fun _ _ O2 => ?_
  refine gcallF (xi := mn443) (y := mn385) hx (ow hw 64 rfl) (ow hw 65 rfl) (fun _ _ hU => mvT hU (ow hw 66 rfl)) (ow hw 67 rfl) (ow hw 68 rfl) (ow hw 69 rfl) (ow hw 70 rfl) (ow hw 71 rfl) (by decide) (fun hZ H hEL => Pay.of_met (W := 0) (own_iterator l Z a0 cx [] (kl) (mc) vm h0 O2 P7 P6) (ow hw 72 rfl) (ow hw 35 rfl) (by decide) (by decide) hZ H hEL) 31 (argsL := []) (rest := []) P7 (lenOf own_pd442 rfl) rfl rfl (Nat.le_of_eq rfl) (by rw [hml]; rfl) (hb hby d441) rfl (by decide) (by decide) ?_
  rintro _ vm2 h2 C2 ⟨it2, rfl, K2, q2_0, q2_1, q2_2, q2_3, q2_4, q2_5, q2_6⟩
  have z2 := C2.2.1
  have lt_it2 : h2.size > it2 := q2_2.lt
  refine gat1 ?_
  refine uSA 33 #[vr x, .val .null, vi pf, vr kl, vr it2, un] hx hby d444 rfl rfl rfl ?_
  refine uA 35 hx hby d445 rfl rfl rfl ?_
  have f4 := (P9.keep K2 nin0)
  refine ginfo fun _ _ O3 => ?_
  refine gcallF (xi := mn447) (y := mn402) hx (ow hw 89 rfl) (ow hw 90 rfl) (fun _ _ hU => mvT hU (ow hw 91 rfl)) (ow hw 92 rfl) (ow hw 93 rfl) (ow hw 94 rfl) (ow hw 95 rfl) (ow hw 96 rfl) (by decide) (fun hZ H hEL => Pay.of_met (W := 0) (own_has0_0 l Z a0 cx [] (it2) (kl) vm2 h2 O3 q2_3 q2_4 f4) (ow hw 97 rfl) (ow hw 75 rfl) (by decide) (by decide) hZ H hEL) 40 (argsL := []) (rest := []) q2_2 (lenOf own_pd73 rfl) rfl rfl (Nat.le_of_eq rfl) (by rw [hml]; rfl) (hb hby d446) rfl (by decide) (by decide) ?_
  rintro _ vm3 h3 C3 ⟨rfl, rfl⟩
  have z3 := C3.2.1
  refine gat1 ?_
  refine uY 76 hx hby d448 ((if0 _ _).trans (teq (by decide)).1) (by decide) (by decide) ?_
  refine uAN 77 hx hby d449 rfl rfl rfl ?_
  refine uAN 78 hx hby d450 rfl rfl rfl ?_
  have f5 := (P1.keep K2 nin0)
  have f6 := (P0.keep K2)
  refine gputF (host := "") hx (Or.inl (ow hw 102 rfl)) Via.refl f5 f6 (Or.inr ⟨(ow hw 103 rfl), rfl, hnm⟩) (ow hw 58 rfl) (ty := (.object c12_)) (by decide) rfl rfl P4 (fun al => Safe.exa al f6 (by decide) (by decide)) 81 (hb hby d451) rfl ?_
  intro h7 W7 C7
  have z7 := C7.2.1
  have F7 := f5.same W7
  refine uAN 82 hx hby d452 rfl rfl rfl ?_
  refine uIN 83 hx hby d453 rfl rfl ?_
  have f8 := ((P2.keep K2 nin0).other W7 (Or.inr (slot_ne (Or.inr (ow hw 105 rfl)) (Or.inr (ow hw 103 rfl)) (by decide) (t := .boolean) (t' := (.object c12_)) (by decide) (by decide))))
  have f9 := (f6.wr W7)
  refine gputF (host := "") hx (Or.inl (ow hw 104 rfl)) Via.refl f8 f9 (Or.inr ⟨(ow hw 105 rfl), rfl, hnm⟩) (ow hw 58 rfl) (ty := .boolean) (by decide) (by rcases b_pf with q | q <;> rw [q] <;> rfl) (by rcases b_pf with q | q <;> rw [q] <;> rfl) P4 (fun al => Safe.exa al f9 (by decide) (by decide)) 86 (hb hby d454) rfl ?_
  intro h10 W10 C10
  have z10 := C10.2.1
  have F10 := f8.same W10
  refine uAN 87 hx hby d455 rfl rfl rfl ?_
  refine uAN 88 hx hby d456 rfl rfl rfl ?_
  have f12 := (((P7.keep K2).wr W7).wr W10)
  have f13 := (f9.wr W10)
  have f14 := (((P8.keep K2 nin0).other W7 (Or.inl (ne_exa f12 f13 (by decide)))).other W10 (Or.inl (ne_exa f12 f13 (by decide))))
  have f15 := ((f4.other W7 (Or.inl (ne_exa f12 f13 (by decide)))).other W10 (Or.inl (ne_exa f12 f13 (by decide))))
  refine ginfo fun _ _ O11 => ?_
  refine gcallS (y := mn325) hx (ow hw 106 rfl) (ow hw 107 rfl) (ow hw 108 rfl) (ow hw 109 rfl) (by decide) (fun hZ H hEL => Pay.of_met (W := 1) (own_copy0 l Z a0 cx [] (kl) (dz) (el) (ee) (em) (mr) (kd) (ke) vm3 h10 O11 f12 f14 f15 (by first | assumption | decide | omega)) (ow hw 109 rfl) (ow hw 108 rfl) (by decide) (by decide) hZ H hEL) 91 (argsL := [(.ref kl)]) (rest := [(.ref x)]) (lenOf own_pd323 rfl) rfl rfl (Nat.le_of_eq rfl) (by rw [hml]; rfl) (hb hby d457) rfl (by decide) (by decide) ?_
  rintro _ vm11 h11 C11 ⟨rfl, K11⟩
  have z11 := C11.2.1
  refine gat1 ?_
  have f16 := ((((P3.keep K2 nin0).other W7 (Or.inr (slot_ne (Or.inr (ow hw 135 rfl)) (Or.inr (ow hw 103 rfl)) (by decide) (t := (.object c19_)) (t' := (.object c12_)) (by decide) (by decide)))).other W10 (Or.inr (slot_ne (Or.inr (ow hw 135 rfl)) (Or.inr (ow hw 105 rfl)) (by decide) (t := (.object c19_)) (t' := .boolean) (by decide) (by decide)))).keep K11 nin0)
  have f17 := (f13.keep K11)
  refine gputF (host := "") hx (Or.inl (ow hw 134 rfl)) Via.refl f16 f17 (Or.inr ⟨(ow hw 135 rfl), rfl, hnm⟩) (ow hw 58 rfl) (ty := (.object c19_)) (by decide) rfl rfl P4 (fun al => Safe.exa al f17 (by decide) (by decide)) 94 (hb hby d458) rfl ?_
  intro h18 W18 C18
  have z18 := C18.2.1
  have F18 := f16.same W18
  have f20 := (((F7.other W10 (Or.inr (slot_ne (Or.inr (ow hw 103 rfl)) (Or.inr (ow hw 105 rfl)) (by decide) (t := (.object c12_)) (t' := .boolean) (by decide) (by decide)))).keep K11 nin0).other W18 (Or.inr (slot_ne (Or.inr (ow hw 103 rfl)) (Or.inr (ow hw 135 rfl)) (by decide) (t := (.object c12_)) (t' := (.object c19_)) (by decide) (by decide))))
  have f21 := ((F10.keep K11 nin0).other W18 (Or.inr (slot_ne (Or.inr (ow hw 105 rfl)) (Or.inr (ow hw 135 rfl)) (by decide) (t := .boolean) (t' := (.object c19_)) (by decide) (by decide))))
  exact gretV hx hret (hb hby d459) (by decide) (by decide) (fun vq Cq => ⟨rfl, ((((((Keep.refl h0 [x]).trans K2 all0).wr W7 (Or.inl (List.mem_of_getElem? (i := 0) rfl))).wr W10 (Or.inl (List.mem_of_getElem? (i := 0) rfl))).trans K11 all0).wr W18 (Or.inl (List.mem_of_getElem? (i := 0) rfl))), f20, f21, F18⟩)
theorem d462 : decode y60_ 43 = .ok (.aload 4, 2) := by decide +kernel
theorem d463 : decode y60_ 45 = .ok (.invokeinterface 31 1, 5) := by decide +kernel
theorem own_pd464 : parseMethodDescriptor "()Ljava/lang/Object;" = some ⟨[], some (.object "java/lang/Object")⟩ := by decide +kernel
abbrev mn465 : MethodName := ⟨"java/util/Iterator", "next", "()Ljava/lang/Object;"⟩
theorem d466 : decode y60_ 50 = .ok (.checkcast 8, 3) := by decide +kernel
theorem d467 : decode y60_ 53 = .ok (.astore 5, 2) := by decide +kernel
theorem d468 : decode y60_ 55 = .ok (.aload 5, 2) := by decide +kernel
theorem d469 : decode y60_ 57 = .ok (.invokevirtual 7, 3) := by decide +kernel
theorem d470 : decode y60_ 60 = .ok (.ifCond .eq 13, 3) := by decide +kernel
theorem d471 : decode y60_ 73 = .ok (.goto (-40), 3) := by decide +kernel
theorem own_cc0_1 (l : Launch) (Z : State) (a0 : Array Value) (cx : Ctx Z a0) (ws : List Jvm.Cond) (x : Addr) (pf : Int32) (kl : Addr) (mc : Int32) (u0 : Value) (u1 : Int32) (u2 : Value) (d : Addr) (kc : ClassId) (s0_ : Addr) (t0_ : Addr) (ch0 : Int32) (cr0 : List Int32) (cdi : Addr) (ca : Addr) (kA : ClassId) (dz : Addr) (el : Addr) (ee : Addr) (em : Addr) (mr : Addr) (kd : ClassId) (ke : ClassId) (vm0 : Vm) (h0 : Heap) (X00 : Ext Z.heap h0) (P0 : Exa Z h0 x c5_) (P1 : Fld Z h0 x c5_ "ui" c1_ u0) (P2 : Fld Z h0 x c5_ "preferred" "Z" (.int u1)) (P3 : Fld Z h0 x c5_ "terms" c3_ u2) (P4 : Z.heap.size ≤ x) (b_pf : (pf = 0 ∨ pf = 1)) (P6 : Fld Z h0 kl c13_ "modCount" "I" (.int mc)) (P7 : Exa Z h0 kl c14_) (P8 : Fld Z h0 kl c14_ c6_ c4_ (.ref d)) (P9 : Fld Z h0 kl c14_ "size" "I" (.int (1 : Int32))) (P10 : Arv Z h0 d kc (.object c11_) (10 : Int32) [(.ref s0_), .null, .null, .null, .null, .null, .null, .null, .null, .null] .null) (P11 : Exa Z h0 d c4_) (hov : (Ovr Z kc c11_)) (P13 : Str Z h0 s0_ t0_ (ch0 :: cr0)) (P14 : (B8 ch0)) (P15 : (¬ ch0 < (33 : Int32))) (P16 : ((0 : Int32) < Int32.ofNat (ch0 :: cr0).length)) (hB : (OwnB Z cdi ca kA)) (hL : (OwnL Z dz el ee em mr kd ke)) :
    Met l mn460 y60_ 6 none ws ({ frames := 8, cells := 3, slots := 7, locals := 101 } : Room) Z ([] : List (String × Nat)) vm0 h0 #[(.ref x), .null, (.int pf), (.ref kl)] (fun rv vm h => ∃ (r : Addr), rv = none ∧ Keep h0 h [x] ∧ Fld Z h x c5_ "ui" c1_ .null ∧ Fld Z h x c5_ "preferred" "Z" (.int pf) ∧ Fld Z h x c5_ "terms" c3_ (.ref r) ∧ Exa Z h r c17_ ∧ Fld Z h r c17_ "e0" c0_ (.ref s0_) ∧ Fld Z h r c17_ "e1" c0_ (.ref em)) := by
  obtain ⟨hw, hEL, ⟨zc, Scs, hzc⟩, ⟨fm, Sfm, hfm⟩, hL0, hB0, hO0⟩ := id cx
  refine Met.of_walk (a0 := a0) #[vr x, .val .null, vi pf, vr kl, un, un] (plainFor_of_name own_pn461) X00 hEL (fun m => by first | (simp [entryFrame, mkF, argsToLocals, Value.category]; done) | rfl) ?_
  intro p e s m below meth c vm hx hby hml hret hnm hC0 hW0
  have lt_x : h0.size > x := P0.lt
  have lt_kl : h0.size > kl := P6.lt
  have lt_d : h0.size > d := P10.lt
  have lt_s0_ : h0.size > s0_ := P13.1.lt
  have lt_t0_ : h0.size > t0_ := P13.tlt
  obtain ⟨Sdz, Edz, Vdz, Sel, Eel, Fee, Vee, Fan, Sem, Eem, Mmr⟩ := id hL
  refine uAN 1 hx hby d436 rfl rfl rfl ?_
  refine ginitO hx (ow hw 63 rfl) (ow hw 27 rfl) (ow hw 28 rfl) 4 (W := 0) (Nat.le_of_eq rfl) (by rw [hml]; rfl) (hb hby d437) rfl (by decide) (by decide) ?_
  refine uAN 5 hx hby d438 rfl rfl rfl ?_
  refine uY0 25 hx hby d439 (by decide) (by decide) ?_
  refine uAN 26 hx hby d440 rfl rfl rfl ?_
  refine ginfo fun _ _ O2 => ?_
  refine gcallF (xi := mn443) (y := mn385) hx (ow hw 64 rfl) (ow hw 65 rfl) (fun _ _ hU => mvT hU (ow hw 66 rfl)) (ow hw 67 rfl) (ow hw 68 rfl) (ow hw 69 rfl) (ow hw 70 rfl) (ow hw 71 rfl) (by decide) (fun hZ H hEL => Pay.of_met (W := 0) (own_iterator l Z a0 cx [] (kl) (mc) vm h0 O2 P7 P6) (ow hw 72 rfl) (ow hw 35 rfl) (by decide) (by decide) hZ H hEL) 31 (argsL := []) (rest := []) P7 (lenOf own_pd442 rfl) rfl rfl (Nat.le_of_eq rfl) (by rw [hml]; rfl) (hb hby d441) rfl (by decide) (by decide) ?_
  rintro _ vm2 h2 C2 ⟨it2, rfl, K2, q2_0, q2_1, q2_2, q2_3, q2_4, q2_5, q2_6⟩
  have z2 := C2.2.1
  have lt_it2 : h2.size > it2 := q2_2.lt
  refine gat1 ?_
  refine uSA 33 #[vr x, .val .null, vi pf, vr kl, vr it2, un] hx hby d444 rfl rfl rfl ?_
  refine uA 35 hx hby d445 rfl rfl rfl ?_
  have f4 := (P9.keep K2 nin0)
  refine ginfo fun _ _ O3 => ?_
  refine gcallF (xi := mn447) (y := mn402) hx (ow hw 89 rfl) (ow hw 90 rfl) (fun _ _ hU => mvT hU (ow hw 91 rfl)) (ow hw 92 rfl) (ow hw 93 rfl) (ow hw 94 rfl) (ow hw 95 rfl) (ow hw 96 rfl) (by decide) (fun hZ H hEL => Pay.of_met (W := 0) (own_has0_1 l Z a0 cx [] (it2) (kl) vm2 h2 O3 q2_3 q2_4 f4) (ow hw 97 rfl) (ow hw 75 rfl) (by decide) (by decide) hZ H hEL) 40 (argsL := []) (rest := []) q2_2 (lenOf own_pd73 rfl) rfl rfl (Nat.le_of_eq rfl) (by rw [hml]; rfl) (hb hby d446) rfl (by decide) (by decide) ?_
  rintro _ vm3 h3 C3 ⟨rfl, rfl⟩
  have z3 := C3.2.1
  refine gat1 ?_
  refine uN 43 hx hby d448 rfl ((if0 _ _).trans (feq (by decide)).1) ?_
  refine uA 45 hx hby d462 rfl rfl rfl ?_
  have f6 := (P6.keep K2 nin0)
  have f7 := (P7.keep K2)
  have f8 := (P8.keep K2 nin0)
  have f9 := (P10.keep K2 nin0)
  have f10 := (P11.keep K2)
  refine ginfo fun _ _ O5 => ?_
  refine gcallF (xi := mn465) (y := mn435) hx (ow hw 274 rfl) (ow hw 275 rfl) (fun _ _ hU => mvT hU (ow hw 276 rfl)) (ow hw 277 rfl) (ow hw 278 rfl) (ow hw 279 rfl) (ow hw 280 rfl) (ow hw 96 rfl) (by decide) (fun hZ H hEL => Pay.of_met (W := 0) (own_next0_1 l Z a0 cx [] (it2) (kl) (mc) ((-1 : Int32)) (d) (kc) (s0_) vm3 h2 O5 q2_2 q2_3 q2_4 q2_5 q2_6 q2_1 f6 f7 f8 f4 f9 f10 (by first | assumption | decide | omega)) (ow hw 281 rfl) (ow hw 75 rfl) (by decide) (by decide) hZ H hEL) 50 (argsL := []) (rest := []) q2_2 (lenOf own_pd464 rfl) rfl rfl (Nat.le_of_eq rfl) (by rw [hml]; rfl) (hb hby d463) rfl (by decide) (by decide) ?_
  rintro _ vm5 h5 C5 ⟨rfl, K5, q5_0, q5_1, q5_2, q5_3⟩
  have z5 := C5.2.1
  refine gat1 ?_
  refine gcast hx (ow hw 288 rfl) (Ins.self ((P13.1.keep K2).keep K5)) 53 (hb hby d466) rfl ?_
  refine uSA 55 #[vr x, .val .null, vi pf, vr kl, vr it2, vr s0_] hx hby d467 rfl rfl rfl ?_
  refine uA 57 hx hby d468 rfl rfl rfl ?_
  have f12 := ((P13.keep K2 nin0 nin0).keep K5 (ninS (Nat.ne_of_lt (by omega)) nin0) (ninS (Nat.ne_of_lt (by omega)) nin0))
  refine ginfo fun _ _ O11 => ?_
  refine gcallV (y := mn91) (z := mn91) hx (ow hw 230 rfl) (ow hw 231 rfl) (nfSel (ow hw 233 rfl)) (ow hw 233 rfl) (ow hw 232 rfl) (by decide) (fun hZ H hEL => Pay.of_met (W := 0) (own_isblank l Z a0 cx [] (s0_) (t0_) (ch0) (cr0) (cdi) (ca) (kA) vm5 h5 O11 f12 (by first | assumption | decide | omega) (by first | assumption | decide | omega) (by first | assumption | decide | omega) (by first | assumption | decide | omega)) (ow hw 234 rfl) (ow hw 9 rfl) (by decide) (by decide) hZ H hEL) 60 (argsL := []) (rest := []) f12.1 (lenOf own_pd73 rfl) rfl rfl (Nat.le_of_eq rfl) (by rw [hml]; rfl) (hb hby d469) rfl (by decide) (by decide) ?_
  rintro _ vm11 h11 C11 ⟨rfl, rfl⟩
  have z11 := C11.2.1
  refine gat1 ?_
  refine uY 73 hx hby d470 ((if0 _ _).trans (teq (by decide)).1) (by decide) (by decide) ?_
  refine uG 33 hx hby d471 (by decide) (by decide) ?_
  refine uA 35 hx hby d445 rfl rfl rfl ?_
  have f14 := (f4.keep K5 (ninS (Nat.ne_of_lt (by omega)) nin0))
  refine ginfo fun _ _ O13 => ?_
  have f15 := (q2_2.keep K5)
  refine gcallF (xi := mn447) (y := mn402) hx (ow hw 89 rfl) (ow hw 90 rfl) (fun _ _ hU => mvT hU (ow hw 91 rfl)) (ow hw 92 rfl) (ow hw 93 rfl) (ow hw 94 rfl) (ow hw 95 rfl) (ow hw 96 rfl) (by decide) (fun hZ H hEL => Pay.of_met (W := 0) (own_has1_1 l Z a0 cx [] (it2) (kl) vm11 h5 O13 q5_0 q5_1 f14) (ow hw 97 rfl) (ow hw 75 rfl) (by decide) (by decide) hZ H hEL) 40 (argsL := []) (rest := []) f15 (lenOf own_pd73 rfl) rfl rfl (Nat.le_of_eq rfl) (by rw [hml]; rfl) (hb hby d446) rfl (by decide) (by decide) ?_
  rintro _ vm13 h13 C13 ⟨rfl, rfl⟩
  have z13 := C13.2.1
  refine gat1 ?_
  refine uY 76 hx hby d448 ((if0 _ _).trans (teq (by decide)).1) (by decide) (by decide) ?_
  refine uAN 77 hx hby d449 rfl rfl rfl ?_
  refine uAN 78 hx hby d450 rfl rfl rfl ?_
  have f16 := ((P1.keep K2 nin0).keep K5 (ninS (Nat.ne_of_lt (by omega)) nin0))
  have f17 := ((P0.keep K2).keep K5)
  refine gputF (host := "") hx (Or.inl (ow hw 102 rfl)) Via.refl f16 f17 (Or.inr ⟨(ow hw 103 rfl), rfl, hnm⟩) (ow hw 58 rfl) (ty := (.object c12_)) (by decide) rfl rfl P4 (fun al => Safe.exa al f17 (by decide) (by decide)) 81 (hb hby d451) rfl ?_
  intro h18 W18 C18
  have z18 := C18.2.1
  have F18 := f16.same W18
  refine uAN 82 hx hby d452 rfl rfl rfl ?_
  refine uIN 83 hx hby d453 rfl rfl ?_
  have f19 := (((P2.keep K2 nin0).keep K5 (ninS (Nat.ne_of_lt (by omega)) nin0)).other W18 (Or.inr (slot_ne (Or.inr (ow hw 105 rfl)) (Or.inr (ow hw 103 rfl)) (by decide) (t := .boolean) (t' := (.object c12_)) (by decide) (by decide))))
  have f20 := (f17.wr W18)
  refine gputF (host := "") hx (Or.inl (ow hw 104 rfl)) Via.refl f19 f20 (Or.inr ⟨(ow hw 105 rfl), rfl, hnm⟩) (ow hw 58 rfl) (ty := .boolean) (by decide) (by rcases b_pf with q | q <;> rw [q] <;> rfl) (by rcases b_pf with q | q <;> rw [q] <;> rfl) P4 (fun al => Safe.exa al f20 (by decide) (by decide)) 86 (hb hby d454) rfl ?_
  intro h21 W21 C21
  have z21 := C21.2.1
  have F21 := f19.same W21
  refine uAN 87 hx hby d455 rfl rfl rfl ?_
  refine uAN 88 hx hby d456 rfl rfl rfl ?_
  have f23 := (((f7.keep K5).wr W18).wr W21)
  have f24 := (f20.wr W21)
  have f25 := (((f8.keep K5 (ninS (Nat.ne_of_lt (by omega)) nin0)).other W18 (Or.inl (ne_exa f23 f24 (by decide)))).other W21 (Or.inl (ne_exa f23 f24 (by decide))))
  have f26 := ((f14.other W18 (Or.inl (ne_exa f23 f24 (by decide)))).other W21 (Or.inl (ne_exa f23 f24 (by decide))))
  have f27 := (((f10.keep K5).wr W18).wr W21)
  have f28 := (((f9.keep K5 (ninS (Nat.ne_of_lt (by omega)) nin0)).other W18 (ne_exa f27 f24 (by decide))).other W21 (ne_exa f27 f24 (by decide)))
  refine ginfo fun _ _ O22 => ?_
  refine gcallS (y := mn325) hx (ow hw 106 rfl) (ow hw 107 rfl) (ow hw 108 rfl) (ow hw 109 rfl) (by decide) (fun hZ H hEL => Pay.of_met (W := 1) (own_copy1 l Z a0 cx [] (kl) (d) (kc) (s0_) (dz) (el) (ee) (em) (mr) (kd) (ke) vm13 h21 O22 f23 f25 f26 f28 f27 (by first | assumption | decide | omega) ((f12.1.wr W18).wr W21) (by first | assumption | decide | omega)) (ow hw 109 rfl) (ow hw 108 rfl) (by decide) (by decide) hZ H hEL) 91 (argsL := [(.ref kl)]) (rest := [(.ref x)]) (lenOf own_pd323 rfl) rfl rfl (Nat.le_of_eq rfl) (by rw [hml]; rfl) (hb hby d457) rfl (by decide) (by decide) ?_
  rintro _ vm22 h22 C22 ⟨r22, rfl, K22, q22_0, q22_1, q22_2, q22_3⟩
  have z22 := C22.2.1
  have lt_r22 : h22.size > r22 := q22_1.lt
  refine gat1 ?_
  have f29 := (((((P3.keep K2 nin0).keep K5 (ninS (Nat.ne_of_lt (by omega)) nin0)).other W18 (Or.inr (slot_ne (Or.inr (ow hw 135 rfl)) (Or.inr (ow hw 103 rfl)) (by decide) (t := (.object c19_)) (t' := (.object c12_)) (by decide) (by decide)))).other W21 (Or.inr (slot_ne (Or.inr (ow hw 135 rfl)) (Or.inr (ow hw 105 rfl)) (by decide) (t := (.object c19_)) (t' := .boolean) (by decide) (by decide)))).keep K22 nin0)
  have f30 := (f24.keep K22)
  refine gputF (host := "") hx (Or.inl (ow hw 134 rfl)) Via.refl f29 f30 (Or.inr ⟨(ow hw 135 rfl), rfl, hnm⟩) (ow hw 58 rfl) (ty := (.object c19_)) (by decide) rfl rfl P4 (fun al => Safe.exa al f30 (by decide) (by decide)) 94 (hb hby d458) rfl ?_
  intro h31 W31 C31
  have z31 := C31.2.1
  have F31 := f29.same W31
  have f33 := (((F18.other W21 (Or.inr (slot_ne (Or.inr (ow hw 103 rfl)) (Or.inr (ow hw 105 rfl)) (by decide) (t := (.object c12_)) (t' := .boolean) (by decide) (by decide)))).keep K22 nin0).other W31 (Or.inr (slot_ne (Or.inr (ow hw 103 rfl)) (Or.inr (ow hw 135 rfl)) (by decide) (t := (.object c12_)) (t' := (.object c19_)) (by decide) (by decide))))
  have f34 := ((F21.keep K22 nin0).other W31 (Or.inr (slot_ne (Or.inr (ow hw 105 rfl)) (Or.inr (ow hw 135 rfl)) (by decide) (t := .boolean) (t' := (.object c19_)) (by decide) (by decide))))
  have f35 := (q22_1.wr W31)
  have f36 := (q22_2.other W31 (Or.inl (Nat.ne_of_gt (by omega))))
  have f37 := (q22_3.other W31 (Or.inl (Nat.ne_of_gt (by omega))))
  exact gretV hx hret (hb hby d459) (by decide) (by decide) (fun vq Cq => ⟨r22, rfl, (((((((Keep.refl h0 [x]).trans K2 all0).trans K5 (allS (Or.inr (by omega)) all0)).wr W18 (Or.inl (List.mem_of_getElem? (i := 0) rfl))).wr W21 (Or.inl (List.mem_of_getElem? (i := 0) rfl))).trans K22 all0).wr W31 (Or.inl (List.mem_of_getElem? (i := 0) rfl))), f33, f34, F31, f35, f36, f37⟩)
theorem own_cc0_2 (l : Launch) (Z : State) (a0 : Array Value) (cx : Ctx Z a0) (ws : List Jvm.Cond) (x : Addr) (pf : Int32) (kl : Addr) (mc : Int32) (u0 : Value) (u1 : Int32) (u2 : Value) (d : Addr) (kc : ClassId) (s0_ : Addr) (s1_ : Addr) (t0_ : Addr) (ch0 : Int32) (cr0 : List Int32) (t1_ : Addr) (ch1 : Int32) (cr1 : List Int32) (cdi : Addr) (ca : Addr) (kA : ClassId) (dz : Addr) (el : Addr) (ee : Addr) (em : Addr) (mr : Addr) (kd : ClassId) (ke : ClassId) (vm0 : Vm) (h0 : Heap) (X00 : Ext Z.heap h0) (P0 : Exa Z h0 x c5_) (P1 : Fld Z h0 x c5_ "ui" c1_ u0) (P2 : Fld Z h0 x c5_ "preferred" "Z" (.int u1)) (P3 : Fld Z h0 x c5_ "terms" c3_ u2) (P4 : Z.heap.size ≤ x) (b_pf : (pf = 0 ∨ pf = 1)) (P6 : Fld Z h0 kl c13_ "modCount" "I" (.int mc)) (P7 : Exa Z h0 kl c14_) (P8 : Fld Z h0 kl c14_ c6_ c4_ (.ref d)) (P9 : Fld Z h0 kl c14_ "size" "I" (.int (2 : Int32))) (P10 : Arv Z h0 d kc (.object c11_) (10 : Int32) [(.ref s0_), (.ref s1_), .null, .null, .null, .null, .null, .null, .null, .null] .null) (P11 : Exa Z h0 d c4_) (hov : (Ovr Z kc c11_)) (P13 : Str Z h0 s0_ t0_ (ch0 :: cr0)) (P14 : (B8 ch0)) (P15 : (¬ ch0 < (33 : Int32))) (P16 : ((0 : Int32) < Int32.ofNat (ch0 :: cr0).length)) (P17 : Str Z h0 s1_ t1_ (ch1 :: cr1)) (P18 : (B8 ch1)) (P19 : (¬ ch1 < (33 : Int32))) (P20 : ((0 : Int32) < Int32.ofNat (ch1 :: cr1).length)) (hB : (OwnB Z cdi ca kA)) (hL : (OwnL Z dz el ee em mr kd ke)) :
    Met l mn460 y60_ 6 none ws ({ frames := 8, cells := 3, slots := 8, locals := 102 } : Room) Z ([] : List (String × Nat)) vm0 h0 #[(.ref x), .null, (.int pf), (.ref kl)] (fun rv vm h => ∃ (r : Addr), rv = none ∧ Keep h0 h [x] ∧ Fld Z h x c5_ "ui" c1_ .null ∧ Fld Z h x c5_ "preferred" "Z" (.int pf) ∧ Fld Z h x c5_ "terms" c3_ (.ref r) ∧ Exa Z h r c17_ ∧ Fld Z h r c17_ "e0" c0_ (.ref s0_) ∧ Fld Z h r c17_ "e1" c0_ (.ref s1_)) := by
  obtain ⟨hw, hEL, ⟨zc, Scs, hzc⟩, ⟨fm, Sfm, hfm⟩, hL0, hB0, hO0⟩ := id cx
  refine Met.of_walk (a0 := a0) #[vr x, .val .null, vi pf, vr kl, un, un] (plainFor_of_name own_pn461) X00 hEL (fun m => by first | (simp [entryFrame, mkF, argsToLocals, Value.category]; done) | rfl) ?_
  intro p e s m below meth c vm hx hby hml hret hnm hC0 hW0
  have lt_x : h0.size > x := P0.lt
  have lt_kl : h0.size > kl := P6.lt
  have lt_d : h0.size > d := P10.lt
  have lt_s0_ : h0.size > s0_ := P13.1.lt
  have lt_t0_ : h0.size > t0_ := P13.tlt
  have lt_s1_ : h0.size > s1_ := P17.1.lt
  have lt_t1_ : h0.size > t1_ := P17.tlt
  obtain ⟨Sdz, Edz, Vdz, Sel, Eel, Fee, Vee, Fan, Sem, Eem, Mmr⟩ := id hL
  refine uAN 1 hx hby d436 rfl rfl rfl ?_
  refine ginitO hx (ow hw 63 rfl) (ow hw 27 rfl) (ow hw 28 rfl) 4 (W := 0) (Nat.le_of_eq rfl) (by rw [hml]; rfl) (hb hby d437) rfl (by decide) (by decide) ?_
  refine uAN 5 hx hby d438 rfl rfl rfl ?_
  refine uY0 25 hx hby d439 (by decide) (by decide) ?_
  refine uAN 26 hx hby d440 rfl rfl rfl ?_
  refine ginfo fun _ _ O2 => ?_
  refine gcallF (xi := mn443) (y := mn385) hx (ow hw 64 rfl) (ow hw 65 rfl) (fun _ _ hU => mvT hU (ow hw 66 rfl)) (ow hw 67 rfl) (ow hw 68 rfl) (ow hw 69 rfl) (ow hw 70 rfl) (ow hw 71 rfl) (by decide) (fun hZ H hEL => Pay.of_met (W := 0) (own_iterator l Z a0 cx [] (kl) (mc) vm h0 O2 P7 P6) (ow hw 72 rfl) (ow hw 35 rfl) (by decide) (by decide) hZ H hEL) 31 (argsL := []) (rest := []) P7 (lenOf own_pd442 rfl) rfl rfl (Nat.le_of_eq rfl) (by rw [hml]; rfl) (hb hby d441) rfl (by decide) (by decide) ?_
  rintro _ vm2 h2 C2 ⟨it2, rfl, K2, q2_0, q2_1, q2_2, q2_3, q2_4, q2_5, q2_6⟩
  have z2 := C2.2.1
  have lt_it2 : h2.size > it2 := q2_2.lt
  refine gat1 ?_
  refine uSA 33 #[vr x, .val .null, vi pf, vr kl, vr it2, un] hx hby d444 rfl rfl rfl ?_
  refine uA 35 hx hby d445 rfl rfl rfl ?_
  have f4 := (P9.keep K2 nin0)
  refine ginfo fun _ _ O3 => ?_
  refine gcallF (xi := mn447) (y := mn402) hx (ow hw 89 rfl) (ow hw 90 rfl) (fun _ _ hU => mvT hU (ow hw 91 rfl)) (ow hw 92 rfl) (ow hw 93 rfl) (ow hw 94 rfl) (ow hw 95 rfl) (ow hw 96 rfl) (by decide) (fun hZ H hEL => Pay.of_met (W := 0) (own_has0_2 l Z a0 cx [] (it2) (kl) vm2 h2 O3 q2_3 q2_4 f4) (ow hw 97 rfl) (ow hw 75 rfl) (by decide) (by decide) hZ H hEL) 40 (argsL := []) (rest := []) q2_2 (lenOf own_pd73 rfl) rfl rfl (Nat.le_of_eq rfl) (by rw [hml]; rfl) (hb hby d446) rfl (by decide) (by decide) ?_
  rintro _ vm3 h3 C3 ⟨rfl, rfl⟩
  have z3 := C3.2.1
  refine gat1 ?_
  refine uN 43 hx hby d448 rfl ((if0 _ _).trans (feq (by decide)).1) ?_
  refine uA 45 hx hby d462 rfl rfl rfl ?_
  have f6 := (P6.keep K2 nin0)
  have f7 := (P7.keep K2)
  have f8 := (P8.keep K2 nin0)
  have f9 := (P10.keep K2 nin0)
  have f10 := (P11.keep K2)
  refine ginfo fun _ _ O5 => ?_
  refine gcallF (xi := mn465) (y := mn435) hx (ow hw 274 rfl) (ow hw 275 rfl) (fun _ _ hU => mvT hU (ow hw 276 rfl)) (ow hw 277 rfl) (ow hw 278 rfl) (ow hw 279 rfl) (ow hw 280 rfl) (ow hw 96 rfl) (by decide) (fun hZ H hEL => Pay.of_met (W := 0) (own_next0_2 l Z a0 cx [] (it2) (kl) (mc) ((-1 : Int32)) (d) (kc) (s0_) (s1_) vm3 h2 O5 q2_2 q2_3 q2_4 q2_5 q2_6 q2_1 f6 f7 f8 f4 f9 f10 (by first | assumption | decide | omega)) (ow hw 281 rfl) (ow hw 75 rfl) (by decide) (by decide) hZ H hEL) 50 (argsL := []) (rest := []) q2_2 (lenOf own_pd464 rfl) rfl rfl (Nat.le_of_eq rfl) (by rw [hml]; rfl) (hb hby d463) rfl (by decide) (by decide) ?_
  rintro _ vm5 h5 C5 ⟨rfl, K5, q5_0, q5_1, q5_2, q5_3⟩
  have z5 := C5.2.1
  refine gat1 ?_
  refine gcast hx (ow hw 288 rfl) (Ins.self ((P13.1.keep K2).keep K5)) 53 (hb hby d466) rfl ?_
  refine uSA 55 #[vr x, .val .null, vi pf, vr kl, vr it2, vr s0_] hx hby d467 rfl rfl rfl ?_
  refine uA 57 hx hby d468 rfl rfl rfl ?_
  have f12 := ((P13.keep K2 nin0 nin0).keep K5 (ninS (Nat.ne_of_lt (by omega)) nin0) (ninS (Nat.ne_of_lt (by omega)) nin0))
  refine ginfo fun _ _ O11 => ?_
  refine gcallV (y := mn91) (z := mn91) hx (ow hw 230 rfl) (ow hw 231 rfl) (nfSel (ow hw 233 rfl)) (ow hw 233 rfl) (ow hw 232 rfl) (by decide) (fun hZ H hEL => Pay.of_met (W := 0) (own_isblank l Z a0 cx [] (s0_) (t0_) (ch0) (cr0) (cdi) (ca) (kA) vm5 h5 O11 f12 (by first | assumption | decide | omega) (by first | assumption | decide | omega) (by first | assumption | decide | omega) (by first | assumption | decide | omega)) (ow hw 234 rfl) (ow hw 9 rfl) (by decide) (by decide) hZ H hEL) 60 (argsL := []) (rest := []) f12.1 (lenOf own_pd73 rfl) rfl rfl (Nat.le_of_eq rfl) (by rw [hml]; rfl) (hb hby d469) rfl (by decide) (by decide) ?_
  rintro _ vm11 h11 C11 ⟨rfl, rfl⟩
  have z11 := C11.2.1
  refine gat1 ?_
  refine uY 73 hx hby d470 ((if0 _ _).trans (teq (by decide)).1) (by decide) (by decide) ?_
  refine uG 33 hx hby d471 (by decide) (by decide) ?_
  refine uA 35 hx hby d445 rfl rfl rfl ?_
  have f14 := (f4.keep K5 (ninS (Nat.ne_of_lt (by omega)) nin0))
  refine ginfo fun _ _ O13 => ?_
  have f15 := (q2_2.keep K5)
  refine gcallF (xi := mn447) (y := mn402) hx (ow hw 89 rfl) (ow hw 90 rfl) (fun _ _ hU => mvT hU (ow hw 91 rfl)) (ow hw 92 rfl) (ow hw 93 rfl) (ow hw 94 rfl) (ow hw 95 rfl) (ow hw 96 rfl) (by decide) (fun hZ H hEL => Pay.of_met (W := 0) (own_has1_2 l Z a0 cx [] (it2) (kl) vm11 h5 O13 q5_0 q5_1 f14) (ow hw 97 rfl) (ow hw 75 rfl) (by decide) (by decide) hZ H hEL) 40 (argsL := []) (rest := []) f15 (lenOf own_pd73 rfl) rfl rfl (Nat.le_of_eq rfl) (by rw [hml]; rfl) (hb hby d446) rfl (by decide) (by decide) ?_
  rintro _ vm13 h13 C13 ⟨rfl, rfl⟩
  have z13 := C13.2.1
  refine gat1 ?_
  refine uN 43 hx hby d448 rfl ((if0 _ _).trans (feq (by decide)).1) ?_
  refine uA 45 hx hby d462 rfl rfl rfl ?_
  have f17 := (f6.keep K5 (ninS (Nat.ne_of_lt (by omega)) nin0))
  have f18 := (f7.keep K5)
  have f19 := (f8.keep K5 (ninS (Nat.ne_of_lt (by omega)) nin0))
  have f20 := (f9.keep K5 (ninS (Nat.ne_of_lt (by omega)) nin0))
  have f21 := (f10.keep K5)
  refine ginfo fun _ _ O16 => ?_
  refine gcallF (xi := mn465) (y := mn435) hx (ow hw 274 rfl) (ow hw 275 rfl) (fun _ _ hU => mvT hU (ow hw 276 rfl)) (ow hw 277 rfl) (ow hw 278 rfl) (ow hw 279 rfl) (ow hw 280 rfl) (ow hw 96 rfl) (by decide) (fun hZ H hEL => Pay.of_met (W := 0) (own_next1_2 l Z a0 cx [] (it2) (kl) (mc) ((0 : Int32)) (d) (kc) (s0_) (s1_) vm13 h5 O16 f15 q5_0 q5_1 q5_2 q5_3 q2_1 f17 f18 f19 f14 f20 f21 (by first | assumption | decide | omega)) (ow hw 281 rfl) (ow hw 75 rfl) (by decide) (by decide) hZ H hEL) 50 (argsL := []) (rest := []) f15 (lenOf own_pd464 rfl) rfl rfl (Nat.le_of_eq rfl) (by rw [hml]; rfl) (hb hby d463) rfl (by decide) (by decide) ?_
  rintro _ vm16 h16 C16 ⟨rfl, K16, q16_0, q16_1, q16_2, q16_3⟩
  have z16 := C16.2.1
  refine gat1 ?_
  refine gcast hx (ow hw 288 rfl) (Ins.self (((P17.1.keep K2).keep K5).keep K16)) 53 (hb hby d466) rfl ?_
  refine uSA 55 #[vr x, .val .null, vi pf, vr kl, vr it2, vr s1_] hx hby d467 rfl rfl rfl ?_
  refine uA 57 hx hby d468 rfl rfl rfl ?_
  have f23 := (((P17.keep K2 nin0 nin0).keep K5 (ninS (Nat.ne_of_lt (by omega)) nin0) (ninS (Nat.ne_of_lt (by omega)) nin0)).keep K16 (ninS (Nat.ne_of_lt (by omega)) nin0) (ninS (Nat.ne_of_lt (by omega)) nin0))
  refine ginfo fun _ _ O22 => ?_
  refine gcallV (y := mn91) (z := mn91) hx (ow hw 230 rfl) (ow hw 231 rfl) (nfSel (ow hw 233 rfl)) (ow hw 233 rfl) (ow hw 232 rfl) (by decide) (fun hZ H hEL => Pay.of_met (W := 0) (own_isblank l Z a0 cx [] (s1_) (t1_) (ch1) (cr1) (cdi) (ca) (kA) vm16 h16 O22 f23 (by first | assumption | decide | omega) (by first | assumption | decide | omega) (by first | assumption | decide | omega) (by first | assumption | decide | omega)) (ow hw 234 rfl) (ow hw 9 rfl) (by decide) (by decide) hZ H hEL) 60 (argsL := []) (rest := []) f23.1 (lenOf own_pd73 rfl) rfl rfl (Nat.le_of_eq rfl) (by rw [hml]; rfl) (hb hby d469) rfl (by decide) (by decide) ?_
  rintro _ vm22 h22 C22 ⟨rfl, rfl⟩
  have z22 := C22.2.1
  refine gat1 ?_
  refine uY 73 hx hby d470 ((if0 _ _).trans (teq (by decide)).1) (by decide) (by decide) ?_
  refine uG 33 hx hby d471 (by decide) (by decide) ?_
  refine uA 35 hx hby d445 rfl rfl rfl ?_
  have f25 := (f14.keep K16 (ninS (Nat.ne_of_lt (by omega)) nin0))
  refine ginfo fun _ _ O24 => ?_
  have f26 := (f15.keep K16)
  refine gcallF (xi := mn447) (y := mn402) hx (ow hw 89 rfl) (ow hw 90 rfl) (fun _ _ hU => mvT hU (ow hw 91 rfl)) (ow hw 92 rfl) (ow hw 93 rfl) (ow hw 94 rfl) (ow hw 95 rfl) (ow hw 96 rfl) (by decide) (fun hZ H hEL => Pay.of_met (W := 0) (own_has2_2 l Z a0 cx [] (it2) (kl) vm22 h16 O24 q16_0 q16_1 f25) (ow hw 97 rfl) (ow hw 75 rfl) (by decide) (by decide) hZ H hEL) 40 (argsL := []) (rest := []) f26 (lenOf own_pd73 rfl) rfl rfl (Nat.le_of_eq rfl) (by rw [hml]; rfl) (hb hby d446) rfl (by decide) (by decide) ?_
  rintro _ vm24 h24 C24 ⟨rfl, rfl⟩
  have z24 := C24.2.1
  refine gat1 ?_
  refine uY 76 hx hby d448 ((if0 _ _).trans (teq (by decide)).1) (by decide) (by decide) ?_
  refine uAN 77 hx hby d449 rfl rfl rfl ?_
  refine uAN 78 hx hby d450 rfl rfl rfl ?_
  have f27 := (((P1.keep K2 nin0).keep K5 (ninS (Nat.ne_of_lt (by omega)) nin0)).keep K16 (ninS (Nat.ne_of_lt (by omega)) nin0))
  have f28 := (((P0.keep K2).keep K5).keep K16)
  refine gputF (host := "") hx (Or.inl (ow hw 102 rfl)) Via.refl f27 f28 (Or.inr ⟨(ow hw 103 rfl), rfl, hnm⟩) (ow hw 58 rfl) (ty := (.object c12_)) (by decide) rfl rfl P4 (fun al => Safe.exa al f28 (by decide) (by decide)) 81 (hb hby d451) rfl ?_
  intro h29 W29 C29
  have z29 := C29.2.1
  have F29 := f27.same W29
  refine uAN 82 hx hby d452 rfl rfl rfl ?_
  refine uIN 83 hx hby d453 rfl rfl ?_
  have f30 := ((((P2.keep K2 nin0).keep K5 (ninS (Nat.ne_of_lt (by omega)) nin0)).keep K16 (ninS (Nat.ne_of_lt (by omega)) nin0)).other W29 (Or.inr (slot_ne (Or.inr (ow hw 105 rfl)) (Or.inr (ow hw 103 rfl)) (by decide) (t := .boolean) (t' := (.object c12_)) (by decide) (by decide))))
  have f31 := (f28.wr W29)
  refine gputF (host := "") hx (Or.inl (ow hw 104 rfl)) Via.refl f30 f31 (Or.inr ⟨(ow hw 105 rfl), rfl, hnm⟩) (ow hw 58 rfl) (ty := .boolean) (by decide) (by rcases b_pf with q | q <;> rw [q] <;> rfl) (by rcases b_pf with q | q <;> rw [q] <;> rfl) P4 (fun al => Safe.exa al f31 (by decide) (by decide)) 86 (hb hby d454) rfl ?_
  intro h32 W32 C32
  have z32 := C32.2.1
  have F32 := f30.same W32
  refine uAN 87 hx hby d455 rfl rfl rfl ?_
  refine uAN 88 hx hby d456 rfl rfl rfl ?_
  have f34 := (((f18.keep K16).wr W29).wr W32)
  have f35 := (f31.wr W32)
  have f36 := (((f19.keep K16 (ninS (Nat.ne_of_lt (by omega)) nin0)).other W29 (Or.inl (ne_exa f34 f35 (by decide)))).other W32 (Or.inl (ne_exa f34 f35 (by decide))))
  have f37 := ((f25.other W29 (Or.inl (ne_exa f34 f35 (by decide)))).other W32 (Or.inl (ne_exa f34 f35 (by decide))))
  have f38 := (((f21.keep K16).wr W29).wr W32)
  have f39 := (((f20.keep K16 (ninS (Nat.ne_of_lt (by omega)) nin0)).other W29 (ne_exa f38 f35 (by decide))).other W32 (ne_exa f38 f35 (by decide)))
  refine ginfo fun _ _ O33 => ?_
  refine gcallS (y := mn325) hx (ow hw 106 rfl) (ow hw 107 rfl) (ow hw 108 rfl) (ow hw 109 rfl) (by decide) (fun hZ H hEL => Pay.of_met (W := 1) (own_copy2 l Z a0 cx [] (kl) (d) (kc) (s0_) (s1_) (dz) (el) (ee) (em) (mr) (kd) (ke) vm24 h32 O33 f34 f36 f37 f39 f38 (by first | assumption | decide | omega) (((f12.1.keep K16).wr W29).wr W32) ((f23.1.wr W29).wr W32) (by first | assumption | decide | omega)) (ow hw 109 rfl) (ow hw 108 rfl) (by decide) (by decide) hZ H hEL) 91 (argsL := [(.ref kl)]) (rest := [(.ref x)]) (lenOf own_pd323 rfl) rfl rfl (Nat.le_of_eq rfl) (by rw [hml]; rfl) (hb hby d457) rfl (by decide) (by decide) ?_
  rintro _ vm33 h33 C33 ⟨r33, rfl, K33, q33_0, q33_1, q33_2, q33_3⟩
  have z33 := C33.2.1
  have lt_r33 : h33.size > r33 := q33_1.lt
  refine gat1 ?_
  have f40 := ((((((P3.keep K2 nin0).keep K5 (ninS (Nat.ne_of_lt (by omega)) nin0)).keep K16 (ninS (Nat.ne_of_lt (by omega)) nin0)).other W29 (Or.inr (slot_ne (Or.inr (ow hw 135 rfl)) (Or.inr (ow hw 103 rfl)) (by decide) (t := (.object c19_)) (t' := (.object c12_)) (by decide) (by decide)))).other W32 (Or.inr (slot_ne (Or.inr (ow hw 135 rfl)) (Or.inr (ow hw 105 rfl)) (by decide) (t := (.object c19_)) (t' := .boolean) (by decide) (by decide)))).keep K33 nin0)
  have f41 := (f35.keep K33)
  refine gputF (host := "") hx (Or.inl (ow hw 134 rfl)) Via.refl f40 f41 (Or.inr ⟨(ow hw 135 rfl), rfl, hnm⟩) (ow hw 58 rfl) (ty := (.object c19_)) (by decide) rfl rfl P4 (fun al => Safe.exa al f41 (by decide) (by decide)) 94 (hb hby d458) rfl ?_
  intro h42 W42 C42
  have z42 := C42.2.1
  have F42 := f40.same W42
  have f44 := (((F29.other W32 (Or.inr (slot_ne (Or.inr (ow hw 103 rfl)) (Or.inr (ow hw 105 rfl)) (by decide) (t := (.object c12_)) (t' := .boolean) (by decide) (by decide)))).keep K33 nin0).other W42 (Or.inr (slot_ne (Or.inr (ow hw 103 rfl)) (Or.inr (ow hw 135 rfl)) (by decide) (t := (.object c12_)) (t' := (.object c19_)) (by decide) (by decide))))
  have f45 := ((F32.keep K33 nin0).other W42 (Or.inr (slot_ne (Or.inr (ow hw 105 rfl)) (Or.inr (ow hw 135 rfl)) (by decide) (t := .boolean) (t' := (.object c19_)) (by decide) (by decide))))
  have f46 := (q33_1.wr W42)
  have f47 := (q33_2.other W42 (Or.inl (Nat.ne_of_gt (by omega))))
  have f48 := (q33_3.other W42 (Or.inl (Nat.ne_of_gt (by omega))))
  exact gretV hx hret (hb hby d459) (by decide) (by decide) (fun vq Cq => ⟨r33, rfl, ((((((((Keep.refl h0 [x]).trans K2 all0).trans K5 (allS (Or.inr (by omega)) all0)).trans K16 (allS (Or.inr (by omega)) all0)).wr W29 (Or.inl (List.mem_of_getElem? (i := 0) rfl))).wr W32 (Or.inl (List.mem_of_getElem? (i := 0) rfl))).trans K33 all0).wr W42 (Or.inl (List.mem_of_getElem? (i := 0) rfl))), f44, f45, F42, f46, f47, f48⟩)
theorem d472 : decode y60_ 8 = .ok (.aload_n 1, 1) := by decide +kernel
theorem d473 : decode y60_ 9 = .ok (.invokevirtual 7, 3) := by decide +kernel
theorem d474 : decode y60_ 12 = .ok (.ifCond .eq 13, 3) := by decide +kernel
theorem own_cc1_0 (l : Launch) (Z : State) (a0 : Array Value) (cx : Ctx Z a0) (ws : List Jvm.Cond) (x : Addr) (pf : Int32) (kl : Addr) (mc : Int32) (u0 : Value) (u1 : Int32) (u2 : Value) (ui : Addr) (tu : Addr) (chu : Int32) (cru : List Int32) (cdi : Addr) (ca : Addr) (kA : ClassId) (dz : Addr) (el : Addr) (ee : Addr) (em : Addr) (mr : Addr) (kd : ClassId) (ke : ClassId) (vm0 : Vm) (h0 : Heap) (X00 : Ext Z.heap h0) (P0 : Exa Z h0 x c5_) (P1 : Fld Z h0 x c5_ "ui" c1_ u0) (P2 : Fld Z h0 x c5_ "preferred" "Z" (.int u1)) (P3 : Fld Z h0 x c5_ "terms" c3_ u2) (P4 : Z.heap.size ≤ x) (b_pf : (pf = 0 ∨ pf = 1)) (P6 : Fld Z h0 kl c13_ "modCount" "I" (.int mc)) (P7 : Exa Z h0 kl c14_) (P8 : Fld Z h0 kl c14_ c6_ c4_ (.ref dz)) (P9 : Fld Z h0 kl c14_ "size" "I" (.int (0 : Int32))) (P10 : Str Z h0 ui tu (chu :: cru)) (P11 : (B8 chu)) (P12 : (¬ chu < (33 : Int32))) (P13 : ((0 : Int32) < Int32.ofNat (chu :: cru).length)) (hB : (OwnB Z cdi ca kA)) (hL : (OwnL Z dz el ee em mr kd ke)) :
    Met l mn460 y60_ 6 none ws ({ frames := 5, cells := 1, slots := 4, locals := 68 } : Room) Z ([] : List (String × Nat)) vm0 h0 #[(.ref x), (.ref ui), (.int pf), (.ref kl)] (fun rv vm h => rv = none ∧ Keep h0 h [x] ∧ Fld Z h x c5_ "ui" c1_ (.ref ui) ∧ Fld Z h x c5_ "preferred" "Z" (.int pf) ∧ Fld Z h x c5_ "terms" c3_ (.ref el)) := by
  obtain ⟨hw, hEL, ⟨zc, Scs, hzc⟩, ⟨fm, Sfm, hfm⟩, hL0, hB0, hO0⟩ := id cx
  refine Met.of_walk (a0 := a0) #[vr x, vr ui, vi pf, vr kl, un, un] (plainFor_of_name own_pn461) X00 hEL (fun m => by first | (simp [entryFrame, mkF, argsToLocals, Value.category]; done) | rfl) ?_
  intro p e s m below meth c vm hx hby hml hret hnm hC0 hW0
  have lt_x : h0.size > x := P0.lt
  have lt_kl : h0.size > kl := P6.lt
  have lt_ui : h0.size > ui := P10.1.lt
  have lt_tu : h0.size > tu := P10.tlt
  obtain ⟨Sdz, Edz, Vdz, Sel, Eel, Fee, Vee, Fan, Sem, Eem, Mmr⟩ := id hL
  refine uAN 1 hx hby d436 rfl rfl rfl ?_
  refine ginitO hx (ow hw 63 rfl) (ow hw 27 rfl) (ow hw 28 rfl) 4 (W := 0) (Nat.le_of_eq rfl) (by rw [hml]; rfl) (hb hby d437) rfl (by decide) (by decide) ?_
  refine uAN 5 hx hby d438 rfl rfl rfl ?_
  refine uN0 8 hx hby d439 rfl ?_
  refine uAN 9 hx hby d472 rfl rfl rfl ?_
  refine ginfo fun _ _ O2 => ?_
  refine gcallV (y := mn91) (z := mn91) hx (ow hw 230 rfl) (ow hw 231 rfl) (nfSel (ow hw 233 rfl)) (ow hw 233 rfl) (ow hw 232 rfl) (by decide) (fun hZ H hEL => Pay.of_met (W := 0) (own_isblank l Z a0 cx [] (ui) (tu) (chu) (cru) (cdi) (ca) (kA) vm h0 O2 P10 (by first | assumption | decide | omega) (by first | assumption | decide | omega) (by first | assumption | decide | omega) (by first | assumption | decide | omega)) (ow hw 234 rfl) (ow hw 9 rfl) (by decide) (by decide) hZ H hEL) 12 (argsL := []) (rest := []) P10.1 (lenOf own_pd73 rfl) rfl rfl (Nat.le_of_eq rfl) (by rw [hml]; rfl) (hb hby d473) rfl (by decide) (by decide) ?_
  rintro _ vm2 h2 C2 ⟨rfl, rfl⟩
  have z2 := C2.2.1
  refine gat1 ?_
  refine uY 25 hx hby d474 ((if0 _ _).trans (teq (by decide)).1) (by decide) (by decide) ?_
  refine uAN 26 hx hby d440 rfl rfl rfl ?_
  refine ginfo fun _ _ O3 => ?_
  refine gcallF (xi := mn443) (y := mn385) hx (ow hw 64 rfl) (ow hw 65 rfl) (fun _ _ hU => mvT hU (ow hw 66 rfl)) (ow hw 67 rfl) (ow hw 68 rfl) (ow hw 69 rfl) (ow hw 70 rfl) (ow hw 71 rfl) (by decide) (fun hZ H hEL => Pay.of_met (W := 0) (own_iterator l Z a0 cx [] (kl) (mc) vm2 h0 O3 P7 P6) (ow hw 72 rfl) (ow hw 35 rfl) (by decide) (by decide) hZ H hEL) 31 (argsL := []) (rest := []) P7 (lenOf own_pd442 rfl) rfl rfl (Nat.le_of_eq rfl) (by rw [hml]; rfl) (hb hby d441) rfl (by decide) (by decide) ?_
  rintro _ vm3 h3 C3 ⟨it3, rfl, K3, q3_0, q3_1, q3_2, q3_3, q3_4, q3_5, q3_6⟩
  have z3 := C3.2.1
  have lt_it3 : h3.size > it3 := q3_2.lt
  refine gat1 ?_
  refine uSA 33 #[vr x, vr ui, vi pf, vr kl, vr it3, un] hx hby d444 rfl rfl rfl ?_
  refine uA 35 hx hby d445 rfl rfl rfl ?_
  have f5 := (P9.keep K3 nin0)
  refine ginfo fun _ _ O4 => ?_
  refine gcallF (xi := mn447) (y := mn402) hx (ow hw 89 rfl) (ow hw 90 rfl) (fun _ _ hU => mvT hU (ow hw 91 rfl)) (ow hw 92 rfl) (ow hw 93 rfl) (ow hw 94 rfl) (ow hw 95 rfl) (ow hw 96 rfl) (by decide) (fun hZ H hEL => Pay.of_met (W := 0) (own_has0_0 l Z a0 cx [] (it3) (kl) vm3 h3 O4 q3_3 q3_4 f5) (ow hw 97 rfl) (ow hw 75 rfl) (by decide) (by decide) hZ H hEL) 40 (argsL := []) (rest := []) q3_2 (lenOf own_pd73 rfl) rfl rfl (Nat.le_of_eq rfl) (by rw [hml]; rfl) (hb hby d446) rfl (by decide) (by decide) ?_
  rintro _ vm4 h4 C4 ⟨rfl, rfl⟩
  have z4 := C4.2.1
  refine gat1 ?_
  refine uY 76 hx hby d448 ((if0 _ _).trans (teq (by decide)).1) (by decide) (by decide) ?_
  refine uAN 77 hx hby d449 rfl rfl rfl ?_
  refine uAN 78 hx hby d450 rfl rfl rfl ?_
  have f6 := (P1.keep K3 nin0)
  have f7 := (P0.keep K3)
  refine gputF (host := "") hx (Or.inl (ow hw 102 rfl)) Via.refl f6 f7 (Or.inr ⟨(ow hw 103 rfl), rfl, hnm⟩) (ow hw 58 rfl) (ty := (.object c12_)) (by decide) rfl rfl P4 (fun al => Safe.exa al f7 (by decide) (by decide)) 81 (hb hby d451) rfl ?_
  intro h8 W8 C8
  have z8 := C8.2.1
  have F8 := f6.same W8
  refine uAN 82 hx hby d452 rfl rfl rfl ?_
  refine uIN 83 hx hby d453 rfl rfl ?_
  have f9 := ((P2.keep K3 nin0).other W8 (Or.inr (slot_ne (Or.inr (ow hw 105 rfl)) (Or.inr (ow hw 103 rfl)) (by decide) (t := .boolean) (t' := (.object c12_)) (by decide) (by decide))))
  have f10 := (f7.wr W8)
  refine gputF (host := "") hx (Or.inl (ow hw 104 rfl)) Via.refl f9 f10 (Or.inr ⟨(ow hw 105 rfl), rfl, hnm⟩) (ow hw 58 rfl) (ty := .boolean) (by decide) (by rcases b_pf with q | q <;> rw [q] <;> rfl) (by rcases b_pf with q | q <;> rw [q] <;> rfl) P4 (fun al => Safe.exa al f10 (by decide) (by decide)) 86 (hb hby d454) rfl ?_
  intro h11 W11 C11
  have z11 := C11.2.1
  have F11 := f9.same W11
  refine uAN 87 hx hby d455 rfl rfl rfl ?_
  refine uAN 88 hx hby d456 rfl rfl rfl ?_
  have f13 := (((P7.keep K3).wr W8).wr W11)
  have f14 := (f10.wr W11)
  have f15 := (((P8.keep K3 nin0).other W8 (Or.inl (ne_exa f13 f14 (by decide)))).other W11 (Or.inl (ne_exa f13 f14 (by decide))))
  have f16 := ((f5.other W8 (Or.inl (ne_exa f13 f14 (by decide)))).other W11 (Or.inl (ne_exa f13 f14 (by decide))))
  refine ginfo fun _ _ O12 => ?_
  refine gcallS (y := mn325) hx (ow hw 106 rfl) (ow hw 107 rfl) (ow hw 108 rfl) (ow hw 109 rfl) (by decide) (fun hZ H hEL => Pay.of_met (W := 1) (own_copy0 l Z a0 cx [] (kl) (dz) (el) (ee) (em) (mr) (kd) (ke) vm4 h11 O12 f13 f15 f16 (by first | assumption | decide | omega)) (ow hw 109 rfl) (ow hw 108 rfl) (by decide) (by decide) hZ H hEL) 91 (argsL := [(.ref kl)]) (rest := [(.ref x)]) (lenOf own_pd323 rfl) rfl rfl (Nat.le_of_eq rfl) (by rw [hml]; rfl) (hb hby d457) rfl (by decide) (by decide) ?_
  rintro _ vm12 h12 C12 ⟨rfl, K12⟩
  have z12 := C12.2.1
  refine gat1 ?_
  have f17 := ((((P3.keep K3 nin0).other W8 (Or.inr (slot_ne (Or.inr (ow hw 135 rfl)) (Or.inr (ow hw 103 rfl)) (by decide) (t := (.object c19_)) (t' := (.object c12_)) (by decide) (by decide)))).other W11 (Or.inr (slot_ne (Or.inr (ow hw 135 rfl)) (Or.inr (ow hw 105 rfl)) (by decide) (t := (.object c19_)) (t' := .boolean) (by decide) (by decide)))).keep K12 nin0)
  have f18 := (f14.keep K12)
  refine gputF (host := "") hx (Or.inl (ow hw 134 rfl)) Via.refl f17 f18 (Or.inr ⟨(ow hw 135 rfl), rfl, hnm⟩) (ow hw 58 rfl) (ty := (.object c19_)) (by decide) rfl rfl P4 (fun al => Safe.exa al f18 (by decide) (by decide)) 94 (hb hby d458) rfl ?_
  intro h19 W19 C19
  have z19 := C19.2.1
  have F19 := f17.same W19
  have f21 := (((F8.other W11 (Or.inr (slot_ne (Or.inr (ow hw 103 rfl)) (Or.inr (ow hw 105 rfl)) (by decide) (t := (.object c12_)) (t' := .boolean) (by decide) (by decide)))).keep K12 nin0).other W19 (Or.inr (slot_ne (Or.inr (ow hw 103 rfl)) (Or.inr (ow hw 135 rfl)) (by decide) (t := (.object c12_)) (t' := (.object c19_)) (by decide) (by decide))))
  have f22 := ((F11.keep K12 nin0).other W19 (Or.inr (slot_ne (Or.inr (ow hw 105 rfl)) (Or.inr (ow hw 135 rfl)) (by decide) (t := .boolean) (t' := (.object c19_)) (by decide) (by decide))))
  exact gretV hx hret (hb hby d459) (by decide) (by decide) (fun vq Cq => ⟨rfl, ((((((Keep.refl h0 [x]).trans K3 all0).wr W8 (Or.inl (List.mem_of_getElem? (i := 0) rfl))).wr W11 (Or.inl (List.mem_of_getElem? (i := 0) rfl))).trans K12 all0).wr W19 (Or.inl (List.mem_of_getElem? (i := 0) rfl))), f21, f22, F19⟩)
theorem own_cc1_1 (l : Launch) (Z : State) (a0 : Array Value) (cx : Ctx Z a0) (ws : List Jvm.Cond) (x : Addr) (pf : Int32) (kl : Addr) (mc : Int32) (u0 : Value) (u1 : Int32) (u2 : Value) (ui : Addr) (tu : Addr) (chu : Int32) (cru : List Int32) (d : Addr) (kc : ClassId) (s0_ : Addr) (t0_ : Addr) (ch0 : Int32) (cr0 : List Int32) (cdi : Addr) (ca : Addr) (kA : ClassId) (dz : Addr) (el : Addr) (ee : Addr) (em : Addr) (mr : Addr) (kd : ClassId) (ke : ClassId) (vm0 : Vm) (h0 : Heap) (X00 : Ext Z.heap h0) (P0 : Exa Z h0 x c5_) (P1 : Fld Z h0 x c5_ "ui" c1_ u0) (P2 : Fld Z h0 x c5_ "preferred" "Z" (.int u1)) (P3 : Fld Z h0 x c5_ "terms" c3_ u2) (P4 : Z.heap.size ≤ x) (b_pf : (pf = 0 ∨ pf = 1)) (P6 : Fld Z h0 kl c13_ "modCount" "I" (.int mc)) (P7 : Exa Z h0 kl c14_) (P8 : Fld Z h0 kl c14_ c6_ c4_ (.ref d)) (P9 : Fld Z h0 kl c14_ "size" "I" (.int (1 : Int32))) (P10 : Arv Z h0 d kc (.object c11_) (10 : Int32) [(.ref s0_), .null, .null, .null, .null, .null, .null, .null, .null, .null] .null) (P11 : Exa Z h0 d c4_) (hov : (Ovr Z kc c11_)) (P13 : Str Z h0 s0_ t0_ (ch0 :: cr0)) (P14 : (B8 ch0)) (P15 : (¬ ch0 < (33 : Int32))) (P16 : ((0 : Int32) < Int32.ofNat (ch0 :: cr0).length)) (P17 : Str Z h0 ui tu (chu :: cru)) (P18 : (B8 chu)) (P19 : (¬ chu < (33 : Int32))) (P20 : ((0 : Int32) < Int32.ofNat (chu :: cru).length)) (hB : (OwnB Z cdi ca kA)) (hL : (OwnL Z dz el ee em mr kd ke)) :
    Met l mn460 y60_ 6 none ws ({ frames := 8, cells := 3, slots := 7, locals := 101 } : Room) Z ([] : List (String × Nat)) vm0 h0 #[(.ref x), (.ref ui), (.int pf), (.ref kl)] (fun rv vm h => ∃ (r : Addr), rv = none ∧ Keep h0 h [x] ∧ Fld Z h x c5_ "ui" c1_ (.ref ui) ∧ Fld Z h x c5_ "preferred" "Z" (.int pf) ∧ Fld Z h x c5_ "terms" c3_ (.ref r) ∧ Exa Z h r c17_ ∧ Fld Z h r c17_ "e0" c0_ (.ref s0_) ∧ Fld Z h r c17_ "e1" c0_ (.ref em)) := by
  obtain ⟨hw, hEL, ⟨zc, Scs, hzc⟩, ⟨fm, Sfm, hfm⟩, hL0, hB0, hO0⟩ := id cx
  refine Met.of_walk (a0 := a0) #[vr x, vr ui, vi pf, vr kl, un, un] (plainFor_of_name own_pn461) X00 hEL (fun m => by first | (simp [entryFrame, mkF, argsToLocals, Value.category]; done) | rfl) ?_
  intro p e s m below meth c vm hx hby hml hret hnm hC0 hW0
  have lt_x : h0.size > x := P0.lt
  have lt_kl : h0.size > kl := P6.lt
  have lt_d : h0.size > d := P10.lt
  have lt_s0_ : h0.size > s0_ := P13.1.lt
  have lt_t0_ : h0.size > t0_ := P13.tlt
  have lt_ui : h0.size > ui := P17.1.lt
  have lt_tu : h0.size > tu := P17.tlt
  obtain ⟨Sdz, Edz, Vdz, Sel, Eel, Fee, Vee, Fan, Sem, Eem, Mmr⟩ := id hL
  refine uAN 1 hx hby d436 rfl rfl rfl ?_
  refine ginitO hx (ow hw 63 rfl) (ow hw 27 rfl) (ow hw 28 rfl) 4 (W := 0) (Nat.le_of_eq rfl) (by rw [hml]; rfl) (hb hby d437) rfl (by decide) (by decide) ?_
  refine uAN 5 hx hby d438 rfl rfl rfl ?_
  refine uN0 8 hx hby d439 rfl ?_
  refine uAN 9 hx hby d472 rfl rfl rfl ?_
  refine ginfo fun _ _ O2 => ?_
  refine gcallV (y := mn91) (z := mn91) hx (ow hw 230 rfl) (ow hw 231 rfl) (nfSel (ow hw 233 rfl)) (ow hw 233 rfl) (ow hw 232 rfl) (by decide) (fun hZ H hEL => Pay.of_met (W := 0) (own_isblank l Z a0 cx [] (ui) (tu) (chu) (cru) (cdi) (ca) (kA) vm h0 O2 P17 (by first | assumption | decide | omega) (by first | assumption | decide | omega) (by first | assumption | decide | omega) (by first | assumption | decide | omega)) (ow hw 234 rfl) (ow hw 9 rfl) (by decide) (by decide) hZ H hEL) 12 (argsL := []) (rest := []) P17.1 (lenOf own_pd73 rfl) rfl rfl (Nat.le_of_eq rfl) (by rw [hml]; rfl) (hb hby d473) rfl (by decide) (by decide) ?_
  rintro _ vm2 h2 C2 ⟨rfl, rfl⟩
  have z2 := C2.2.1
  refine gat1 ?_
  refine uY 25 hx hby d474 ((if0 _ _).trans (teq (by decide)).1) (by decide) (by decide) ?_
  refine uAN 26 hx hby d440 rfl rfl rfl ?_
  refine ginfo fun _ _ O3 => ?_
  refine gcallF (xi := mn443) (y := mn385) hx (ow hw 64 rfl) (ow hw 65 rfl) (fun _ _ hU => mvT hU (ow hw 66 rfl)) (ow hw 67 rfl) (ow hw 68 rfl) (ow hw 69 rfl) (ow hw 70 rfl) (ow hw 71 rfl) (by decide) (fun hZ H hEL => Pay.of_met (W := 0) (own_iterator l Z a0 cx [] (kl) (mc) vm2 h0 O3 P7 P6) (ow hw 72 rfl) (ow hw 35 rfl) (by decide) (by decide) hZ H hEL) 31 (argsL := []) (rest := []) P7 (lenOf own_pd442 rfl) rfl rfl (Nat.le_of_eq rfl) (by rw [hml]; rfl) (hb hby d441) rfl (by decide) (by decide) ?_
  rintro _ vm3 h3 C3 ⟨it3, rfl, K3, q3_0, q3_1, q3_2, q3_3, q3_4, q3_5, q3_6⟩
  have z3 := C3.2.1
  have lt_it3 : h3.size > it3 := q3_2.lt
  refine gat1 ?_
  refine uSA 33 #[vr x, vr ui, vi pf, vr kl, vr it3, un] hx hby d444 rfl rfl rfl ?_
  refine uA 35 hx hby d445 rfl rfl rfl ?_
  have f5 := (P9.keep K3 nin0)
  refine ginfo fun _ _ O4 => ?_
  refine gcallF (xi := mn447) (y := mn402) hx (ow hw 89 rfl) (ow hw 90 rfl) (fun _ _ hU => mvT hU (ow hw 91 rfl)) (ow hw 92 rfl) (ow hw 93 rfl) (ow hw 94 rfl) (ow hw 95 rfl) (ow hw 96 rfl) (by decide) (fun hZ H hEL => Pay.of_met (W := 0) (own_has0_1 l Z a0 cx [] (it3) (kl) vm3 h3 O4 q3_3 q3_4 f5) (ow hw 97 rfl) (ow hw 75 rfl) (by decide) (by decide) hZ H hEL) 40 (argsL := []) (rest := []) q3_2 (lenOf own_pd73 rfl) rfl rfl (Nat.le_of_eq rfl) (by rw [hml]; rfl) (hb hby d446) rfl (by decide) (by decide) ?_
  rintro _ vm4 h4 C4 ⟨rfl, rfl⟩
  have z4 := C4.2.1
  refine gat1 ?_
  refine uN 43 hx hby d448 rfl ((if0 _ _).trans (feq (by decide)).1) ?_
  refine uA 45 hx hby d462 rfl rfl rfl ?_
  have f7 := (P6.keep K3 nin0)
  have f8 := (P7.keep K3)
  have f9 := (P8.keep K3 nin0)
  have f10 := (P10.keep K3 nin0)
  have f11 := (P11.keep K3)
  refine ginfo fun _ _ O6 => ?_
  refine gcallF (xi := mn465) (y := mn435) hx (ow hw 274 rfl) (ow hw 275 rfl) (fun _ _ hU => mvT hU (ow hw 276 rfl)) (ow hw 277 rfl) (ow hw 278 rfl) (ow hw 279 rfl) (ow hw 280 rfl) (ow hw 96 rfl) (by decide) (fun hZ H hEL => Pay.of_met (W := 0) (own_next0_1 l Z a0 cx [] (it3) (kl) (mc) ((-1 : Int32)) (d) (kc) (s0_) vm4 h3 O6 q3_2 q3_3 q3_4 q3_5 q3_6 q3_1 f7 f8 f9 f5 f10 f11 (by first | assumption | decide | omega)) (ow hw 281 rfl) (ow hw 75 rfl) (by decide) (by decide) hZ H hEL) 50 (argsL := []) (rest := []) q3_2 (lenOf own_pd464 rfl) rfl rfl (Nat.le_of_eq rfl) (by rw [hml]; rfl) (hb hby d463) rfl (by decide) (by decide) ?_
  rintro _ vm6 h6 C6 ⟨rfl, K6, q6_0, q6_1, q6_2, q6_3⟩
  have z6 := C6.2.1
  refine gat1 ?_
  refine gcast hx (ow hw 288 rfl) (Ins.self ((P13.1.keep K3).keep K6)) 53 (hb hby d466) rfl ?_
  refine uSA 55 #[vr x, vr ui, vi pf, vr kl, vr it3, vr s0_] hx hby d467 rfl rfl rfl ?_
  refine uA 57 hx hby d468 rfl rfl rfl ?_
  have f13 := ((P13.keep K3 nin0 nin0).keep K6 (ninS (Nat.ne_of_lt (by omega)) nin0) (ninS (Nat.ne_of_lt (by omega)) nin0))
  refine ginfo fun _ _ O12 => ?_
  refine gcallV (y := mn91) (z := mn91) hx (ow hw 230 rfl) (ow hw 231 rfl) (nfSel (ow hw 233 rfl)) (ow hw 233 rfl) (ow hw 232 rfl) (by decide) (fun hZ H hEL => Pay.of_met (W := 0) (own_isblank l Z a0 cx [] (s0_) (t0_) (ch0) (cr0) (cdi) (ca) (kA) vm6 h6 O12 f13 (by first | assumption | decide | omega) (by first | assumption | decide | omega) (by first | assumption | decide | omega) (by first | assumption | decide | omega)) (ow hw 234 rfl) (ow hw 9 rfl) (by decide) (by decide) hZ H hEL) 60 (argsL := []) (rest := []) f13.1 (lenOf own_pd73 rfl) rfl rfl (Nat.le_of_eq rfl) (by rw [hml]; rfl) (hb hby d469) rfl (by decide) (by decide) ?_
  rintro _ vm12 h12 C12 ⟨rfl, rfl⟩
  have z12 := C12.2.1
  refine gat1 ?_
  refine uY 73 hx hby d470 ((if0 _ _).trans (teq (by decide)).1) (by decide) (by decide) ?_
  refine uG 33 hx hby d471 (by decide) (by decide) ?_
  refine uA 35 hx hby d445 rfl rfl rfl ?_
  have f15 := (f5.keep K6 (ninS (Nat.ne_of_lt (by omega)) nin0))
  refine ginfo fun _ _ O14 => ?_
  have f16 := (q3_2.keep K6)
  refine gcallF (xi := mn447) (y := mn402) hx (ow hw 89 rfl) (ow hw 90 rfl) (fun _ _ hU => mvT hU (ow hw 91 rfl)) (ow hw 92 rfl) (ow hw 93 rfl) (ow hw 94 rfl) (ow hw 95 rfl) (ow hw 96 rfl) (by decide) (fun hZ H hEL => Pay.of_met (W := 0) (own_has1_1 l Z a0 cx [] (it3) (kl) vm12 h6 O14 q6_0 q6_1 f15) (ow hw 97 rfl) (ow hw 75 rfl) (by decide) (by decide) hZ H hEL) 40 (argsL := []) (rest := []) f16 (lenOf own_pd73 rfl) rfl rfl (Nat.le_of_eq rfl) (by rw [hml]; rfl) (hb hby d446) rfl (by decide) (by decide) ?_
  rintro _ vm14 h14 C14 ⟨rfl, rfl⟩
  have z14 := C14.2.1
  refine gat1 ?_
  refine uY 76 hx hby d448 ((if0 _ _).trans (teq (by decide)).1) (by decide) (by decide) ?_
  refine uAN 77 hx hby d449 rfl rfl rfl ?_
  refine uAN 78 hx hby d450 rfl rfl rfl ?_
  have f17 := ((P1.keep K3 nin0).keep K6 (ninS (Nat.ne_of_lt (by omega)) nin0))
  have f18 := ((P0.keep K3).keep K6)
  refine gputF (host := "") hx (Or.inl (ow hw 102 rfl)) Via.refl f17 f18 (Or.inr ⟨(ow hw 103 rfl), rfl, hnm⟩) (ow hw 58 rfl) (ty := (.object c12_)) (by decide) rfl rfl P4 (fun al => Safe.exa al f18 (by decide) (by decide)) 81 (hb hby d451) rfl ?_
  intro h19 W19 C19
  have z19 := C19.2.1
  have F19 := f17.same W19
  refine uAN 82 hx hby d452 rfl rfl rfl ?_
  refine uIN 83 hx hby d453 rfl rfl ?_
  have f20 := (((P2.keep K3 nin0).keep K6 (ninS (Nat.ne_of_lt (by omega)) nin0)).other W19 (Or.inr (slot_ne (Or.inr (ow hw 105 rfl)) (Or.inr (ow hw 103 rfl)) (by decide) (t := .boolean) (t' := (.object c12_)) (by decide) (by decide))))
  have f21 := (f18.wr W19)
  refine gputF (host := "") hx (Or.inl (ow hw 104 rfl)) Via.refl f20 f21 (Or.inr ⟨(ow hw 105 rfl), rfl, hnm⟩) (ow hw 58 rfl) (ty := .boolean) (by decide) (by rcases b_pf with q | q <;> rw [q] <;> rfl) (by rcases b_pf with q | q <;> rw [q] <;> rfl) P4 (fun al => Safe.exa al f21 (by decide) (by decide)) 86 (hb hby d454) rfl ?_
  intro h22 W22 C22
  have z22 := C22.2.1
  have F22 := f20.same W22
  refine uAN 87 hx hby d455 rfl rfl rfl ?_
  refine uAN 88 hx hby d456 rfl rfl rfl ?_
  have f24 := (((f8.keep K6).wr W19).wr W22)
  have f25 := (f21.wr W22)
  have f26 := (((f9.keep K6 (ninS (Nat.ne_of_lt (by omega)) nin0)).other W19 (Or.inl (ne_exa f24 f25 (by decide)))).other W22 (Or.inl (ne_exa f24 f25 (by decide))))
  have f27 := ((f15.other W19 (Or.inl (ne_exa f24 f25 (by decide)))).other W22 (Or.inl (ne_exa f24 f25 (by decide))))
  have f28 := (((f11.keep K6).wr W19).wr W22)
  have f29 := (((f10.keep K6 (ninS (Nat.ne_of_lt (by omega)) nin0)).other W19 (ne_exa f28 f25 (by decide))).other W22 (ne_exa f28 f25 (by decide)))
  refine ginfo fun _ _ O23 => ?_
  refine gcallS (y := mn325) hx (ow hw 106 rfl) (ow hw 107 rfl) (ow hw 108 rfl) (ow hw 109 rfl) (by decide) (fun hZ H hEL => Pay.of_met (W := 1) (own_copy1 l Z a0 cx [] (kl) (d) (kc) (s0_) (dz) (el) (ee) (em) (mr) (kd) (ke) vm14 h22 O23 f24 f26 f27 f29 f28 (by first | assumption | decide | omega) ((f13.1.wr W19).wr W22) (by first | assumption | decide | omega)) (ow hw 109 rfl) (ow hw 108 rfl) (by decide) (by decide) hZ H hEL) 91 (argsL := [(.ref kl)]) (rest := [(.ref x)]) (lenOf own_pd323 rfl) rfl rfl (Nat.le_of_eq rfl) (by rw [hml]; rfl) (hb hby d457) rfl (by decide) (by decide) ?_
  rintro _ vm23 h23 C23 ⟨r23, rfl, K23, q23_0, q23_1, q23_2, q23_3⟩
  have z23 := C23.2.1
  have lt_r23 : h23.size > r23 := q23_1.lt
  refine gat1 ?_
  have f30 := (((((P3.keep K3 nin0).keep K6 (ninS (Nat.ne_of_lt (by omega)) nin0)).other W19 (Or.inr (slot_ne (Or.inr (ow hw 135 rfl)) (Or.inr (ow hw 103 rfl)) (by decide) (t := (.object c19_)) (t' := (.object c12_)) (by decide) (by decide)))).other W22 (Or.inr (slot_ne (Or.inr (ow hw 135 rfl)) (Or.inr (ow hw 105 rfl)) (by decide) (t := (.object c19_)) (t' := .boolean) (by decide) (by decide)))).keep K23 nin0)
  have f31 := (f25.keep K23)
  refine gputF (host := "") hx (Or.inl (ow hw 134 rfl)) Via.refl f30 f31 (Or.inr ⟨(ow hw 135 rfl), rfl, hnm⟩) (ow hw 58 rfl) (ty := (.object c19_)) (by decide) rfl rfl P4 (fun al => Safe.exa al f31 (by decide) (by decide)) 94 (hb hby d458) rfl ?_
  intro h32 W32 C32
  have z32 := C32.2.1
  have F32 := f30.same W32
  have f34 := (((F19.other W22 (Or.inr (slot_ne (Or.inr (ow hw 103 rfl)) (Or.inr (ow hw 105 rfl)) (by decide) (t := (.object c12_)) (t' := .boolean) (by decide) (by decide)))).keep K23 nin0).other W32 (Or.inr (slot_ne (Or.inr (ow hw 103 rfl)) (Or.inr (ow hw 135 rfl)) (by decide) (t := (.object c12_)) (t' := (.object c19_)) (by decide) (by decide))))
  have f35 := ((F22.keep K23 nin0).other W32 (Or.inr (slot_ne (Or.inr (ow hw 105 rfl)) (Or.inr (ow hw 135 rfl)) (by decide) (t := .boolean) (t' := (.object c19_)) (by decide) (by decide))))
  have f36 := (q23_1.wr W32)
  have f37 := (q23_2.other W32 (Or.inl (Nat.ne_of_gt (by omega))))
  have f38 := (q23_3.other W32 (Or.inl (Nat.ne_of_gt (by omega))))
  exact gretV hx hret (hb hby d459) (by decide) (by decide) (fun vq Cq => ⟨r23, rfl, (((((((Keep.refl h0 [x]).trans K3 all0).trans K6 (allS (Or.inr (by omega)) all0)).wr W19 (Or.inl (List.mem_of_getElem? (i := 0) rfl))).wr W22 (Or.inl (List.mem_of_getElem? (i := 0) rfl))).trans K23 all0).wr W32 (Or.inl (List.mem_of_getElem? (i := 0) rfl))), f34, f35, F32, f36, f37, f38⟩)
theorem own_cc1_2 (l : Launch) (Z : State) (a0 : Array Value) (cx : Ctx Z a0) (ws : List Jvm.Cond) (x : Addr) (pf : Int32) (kl : Addr) (mc : Int32) (u0 : Value) (u1 : Int32) (u2 : Value) (ui : Addr) (tu : Addr) (chu : Int32) (cru : List Int32) (d : Addr) (kc : ClassId) (s0_ : Addr) (s1_ : Addr) (t0_ : Addr) (ch0 : Int32) (cr0 : List Int32) (t1_ : Addr) (ch1 : Int32) (cr1 : List Int32) (cdi : Addr) (ca : Addr) (kA : ClassId) (dz : Addr) (el : Addr) (ee : Addr) (em : Addr) (mr : Addr) (kd : ClassId) (ke : ClassId) (vm0 : Vm) (h0 : Heap) (X00 : Ext Z.heap h0) (P0 : Exa Z h0 x c5_) (P1 : Fld Z h0 x c5_ "ui" c1_ u0) (P2 : Fld Z h0 x c5_ "preferred" "Z" (.int u1)) (P3 : Fld Z h0 x c5_ "terms" c3_ u2) (P4 : Z.heap.size ≤ x) (b_pf : (pf = 0 ∨ pf = 1)) (P6 : Fld Z h0 kl c13_ "modCount" "I" (.int mc)) (P7 : Exa Z h0 kl c14_) (P8 : Fld Z h0 kl c14_ c6_ c4_ (.ref d)) (P9 : Fld Z h0 kl c14_ "size" "I" (.int (2 : Int32))) (P10 : Arv Z h0 d kc (.object c11_) (10 : Int32) [(.ref s0_), (.ref s1_), .null, .null, .null, .null, .null, .null, .null, .null] .null) (P11 : Exa Z h0 d c4_) (hov : (Ovr Z kc c11_)) (P13 : Str Z h0 s0_ t0_ (ch0 :: cr0)) (P14 : (B8 ch0)) (P15 : (¬ ch0 < (33 : Int32))) (P16 : ((0 : Int32) < Int32.ofNat (ch0 :: cr0).length)) (P17 : Str Z h0 s1_ t1_ (ch1 :: cr1)) (P18 : (B8 ch1)) (P19 : (¬ ch1 < (33 : Int32))) (P20 : ((0 : Int32) < Int32.ofNat (ch1 :: cr1).length)) (P21 : Str Z h0 ui tu (chu :: cru)) (P22 : (B8 chu)) (P23 : (¬ chu < (33 : Int32))) (P24 : ((0 : Int32) < Int32.ofNat (chu :: cru).length)) (hB : (OwnB Z cdi ca kA)) (hL : (OwnL Z dz el ee em mr kd ke)) :
    Met l mn460 y60_ 6 none ws ({ frames := 8, cells := 3, slots := 8, locals := 102 } : Room) Z ([] : List (String × Nat)) vm0 h0 #[(.ref x), (.ref ui), (.int pf), (.ref kl)] (fun rv vm h => ∃ (r : Addr), rv = none ∧ Keep h0 h [x] ∧ Fld Z h x c5_ "ui" c1_ (.ref ui) ∧ Fld Z h x c5_ "preferred" "Z" (.int pf) ∧ Fld Z h x c5_ "terms" c3_ (.ref r) ∧ Exa Z h r c17_ ∧ Fld Z h r c17_ "e0" c0_ (.ref s0_) ∧ Fld Z h r c17_ "e1" c0_ (.ref s1_)) := by
  obtain ⟨hw, hEL, ⟨zc, Scs, hzc⟩, ⟨fm, Sfm, hfm⟩, hL0, hB0, hO0⟩ := id cx
  refine Met.of_walk (a0 := a0) #[vr x, vr ui, vi pf, vr kl, un, un] (plainFor_of_name own_pn461) X00 hEL (fun m => by first | (simp [entryFrame, mkF, argsToLocals, Value.category]; done) | rfl) ?_
  intro p e s m below meth c vm hx hby hml hret hnm hC0 hW0
  have lt_x : h0.size > x := P0.lt
  have lt_kl : h0.size > kl := P6.lt
  have lt_d : h0.size > d := P10.lt
  have lt_s0_ : h0.size > s0_ := P13.1.lt
  have lt_t0_ : h0.size > t0_ := P13.tlt
  have lt_s1_ : h0.size > s1_ := P17.1.lt
  have lt_t1_ : h0.size > t1_ := P17.tlt
  have lt_ui : h0.size > ui := P21.1.lt
  have lt_tu : h0.size > tu := P21.tlt
  obtain ⟨Sdz, Edz, Vdz, Sel, Eel, Fee, Vee, Fan, Sem, Eem, Mmr⟩ := id hL
  refine uAN 1 hx hby d436 rfl rfl rfl ?_
  refine ginitO hx (ow hw 63 rfl) (ow hw 27 rfl) (ow hw 28 rfl) 4 (W := 0) (Nat.le_of_eq rfl) (by rw [hml]; rfl) (hb hby d437) rfl (by decide) (by decide) ?_
  refine uAN 5 hx hby d438 rfl rfl rfl ?_
  refine uN0 8 hx hby d439 rfl ?_
  refine uAN 9 hx hby d472 rfl rfl rfl ?_
  refine ginfo fun _ _ O2 => ?_
  refine gcallV (y := mn91) (z := mn91) hx (ow hw 230 rfl) (ow hw 231 rfl) (nfSel (ow hw 233 rfl)) (ow hw 233 rfl) (ow hw 232 rfl) (by decide) (fun hZ H hEL => Pay.of_met (W := 0) (own_isblank l Z a0 cx [] (ui) (tu) (chu) (cru) (cdi) (ca) (kA) vm h0 O2 P21 (by first | assumption | decide | omega) (by first | assumption | decide | omega) (by first | assumption | decide | omega) (by first | assumption | decide | omega)) (ow hw 234 rfl) (ow hw 9 rfl) (by decide) (by decide) hZ H hEL) 12 (argsL := []) (rest := []) P21.1 (lenOf own_pd73 rfl) rfl rfl (Nat.le_of_eq rfl) (by rw [hml]; rfl) (hb hby d473) rfl (by decide) (by decide) ?_
  rintro _ vm2 h2 C2 ⟨rfl, rfl⟩
  have z2 := C2.2.1
  refine gat1 ?_
  refine uY 25 hx hby d474 ((if0 _ _).trans (teq (by decide)).1) (by decide) (by decide) ?_
  refine uAN 26 hx hby d440 rfl rfl rfl ?_
  refine ginfo fun _ _ O3 => ?_
  refine gcallF (xi := mn443) (y := mn385) hx (ow hw 64 rfl) (ow hw 65 rfl) (fun _ _ hU => mvT hU (ow hw 66 rfl)) (ow hw 67 rfl) (ow hw 68 rfl) (ow hw 69 rfl) (ow hw 70 rfl) (ow hw 71 rfl) (by decide) (fun hZ H hEL => Pay.of_met (W := 0) (own_iterator l Z a0 cx [] (kl) (mc) vm2 h0 O3 P7 P6) (ow hw 72 rfl) (ow hw 35 rfl) (by decide) (by decide) hZ H hEL) 31 (argsL := []) (rest := []) P7 (lenOf own_pd442 rfl) rfl rfl (Nat.le_of_eq rfl) (by rw [hml]; rfl) (hb hby d441) rfl (by decide) (by decide) ?_
  rintro _ vm3 h3 C3 ⟨it3, rfl, K3, q3_0, q3_1, q3_2, q3_3, q3_4, q3_5, q3_6⟩
  have z3 := C3.2.1
  have lt_it3 : h3.size > it3 := q3_2.lt
  refine gat1 ?_
  refine uSA 33 #[vr x, vr ui, vi pf, vr kl, vr it3, un] hx hby d444 rfl rfl rfl ?_
  refine uA 35 hx hby d445 rfl rfl rfl ?_
  have f5 := (P9.keep K3 nin0)
  refine ginfo fun _ _ O4 => ?_
  refine gcallF (xi := mn447) (y := mn402) hx (ow hw 89 rfl) (ow hw 90 rfl) (fun _ _ hU => mvT hU (ow hw 91 rfl)) (ow hw 92 rfl) (ow hw 93 rfl) (ow hw 94 rfl) (ow hw 95 rfl) (ow hw 96 rfl) (by decide) (fun hZ H hEL => Pay.of_met (W := 0) (own_has0_2 l Z a0 cx [] (it3) (kl) vm3 h3 O4 q3_3 q3_4 f5) (ow hw 97 rfl) (ow hw 75 rfl) (by decide) (by decide) hZ H hEL) 40 (argsL := []) (rest := []) q3_2 (lenOf own_pd73 rfl) rfl rfl (Nat.le_of_eq rfl) (by rw [hml]; rfl) (hb hby d446) rfl (by decide) (by decide) ?_
  rintro _ vm4 h4 C4 ⟨rfl, rfl⟩
  have z4 := C4.2.1
  refine gat1 ?_
  refine uN 43 hx hby d448 rfl ((if0 _ _).trans (feq (by decide)).1) ?_
  refine uA 45 hx hby d462 rfl rfl rfl ?_
  have f7 := (P6.keep K3 nin0)
  have f8 := (P7.keep K3)
  have f9 := (P8.keep K3 nin0)
  have f10 := (P10.keep K3 nin0)
  have f11 := (P11.keep K3)
  refine ginfo fun _ _ O6 => ?_
  refine gcallF (xi := mn465) (y := mn435) hx (ow hw 274 rfl) (ow hw 275 rfl) (fun _ _ hU => mvT hU (ow hw 276 rfl)) (ow hw 277 rfl) (ow hw 278 rfl) (ow hw 279 rfl) (ow hw 280 rfl) (ow hw 96 rfl) (by decide) (fun hZ H hEL => Pay.of_met (W := 0) (own_next0_2 l Z a0 cx [] (it3) (kl) (mc) ((-1 : Int32)) (d) (kc) (s0_) (s1_) vm4 h3 O6 q3_2 q3_3 q3_4 q3_5 q3_6 q3_1 f7 f8 f9 f5 f10 f11 (by first | assumption | decide | omega)) (ow hw 281 rfl) (ow hw 75 rfl) (by decide) (by decide) hZ H hEL) 50 (argsL := []) (rest := []) q3_2 (lenOf own_pd464 rfl) rfl rfl (Nat.le_of_eq rfl) (by rw [hml]; rfl) (hb hby d463) rfl (by decide) (by decide) ?_
  rintro _ vm6 h6 C6 ⟨rfl, K6, q6_0, q6_1, q6_2, q6_3⟩
  have z6 := C6.2.1
  refine gat1 ?_
  refine gcast hx (ow hw 288 rfl) (Ins.self ((P13.1.keep K3).keep K6)) 53 (hb hby d466) rfl ?_
  refine uSA 55 #[vr x, vr ui, vi pf, vr kl, vr it3, vr s0_] hx hby d467 rfl rfl rfl ?_
  refine uA 57 hx hby d468 rfl rfl rfl ?_
  have f13 := ((P13.keep K3 nin0 nin0).keep K6 (ninS (Nat.ne_of_lt (by omega)) nin0) (ninS (Nat.ne_of_lt (by omega)) nin0))
  refine ginfo fun _ _ O12 => ?_
  refine gcallV (y := mn91) (z := mn91) hx (ow hw 230 rfl) (ow hw 231 rfl) (nfSel (ow hw 233 rfl)) (ow hw 233 rfl) (ow hw 232 rfl) (by decide) (fun hZ H hEL => Pay.of_met (W := 0) (own_isblank l Z a0 cx [] (s0_) (t0_) (ch0) (cr0) (cdi) (ca) (kA) vm6 h6 O12 f13 (by first | assumption | decide | omega) (by first | assumption | decide | omega) (by first | assumption | decide | omega) (by first | assumption | decide | omega)) (ow hw 234 rfl) (ow hw 9 rfl) (by decide) (by decide) hZ H hEL) 60 (argsL := []) (rest := []) f13.1 (lenOf own_pd73 rfl) rfl rfl (Nat.le_of_eq rfl) (by rw [hml]; rfl) (hb hby d469) rfl (by decide) (by decide) ?_
  rintro _ vm12 h12 C12 ⟨rfl, rfl⟩
  have z12 := C12.2.1
  refine gat1 ?_
  refine uY 73 hx hby d470 ((if0 _ _).trans (teq (by decide)).1) (by decide) (by decide) ?_
  refine uG 33 hx hby d471 (by decide) (by decide) ?_
  refine uA 35 hx hby d445 rfl rfl rfl ?_
  have f15 := (f5.keep K6 (ninS (Nat.ne_of_lt (by omega)) nin0))
  refine ginfo fun _ _ O14 => ?_
  have f16 := (q3_2.keep K6)
  refine gcallF (xi := mn447) (y := mn402) hx (ow hw 89 rfl) (ow hw 90 rfl) (fun _ _ hU => mvT hU (ow hw 91 rfl)) (ow hw 92 rfl) (ow hw 93 rfl) (ow hw 94 rfl) (ow hw 95 rfl) (ow hw 96 rfl) (by decide) (fun hZ H hEL => Pay.of_met (W := 0) (own_has1_2 l Z a0 cx [] (it3) (kl) vm12 h6 O14 q6_0 q6_1 f15) (ow hw 97 rfl) (ow hw 75 rfl) (by decide) (by decide) hZ H hEL) 40 (argsL := []) (rest := []) f16 (lenOf own_pd73 rfl) rfl rfl (Nat.le_of_eq rfl) (by rw [hml]; rfl) (hb hby d446) rfl (by decide) (by decide) ?_
  rintro _ vm14 h14 C14 ⟨rfl, rfl⟩
  have z14 := C14.2.1
  refine gat1 ?_
  refine uN 43 hx hby d448 rfl ((if0 _ _).trans (feq (by decide)).1) ?_
  refine uA 45 hx hby d462 rfl rfl rfl ?_
  have f18 := (f7.keep K6 (ninS (Nat.ne_of_lt (by omega)) nin0))
  have f19 := (f8.keep K6)
  have f20 := (f9.keep K6 (ninS (Nat.ne_of_lt (by omega)) nin0))
  have f21 := (f10.keep K6 (ninS (Nat.ne_of_lt (by omega)) nin0))
  have f22 := (f11.keep K6)
  refine ginfo fun _ _ O17 => ?_
  refine gcallF (xi := mn465) (y := mn435) hx (ow hw 274 rfl) (ow hw 275 rfl) (fun _ _ hU => mvT hU (ow hw 276 rfl)) (ow hw 277 rfl) (ow hw 278 rfl) (ow hw 279 rfl) (ow hw 280 rfl) (ow hw 96 rfl) (by decide) (fun hZ H hEL => Pay.of_met (W := 0) (own_next1_2 l Z a0 cx [] (it3) (kl) (mc) ((0 : Int32)) (d) (kc) (s0_) (s1_) vm14 h6 O17 f16 q6_0 q6_1 q6_2 q6_3 q3_1 f18 f19 f20 f15 f21 f22 (by first | assumption | decide | omega)) (ow hw 281 rfl) (ow hw 75 rfl) (by decide) (by decide) hZ H hEL) 50 (argsL := []) (rest := []) f16 (lenOf own_pd464 rfl) rfl rfl (Nat.le_of_eq rfl) (by rw [hml]; rfl) (hb hby d463) rfl (by decide) (by decide) ?_
  rintro _ vm17 h17 C17 ⟨rfl, K17, q17_0, q17_1, q17_2, q17_3⟩
  have z17 := C17.2.1
  refine gat1 ?_
  refine gcast hx (ow hw 288 rfl) (Ins.self (((P17.1.keep K3).keep K6).keep K17)) 53 (hb hby d466) rfl ?_
  refine uSA 55 #[vr x, vr ui, vi pf, vr kl, vr it3, vr s1_] hx hby d467 rfl rfl rfl ?_
  refine uA 57 hx hby d468 rfl rfl rfl ?_
  have f24 := (((P17.keep K3 nin0 nin0).keep K6 (ninS (Nat.ne_of_lt (by omega)) nin0) (ninS (Nat.ne_of_lt (by omega)) nin0)).keep K17 (ninS (Nat.ne_of_lt (by omega)) nin0) (ninS (Nat.ne_of_lt (by omega)) nin0))
  refine ginfo fun _ _ O23 => ?_
  refine gcallV (y := mn91) (z := mn91) hx (ow hw 230 rfl) (ow hw 231 rfl) (nfSel (ow hw 233 rfl)) (ow hw 233 rfl) (ow hw 232 rfl) (by decide) (fun hZ H hEL => Pay.of_met (W := 0) (own_isblank l Z a0 cx [] (s1_) (t1_) (ch1) (cr1) (cdi) (ca) (kA) vm17 h17 O23 f24 (by first | assumption | decide | omega) (by first | assumption | decide | omega) (by first | assumption | decide | omega) (by first | assumption | decide | omega)) (ow hw 234 rfl) (ow hw 9 rfl) (by decide) (by decide) hZ H hEL) 60 (argsL := []) (rest := []) f24.1 (lenOf own_pd73 rfl) rfl rfl (Nat.le_of_eq rfl) (by rw [hml]; rfl) (hb hby d469) rfl (by decide) (by decide) ?_
  rintro _ vm23 h23 C23 ⟨rfl, rfl⟩
  have z23 := C23.2.1
  refine gat1 ?_
  refine uY 73 hx hby d470 ((if0 _ _).trans (teq (by decide)).1) (by decide) (by decide) ?_
  refine uG 33 hx hby d471 (by decide) (by decide) ?_
  refine uA 35 hx hby d445 rfl rfl rfl ?_
  have f26 := (f15.keep K17 (ninS (Nat.ne_of_lt (by omega)) nin0))
  refine ginfo fun _ _ O25 => ?_
  have f27 := (f16.keep K17)
  refine gcallF (xi := mn447) (y := mn402) hx (ow hw 89 rfl) (ow hw 90 rfl) (fun _ _ hU => mvT hU (ow hw 91 rfl)) (ow hw 92 rfl) (ow hw 93 rfl) (ow hw 94 rfl) (ow hw 95 rfl) (ow hw 96 rfl) (by decide) (fun hZ H hEL => Pay.of_met (W := 0) (own_has2_2 l Z a0 cx [] (it3) (kl) vm23 h17 O25 q17_0 q17_1 f26) (ow hw 97 rfl) (ow hw 75 rfl) (by decide) (by decide) hZ H hEL) 40 (argsL := []) (rest := []) f27 (lenOf own_pd73 rfl) rfl rfl (Nat.le_of_eq rfl) (by rw [hml]; rfl) (hb hby d446) rfl (by decide) (by decide) ?_
  rintro _ vm25 h25 C25 ⟨rfl, rfl⟩
  have z25 := C25.2.1
  refine gat1 ?_
  refine uY 76 hx hby d448 ((if0 _ _).trans (teq (by decide)).1) (by decide) (by decide) ?_
  refine uAN 77 hx hby d449 rfl rfl rfl ?_
  refine uAN 78 hx hby d450 rfl rfl rfl ?_
  have f28 := (((P1.keep K3 nin0).keep K6 (ninS (Nat.ne_of_lt (by omega)) nin0)).keep K17 (ninS (Nat.ne_of_lt (by omega)) nin0))
  have f29 := (((P0.keep K3).keep K6).keep K17)
  refine gputF (host := "") hx (Or.inl (ow hw 102 rfl)) Via.refl f28 f29 (Or.inr ⟨(ow hw 103 rfl), rfl, hnm⟩) (ow hw 58 rfl) (ty := (.object c12_)) (by decide) rfl rfl P4 (fun al => Safe.exa al f29 (by decide) (by decide)) 81 (hb hby d451) rfl ?_
  intro h30 W30 C30
  have z30 := C30.2.1
  have F30 := f28.same W30
  refine uAN 82 hx hby d452 rfl rfl rfl ?_
  refine uIN 83 hx hby d453 rfl rfl ?_
  have f31 := ((((P2.keep K3 nin0).keep K6 (ninS (Nat.ne_of_lt (by omega)) nin0)).keep K17 (ninS (Nat.ne_of_lt (by omega)) nin0)).other W30 (Or.inr (slot_ne (Or.inr (ow hw 105 rfl)) (Or.inr (ow hw 103 rfl)) (by decide) (t := .boolean) (t' := (.object c12_)) (by decide) (by decide))))
  have f32 := (f29.wr W30)
  refine gputF (host := "") hx (Or.inl (ow hw 104 rfl)) Via.refl f31 f32 (Or.inr ⟨(ow hw 105 rfl), rfl, hnm⟩) (ow hw 58 rfl) (ty := .boolean) (by decide) (by rcases b_pf with q | q <;> rw [q] <;> rfl) (by rcases b_pf with q | q <;> rw [q] <;> rfl) P4 (fun al => Safe.exa al f32 (by decide) (by decide)) 86 (hb hby d454) rfl ?_
  intro h33 W33 C33
  have z33 := C33.2.1
  have F33 := f31.same W33
  refine uAN 87 hx hby d455 rfl rfl rfl ?_
  refine uAN 88 hx hby d456 rfl rfl rfl ?_
  have f35 := (((f19.keep K17).wr W30).wr W33)
  have f36 := (f32.wr W33)
  have f37 := (((f20.keep K17 (ninS (Nat.ne_of_lt (by omega)) nin0)).other W30 (Or.inl (ne_exa f35 f36 (by decide)))).other W33 (Or.inl (ne_exa f35 f36 (by decide))))
  have f38 := ((f26.other W30 (Or.inl (ne_exa f35 f36 (by decide)))).other W33 (Or.inl (ne_exa f35 f36 (by decide))))
  have f39 := (((f22.keep K17).wr W30).wr W33)
  have f40 := (((f21.keep K17 (ninS (Nat.ne_of_lt (by omega)) nin0)).other W30 (ne_exa f39 f36 (by decide))).other W33 (ne_exa f39 f36 (by decide)))
  refine ginfo fun _ _ O34 => ?_
  refine gcallS (y := mn325) hx (ow hw 106 rfl) (ow hw 107 rfl) (ow hw 108 rfl) (ow hw 109 rfl) (by decide) (fun hZ H hEL => Pay.of_met (W := 1) (own_copy2 l Z a0 cx [] (kl) (d) (kc) (s0_) (s1_) (dz) (el) (ee) (em) (mr) (kd) (ke) vm25 h33 O34 f35 f37 f38 f40 f39 (by first | assumption | decide | omega) (((f13.1.keep K17).wr W30).wr W33) ((f24.1.wr W30).wr W33) (by first | assumption | decide | omega)) (ow hw 109 rfl) (ow hw 108 rfl) (by decide) (by decide) hZ H hEL) 91 (argsL := [(.ref kl)]) (rest := [(.ref x)]) (lenOf own_pd323 rfl) rfl rfl (Nat.le_of_eq rfl) (by rw [hml]; rfl) (hb hby d457) rfl (by decide) (by decide) ?_
  rintro _ vm34 h34 C34 ⟨r34, rfl, K34, q34_0, q34_1, q34_2, q34_3⟩
  have z34 := C34.2.1
  have lt_r34 : h34.size > r34 := q34_1.lt
  refine gat1 ?_
  have f41 := ((((((P3.keep K3 nin0).keep K6 (ninS (Nat.ne_of_lt (by omega)) nin0)).keep K17 (ninS (Nat.ne_of_lt (by omega)) nin0)).other W30 (Or.inr (slot_ne (Or.inr (ow hw 135 rfl)) (Or.inr (ow hw 103 rfl)) (by decide) (t := (.object c19_)) (t' := (.object c12_)) (by decide) (by decide)))).other W33 (Or.inr (slot_ne (Or.inr (ow hw 135 rfl)) (Or.inr (ow hw 105 rfl)) (by decide) (t := (.object c19_)) (t' := .boolean) (by decide) (by decide)))).keep K34 nin0)
  have f42 := (f36.keep K34)
  refine gputF (host := "") hx (Or.inl (ow hw 134 rfl)) Via.refl f41 f42 (Or.inr ⟨(ow hw 135 rfl), rfl, hnm⟩) (ow hw 58 rfl) (ty := (.object c19_)) (by decide) rfl rfl P4 (fun al => Safe.exa al f42 (by decide) (by decide)) 94 (hb hby d458) rfl ?_
  intro h43 W43 C43
  have z43 := C43.2.1
  have F43 := f41.same W43
  have f45 := (((F30.other W33 (Or.inr (slot_ne (Or.inr (ow hw 103 rfl)) (Or.inr (ow hw 105 rfl)) (by decide) (t := (.object c12_)) (t' := .boolean) (by decide) (by decide)))).keep K34 nin0).other W43 (Or.inr (slot_ne (Or.inr (ow hw 103 rfl)) (Or.inr (ow hw 135 rfl)) (by decide) (t := (.object c12_)) (t' := (.object c19_)) (by decide) (by decide))))
  have f46 := ((F33.keep K34 nin0).other W43 (Or.inr (slot_ne (Or.inr (ow hw 105 rfl)) (Or.inr (ow hw 135 rfl)) (by decide) (t := .boolean) (t' := (.object c19_)) (by decide) (by decide))))
  have f47 := (q34_1.wr W43)
  have f48 := (q34_2.other W43 (Or.inl (Nat.ne_of_gt (by omega))))
  have f49 := (q34_3.other W43 (Or.inl (Nat.ne_of_gt (by omega))))
  exact gretV hx hret (hb hby d459) (by decide) (by decide) (fun vq Cq => ⟨r34, rfl, ((((((((Keep.refl h0 [x]).trans K3 all0).trans K6 (allS (Or.inr (by omega)) all0)).trans K17 (allS (Or.inr (by omega)) all0)).wr W30 (Or.inl (List.mem_of_getElem? (i := 0) rfl))).wr W33 (Or.inl (List.mem_of_getElem? (i := 0) rfl))).trans K34 all0).wr W43 (Or.inl (List.mem_of_getElem? (i := 0) rfl))), f45, f46, F43, f47, f48, f49⟩)
theorem d475 : decode y51_ 0 = .ok (.iconst 0, 1) := by decide +kernel
theorem d476 : decode y51_ 1 = .ok (.istore 5, 2) := by decide +kernel
theorem d477 : decode y51_ 3 = .ok (.iload 5, 2) := by decide +kernel
theorem d478 : decode y51_ 5 = .ok (.iload 4, 2) := by decide +kernel
theorem d479 : decode y51_ 7 = .ok (.if_icmp .ge 37, 3) := by decide +kernel
theorem d480 : decode y51_ 10 = .ok (.aload_n 0, 1) := by decide +kernel
theorem d481 : decode y51_ 11 = .ok (.iload_n 1, 1) := by decide +kernel
theorem d482 : decode y51_ 12 = .ok (.caload, 1) := by decide +kernel
theorem d483 : decode y51_ 13 = .ok (.istore 6, 2) := by decide +kernel
theorem d484 : decode y51_ 15 = .ok (.iload 6, 2) := by decide +kernel
theorem d485 : decode y51_ 17 = .ok (.sipush 255, 3) := by decide +kernel
theorem d486 : decode y51_ 20 = .ok (.if_icmp .le 6, 3) := by decide +kernel
theorem d487 : decode y51_ 26 = .ok (.aload_n 2, 1) := by decide +kernel
theorem d488 : decode y51_ 27 = .ok (.iload_n 3, 1) := by decide +kernel
theorem d489 : decode y51_ 28 = .ok (.iload 6, 2) := by decide +kernel
theorem d490 : decode y51_ 30 = .ok (.i2b, 1) := by decide +kernel
theorem d491 : decode y51_ 31 = .ok (.bastore, 1) := by decide +kernel
theorem d492 : decode y51_ 32 = .ok (.iinc 1 1, 3) := by decide +kernel
theorem d493 : decode y51_ 35 = .ok (.iinc 3 1, 3) := by decide +kernel
theorem d494 : decode y51_ 38 = .ok (.iinc 5 1, 3) := by decide +kernel
theorem d495 : decode y51_ 41 = .ok (.goto (-38), 3) := by decide +kernel
theorem d496 : decode y51_ 44 = .ok (.iload 4, 2) := by decide +kernel
theorem d497 : decode y51_ 46 = .ok (.ireturn, 1) := by decide +kernel
abbrev mn498 : MethodName := ⟨"java/lang/StringUTF16", "compress", "([CI[BII)I"⟩
theorem own_pn499 : plainName "java/lang/StringUTF16" = true := by first | (simp [plainName, overriddenIn]; done) | decide +kernel
theorem own_cmp5 (l : Launch) (Z : State) (a0 : Array Value) (cx : Ctx Z a0) (ws : List Jvm.Cond) (a : Addr) (ka : ClassId) (c0 : Int32) (c1 : Int32) (b : Addr) (kb : ClassId) (vm0 : Vm) (h0 : Heap) (X00 : Ext Z.heap h0) (P0 : Arv Z h0 a ka .char (2 : Int32) [(.int c0), (.int c1)] (.int (0 : Int32))) (P1 : Arv Z h0 b kb .byte (2 : Int32) [(.int (0 : Int32)), (.int (0 : Int32))] (.int (0 : Int32))) (P2 : Z.heap.size ≤ b) (P3 : Safe Z ([] : List (String × Nat)) vm0 h0 b) (hab : (a ≠ b)) (hb0 : (B8 c0)) (hb1 : (B8 c1)) :
    Met l mn498 y51_ 7 (some .int) ws ({ frames := 0, cells := 0, slots := 0, locals := 0 } : Room) Z ([] : List (String × Nat)) vm0 h0 #[(.ref a), (.int (0 : Int32)), (.ref b), (.int (0 : Int32)), (.int (2 : Int32))] (fun rv vm h => rv = some (.int (2 : Int32)) ∧ Keep h0 h [b] ∧ Arv Z h b kb .byte (2 : Int32) [(.int (c0.toInt8.toInt32)), (.int (c1.toInt8.toInt32))] (.int (0 : Int32))) := by
  obtain ⟨hw, hEL, ⟨zc, Scs, hzc⟩, ⟨fm, Sfm, hfm⟩, hL0, hB0, hO0⟩ := id cx
  refine Met.of_walk (a0 := a0) #[vr a, vi (0 : Int32), vr b, vi (0 : Int32), vi (2 : Int32), un, un] (plainFor_of_name own_pn499) X00 hEL (fun m => by first | (simp [entryFrame, mkF, argsToLocals, Value.category]; done) | rfl) ?_
  intro p e s m below meth c vm hx hby hml hret hnm hC0 hW0
  have lt_a : h0.size > a := P0.lt
  have lt_b : h0.size > b := P1.lt
  have L3 := hC0.safe lt_b P3
  refine uKc 1 (0 : Int32) hx hby d475 rfl rfl ?_
  refine uSI 3 #[vr a, vi (0 : Int32), vr b, vi (0 : Int32), vi (2 : Int32), vi (0 : Int32), un] hx hby d476 rfl rfl ?_
  refine uI 5 hx hby d477 rfl rfl ?_
  refine uI 7 hx hby d478 rfl rfl ?_
  refine uNc 10 hx hby d479 rfl (tlt (by decide)).2.1 ?_
  refine uAN 11 hx hby d480 rfl rfl rfl ?_
  refine uIN 12 hx hby d481 rfl rfl ?_
  refine gldC hx P0 ⟨by decide, by decide⟩ (i := 0) rfl (v := (.int c0)) rfl 13 (hb hby d482) rfl ?_
  refine uSI 15 #[vr a, vi (0 : Int32), vr b, vi (0 : Int32), vi (2 : Int32), vi (0 : Int32), vi c0] hx hby d483 rfl rfl ?_
  refine uI 17 hx hby d484 rfl rfl ?_
  refine uKs 20 (255 : Int32) hx hby d485 rfl rfl ?_
  refine uYc 26 hx hby d486 (flt hb0.2).2.2.2 (by decide) (by decide) ?_
  refine uAN 27 hx hby d487 rfl rfl rfl ?_
  refine uIN 28 hx hby d488 rfl rfl ?_
  refine uI 30 hx hby d489 rfl rfl ?_
  refine gs (mkF m 31 #[vr a, vi (0 : Int32), vr b, vi (0 : Int32), vi (2 : Int32), vi (0 : Int32), vi c0] [(.int (c0.toInt8.toInt32)), (.int (0 : Int32)), (.ref b)]) (fun _ _ A kq => XS.i2b A hx rfl (hb hby d490) rfl kq) ?_
  refine gstB hx P1 ⟨by decide, by decide⟩ (i := 0) rfl (Nat.le_of_ble_eq_true rfl) (y := (c0.toInt8.toInt32)) (narB _) P2 (fun _ => L3) 32 (hb hby d491) rfl ?_
  intro h1 W1 C1 V1
  have z1 := C1.2.1
  replace V1 : Arv Z h1 b kb .byte (2 : Int32) [(.int (c0.toInt8.toInt32)), (.int (0 : Int32))] (.int (0 : Int32)) := V1
  refine uInc 35 #[vr a, vi (1 : Int32), vr b, vi (0 : Int32), vi (2 : Int32), vi (0 : Int32), vi c0] hx hby d492 rfl rfl rfl ?_
  refine uInc 38 #[vr a, vi (1 : Int32), vr b, vi (1 : Int32), vi (2 : Int32), vi (0 : Int32), vi c0] hx hby d493 rfl rfl rfl ?_
  refine uInc 41 #[vr a, vi (1 : Int32), vr b, vi (1 : Int32), vi (2 : Int32), vi (1 : Int32), vi c0] hx hby d494 rfl rfl rfl ?_
  refine uG 3 hx hby d495 (by decide) (by decide) ?_
  refine uI 5 hx hby d477 rfl rfl ?_
  refine uI 7 hx hby d478 rfl rfl ?_
  refine uNc 10 hx hby d479 rfl (tlt (by decide)).2.1 ?_
  refine uAN 11 hx hby d480 rfl rfl rfl ?_
  refine uIN 12 hx hby d481 rfl rfl ?_
  have f2 := (P0.other W1 hab)
  refine gldC hx f2 ⟨by decide, by decide⟩ (i := 1) rfl (v := (.int c1)) rfl 13 (hb hby d482) rfl ?_
  refine uSI 15 #[vr a, vi (1 : Int32), vr b, vi (1 : Int32), vi (2 : Int32), vi (1 : Int32), vi c1] hx hby d483 rfl rfl ?_
  refine uI 17 hx hby d484 rfl rfl ?_
  refine uKs 20 (255 : Int32) hx hby d485 rfl rfl ?_
  refine uYc 26 hx hby d486 (flt hb1.2).2.2.2 (by decide) (by decide) ?_
  refine uAN 27 hx hby d487 rfl rfl rfl ?_
  refine uIN 28 hx hby d488 rfl rfl ?_
  refine uI 30 hx hby d489 rfl rfl ?_
  refine gs (mkF m 31 #[vr a, vi (1 : Int32), vr b, vi (1 : Int32), vi (2 : Int32), vi (1 : Int32), vi c1] [(.int (c1.toInt8.toInt32)), (.int (1 : Int32)), (.ref b)]) (fun _ _ A kq => XS.i2b A hx rfl (hb hby d490) rfl kq) ?_
  have f4 := (C1.safe (show h0.size > b by omega) L3)
  refine gstB hx V1 ⟨by decide, by decide⟩ (i := 1) rfl (Nat.le_of_ble_eq_true rfl) (y := (c1.toInt8.toInt32)) (narB _) P2 (fun _ => f4) 32 (hb hby d491) rfl ?_
  intro h3 W3 C3 V3
  have z3 := C3.2.1
  replace V3 : Arv Z h3 b kb .byte (2 : Int32) [(.int (c0.toInt8.toInt32)), (.int (c1.toInt8.toInt32))] (.int (0 : Int32)) := V3
  refine uInc 35 #[vr a, vi (2 : Int32), vr b, vi (1 : Int32), vi (2 : Int32), vi (1 : Int32), vi c1] hx hby d492 rfl rfl rfl ?_
  refine uInc 38 #[vr a, vi (2 : Int32), vr b, vi (2 : Int32), vi (2 : Int32), vi (1 : Int32), vi c1] hx hby d493 rfl rfl rfl ?_
  refine uInc 41 #[vr a, vi (2 : Int32), vr b, vi (2 : Int32), vi (2 : Int32), vi (2 : Int32), vi c1] hx hby d494 rfl rfl rfl ?_
  refine uG 3 hx hby d495 (by decide) (by decide) ?_
  refine uI 5 hx hby d477 rfl rfl ?_
  refine uI 7 hx hby d478 rfl rfl ?_
  refine uYc 44 hx hby d479 (flt (by decide)).2.1 (by decide) (by decide) ?_
  refine uI 46 hx hby d496 rfl rfl ?_
  exact gretI hx hret (hb hby d497) (by decide) (by decide) (fun vq Cq => ⟨rfl, (((Keep.refl h0 [b]).wr W1 (Or.inl (List.mem_of_getElem? (i := 0) rfl))).wr W3 (Or.inl (List.mem_of_getElem? (i := 0) rfl))), V3⟩)
theorem d500 : decode y49_ 0 = .ok (.iload_n 1, 1) := by decide +kernel
theorem d501 : decode y49_ 1 = .ok (.aload_n 0, 1) := by decide +kernel
theorem d502 : decode y49_ 2 = .ok (.arraylength, 1) := by decide +kernel
theorem d503 : decode y49_ 3 = .ok (.isub, 1) := by decide +kernel
theorem d504 : decode y49_ 4 = .ok (.bipush 31, 2) := by decide +kernel
theorem d505 : decode y49_ 6 = .ok (.iushr, 1) := by decide +kernel
theorem d506 : decode y49_ 7 = .ok (.i2b, 1) := by decide +kernel
theorem d507 : decode y49_ 8 = .ok (.ireturn, 1) := by decide +kernel
abbrev mn508 : MethodName := ⟨"java/lang/StringUTF16", "coderFromArrayLen", "([BI)B"⟩
theorem own_cfal (l : Launch) (Z : State) (a0 : Array Value) (cx : Ctx Z a0) (ws : List Jvm.Cond) (b : Addr) (kb : ClassId) (vs : List Value) (vm0 : Vm) (h0 : Heap) (X00 : Ext Z.heap h0) (P0 : Arv Z h0 b kb .byte (2 : Int32) vs (.int (0 : Int32))) :
    Met l mn508 y49_ 2 (some .byte) ws ({ frames := 0, cells := 0, slots := 0, locals := 0 } : Room) Z ([] : List (String × Nat)) vm0 h0 #[(.ref b), (.int (2 : Int32))] (fun rv vm h => rv = some (.int (0 : Int32)) ∧ h0 = h) := by
  obtain ⟨hw, hEL, ⟨zc, Scs, hzc⟩, ⟨fm, Sfm, hfm⟩, hL0, hB0, hO0⟩ := id cx
  refine Met.of_walk (a0 := a0) #[vr b, vi (2 : Int32)] (plainFor_of_name own_pn499) X00 hEL (fun m => by first | (simp [entryFrame, mkF, argsToLocals, Value.category]; done) | rfl) ?_
  intro p e s m below meth c vm hx hby hml hret hnm hC0 hW0
  have lt_b : h0.size > b := P0.lt
  refine uIN 1 hx hby d500 rfl rfl ?_
  refine uAN 2 hx hby d501 rfl rfl rfl ?_
  refine glen hx P0 3 (hb hby d502) rfl ?_
  refine uisub 4 (0 : Int32) hx hby d503 rfl (by decide) ?_
  refine uKb 6 (31 : Int32) hx hby d504 rfl rfl ?_
  refine gs (mkF m 7 #[vr b, vi (2 : Int32)] [(.int (0 : Int32))]) (fun _ _ A kq => XS.iushr A hx rfl (hb hby d505) rfl kq) ?_
  refine gs (mkF m 8 #[vr b, vi (2 : Int32)] [(.int (0 : Int32))]) (fun _ _ A kq => XS.i2b A hx rfl (hb hby d506) rfl kq) ?_
  exact gretN (t := .byte) hx hret (by simp) (hb hby d507) (by decide) (by decide) (fun vq Cq => ⟨rfl, rfl⟩)
theorem d509 : decode y50_ 0 = .ok (.iload_n 2, 1) := by decide +kernel
theorem d510 : decode y50_ 1 = .ok (.newarray .byte, 2) := by decide +kernel
theorem d511 : decode y50_ 3 = .ok (.astore_n 3, 1) := by decide +kernel
theorem d512 : decode y50_ 4 = .ok (.aload_n 0, 1) := by decide +kernel
theorem d513 : decode y50_ 5 = .ok (.iload_n 1, 1) := by decide +kernel
theorem d514 : decode y50_ 6 = .ok (.aload_n 3, 1) := by decide +kernel
theorem d515 : decode y50_ 7 = .ok (.iconst 0, 1) := by decide +kernel
theorem d516 : decode y50_ 8 = .ok (.iload_n 2, 1) := by decide +kernel
theorem d517 : decode y50_ 9 = .ok (.invokestatic 115, 3) := by decide +kernel
theorem own_pd518 : parseMethodDescriptor "([CI[BII)I" = some ⟨[(.array .char), .int, (.array .byte), .int, .int], some .int⟩ := by decide +kernel
theorem d519 : decode y50_ 12 = .ok (.istore 4, 2) := by decide +kernel
theorem d520 : decode y50_ 14 = .ok (.iload 4, 2) := by decide +kernel
theorem d521 : decode y50_ 16 = .ok (.iload_n 2, 1) := by decide +kernel
theorem d522 : decode y50_ 17 = .ok (.if_icmp .eq 40, 3) := by decide +kernel
theorem d523 : decode y50_ 57 = .ok (.aload_n 3, 1) := by decide +kernel
theorem d524 : decode y50_ 58 = .ok (.areturn, 1) := by decide +kernel
abbrev mn525 : MethodName := ⟨"java/lang/StringUTF16", "compress", "([CII)[B"⟩
theorem own_cmp3 (l : Launch) (Z : State) (a0 : Array Value) (cx : Ctx Z a0) (ws : List Jvm.Cond) (a : Addr) (ka : ClassId) (c0 : Int32) (c1 : Int32) (vm0 : Vm) (h0 : Heap) (X00 : Ext Z.heap h0) (P0 : Arv Z h0 a ka .char (2 : Int32) [(.int c0), (.int c1)] (.int (0 : Int32))) (hb0 : (B8 c0)) (hb1 : (B8 c1)) :
    Met l mn525 y50_ 6 (some (.array .byte)) ws ({ frames := 1, cells := 1, slots := 2, locals := 18 } : Room) Z ([] : List (String × Nat)) vm0 h0 #[(.ref a), (.int (0 : Int32)), (.int (2 : Int32))] (fun rv vm h => ∃ (r : Addr), ∃ (kr : ClassId), rv = some (.ref r) ∧ Keep h0 h [] ∧ h0.size ≤ r ∧ Exa Z h r "[B" ∧ Arv Z h r kr .byte (2 : Int32) [(.int (c0.toInt8.toInt32)), (.int (c1.toInt8.toInt32))] (.int (0 : Int32))) := by
  obtain ⟨hw, hEL, ⟨zc, Scs, hzc⟩, ⟨fm, Sfm, hfm⟩, hL0, hB0, hO0⟩ := id cx
  refine Met.of_walk (a0 := a0) #[vr a, vi (0 : Int32), vi (2 : Int32), un, un, un] (plainFor_of_name own_pn499) X00 hEL (fun m => by first | (simp [entryFrame, mkF, argsToLocals, Value.category]; done) | rfl) ?_
  intro p e s m below meth c vm hx hby hml hret hnm hC0 hW0
  have lt_a : h0.size > a := P0.lt
  refine uIN 1 hx hby d509 rfl rfl ?_
  refine gnewPE hx (ow hw 21 rfl) (n := (2 : Int32)) (by decide) (cap := 2) (by decide) (by decide) (ad := "[B") (by decide) 3 (hb hby d510) rfl (by decide) (by decide) ?_
  intro b1 h1 k1 g1 E1 C1 V1 A1 n1 L1
  have z1 := C1.2.1
  have V1 : Arv Z h1 b1 k1 .byte (2 : Int32) [(.int (0 : Int32)), (.int (0 : Int32))] (.int (0 : Int32)) := V1.pad (pad_rep [] (.int (0 : Int32)) 2)
  have lt_b1 : h1.size > b1 := V1.lt
  refine uSAN 4 #[vr a, vi (0 : Int32), vi (2 : Int32), vr b1, un, un] hx hby d511 rfl rfl rfl ?_
  refine uAN 5 hx hby d512 rfl rfl rfl ?_
  refine uIN 6 hx hby d513 rfl rfl ?_
  refine uAN 7 hx hby d514 rfl rfl rfl ?_
  refine uKc 8 (0 : Int32) hx hby d515 rfl rfl ?_
  refine uIN 9 hx hby d516 rfl rfl ?_
  have f3 := (P0.ext E1)
  refine ginfo fun _ _ O2 => ?_
  refine gcallS (y := mn498) hx (ow hw 197 rfl) (ow hw 198 rfl) (ow hw 195 rfl) (ow hw 199 rfl) (by decide) (fun hZ H hEL => Pay.of_met (W := 0) (own_cmp5 l Z a0 cx [] (a) (ka) (c0) (c1) (b1) (k1) vm h1 O2 f3 V1 n1 L1 (Nat.ne_of_lt (by omega)) (by first | assumption | decide | omega) (by first | assumption | decide | omega)) (ow hw 199 rfl) (ow hw 195 rfl) (by decide) (by decide) hZ H hEL) 12 (argsL := [(.ref a), (.int (0 : Int32)), (.ref b1), (.int (0 : Int32)), (.int (2 : Int32))]) (rest := []) (lenOf own_pd518 rfl) rfl rfl (Nat.le_of_eq rfl) (by rw [hml]; rfl) (hb hby d517) rfl (by decide) (by decide) ?_
  rintro _ vm2 h2 C2 ⟨rfl, K2, q2_0⟩
  have z2 := C2.2.1
  refine gat1 ?_
  refine uSI 14 #[vr a, vi (0 : Int32), vi (2 : Int32), vr b1, vi (2 : Int32), un] hx hby d519 rfl rfl ?_
  refine uI 16 hx hby d520 rfl rfl ?_
  refine uIN 17 hx hby d521 rfl rfl ?_
  refine uYc 57 hx hby d522 (teq (by decide)).1 (by decide) (by decide) ?_
  refine uAN 58 hx hby d523 rfl rfl rfl ?_
  have f5 := (A1.keep K2)
  exact gretA hx hret rfl rfl (hb hby d524) (by decide) (by decide) (fun vq Cq => ⟨b1, k1, rfl, (((Keep.refl h0 []).ext E1).trans K2 (allS (Or.inr (by omega)) all0)), (by omega), f5, q2_0⟩)
theorem d526 : decode y25_ 0 = .ok (.aload_n 0, 1) := by decide +kernel
theorem d527 : decode y25_ 1 = .ok (.invokespecial 1, 3) := by decide +kernel
theorem d528 : decode y25_ 4 = .ok (.iload_n 3, 1) := by decide +kernel
theorem d529 : decode y25_ 5 = .ok (.ifCond .ne 22, 3) := by decide +kernel
theorem d530 : decode y25_ 27 = .ok (.getstatic 38, 3) := by decide +kernel
theorem d531 : decode y25_ 30 = .ok (.ifCond .eq 28, 3) := by decide +kernel
theorem d532 : decode y25_ 33 = .ok (.aload_n 1, 1) := by decide +kernel
theorem d533 : decode y25_ 34 = .ok (.iload_n 2, 1) := by decide +kernel
theorem d534 : decode y25_ 35 = .ok (.iload_n 3, 1) := by decide +kernel
theorem d535 : decode y25_ 36 = .ok (.invokestatic 177, 3) := by decide +kernel
theorem own_pd536 : parseMethodDescriptor "([CII)[B" = some ⟨[(.array .char), .int, .int], some (.array .byte)⟩ := by decide +kernel
theorem d537 : decode y25_ 39 = .ok (.astore 5, 2) := by decide +kernel
theorem d538 : decode y25_ 41 = .ok (.aload_n 0, 1) := by decide +kernel
theorem d539 : decode y25_ 42 = .ok (.aload 5, 2) := by decide +kernel
theorem d540 : decode y25_ 44 = .ok (.iload_n 3, 1) := by decide +kernel
theorem d541 : decode y25_ 45 = .ok (.invokestatic 47, 3) := by decide +kernel
theorem own_pd542 : parseMethodDescriptor "([BI)B" = some ⟨[(.array .byte), .int], some .byte⟩ := by decide +kernel
theorem d543 : decode y25_ 48 = .ok (.putfield 15, 3) := by decide +kernel
theorem d544 : decode y25_ 51 = .ok (.aload_n 0, 1) := by decide +kernel
theorem d545 : decode y25_ 52 = .ok (.aload 5, 2) := by decide +kernel
theorem d546 : decode y25_ 54 = .ok (.putfield 9, 3) := by decide +kernel
theorem d547 : decode y25_ 57 = .ok (.return_, 1) := by decide +kernel
abbrev mn548 : MethodName := ⟨"java/lang/String", "<init>", "([CIILjava/lang/Void;)V"⟩
theorem own_si4 (l : Launch) (Z : State) (a0 : Array Value) (cx : Ctx Z a0) (ws : List Jvm.Cond) (x : Addr) (a : Addr) (ka : ClassId) (c0 : Int32) (c1 : Int32) (v0 : Value) (q0 : Value) (vm0 : Vm) (h0 : Heap) (X00 : Ext Z.heap h0) (P0 : Exa Z h0 x c12_) (P1 : Fld Z h0 x c12_ "value" "[B" v0) (P2 : Fld Z h0 x c12_ "coder" "B" q0) (P3 : Z.heap.size ≤ x) (P4 : Safe Z ([] : List (String × Nat)) vm0 h0 x) (P5 : Arv Z h0 a ka .char (2 : Int32) [(.int c0), (.int c1)] (.int (0 : Int32))) (hb0 : (B8 c0)) (hb1 : (B8 c1)) (P8 : Fld Z h0 x c12_ "hash" "I" (.int (0 : Int32))) (P9 : Fld Z h0 x c12_ c8_ "Z" (.int (0 : Int32))) :
    Met l mn548 y25_ 6 none ws ({ frames := 2, cells := 1, slots := 2, locals := 35 } : Room) Z ([] : List (String × Nat)) vm0 h0 #[(.ref x), (.ref a), (.int (0 : Int32)), (.int (2 : Int32)), .null] (fun rv vm h => ∃ (t : Addr), rv = none ∧ Keep h0 h [x] ∧ h0.size ≤ t ∧ Str Z h x t [c0, c1] ∧ Exa Z h t "[B" ∧ Safe Z ([] : List (String × Nat)) vm h x ∧ Fld Z h x c12_ "hash" "I" (.int (0 : Int32)) ∧ Fld Z h x c12_ c8_ "Z" (.int (0 : Int32))) := by
  obtain ⟨hw, hEL, ⟨zc, Scs, hzc⟩, ⟨fm, Sfm, hfm⟩, hL0, hB0, hO0⟩ := id cx
  refine Met.of_walk (a0 := a0) #[vr x, vr a, vi (0 : Int32), vi (2 : Int32), .val .null, un] (plainFor_of_name own_pn70) X00 hEL (fun m => by first | (simp [entryFrame, mkF, argsToLocals, Value.category]; done) | rfl) ?_
  intro p e s m below meth c vm hx hby hml hret hnm hC0 hW0
  have lt_x : h0.size > x := P0.lt
  have L4 := hC0.safe lt_x P4
  have lt_a : h0.size > a := P5.lt
  refine uAN 1 hx hby d526 rfl rfl rfl ?_
  refine ginitO hx (ow hw 26 rfl) (ow hw 27 rfl) (ow hw 28 rfl) 4 (W := 0) (Nat.le_of_eq rfl) (by rw [hml]; rfl) (hb hby d527) rfl (by decide) (by decide) ?_
  refine uIN 5 hx hby d528 rfl rfl ?_
  refine uY 27 hx hby d529 ((if0 _ _).trans (feq (by decide)).2) (by decide) (by decide) ?_
  refine ggetS (host := "") hx (Or.inl (ow hw 11 rfl)) Via.refl Scs 30 (hb hby d530) rfl ?_
  refine uN 33 hx hby d531 rfl ((if0 _ _).trans (feq hzc).1) ?_
  refine uAN 34 hx hby d532 rfl rfl rfl ?_
  refine uIN 35 hx hby d533 rfl rfl ?_
  refine uIN 36 hx hby d534 rfl rfl ?_
  refine ginfo fun _ _ O2 => ?_
  refine gcallS (y := mn525) hx (ow hw 193 rfl) (ow hw 194 rfl) (ow hw 195 rfl) (ow hw 196 rfl) (by decide) (fun hZ H hEL => Pay.of_met (W := 0) (own_cmp3 l Z a0 cx [] (a) (ka) (c0) (c1) vm h0 O2 P5 (by first | assumption | decide | omega) (by first | assumption | decide | omega)) (ow hw 196 rfl) (ow hw 195 rfl) (by decide) (by decide) hZ H hEL) 39 (argsL := [(.ref a), (.int (0 : Int32)), (.int (2 : Int32))]) (rest := []) (lenOf own_pd536 rfl) rfl rfl (Nat.le_of_eq rfl) (by rw [hml]; rfl) (hb hby d535) rfl (by decide) (by decide) ?_
  rintro _ vm2 h2 C2 ⟨r2, kr2, rfl, K2, q2_0, q2_1, q2_2⟩
  have z2 := C2.2.1
  have lt_r2 : h2.size > r2 := q2_1.lt
  refine gat1 ?_
  refine uSA 41 #[vr x, vr a, vi (0 : Int32), vi (2 : Int32), .val .null, vr r2] hx hby d537 rfl rfl rfl ?_
  refine uAN 42 hx hby d538 rfl rfl rfl ?_
  refine uA 44 hx hby d539 rfl rfl rfl ?_
  refine uIN 45 hx hby d540 rfl rfl ?_
  refine ginfo fun _ _ O3 => ?_
  refine gcallS (y := mn508) hx (ow hw 200 rfl) (ow hw 201 rfl) (ow hw 195 rfl) (ow hw 202 rfl) (by decide) (fun hZ H hEL => Pay.of_met (W := 1) (own_cfal l Z a0 cx [] (r2) (kr2) ([(.int (c0.toInt8.toInt32)), (.int (c1.toInt8.toInt32))]) vm2 h2 O3 q2_2) (ow hw 202 rfl) (ow hw 195 rfl) (by decide) (by decide) hZ H hEL) 48 (argsL := [(.ref r2), (.int (2 : Int32))]) (rest := [(.ref x)]) (lenOf own_pd542 rfl) rfl rfl (Nat.le_of_eq rfl) (by rw [hml]; rfl) (hb hby d541) rfl (by decide) (by decide) ?_
  rintro _ vm3 h3 C3 ⟨rfl, rfl⟩
  have z3 := C3.2.1
  refine gat1 ?_
  have f4 := (P2.keep K2 nin0)
  have f5 := (P0.keep K2)
  have f6 := (C3.safe (show h2.size > x by omega) (C2.safe (show h0.size > x by omega) L4))
  refine gputF (host := "") hx (Or.inl (ow hw 31 rfl)) Via.refl f4 f5 (Or.inr ⟨(ow hw 32 rfl), rfl, hnm⟩) (ow hw 17 rfl) (ty := .byte) (by decide) rfl rfl P3 (fun _ => f6) 51 (hb hby d543) rfl ?_
  intro h7 W7 C7
  have z7 := C7.2.1
  have F7 := f4.same W7
  refine uAN 52 hx hby d544 rfl rfl rfl ?_
  refine uA 54 hx hby d545 rfl rfl rfl ?_
  have f8 := ((P1.keep K2 nin0).other W7 (Or.inr (slot_ne (Or.inr (ow hw 30 rfl)) (Or.inr (ow hw 32 rfl)) (by decide) (t := (.array .byte)) (t' := .byte) (by decide) (by decide))))
  have f9 := (f5.wr W7)
  have f10 := (C7.safe (show h2.size > x by omega) f6)
  refine gputF (host := "") hx (Or.inl (ow hw 29 rfl)) Via.refl f8 f9 (Or.inr ⟨(ow hw 30 rfl), rfl, hnm⟩) (ow hw 17 rfl) (ty := (.array .byte)) (by decide) rfl rfl P3 (fun _ => f10) 57 (hb hby d546) rfl ?_
  intro h11 W11 C11
  have z11 := C11.2.1
  have F11 := f8.same W11
  have f12 := (f9.wr W11)
  have f13 := (F7.other W11 (Or.inr (slot_ne (Or.inr (ow hw 32 rfl)) (Or.inr (ow hw 30 rfl)) (by decide) (t := .byte) (t' := (.array .byte)) (by decide) (by decide))))
  have f14 := ((q2_2.other W7 (Nat.ne_of_gt (by omega))).other W11 (Nat.ne_of_gt (by omega)))
  have f16 := ((q2_1.wr W7).wr W11)
  have f17 := (C11.safe (show h7.size > x by omega) f10)
  have f18 := (((P8.keep K2 nin0).other W7 (Or.inr (slot_ne (Or.inl (ow hw 354 rfl)) (Or.inr (ow hw 32 rfl)) (by decide) (t := .int) (t' := .byte) (by decide) (by decide)))).other W11 (Or.inr (slot_ne (Or.inl (ow hw 354 rfl)) (Or.inr (ow hw 30 rfl)) (by decide) (t := .int) (t' := (.array .byte)) (by decide) (by decide))))
  have f19 := (((P9.keep K2 nin0).other W7 (Or.inr (slot_ne (Or.inl (ow hw 356 rfl)) (Or.inr (ow hw 32 rfl)) (by decide) (t := .boolean) (t' := .byte) (by decide) (by decide)))).other W11 (Or.inr (slot_ne (Or.inl (ow hw 356 rfl)) (Or.inr (ow hw 30 rfl)) (by decide) (t := .boolean) (t' := (.array .byte)) (by decide) (by decide))))
  exact gretV hx hret (hb hby d547) (by decide) (by decide) (fun vq Cq => ⟨r2, rfl, ((((Keep.refl h0 [x]).trans K2 all0).wr W7 (Or.inl (List.mem_of_getElem? (i := 0) rfl))).wr W11 (Or.inl (List.mem_of_getElem? (i := 0) rfl))), (by omega), ⟨f12, f13, F11, ⟨_, f14⟩, bcons hb0 (bcons hb1 bnil), Nat.le_of_ble_eq_true rfl⟩, f16, (Cq.safe (show h11.size > x by omega) f17), f18, f19⟩)
theorem d549 : decode y28_ 0 = .ok (.aload_n 0, 1) := by decide +kernel
theorem d550 : decode y28_ 1 = .ok (.aload_n 1, 1) := by decide +kernel
theorem d551 : decode y28_ 2 = .ok (.iconst 0, 1) := by decide +kernel
theorem d552 : decode y28_ 3 = .ok (.aload_n 1, 1) := by decide +kernel
theorem d553 : decode y28_ 4 = .ok (.arraylength, 1) := by decide +kernel
theorem d554 : decode y28_ 5 = .ok (.aconst_null, 1) := by decide +kernel
theorem d555 : decode y28_ 6 = .ok (.invokespecial 27, 3) := by decide +kernel
theorem own_pd556 : parseMethodDescriptor "([CIILjava/lang/Void;)V" = some ⟨[(.array .char), .int, .int, (.object "java/lang/Void")], none⟩ := by decide +kernel
theorem d557 : decode y28_ 9 = .ok (.return_, 1) := by decide +kernel
abbrev mn558 : MethodName := ⟨"java/lang/String", "<init>", "([C)V"⟩
theorem own_si1 (l : Launch) (Z : State) (a0 : Array Value) (cx : Ctx Z a0) (ws : List Jvm.Cond) (x : Addr) (a : Addr) (ka : ClassId) (c0 : Int32) (c1 : Int32) (v0 : Value) (q0 : Value) (vm0 : Vm) (h0 : Heap) (X00 : Ext Z.heap h0) (P0 : Exa Z h0 x c12_) (P1 : Fld Z h0 x c12_ "value" "[B" v0) (P2 : Fld Z h0 x c12_ "coder" "B" q0) (P3 : Z.heap.size ≤ x) (P4 : Safe Z ([] : List (String × Nat)) vm0 h0 x) (P5 : Arv Z h0 a ka .char (2 : Int32) [(.int c0), (.int c1)] (.int (0 : Int32))) (hb0 : (B8 c0)) (hb1 : (B8 c1)) (P8 : Fld Z h0 x c12_ "hash" "I" (.int (0 : Int32))) (P9 : Fld Z h0 x c12_ c8_ "Z" (.int (0 : Int32))) :
    Met l mn558 y28_ 2 none ws ({ frames := 3, cells := 1, slots := 2, locals := 52 } : Room) Z ([] : List (String × Nat)) vm0 h0 #[(.ref x), (.ref a)] (fun rv vm h => ∃ (t : Addr), rv = none ∧ Keep h0 h [x] ∧ h0.size ≤ t ∧ Str Z h x t [c0, c1] ∧ Exa Z h t "[B" ∧ Safe Z ([] : List (String × Nat)) vm h x ∧ Fld Z h x c12_ "hash" "I" (.int (0 : Int32)) ∧ Fld Z h x c12_ c8_ "Z" (.int (0 : Int32))) := by
  obtain ⟨hw, hEL, ⟨zc, Scs, hzc⟩, ⟨fm, Sfm, hfm⟩, hL0, hB0, hO0⟩ := id cx
  refine Met.of_walk (a0 := a0) #[vr x, vr a] (plainFor_of_name own_pn70) X00 hEL (fun m => by first | (simp [entryFrame, mkF, argsToLocals, Value.category]; done) | rfl) ?_
  intro p e s m below meth c vm hx hby hml hret hnm hC0 hW0
  have lt_x : h0.size > x := P0.lt
  have L4 := hC0.safe lt_x P4
  have lt_a : h0.size > a := P5.lt
  refine uAN 1 hx hby d549 rfl rfl rfl ?_
  refine uAN 2 hx hby d550 rfl rfl rfl ?_
  refine uKc 3 (0 : Int32) hx hby d551 rfl rfl ?_
  refine uAN 4 hx hby d552 rfl rfl rfl ?_
  refine glen hx P5 5 (hb hby d553) rfl ?_
  refine uU 6 hx hby d554 rfl ?_
  refine ginfo fun _ _ O1 => ?_
  refine gcallI (y := mn548) hx rfl (ow hw 190 rfl) (ow hw 191 rfl) (ow hw 192 rfl) (by decide) (fun hZ H hEL => Pay.of_met (W := 0) (own_si4 l Z a0 cx [] (x) (a) (ka) (c0) (c1) (v0) (q0) vm h0 O1 P0 P1 P2 P3 L4 P5 (by first | assumption | decide | omega) (by first | assumption | decide | omega) P8 P9) (ow hw 192 rfl) (ow hw 9 rfl) (by decide) (by decide) hZ H hEL) (a := x) 9 (argsL := [(.ref a), (.int (0 : Int32)), (.int (2 : Int32)), .null]) (rest := []) (lenOf own_pd556 rfl) rfl rfl (Nat.le_of_eq rfl) (by rw [hml]; rfl) (hb hby d555) rfl (by decide) (by decide) ?_
  rintro _ vm1 h1 C1 ⟨t1, rfl, K1, q1_0, q1_1, q1_2, q1_3, q1_4, q1_5⟩
  have z1 := C1.2.1
  have lt_t1 : h1.size > t1 := q1_1.tlt
  refine gat0 ?_
  exact gretV hx hret (hb hby d557) (by decide) (by decide) (fun vq Cq => ⟨t1, rfl, ((Keep.refl h0 [x]).trans K1 (allS (Or.inl (List.mem_of_getElem? (i := 0) rfl)) all0)), (by omega), q1_1, q1_2, (Cq.safe (show h1.size > x by omega) q1_3), q1_4, q1_5⟩)
def own_fst (x : Int32) : Int32 := if (32 : Int32) < (x &&& (255 : Int32)) then (x &&& (255 : Int32)) else (x &&& (255 : Int32)) + (33 : Int32)
def own_snd (x : Int32) : Int32 := ((x.toUInt32 >>> ((8 : Int32) &&& 31).toUInt32).toInt32) &&& (255 : Int32)
theorem own_fstB (x : Int32) : B8 (own_fst x) ∧ ¬ own_fst x < (33 : Int32) := by
  have h := c_mask x 255 8 (by decide) (by decide)
  have e0 : (0 : Int32).toInt = 0 := rfl
  have e1 : (255 : Int32).toInt = 255 := rfl
  have e2 : (32 : Int32).toInt = 32 := rfl
  have e3 : (33 : Int32).toInt = 33 := rfl
  unfold own_fst B8
  split
  · rename_i q
    rw [Int32.lt_iff_toInt_lt, e2] at q
    simp only [Int32.lt_iff_toInt_lt, e0, e1, e3]
    omega
  · rename_i q
    rw [Int32.lt_iff_toInt_lt, e2] at q
    have s := c_iadd (x &&& 255) 33
    have r := rng32 ((x &&& 255) + 33)
    simp only [Int32.lt_iff_toInt_lt, e0, e1, e3] at *
    omega
theorem own_nar33 {x : Int32} (q : ¬ (32 : Int32) < (x &&& (255 : Int32))) : nar .char (((x &&& (255 : Int32)) + (33 : Int32)).toUInt32.toUInt16.toUInt32.toInt32) = (x &&& (255 : Int32)) + (33 : Int32) := by
  have h := (own_fstB x).1
  rw [own_fst, if_neg q] at h
  exact (narC2 _).trans (own_b8c h)
theorem d559 : decode y56_ 0 = .ok (.iload_n 0, 1) := by decide +kernel
theorem d560 : decode y56_ 1 = .ok (.sipush 255, 3) := by decide +kernel
theorem d561 : decode y56_ 4 = .ok (.iand, 1) := by decide +kernel
theorem d562 : decode y56_ 5 = .ok (.istore_n 1, 1) := by decide +kernel
theorem d563 : decode y56_ 6 = .ok (.iload_n 1, 1) := by decide +kernel
theorem d564 : decode y56_ 7 = .ok (.bipush 32, 2) := by decide +kernel
theorem d565 : decode y56_ 9 = .ok (.if_icmp .gt 8, 3) := by decide +kernel
theorem d566 : decode y56_ 17 = .ok (.iload_n 1, 1) := by decide +kernel
theorem d567 : decode y56_ 18 = .ok (.i2c, 1) := by decide +kernel
theorem d568 : decode y56_ 19 = .ok (.ireturn, 1) := by decide +kernel
theorem d569 : decode y56_ 12 = .ok (.iload_n 1, 1) := by decide +kernel
theorem d570 : decode y56_ 13 = .ok (.bipush 33, 2) := by decide +kernel
theorem d571 : decode y56_ 15 = .ok (.iadd, 1) := by decide +kernel
theorem d572 : decode y56_ 16 = .ok (.istore_n 1, 1) := by decide +kernel
abbrev mn573 : MethodName := ⟨"com/example/headings_from_text/headingsfromtext/vocabulary/ConceptHashCodePinLaw", "first", "(I)C"⟩
theorem own_pn574 : plainName "com/example/headings_from_text/headingsfromtext/vocabulary/ConceptHashCodePinLaw" = true := by first | (simp [plainName, overriddenIn]; done) | decide +kernel
theorem own_first (l : Launch) (Z : State) (a0 : Array Value) (cx : Ctx Z a0) (ws : List Jvm.Cond) (x : Int32) (vm0 : Vm) (h0 : Heap) (X00 : Ext Z.heap h0)  :
    Met l mn573 y56_ 2 (some .char) ws ({ frames := 0, cells := 0, slots := 0, locals := 0 } : Room) Z ([] : List (String × Nat)) vm0 h0 #[(.int x)] (fun rv vm h => rv = some (.int (own_fst x)) ∧ h0 = h) := by
  obtain ⟨hw, hEL, ⟨zc, Scs, hzc⟩, ⟨fm, Sfm, hfm⟩, hL0, hB0, hO0⟩ := id cx
  refine Met.of_walk (a0 := a0) #[vi x, un] (plainFor_of_name own_pn574) X00 hEL (fun m => by first | (simp [entryFrame, mkF, argsToLocals, Value.category]; done) | rfl) ?_
  intro p e s m below meth c vm hx hby hml hret hnm hC0 hW0
  refine uIN 1 hx hby d559 rfl rfl ?_
  refine uKs 4 (255 : Int32) hx hby d560 rfl rfl ?_
  refine uiand 5 (x &&& (255 : Int32)) hx hby d561 rfl rfl ?_
  refine uSIN 6 #[vi x, vi (x &&& (255 : Int32))] hx hby d562 rfl rfl ?_
  refine uIN 7 hx hby d563 rfl rfl ?_
  refine uKb 9 (32 : Int32) hx hby d564 rfl rfl ?_
  by_cases e1 : (32 : Int32) < (x &&& (255 : Int32))
  · refine uYc 17 hx hby d565 (tlt e1).2.2.1 (by decide) (by decide) ?_
    refine uIN 18 hx hby d566 rfl rfl ?_
    refine gi2c hx (i2c_mask _) 19 (hb hby d567) rfl ?_
    exact gretN (t := .char) hx hret (by simp) (hb hby d568) (by decide) (by decide) (fun vq Cq => ⟨(by rw [own_fst, if_pos e1]; exact congrArg (fun z => some (Value.int z)) (narC _)), rfl⟩)
  · refine uNc 12 hx hby d565 rfl (flt e1).2.2.1 ?_
    refine uIN 13 hx hby d569 rfl rfl ?_
    refine uKb 15 (33 : Int32) hx hby d570 rfl rfl ?_
    refine uiadd 16 ((x &&& (255 : Int32)) + (33 : Int32)) hx hby d571 rfl rfl ?_
    refine uSIN 17 #[vi x, vi ((x &&& (255 : Int32)) + (33 : Int32))] hx hby d572 rfl rfl ?_
    refine uIN 18 hx hby d566 rfl rfl ?_
    refine gi2c hx rfl 19 (hb hby d567) rfl ?_
    exact gretN (t := .char) hx hret (by simp) (hb hby d568) (by decide) (by decide) (fun vq Cq => ⟨(by rw [own_fst, if_neg e1]; exact congrArg (fun z => some (Value.int z)) (own_nar33 e1)), rfl⟩)
theorem d575 : decode y57_ 0 = .ok (.iload_n 0, 1) := by decide +kernel
theorem d576 : decode y57_ 1 = .ok (.bipush 8, 2) := by decide +kernel
theorem d577 : decode y57_ 3 = .ok (.iushr, 1) := by decide +kernel
theorem d578 : decode y57_ 4 = .ok (.sipush 255, 3) := by decide +kernel
theorem d579 : decode y57_ 7 = .ok (.iand, 1) := by decide +kernel
theorem d580 : decode y57_ 8 = .ok (.i2c, 1) := by decide +kernel
theorem d581 : decode y57_ 9 = .ok (.ireturn, 1) := by decide +kernel
abbrev mn582 : MethodName := ⟨"com/example/headings_from_text/headingsfromtext/vocabulary/ConceptHashCodePinLaw", "second", "(I)C"⟩
theorem own_second (l : Launch) (Z : State) (a0 : Array Value) (cx : Ctx Z a0) (ws : List Jvm.Cond) (x : Int32) (vm0 : Vm) (h0 : Heap) (X00 : Ext Z.heap h0)  :
    Met l mn582 y57_ 1 (some .char) ws ({ frames := 0, cells := 0, slots := 0, locals := 0 } : Room) Z ([] : List (String × Nat)) vm0 h0 #[(.int x)] (fun rv vm h => rv = some (.int (own_snd x)) ∧ h0 = h) := by
  obtain ⟨hw, hEL, ⟨zc, Scs, hzc⟩, ⟨fm, Sfm, hfm⟩, hL0, hB0, hO0⟩ := id cx
  refine Met.of_walk (a0 := a0) #[vi x] (plainFor_of_name own_pn574) X00 hEL (fun m => by first | (simp [entryFrame, mkF, argsToLocals, Value.category]; done) | rfl) ?_
  intro p e s m below meth c vm hx hby hml hret hnm hC0 hW0
  refine uIN 1 hx hby d575 rfl rfl ?_
  refine uKb 3 (8 : Int32) hx hby d576 rfl rfl ?_
  refine gs (mkF m 4 #[vi x] [(.int ((x.toUInt32 >>> ((8 : Int32) &&& 31).toUInt32).toInt32))]) (fun _ _ A kq => XS.iushr A hx rfl (hb hby d577) rfl kq) ?_
  refine uKs 7 (255 : Int32) hx hby d578 rfl rfl ?_
  refine uiand 8 (((x.toUInt32 >>> ((8 : Int32) &&& 31).toUInt32).toInt32) &&& (255 : Int32)) hx hby d579 rfl rfl ?_
  refine gi2c hx (i2c_mask _) 9 (hb hby d580) rfl ?_
  exact gretN (t := .char) hx hret (by simp) (hb hby d581) (by decide) (by decide) (fun vq Cq => ⟨(congrArg (fun z => some (Value.int z)) (narC _)), rfl⟩)
def own_tl (b x : Int32) : List Int32 := if b = (0 : Int32) then [] else [own_snd x]
def own_h (b x : Int32) : Int32 := if b = (0 : Int32) then own_fst x else (31 : Int32) * own_fst x + own_snd x
theorem own_hpos (b x : Int32) : (0 : Int32) < Int32.ofNat (own_fst x :: own_tl b x).length := by
  unfold own_tl
  split
  · exact (by decide : (0 : Int32) < (1 : Int32))
  · exact (by decide : (0 : Int32) < (2 : Int32))
theorem own_hnz (b x : Int32) : ¬ own_h b x = (0 : Int32) := by
  have h := own_fstB x
  have g : B8 (own_snd x) := b255 _
  have e0 : (0 : Int32).toInt = 0 := rfl
  have e1 : (255 : Int32).toInt = 255 := rfl
  have e2 : (31 : Int32).toInt = 31 := rfl
  have e3 : (33 : Int32).toInt = 33 := rfl
  simp only [B8, Int32.lt_iff_toInt_lt, e0, e1, e3] at h g
  unfold own_h
  rw [← Int32.toInt_inj, e0]
  split
  · omega
  · rw [Int32.toInt_add, Int32.toInt_mul, e2]
    have q1 : (31 * (own_fst x).toInt).bmod (2 ^ 32) = 31 * (own_fst x).toInt := Int.bmod_eq_of_le (by omega) (by omega)
    rw [q1]
    have q2 : (31 * (own_fst x).toInt + (own_snd x).toInt).bmod (2 ^ 32) = 31 * (own_fst x).toInt + (own_snd x).toInt := Int.bmod_eq_of_le (by omega) (by omega)
    rw [q2]
    omega
theorem d583 : decode y32_ 0 = .ok (.iload_n 0, 1) := by decide +kernel
theorem d584 : decode y32_ 1 = .ok (.sipush 255, 3) := by decide +kernel
theorem d585 : decode y32_ 4 = .ok (.if_icmp .gt 7, 3) := by decide +kernel
theorem d586 : decode y32_ 7 = .ok (.iconst 1, 1) := by decide +kernel
theorem d587 : decode y32_ 8 = .ok (.goto 4, 3) := by decide +kernel
theorem d588 : decode y32_ 12 = .ok (.ireturn, 1) := by decide +kernel
abbrev mn589 : MethodName := ⟨"java/lang/StringLatin1", "canEncode", "(C)Z"⟩
theorem own_canEncode (l : Launch) (Z : State) (a0 : Array Value) (cx : Ctx Z a0) (ws : List Jvm.Cond) (ch : Int32) (vm0 : Vm) (h0 : Heap) (X00 : Ext Z.heap h0) (P0 : (¬ (255 : Int32) < ch)) :
    Met l mn589 y32_ 1 (some .boolean) ws ({ frames := 0, cells := 0, slots := 0, locals := 0 } : Room) Z ([] : List (String × Nat)) vm0 h0 #[(.int ch)] (fun rv vm h => rv = some (.int (1 : Int32)) ∧ h0 = h) := by
  obtain ⟨hw, hEL, ⟨zc, Scs, hzc⟩, ⟨fm, Sfm, hfm⟩, hL0, hB0, hO0⟩ := id cx
  refine Met.of_walk (a0 := a0) #[vi ch] (plainFor_of_name own_pn32) X00 hEL (fun m => by first | (simp [entryFrame, mkF, argsToLocals, Value.category]; done) | rfl) ?_
  intro p e s m below meth c vm hx hby hml hret hnm hC0 hW0
  refine uIN 1 hx hby d583 rfl rfl ?_
  refine uKs 4 (255 : Int32) hx hby d584 rfl rfl ?_
  refine uNc 7 hx hby d585 rfl (flt P0).2.2.1 ?_
  refine uKc 8 (1 : Int32) hx hby d586 rfl rfl ?_
  refine uG 12 hx hby d587 (by decide) (by decide) ?_
  exact gretN (t := .boolean) hx hret (by simp) (hb hby d588) (by decide) (by decide) (fun vq Cq => ⟨rfl, rfl⟩)
theorem d590 : decode y34_ 0 = .ok (.iconst 1, 1) := by decide +kernel
theorem d591 : decode y34_ 1 = .ok (.newarray .byte, 2) := by decide +kernel
theorem d592 : decode y34_ 3 = .ok (.dup, 1) := by decide +kernel
theorem d593 : decode y34_ 4 = .ok (.iconst 0, 1) := by decide +kernel
theorem d594 : decode y34_ 5 = .ok (.iload_n 0, 1) := by decide +kernel
theorem d595 : decode y34_ 6 = .ok (.i2b, 1) := by decide +kernel
theorem d596 : decode y34_ 7 = .ok (.bastore, 1) := by decide +kernel
theorem d597 : decode y34_ 8 = .ok (.areturn, 1) := by decide +kernel
abbrev mn598 : MethodName := ⟨"java/lang/StringLatin1", "toBytes", "(C)[B"⟩
theorem own_toBytes1 (l : Launch) (Z : State) (a0 : Array Value) (cx : Ctx Z a0) (ws : List Jvm.Cond) (ch : Int32) (vm0 : Vm) (h0 : Heap) (X00 : Ext Z.heap h0)  :
    Met l mn598 y34_ 1 (some (.array .byte)) ws ({ frames := 0, cells := 1, slots := 1, locals := 0 } : Room) Z ([] : List (String × Nat)) vm0 h0 #[(.int ch)] (fun rv vm h => ∃ (r : Addr), ∃ (kb : ClassId), rv = some (.ref r) ∧ Keep h0 h [] ∧ h0.size ≤ r ∧ Exa Z h r "[B" ∧ Arv Z h r kb .byte (1 : Int32) [(.int (ch.toInt8.toInt32))] (.int (0 : Int32))) := by
  obtain ⟨hw, hEL, ⟨zc, Scs, hzc⟩, ⟨fm, Sfm, hfm⟩, hL0, hB0, hO0⟩ := id cx
  refine Met.of_walk (a0 := a0) #[vi ch] (plainFor_of_name own_pn32) X00 hEL (fun m => by first | (simp [entryFrame, mkF, argsToLocals, Value.category]; done) | rfl) ?_
  intro p e s m below meth c vm hx hby hml hret hnm hC0 hW0
  refine uKc 1 (1 : Int32) hx hby d590 rfl rfl ?_
  refine gnewPE hx (ow hw 21 rfl) (n := (1 : Int32)) (by decide) (cap := 1) (by decide) (by decide) (ad := "[B") (by decide) 3 (hb hby d591) rfl (by decide) (by decide) ?_
  intro b1 h1 k1 g1 E1 C1 V1 A1 n1 L1
  have z1 := C1.2.1
  have V1 : Arv Z h1 b1 k1 .byte (1 : Int32) [(.int (0 : Int32))] (.int (0 : Int32)) := V1.pad (pad_rep [] (.int (0 : Int32)) 1)
  have lt_b1 : h1.size > b1 := V1.lt
  refine uD 4 hx hby d592 rfl rfl ?_
  refine uKc 5 (0 : Int32) hx hby d593 rfl rfl ?_
  refine uIN 6 hx hby d594 rfl rfl ?_
  refine gs (mkF m 7 #[vi ch] [(.int (ch.toInt8.toInt32)), (.int (0 : Int32)), (.ref b1), (.ref b1)]) (fun _ _ A kq => XS.i2b A hx rfl (hb hby d595) rfl kq) ?_
  refine gstB hx V1 ⟨by decide, by decide⟩ (i := 0) rfl (Nat.le_of_ble_eq_true rfl) (y := (ch.toInt8.toInt32)) (narB _) n1 (fun _ => L1) 8 (hb hby d596) rfl ?_
  intro h2 W2 C2 V2
  have z2 := C2.2.1
  replace V2 : Arv Z h2 b1 k1 .byte (1 : Int32) [(.int (ch.toInt8.toInt32))] (.int (0 : Int32)) := V2
  have f4 := (A1.wr W2)
  exact gretA hx hret rfl rfl (hb hby d597) (by decide) (by decide) (fun vq Cq => ⟨b1, k1, rfl, (((Keep.refl h0 []).ext E1).wr W2 (Or.inr (by omega))), (by omega), f4, V2⟩)
theorem d599 : decode y26_ 0 = .ok (.aload_n 0, 1) := by decide +kernel
theorem d600 : decode y26_ 1 = .ok (.invokespecial 1, 3) := by decide +kernel
theorem d601 : decode y26_ 4 = .ok (.aload_n 0, 1) := by decide +kernel
theorem d602 : decode y26_ 5 = .ok (.aload_n 1, 1) := by decide +kernel
theorem d603 : decode y26_ 6 = .ok (.putfield 9, 3) := by decide +kernel
theorem d604 : decode y26_ 9 = .ok (.aload_n 0, 1) := by decide +kernel
theorem d605 : decode y26_ 10 = .ok (.iload_n 2, 1) := by decide +kernel
theorem d606 : decode y26_ 11 = .ok (.putfield 15, 3) := by decide +kernel
theorem d607 : decode y26_ 14 = .ok (.return_, 1) := by decide +kernel
abbrev mn608 : MethodName := ⟨"java/lang/String", "<init>", "([BB)V"⟩
theorem own_initBB (l : Launch) (Z : State) (a0 : Array Value) (cx : Ctx Z a0) (ws : List Jvm.Cond) (x : Addr) (b : Addr) (v0 : Value) (q0 : Value) (vm0 : Vm) (h0 : Heap) (X00 : Ext Z.heap h0) (P0 : Exa Z h0 x c12_) (P1 : Fld Z h0 x c12_ "value" "[B" v0) (P2 : Fld Z h0 x c12_ "coder" "B" q0) (P3 : Z.heap.size ≤ x) (P4 : Safe Z ([] : List (String × Nat)) vm0 h0 x) (P5 : Fld Z h0 x c12_ "hash" "I" (.int (0 : Int32))) (P6 : Fld Z h0 x c12_ c8_ "Z" (.int (0 : Int32))) :
    Met l mn608 y26_ 3 none ws ({ frames := 1, cells := 0, slots := 0, locals := 12 } : Room) Z ([] : List (String × Nat)) vm0 h0 #[(.ref x), (.ref b), (.int (0 : Int32))] (fun rv vm h => rv = none ∧ Keep h0 h [x] ∧ Fld Z h x c12_ "value" "[B" (.ref b) ∧ Fld Z h x c12_ "coder" "B" (.int (0 : Int32)) ∧ Safe Z ([] : List (String × Nat)) vm h x ∧ Fld Z h x c12_ "hash" "I" (.int (0 : Int32)) ∧ Fld Z h x c12_ c8_ "Z" (.int (0 : Int32))) := by
  obtain ⟨hw, hEL, ⟨zc, Scs, hzc⟩, ⟨fm, Sfm, hfm⟩, hL0, hB0, hO0⟩ := id cx
  refine Met.of_walk (a0 := a0) #[vr x, vr b, vi (0 : Int32)] (plainFor_of_name own_pn70) X00 hEL (fun m => by first | (simp [entryFrame, mkF, argsToLocals, Value.category]; done) | rfl) ?_
  intro p e s m below meth c vm hx hby hml hret hnm hC0 hW0
  have lt_x : h0.size > x := P0.lt
  have L4 := hC0.safe lt_x P4
  refine uAN 1 hx hby d599 rfl rfl rfl ?_
  refine ginitO hx (ow hw 26 rfl) (ow hw 27 rfl) (ow hw 28 rfl) 4 (W := 0) (Nat.le_of_eq rfl) (by rw [hml]; rfl) (hb hby d600) rfl (by decide) (by decide) ?_
  refine uAN 5 hx hby d601 rfl rfl rfl ?_
  refine uAN 6 hx hby d602 rfl rfl rfl ?_
  refine gputF (host := "") hx (Or.inl (ow hw 29 rfl)) Via.refl P1 P0 (Or.inr ⟨(ow hw 30 rfl), rfl, hnm⟩) (ow hw 17 rfl) (ty := (.array .byte)) (by decide) rfl rfl P3 (fun _ => L4) 9 (hb hby d603) rfl ?_
  intro h2 W2 C2
  have z2 := C2.2.1
  have F2 := P1.same W2
  refine uAN 10 hx hby d604 rfl rfl rfl ?_
  refine uIN 11 hx hby d605 rfl rfl ?_
  have f3 := (P2.other W2 (Or.inr (slot_ne (Or.inr (ow hw 32 rfl)) (Or.inr (ow hw 30 rfl)) (by decide) (t := .byte) (t' := (.array .byte)) (by decide) (by decide))))
  have f4 := (P0.wr W2)
  have f5 := (C2.safe (show h0.size > x by omega) L4)
  refine gputF (host := "") hx (Or.inl (ow hw 31 rfl)) Via.refl f3 f4 (Or.inr ⟨(ow hw 32 rfl), rfl, hnm⟩) (ow hw 17 rfl) (ty := .byte) (by decide) rfl rfl P3 (fun _ => f5) 14 (hb hby d606) rfl ?_
  intro h6 W6 C6
  have z6 := C6.2.1
  have F6 := f3.same W6
  have f8 := (F2.other W6 (Or.inr (slot_ne (Or.inr (ow hw 30 rfl)) (Or.inr (ow hw 32 rfl)) (by decide) (t := (.array .byte)) (t' := .byte) (by decide) (by decide))))
  have f9 := (C6.safe (show h2.size > x by omega) f5)
  have f10 := ((P5.other W2 (Or.inr (slot_ne (Or.inl (ow hw 354 rfl)) (Or.inr (ow hw 30 rfl)) (by decide) (t := .int) (t' := (.array .byte)) (by decide) (by decide)))).other W6 (Or.inr (slot_ne (Or.inl (ow hw 354 rfl)) (Or.inr (ow hw 32 rfl)) (by decide) (t := .int) (t' := .byte) (by decide) (by decide))))
  have f11 := ((P6.other W2 (Or.inr (slot_ne (Or.inl (ow hw 356 rfl)) (Or.inr (ow hw 30 rfl)) (by decide) (t := .boolean) (t' := (.array .byte)) (by decide) (by decide)))).other W6 (Or.inr (slot_ne (Or.inl (ow hw 356 rfl)) (Or.inr (ow hw 32 rfl)) (by decide) (t := .boolean) (t' := .byte) (by decide) (by decide))))
  exact gretV hx hret (hb hby d607) (by decide) (by decide) (fun vq Cq => ⟨rfl, (((Keep.refl h0 [x]).wr W2 (Or.inl (List.mem_of_getElem? (i := 0) rfl))).wr W6 (Or.inl (List.mem_of_getElem? (i := 0) rfl))), f8, F6, (Cq.safe (show h6.size > x by omega) f9), f10, f11⟩)
theorem d609 : decode y24_ 0 = .ok (.getstatic 38, 3) := by decide +kernel
theorem d610 : decode y24_ 3 = .ok (.ifCond .eq 23, 3) := by decide +kernel
theorem d611 : decode y24_ 6 = .ok (.iload_n 0, 1) := by decide +kernel
theorem d612 : decode y24_ 7 = .ok (.invokestatic 1015, 3) := by decide +kernel
theorem own_pd613 : parseMethodDescriptor "(C)Z" = some ⟨[.char], some .boolean⟩ := by decide +kernel
theorem d614 : decode y24_ 10 = .ok (.ifCond .eq 16, 3) := by decide +kernel
theorem d615 : decode y24_ 13 = .ok (.new 10, 3) := by decide +kernel
theorem d616 : decode y24_ 16 = .ok (.dup, 1) := by decide +kernel
theorem d617 : decode y24_ 17 = .ok (.iload_n 0, 1) := by decide +kernel
theorem d618 : decode y24_ 18 = .ok (.invokestatic 1018, 3) := by decide +kernel
theorem own_pd619 : parseMethodDescriptor "(C)[B" = some ⟨[.char], some (.array .byte)⟩ := by decide +kernel
theorem d620 : decode y24_ 21 = .ok (.iconst 0, 1) := by decide +kernel
theorem d621 : decode y24_ 22 = .ok (.invokespecial 209, 3) := by decide +kernel
theorem own_pd622 : parseMethodDescriptor "([BB)V" = some ⟨[(.array .byte), .byte], none⟩ := by decide +kernel
theorem d623 : decode y24_ 25 = .ok (.areturn, 1) := by decide +kernel
abbrev mn624 : MethodName := ⟨"java/lang/String", "valueOf", "(C)Ljava/lang/String;"⟩
theorem own_valueOfC (l : Launch) (Z : State) (a0 : Array Value) (cx : Ctx Z a0) (ws : List Jvm.Cond) (ch : Int32) (vm0 : Vm) (h0 : Heap) (X00 : Ext Z.heap h0) (P0 : (B8 ch)) :
    Met l mn624 y24_ 1 (some (.object c12_)) ws ({ frames := 2, cells := 2, slots := 5, locals := 27 } : Room) Z ([] : List (String × Nat)) vm0 h0 #[(.int ch)] (fun rv vm h => ∃ (r : Addr), ∃ (t : Addr), rv = some (.ref r) ∧ Keep h0 h [] ∧ h0.size ≤ r ∧ Str Z h r t [ch] ∧ Z.heap.size ≤ r ∧ Safe Z ([] : List (String × Nat)) vm h r ∧ Fld Z h r c12_ "hash" "I" (.int (0 : Int32)) ∧ Fld Z h r c12_ c8_ "Z" (.int (0 : Int32)) ∧ Exa Z h t "[B") := by
  obtain ⟨hw, hEL, ⟨zc, Scs, hzc⟩, ⟨fm, Sfm, hfm⟩, hL0, hB0, hO0⟩ := id cx
  refine Met.of_walk (a0 := a0) #[vi ch] (plainFor_of_name own_pn70) X00 hEL (fun m => by first | (simp [entryFrame, mkF, argsToLocals, Value.category]; done) | rfl) ?_
  intro p e s m below meth c vm hx hby hml hret hnm hC0 hW0
  refine ggetS (host := "") hx (Or.inl (ow hw 11 rfl)) Via.refl Scs 3 (hb hby d609) rfl ?_
  refine uN 6 hx hby d610 rfl ((if0 _ _).trans (feq hzc).1) ?_
  refine uIN 7 hx hby d611 rfl rfl ?_
  refine ginfo fun _ _ O1 => ?_
  refine gcallS (y := mn589) hx (ow hw 12 rfl) (ow hw 13 rfl) (ow hw 14 rfl) (ow hw 15 rfl) (by decide) (fun hZ H hEL => Pay.of_met (W := 0) (own_canEncode l Z a0 cx [] (ch) vm h0 O1 P0.2) (ow hw 15 rfl) (ow hw 14 rfl) (by decide) (by decide) hZ H hEL) 10 (argsL := [(.int ch)]) (rest := []) (lenOf own_pd613 rfl) rfl rfl (Nat.le_of_eq rfl) (by rw [hml]; rfl) (hb hby d612) rfl (by decide) (by decide) ?_
  rintro _ vm1 h1 C1 ⟨rfl, rfl⟩
  have z1 := C1.2.1
  refine gat1 ?_
  refine uN 13 hx hby d614 rfl ((if0 _ _).trans (feq (by decide)).1) ?_
  refine gnewO hx (ow hw 16 rfl) (ow hw 17 rfl) (ow hw 9 rfl) 16 (hb hby d615) rfl (by decide) (by decide) ?_
  intro b2 h2 g2 E2 C2 A2 D2 n2 L2
  have z2 := C2.2.1
  have lt_b2 : h2.size > b2 := A2.lt
  have F2_value : Fld Z h2 b2 c12_ "value" "[B" .null := D2 (Or.inr (ow hw 30 rfl)) (ty := (.array .byte)) (by decide)
  have F2_coder : Fld Z h2 b2 c12_ "coder" "B" (.int (0 : Int32)) := D2 (Or.inr (ow hw 32 rfl)) (ty := .byte) (by decide)
  have F2_hash : Fld Z h2 b2 c12_ "hash" "I" (.int (0 : Int32)) := D2 (Or.inl (ow hw 354 rfl)) (ty := .int) (by decide)
  have F2_hashIsZero : Fld Z h2 b2 c12_ c8_ "Z" (.int (0 : Int32)) := D2 (Or.inl (ow hw 356 rfl)) (ty := .boolean) (by decide)
  refine uD 17 hx hby d616 rfl rfl ?_
  refine uIN 18 hx hby d617 rfl rfl ?_
  refine ginfo fun _ _ O3 => ?_
  refine gcallS (y := mn598) hx (ow hw 18 rfl) (ow hw 19 rfl) (ow hw 14 rfl) (ow hw 20 rfl) (by decide) (fun hZ H hEL => Pay.of_met (W := 2) (own_toBytes1 l Z a0 cx [] (ch) vm1 h2 O3 ) (ow hw 20 rfl) (ow hw 14 rfl) (by decide) (by decide) hZ H hEL) 21 (argsL := [(.int ch)]) (rest := [(.ref b2), (.ref b2)]) (lenOf own_pd619 rfl) rfl rfl (Nat.le_of_eq rfl) (by rw [hml]; rfl) (hb hby d618) rfl (by decide) (by decide) ?_
  rintro _ vm3 h3 C3 ⟨r3, kb3, rfl, K3, q3_0, q3_1, q3_2⟩
  have z3 := C3.2.1
  have lt_r3 : h3.size > r3 := q3_1.lt
  refine gat1 ?_
  refine uKc 22 (0 : Int32) hx hby d620 rfl rfl ?_
  have f5 := (A2.keep K3)
  have f6 := (F2_value.keep K3 nin0)
  have f7 := (F2_coder.keep K3 nin0)
  have f8 := (C3.safe (show h2.size > b2 by omega) L2)
  have f9 := (F2_hash.keep K3 nin0)
  have f10 := (F2_hashIsZero.keep K3 nin0)
  refine ginfo fun _ _ O4 => ?_
  refine gcallI (y := mn608) hx rfl (ow hw 22 rfl) (ow hw 23 rfl) (ow hw 25 rfl) (by decide) (fun hZ H hEL => Pay.of_met (W := 1) (own_initBB l Z a0 cx [] (b2) (r3) (.null) ((.int (0 : Int32))) vm3 h3 O4 f5 f6 f7 n2 f8 f9 f10) (ow hw 25 rfl) (ow hw 9 rfl) (by decide) (by decide) hZ H hEL) (a := b2) 25 (argsL := [(.ref r3), (.int (0 : Int32))]) (rest := [(.ref b2)]) (lenOf own_pd622 rfl) rfl rfl (Nat.le_of_eq rfl) (by rw [hml]; rfl) (hb hby d621) rfl (by decide) (by decide) ?_
  rintro _ vm4 h4 C4 ⟨rfl, K4, q4_0, q4_1, q4_2, q4_3, q4_4⟩
  have z4 := C4.2.1
  refine gat0 ?_
  have f11 := (f5.keep K4)
  have f12 := (q3_2.keep K4 (ninS (Nat.ne_of_gt (by omega)) nin0))
  have f14 := (q3_1.keep K4)
  exact gretA hx hret rfl rfl (hb hby d623) (by decide) (by decide) (fun vq Cq => ⟨b2, r3, rfl, ((((Keep.refl h0 []).ext E2).trans K3 all0).trans K4 (allS (Or.inr (by omega)) all0)), (by omega), ⟨f11, q4_1, q4_0, ⟨_, f12⟩, bcons P0 bnil, Nat.le_of_ble_eq_true rfl⟩, n2, (Cq.safe (show h4.size > b2 by omega) q4_2), q4_3, q4_4, f14⟩)
theorem own_narf (x : Int32) : nar .char (own_fst x) = own_fst x := own_b8c (own_fstB x).1
theorem own_nars (x : Int32) : nar .char (own_snd x) = own_snd x := narC _
theorem own_sndB (x : Int32) : B8 (own_snd x) := b255 _
theorem d625 : decode y58_ 0 = .ok (.iload_n 0, 1) := by decide +kernel
theorem d626 : decode y58_ 1 = .ok (.invokestatic 7, 3) := by decide +kernel
theorem own_pd627 : parseMethodDescriptor "(I)C" = some ⟨[.int], some .char⟩ := by decide +kernel
theorem d628 : decode y58_ 4 = .ok (.istore_n 2, 1) := by decide +kernel
theorem d629 : decode y58_ 5 = .ok (.iload_n 1, 1) := by decide +kernel
theorem d630 : decode y58_ 6 = .ok (.ifCond .eq 27, 3) := by decide +kernel
theorem d631 : decode y58_ 33 = .ok (.iload_n 2, 1) := by decide +kernel
theorem d632 : decode y58_ 34 = .ok (.invokestatic 21, 3) := by decide +kernel
theorem own_pd633 : parseMethodDescriptor "(C)Ljava/lang/String;" = some ⟨[.char], some (.object "java/lang/String")⟩ := by decide +kernel
theorem d634 : decode y58_ 37 = .ok (.areturn, 1) := by decide +kernel
theorem d635 : decode y58_ 9 = .ok (.iconst 2, 1) := by decide +kernel
theorem d636 : decode y58_ 10 = .ok (.newarray .char, 2) := by decide +kernel
theorem d637 : decode y58_ 12 = .ok (.astore_n 3, 1) := by decide +kernel
theorem d638 : decode y58_ 13 = .ok (.aload_n 3, 1) := by decide +kernel
theorem d639 : decode y58_ 14 = .ok (.iconst 0, 1) := by decide +kernel
theorem d640 : decode y58_ 15 = .ok (.iload_n 2, 1) := by decide +kernel
theorem d641 : decode y58_ 16 = .ok (.castore, 1) := by decide +kernel
theorem d642 : decode y58_ 17 = .ok (.aload_n 3, 1) := by decide +kernel
theorem d643 : decode y58_ 18 = .ok (.iconst 1, 1) := by decide +kernel
theorem d644 : decode y58_ 19 = .ok (.iload_n 0, 1) := by decide +kernel
theorem d645 : decode y58_ 20 = .ok (.invokestatic 13, 3) := by decide +kernel
theorem d646 : decode y58_ 23 = .ok (.castore, 1) := by decide +kernel
theorem d647 : decode y58_ 24 = .ok (.new 16, 3) := by decide +kernel
theorem d648 : decode y58_ 27 = .ok (.dup, 1) := by decide +kernel
theorem d649 : decode y58_ 28 = .ok (.aload_n 3, 1) := by decide +kernel
theorem d650 : decode y58_ 29 = .ok (.invokespecial 18, 3) := by decide +kernel
theorem own_pd651 : parseMethodDescriptor "([C)V" = some ⟨[(.array .char)], none⟩ := by decide +kernel
theorem d652 : decode y58_ 32 = .ok (.areturn, 1) := by decide +kernel
abbrev mn653 : MethodName := ⟨"com/example/headings_from_text/headingsfromtext/vocabulary/ConceptHashCodePinLaw", "mk", "(IZ)Ljava/lang/String;"⟩
theorem own_mk (l : Launch) (Z : State) (a0 : Array Value) (cx : Ctx Z a0) (ws : List Jvm.Cond) (x : Int32) (b : Int32) (vm0 : Vm) (h0 : Heap) (X00 : Ext Z.heap h0)  :
    Met l mn653 y58_ 4 (some (.object c12_)) ws ({ frames := 4, cells := 3, slots := 8, locals := 66 } : Room) Z ([] : List (String × Nat)) vm0 h0 #[(.int x), (.int b)] (fun rv vm h => ∃ (r : Addr), ∃ (t : Addr), rv = some (.ref r) ∧ Keep h0 h [] ∧ h0.size ≤ r ∧ Str Z h r t ((own_fst x) :: (own_tl b x)) ∧ Z.heap.size ≤ r ∧ Safe Z ([] : List (String × Nat)) vm h r ∧ Fld Z h r c12_ "hash" "I" (.int (0 : Int32)) ∧ Fld Z h r c12_ c8_ "Z" (.int (0 : Int32)) ∧ Exa Z h t "[B") := by
  obtain ⟨hw, hEL, ⟨zc, Scs, hzc⟩, ⟨fm, Sfm, hfm⟩, hL0, hB0, hO0⟩ := id cx
  refine Met.of_walk (a0 := a0) #[vi x, vi b, un, un] (plainFor_of_name own_pn574) X00 hEL (fun m => by first | (simp [entryFrame, mkF, argsToLocals, Value.category]; done) | rfl) ?_
  intro p e s m below meth c vm hx hby hml hret hnm hC0 hW0
  refine uIN 1 hx hby d625 rfl rfl ?_
  refine ginfo fun _ _ O1 => ?_
  refine gcallS (y := mn573) hx (ow hw 4 rfl) (ow hw 5 rfl) (ow hw 2 rfl) (ow hw 6 rfl) (by decide) (fun hZ H hEL => Pay.of_met (W := 0) (own_first l Z a0 cx [] (x) vm h0 O1 ) (ow hw 6 rfl) (ow hw 2 rfl) (by decide) (by decide) hZ H hEL) 4 (argsL := [(.int x)]) (rest := []) (lenOf own_pd627 rfl) rfl rfl (Nat.le_of_eq rfl) (by rw [hml]; rfl) (hb hby d626) rfl (by decide) (by decide) ?_
  rintro _ vm1 h1 C1 ⟨rfl, rfl⟩
  have z1 := C1.2.1
  refine gat1 ?_
  refine uSIN 5 #[vi x, vi b, vi (own_fst x), un] hx hby d628 rfl rfl ?_
  refine uIN 6 hx hby d629 rfl rfl ?_
  by_cases e1 : b = (0 : Int32)
  · refine uY 33 hx hby d630 ((if0 _ _).trans (teq e1).1) (by decide) (by decide) ?_
    refine uIN 34 hx hby d631 rfl rfl ?_
    refine ginfo fun _ _ O2 => ?_
    refine gcallS (y := mn624) hx (ow hw 7 rfl) (ow hw 8 rfl) (ow hw 9 rfl) (ow hw 10 rfl) (by decide) (fun hZ H hEL => Pay.of_met (W := 0) (own_valueOfC l Z a0 cx [] ((own_fst x)) vm1 h0 O2 (own_fstB _).1) (ow hw 10 rfl) (ow hw 9 rfl) (by decide) (by decide) hZ H hEL) 37 (argsL := [(.int (own_fst x))]) (rest := []) (lenOf own_pd633 rfl) rfl rfl (Nat.le_of_eq rfl) (by rw [hml]; rfl) (hb hby d632) rfl (by decide) (by decide) ?_
    rintro _ vm2 h2 C2 ⟨r2, t2, rfl, K2, q2_0, q2_1, q2_2, q2_3, q2_4, q2_5, q2_6⟩
    have z2 := C2.2.1
    have lt_r2 : h2.size > r2 := q2_1.1.lt
    have lt_t2 : h2.size > t2 := q2_1.tlt
    refine gat1 ?_
    exact gretA hx hret rfl rfl (hb hby d634) (by decide) (by decide) (fun vq Cq => ⟨r2, t2, rfl, ((Keep.refl h0 []).trans K2 all0), (by omega), (by rw [own_tl, if_pos e1]; exact q2_1), q2_2, (Cq.safe (show h2.size > r2 by omega) q2_3), q2_4, q2_5, q2_6⟩)
  · refine uN 9 hx hby d630 rfl ((if0 _ _).trans (feq e1).1) ?_
    refine uKc 10 (2 : Int32) hx hby d635 rfl rfl ?_
    refine gnewPE hx (ow hw 182 rfl) (n := (2 : Int32)) (by decide) (cap := 2) (by decide) (by decide) (ad := "[C") (by decide) 12 (hb hby d636) rfl (by decide) (by decide) ?_
    intro b4 h4 k4 g4 E4 C4 V4 A4 n4 L4
    have z4 := C4.2.1
    have V4 : Arv Z h4 b4 k4 .char (2 : Int32) [(.int (0 : Int32)), (.int (0 : Int32))] (.int (0 : Int32)) := V4.pad (pad_rep [] (.int (0 : Int32)) 2)
    have lt_b4 : h4.size > b4 := V4.lt
    refine uSAN 13 #[vi x, vi b, vi (own_fst x), vr b4] hx hby d637 rfl rfl rfl ?_
    refine uAN 14 hx hby d638 rfl rfl rfl ?_
    refine uKc 15 (0 : Int32) hx hby d639 rfl rfl ?_
    refine uIN 16 hx hby d640 rfl rfl ?_
    refine gstC hx V4 ⟨by decide, by decide⟩ (i := 0) rfl (Nat.le_of_ble_eq_true rfl) (y := (own_fst x)) (own_narf _) n4 17 (hb hby d641) rfl ?_
    intro h5 W5 C5 V5
    have z5 := C5.2.1
    replace V5 : Arv Z h5 b4 k4 .char (2 : Int32) [(.int (own_fst x)), (.int (0 : Int32))] (.int (0 : Int32)) := V5
    refine uAN 18 hx hby d642 rfl rfl rfl ?_
    refine uKc 19 (1 : Int32) hx hby d643 rfl rfl ?_
    refine uIN 20 hx hby d644 rfl rfl ?_
    refine ginfo fun _ _ O6 => ?_
    refine gcallS (y := mn582) hx (ow hw 183 rfl) (ow hw 184 rfl) (ow hw 2 rfl) (ow hw 185 rfl) (by decide) (fun hZ H hEL => Pay.of_met (W := 2) (own_second l Z a0 cx [] (x) vm1 h5 O6 ) (ow hw 185 rfl) (ow hw 2 rfl) (by decide) (by decide) hZ H hEL) 23 (argsL := [(.int x)]) (rest := [(.int (1 : Int32)), (.ref b4)]) (lenOf own_pd627 rfl) rfl rfl (Nat.le_of_eq rfl) (by rw [hml]; rfl) (hb hby d645) rfl (by decide) (by decide) ?_
    rintro _ vm6 h6 C6 ⟨rfl, rfl⟩
    have z6 := C6.2.1
    refine gat1 ?_
    refine gstC hx V5 ⟨by decide, by decide⟩ (i := 1) rfl (Nat.le_of_ble_eq_true rfl) (y := (own_snd x)) (own_nars _) n4 24 (hb hby d646) rfl ?_
    intro h7 W7 C7 V7
    have z7 := C7.2.1
    replace V7 : Arv Z h7 b4 k4 .char (2 : Int32) [(.int (own_fst x)), (.int (own_snd x))] (.int (0 : Int32)) := V7
    refine gnewO hx (ow hw 186 rfl) (ow hw 17 rfl) (ow hw 9 rfl) 27 (hb hby d647) rfl (by decide) (by decide) ?_
    intro b8 h8 g8 E8 C8 A8 D8 n8 L8
    have z8 := C8.2.1
    have lt_b8 : h8.size > b8 := A8.lt
    have F8_value : Fld Z h8 b8 c12_ "value" "[B" .null := D8 (Or.inr (ow hw 30 rfl)) (ty := (.array .byte)) (by decide)
    have F8_coder : Fld Z h8 b8 c12_ "coder" "B" (.int (0 : Int32)) := D8 (Or.inr (ow hw 32 rfl)) (ty := .byte) (by decide)
    have F8_hash : Fld Z h8 b8 c12_ "hash" "I" (.int (0 : Int32)) := D8 (Or.inl (ow hw 354 rfl)) (ty := .int) (by decide)
    have F8_hashIsZero : Fld Z h8 b8 c12_ c8_ "Z" (.int (0 : Int32)) := D8 (Or.inl (ow hw 356 rfl)) (ty := .boolean) (by decide)
    refine uD 28 hx hby d648 rfl rfl ?_
    refine uAN 29 hx hby d649 rfl rfl rfl ?_
    have f10 := (V7.ext E8)
    refine ginfo fun _ _ O9 => ?_
    refine gcallI (y := mn558) hx rfl (ow hw 187 rfl) (ow hw 188 rfl) (ow hw 189 rfl) (by decide) (fun hZ H hEL => Pay.of_met (W := 1) (own_si1 l Z a0 cx [] (b8) (b4) (k4) ((own_fst x)) ((own_snd x)) (.null) ((.int (0 : Int32))) vm6 h8 O9 A8 F8_value F8_coder n8 L8 f10 (own_fstB _).1 (own_sndB _) F8_hash F8_hashIsZero) (ow hw 189 rfl) (ow hw 9 rfl) (by decide) (by decide) hZ H hEL) (a := b8) 32 (argsL := [(.ref b4)]) (rest := [(.ref b8)]) (lenOf own_pd651 rfl) rfl rfl (Nat.le_of_eq rfl) (by rw [hml]; rfl) (hb hby d650) rfl (by decide) (by decide) ?_
    rintro _ vm9 h9 C9 ⟨t9, rfl, K9, q9_0, q9_1, q9_2, q9_3, q9_4, q9_5⟩
    have z9 := C9.2.1
    have lt_t9 : h9.size > t9 := q9_1.tlt
    refine gat0 ?_
    exact gretA hx hret rfl rfl (hb hby d652) (by decide) (by decide) (fun vq Cq => ⟨b8, t9, rfl, ((((((Keep.refl h0 []).ext E4).wr W5 (Or.inr (by omega))).wr W7 (Or.inr (by omega))).ext E8).trans K9 (allS (Or.inr (by omega)) all0)), (by omega), (by rw [own_tl, if_neg e1]; exact q9_1), n8, (Cq.safe (show h9.size > b8 by omega) q9_3), q9_4, q9_5, q9_2⟩)
theorem d654 : decode y59_ 0 = .ok (.iload_n 0, 1) := by decide +kernel
theorem d655 : decode y59_ 1 = .ok (.invokestatic 7, 3) := by decide +kernel
theorem d656 : decode y59_ 4 = .ok (.istore_n 2, 1) := by decide +kernel
theorem d657 : decode y59_ 5 = .ok (.iload_n 1, 1) := by decide +kernel
theorem d658 : decode y59_ 6 = .ok (.ifCond .eq 13, 3) := by decide +kernel
theorem d659 : decode y59_ 19 = .ok (.iload_n 2, 1) := by decide +kernel
theorem d660 : decode y59_ 20 = .ok (.ireturn, 1) := by decide +kernel
theorem d661 : decode y59_ 9 = .ok (.bipush 31, 2) := by decide +kernel
theorem d662 : decode y59_ 11 = .ok (.iload_n 2, 1) := by decide +kernel
theorem d663 : decode y59_ 12 = .ok (.imul, 1) := by decide +kernel
theorem d664 : decode y59_ 13 = .ok (.iload_n 0, 1) := by decide +kernel
theorem d665 : decode y59_ 14 = .ok (.invokestatic 13, 3) := by decide +kernel
theorem d666 : decode y59_ 17 = .ok (.iadd, 1) := by decide +kernel
theorem d667 : decode y59_ 18 = .ok (.ireturn, 1) := by decide +kernel
abbrev mn668 : MethodName := ⟨"com/example/headings_from_text/headingsfromtext/vocabulary/ConceptHashCodePinLaw", "hashOf", "(IZ)I"⟩
theorem own_hashOf (l : Launch) (Z : State) (a0 : Array Value) (cx : Ctx Z a0) (ws : List Jvm.Cond) (x : Int32) (b : Int32) (vm0 : Vm) (h0 : Heap) (X00 : Ext Z.heap h0)  :
    Met l mn668 y59_ 3 (some .int) ws ({ frames := 1, cells := 0, slots := 0, locals := 13 } : Room) Z ([] : List (String × Nat)) vm0 h0 #[(.int x), (.int b)] (fun rv vm h => rv = some (.int (own_h b x)) ∧ h0 = h) := by
  obtain ⟨hw, hEL, ⟨zc, Scs, hzc⟩, ⟨fm, Sfm, hfm⟩, hL0, hB0, hO0⟩ := id cx
  refine Met.of_walk (a0 := a0) #[vi x, vi b, un] (plainFor_of_name own_pn574) X00 hEL (fun m => by first | (simp [entryFrame, mkF, argsToLocals, Value.category]; done) | rfl) ?_
  intro p e s m below meth c vm hx hby hml hret hnm hC0 hW0
  refine uIN 1 hx hby d654 rfl rfl ?_
  refine ginfo fun _ _ O1 => ?_
  refine gcallS (y := mn573) hx (ow hw 4 rfl) (ow hw 5 rfl) (ow hw 2 rfl) (ow hw 6 rfl) (by decide) (fun hZ H hEL => Pay.of_met (W := 0) (own_first l Z a0 cx [] (x) vm h0 O1 ) (ow hw 6 rfl) (ow hw 2 rfl) (by decide) (by decide) hZ H hEL) 4 (argsL := [(.int x)]) (rest := []) (lenOf own_pd627 rfl) rfl rfl (Nat.le_of_eq rfl) (by rw [hml]; rfl) (hb hby d655) rfl (by decide) (by decide) ?_
  rintro _ vm1 h1 C1 ⟨rfl, rfl⟩
  have z1 := C1.2.1
  refine gat1 ?_
  refine uSIN 5 #[vi x, vi b, vi (own_fst x)] hx hby d656 rfl rfl ?_
  refine uIN 6 hx hby d657 rfl rfl ?_
  by_cases e1 : b = (0 : Int32)
  · refine uY 19 hx hby d658 ((if0 _ _).trans (teq e1).1) (by decide) (by decide) ?_
    refine uIN 20 hx hby d659 rfl rfl ?_
    exact gretI hx hret (hb hby d660) (by decide) (by decide) (fun vq Cq => ⟨(congrArg (fun z => some (Value.int z)) (by rw [own_h, if_pos e1])), rfl⟩)
  · refine uN 9 hx hby d658 rfl ((if0 _ _).trans (feq e1).1) ?_
    refine uKb 11 (31 : Int32) hx hby d661 rfl rfl ?_
    refine uIN 12 hx hby d662 rfl rfl ?_
    refine uimul 13 ((31 : Int32) * (own_fst x)) hx hby d663 rfl rfl ?_
    refine uIN 14 hx hby d664 rfl rfl ?_
    refine ginfo fun _ _ O3 => ?_
    refine gcallS (y := mn582) hx (ow hw 183 rfl) (ow hw 184 rfl) (ow hw 2 rfl) (ow hw 185 rfl) (by decide) (fun hZ H hEL => Pay.of_met (W := 1) (own_second l Z a0 cx [] (x) vm1 h0 O3 ) (ow hw 185 rfl) (ow hw 2 rfl) (by decide) (by decide) hZ H hEL) 17 (argsL := [(.int x)]) (rest := [(.int ((31 : Int32) * (own_fst x)))]) (lenOf own_pd627 rfl) rfl rfl (Nat.le_of_eq rfl) (by rw [hml]; rfl) (hb hby d665) rfl (by decide) (by decide) ?_
    rintro _ vm3 h3 C3 ⟨rfl, rfl⟩
    have z3 := C3.2.1
    refine gat1 ?_
    refine uiadd 18 (((31 : Int32) * (own_fst x)) + (own_snd x)) hx hby d666 rfl rfl ?_
    exact gretI hx hret (hb hby d667) (by decide) (by decide) (fun vq Cq => ⟨(congrArg (fun z => some (Value.int z)) (by rw [own_h, if_neg e1])), rfl⟩)
theorem d669 : decode y44_ 0 = .ok (.iload_n 2, 1) := by decide +kernel
theorem d670 : decode y44_ 1 = .ok (.iload_n 3, 1) := by decide +kernel
theorem d671 : decode y44_ 2 = .ok (.iadd, 1) := by decide +kernel
theorem d672 : decode y44_ 3 = .ok (.istore 4, 2) := by decide +kernel
theorem d673 : decode y44_ 5 = .ok (.iload_n 2, 1) := by decide +kernel
theorem d674 : decode y44_ 6 = .ok (.istore 5, 2) := by decide +kernel
theorem d675 : decode y44_ 8 = .ok (.iload 5, 2) := by decide +kernel
theorem d676 : decode y44_ 10 = .ok (.iload 4, 2) := by decide +kernel
theorem d677 : decode y44_ 12 = .ok (.if_icmp .ge 23, 3) := by decide +kernel
theorem d678 : decode y44_ 15 = .ok (.bipush 31, 2) := by decide +kernel
theorem d679 : decode y44_ 17 = .ok (.iload_n 0, 1) := by decide +kernel
theorem d680 : decode y44_ 18 = .ok (.imul, 1) := by decide +kernel
theorem d681 : decode y44_ 19 = .ok (.aload_n 1, 1) := by decide +kernel
theorem d682 : decode y44_ 20 = .ok (.iload 5, 2) := by decide +kernel
theorem d683 : decode y44_ 22 = .ok (.baload, 1) := by decide +kernel
theorem d684 : decode y44_ 23 = .ok (.sipush 255, 3) := by decide +kernel
theorem d685 : decode y44_ 26 = .ok (.iand, 1) := by decide +kernel
theorem d686 : decode y44_ 27 = .ok (.iadd, 1) := by decide +kernel
theorem d687 : decode y44_ 28 = .ok (.istore_n 0, 1) := by decide +kernel
theorem d688 : decode y44_ 29 = .ok (.iinc 5 1, 3) := by decide +kernel
theorem d689 : decode y44_ 32 = .ok (.goto (-24), 3) := by decide +kernel
theorem d690 : decode y44_ 35 = .ok (.iload_n 0, 1) := by decide +kernel
theorem d691 : decode y44_ 36 = .ok (.ireturn, 1) := by decide +kernel
abbrev mn692 : MethodName := ⟨"jdk/internal/util/ArraysSupport", "signedHashCode", "(I[BII)I"⟩
theorem own_pn693 : plainName "jdk/internal/util/ArraysSupport" = true := by first | (simp [plainName, overriddenIn]; done) | decide +kernel
theorem own_shc (l : Launch) (Z : State) (a0 : Array Value) (cx : Ctx Z a0) (ws : List Jvm.Cond) (b : Addr) (kb : ClassId) (x : Int32) (vm0 : Vm) (h0 : Heap) (X00 : Ext Z.heap h0) (P0 : Arv Z h0 b kb .byte (2 : Int32) [(.int ((own_fst x).toInt8.toInt32)), (.int ((own_snd x).toInt8.toInt32))] (.int (0 : Int32))) :
    Met l mn692 y44_ 6 (some .int) ws ({ frames := 0, cells := 0, slots := 0, locals := 0 } : Room) Z ([] : List (String × Nat)) vm0 h0 #[(.int (0 : Int32)), (.ref b), (.int (0 : Int32)), (.int (2 : Int32))] (fun rv vm h => rv = some (.int (((31 : Int32) * (own_fst x)) + (own_snd x))) ∧ h0 = h) := by
  obtain ⟨hw, hEL, ⟨zc, Scs, hzc⟩, ⟨fm, Sfm, hfm⟩, hL0, hB0, hO0⟩ := id cx
  refine Met.of_walk (a0 := a0) #[vi (0 : Int32), vr b, vi (0 : Int32), vi (2 : Int32), un, un] (plainFor_of_name own_pn693) X00 hEL (fun m => by first | (simp [entryFrame, mkF, argsToLocals, Value.category]; done) | rfl) ?_
  intro p e s m below meth c vm hx hby hml hret hnm hC0 hW0
  have lt_b : h0.size > b := P0.lt
  refine uIN 1 hx hby d669 rfl rfl ?_
  refine uIN 2 hx hby d670 rfl rfl ?_
  refine uiadd 3 (2 : Int32) hx hby d671 rfl (by decide) ?_
  refine uSI 5 #[vi (0 : Int32), vr b, vi (0 : Int32), vi (2 : Int32), vi (2 : Int32), un] hx hby d672 rfl rfl ?_
  refine uIN 6 hx hby d673 rfl rfl ?_
  refine uSI 8 #[vi (0 : Int32), vr b, vi (0 : Int32), vi (2 : Int32), vi (2 : Int32), vi (0 : Int32)] hx hby d674 rfl rfl ?_
  refine uI 10 hx hby d675 rfl rfl ?_
  refine uI 12 hx hby d676 rfl rfl ?_
  refine uNc 15 hx hby d677 rfl (tlt (by decide)).2.1 ?_
  refine uKb 17 (31 : Int32) hx hby d678 rfl rfl ?_
  refine uIN 18 hx hby d679 rfl rfl ?_
  refine uimul 19 (0 : Int32) hx hby d680 rfl (by decide) ?_
  refine uAN 20 hx hby d681 rfl rfl rfl ?_
  refine uI 22 hx hby d682 rfl rfl ?_
  refine gldB hx P0 ⟨by decide, by decide⟩ (i := 0) rfl (v := (.int ((own_fst x).toInt8.toInt32))) rfl 23 (hb hby d683) rfl ?_
  refine uKs 26 (255 : Int32) hx hby d684 rfl rfl ?_
  refine uiand 27 (((own_fst x).toInt8.toInt32) &&& (255 : Int32)) hx hby d685 rfl rfl ?_
  refine uiadd 28 ((0 : Int32) + (((own_fst x).toInt8.toInt32) &&& (255 : Int32))) hx hby d686 rfl rfl ?_
  refine uSIN 29 #[vi ((0 : Int32) + (((own_fst x).toInt8.toInt32) &&& (255 : Int32))), vr b, vi (0 : Int32), vi (2 : Int32), vi (2 : Int32), vi (0 : Int32)] hx hby d687 rfl rfl ?_
  refine uInc 32 #[vi ((0 : Int32) + (((own_fst x).toInt8.toInt32) &&& (255 : Int32))), vr b, vi (0 : Int32), vi (2 : Int32), vi (2 : Int32), vi (1 : Int32)] hx hby d688 rfl rfl rfl ?_
  refine uG 8 hx hby d689 (by decide) (by decide) ?_
  refine uI 10 hx hby d675 rfl rfl ?_
  refine uI 12 hx hby d676 rfl rfl ?_
  refine uNc 15 hx hby d677 rfl (tlt (by decide)).2.1 ?_
  refine uKb 17 (31 : Int32) hx hby d678 rfl rfl ?_
  refine uIN 18 hx hby d679 rfl rfl ?_
  refine uimul 19 ((31 : Int32) * ((0 : Int32) + (((own_fst x).toInt8.toInt32) &&& (255 : Int32)))) hx hby d680 rfl rfl ?_
  refine uAN 20 hx hby d681 rfl rfl rfl ?_
  refine uI 22 hx hby d682 rfl rfl ?_
  refine gldB hx P0 ⟨by decide, by decide⟩ (i := 1) rfl (v := (.int ((own_snd x).toInt8.toInt32))) rfl 23 (hb hby d683) rfl ?_
  refine uKs 26 (255 : Int32) hx hby d684 rfl rfl ?_
  refine uiand 27 (((own_snd x).toInt8.toInt32) &&& (255 : Int32)) hx hby d685 rfl rfl ?_
  refine uiadd 28 (((31 : Int32) * ((0 : Int32) + (((own_fst x).toInt8.toInt32) &&& (255 : Int32)))) + (((own_snd x).toInt8.toInt32) &&& (255 : Int32))) hx hby d686 rfl rfl ?_
  refine uSIN 29 #[vi (((31 : Int32) * ((0 : Int32) + (((own_fst x).toInt8.toInt32) &&& (255 : Int32)))) + (((own_snd x).toInt8.toInt32) &&& (255 : Int32))), vr b, vi (0 : Int32), vi (2 : Int32), vi (2 : Int32), vi (1 : Int32)] hx hby d687 rfl rfl ?_
  refine uInc 32 #[vi (((31 : Int32) * ((0 : Int32) + (((own_fst x).toInt8.toInt32) &&& (255 : Int32)))) + (((own_snd x).toInt8.toInt32) &&& (255 : Int32))), vr b, vi (0 : Int32), vi (2 : Int32), vi (2 : Int32), vi (2 : Int32)] hx hby d688 rfl rfl rfl ?_
  refine uG 8 hx hby d689 (by decide) (by decide) ?_
  refine uI 10 hx hby d675 rfl rfl ?_
  refine uI 12 hx hby d676 rfl rfl ?_
  refine uYc 35 hx hby d677 (flt (by decide)).2.1 (by decide) (by decide) ?_
  refine uIN 36 hx hby d690 rfl rfl ?_
  exact gretI hx hret (hb hby d691) (by decide) (by decide) (fun vq Cq => ⟨(congrArg (fun z => some (Value.int z)) (by rw [own_b8up (own_fstB x).1, own_b8up (own_sndB x), Int32.zero_add])), rfl⟩)
theorem d694 : decode y43_ 0 = .ok (.iload 4, 2) := by decide +kernel
theorem d695 : decode y43_ 2 = .ok (.tableswitch 127 4 10 #[42, 55, 127, 127, 88, 101, 114], 42) := by decide +kernel
theorem d696 : decode y43_ 44 = .ok (.iload_n 3, 1) := by decide +kernel
theorem d697 : decode y43_ 45 = .ok (.aload_n 0, 1) := by decide +kernel
theorem d698 : decode y43_ 46 = .ok (.checkcast 60, 3) := by decide +kernel
theorem d699 : decode y43_ 49 = .ok (.iload_n 1, 1) := by decide +kernel
theorem d700 : decode y43_ 50 = .ok (.iload_n 2, 1) := by decide +kernel
theorem d701 : decode y43_ 51 = .ok (.invokestatic 62, 3) := by decide +kernel
theorem own_pd702 : parseMethodDescriptor "(I[BII)I" = some ⟨[.int, (.array .byte), .int, .int], some .int⟩ := by decide +kernel
theorem d703 : decode y43_ 54 = .ok (.goto 103, 3) := by decide +kernel
theorem d704 : decode y43_ 157 = .ok (.ireturn, 1) := by decide +kernel
abbrev mn705 : MethodName := ⟨"jdk/internal/util/ArraysSupport", "vectorizedHashCode", "(Ljava/lang/Object;IIII)I"⟩
theorem own_vhc (l : Launch) (Z : State) (a0 : Array Value) (cx : Ctx Z a0) (ws : List Jvm.Cond) (b : Addr) (kb : ClassId) (x : Int32) (vm0 : Vm) (h0 : Heap) (X00 : Ext Z.heap h0) (P0 : Arv Z h0 b kb .byte (2 : Int32) [(.int ((own_fst x).toInt8.toInt32)), (.int ((own_snd x).toInt8.toInt32))] (.int (0 : Int32))) (P1 : Exa Z h0 b "[B") :
    Met l mn705 y43_ 5 (some .int) ws ({ frames := 1, cells := 0, slots := 0, locals := 17 } : Room) Z ([] : List (String × Nat)) vm0 h0 #[(.ref b), (.int (0 : Int32)), (.int (2 : Int32)), (.int (0 : Int32)), (.int (4 : Int32))] (fun rv vm h => rv = some (.int (((31 : Int32) * (own_fst x)) + (own_snd x))) ∧ h0 = h) := by
  obtain ⟨hw, hEL, ⟨zc, Scs, hzc⟩, ⟨fm, Sfm, hfm⟩, hL0, hB0, hO0⟩ := id cx
  refine Met.of_walk (a0 := a0) #[vr b, vi (0 : Int32), vi (2 : Int32), vi (0 : Int32), vi (4 : Int32)] (plainFor_of_name own_pn693) X00 hEL (fun m => by first | (simp [entryFrame, mkF, argsToLocals, Value.category]; done) | rfl) ?_
  intro p e s m below meth c vm hx hby hml hret hnm hC0 hW0
  have lt_b : h0.size > b := P0.lt
  refine uI 2 hx hby d694 rfl rfl ?_
  refine gx (mkF m 44 #[vr b, vi (0 : Int32), vi (2 : Int32), vi (0 : Int32), vi (4 : Int32)] []) (fun T locs X _ _ _ target kq => X.tableswitchIn hx (g := (mkF m 2 #[vr b, vi (0 : Int32), vi (2 : Int32), vi (0 : Int32), vi (4 : Int32)] [(.int (4 : Int32))])) rfl rfl (hb hby d695) (by decide) (off := 42) rfl (show (0 : Int) ≤ ((2 : Nat) : Int) + 42 by decide) target kq) ?_
  refine uIN 45 hx hby d696 rfl rfl ?_
  refine uAN 46 hx hby d697 rfl rfl rfl ?_
  refine gcast hx (ow hw 364 rfl) (Ins.self P1) 49 (hb hby d698) rfl ?_
  refine uIN 50 hx hby d699 rfl rfl ?_
  refine uIN 51 hx hby d700 rfl rfl ?_
  refine ginfo fun _ _ O1 => ?_
  refine gcallS (y := mn692) hx (ow hw 366 rfl) (ow hw 367 rfl) (ow hw 362 rfl) (ow hw 368 rfl) (by decide) (fun hZ H hEL => Pay.of_met (W := 0) (own_shc l Z a0 cx [] (b) (kb) (x) vm h0 O1 P0) (ow hw 368 rfl) (ow hw 362 rfl) (by decide) (by decide) hZ H hEL) 54 (argsL := [(.int (0 : Int32)), (.ref b), (.int (0 : Int32)), (.int (2 : Int32))]) (rest := []) (lenOf own_pd702 rfl) rfl rfl (Nat.le_of_eq rfl) (by rw [hml]; rfl) (hb hby d701) rfl (by decide) (by decide) ?_
  rintro _ vm1 h1 C1 ⟨rfl, rfl⟩
  have z1 := C1.2.1
  refine gat1 ?_
  refine uG 157 hx hby d703 (by decide) (by decide) ?_
  exact gretI hx hret (hb hby d704) (by decide) (by decide) (fun vq Cq => ⟨rfl, rfl⟩)
theorem d706 : decode y30_ 0 = .ok (.aload_n 0, 1) := by decide +kernel
theorem d707 : decode y30_ 1 = .ok (.arraylength, 1) := by decide +kernel
theorem d708 : decode y30_ 2 = .ok (.lookupswitch 40 #[(0, 26), (1, 30)], 26) := by decide +kernel
theorem d709 : decode y30_ 32 = .ok (.aload_n 0, 1) := by decide +kernel
theorem d710 : decode y30_ 33 = .ok (.iconst 0, 1) := by decide +kernel
theorem d711 : decode y30_ 34 = .ok (.baload, 1) := by decide +kernel
theorem d712 : decode y30_ 35 = .ok (.sipush 255, 3) := by decide +kernel
theorem d713 : decode y30_ 38 = .ok (.iand, 1) := by decide +kernel
theorem d714 : decode y30_ 39 = .ok (.goto 12, 3) := by decide +kernel
theorem d715 : decode y30_ 51 = .ok (.ireturn, 1) := by decide +kernel
abbrev mn716 : MethodName := ⟨"java/lang/StringLatin1", "hashCode", "([B)I"⟩
theorem own_lh1 (l : Launch) (Z : State) (a0 : Array Value) (cx : Ctx Z a0) (ws : List Jvm.Cond) (b : Addr) (kb : ClassId) (x : Int32) (vm0 : Vm) (h0 : Heap) (X00 : Ext Z.heap h0) (P0 : Arv Z h0 b kb .byte (1 : Int32) [(.int ((own_fst x).toInt8.toInt32))] (.int (0 : Int32))) :
    Met l mn716 y30_ 1 (some .int) ws ({ frames := 0, cells := 0, slots := 0, locals := 0 } : Room) Z ([] : List (String × Nat)) vm0 h0 #[(.ref b)] (fun rv vm h => rv = some (.int (own_fst x)) ∧ h0 = h) := by
  obtain ⟨hw, hEL, ⟨zc, Scs, hzc⟩, ⟨fm, Sfm, hfm⟩, hL0, hB0, hO0⟩ := id cx
  refine Met.of_walk (a0 := a0) #[vr b] (plainFor_of_name own_pn32) X00 hEL (fun m => by first | (simp [entryFrame, mkF, argsToLocals, Value.category]; done) | rfl) ?_
  intro p e s m below meth c vm hx hby hml hret hnm hC0 hW0
  have lt_b : h0.size > b := P0.lt
  refine uAN 1 hx hby d706 rfl rfl rfl ?_
  refine glen hx P0 2 (hb hby d707) rfl ?_
  refine gx (mkF m 32 #[vr b] []) (fun T locs X _ _ _ target kq => X.lookupswitchHit hx (g := (mkF m 2 #[vr b] [(.int (1 : Int32))])) rfl rfl (hb hby d708) (by decide) (a := 1) (off := 30) (by decide) (show (0 : Int) ≤ ((2 : Nat) : Int) + 30 by decide) target kq) ?_
  refine uAN 33 hx hby d709 rfl rfl rfl ?_
  refine uKc 34 (0 : Int32) hx hby d710 rfl rfl ?_
  refine gldB hx P0 ⟨by decide, by decide⟩ (i := 0) rfl (v := (.int ((own_fst x).toInt8.toInt32))) rfl 35 (hb hby d711) rfl ?_
  refine uKs 38 (255 : Int32) hx hby d712 rfl rfl ?_
  refine uiand 39 (((own_fst x).toInt8.toInt32) &&& (255 : Int32)) hx hby d713 rfl rfl ?_
  refine uG 51 hx hby d714 (by decide) (by decide) ?_
  exact gretI hx hret (hb hby d715) (by decide) (by decide) (fun vq Cq => ⟨(congrArg (fun z => some (Value.int z)) (own_b8up (own_fstB x).1)), rfl⟩)
theorem d717 : decode y30_ 42 = .ok (.aload_n 0, 1) := by decide +kernel
theorem d718 : decode y30_ 43 = .ok (.iconst 0, 1) := by decide +kernel
theorem d719 : decode y30_ 44 = .ok (.aload_n 0, 1) := by decide +kernel
theorem d720 : decode y30_ 45 = .ok (.arraylength, 1) := by decide +kernel
theorem d721 : decode y30_ 46 = .ok (.iconst 0, 1) := by decide +kernel
theorem d722 : decode y30_ 47 = .ok (.iconst 4, 1) := by decide +kernel
theorem d723 : decode y30_ 48 = .ok (.invokestatic 84, 3) := by decide +kernel
theorem own_pd724 : parseMethodDescriptor "(Ljava/lang/Object;IIII)I" = some ⟨[(.object "java/lang/Object"), .int, .int, .int, .int], some .int⟩ := by decide +kernel
theorem own_lh2 (l : Launch) (Z : State) (a0 : Array Value) (cx : Ctx Z a0) (ws : List Jvm.Cond) (b : Addr) (kb : ClassId) (x : Int32) (vm0 : Vm) (h0 : Heap) (X00 : Ext Z.heap h0) (P0 : Arv Z h0 b kb .byte (2 : Int32) [(.int ((own_fst x).toInt8.toInt32)), (.int ((own_snd x).toInt8.toInt32))] (.int (0 : Int32))) (P1 : Exa Z h0 b "[B") :
    Met l mn716 y30_ 1 (some .int) ws ({ frames := 2, cells := 0, slots := 0, locals := 33 } : Room) Z ([] : List (String × Nat)) vm0 h0 #[(.ref b)] (fun rv vm h => rv = some (.int (((31 : Int32) * (own_fst x)) + (own_snd x))) ∧ h0 = h) := by
  obtain ⟨hw, hEL, ⟨zc, Scs, hzc⟩, ⟨fm, Sfm, hfm⟩, hL0, hB0, hO0⟩ := id cx
  refine Met.of_walk (a0 := a0) #[vr b] (plainFor_of_name own_pn32) X00 hEL (fun m => by first | (simp [entryFrame, mkF, argsToLocals, Value.category]; done) | rfl) ?_
  intro p e s m below meth c vm hx hby hml hret hnm hC0 hW0
  have lt_b : h0.size > b := P0.lt
  refine uAN 1 hx hby d706 rfl rfl rfl ?_
  refine glen hx P0 2 (hb hby d707) rfl ?_
  refine gx (mkF m 42 #[vr b] []) (fun T locs X _ _ _ target kq => X.lookupswitchMiss hx (g := (mkF m 2 #[vr b] [(.int (2 : Int32))])) rfl rfl (hb hby d708) (by decide) (by decide) (show (0 : Int) ≤ ((2 : Nat) : Int) + 40 by decide) target kq) ?_
  refine uAN 43 hx hby d717 rfl rfl rfl ?_
  refine uKc 44 (0 : Int32) hx hby d718 rfl rfl ?_
  refine uAN 45 hx hby d719 rfl rfl rfl ?_
  refine glen hx P0 46 (hb hby d720) rfl ?_
  refine uKc 47 (0 : Int32) hx hby d721 rfl rfl ?_
  refine uKc 48 (4 : Int32) hx hby d722 rfl rfl ?_
  refine ginfo fun _ _ O1 => ?_
  refine gcallS (y := mn705) hx (ow hw 360 rfl) (ow hw 361 rfl) (ow hw 362 rfl) (ow hw 363 rfl) (by decide) (fun hZ H hEL => Pay.of_met (W := 0) (own_vhc l Z a0 cx [] (b) (kb) (x) vm h0 O1 P0 P1) (ow hw 363 rfl) (ow hw 362 rfl) (by decide) (by decide) hZ H hEL) 51 (argsL := [(.ref b), (.int (0 : Int32)), (.int (2 : Int32)), (.int (0 : Int32)), (.int (4 : Int32))]) (rest := []) (lenOf own_pd724 rfl) rfl rfl (Nat.le_of_eq rfl) (by rw [hml]; rfl) (hb hby d723) rfl (by decide) (by decide) ?_
  rintro _ vm1 h1 C1 ⟨rfl, rfl⟩
  have z1 := C1.2.1
  refine gat1 ?_
  exact gretI hx hret (hb hby d715) (by decide) (by decide) (fun vq Cq => ⟨rfl, rfl⟩)
theorem d725 : decode y29_ 0 = .ok (.aload_n 0, 1) := by decide +kernel
theorem d726 : decode y29_ 1 = .ok (.getfield 19, 3) := by decide +kernel
theorem d727 : decode y29_ 4 = .ok (.istore_n 1, 1) := by decide +kernel
theorem d728 : decode y29_ 5 = .ok (.iload_n 1, 1) := by decide +kernel
theorem d729 : decode y29_ 6 = .ok (.ifCond .ne 52, 3) := by decide +kernel
theorem d730 : decode y29_ 9 = .ok (.aload_n 0, 1) := by decide +kernel
theorem d731 : decode y29_ 10 = .ok (.getfield 23, 3) := by decide +kernel
theorem d732 : decode y29_ 13 = .ok (.ifCond .ne 45, 3) := by decide +kernel
theorem d733 : decode y29_ 16 = .ok (.aload_n 0, 1) := by decide +kernel
theorem d734 : decode y29_ 17 = .ok (.invokevirtual 492, 3) := by decide +kernel
theorem d735 : decode y29_ 20 = .ok (.ifCond .eq 13, 3) := by decide +kernel
theorem d736 : decode y29_ 23 = .ok (.aload_n 0, 1) := by decide +kernel
theorem d737 : decode y29_ 24 = .ok (.getfield 9, 3) := by decide +kernel
theorem d738 : decode y29_ 27 = .ok (.invokestatic 628, 3) := by decide +kernel
theorem d739 : decode y29_ 30 = .ok (.goto 10, 3) := by decide +kernel
theorem d740 : decode y29_ 40 = .ok (.istore_n 1, 1) := by decide +kernel
theorem d741 : decode y29_ 41 = .ok (.iload_n 1, 1) := by decide +kernel
theorem d742 : decode y29_ 42 = .ok (.ifCond .ne 11, 3) := by decide +kernel
theorem d743 : decode y29_ 53 = .ok (.aload_n 0, 1) := by decide +kernel
theorem d744 : decode y29_ 54 = .ok (.iload_n 1, 1) := by decide +kernel
theorem d745 : decode y29_ 55 = .ok (.putfield 19, 3) := by decide +kernel
theorem d746 : decode y29_ 58 = .ok (.iload_n 1, 1) := by decide +kernel
theorem d747 : decode y29_ 59 = .ok (.ireturn, 1) := by decide +kernel
abbrev mn748 : MethodName := ⟨"java/lang/String", "hashCode", "()I"⟩
theorem own_shash (l : Launch) (Z : State) (a0 : Array Value) (cx : Ctx Z a0) (ws : List Jvm.Cond) (w : Addr) (t : Addr) (b : Int32) (x : Int32) (vm0 : Vm) (h0 : Heap) (X00 : Ext Z.heap h0) (P0 : Str Z h0 w t ((own_fst x) :: (own_tl b x))) (P1 : Fld Z h0 w c12_ "hash" "I" (.int (0 : Int32))) (P2 : Fld Z h0 w c12_ c8_ "Z" (.int (0 : Int32))) (P3 : Z.heap.size ≤ w) (P4 : Safe Z ([] : List (String × Nat)) vm0 h0 w) (P5 : Exa Z h0 t "[B") :
    Met l mn748 y29_ 2 (some .int) ws ({ frames := 3, cells := 0, slots := 0, locals := 45 } : Room) Z ([] : List (String × Nat)) vm0 h0 #[(.ref w)] (fun rv vm h => rv = some (.int (own_h b x)) ∧ Keep h0 h [w]) := by
  obtain ⟨hw, hEL, ⟨zc, Scs, hzc⟩, ⟨fm, Sfm, hfm⟩, hL0, hB0, hO0⟩ := id cx
  refine Met.of_walk (a0 := a0) #[vr w, un] (plainFor_of_name own_pn70) X00 hEL (fun m => by first | (simp [entryFrame, mkF, argsToLocals, Value.category]; done) | rfl) ?_
  intro p e s m below meth c vm hx hby hml hret hnm hC0 hW0
  have lt_w : h0.size > w := P0.1.lt
  have lt_t : h0.size > t := P0.tlt
  have L4 := hC0.safe lt_w P4
  by_cases e1 : b = (0 : Int32)
  · have S0 : Str Z h0 w t [(own_fst x)] := by have qq := P0; rw [own_tl, if_pos e1] at qq; exact qq
    obtain ⟨ks, eS⟩ := S0.2.2.2.1
    have eT : Arv Z h0 t ks .byte (1 : Int32) [(.int ((own_fst x).toInt8.toInt32))] (.int (0 : Int32)) := eS
    refine uAN 1 hx hby d725 rfl rfl rfl ?_
    refine ggetF (host := "") hx (Or.inl (ow hw 353 rfl)) Via.refl P1 4 (hb hby d726) rfl ?_
    refine uSIN 5 #[vr w, vi (0 : Int32)] hx hby d727 rfl rfl ?_
    refine uIN 6 hx hby d728 rfl rfl ?_
    refine uN 9 hx hby d729 rfl ((if0 _ _).trans (teq (by decide)).2) ?_
    refine uAN 10 hx hby d730 rfl rfl rfl ?_
    refine ggetF (host := "") hx (Or.inl (ow hw 355 rfl)) Via.refl P2 13 (hb hby d731) rfl ?_
    refine uN 16 hx hby d732 rfl ((if0 _ _).trans (teq (by decide)).2) ?_
    refine uAN 17 hx hby d733 rfl rfl rfl ?_
    refine ginfo fun _ _ O1 => ?_
    refine gcallV (y := mn69) (z := mn69) hx (ow hw 240 rfl) (ow hw 241 rfl) (nfSel (ow hw 243 rfl)) (ow hw 243 rfl) (ow hw 242 rfl) (by decide) (fun hZ H hEL => Pay.of_met (W := 0) (own_slat l Z a0 cx [] (w) (t) ([(own_fst x)]) vm h0 O1 S0) (ow hw 244 rfl) (ow hw 9 rfl) (by decide) (by decide) hZ H hEL) 20 (argsL := []) (rest := []) S0.1 (lenOf own_pd73 rfl) rfl rfl (Nat.le_of_eq rfl) (by rw [hml]; rfl) (hb hby d734) rfl (by decide) (by decide) ?_
    rintro _ vm1 h1 C1 ⟨rfl, rfl⟩
    have z1 := C1.2.1
    refine gat1 ?_
    refine uN 23 hx hby d735 rfl ((if0 _ _).trans (feq (by decide)).1) ?_
    refine uAN 24 hx hby d736 rfl rfl rfl ?_
    refine ggetF (host := "") hx (Or.inl (ow hw 29 rfl)) Via.refl S0.2.2.1 27 (hb hby d737) rfl ?_
    refine ginfo fun _ _ O2 => ?_
    refine gcallS (y := mn716) hx (ow hw 357 rfl) (ow hw 358 rfl) (ow hw 14 rfl) (ow hw 359 rfl) (by decide) (fun hZ H hEL => Pay.of_met (W := 0) (own_lh1 l Z a0 cx [] (t) (ks) (x) vm1 h0 O2 eT) (ow hw 359 rfl) (ow hw 14 rfl) (by decide) (by decide) hZ H hEL) 30 (argsL := [(.ref t)]) (rest := []) (lenOf own_pd78 rfl) rfl rfl (Nat.le_of_eq rfl) (by rw [hml]; rfl) (hb hby d738) rfl (by decide) (by decide) ?_
    rintro _ vm2 h2 C2 ⟨rfl, rfl⟩
    have z2 := C2.2.1
    refine gat1 ?_
    refine uG 40 hx hby d739 (by decide) (by decide) ?_
    refine uSIN 41 #[vr w, vi (own_fst x)] hx hby d740 rfl rfl ?_
    refine uIN 42 hx hby d741 rfl rfl ?_
    refine uY 53 hx hby d742 ((if0 _ _).trans (feq (fun qz => own_hnz b x (by rw [own_h, if_pos e1]; exact qz))).2) (by decide) (by decide) ?_
    refine uAN 54 hx hby d743 rfl rfl rfl ?_
    refine uIN 55 hx hby d744 rfl rfl ?_
    have f3 := (C2.safe (show h0.size > w by omega) (C1.safe (show h0.size > w by omega) L4))
    refine gputF (host := "") hx (Or.inl (ow hw 353 rfl)) Via.refl P1 S0.1 (Or.inl (ow hw 354 rfl)) (ow hw 17 rfl) (ty := .int) (by decide) rfl rfl P3 (fun _ => f3) 58 (hb hby d745) rfl ?_
    intro h4 W4 C4
    have z4 := C4.2.1
    have F4 := P1.same W4
    refine uIN 59 hx hby d746 rfl rfl ?_
    exact gretI hx hret (hb hby d747) (by decide) (by decide) (fun vq Cq => ⟨(congrArg (fun z => some (Value.int z)) (by rw [own_h, if_pos e1])), ((Keep.refl h0 [w]).wr W4 (Or.inl (List.mem_of_getElem? (i := 0) rfl)))⟩)
  · have S0 : Str Z h0 w t [(own_fst x), (own_snd x)] := by have qq := P0; rw [own_tl, if_neg e1] at qq; exact qq
    obtain ⟨ks, eS⟩ := S0.2.2.2.1
    have eT : Arv Z h0 t ks .byte (2 : Int32) [(.int ((own_fst x).toInt8.toInt32)), (.int ((own_snd x).toInt8.toInt32))] (.int (0 : Int32)) := eS
    refine uAN 1 hx hby d725 rfl rfl rfl ?_
    refine ggetF (host := "") hx (Or.inl (ow hw 353 rfl)) Via.refl P1 4 (hb hby d726) rfl ?_
    refine uSIN 5 #[vr w, vi (0 : Int32)] hx hby d727 rfl rfl ?_
    refine uIN 6 hx hby d728 rfl rfl ?_
    refine uN 9 hx hby d729 rfl ((if0 _ _).trans (teq (by decide)).2) ?_
    refine uAN 10 hx hby d730 rfl rfl rfl ?_
    refine ggetF (host := "") hx (Or.inl (ow hw 355 rfl)) Via.refl P2 13 (hb hby d731) rfl ?_
    refine uN 16 hx hby d732 rfl ((if0 _ _).trans (teq (by decide)).2) ?_
    refine uAN 17 hx hby d733 rfl rfl rfl ?_
    refine ginfo fun _ _ O6 => ?_
    refine gcallV (y := mn69) (z := mn69) hx (ow hw 240 rfl) (ow hw 241 rfl) (nfSel (ow hw 243 rfl)) (ow hw 243 rfl) (ow hw 242 rfl) (by decide) (fun hZ H hEL => Pay.of_met (W := 0) (own_slat l Z a0 cx [] (w) (t) ([(own_fst x), (own_snd x)]) vm h0 O6 S0) (ow hw 244 rfl) (ow hw 9 rfl) (by decide) (by decide) hZ H hEL) 20 (argsL := []) (rest := []) S0.1 (lenOf own_pd73 rfl) rfl rfl (Nat.le_of_eq rfl) (by rw [hml]; rfl) (hb hby d734) rfl (by decide) (by decide) ?_
    rintro _ vm6 h6 C6 ⟨rfl, rfl⟩
    have z6 := C6.2.1
    refine gat1 ?_
    refine uN 23 hx hby d735 rfl ((if0 _ _).trans (feq (by decide)).1) ?_
    refine uAN 24 hx hby d736 rfl rfl rfl ?_
    refine ggetF (host := "") hx (Or.inl (ow hw 29 rfl)) Via.refl S0.2.2.1 27 (hb hby d737) rfl ?_
    refine ginfo fun _ _ O7 => ?_
    refine gcallS (y := mn716) hx (ow hw 357 rfl) (ow hw 358 rfl) (ow hw 14 rfl) (ow hw 359 rfl) (by decide) (fun hZ H hEL => Pay.of_met (W := 0) (own_lh2 l Z a0 cx [] (t) (ks) (x) vm6 h0 O7 eT P5) (ow hw 359 rfl) (ow hw 14 rfl) (by decide) (by decide) hZ H hEL) 30 (argsL := [(.ref t)]) (rest := []) (lenOf own_pd78 rfl) rfl rfl (Nat.le_of_eq rfl) (by rw [hml]; rfl) (hb hby d738) rfl (by decide) (by decide) ?_
    rintro _ vm7 h7 C7 ⟨rfl, rfl⟩
    have z7 := C7.2.1
    refine gat1 ?_
    refine uG 40 hx hby d739 (by decide) (by decide) ?_
    refine uSIN 41 #[vr w, vi (((31 : Int32) * (own_fst x)) + (own_snd x))] hx hby d740 rfl rfl ?_
    refine uIN 42 hx hby d741 rfl rfl ?_
    refine uY 53 hx hby d742 ((if0 _ _).trans (feq (fun qz => own_hnz b x (by rw [own_h, if_neg e1]; exact qz))).2) (by decide) (by decide) ?_
    refine uAN 54 hx hby d743 rfl rfl rfl ?_
    refine uIN 55 hx hby d744 rfl rfl ?_
    have f8 := (C7.safe (show h0.size > w by omega) (C6.safe (show h0.size > w by omega) L4))
    refine gputF (host := "") hx (Or.inl (ow hw 353 rfl)) Via.refl P1 S0.1 (Or.inl (ow hw 354 rfl)) (ow hw 17 rfl) (ty := .int) (by decide) rfl rfl P3 (fun _ => f8) 58 (hb hby d745) rfl ?_
    intro h9 W9 C9
    have z9 := C9.2.1
    have F9 := P1.same W9
    refine uIN 59 hx hby d746 rfl rfl ?_
    exact gretI hx hret (hb hby d747) (by decide) (by decide) (fun vq Cq => ⟨(congrArg (fun z => some (Value.int z)) (by rw [own_h, if_neg e1])), ((Keep.refl h0 [w]).wr W9 (Or.inl (List.mem_of_getElem? (i := 0) rfl)))⟩)
theorem d749 : decode y9_ 0 = .ok (.aload_n 0, 1) := by decide +kernel
theorem d750 : decode y9_ 1 = .ok (.ifnull 10, 3) := by decide +kernel
theorem d751 : decode y9_ 4 = .ok (.aload_n 0, 1) := by decide +kernel
theorem d752 : decode y9_ 5 = .ok (.invokevirtual 24, 3) := by decide +kernel
abbrev mn753 : MethodName := ⟨"java/lang/Object", "hashCode", "()I"⟩
abbrev mn754 : MethodName := ⟨"java/lang/Object", "getClass", "()Ljava/lang/Class;"⟩
theorem d755 : decode y9_ 8 = .ok (.goto 4, 3) := by decide +kernel
theorem d756 : decode y9_ 12 = .ok (.ireturn, 1) := by decide +kernel
abbrev mn757 : MethodName := ⟨"java/util/Objects", "hashCode", "(Ljava/lang/Object;)I"⟩
theorem own_ohash (l : Launch) (Z : State) (a0 : Array Value) (cx : Ctx Z a0) (ws : List Jvm.Cond) (w : Addr) (t : Addr) (b : Int32) (x : Int32) (vm0 : Vm) (h0 : Heap) (X00 : Ext Z.heap h0) (P0 : Str Z h0 w t ((own_fst x) :: (own_tl b x))) (P1 : Fld Z h0 w c12_ "hash" "I" (.int (0 : Int32))) (P2 : Fld Z h0 w c12_ c8_ "Z" (.int (0 : Int32))) (P3 : Z.heap.size ≤ w) (P4 : Safe Z ([] : List (String × Nat)) vm0 h0 w) (P5 : Exa Z h0 t "[B") :
    Met l mn757 y9_ 1 (some .int) ws ({ frames := 4, cells := 0, slots := 0, locals := 58 } : Room) Z ([] : List (String × Nat)) vm0 h0 #[(.ref w)] (fun rv vm h => rv = some (.int (own_h b x)) ∧ Keep h0 h [w]) := by
  obtain ⟨hw, hEL, ⟨zc, Scs, hzc⟩, ⟨fm, Sfm, hfm⟩, hL0, hB0, hO0⟩ := id cx
  refine Met.of_walk (a0 := a0) #[vr w] (plainFor_of_name own_pn204) X00 hEL (fun m => by first | (simp [entryFrame, mkF, argsToLocals, Value.category]; done) | rfl) ?_
  intro p e s m below meth c vm hx hby hml hret hnm hC0 hW0
  have lt_w : h0.size > w := P0.1.lt
  have lt_t : h0.size > t := P0.tlt
  have L4 := hC0.safe lt_w P4
  refine uAN 1 hx hby d749 rfl rfl rfl ?_
  refine uN0 4 hx hby d750 rfl ?_
  refine uAN 5 hx hby d751 rfl rfl rfl ?_
  refine ginfo fun _ _ O1 => ?_
  refine gcallV (y := mn753) (z := mn748) hx (ow hw 382 rfl) (ow hw 159 rfl) (nfSame (y' := mn754) (ow hw 303 rfl) (ow hw 302 rfl) rfl) (ow hw 350 rfl) (ow hw 351 rfl) (by decide) (fun hZ H hEL => Pay.of_met (W := 0) (own_shash l Z a0 cx [] (w) (t) (b) (x) vm h0 O1 P0 P1 P2 P3 L4 P5) (ow hw 352 rfl) (ow hw 9 rfl) (by decide) (by decide) hZ H hEL) 8 (argsL := []) (rest := []) P0.1 (lenOf own_pd84 rfl) rfl rfl (Nat.le_of_eq rfl) (by rw [hml]; rfl) (hb hby d752) rfl (by decide) (by decide) ?_
  rintro _ vm1 h1 C1 ⟨rfl, K1⟩
  have z1 := C1.2.1
  refine gat1 ?_
  refine uG 12 hx hby d755 (by decide) (by decide) ?_
  exact gretI hx hret (hb hby d756) (by decide) (by decide) (fun vq Cq => ⟨rfl, ((Keep.refl h0 [w]).trans K1 (allS (Or.inl (List.mem_of_getElem? (i := 0) rfl)) all0))⟩)
def own_bh (b : Int32) : Int32 := if b = (0 : Int32) then (1237 : Int32) else (1231 : Int32)
theorem d758 : decode y2_ 0 = .ok (.iload_n 0, 1) := by decide +kernel
theorem d759 : decode y2_ 1 = .ok (.ifCond .eq 9, 3) := by decide +kernel
theorem d760 : decode y2_ 10 = .ok (.sipush 1237, 3) := by decide +kernel
theorem d761 : decode y2_ 13 = .ok (.ireturn, 1) := by decide +kernel
theorem d762 : decode y2_ 4 = .ok (.sipush 1231, 3) := by decide +kernel
theorem d763 : decode y2_ 7 = .ok (.goto 6, 3) := by decide +kernel
abbrev mn764 : MethodName := ⟨"java/lang/Boolean", "hashCode", "(Z)I"⟩
theorem own_pn765 : plainName "java/lang/Boolean" = true := by first | (simp [plainName, overriddenIn]; done) | decide +kernel
theorem own_bhz (l : Launch) (Z : State) (a0 : Array Value) (cx : Ctx Z a0) (ws : List Jvm.Cond) (b : Int32) (vm0 : Vm) (h0 : Heap) (X00 : Ext Z.heap h0)  :
    Met l mn764 y2_ 1 (some .int) ws ({ frames := 0, cells := 0, slots := 0, locals := 0 } : Room) Z ([] : List (String × Nat)) vm0 h0 #[(.int b)] (fun rv vm h => rv = some (.int (own_bh b)) ∧ h0 = h) := by
  obtain ⟨hw, hEL, ⟨zc, Scs, hzc⟩, ⟨fm, Sfm, hfm⟩, hL0, hB0, hO0⟩ := id cx
  refine Met.of_walk (a0 := a0) #[vi b] (plainFor_of_name own_pn765) X00 hEL (fun m => by first | (simp [entryFrame, mkF, argsToLocals, Value.category]; done) | rfl) ?_
  intro p e s m below meth c vm hx hby hml hret hnm hC0 hW0
  refine uIN 1 hx hby d758 rfl rfl ?_
  by_cases e1 : b = (0 : Int32)
  · refine uY 10 hx hby d759 ((if0 _ _).trans (teq e1).1) (by decide) (by decide) ?_
    refine uKs 13 (1237 : Int32) hx hby d760 rfl rfl ?_
    exact gretI hx hret (hb hby d761) (by decide) (by decide) (fun vq Cq => ⟨(congrArg (fun z => some (Value.int z)) (by rw [own_bh, if_pos e1])), rfl⟩)
  · refine uN 4 hx hby d759 rfl ((if0 _ _).trans (feq e1).1) ?_
    refine uKs 7 (1231 : Int32) hx hby d762 rfl rfl ?_
    refine uG 13 hx hby d763 (by decide) (by decide) ?_
    exact gretI hx hret (hb hby d761) (by decide) (by decide) (fun vq Cq => ⟨(congrArg (fun z => some (Value.int z)) (by rw [own_bh, if_neg e1])), rfl⟩)
theorem d766 : decode y4_ 0 = .ok (.aload_n 0, 1) := by decide +kernel
theorem d767 : decode y4_ 1 = .ok (.getfield 7, 3) := by decide +kernel
theorem d768 : decode y4_ 4 = .ok (.invokestatic 38, 3) := by decide +kernel
theorem own_pd769 : parseMethodDescriptor "(Z)I" = some ⟨[.boolean], some .int⟩ := by decide +kernel
theorem d770 : decode y4_ 7 = .ok (.ireturn, 1) := by decide +kernel
abbrev mn771 : MethodName := ⟨"java/lang/Boolean", "hashCode", "()I"⟩
theorem own_bho (l : Launch) (Z : State) (a0 : Array Value) (cx : Ctx Z a0) (ws : List Jvm.Cond) (r : Addr) (b : Int32) (vm0 : Vm) (h0 : Heap) (X00 : Ext Z.heap h0) (P0 : Exa Z h0 r c9_) (P1 : Fld Z h0 r c9_ "value" "Z" (.int b)) :
    Met l mn771 y4_ 1 (some .int) ws ({ frames := 1, cells := 0, slots := 0, locals := 12 } : Room) Z ([] : List (String × Nat)) vm0 h0 #[(.ref r)] (fun rv vm h => rv = some (.int (own_bh b)) ∧ h0 = h) := by
  obtain ⟨hw, hEL, ⟨zc, Scs, hzc⟩, ⟨fm, Sfm, hfm⟩, hL0, hB0, hO0⟩ := id cx
  refine Met.of_walk (a0 := a0) #[vr r] (plainFor_of_name own_pn765) X00 hEL (fun m => by first | (simp [entryFrame, mkF, argsToLocals, Value.category]; done) | rfl) ?_
  intro p e s m below meth c vm hx hby hml hret hnm hC0 hW0
  have lt_r : h0.size > r := P0.lt
  refine uAN 1 hx hby d766 rfl rfl rfl ?_
  refine ggetF (host := "") hx (Or.inl (ow hw 164 rfl)) Via.refl P1 4 (hb hby d767) rfl ?_
  refine ginfo fun _ _ O1 => ?_
  refine gcallS (y := mn764) hx (ow hw 166 rfl) (ow hw 167 rfl) (ow hw 145 rfl) (ow hw 168 rfl) (by decide) (fun hZ H hEL => Pay.of_met (W := 0) (own_bhz l Z a0 cx [] (b) vm h0 O1 ) (ow hw 168 rfl) (ow hw 145 rfl) (by decide) (by decide) hZ H hEL) 7 (argsL := [(.int b)]) (rest := []) (lenOf own_pd769 rfl) rfl rfl (Nat.le_of_eq rfl) (by rw [hml]; rfl) (hb hby d768) rfl (by decide) (by decide) ?_
  rintro _ vm1 h1 C1 ⟨rfl, rfl⟩
  have z1 := C1.2.1
  refine gat1 ?_
  exact gretI hx hret (hb hby d770) (by decide) (by decide) (fun vq Cq => ⟨rfl, rfl⟩)
theorem d772 : decode y3_ 0 = .ok (.iload_n 0, 1) := by decide +kernel
theorem d773 : decode y3_ 1 = .ok (.ifCond .eq 9, 3) := by decide +kernel
theorem d774 : decode y3_ 10 = .ok (.getstatic 31, 3) := by decide +kernel
theorem d775 : decode y3_ 13 = .ok (.areturn, 1) := by decide +kernel
theorem d776 : decode y3_ 4 = .ok (.getstatic 27, 3) := by decide +kernel
theorem d777 : decode y3_ 7 = .ok (.goto 6, 3) := by decide +kernel
abbrev mn778 : MethodName := ⟨"java/lang/Boolean", "valueOf", "(Z)Ljava/lang/Boolean;"⟩
theorem own_bval (l : Launch) (Z : State) (a0 : Array Value) (cx : Ctx Z a0) (ws : List Jvm.Cond) (b : Int32) (vm0 : Vm) (h0 : Heap) (X00 : Ext Z.heap h0) (b_b : (b = 0 ∨ b = 1)) :
    Met l mn778 y3_ 1 (some (.object c9_)) ws ({ frames := 0, cells := 0, slots := 0, locals := 0 } : Room) Z ([] : List (String × Nat)) vm0 h0 #[(.int b)] (fun rv vm h => ∃ (r : Addr), rv = some (.ref r) ∧ h0 = h ∧ Exa Z h r c9_ ∧ Fld Z h r c9_ "value" "Z" (.int b)) := by
  obtain ⟨hw, hEL, ⟨zc, Scs, hzc⟩, ⟨fm, Sfm, hfm⟩, hL0, hB0, hO0⟩ := id cx
  refine Met.of_walk (a0 := a0) #[vi b] (plainFor_of_name own_pn765) X00 hEL (fun m => by first | (simp [entryFrame, mkF, argsToLocals, Value.category]; done) | rfl) ?_
  intro p e s m below meth c vm hx hby hml hret hnm hC0 hW0
  obtain ⟨bt, bf, Sbt, Ebt, Fbt, Sbf, Ebf, Fbf⟩ := hO0
  refine ginfo fun _ _ OB => ?_
  refine uIN 1 hx hby d772 rfl rfl ?_
  by_cases e1 : b = (0 : Int32)
  · refine uY 10 hx hby d773 ((if0 _ _).trans (teq e1).1) (by decide) (by decide) ?_
    refine ggetS (host := "") hx (Or.inl (ow hw 147 rfl)) Via.refl Sbf 13 (hb hby d774) rfl ?_
    exact gretA hx hret rfl rfl (hb hby d775) (by decide) (by decide) (fun vq Cq => ⟨bf, rfl, rfl, (Ebf.ext OB), (by rw [e1]; exact Fbf.ext OB)⟩)
  · refine uN 4 hx hby d773 rfl ((if0 _ _).trans (feq e1).1) ?_
    refine ggetS (host := "") hx (Or.inl (ow hw 386 rfl)) Via.refl Sbt 7 (hb hby d776) rfl ?_
    refine uG 13 hx hby d777 (by decide) (by decide) ?_
    exact gretA hx hret rfl rfl (hb hby d775) (by decide) (by decide) (fun vq Cq => ⟨bt, rfl, rfl, (Ebt.ext OB), (by rw [(b_b.resolve_left e1)]; exact Fbt.ext OB)⟩)
theorem d779 : decode y40_ 0 = .ok (.iconst 1, 1) := by decide +kernel
theorem d780 : decode y40_ 1 = .ok (.istore_n 1, 1) := by decide +kernel
theorem d781 : decode y40_ 2 = .ok (.iconst 0, 1) := by decide +kernel
theorem d782 : decode y40_ 3 = .ok (.istore_n 2, 1) := by decide +kernel
theorem d783 : decode y40_ 4 = .ok (.aload_n 0, 1) := by decide +kernel
theorem d784 : decode y40_ 5 = .ok (.invokevirtual 13, 3) := by decide +kernel
abbrev mn785 : MethodName := ⟨"java/util/ImmutableCollections$AbstractImmutableList", "size", "()I"⟩
theorem d786 : decode y40_ 8 = .ok (.istore_n 3, 1) := by decide +kernel
theorem d787 : decode y40_ 9 = .ok (.iload_n 2, 1) := by decide +kernel
theorem d788 : decode y40_ 10 = .ok (.iload_n 3, 1) := by decide +kernel
theorem d789 : decode y40_ 11 = .ok (.if_icmp .ge 23, 3) := by decide +kernel
theorem d790 : decode y40_ 34 = .ok (.iload_n 1, 1) := by decide +kernel
theorem d791 : decode y40_ 35 = .ok (.ireturn, 1) := by decide +kernel
abbrev mn792 : MethodName := ⟨"java/util/ImmutableCollections$AbstractImmutableList", "hashCode", "()I"⟩
theorem own_lhash0 (l : Launch) (Z : State) (a0 : Array Value) (cx : Ctx Z a0) (ws : List Jvm.Cond) (dz : Addr) (el : Addr) (ee : Addr) (em : Addr) (mr : Addr) (kd : ClassId) (ke : ClassId) (vm0 : Vm) (h0 : Heap) (X00 : Ext Z.heap h0) (hL : (OwnL Z dz el ee em mr kd ke)) :
    Met l mn792 y40_ 4 (some .int) ws ({ frames := 1, cells := 0, slots := 0, locals := 12 } : Room) Z ([] : List (String × Nat)) vm0 h0 #[(.ref el)] (fun rv vm h => rv = some (.int (1 : Int32)) ∧ Keep h0 h []) := by
  obtain ⟨hw, hEL, ⟨zc, Scs, hzc⟩, ⟨fm, Sfm, hfm⟩, hL0, hB0, hO0⟩ := id cx
  refine Met.of_walk (a0 := a0) #[vr el, un, un, un] (plainFor_of_name own_pn214) X00 hEL (fun m => by first | (simp [entryFrame, mkF, argsToLocals, Value.category]; done) | rfl) ?_
  intro p e s m below meth c vm hx hby hml hret hnm hC0 hW0
  obtain ⟨Sdz, Edz, Vdz, Sel, Eel, Fee, Vee, Fan, Sem, Eem, Mmr⟩ := id hL
  refine ginfo fun _ _ OL1 => ?_
  have Eel_1 := Eel.ext OL1
  have lt_el : h0.size > el := Eel_1.lt
  refine uKc 1 (1 : Int32) hx hby d779 rfl rfl ?_
  refine uSIN 2 #[vr el, vi (1 : Int32), un, un] hx hby d780 rfl rfl ?_
  refine uKc 3 (0 : Int32) hx hby d781 rfl rfl ?_
  refine uSIN 4 #[vr el, vi (1 : Int32), vi (0 : Int32), un] hx hby d782 rfl rfl ?_
  refine uAN 5 hx hby d783 rfl rfl rfl ?_
  refine ginfo fun _ _ O2 => ?_
  refine gcallVU (y := mn785) (z := mn330) (owner := "java/util/AbstractCollection") hx (ow hw 173 rfl) (ow hw 174 rfl) (ow hw 175 rfl) (ow hw 176 rfl) (ow hw 177 rfl) (by decide) (fun hZ H hEL => Pay.of_met (W := 0) (own_lsize0 l Z a0 cx [] (dz) (el) (ee) (em) (mr) (kd) (ke) vm h0 O2 (by first | assumption | decide | omega)) (ow hw 179 rfl) (ow hw 178 rfl) (by decide) (by decide) hZ H hEL) 8 (argsL := []) (rest := []) Eel_1 (lenOf own_pd84 rfl) rfl rfl (Nat.le_of_eq rfl) (by rw [hml]; rfl) (hb hby d784) rfl (by decide) (by decide) ?_
  rintro _ vm2 h2 C2 ⟨rfl, rfl⟩
  have z2 := C2.2.1
  refine gat1 ?_
  refine uSIN 9 #[vr el, vi (1 : Int32), vi (0 : Int32), vi (0 : Int32)] hx hby d786 rfl rfl ?_
  refine uIN 10 hx hby d787 rfl rfl ?_
  refine uIN 11 hx hby d788 rfl rfl ?_
  refine uYc 34 hx hby d789 (flt (by decide)).2.1 (by decide) (by decide) ?_
  refine uIN 35 hx hby d790 rfl rfl ?_
  exact gretI hx hret (hb hby d791) (by decide) (by decide) (fun vq Cq => ⟨rfl, (Keep.refl h0 [])⟩)
theorem d793 : decode y55_ 0 = .ok (.aload_n 0, 1) := by decide +kernel
theorem d794 : decode y55_ 1 = .ok (.ifnonnull 5, 3) := by decide +kernel
theorem d795 : decode y55_ 6 = .ok (.iconst 1, 1) := by decide +kernel
theorem d796 : decode y55_ 7 = .ok (.istore_n 1, 1) := by decide +kernel
theorem d797 : decode y55_ 8 = .ok (.aload_n 0, 1) := by decide +kernel
theorem d798 : decode y55_ 9 = .ok (.astore_n 2, 1) := by decide +kernel
theorem d799 : decode y55_ 10 = .ok (.aload_n 2, 1) := by decide +kernel
theorem d800 : decode y55_ 11 = .ok (.arraylength, 1) := by decide +kernel
theorem d801 : decode y55_ 12 = .ok (.istore_n 3, 1) := by decide +kernel
theorem d802 : decode y55_ 13 = .ok (.iconst 0, 1) := by decide +kernel
theorem d803 : decode y55_ 14 = .ok (.istore 4, 2) := by decide +kernel
theorem d804 : decode y55_ 16 = .ok (.iload 4, 2) := by decide +kernel
theorem d805 : decode y55_ 18 = .ok (.iload_n 3, 1) := by decide +kernel
theorem d806 : decode y55_ 19 = .ok (.if_icmp .ge 35, 3) := by decide +kernel
theorem d807 : decode y55_ 22 = .ok (.aload_n 2, 1) := by decide +kernel
theorem d808 : decode y55_ 23 = .ok (.iload 4, 2) := by decide +kernel
theorem d809 : decode y55_ 25 = .ok (.aaload, 1) := by decide +kernel
theorem d810 : decode y55_ 26 = .ok (.astore 5, 2) := by decide +kernel
theorem d811 : decode y55_ 28 = .ok (.bipush 31, 2) := by decide +kernel
theorem d812 : decode y55_ 30 = .ok (.iload_n 1, 1) := by decide +kernel
theorem d813 : decode y55_ 31 = .ok (.imul, 1) := by decide +kernel
theorem d814 : decode y55_ 32 = .ok (.aload 5, 2) := by decide +kernel
theorem d815 : decode y55_ 34 = .ok (.ifnonnull 7, 3) := by decide +kernel
theorem d816 : decode y55_ 37 = .ok (.iconst 0, 1) := by decide +kernel
theorem d817 : decode y55_ 38 = .ok (.goto 8, 3) := by decide +kernel
theorem d818 : decode y55_ 46 = .ok (.iadd, 1) := by decide +kernel
theorem d819 : decode y55_ 47 = .ok (.istore_n 1, 1) := by decide +kernel
theorem d820 : decode y55_ 48 = .ok (.iinc 4 1, 3) := by decide +kernel
theorem d821 : decode y55_ 51 = .ok (.goto (-35), 3) := by decide +kernel
theorem d822 : decode y55_ 41 = .ok (.aload 5, 2) := by decide +kernel
theorem d823 : decode y55_ 43 = .ok (.invokevirtual 383, 3) := by decide +kernel
theorem d824 : decode y55_ 54 = .ok (.iload_n 1, 1) := by decide +kernel
theorem d825 : decode y55_ 55 = .ok (.ireturn, 1) := by decide +kernel
abbrev mn826 : MethodName := ⟨"java/util/Arrays", "hashCode", "([Ljava/lang/Object;)I"⟩
theorem own_ahash0_0 (l : Launch) (Z : State) (a0 : Array Value) (cx : Ctx Z a0) (ws : List Jvm.Cond) (a : Addr) (ka : ClassId) (bo : Addr) (pf : Int32) (dz : Addr) (el : Addr) (ee : Addr) (em : Addr) (mr : Addr) (kd : ClassId) (ke : ClassId) (vm0 : Vm) (h0 : Heap) (X00 : Ext Z.heap h0) (P0 : Arv Z h0 a ka (.object c11_) (3 : Int32) [.null, (.ref bo), (.ref el)] .null) (P1 : Exa Z h0 bo c9_) (P2 : Fld Z h0 bo c9_ "value" "Z" (.int pf)) (hL : (OwnL Z dz el ee em mr kd ke)) :
    Met l mn826 y55_ 6 (some .int) ws ({ frames := 2, cells := 0, slots := 0, locals := 28 } : Room) Z ([] : List (String × Nat)) vm0 h0 #[(.ref a)] (fun rv vm h => rv = some (.int (((31 : Int32) * ((961 : Int32) + (own_bh pf))) + (1 : Int32))) ∧ Keep h0 h []) := by
  obtain ⟨hw, hEL, ⟨zc, Scs, hzc⟩, ⟨fm, Sfm, hfm⟩, hL0, hB0, hO0⟩ := id cx
  refine Met.of_walk (a0 := a0) #[vr a, un, un, un, un, un] (plainFor_of_name own_pn266) X00 hEL (fun m => by first | (simp [entryFrame, mkF, argsToLocals, Value.category]; done) | rfl) ?_
  intro p e s m below meth c vm hx hby hml hret hnm hC0 hW0
  have lt_a : h0.size > a := P0.lt
  have lt_bo : h0.size > bo := P1.lt
  obtain ⟨Sdz, Edz, Vdz, Sel, Eel, Fee, Vee, Fan, Sem, Eem, Mmr⟩ := id hL
  refine ginfo fun _ _ OL1 => ?_
  have Eel_1 := Eel.ext OL1
  have lt_el : h0.size > el := Eel_1.lt
  refine uAN 1 hx hby d793 rfl rfl rfl ?_
  refine uY1 6 hx hby d794 (by decide) (by decide) ?_
  refine uKc 7 (1 : Int32) hx hby d795 rfl rfl ?_
  refine uSIN 8 #[vr a, vi (1 : Int32), un, un, un, un] hx hby d796 rfl rfl ?_
  refine uAN 9 hx hby d797 rfl rfl rfl ?_
  refine uSAN 10 #[vr a, vi (1 : Int32), vr a, un, un, un] hx hby d798 rfl rfl rfl ?_
  refine uAN 11 hx hby d799 rfl rfl rfl ?_
  refine glen hx P0 12 (hb hby d800) rfl ?_
  refine uSIN 13 #[vr a, vi (1 : Int32), vr a, vi (3 : Int32), un, un] hx hby d801 rfl rfl ?_
  refine uKc 14 (0 : Int32) hx hby d802 rfl rfl ?_
  refine uSI 16 #[vr a, vi (1 : Int32), vr a, vi (3 : Int32), vi (0 : Int32), un] hx hby d803 rfl rfl ?_
  refine uI 18 hx hby d804 rfl rfl ?_
  refine uIN 19 hx hby d805 rfl rfl ?_
  refine uNc 22 hx hby d806 rfl (tlt (by decide)).2.1 ?_
  refine uAN 23 hx hby d807 rfl rfl rfl ?_
  refine uI 25 hx hby d808 rfl rfl ?_
  refine gldR hx P0 ⟨by decide, by decide⟩ (i := 0) rfl (v := .null) rfl 26 (hb hby d809) rfl ?_
  refine uSA 28 #[vr a, vi (1 : Int32), vr a, vi (3 : Int32), vi (0 : Int32), .val .null] hx hby d810 rfl rfl rfl ?_
  refine uKb 30 (31 : Int32) hx hby d811 rfl rfl ?_
  refine uIN 31 hx hby d812 rfl rfl ?_
  refine uimul 32 (31 : Int32) hx hby d813 rfl (by decide) ?_
  refine uA 34 hx hby d814 rfl rfl rfl ?_
  refine uN1 37 hx hby d815 rfl ?_
  refine uKc 38 (0 : Int32) hx hby d816 rfl rfl ?_
  refine uG 46 hx hby d817 (by decide) (by decide) ?_
  refine uiadd 47 (31 : Int32) hx hby d818 rfl (by decide) ?_
  refine uSIN 48 #[vr a, vi (31 : Int32), vr a, vi (3 : Int32), vi (0 : Int32), .val .null] hx hby d819 rfl rfl ?_
  refine uInc 51 #[vr a, vi (31 : Int32), vr a, vi (3 : Int32), vi (1 : Int32), .val .null] hx hby d820 rfl rfl rfl ?_
  refine uG 16 hx hby d821 (by decide) (by decide) ?_
  refine uI 18 hx hby d804 rfl rfl ?_
  refine uIN 19 hx hby d805 rfl rfl ?_
  refine uNc 22 hx hby d806 rfl (tlt (by decide)).2.1 ?_
  refine uAN 23 hx hby d807 rfl rfl rfl ?_
  refine uI 25 hx hby d808 rfl rfl ?_
  refine gldR hx P0 ⟨by decide, by decide⟩ (i := 1) rfl (v := (.ref bo)) rfl 26 (hb hby d809) rfl ?_
  refine uSA 28 #[vr a, vi (31 : Int32), vr a, vi (3 : Int32), vi (1 : Int32), vr bo] hx hby d810 rfl rfl rfl ?_
  refine uKb 30 (31 : Int32) hx hby d811 rfl rfl ?_
  refine uIN 31 hx hby d812 rfl rfl ?_
  refine uimul 32 (961 : Int32) hx hby d813 rfl (by decide) ?_
  refine uA 34 hx hby d814 rfl rfl rfl ?_
  refine uY1 41 hx hby d815 (by decide) (by decide) ?_
  refine uA 43 hx hby d822 rfl rfl rfl ?_
  refine ginfo fun _ _ O2 => ?_
  refine gcallV (y := mn753) (z := mn771) hx (ow hw 158 rfl) (ow hw 159 rfl) (nfSame (y' := mn754) (ow hw 303 rfl) (ow hw 302 rfl) rfl) (ow hw 161 rfl) (ow hw 162 rfl) (by decide) (fun hZ H hEL => Pay.of_met (W := 1) (own_bho l Z a0 cx [] (bo) (pf) vm h0 O2 P1 P2) (ow hw 163 rfl) (ow hw 145 rfl) (by decide) (by decide) hZ H hEL) 46 (argsL := []) (rest := [(.int (961 : Int32))]) P1 (lenOf own_pd84 rfl) rfl rfl (Nat.le_of_eq rfl) (by rw [hml]; rfl) (hb hby d823) rfl (by decide) (by decide) ?_
  rintro _ vm2 h2 C2 ⟨rfl, rfl⟩
  have z2 := C2.2.1
  refine gat1 ?_
  refine uiadd 47 ((961 : Int32) + (own_bh pf)) hx hby d818 rfl rfl ?_
  refine uSIN 48 #[vr a, vi ((961 : Int32) + (own_bh pf)), vr a, vi (3 : Int32), vi (1 : Int32), vr bo] hx hby d819 rfl rfl ?_
  refine uInc 51 #[vr a, vi ((961 : Int32) + (own_bh pf)), vr a, vi (3 : Int32), vi (2 : Int32), vr bo] hx hby d820 rfl rfl rfl ?_
  refine uG 16 hx hby d821 (by decide) (by decide) ?_
  refine uI 18 hx hby d804 rfl rfl ?_
  refine uIN 19 hx hby d805 rfl rfl ?_
  refine uNc 22 hx hby d806 rfl (tlt (by decide)).2.1 ?_
  refine uAN 23 hx hby d807 rfl rfl rfl ?_
  refine uI 25 hx hby d808 rfl rfl ?_
  refine gldR hx P0 ⟨by decide, by decide⟩ (i := 2) rfl (v := (.ref el)) rfl 26 (hb hby d809) rfl ?_
  refine uSA 28 #[vr a, vi ((961 : Int32) + (own_bh pf)), vr a, vi (3 : Int32), vi (2 : Int32), vr el] hx hby d810 rfl rfl rfl ?_
  refine uKb 30 (31 : Int32) hx hby d811 rfl rfl ?_
  refine uIN 31 hx hby d812 rfl rfl ?_
  refine uimul 32 ((31 : Int32) * ((961 : Int32) + (own_bh pf))) hx hby d813 rfl rfl ?_
  refine uA 34 hx hby d814 rfl rfl rfl ?_
  refine uY1 41 hx hby d815 (by decide) (by decide) ?_
  refine uA 43 hx hby d822 rfl rfl rfl ?_
  refine ginfo fun _ _ O3 => ?_
  refine gcallV (y := mn753) (z := mn792) hx (ow hw 158 rfl) (ow hw 159 rfl) (nfSame (y' := mn754) (ow hw 303 rfl) (ow hw 302 rfl) rfl) (ow hw 169 rfl) (ow hw 170 rfl) (by decide) (fun hZ H hEL => Pay.of_met (W := 1) (own_lhash0 l Z a0 cx [] (dz) (el) (ee) (em) (mr) (kd) (ke) vm2 h0 O3 (by first | assumption | decide | omega)) (ow hw 172 rfl) (ow hw 171 rfl) (by decide) (by decide) hZ H hEL) 46 (argsL := []) (rest := [(.int ((31 : Int32) * ((961 : Int32) + (own_bh pf))))]) Eel_1 (lenOf own_pd84 rfl) rfl rfl (Nat.le_of_eq rfl) (by rw [hml]; rfl) (hb hby d823) rfl (by decide) (by decide) ?_
  rintro _ vm3 h3 C3 ⟨rfl, K3⟩
  have z3 := C3.2.1
  refine gat1 ?_
  refine uiadd 47 (((31 : Int32) * ((961 : Int32) + (own_bh pf))) + (1 : Int32)) hx hby d818 rfl rfl ?_
  refine uSIN 48 #[vr a, vi (((31 : Int32) * ((961 : Int32) + (own_bh pf))) + (1 : Int32)), vr a, vi (3 : Int32), vi (2 : Int32), vr el] hx hby d819 rfl rfl ?_
  refine uInc 51 #[vr a, vi (((31 : Int32) * ((961 : Int32) + (own_bh pf))) + (1 : Int32)), vr a, vi (3 : Int32), vi (3 : Int32), vr el] hx hby d820 rfl rfl rfl ?_
  refine uG 16 hx hby d821 (by decide) (by decide) ?_
  refine uI 18 hx hby d804 rfl rfl ?_
  refine uIN 19 hx hby d805 rfl rfl ?_
  refine uYc 54 hx hby d806 (flt (by decide)).2.1 (by decide) (by decide) ?_
  refine uIN 55 hx hby d824 rfl rfl ?_
  exact gretI hx hret (hb hby d825) (by decide) (by decide) (fun vq Cq => ⟨rfl, ((Keep.refl h0 []).trans K3 all0)⟩)
theorem d827 : decode y10_ 0 = .ok (.aload_n 0, 1) := by decide +kernel
theorem d828 : decode y10_ 1 = .ok (.invokestatic 28, 3) := by decide +kernel
theorem own_pd829 : parseMethodDescriptor "([Ljava/lang/Object;)I" = some ⟨[(.array (.object "java/lang/Object"))], some .int⟩ := by decide +kernel
theorem d830 : decode y10_ 4 = .ok (.ireturn, 1) := by decide +kernel
abbrev mn831 : MethodName := ⟨"java/util/Objects", "hash", "([Ljava/lang/Object;)I"⟩
theorem own_oh0_0 (l : Launch) (Z : State) (a0 : Array Value) (cx : Ctx Z a0) (ws : List Jvm.Cond) (a : Addr) (ka : ClassId) (bo : Addr) (pf : Int32) (dz : Addr) (el : Addr) (ee : Addr) (em : Addr) (mr : Addr) (kd : ClassId) (ke : ClassId) (vm0 : Vm) (h0 : Heap) (X00 : Ext Z.heap h0) (P0 : Arv Z h0 a ka (.object c11_) (3 : Int32) [.null, (.ref bo), (.ref el)] .null) (P1 : Exa Z h0 bo c9_) (P2 : Fld Z h0 bo c9_ "value" "Z" (.int pf)) (hL : (OwnL Z dz el ee em mr kd ke)) :
    Met l mn831 y10_ 1 (some .int) ws ({ frames := 3, cells := 0, slots := 0, locals := 45 } : Room) Z ([] : List (String × Nat)) vm0 h0 #[(.ref a)] (fun rv vm h => rv = some (.int (((31 : Int32) * ((961 : Int32) + (own_bh pf))) + (1 : Int32))) ∧ Keep h0 h []) := by
  obtain ⟨hw, hEL, ⟨zc, Scs, hzc⟩, ⟨fm, Sfm, hfm⟩, hL0, hB0, hO0⟩ := id cx
  refine Met.of_walk (a0 := a0) #[vr a] (plainFor_of_name own_pn204) X00 hEL (fun m => by first | (simp [entryFrame, mkF, argsToLocals, Value.category]; done) | rfl) ?_
  intro p e s m below meth c vm hx hby hml hret hnm hC0 hW0
  have lt_a : h0.size > a := P0.lt
  have lt_bo : h0.size > bo := P1.lt
  obtain ⟨Sdz, Edz, Vdz, Sel, Eel, Fee, Vee, Fan, Sem, Eem, Mmr⟩ := id hL
  refine uAN 1 hx hby d827 rfl rfl rfl ?_
  refine ginfo fun _ _ O1 => ?_
  refine gcallS (y := mn826) hx (ow hw 154 rfl) (ow hw 155 rfl) (ow hw 156 rfl) (ow hw 157 rfl) (by decide) (fun hZ H hEL => Pay.of_met (W := 0) (own_ahash0_0 l Z a0 cx [] (a) (ka) (bo) (pf) (dz) (el) (ee) (em) (mr) (kd) (ke) vm h0 O1 P0 P1 P2 (by first | assumption | decide | omega)) (ow hw 157 rfl) (ow hw 156 rfl) (by decide) (by decide) hZ H hEL) 4 (argsL := [(.ref a)]) (rest := []) (lenOf own_pd829 rfl) rfl rfl (Nat.le_of_eq rfl) (by rw [hml]; rfl) (hb hby d828) rfl (by decide) (by decide) ?_
  rintro _ vm1 h1 C1 ⟨rfl, K1⟩
  have z1 := C1.2.1
  refine gat1 ?_
  exact gretI hx hret (hb hby d830) (by decide) (by decide) (fun vq Cq => ⟨rfl, ((Keep.refl h0 []).trans K1 all0)⟩)
theorem d832 : decode y61_ 0 = .ok (.iconst 3, 1) := by decide +kernel
theorem d833 : decode y61_ 1 = .ok (.anewarray 2, 3) := by decide +kernel
theorem d834 : decode y61_ 4 = .ok (.dup, 1) := by decide +kernel
theorem d835 : decode y61_ 5 = .ok (.iconst 0, 1) := by decide +kernel
theorem d836 : decode y61_ 6 = .ok (.aload_n 0, 1) := by decide +kernel
theorem d837 : decode y61_ 7 = .ok (.getfield 37, 3) := by decide +kernel
theorem d838 : decode y61_ 10 = .ok (.aastore, 1) := by decide +kernel
theorem d839 : decode y61_ 11 = .ok (.dup, 1) := by decide +kernel
theorem d840 : decode y61_ 12 = .ok (.iconst 1, 1) := by decide +kernel
theorem d841 : decode y61_ 13 = .ok (.aload_n 0, 1) := by decide +kernel
theorem d842 : decode y61_ 14 = .ok (.getfield 43, 3) := by decide +kernel
theorem d843 : decode y61_ 17 = .ok (.invokestatic 64, 3) := by decide +kernel
theorem own_pd844 : parseMethodDescriptor "(Z)Ljava/lang/Boolean;" = some ⟨[.boolean], some (.object "java/lang/Boolean")⟩ := by decide +kernel
theorem d845 : decode y61_ 20 = .ok (.aastore, 1) := by decide +kernel
theorem d846 : decode y61_ 21 = .ok (.dup, 1) := by decide +kernel
theorem d847 : decode y61_ 22 = .ok (.iconst 2, 1) := by decide +kernel
theorem d848 : decode y61_ 23 = .ok (.aload_n 0, 1) := by decide +kernel
theorem d849 : decode y61_ 24 = .ok (.getfield 51, 3) := by decide +kernel
theorem d850 : decode y61_ 27 = .ok (.aastore, 1) := by decide +kernel
theorem d851 : decode y61_ 28 = .ok (.invokestatic 70, 3) := by decide +kernel
theorem d852 : decode y61_ 31 = .ok (.ireturn, 1) := by decide +kernel
abbrev mn853 : MethodName := ⟨"com/example/headings_from_text/headingsfromtext/vocabulary/Concept", "hashCode", "()I"⟩
theorem own_chash0_0 (l : Launch) (Z : State) (a0 : Array Value) (cx : Ctx Z a0) (ws : List Jvm.Cond) (y : Addr) (pf : Int32) (dz : Addr) (el : Addr) (ee : Addr) (em : Addr) (mr : Addr) (kd : ClassId) (ke : ClassId) (vm0 : Vm) (h0 : Heap) (X00 : Ext Z.heap h0) (P0 : Fld Z h0 y c5_ "ui" c1_ .null) (P1 : Fld Z h0 y c5_ "preferred" "Z" (.int pf)) (P2 : Fld Z h0 y c5_ "terms" c3_ (.ref el)) (b_pf : (pf = 0 ∨ pf = 1)) (hL : (OwnL Z dz el ee em mr kd ke)) :
    Met l mn853 y61_ 1 (some .int) ws ({ frames := 4, cells := 1, slots := 3, locals := 57 } : Room) Z ([] : List (String × Nat)) vm0 h0 #[(.ref y)] (fun rv vm h => rv = some (.int (((31 : Int32) * ((961 : Int32) + (own_bh pf))) + (1 : Int32))) ∧ Keep h0 h []) := by
  obtain ⟨hw, hEL, ⟨zc, Scs, hzc⟩, ⟨fm, Sfm, hfm⟩, hL0, hB0, hO0⟩ := id cx
  refine Met.of_walk (a0 := a0) #[vr y] (plainFor_of_name own_pn461) X00 hEL (fun m => by first | (simp [entryFrame, mkF, argsToLocals, Value.category]; done) | rfl) ?_
  intro p e s m below meth c vm hx hby hml hret hnm hC0 hW0
  have lt_y : h0.size > y := P0.lt
  obtain ⟨Sdz, Edz, Vdz, Sel, Eel, Fee, Vee, Fan, Sem, Eem, Mmr⟩ := id hL
  refine ginfo fun _ _ OL1 => ?_
  have Eel_1 := Eel.ext OL1
  have lt_el : h0.size > el := Eel_1.lt
  refine uKc 1 (3 : Int32) hx hby d832 rfl rfl ?_
  refine gnewR hx (ow hw 141 rfl) (ow hw 142 rfl) (n := (3 : Int32)) (by decide) (cap := 3) (by decide) (by decide) (ad := c4_) (by decide) 4 (hb hby d833) rfl (by decide) (by decide) ?_
  intro b2 h2 k2 g2 E2 C2 V2 A2 O2 n2 L2
  have z2 := C2.2.1
  have V2 : Arv Z h2 b2 k2 (.object c11_) (3 : Int32) [.null, .null, .null] .null := V2.pad (pad_rep [] .null 3)
  have lt_b2 : h2.size > b2 := V2.lt
  refine uD 5 hx hby d834 rfl rfl ?_
  refine uKc 6 (0 : Int32) hx hby d835 rfl rfl ?_
  refine uAN 7 hx hby d836 rfl rfl rfl ?_
  have f3 := (P0.ext E2)
  refine ggetF (host := "") hx (Or.inl (ow hw 102 rfl)) Via.refl f3 10 (hb hby d837) rfl ?_
  refine gstR hx V2 ⟨by decide, by decide⟩ (i := 0) rfl (Nat.le_of_ble_eq_true rfl) (Or.inl rfl) rfl n2 11 (hb hby d838) rfl ?_
  intro h4 W4 C4 V4
  have z4 := C4.2.1
  replace V4 : Arv Z h4 b2 k2 (.object c11_) (3 : Int32) [.null, .null, .null] .null := V4
  refine uD 12 hx hby d839 rfl rfl ?_
  refine uKc 13 (1 : Int32) hx hby d840 rfl rfl ?_
  refine uAN 14 hx hby d841 rfl rfl rfl ?_
  have f5 := ((P1.ext E2).other W4 (Or.inl (Nat.ne_of_lt (by omega))))
  refine ggetF (host := "") hx (Or.inl (ow hw 104 rfl)) Via.refl f5 17 (hb hby d842) rfl ?_
  refine ginfo fun _ _ O6 => ?_
  refine gcallS (y := mn778) hx (ow hw 143 rfl) (ow hw 144 rfl) (ow hw 145 rfl) (ow hw 146 rfl) (by decide) (fun hZ H hEL => Pay.of_met (W := 3) (own_bval l Z a0 cx [] (pf) vm h4 O6 (by first | assumption | decide | omega)) (ow hw 146 rfl) (ow hw 145 rfl) (by decide) (by decide) hZ H hEL) 20 (argsL := [(.int pf)]) (rest := [(.int (1 : Int32)), (.ref b2), (.ref b2)]) (lenOf own_pd844 rfl) rfl rfl (Nat.le_of_eq rfl) (by rw [hml]; rfl) (hb hby d843) rfl (by decide) (by decide) ?_
  rintro _ vm6 h6 C6 ⟨r6, rfl, rfl, q6_0, q6_1⟩
  have z6 := C6.2.1
  have lt_r6 : h4.size > r6 := q6_0.lt
  refine gat1 ?_
  refine gstR hx V4 ⟨by decide, by decide⟩ (i := 1) rfl (Nat.le_of_ble_eq_true rfl) (Arv.sto V4 O2 (Ins.of_exa q6_0 (ow hw 148 rfl))) rfl n2 21 (hb hby d845) rfl ?_
  intro h7 W7 C7 V7
  have z7 := C7.2.1
  replace V7 : Arv Z h7 b2 k2 (.object c11_) (3 : Int32) [.null, (.ref r6), .null] .null := V7
  refine uD 22 hx hby d846 rfl rfl ?_
  refine uKc 23 (2 : Int32) hx hby d847 rfl rfl ?_
  refine uAN 24 hx hby d848 rfl rfl rfl ?_
  have f8 := (((P2.ext E2).other W4 (Or.inl (Nat.ne_of_lt (by omega)))).other W7 (Or.inl (Nat.ne_of_lt (by omega))))
  refine ggetF (host := "") hx (Or.inl (ow hw 134 rfl)) Via.refl f8 27 (hb hby d849) rfl ?_
  have f10 := (((Eel_1.ext E2).wr W4).wr W7)
  refine gstR hx V7 ⟨by decide, by decide⟩ (i := 2) rfl (Nat.le_of_ble_eq_true rfl) (Arv.sto V7 O2 (Ins.of_exa f10 (ow hw 149 rfl))) rfl n2 28 (hb hby d850) rfl ?_
  intro h9 W9 C9 V9
  have z9 := C9.2.1
  replace V9 : Arv Z h9 b2 k2 (.object c11_) (3 : Int32) [.null, (.ref r6), (.ref el)] .null := V9
  have f12 := ((q6_0.wr W7).wr W9)
  have f13 := (((A2.wr W4).wr W7).wr W9)
  have f14 := ((q6_1.other W7 (Or.inl (ne_exa f12 f13 (by decide)))).other W9 (Or.inl (ne_exa f12 f13 (by decide))))
  refine ginfo fun _ _ O11 => ?_
  refine gcallS (y := mn831) hx (ow hw 150 rfl) (ow hw 151 rfl) (ow hw 152 rfl) (ow hw 153 rfl) (by decide) (fun hZ H hEL => Pay.of_met (W := 0) (own_oh0_0 l Z a0 cx [] (b2) (k2) (r6) (pf) (dz) (el) (ee) (em) (mr) (kd) (ke) vm6 h9 O11 V9 f12 f14 (by first | assumption | decide | omega)) (ow hw 153 rfl) (ow hw 152 rfl) (by decide) (by decide) hZ H hEL) 31 (argsL := [(.ref b2)]) (rest := []) (lenOf own_pd829 rfl) rfl rfl (Nat.le_of_eq rfl) (by rw [hml]; rfl) (hb hby d851) rfl (by decide) (by decide) ?_
  rintro _ vm11 h11 C11 ⟨rfl, K11⟩
  have z11 := C11.2.1
  refine gat1 ?_
  exact gretI hx hret (hb hby d852) (by decide) (by decide) (fun vq Cq => ⟨rfl, ((((((Keep.refl h0 []).ext E2).wr W4 (Or.inr (by omega))).wr W7 (Or.inr (by omega))).wr W9 (Or.inr (by omega))).trans K11 all0)⟩)
theorem own_ahash1_0 (l : Launch) (Z : State) (a0 : Array Value) (cx : Ctx Z a0) (ws : List Jvm.Cond) (a : Addr) (ka : ClassId) (bo : Addr) (pf : Int32) (ui : Addr) (tu : Addr) (bu : Int32) (xu : Int32) (dz : Addr) (el : Addr) (ee : Addr) (em : Addr) (mr : Addr) (kd : ClassId) (ke : ClassId) (vm0 : Vm) (h0 : Heap) (X00 : Ext Z.heap h0) (P0 : Arv Z h0 a ka (.object c11_) (3 : Int32) [(.ref ui), (.ref bo), (.ref el)] .null) (P1 : Exa Z h0 bo c9_) (P2 : Fld Z h0 bo c9_ "value" "Z" (.int pf)) (P3 : Str Z h0 ui tu ((own_fst xu) :: (own_tl bu xu))) (P4 : Fld Z h0 ui c12_ "hash" "I" (.int (0 : Int32))) (P5 : Fld Z h0 ui c12_ c8_ "Z" (.int (0 : Int32))) (P6 : Z.heap.size ≤ ui) (P7 : Safe Z ([] : List (String × Nat)) vm0 h0 ui) (P8 : Exa Z h0 tu "[B") (hL : (OwnL Z dz el ee em mr kd ke)) :
    Met l mn826 y55_ 6 (some .int) ws ({ frames := 4, cells := 0, slots := 0, locals := 59 } : Room) Z ([] : List (String × Nat)) vm0 h0 #[(.ref a)] (fun rv vm h => rv = some (.int (((31 : Int32) * (((31 : Int32) * ((31 : Int32) + (own_h bu xu))) + (own_bh pf))) + (1 : Int32))) ∧ Keep h0 h [ui]) := by
  obtain ⟨hw, hEL, ⟨zc, Scs, hzc⟩, ⟨fm, Sfm, hfm⟩, hL0, hB0, hO0⟩ := id cx
  refine Met.of_walk (a0 := a0) #[vr a, un, un, un, un, un] (plainFor_of_name own_pn266) X00 hEL (fun m => by first | (simp [entryFrame, mkF, argsToLocals, Value.category]; done) | rfl) ?_
  intro p e s m below meth c vm hx hby hml hret hnm hC0 hW0
  have lt_a : h0.size > a := P0.lt
  have lt_bo : h0.size > bo := P1.lt
  have lt_ui : h0.size > ui := P3.1.lt
  have lt_tu : h0.size > tu := P3.tlt
  have L7 := hC0.safe lt_ui P7
  obtain ⟨Sdz, Edz, Vdz, Sel, Eel, Fee, Vee, Fan, Sem, Eem, Mmr⟩ := id hL
  refine ginfo fun _ _ OL1 => ?_
  have Eel_1 := Eel.ext OL1
  have lt_el : h0.size > el := Eel_1.lt
  refine uAN 1 hx hby d793 rfl rfl rfl ?_
  refine uY1 6 hx hby d794 (by decide) (by decide) ?_
  refine uKc 7 (1 : Int32) hx hby d795 rfl rfl ?_
  refine uSIN 8 #[vr a, vi (1 : Int32), un, un, un, un] hx hby d796 rfl rfl ?_
  refine uAN 9 hx hby d797 rfl rfl rfl ?_
  refine uSAN 10 #[vr a, vi (1 : Int32), vr a, un, un, un] hx hby d798 rfl rfl rfl ?_
  refine uAN 11 hx hby d799 rfl rfl rfl ?_
  refine glen hx P0 12 (hb hby d800) rfl ?_
  refine uSIN 13 #[vr a, vi (1 : Int32), vr a, vi (3 : Int32), un, un] hx hby d801 rfl rfl ?_
  refine uKc 14 (0 : Int32) hx hby d802 rfl rfl ?_
  refine uSI 16 #[vr a, vi (1 : Int32), vr a, vi (3 : Int32), vi (0 : Int32), un] hx hby d803 rfl rfl ?_
  refine uI 18 hx hby d804 rfl rfl ?_
  refine uIN 19 hx hby d805 rfl rfl ?_
  refine uNc 22 hx hby d806 rfl (tlt (by decide)).2.1 ?_
  refine uAN 23 hx hby d807 rfl rfl rfl ?_
  refine uI 25 hx hby d808 rfl rfl ?_
  refine gldR hx P0 ⟨by decide, by decide⟩ (i := 0) rfl (v := (.ref ui)) rfl 26 (hb hby d809) rfl ?_
  refine uSA 28 #[vr a, vi (1 : Int32), vr a, vi (3 : Int32), vi (0 : Int32), vr ui] hx hby d810 rfl rfl rfl ?_
  refine uKb 30 (31 : Int32) hx hby d811 rfl rfl ?_
  refine uIN 31 hx hby d812 rfl rfl ?_
  refine uimul 32 (31 : Int32) hx hby d813 rfl (by decide) ?_
  refine uA 34 hx hby d814 rfl rfl rfl ?_
  refine uY1 41 hx hby d815 (by decide) (by decide) ?_
  refine uA 43 hx hby d822 rfl rfl rfl ?_
  refine ginfo fun _ _ O2 => ?_
  refine gcallV (y := mn753) (z := mn748) hx (ow hw 158 rfl) (ow hw 159 rfl) (nfSame (y' := mn754) (ow hw 303 rfl) (ow hw 302 rfl) rfl) (ow hw 350 rfl) (ow hw 351 rfl) (by decide) (fun hZ H hEL => Pay.of_met (W := 1) (own_shash l Z a0 cx [] (ui) (tu) (bu) (xu) vm h0 O2 P3 P4 P5 P6 L7 P8) (ow hw 352 rfl) (ow hw 9 rfl) (by decide) (by decide) hZ H hEL) 46 (argsL := []) (rest := [(.int (31 : Int32))]) P3.1 (lenOf own_pd84 rfl) rfl rfl (Nat.le_of_eq rfl) (by rw [hml]; rfl) (hb hby d823) rfl (by decide) (by decide) ?_
  rintro _ vm2 h2 C2 ⟨rfl, K2⟩
  have z2 := C2.2.1
  refine gat1 ?_
  refine uiadd 47 ((31 : Int32) + (own_h bu xu)) hx hby d818 rfl rfl ?_
  refine uSIN 48 #[vr a, vi ((31 : Int32) + (own_h bu xu)), vr a, vi (3 : Int32), vi (0 : Int32), vr ui] hx hby d819 rfl rfl ?_
  refine uInc 51 #[vr a, vi ((31 : Int32) + (own_h bu xu)), vr a, vi (3 : Int32), vi (1 : Int32), vr ui] hx hby d820 rfl rfl rfl ?_
  refine uG 16 hx hby d821 (by decide) (by decide) ?_
  refine uI 18 hx hby d804 rfl rfl ?_
  refine uIN 19 hx hby d805 rfl rfl ?_
  refine uNc 22 hx hby d806 rfl (tlt (by decide)).2.1 ?_
  refine uAN 23 hx hby d807 rfl rfl rfl ?_
  refine uI 25 hx hby d808 rfl rfl ?_
  have f3 := (P0.keep K2 (ninS (Ne.symm (Exa.neArv P3.1 P0 (ow hw 17 rfl))) nin0))
  refine gldR hx f3 ⟨by decide, by decide⟩ (i := 1) rfl (v := (.ref bo)) rfl 26 (hb hby d809) rfl ?_
  refine uSA 28 #[vr a, vi ((31 : Int32) + (own_h bu xu)), vr a, vi (3 : Int32), vi (1 : Int32), vr bo] hx hby d810 rfl rfl rfl ?_
  refine uKb 30 (31 : Int32) hx hby d811 rfl rfl ?_
  refine uIN 31 hx hby d812 rfl rfl ?_
  refine uimul 32 ((31 : Int32) * ((31 : Int32) + (own_h bu xu))) hx hby d813 rfl rfl ?_
  refine uA 34 hx hby d814 rfl rfl rfl ?_
  refine uY1 41 hx hby d815 (by decide) (by decide) ?_
  refine uA 43 hx hby d822 rfl rfl rfl ?_
  have f5 := (P1.keep K2)
  have f6 := (P2.keep K2 (ninS (ne_exa f5 (P3.1.keep K2) (by decide)) nin0))
  refine ginfo fun _ _ O4 => ?_
  refine gcallV (y := mn753) (z := mn771) hx (ow hw 158 rfl) (ow hw 159 rfl) (nfSame (y' := mn754) (ow hw 303 rfl) (ow hw 302 rfl) rfl) (ow hw 161 rfl) (ow hw 162 rfl) (by decide) (fun hZ H hEL => Pay.of_met (W := 1) (own_bho l Z a0 cx [] (bo) (pf) vm2 h2 O4 f5 f6) (ow hw 163 rfl) (ow hw 145 rfl) (by decide) (by decide) hZ H hEL) 46 (argsL := []) (rest := [(.int ((31 : Int32) * ((31 : Int32) + (own_h bu xu))))]) f5 (lenOf own_pd84 rfl) rfl rfl (Nat.le_of_eq rfl) (by rw [hml]; rfl) (hb hby d823) rfl (by decide) (by decide) ?_
  rintro _ vm4 h4 C4 ⟨rfl, rfl⟩
  have z4 := C4.2.1
  refine gat1 ?_
  refine uiadd 47 (((31 : Int32) * ((31 : Int32) + (own_h bu xu))) + (own_bh pf)) hx hby d818 rfl rfl ?_
  refine uSIN 48 #[vr a, vi (((31 : Int32) * ((31 : Int32) + (own_h bu xu))) + (own_bh pf)), vr a, vi (3 : Int32), vi (1 : Int32), vr bo] hx hby d819 rfl rfl ?_
  refine uInc 51 #[vr a, vi (((31 : Int32) * ((31 : Int32) + (own_h bu xu))) + (own_bh pf)), vr a, vi (3 : Int32), vi (2 : Int32), vr bo] hx hby d820 rfl rfl rfl ?_
  refine uG 16 hx hby d821 (by decide) (by decide) ?_
  refine uI 18 hx hby d804 rfl rfl ?_
  refine uIN 19 hx hby d805 rfl rfl ?_
  refine uNc 22 hx hby d806 rfl (tlt (by decide)).2.1 ?_
  refine uAN 23 hx hby d807 rfl rfl rfl ?_
  refine uI 25 hx hby d808 rfl rfl ?_
  refine gldR hx f3 ⟨by decide, by decide⟩ (i := 2) rfl (v := (.ref el)) rfl 26 (hb hby d809) rfl ?_
  refine uSA 28 #[vr a, vi (((31 : Int32) * ((31 : Int32) + (own_h bu xu))) + (own_bh pf)), vr a, vi (3 : Int32), vi (2 : Int32), vr el] hx hby d810 rfl rfl rfl ?_
  refine uKb 30 (31 : Int32) hx hby d811 rfl rfl ?_
  refine uIN 31 hx hby d812 rfl rfl ?_
  refine uimul 32 ((31 : Int32) * (((31 : Int32) * ((31 : Int32) + (own_h bu xu))) + (own_bh pf))) hx hby d813 rfl rfl ?_
  refine uA 34 hx hby d814 rfl rfl rfl ?_
  refine uY1 41 hx hby d815 (by decide) (by decide) ?_
  refine uA 43 hx hby d822 rfl rfl rfl ?_
  refine ginfo fun _ _ O7 => ?_
  have f8 := (Eel_1.keep K2)
  refine gcallV (y := mn753) (z := mn792) hx (ow hw 158 rfl) (ow hw 159 rfl) (nfSame (y' := mn754) (ow hw 303 rfl) (ow hw 302 rfl) rfl) (ow hw 169 rfl) (ow hw 170 rfl) (by decide) (fun hZ H hEL => Pay.of_met (W := 1) (own_lhash0 l Z a0 cx [] (dz) (el) (ee) (em) (mr) (kd) (ke) vm4 h2 O7 (by first | assumption | decide | omega)) (ow hw 172 rfl) (ow hw 171 rfl) (by decide) (by decide) hZ H hEL) 46 (argsL := []) (rest := [(.int ((31 : Int32) * (((31 : Int32) * ((31 : Int32) + (own_h bu xu))) + (own_bh pf))))]) f8 (lenOf own_pd84 rfl) rfl rfl (Nat.le_of_eq rfl) (by rw [hml]; rfl) (hb hby d823) rfl (by decide) (by decide) ?_
  rintro _ vm7 h7 C7 ⟨rfl, K7⟩
  have z7 := C7.2.1
  refine gat1 ?_
  refine uiadd 47 (((31 : Int32) * (((31 : Int32) * ((31 : Int32) + (own_h bu xu))) + (own_bh pf))) + (1 : Int32)) hx hby d818 rfl rfl ?_
  refine uSIN 48 #[vr a, vi (((31 : Int32) * (((31 : Int32) * ((31 : Int32) + (own_h bu xu))) + (own_bh pf))) + (1 : Int32)), vr a, vi (3 : Int32), vi (2 : Int32), vr el] hx hby d819 rfl rfl ?_
  refine uInc 51 #[vr a, vi (((31 : Int32) * (((31 : Int32) * ((31 : Int32) + (own_h bu xu))) + (own_bh pf))) + (1 : Int32)), vr a, vi (3 : Int32), vi (3 : Int32), vr el] hx hby d820 rfl rfl rfl ?_
  refine uG 16 hx hby d821 (by decide) (by decide) ?_
  refine uI 18 hx hby d804 rfl rfl ?_
  refine uIN 19 hx hby d805 rfl rfl ?_
  refine uYc 54 hx hby d806 (flt (by decide)).2.1 (by decide) (by decide) ?_
  refine uIN 55 hx hby d824 rfl rfl ?_
  exact gretI hx hret (hb hby d825) (by decide) (by decide) (fun vq Cq => ⟨rfl, (((Keep.refl h0 [ui]).trans K2 (allS (Or.inl (List.mem_of_getElem? (i := 0) rfl)) all0)).trans K7 all0)⟩)
theorem own_oh1_0 (l : Launch) (Z : State) (a0 : Array Value) (cx : Ctx Z a0) (ws : List Jvm.Cond) (a : Addr) (ka : ClassId) (bo : Addr) (pf : Int32) (ui : Addr) (tu : Addr) (bu : Int32) (xu : Int32) (dz : Addr) (el : Addr) (ee : Addr) (em : Addr) (mr : Addr) (kd : ClassId) (ke : ClassId) (vm0 : Vm) (h0 : Heap) (X00 : Ext Z.heap h0) (P0 : Arv Z h0 a ka (.object c11_) (3 : Int32) [(.ref ui), (.ref bo), (.ref el)] .null) (P1 : Exa Z h0 bo c9_) (P2 : Fld Z h0 bo c9_ "value" "Z" (.int pf)) (P3 : Str Z h0 ui tu ((own_fst xu) :: (own_tl bu xu))) (P4 : Fld Z h0 ui c12_ "hash" "I" (.int (0 : Int32))) (P5 : Fld Z h0 ui c12_ c8_ "Z" (.int (0 : Int32))) (P6 : Z.heap.size ≤ ui) (P7 : Safe Z ([] : List (String × Nat)) vm0 h0 ui) (P8 : Exa Z h0 tu "[B") (hL : (OwnL Z dz el ee em mr kd ke)) :
    Met l mn831 y10_ 1 (some .int) ws ({ frames := 5, cells := 0, slots := 0, locals := 76 } : Room) Z ([] : List (String × Nat)) vm0 h0 #[(.ref a)] (fun rv vm h => rv = some (.int (((31 : Int32) * (((31 : Int32) * ((31 : Int32) + (own_h bu xu))) + (own_bh pf))) + (1 : Int32))) ∧ Keep h0 h [ui]) := by
  obtain ⟨hw, hEL, ⟨zc, Scs, hzc⟩, ⟨fm, Sfm, hfm⟩, hL0, hB0, hO0⟩ := id cx
  refine Met.of_walk (a0 := a0) #[vr a] (plainFor_of_name own_pn204) X00 hEL (fun m => by first | (simp [entryFrame, mkF, argsToLocals, Value.category]; done) | rfl) ?_
  intro p e s m below meth c vm hx hby hml hret hnm hC0 hW0
  have lt_a : h0.size > a := P0.lt
  have lt_bo : h0.size > bo := P1.lt
  have lt_ui : h0.size > ui := P3.1.lt
  have lt_tu : h0.size > tu := P3.tlt
  have L7 := hC0.safe lt_ui P7
  obtain ⟨Sdz, Edz, Vdz, Sel, Eel, Fee, Vee, Fan, Sem, Eem, Mmr⟩ := id hL
  refine uAN 1 hx hby d827 rfl rfl rfl ?_
  refine ginfo fun _ _ O1 => ?_
  refine gcallS (y := mn826) hx (ow hw 154 rfl) (ow hw 155 rfl) (ow hw 156 rfl) (ow hw 157 rfl) (by decide) (fun hZ H hEL => Pay.of_met (W := 0) (own_ahash1_0 l Z a0 cx [] (a) (ka) (bo) (pf) (ui) (tu) (bu) (xu) (dz) (el) (ee) (em) (mr) (kd) (ke) vm h0 O1 P0 P1 P2 P3 P4 P5 P6 L7 P8 (by first | assumption | decide | omega)) (ow hw 157 rfl) (ow hw 156 rfl) (by decide) (by decide) hZ H hEL) 4 (argsL := [(.ref a)]) (rest := []) (lenOf own_pd829 rfl) rfl rfl (Nat.le_of_eq rfl) (by rw [hml]; rfl) (hb hby d828) rfl (by decide) (by decide) ?_
  rintro _ vm1 h1 C1 ⟨rfl, K1⟩
  have z1 := C1.2.1
  refine gat1 ?_
  exact gretI hx hret (hb hby d830) (by decide) (by decide) (fun vq Cq => ⟨rfl, ((Keep.refl h0 [ui]).trans K1 (allS (Or.inl (List.mem_of_getElem? (i := 0) rfl)) all0))⟩)
theorem own_chash1_0 (l : Launch) (Z : State) (a0 : Array Value) (cx : Ctx Z a0) (ws : List Jvm.Cond) (y : Addr) (pf : Int32) (ui : Addr) (tu : Addr) (bu : Int32) (xu : Int32) (dz : Addr) (el : Addr) (ee : Addr) (em : Addr) (mr : Addr) (kd : ClassId) (ke : ClassId) (vm0 : Vm) (h0 : Heap) (X00 : Ext Z.heap h0) (P0 : Fld Z h0 y c5_ "ui" c1_ (.ref ui)) (P1 : Fld Z h0 y c5_ "preferred" "Z" (.int pf)) (P2 : Fld Z h0 y c5_ "terms" c3_ (.ref el)) (b_pf : (pf = 0 ∨ pf = 1)) (P4 : Str Z h0 ui tu ((own_fst xu) :: (own_tl bu xu))) (P5 : Fld Z h0 ui c12_ "hash" "I" (.int (0 : Int32))) (P6 : Fld Z h0 ui c12_ c8_ "Z" (.int (0 : Int32))) (P7 : Z.heap.size ≤ ui) (P8 : Safe Z ([] : List (String × Nat)) vm0 h0 ui) (P9 : Exa Z h0 tu "[B") (hL : (OwnL Z dz el ee em mr kd ke)) :
    Met l mn853 y61_ 1 (some .int) ws ({ frames := 6, cells := 1, slots := 3, locals := 88 } : Room) Z ([] : List (String × Nat)) vm0 h0 #[(.ref y)] (fun rv vm h => rv = some (.int (((31 : Int32) * (((31 : Int32) * ((31 : Int32) + (own_h bu xu))) + (own_bh pf))) + (1 : Int32))) ∧ Keep h0 h [ui]) := by
  obtain ⟨hw, hEL, ⟨zc, Scs, hzc⟩, ⟨fm, Sfm, hfm⟩, hL0, hB0, hO0⟩ := id cx
  refine Met.of_walk (a0 := a0) #[vr y] (plainFor_of_name own_pn461) X00 hEL (fun m => by first | (simp [entryFrame, mkF, argsToLocals, Value.category]; done) | rfl) ?_
  intro p e s m below meth c vm hx hby hml hret hnm hC0 hW0
  have lt_y : h0.size > y := P0.lt
  have lt_ui : h0.size > ui := P4.1.lt
  have lt_tu : h0.size > tu := P4.tlt
  have L8 := hC0.safe lt_ui P8
  obtain ⟨Sdz, Edz, Vdz, Sel, Eel, Fee, Vee, Fan, Sem, Eem, Mmr⟩ := id hL
  refine ginfo fun _ _ OL1 => ?_
  have Eel_1 := Eel.ext OL1
  have lt_el : h0.size > el := Eel_1.lt
  refine uKc 1 (3 : Int32) hx hby d832 rfl rfl ?_
  refine gnewR hx (ow hw 141 rfl) (ow hw 142 rfl) (n := (3 : Int32)) (by decide) (cap := 3) (by decide) (by decide) (ad := c4_) (by decide) 4 (hb hby d833) rfl (by decide) (by decide) ?_
  intro b2 h2 k2 g2 E2 C2 V2 A2 O2 n2 L2
  have z2 := C2.2.1
  have V2 : Arv Z h2 b2 k2 (.object c11_) (3 : Int32) [.null, .null, .null] .null := V2.pad (pad_rep [] .null 3)
  have lt_b2 : h2.size > b2 := V2.lt
  refine uD 5 hx hby d834 rfl rfl ?_
  refine uKc 6 (0 : Int32) hx hby d835 rfl rfl ?_
  refine uAN 7 hx hby d836 rfl rfl rfl ?_
  have f3 := (P0.ext E2)
  refine ggetF (host := "") hx (Or.inl (ow hw 102 rfl)) Via.refl f3 10 (hb hby d837) rfl ?_
  refine gstR hx V2 ⟨by decide, by decide⟩ (i := 0) rfl (Nat.le_of_ble_eq_true rfl) (Arv.sto V2 O2 (Ins.of_exa (P4.1.ext E2) (ow hw 229 rfl))) rfl n2 11 (hb hby d838) rfl ?_
  intro h4 W4 C4 V4
  have z4 := C4.2.1
  replace V4 : Arv Z h4 b2 k2 (.object c11_) (3 : Int32) [(.ref ui), .null, .null] .null := V4
  refine uD 12 hx hby d839 rfl rfl ?_
  refine uKc 13 (1 : Int32) hx hby d840 rfl rfl ?_
  refine uAN 14 hx hby d841 rfl rfl rfl ?_
  have f5 := ((P1.ext E2).other W4 (Or.inl (Nat.ne_of_lt (by omega))))
  refine ggetF (host := "") hx (Or.inl (ow hw 104 rfl)) Via.refl f5 17 (hb hby d842) rfl ?_
  refine ginfo fun _ _ O6 => ?_
  refine gcallS (y := mn778) hx (ow hw 143 rfl) (ow hw 144 rfl) (ow hw 145 rfl) (ow hw 146 rfl) (by decide) (fun hZ H hEL => Pay.of_met (W := 3) (own_bval l Z a0 cx [] (pf) vm h4 O6 (by first | assumption | decide | omega)) (ow hw 146 rfl) (ow hw 145 rfl) (by decide) (by decide) hZ H hEL) 20 (argsL := [(.int pf)]) (rest := [(.int (1 : Int32)), (.ref b2), (.ref b2)]) (lenOf own_pd844 rfl) rfl rfl (Nat.le_of_eq rfl) (by rw [hml]; rfl) (hb hby d843) rfl (by decide) (by decide) ?_
  rintro _ vm6 h6 C6 ⟨r6, rfl, rfl, q6_0, q6_1⟩
  have z6 := C6.2.1
  have lt_r6 : h4.size > r6 := q6_0.lt
  refine gat1 ?_
  refine gstR hx V4 ⟨by decide, by decide⟩ (i := 1) rfl (Nat.le_of_ble_eq_true rfl) (Arv.sto V4 O2 (Ins.of_exa q6_0 (ow hw 148 rfl))) rfl n2 21 (hb hby d845) rfl ?_
  intro h7 W7 C7 V7
  have z7 := C7.2.1
  replace V7 : Arv Z h7 b2 k2 (.object c11_) (3 : Int32) [(.ref ui), (.ref r6), .null] .null := V7
  refine uD 22 hx hby d846 rfl rfl ?_
  refine uKc 23 (2 : Int32) hx hby d847 rfl rfl ?_
  refine uAN 24 hx hby d848 rfl rfl rfl ?_
  have f8 := (((P2.ext E2).other W4 (Or.inl (Nat.ne_of_lt (by omega)))).other W7 (Or.inl (Nat.ne_of_lt (by omega))))
  refine ggetF (host := "") hx (Or.inl (ow hw 134 rfl)) Via.refl f8 27 (hb hby d849) rfl ?_
  have f10 := (((Eel_1.ext E2).wr W4).wr W7)
  refine gstR hx V7 ⟨by decide, by decide⟩ (i := 2) rfl (Nat.le_of_ble_eq_true rfl) (Arv.sto V7 O2 (Ins.of_exa f10 (ow hw 149 rfl))) rfl n2 28 (hb hby d850) rfl ?_
  intro h9 W9 C9 V9
  have z9 := C9.2.1
  replace V9 : Arv Z h9 b2 k2 (.object c11_) (3 : Int32) [(.ref ui), (.ref r6), (.ref el)] .null := V9
  have f12 := ((q6_0.wr W7).wr W9)
  have f13 := (((A2.wr W4).wr W7).wr W9)
  have f14 := ((q6_1.other W7 (Or.inl (ne_exa f12 f13 (by decide)))).other W9 (Or.inl (ne_exa f12 f13 (by decide))))
  have f15 := ((((P4.ext E2).other W4 (Nat.ne_of_lt (by omega)) (Nat.ne_of_lt (by omega))).other W7 (Nat.ne_of_lt (by omega)) (Nat.ne_of_lt (by omega))).other W9 (Nat.ne_of_lt (by omega)) (Nat.ne_of_lt (by omega)))
  have f16 := ((((P5.ext E2).other W4 (Or.inl (Nat.ne_of_lt (by omega)))).other W7 (Or.inl (Nat.ne_of_lt (by omega)))).other W9 (Or.inl (Nat.ne_of_lt (by omega))))
  have f17 := ((((P6.ext E2).other W4 (Or.inl (Nat.ne_of_lt (by omega)))).other W7 (Or.inl (Nat.ne_of_lt (by omega)))).other W9 (Or.inl (Nat.ne_of_lt (by omega))))
  have f18 := (C9.safe (show h7.size > ui by omega) (C7.safe (show h4.size > ui by omega) (C6.safe (show h4.size > ui by omega) (C4.safe (show h2.size > ui by omega) (C2.safe (show h0.size > ui by omega) L8)))))
  have f19 := ((((P9.ext E2).wr W4).wr W7).wr W9)
  refine ginfo fun _ _ O11 => ?_
  refine gcallS (y := mn831) hx (ow hw 150 rfl) (ow hw 151 rfl) (ow hw 152 rfl) (ow hw 153 rfl) (by decide) (fun hZ H hEL => Pay.of_met (W := 0) (own_oh1_0 l Z a0 cx [] (b2) (k2) (r6) (pf) (ui) (tu) (bu) (xu) (dz) (el) (ee) (em) (mr) (kd) (ke) vm6 h9 O11 V9 f12 f14 f15 f16 f17 P7 f18 f19 (by first | assumption | decide | omega)) (ow hw 153 rfl) (ow hw 152 rfl) (by decide) (by decide) hZ H hEL) 31 (argsL := [(.ref b2)]) (rest := []) (lenOf own_pd829 rfl) rfl rfl (Nat.le_of_eq rfl) (by rw [hml]; rfl) (hb hby d851) rfl (by decide) (by decide) ?_
  rintro _ vm11 h11 C11 ⟨rfl, K11⟩
  have z11 := C11.2.1
  refine gat1 ?_
  exact gretI hx hret (hb hby d852) (by decide) (by decide) (fun vq Cq => ⟨rfl, ((((((Keep.refl h0 [ui]).ext E2).wr W4 (Or.inr (by omega))).wr W7 (Or.inr (by omega))).wr W9 (Or.inr (by omega))).trans K11 (allS (Or.inl (List.mem_of_getElem? (i := 0) rfl)) all0))⟩)
theorem d854 : decode y40_ 14 = .ok (.bipush 31, 2) := by decide +kernel
theorem d855 : decode y40_ 16 = .ok (.iload_n 1, 1) := by decide +kernel
theorem d856 : decode y40_ 17 = .ok (.imul, 1) := by decide +kernel
theorem d857 : decode y40_ 18 = .ok (.aload_n 0, 1) := by decide +kernel
theorem d858 : decode y40_ 19 = .ok (.iload_n 2, 1) := by decide +kernel
theorem d859 : decode y40_ 20 = .ok (.invokevirtual 89, 3) := by decide +kernel
theorem own_pd860 : parseMethodDescriptor "(I)Ljava/lang/Object;" = some ⟨[.int], some (.object "java/lang/Object")⟩ := by decide +kernel
abbrev mn861 : MethodName := ⟨"java/util/ImmutableCollections$AbstractImmutableList", "get", "(I)Ljava/lang/Object;"⟩
theorem d862 : decode y40_ 23 = .ok (.invokestatic 103, 3) := by decide +kernel
theorem own_pd863 : parseMethodDescriptor "(Ljava/lang/Object;)I" = some ⟨[(.object "java/lang/Object")], some .int⟩ := by decide +kernel
theorem d864 : decode y40_ 26 = .ok (.iadd, 1) := by decide +kernel
theorem d865 : decode y40_ 27 = .ok (.istore_n 1, 1) := by decide +kernel
theorem d866 : decode y40_ 28 = .ok (.iinc 2 1, 3) := by decide +kernel
theorem d867 : decode y40_ 31 = .ok (.goto (-22), 3) := by decide +kernel
theorem own_lhash1 (l : Launch) (Z : State) (a0 : Array Value) (cx : Ctx Z a0) (ws : List Jvm.Cond) (r : Addr) (s0_ : Addr) (t0_ : Addr) (b0_ : Int32) (x0_ : Int32) (dz : Addr) (el : Addr) (ee : Addr) (em : Addr) (mr : Addr) (kd : ClassId) (ke : ClassId) (vm0 : Vm) (h0 : Heap) (X00 : Ext Z.heap h0) (P0 : Exa Z h0 r c17_) (P1 : Fld Z h0 r c17_ "e0" c0_ (.ref s0_)) (P2 : Fld Z h0 r c17_ "e1" c0_ (.ref em)) (P3 : Str Z h0 s0_ t0_ ((own_fst x0_) :: (own_tl b0_ x0_))) (P4 : Fld Z h0 s0_ c12_ "hash" "I" (.int (0 : Int32))) (P5 : Fld Z h0 s0_ c12_ c8_ "Z" (.int (0 : Int32))) (P6 : Z.heap.size ≤ s0_) (P7 : Safe Z ([] : List (String × Nat)) vm0 h0 s0_) (P8 : Exa Z h0 t0_ "[B") (hL : (OwnL Z dz el ee em mr kd ke)) :
    Met l mn792 y40_ 4 (some .int) ws ({ frames := 5, cells := 0, slots := 0, locals := 71 } : Room) Z ([] : List (String × Nat)) vm0 h0 #[(.ref r)] (fun rv vm h => rv = some (.int ((31 : Int32) + (own_h b0_ x0_))) ∧ Keep h0 h [s0_]) := by
  obtain ⟨hw, hEL, ⟨zc, Scs, hzc⟩, ⟨fm, Sfm, hfm⟩, hL0, hB0, hO0⟩ := id cx
  refine Met.of_walk (a0 := a0) #[vr r, un, un, un] (plainFor_of_name own_pn214) X00 hEL (fun m => by first | (simp [entryFrame, mkF, argsToLocals, Value.category]; done) | rfl) ?_
  intro p e s m below meth c vm hx hby hml hret hnm hC0 hW0
  have lt_r : h0.size > r := P0.lt
  have lt_s0_ : h0.size > s0_ := P3.1.lt
  have lt_t0_ : h0.size > t0_ := P3.tlt
  have L7 := hC0.safe lt_s0_ P7
  obtain ⟨Sdz, Edz, Vdz, Sel, Eel, Fee, Vee, Fan, Sem, Eem, Mmr⟩ := id hL
  refine uKc 1 (1 : Int32) hx hby d779 rfl rfl ?_
  refine uSIN 2 #[vr r, vi (1 : Int32), un, un] hx hby d780 rfl rfl ?_
  refine uKc 3 (0 : Int32) hx hby d781 rfl rfl ?_
  refine uSIN 4 #[vr r, vi (1 : Int32), vi (0 : Int32), un] hx hby d782 rfl rfl ?_
  refine uAN 5 hx hby d783 rfl rfl rfl ?_
  refine ginfo fun _ _ O1 => ?_
  refine gcallVU (y := mn785) (z := mn344) (owner := "java/util/AbstractCollection") hx (ow hw 173 rfl) (ow hw 174 rfl) (ow hw 175 rfl) (ow hw 370 rfl) (ow hw 371 rfl) (by decide) (fun hZ H hEL => Pay.of_met (W := 0) (own_lsize1 l Z a0 cx [] (r) (s0_) (dz) (el) (ee) (em) (mr) (kd) (ke) vm h0 O1 P0 P1 P2 P3.1 (by first | assumption | decide | omega)) (ow hw 372 rfl) (ow hw 323 rfl) (by decide) (by decide) hZ H hEL) 8 (argsL := []) (rest := []) P0 (lenOf own_pd84 rfl) rfl rfl (Nat.le_of_eq rfl) (by rw [hml]; rfl) (hb hby d784) rfl (by decide) (by decide) ?_
  rintro _ vm1 h1 C1 ⟨rfl, rfl⟩
  have z1 := C1.2.1
  refine gat1 ?_
  refine uSIN 9 #[vr r, vi (1 : Int32), vi (0 : Int32), vi (1 : Int32)] hx hby d786 rfl rfl ?_
  refine uIN 10 hx hby d787 rfl rfl ?_
  refine uIN 11 hx hby d788 rfl rfl ?_
  refine uNc 14 hx hby d789 rfl (tlt (by decide)).2.1 ?_
  refine uKb 16 (31 : Int32) hx hby d854 rfl rfl ?_
  refine uIN 17 hx hby d855 rfl rfl ?_
  refine uimul 18 (31 : Int32) hx hby d856 rfl (by decide) ?_
  refine uAN 19 hx hby d857 rfl rfl rfl ?_
  refine uIN 20 hx hby d858 rfl rfl ?_
  refine ginfo fun _ _ O2 => ?_
  refine gcallVU (y := mn861) (z := mn350) (owner := c19_) hx (ow hw 373 rfl) (ow hw 374 rfl) (ow hw 375 rfl) (ow hw 376 rfl) (ow hw 377 rfl) (by decide) (fun hZ H hEL => Pay.of_met (W := 1) (own_lget1_0 l Z a0 cx [] (r) (s0_) (dz) (el) (ee) (em) (mr) (kd) (ke) vm1 h0 O2 P0 P1 P2 P3.1 (by first | assumption | decide | omega)) (ow hw 378 rfl) (ow hw 323 rfl) (by decide) (by decide) hZ H hEL) 23 (argsL := [(.int (0 : Int32))]) (rest := [(.int (31 : Int32))]) P0 (lenOf own_pd860 rfl) rfl rfl (Nat.le_of_eq rfl) (by rw [hml]; rfl) (hb hby d859) rfl (by decide) (by decide) ?_
  rintro _ vm2 h2 C2 ⟨rfl, rfl⟩
  have z2 := C2.2.1
  refine gat1 ?_
  have f4 := (C2.safe (show h0.size > s0_ by omega) (C1.safe (show h0.size > s0_ by omega) L7))
  refine ginfo fun _ _ O3 => ?_
  refine gcallS (y := mn757) hx (ow hw 379 rfl) (ow hw 380 rfl) (ow hw 152 rfl) (ow hw 381 rfl) (by decide) (fun hZ H hEL => Pay.of_met (W := 1) (own_ohash l Z a0 cx [] (s0_) (t0_) (b0_) (x0_) vm2 h0 O3 P3 P4 P5 P6 f4 P8) (ow hw 381 rfl) (ow hw 152 rfl) (by decide) (by decide) hZ H hEL) 26 (argsL := [(.ref s0_)]) (rest := [(.int (31 : Int32))]) (lenOf own_pd863 rfl) rfl rfl (Nat.le_of_eq rfl) (by rw [hml]; rfl) (hb hby d862) rfl (by decide) (by decide) ?_
  rintro _ vm3 h3 C3 ⟨rfl, K3⟩
  have z3 := C3.2.1
  refine gat1 ?_
  refine uiadd 27 ((31 : Int32) + (own_h b0_ x0_)) hx hby d864 rfl rfl ?_
  refine uSIN 28 #[vr r, vi ((31 : Int32) + (own_h b0_ x0_)), vi (0 : Int32), vi (1 : Int32)] hx hby d865 rfl rfl ?_
  refine uInc 31 #[vr r, vi ((31 : Int32) + (own_h b0_ x0_)), vi (1 : Int32), vi (1 : Int32)] hx hby d866 rfl rfl rfl ?_
  refine uG 9 hx hby d867 (by decide) (by decide) ?_
  refine uIN 10 hx hby d787 rfl rfl ?_
  refine uIN 11 hx hby d788 rfl rfl ?_
  refine uYc 34 hx hby d789 (flt (by decide)).2.1 (by decide) (by decide) ?_
  refine uIN 35 hx hby d790 rfl rfl ?_
  exact gretI hx hret (hb hby d791) (by decide) (by decide) (fun vq Cq => ⟨rfl, ((Keep.refl h0 [s0_]).trans K3 (allS (Or.inl (List.mem_of_getElem? (i := 0) rfl)) all0))⟩)
theorem own_ahash0_1 (l : Launch) (Z : State) (a0 : Array Value) (cx : Ctx Z a0) (ws : List Jvm.Cond) (a : Addr) (ka : ClassId) (bo : Addr) (pf : Int32) (r : Addr) (s0_ : Addr) (t0_ : Addr) (b0_ : Int32) (x0_ : Int32) (dz : Addr) (el : Addr) (ee : Addr) (em : Addr) (mr : Addr) (kd : ClassId) (ke : ClassId) (vm0 : Vm) (h0 : Heap) (X00 : Ext Z.heap h0) (P0 : Arv Z h0 a ka (.object c11_) (3 : Int32) [.null, (.ref bo), (.ref r)] .null) (P1 : Exa Z h0 bo c9_) (P2 : Fld Z h0 bo c9_ "value" "Z" (.int pf)) (P3 : Exa Z h0 r c17_) (P4 : Fld Z h0 r c17_ "e0" c0_ (.ref s0_)) (P5 : Fld Z h0 r c17_ "e1" c0_ (.ref em)) (P6 : Str Z h0 s0_ t0_ ((own_fst x0_) :: (own_tl b0_ x0_))) (P7 : Fld Z h0 s0_ c12_ "hash" "I" (.int (0 : Int32))) (P8 : Fld Z h0 s0_ c12_ c8_ "Z" (.int (0 : Int32))) (P9 : Z.heap.size ≤ s0_) (P10 : Safe Z ([] : List (String × Nat)) vm0 h0 s0_) (P11 : Exa Z h0 t0_ "[B") (hL : (OwnL Z dz el ee em mr kd ke)) :
    Met l mn826 y55_ 6 (some .int) ws ({ frames := 6, cells := 0, slots := 0, locals := 87 } : Room) Z ([] : List (String × Nat)) vm0 h0 #[(.ref a)] (fun rv vm h => rv = some (.int (((31 : Int32) * ((961 : Int32) + (own_bh pf))) + ((31 : Int32) + (own_h b0_ x0_)))) ∧ Keep h0 h [s0_]) := by
  obtain ⟨hw, hEL, ⟨zc, Scs, hzc⟩, ⟨fm, Sfm, hfm⟩, hL0, hB0, hO0⟩ := id cx
  refine Met.of_walk (a0 := a0) #[vr a, un, un, un, un, un] (plainFor_of_name own_pn266) X00 hEL (fun m => by first | (simp [entryFrame, mkF, argsToLocals, Value.category]; done) | rfl) ?_
  intro p e s m below meth c vm hx hby hml hret hnm hC0 hW0
  have lt_a : h0.size > a := P0.lt
  have lt_bo : h0.size > bo := P1.lt
  have lt_r : h0.size > r := P3.lt
  have lt_s0_ : h0.size > s0_ := P6.1.lt
  have lt_t0_ : h0.size > t0_ := P6.tlt
  have L10 := hC0.safe lt_s0_ P10
  obtain ⟨Sdz, Edz, Vdz, Sel, Eel, Fee, Vee, Fan, Sem, Eem, Mmr⟩ := id hL
  refine uAN 1 hx hby d793 rfl rfl rfl ?_
  refine uY1 6 hx hby d794 (by decide) (by decide) ?_
  refine uKc 7 (1 : Int32) hx hby d795 rfl rfl ?_
  refine uSIN 8 #[vr a, vi (1 : Int32), un, un, un, un] hx hby d796 rfl rfl ?_
  refine uAN 9 hx hby d797 rfl rfl rfl ?_
  refine uSAN 10 #[vr a, vi (1 : Int32), vr a, un, un, un] hx hby d798 rfl rfl rfl ?_
  refine uAN 11 hx hby d799 rfl rfl rfl ?_
  refine glen hx P0 12 (hb hby d800) rfl ?_
  refine uSIN 13 #[vr a, vi (1 : Int32), vr a, vi (3 : Int32), un, un] hx hby d801 rfl rfl ?_
  refine uKc 14 (0 : Int32) hx hby d802 rfl rfl ?_
  refine uSI 16 #[vr a, vi (1 : Int32), vr a, vi (3 : Int32), vi (0 : Int32), un] hx hby d803 rfl rfl ?_
  refine uI 18 hx hby d804 rfl rfl ?_
  refine uIN 19 hx hby d805 rfl rfl ?_
  refine uNc 22 hx hby d806 rfl (tlt (by decide)).2.1 ?_
  refine uAN 23 hx hby d807 rfl rfl rfl ?_
  refine uI 25 hx hby d808 rfl rfl ?_
  refine gldR hx P0 ⟨by decide, by decide⟩ (i := 0) rfl (v := .null) rfl 26 (hb hby d809) rfl ?_
  refine uSA 28 #[vr a, vi (1 : Int32), vr a, vi (3 : Int32), vi (0 : Int32), .val .null] hx hby d810 rfl rfl rfl ?_
  refine uKb 30 (31 : Int32) hx hby d811 rfl rfl ?_
  refine uIN 31 hx hby d812 rfl rfl ?_
  refine uimul 32 (31 : Int32) hx hby d813 rfl (by decide) ?_
  refine uA 34 hx hby d814 rfl rfl rfl ?_
  refine uN1 37 hx hby d815 rfl ?_
  refine uKc 38 (0 : Int32) hx hby d816 rfl rfl ?_
  refine uG 46 hx hby d817 (by decide) (by decide) ?_
  refine uiadd 47 (31 : Int32) hx hby d818 rfl (by decide) ?_
  refine uSIN 48 #[vr a, vi (31 : Int32), vr a, vi (3 : Int32), vi (0 : Int32), .val .null] hx hby d819 rfl rfl ?_
  refine uInc 51 #[vr a, vi (31 : Int32), vr a, vi (3 : Int32), vi (1 : Int32), .val .null] hx hby d820 rfl rfl rfl ?_
  refine uG 16 hx hby d821 (by decide) (by decide) ?_
  refine uI 18 hx hby d804 rfl rfl ?_
  refine uIN 19 hx hby d805 rfl rfl ?_
  refine uNc 22 hx hby d806 rfl (tlt (by decide)).2.1 ?_
  refine uAN 23 hx hby d807 rfl rfl rfl ?_
  refine uI 25 hx hby d808 rfl rfl ?_
  refine gldR hx P0 ⟨by decide, by decide⟩ (i := 1) rfl (v := (.ref bo)) rfl 26 (hb hby d809) rfl ?_
  refine uSA 28 #[vr a, vi (31 : Int32), vr a, vi (3 : Int32), vi (1 : Int32), vr bo] hx hby d810 rfl rfl rfl ?_
  refine uKb 30 (31 : Int32) hx hby d811 rfl rfl ?_
  refine uIN 31 hx hby d812 rfl rfl ?_
  refine uimul 32 (961 : Int32) hx hby d813 rfl (by decide) ?_
  refine uA 34 hx hby d814 rfl rfl rfl ?_
  refine uY1 41 hx hby d815 (by decide) (by decide) ?_
  refine uA 43 hx hby d822 rfl rfl rfl ?_
  refine ginfo fun _ _ O1 => ?_
  refine gcallV (y := mn753) (z := mn771) hx (ow hw 158 rfl) (ow hw 159 rfl) (nfSame (y' := mn754) (ow hw 303 rfl) (ow hw 302 rfl) rfl) (ow hw 161 rfl) (ow hw 162 rfl) (by decide) (fun hZ H hEL => Pay.of_met (W := 1) (own_bho l Z a0 cx [] (bo) (pf) vm h0 O1 P1 P2) (ow hw 163 rfl) (ow hw 145 rfl) (by decide) (by decide) hZ H hEL) 46 (argsL := []) (rest := [(.int (961 : Int32))]) P1 (lenOf own_pd84 rfl) rfl rfl (Nat.le_of_eq rfl) (by rw [hml]; rfl) (hb hby d823) rfl (by decide) (by decide) ?_
  rintro _ vm1 h1 C1 ⟨rfl, rfl⟩
  have z1 := C1.2.1
  refine gat1 ?_
  refine uiadd 47 ((961 : Int32) + (own_bh pf)) hx hby d818 rfl rfl ?_
  refine uSIN 48 #[vr a, vi ((961 : Int32) + (own_bh pf)), vr a, vi (3 : Int32), vi (1 : Int32), vr bo] hx hby d819 rfl rfl ?_
  refine uInc 51 #[vr a, vi ((961 : Int32) + (own_bh pf)), vr a, vi (3 : Int32), vi (2 : Int32), vr bo] hx hby d820 rfl rfl rfl ?_
  refine uG 16 hx hby d821 (by decide) (by decide) ?_
  refine uI 18 hx hby d804 rfl rfl ?_
  refine uIN 19 hx hby d805 rfl rfl ?_
  refine uNc 22 hx hby d806 rfl (tlt (by decide)).2.1 ?_
  refine uAN 23 hx hby d807 rfl rfl rfl ?_
  refine uI 25 hx hby d808 rfl rfl ?_
  refine gldR hx P0 ⟨by decide, by decide⟩ (i := 2) rfl (v := (.ref r)) rfl 26 (hb hby d809) rfl ?_
  refine uSA 28 #[vr a, vi ((961 : Int32) + (own_bh pf)), vr a, vi (3 : Int32), vi (2 : Int32), vr r] hx hby d810 rfl rfl rfl ?_
  refine uKb 30 (31 : Int32) hx hby d811 rfl rfl ?_
  refine uIN 31 hx hby d812 rfl rfl ?_
  refine uimul 32 ((31 : Int32) * ((961 : Int32) + (own_bh pf))) hx hby d813 rfl rfl ?_
  refine uA 34 hx hby d814 rfl rfl rfl ?_
  refine uY1 41 hx hby d815 (by decide) (by decide) ?_
  refine uA 43 hx hby d822 rfl rfl rfl ?_
  have f3 := (C1.safe (show h0.size > s0_ by omega) L10)
  refine ginfo fun _ _ O2 => ?_
  refine gcallV (y := mn753) (z := mn792) hx (ow hw 158 rfl) (ow hw 159 rfl) (nfSame (y' := mn754) (ow hw 303 rfl) (ow hw 302 rfl) rfl) (ow hw 369 rfl) (ow hw 170 rfl) (by decide) (fun hZ H hEL => Pay.of_met (W := 1) (own_lhash1 l Z a0 cx [] (r) (s0_) (t0_) (b0_) (x0_) (dz) (el) (ee) (em) (mr) (kd) (ke) vm1 h0 O2 P3 P4 P5 P6 P7 P8 P9 f3 P11 (by first | assumption | decide | omega)) (ow hw 172 rfl) (ow hw 171 rfl) (by decide) (by decide) hZ H hEL) 46 (argsL := []) (rest := [(.int ((31 : Int32) * ((961 : Int32) + (own_bh pf))))]) P3 (lenOf own_pd84 rfl) rfl rfl (Nat.le_of_eq rfl) (by rw [hml]; rfl) (hb hby d823) rfl (by decide) (by decide) ?_
  rintro _ vm2 h2 C2 ⟨rfl, K2⟩
  have z2 := C2.2.1
  refine gat1 ?_
  refine uiadd 47 (((31 : Int32) * ((961 : Int32) + (own_bh pf))) + ((31 : Int32) + (own_h b0_ x0_))) hx hby d818 rfl rfl ?_
  refine uSIN 48 #[vr a, vi (((31 : Int32) * ((961 : Int32) + (own_bh pf))) + ((31 : Int32) + (own_h b0_ x0_))), vr a, vi (3 : Int32), vi (2 : Int32), vr r] hx hby d819 rfl rfl ?_
  refine uInc 51 #[vr a, vi (((31 : Int32) * ((961 : Int32) + (own_bh pf))) + ((31 : Int32) + (own_h b0_ x0_))), vr a, vi (3 : Int32), vi (3 : Int32), vr r] hx hby d820 rfl rfl rfl ?_
  refine uG 16 hx hby d821 (by decide) (by decide) ?_
  refine uI 18 hx hby d804 rfl rfl ?_
  refine uIN 19 hx hby d805 rfl rfl ?_
  refine uYc 54 hx hby d806 (flt (by decide)).2.1 (by decide) (by decide) ?_
  refine uIN 55 hx hby d824 rfl rfl ?_
  exact gretI hx hret (hb hby d825) (by decide) (by decide) (fun vq Cq => ⟨rfl, ((Keep.refl h0 [s0_]).trans K2 (allS (Or.inl (List.mem_of_getElem? (i := 0) rfl)) all0))⟩)
theorem own_oh0_1 (l : Launch) (Z : State) (a0 : Array Value) (cx : Ctx Z a0) (ws : List Jvm.Cond) (a : Addr) (ka : ClassId) (bo : Addr) (pf : Int32) (r : Addr) (s0_ : Addr) (t0_ : Addr) (b0_ : Int32) (x0_ : Int32) (dz : Addr) (el : Addr) (ee : Addr) (em : Addr) (mr : Addr) (kd : ClassId) (ke : ClassId) (vm0 : Vm) (h0 : Heap) (X00 : Ext Z.heap h0) (P0 : Arv Z h0 a ka (.object c11_) (3 : Int32) [.null, (.ref bo), (.ref r)] .null) (P1 : Exa Z h0 bo c9_) (P2 : Fld Z h0 bo c9_ "value" "Z" (.int pf)) (P3 : Exa Z h0 r c17_) (P4 : Fld Z h0 r c17_ "e0" c0_ (.ref s0_)) (P5 : Fld Z h0 r c17_ "e1" c0_ (.ref em)) (P6 : Str Z h0 s0_ t0_ ((own_fst x0_) :: (own_tl b0_ x0_))) (P7 : Fld Z h0 s0_ c12_ "hash" "I" (.int (0 : Int32))) (P8 : Fld Z h0 s0_ c12_ c8_ "Z" (.int (0 : Int32))) (P9 : Z.heap.size ≤ s0_) (P10 : Safe Z ([] : List (String × Nat)) vm0 h0 s0_) (P11 : Exa Z h0 t0_ "[B") (hL : (OwnL Z dz el ee em mr kd ke)) :
    Met l mn831 y10_ 1 (some .int) ws ({ frames := 7, cells := 0, slots := 0, locals := 104 } : Room) Z ([] : List (String × Nat)) vm0 h0 #[(.ref a)] (fun rv vm h => rv = some (.int (((31 : Int32) * ((961 : Int32) + (own_bh pf))) + ((31 : Int32) + (own_h b0_ x0_)))) ∧ Keep h0 h [s0_]) := by
  obtain ⟨hw, hEL, ⟨zc, Scs, hzc⟩, ⟨fm, Sfm, hfm⟩, hL0, hB0, hO0⟩ := id cx
  refine Met.of_walk (a0 := a0) #[vr a] (plainFor_of_name own_pn204) X00 hEL (fun m => by first | (simp [entryFrame, mkF, argsToLocals, Value.category]; done) | rfl) ?_
  intro p e s m below meth c vm hx hby hml hret hnm hC0 hW0
  have lt_a : h0.size > a := P0.lt
  have lt_bo : h0.size > bo := P1.lt
  have lt_r : h0.size > r := P3.lt
  have lt_s0_ : h0.size > s0_ := P6.1.lt
  have lt_t0_ : h0.size > t0_ := P6.tlt
  have L10 := hC0.safe lt_s0_ P10
  obtain ⟨Sdz, Edz, Vdz, Sel, Eel, Fee, Vee, Fan, Sem, Eem, Mmr⟩ := id hL
  refine uAN 1 hx hby d827 rfl rfl rfl ?_
  refine ginfo fun _ _ O1 => ?_
  refine gcallS (y := mn826) hx (ow hw 154 rfl) (ow hw 155 rfl) (ow hw 156 rfl) (ow hw 157 rfl) (by decide) (fun hZ H hEL => Pay.of_met (W := 0) (own_ahash0_1 l Z a0 cx [] (a) (ka) (bo) (pf) (r) (s0_) (t0_) (b0_) (x0_) (dz) (el) (ee) (em) (mr) (kd) (ke) vm h0 O1 P0 P1 P2 P3 P4 P5 P6 P7 P8 P9 L10 P11 (by first | assumption | decide | omega)) (ow hw 157 rfl) (ow hw 156 rfl) (by decide) (by decide) hZ H hEL) 4 (argsL := [(.ref a)]) (rest := []) (lenOf own_pd829 rfl) rfl rfl (Nat.le_of_eq rfl) (by rw [hml]; rfl) (hb hby d828) rfl (by decide) (by decide) ?_
  rintro _ vm1 h1 C1 ⟨rfl, K1⟩
  have z1 := C1.2.1
  refine gat1 ?_
  exact gretI hx hret (hb hby d830) (by decide) (by decide) (fun vq Cq => ⟨rfl, ((Keep.refl h0 [s0_]).trans K1 (allS (Or.inl (List.mem_of_getElem? (i := 0) rfl)) all0))⟩)
theorem own_chash0_1 (l : Launch) (Z : State) (a0 : Array Value) (cx : Ctx Z a0) (ws : List Jvm.Cond) (y : Addr) (pf : Int32) (r : Addr) (s0_ : Addr) (t0_ : Addr) (b0_ : Int32) (x0_ : Int32) (dz : Addr) (el : Addr) (ee : Addr) (em : Addr) (mr : Addr) (kd : ClassId) (ke : ClassId) (vm0 : Vm) (h0 : Heap) (X00 : Ext Z.heap h0) (P0 : Fld Z h0 y c5_ "ui" c1_ .null) (P1 : Fld Z h0 y c5_ "preferred" "Z" (.int pf)) (P2 : Fld Z h0 y c5_ "terms" c3_ (.ref r)) (b_pf : (pf = 0 ∨ pf = 1)) (P4 : Exa Z h0 r c17_) (P5 : Fld Z h0 r c17_ "e0" c0_ (.ref s0_)) (P6 : Fld Z h0 r c17_ "e1" c0_ (.ref em)) (P7 : Str Z h0 s0_ t0_ ((own_fst x0_) :: (own_tl b0_ x0_))) (P8 : Fld Z h0 s0_ c12_ "hash" "I" (.int (0 : Int32))) (P9 : Fld Z h0 s0_ c12_ c8_ "Z" (.int (0 : Int32))) (P10 : Z.heap.size ≤ s0_) (P11 : Safe Z ([] : List (String × Nat)) vm0 h0 s0_) (P12 : Exa Z h0 t0_ "[B") (hL : (OwnL Z dz el ee em mr kd ke)) :
    Met l mn853 y61_ 1 (some .int) ws ({ frames := 8, cells := 1, slots := 3, locals := 116 } : Room) Z ([] : List (String × Nat)) vm0 h0 #[(.ref y)] (fun rv vm h => rv = some (.int (((31 : Int32) * ((961 : Int32) + (own_bh pf))) + ((31 : Int32) + (own_h b0_ x0_)))) ∧ Keep h0 h [s0_]) := by
  obtain ⟨hw, hEL, ⟨zc, Scs, hzc⟩, ⟨fm, Sfm, hfm⟩, hL0, hB0, hO0⟩ := id cx
  refine Met.of_walk (a0 := a0) #[vr y] (plainFor_of_name own_pn461) X00 hEL (fun m => by first | (simp [entryFrame, mkF, argsToLocals, Value.category]; done) | rfl) ?_
  intro p e s m below meth c vm hx hby hml hret hnm hC0 hW0
  have lt_y : h0.size > y := P0.lt
  have lt_r : h0.size > r := P4.lt
  have lt_s0_ : h0.size > s0_ := P7.1.lt
  have lt_t0_ : h0.size > t0_ := P7.tlt
  have L11 := hC0.safe lt_s0_ P11
  obtain ⟨Sdz, Edz, Vdz, Sel, Eel, Fee, Vee, Fan, Sem, Eem, Mmr⟩ := id hL
  refine uKc 1 (3 : Int32) hx hby d832 rfl rfl ?_
  refine gnewR hx (ow hw 141 rfl) (ow hw 142 rfl) (n := (3 : Int32)) (by decide) (cap := 3) (by decide) (by decide) (ad := c4_) (by decide) 4 (hb hby d833) rfl (by decide) (by decide) ?_
  intro b1 h1 k1 g1 E1 C1 V1 A1 O1 n1 L1
  have z1 := C1.2.1
  have V1 : Arv Z h1 b1 k1 (.object c11_) (3 : Int32) [.null, .null, .null] .null := V1.pad (pad_rep [] .null 3)
  have lt_b1 : h1.size > b1 := V1.lt
  refine uD 5 hx hby d834 rfl rfl ?_
  refine uKc 6 (0 : Int32) hx hby d835 rfl rfl ?_
  refine uAN 7 hx hby d836 rfl rfl rfl ?_
  have f2 := (P0.ext E1)
  refine ggetF (host := "") hx (Or.inl (ow hw 102 rfl)) Via.refl f2 10 (hb hby d837) rfl ?_
  refine gstR hx V1 ⟨by decide, by decide⟩ (i := 0) rfl (Nat.le_of_ble_eq_true rfl) (Or.inl rfl) rfl n1 11 (hb hby d838) rfl ?_
  intro h3 W3 C3 V3
  have z3 := C3.2.1
  replace V3 : Arv Z h3 b1 k1 (.object c11_) (3 : Int32) [.null, .null, .null] .null := V3
  refine uD 12 hx hby d839 rfl rfl ?_
  refine uKc 13 (1 : Int32) hx hby d840 rfl rfl ?_
  refine uAN 14 hx hby d841 rfl rfl rfl ?_
  have f4 := ((P1.ext E1).other W3 (Or.inl (Nat.ne_of_lt (by omega))))
  refine ggetF (host := "") hx (Or.inl (ow hw 104 rfl)) Via.refl f4 17 (hb hby d842) rfl ?_
  refine ginfo fun _ _ O5 => ?_
  refine gcallS (y := mn778) hx (ow hw 143 rfl) (ow hw 144 rfl) (ow hw 145 rfl) (ow hw 146 rfl) (by decide) (fun hZ H hEL => Pay.of_met (W := 3) (own_bval l Z a0 cx [] (pf) vm h3 O5 (by first | assumption | decide | omega)) (ow hw 146 rfl) (ow hw 145 rfl) (by decide) (by decide) hZ H hEL) 20 (argsL := [(.int pf)]) (rest := [(.int (1 : Int32)), (.ref b1), (.ref b1)]) (lenOf own_pd844 rfl) rfl rfl (Nat.le_of_eq rfl) (by rw [hml]; rfl) (hb hby d843) rfl (by decide) (by decide) ?_
  rintro _ vm5 h5 C5 ⟨r5, rfl, rfl, q5_0, q5_1⟩
  have z5 := C5.2.1
  have lt_r5 : h3.size > r5 := q5_0.lt
  refine gat1 ?_
  refine gstR hx V3 ⟨by decide, by decide⟩ (i := 1) rfl (Nat.le_of_ble_eq_true rfl) (Arv.sto V3 O1 (Ins.of_exa q5_0 (ow hw 148 rfl))) rfl n1 21 (hb hby d845) rfl ?_
  intro h6 W6 C6 V6
  have z6 := C6.2.1
  replace V6 : Arv Z h6 b1 k1 (.object c11_) (3 : Int32) [.null, (.ref r5), .null] .null := V6
  refine uD 22 hx hby d846 rfl rfl ?_
  refine uKc 23 (2 : Int32) hx hby d847 rfl rfl ?_
  refine uAN 24 hx hby d848 rfl rfl rfl ?_
  have f7 := (((P2.ext E1).other W3 (Or.inl (Nat.ne_of_lt (by omega)))).other W6 (Or.inl (Nat.ne_of_lt (by omega))))
  refine ggetF (host := "") hx (Or.inl (ow hw 134 rfl)) Via.refl f7 27 (hb hby d849) rfl ?_
  have f9 := (((P4.ext E1).wr W3).wr W6)
  refine gstR hx V6 ⟨by decide, by decide⟩ (i := 2) rfl (Nat.le_of_ble_eq_true rfl) (Arv.sto V6 O1 (Ins.of_exa f9 (ow hw 349 rfl))) rfl n1 28 (hb hby d850) rfl ?_
  intro h8 W8 C8 V8
  have z8 := C8.2.1
  replace V8 : Arv Z h8 b1 k1 (.object c11_) (3 : Int32) [.null, (.ref r5), (.ref r)] .null := V8
  have f11 := ((q5_0.wr W6).wr W8)
  have f12 := (((A1.wr W3).wr W6).wr W8)
  have f13 := ((q5_1.other W6 (Or.inl (ne_exa f11 f12 (by decide)))).other W8 (Or.inl (ne_exa f11 f12 (by decide))))
  have f14 := (f9.wr W8)
  have f15 := ((((P5.ext E1).other W3 (Or.inl (Nat.ne_of_lt (by omega)))).other W6 (Or.inl (Nat.ne_of_lt (by omega)))).other W8 (Or.inl (Nat.ne_of_lt (by omega))))
  have f16 := ((((P6.ext E1).other W3 (Or.inl (Nat.ne_of_lt (by omega)))).other W6 (Or.inl (Nat.ne_of_lt (by omega)))).other W8 (Or.inl (Nat.ne_of_lt (by omega))))
  have f17 := ((((P7.ext E1).other W3 (Nat.ne_of_lt (by omega)) (Nat.ne_of_lt (by omega))).other W6 (Nat.ne_of_lt (by omega)) (Nat.ne_of_lt (by omega))).other W8 (Nat.ne_of_lt (by omega)) (Nat.ne_of_lt (by omega)))
  have f18 := ((((P8.ext E1).other W3 (Or.inl (Nat.ne_of_lt (by omega)))).other W6 (Or.inl (Nat.ne_of_lt (by omega)))).other W8 (Or.inl (Nat.ne_of_lt (by omega))))
  have f19 := ((((P9.ext E1).other W3 (Or.inl (Nat.ne_of_lt (by omega)))).other W6 (Or.inl (Nat.ne_of_lt (by omega)))).other W8 (Or.inl (Nat.ne_of_lt (by omega))))
  have f20 := (C8.safe (show h6.size > s0_ by omega) (C6.safe (show h3.size > s0_ by omega) (C5.safe (show h3.size > s0_ by omega) (C3.safe (show h1.size > s0_ by omega) (C1.safe (show h0.size > s0_ by omega) L11)))))
  have f21 := ((((P12.ext E1).wr W3).wr W6).wr W8)
  refine ginfo fun _ _ O10 => ?_
  refine gcallS (y := mn831) hx (ow hw 150 rfl) (ow hw 151 rfl) (ow hw 152 rfl) (ow hw 153 rfl) (by decide) (fun hZ H hEL => Pay.of_met (W := 0) (own_oh0_1 l Z a0 cx [] (b1) (k1) (r5) (pf) (r) (s0_) (t0_) (b0_) (x0_) (dz) (el) (ee) (em) (mr) (kd) (ke) vm5 h8 O10 V8 f11 f13 f14 f15 f16 f17 f18 f19 P10 f20 f21 (by first | assumption | decide | omega)) (ow hw 153 rfl) (ow hw 152 rfl) (by decide) (by decide) hZ H hEL) 31 (argsL := [(.ref b1)]) (rest := []) (lenOf own_pd829 rfl) rfl rfl (Nat.le_of_eq rfl) (by rw [hml]; rfl) (hb hby d851) rfl (by decide) (by decide) ?_
  rintro _ vm10 h10 C10 ⟨rfl, K10⟩
  have z10 := C10.2.1
  refine gat1 ?_
  exact gretI hx hret (hb hby d852) (by decide) (by decide) (fun vq Cq => ⟨rfl, ((((((Keep.refl h0 [s0_]).ext E1).wr W3 (Or.inr (by omega))).wr W6 (Or.inr (by omega))).wr W8 (Or.inr (by omega))).trans K10 (allS (Or.inl (List.mem_of_getElem? (i := 0) rfl)) all0))⟩)
theorem own_ahash1_1 (l : Launch) (Z : State) (a0 : Array Value) (cx : Ctx Z a0) (ws : List Jvm.Cond) (a : Addr) (ka : ClassId) (bo : Addr) (pf : Int32) (r : Addr) (s0_ : Addr) (t0_ : Addr) (b0_ : Int32) (x0_ : Int32) (ui : Addr) (tu : Addr) (bu : Int32) (xu : Int32) (dz : Addr) (el : Addr) (ee : Addr) (em : Addr) (mr : Addr) (kd : ClassId) (ke : ClassId) (vm0 : Vm) (h0 : Heap) (X00 : Ext Z.heap h0) (P0 : Arv Z h0 a ka (.object c11_) (3 : Int32) [(.ref ui), (.ref bo), (.ref r)] .null) (P1 : Exa Z h0 bo c9_) (P2 : Fld Z h0 bo c9_ "value" "Z" (.int pf)) (P3 : Exa Z h0 r c17_) (P4 : Fld Z h0 r c17_ "e0" c0_ (.ref s0_)) (P5 : Fld Z h0 r c17_ "e1" c0_ (.ref em)) (P6 : Str Z h0 s0_ t0_ ((own_fst x0_) :: (own_tl b0_ x0_))) (P7 : Fld Z h0 s0_ c12_ "hash" "I" (.int (0 : Int32))) (P8 : Fld Z h0 s0_ c12_ c8_ "Z" (.int (0 : Int32))) (P9 : Z.heap.size ≤ s0_) (P10 : Safe Z ([] : List (String × Nat)) vm0 h0 s0_) (P11 : Exa Z h0 t0_ "[B") (P12 : Str Z h0 ui tu ((own_fst xu) :: (own_tl bu xu))) (P13 : Fld Z h0 ui c12_ "hash" "I" (.int (0 : Int32))) (P14 : Fld Z h0 ui c12_ c8_ "Z" (.int (0 : Int32))) (P15 : Z.heap.size ≤ ui) (P16 : Safe Z ([] : List (String × Nat)) vm0 h0 ui) (P17 : Exa Z h0 tu "[B") (hnu0 : (ui ≠ s0_)) (hL : (OwnL Z dz el ee em mr kd ke)) :
    Met l mn826 y55_ 6 (some .int) ws ({ frames := 6, cells := 0, slots := 0, locals := 87 } : Room) Z ([] : List (String × Nat)) vm0 h0 #[(.ref a)] (fun rv vm h => rv = some (.int (((31 : Int32) * (((31 : Int32) * ((31 : Int32) + (own_h bu xu))) + (own_bh pf))) + ((31 : Int32) + (own_h b0_ x0_)))) ∧ Keep h0 h [ui, s0_]) := by
  obtain ⟨hw, hEL, ⟨zc, Scs, hzc⟩, ⟨fm, Sfm, hfm⟩, hL0, hB0, hO0⟩ := id cx
  refine Met.of_walk (a0 := a0) #[vr a, un, un, un, un, un] (plainFor_of_name own_pn266) X00 hEL (fun m => by first | (simp [entryFrame, mkF, argsToLocals, Value.category]; done) | rfl) ?_
  intro p e s m below meth c vm hx hby hml hret hnm hC0 hW0
  have lt_a : h0.size > a := P0.lt
  have lt_bo : h0.size > bo := P1.lt
  have lt_r : h0.size > r := P3.lt
  have lt_s0_ : h0.size > s0_ := P6.1.lt
  have lt_t0_ : h0.size > t0_ := P6.tlt
  have L10 := hC0.safe lt_s0_ P10
  have lt_ui : h0.size > ui := P12.1.lt
  have lt_tu : h0.size > tu := P12.tlt
  have L16 := hC0.safe lt_ui P16
  obtain ⟨Sdz, Edz, Vdz, Sel, Eel, Fee, Vee, Fan, Sem, Eem, Mmr⟩ := id hL
  refine uAN 1 hx hby d793 rfl rfl rfl ?_
  refine uY1 6 hx hby d794 (by decide) (by decide) ?_
  refine uKc 7 (1 : Int32) hx hby d795 rfl rfl ?_
  refine uSIN 8 #[vr a, vi (1 : Int32), un, un, un, un] hx hby d796 rfl rfl ?_
  refine uAN 9 hx hby d797 rfl rfl rfl ?_
  refine uSAN 10 #[vr a, vi (1 : Int32), vr a, un, un, un] hx hby d798 rfl rfl rfl ?_
  refine uAN 11 hx hby d799 rfl rfl rfl ?_
  refine glen hx P0 12 (hb hby d800) rfl ?_
  refine uSIN 13 #[vr a, vi (1 : Int32), vr a, vi (3 : Int32), un, un] hx hby d801 rfl rfl ?_
  refine uKc 14 (0 : Int32) hx hby d802 rfl rfl ?_
  refine uSI 16 #[vr a, vi (1 : Int32), vr a, vi (3 : Int32), vi (0 : Int32), un] hx hby d803 rfl rfl ?_
  refine uI 18 hx hby d804 rfl rfl ?_
  refine uIN 19 hx hby d805 rfl rfl ?_
  refine uNc 22 hx hby d806 rfl (tlt (by decide)).2.1 ?_
  refine uAN 23 hx hby d807 rfl rfl rfl ?_
  refine uI 25 hx hby d808 rfl rfl ?_
  refine gldR hx P0 ⟨by decide, by decide⟩ (i := 0) rfl (v := (.ref ui)) rfl 26 (hb hby d809) rfl ?_
  refine uSA 28 #[vr a, vi (1 : Int32), vr a, vi (3 : Int32), vi (0 : Int32), vr ui] hx hby d810 rfl rfl rfl ?_
  refine uKb 30 (31 : Int32) hx hby d811 rfl rfl ?_
  refine uIN 31 hx hby d812 rfl rfl ?_
  refine uimul 32 (31 : Int32) hx hby d813 rfl (by decide) ?_
  refine uA 34 hx hby d814 rfl rfl rfl ?_
  refine uY1 41 hx hby d815 (by decide) (by decide) ?_
  refine uA 43 hx hby d822 rfl rfl rfl ?_
  refine ginfo fun _ _ O1 => ?_
  refine gcallV (y := mn753) (z := mn748) hx (ow hw 158 rfl) (ow hw 159 rfl) (nfSame (y' := mn754) (ow hw 303 rfl) (ow hw 302 rfl) rfl) (ow hw 350 rfl) (ow hw 351 rfl) (by decide) (fun hZ H hEL => Pay.of_met (W := 1) (own_shash l Z a0 cx [] (ui) (tu) (bu) (xu) vm h0 O1 P12 P13 P14 P15 L16 P17) (ow hw 352 rfl) (ow hw 9 rfl) (by decide) (by decide) hZ H hEL) 46 (argsL := []) (rest := [(.int (31 : Int32))]) P12.1 (lenOf own_pd84 rfl) rfl rfl (Nat.le_of_eq rfl) (by rw [hml]; rfl) (hb hby d823) rfl (by decide) (by decide) ?_
  rintro _ vm1 h1 C1 ⟨rfl, K1⟩
  have z1 := C1.2.1
  refine gat1 ?_
  refine uiadd 47 ((31 : Int32) + (own_h bu xu)) hx hby d818 rfl rfl ?_
  refine uSIN 48 #[vr a, vi ((31 : Int32) + (own_h bu xu)), vr a, vi (3 : Int32), vi (0 : Int32), vr ui] hx hby d819 rfl rfl ?_
  refine uInc 51 #[vr a, vi ((31 : Int32) + (own_h bu xu)), vr a, vi (3 : Int32), vi (1 : Int32), vr ui] hx hby d820 rfl rfl rfl ?_
  refine uG 16 hx hby d821 (by decide) (by decide) ?_
  refine uI 18 hx hby d804 rfl rfl ?_
  refine uIN 19 hx hby d805 rfl rfl ?_
  refine uNc 22 hx hby d806 rfl (tlt (by decide)).2.1 ?_
  refine uAN 23 hx hby d807 rfl rfl rfl ?_
  refine uI 25 hx hby d808 rfl rfl ?_
  have f2 := (P0.keep K1 (ninS (Ne.symm (Exa.neArv P12.1 P0 (ow hw 17 rfl))) nin0))
  refine gldR hx f2 ⟨by decide, by decide⟩ (i := 1) rfl (v := (.ref bo)) rfl 26 (hb hby d809) rfl ?_
  refine uSA 28 #[vr a, vi ((31 : Int32) + (own_h bu xu)), vr a, vi (3 : Int32), vi (1 : Int32), vr bo] hx hby d810 rfl rfl rfl ?_
  refine uKb 30 (31 : Int32) hx hby d811 rfl rfl ?_
  refine uIN 31 hx hby d812 rfl rfl ?_
  refine uimul 32 ((31 : Int32) * ((31 : Int32) + (own_h bu xu))) hx hby d813 rfl rfl ?_
  refine uA 34 hx hby d814 rfl rfl rfl ?_
  refine uY1 41 hx hby d815 (by decide) (by decide) ?_
  refine uA 43 hx hby d822 rfl rfl rfl ?_
  have f4 := (P1.keep K1)
  have f5 := (P2.keep K1 (ninS (ne_exa f4 (P12.1.keep K1) (by decide)) nin0))
  refine ginfo fun _ _ O3 => ?_
  refine gcallV (y := mn753) (z := mn771) hx (ow hw 158 rfl) (ow hw 159 rfl) (nfSame (y' := mn754) (ow hw 303 rfl) (ow hw 302 rfl) rfl) (ow hw 161 rfl) (ow hw 162 rfl) (by decide) (fun hZ H hEL => Pay.of_met (W := 1) (own_bho l Z a0 cx [] (bo) (pf) vm1 h1 O3 f4 f5) (ow hw 163 rfl) (ow hw 145 rfl) (by decide) (by decide) hZ H hEL) 46 (argsL := []) (rest := [(.int ((31 : Int32) * ((31 : Int32) + (own_h bu xu))))]) f4 (lenOf own_pd84 rfl) rfl rfl (Nat.le_of_eq rfl) (by rw [hml]; rfl) (hb hby d823) rfl (by decide) (by decide) ?_
  rintro _ vm3 h3 C3 ⟨rfl, rfl⟩
  have z3 := C3.2.1
  refine gat1 ?_
  refine uiadd 47 (((31 : Int32) * ((31 : Int32) + (own_h bu xu))) + (own_bh pf)) hx hby d818 rfl rfl ?_
  refine uSIN 48 #[vr a, vi (((31 : Int32) * ((31 : Int32) + (own_h bu xu))) + (own_bh pf)), vr a, vi (3 : Int32), vi (1 : Int32), vr bo] hx hby d819 rfl rfl ?_
  refine uInc 51 #[vr a, vi (((31 : Int32) * ((31 : Int32) + (own_h bu xu))) + (own_bh pf)), vr a, vi (3 : Int32), vi (2 : Int32), vr bo] hx hby d820 rfl rfl rfl ?_
  refine uG 16 hx hby d821 (by decide) (by decide) ?_
  refine uI 18 hx hby d804 rfl rfl ?_
  refine uIN 19 hx hby d805 rfl rfl ?_
  refine uNc 22 hx hby d806 rfl (tlt (by decide)).2.1 ?_
  refine uAN 23 hx hby d807 rfl rfl rfl ?_
  refine uI 25 hx hby d808 rfl rfl ?_
  refine gldR hx f2 ⟨by decide, by decide⟩ (i := 2) rfl (v := (.ref r)) rfl 26 (hb hby d809) rfl ?_
  refine uSA 28 #[vr a, vi (((31 : Int32) * ((31 : Int32) + (own_h bu xu))) + (own_bh pf)), vr a, vi (3 : Int32), vi (2 : Int32), vr r] hx hby d810 rfl rfl rfl ?_
  refine uKb 30 (31 : Int32) hx hby d811 rfl rfl ?_
  refine uIN 31 hx hby d812 rfl rfl ?_
  refine uimul 32 ((31 : Int32) * (((31 : Int32) * ((31 : Int32) + (own_h bu xu))) + (own_bh pf))) hx hby d813 rfl rfl ?_
  refine uA 34 hx hby d814 rfl rfl rfl ?_
  refine uY1 41 hx hby d815 (by decide) (by decide) ?_
  refine uA 43 hx hby d822 rfl rfl rfl ?_
  have f7 := (P3.keep K1)
  have f8 := (P4.keep K1 (ninS (ne_exa f7 (P12.1.keep K1) (by decide)) nin0))
  have f9 := (P5.keep K1 (ninS (ne_exa f7 (P12.1.keep K1) (by decide)) nin0))
  have f10 := (P11.keep K1)
  have f11 := (P6.keep K1 (ninS (Ne.symm hnu0) nin0) (ninS (ne_exa f10 (P12.1.keep K1) (by decide)) nin0))
  have f12 := (P7.keep K1 (ninS (Ne.symm hnu0) nin0))
  have f13 := (P8.keep K1 (ninS (Ne.symm hnu0) nin0))
  have f14 := (C3.safe (show h1.size > s0_ by omega) (C1.safe (show h0.size > s0_ by omega) L10))
  refine ginfo fun _ _ O6 => ?_
  refine gcallV (y := mn753) (z := mn792) hx (ow hw 158 rfl) (ow hw 159 rfl) (nfSame (y' := mn754) (ow hw 303 rfl) (ow hw 302 rfl) rfl) (ow hw 369 rfl) (ow hw 170 rfl) (by decide) (fun hZ H hEL => Pay.of_met (W := 1) (own_lhash1 l Z a0 cx [] (r) (s0_) (t0_) (b0_) (x0_) (dz) (el) (ee) (em) (mr) (kd) (ke) vm3 h1 O6 f7 f8 f9 f11 f12 f13 P9 f14 f10 (by first | assumption | decide | omega)) (ow hw 172 rfl) (ow hw 171 rfl) (by decide) (by decide) hZ H hEL) 46 (argsL := []) (rest := [(.int ((31 : Int32) * (((31 : Int32) * ((31 : Int32) + (own_h bu xu))) + (own_bh pf))))]) f7 (lenOf own_pd84 rfl) rfl rfl (Nat.le_of_eq rfl) (by rw [hml]; rfl) (hb hby d823) rfl (by decide) (by decide) ?_
  rintro _ vm6 h6 C6 ⟨rfl, K6⟩
  have z6 := C6.2.1
  refine gat1 ?_
  refine uiadd 47 (((31 : Int32) * (((31 : Int32) * ((31 : Int32) + (own_h bu xu))) + (own_bh pf))) + ((31 : Int32) + (own_h b0_ x0_))) hx hby d818 rfl rfl ?_
  refine uSIN 48 #[vr a, vi (((31 : Int32) * (((31 : Int32) * ((31 : Int32) + (own_h bu xu))) + (own_bh pf))) + ((31 : Int32) + (own_h b0_ x0_))), vr a, vi (3 : Int32), vi (2 : Int32), vr r] hx hby d819 rfl rfl ?_
  refine uInc 51 #[vr a, vi (((31 : Int32) * (((31 : Int32) * ((31 : Int32) + (own_h bu xu))) + (own_bh pf))) + ((31 : Int32) + (own_h b0_ x0_))), vr a, vi (3 : Int32), vi (3 : Int32), vr r] hx hby d820 rfl rfl rfl ?_
  refine uG 16 hx hby d821 (by decide) (by decide) ?_
  refine uI 18 hx hby d804 rfl rfl ?_
  refine uIN 19 hx hby d805 rfl rfl ?_
  refine uYc 54 hx hby d806 (flt (by decide)).2.1 (by decide) (by decide) ?_
  refine uIN 55 hx hby d824 rfl rfl ?_
  exact gretI hx hret (hb hby d825) (by decide) (by decide) (fun vq Cq => ⟨rfl, (((Keep.refl h0 [ui, s0_]).trans K1 (allS (Or.inl (List.mem_of_getElem? (i := 0) rfl)) all0)).trans K6 (allS (Or.inl (List.mem_of_getElem? (i := 1) rfl)) all0))⟩)
theorem own_oh1_1 (l : Launch) (Z : State) (a0 : Array Value) (cx : Ctx Z a0) (ws : List Jvm.Cond) (a : Addr) (ka : ClassId) (bo : Addr) (pf : Int32) (r : Addr) (s0_ : Addr) (t0_ : Addr) (b0_ : Int32) (x0_ : Int32) (ui : Addr) (tu : Addr) (bu : Int32) (xu : Int32) (dz : Addr) (el : Addr) (ee : Addr) (em : Addr) (mr : Addr) (kd : ClassId) (ke : ClassId) (vm0 : Vm) (h0 : Heap) (X00 : Ext Z.heap h0) (P0 : Arv Z h0 a ka (.object c11_) (3 : Int32) [(.ref ui), (.ref bo), (.ref r)] .null) (P1 : Exa Z h0 bo c9_) (P2 : Fld Z h0 bo c9_ "value" "Z" (.int pf)) (P3 : Exa Z h0 r c17_) (P4 : Fld Z h0 r c17_ "e0" c0_ (.ref s0_)) (P5 : Fld Z h0 r c17_ "e1" c0_ (.ref em)) (P6 : Str Z h0 s0_ t0_ ((own_fst x0_) :: (own_tl b0_ x0_))) (P7 : Fld Z h0 s0_ c12_ "hash" "I" (.int (0 : Int32))) (P8 : Fld Z h0 s0_ c12_ c8_ "Z" (.int (0 : Int32))) (P9 : Z.heap.size ≤ s0_) (P10 : Safe Z ([] : List (String × Nat)) vm0 h0 s0_) (P11 : Exa Z h0 t0_ "[B") (P12 : Str Z h0 ui tu ((own_fst xu) :: (own_tl bu xu))) (P13 : Fld Z h0 ui c12_ "hash" "I" (.int (0 : Int32))) (P14 : Fld Z h0 ui c12_ c8_ "Z" (.int (0 : Int32))) (P15 : Z.heap.size ≤ ui) (P16 : Safe Z ([] : List (String × Nat)) vm0 h0 ui) (P17 : Exa Z h0 tu "[B") (hnu0 : (ui ≠ s0_)) (hL : (OwnL Z dz el ee em mr kd ke)) :
    Met l mn831 y10_ 1 (some .int) ws ({ frames := 7, cells := 0, slots := 0, locals := 104 } : Room) Z ([] : List (String × Nat)) vm0 h0 #[(.ref a)] (fun rv vm h => rv = some (.int (((31 : Int32) * (((31 : Int32) * ((31 : Int32) + (own_h bu xu))) + (own_bh pf))) + ((31 : Int32) + (own_h b0_ x0_)))) ∧ Keep h0 h [ui, s0_]) := by
  obtain ⟨hw, hEL, ⟨zc, Scs, hzc⟩, ⟨fm, Sfm, hfm⟩, hL0, hB0, hO0⟩ := id cx
  refine Met.of_walk (a0 := a0) #[vr a] (plainFor_of_name own_pn204) X00 hEL (fun m => by first | (simp [entryFrame, mkF, argsToLocals, Value.category]; done) | rfl) ?_
  intro p e s m below meth c vm hx hby hml hret hnm hC0 hW0
  have lt_a : h0.size > a := P0.lt
  have lt_bo : h0.size > bo := P1.lt
  have lt_r : h0.size > r := P3.lt
  have lt_s0_ : h0.size > s0_ := P6.1.lt
  have lt_t0_ : h0.size > t0_ := P6.tlt
  have L10 := hC0.safe lt_s0_ P10
  have lt_ui : h0.size > ui := P12.1.lt
  have lt_tu : h0.size > tu := P12.tlt
  have L16 := hC0.safe lt_ui P16
  obtain ⟨Sdz, Edz, Vdz, Sel, Eel, Fee, Vee, Fan, Sem, Eem, Mmr⟩ := id hL
  refine uAN 1 hx hby d827 rfl rfl rfl ?_
  refine ginfo fun _ _ O1 => ?_
  refine gcallS (y := mn826) hx (ow hw 154 rfl) (ow hw 155 rfl) (ow hw 156 rfl) (ow hw 157 rfl) (by decide) (fun hZ H hEL => Pay.of_met (W := 0) (own_ahash1_1 l Z a0 cx [] (a) (ka) (bo) (pf) (r) (s0_) (t0_) (b0_) (x0_) (ui) (tu) (bu) (xu) (dz) (el) (ee) (em) (mr) (kd) (ke) vm h0 O1 P0 P1 P2 P3 P4 P5 P6 P7 P8 P9 L10 P11 P12 P13 P14 P15 L16 P17 (by first | assumption | decide | omega) (by first | assumption | decide | omega)) (ow hw 157 rfl) (ow hw 156 rfl) (by decide) (by decide) hZ H hEL) 4 (argsL := [(.ref a)]) (rest := []) (lenOf own_pd829 rfl) rfl rfl (Nat.le_of_eq rfl) (by rw [hml]; rfl) (hb hby d828) rfl (by decide) (by decide) ?_
  rintro _ vm1 h1 C1 ⟨rfl, K1⟩
  have z1 := C1.2.1
  refine gat1 ?_
  exact gretI hx hret (hb hby d830) (by decide) (by decide) (fun vq Cq => ⟨rfl, ((Keep.refl h0 [ui, s0_]).trans K1 (allS (Or.inl (List.mem_of_getElem? (i := 0) rfl)) (allS (Or.inl (List.mem_of_getElem? (i := 1) rfl)) all0)))⟩)
theorem own_chash1_1 (l : Launch) (Z : State) (a0 : Array Value) (cx : Ctx Z a0) (ws : List Jvm.Cond) (y : Addr) (pf : Int32) (r : Addr) (s0_ : Addr) (t0_ : Addr) (b0_ : Int32) (x0_ : Int32) (ui : Addr) (tu : Addr) (bu : Int32) (xu : Int32) (dz : Addr) (el : Addr) (ee : Addr) (em : Addr) (mr : Addr) (kd : ClassId) (ke : ClassId) (vm0 : Vm) (h0 : Heap) (X00 : Ext Z.heap h0) (P0 : Fld Z h0 y c5_ "ui" c1_ (.ref ui)) (P1 : Fld Z h0 y c5_ "preferred" "Z" (.int pf)) (P2 : Fld Z h0 y c5_ "terms" c3_ (.ref r)) (b_pf : (pf = 0 ∨ pf = 1)) (P4 : Exa Z h0 r c17_) (P5 : Fld Z h0 r c17_ "e0" c0_ (.ref s0_)) (P6 : Fld Z h0 r c17_ "e1" c0_ (.ref em)) (P7 : Str Z h0 s0_ t0_ ((own_fst x0_) :: (own_tl b0_ x0_))) (P8 : Fld Z h0 s0_ c12_ "hash" "I" (.int (0 : Int32))) (P9 : Fld Z h0 s0_ c12_ c8_ "Z" (.int (0 : Int32))) (P10 : Z.heap.size ≤ s0_) (P11 : Safe Z ([] : List (String × Nat)) vm0 h0 s0_) (P12 : Exa Z h0 t0_ "[B") (P13 : Str Z h0 ui tu ((own_fst xu) :: (own_tl bu xu))) (P14 : Fld Z h0 ui c12_ "hash" "I" (.int (0 : Int32))) (P15 : Fld Z h0 ui c12_ c8_ "Z" (.int (0 : Int32))) (P16 : Z.heap.size ≤ ui) (P17 : Safe Z ([] : List (String × Nat)) vm0 h0 ui) (P18 : Exa Z h0 tu "[B") (hnu0 : (ui ≠ s0_)) (hL : (OwnL Z dz el ee em mr kd ke)) :
    Met l mn853 y61_ 1 (some .int) ws ({ frames := 8, cells := 1, slots := 3, locals := 116 } : Room) Z ([] : List (String × Nat)) vm0 h0 #[(.ref y)] (fun rv vm h => rv = some (.int (((31 : Int32) * (((31 : Int32) * ((31 : Int32) + (own_h bu xu))) + (own_bh pf))) + ((31 : Int32) + (own_h b0_ x0_)))) ∧ Keep h0 h [ui, s0_]) := by
  obtain ⟨hw, hEL, ⟨zc, Scs, hzc⟩, ⟨fm, Sfm, hfm⟩, hL0, hB0, hO0⟩ := id cx
  refine Met.of_walk (a0 := a0) #[vr y] (plainFor_of_name own_pn461) X00 hEL (fun m => by first | (simp [entryFrame, mkF, argsToLocals, Value.category]; done) | rfl) ?_
  intro p e s m below meth c vm hx hby hml hret hnm hC0 hW0
  have lt_y : h0.size > y := P0.lt
  have lt_r : h0.size > r := P4.lt
  have lt_s0_ : h0.size > s0_ := P7.1.lt
  have lt_t0_ : h0.size > t0_ := P7.tlt
  have L11 := hC0.safe lt_s0_ P11
  have lt_ui : h0.size > ui := P13.1.lt
  have lt_tu : h0.size > tu := P13.tlt
  have L17 := hC0.safe lt_ui P17
  obtain ⟨Sdz, Edz, Vdz, Sel, Eel, Fee, Vee, Fan, Sem, Eem, Mmr⟩ := id hL
  refine uKc 1 (3 : Int32) hx hby d832 rfl rfl ?_
  refine gnewR hx (ow hw 141 rfl) (ow hw 142 rfl) (n := (3 : Int32)) (by decide) (cap := 3) (by decide) (by decide) (ad := c4_) (by decide) 4 (hb hby d833) rfl (by decide) (by decide) ?_
  intro b1 h1 k1 g1 E1 C1 V1 A1 O1 n1 L1
  have z1 := C1.2.1
  have V1 : Arv Z h1 b1 k1 (.object c11_) (3 : Int32) [.null, .null, .null] .null := V1.pad (pad_rep [] .null 3)
  have lt_b1 : h1.size > b1 := V1.lt
  refine uD 5 hx hby d834 rfl rfl ?_
  refine uKc 6 (0 : Int32) hx hby d835 rfl rfl ?_
  refine uAN 7 hx hby d836 rfl rfl rfl ?_
  have f2 := (P0.ext E1)
  refine ggetF (host := "") hx (Or.inl (ow hw 102 rfl)) Via.refl f2 10 (hb hby d837) rfl ?_
  refine gstR hx V1 ⟨by decide, by decide⟩ (i := 0) rfl (Nat.le_of_ble_eq_true rfl) (Arv.sto V1 O1 (Ins.of_exa (P13.1.ext E1) (ow hw 229 rfl))) rfl n1 11 (hb hby d838) rfl ?_
  intro h3 W3 C3 V3
  have z3 := C3.2.1
  replace V3 : Arv Z h3 b1 k1 (.object c11_) (3 : Int32) [(.ref ui), .null, .null] .null := V3
  refine uD 12 hx hby d839 rfl rfl ?_
  refine uKc 13 (1 : Int32) hx hby d840 rfl rfl ?_
  refine uAN 14 hx hby d841 rfl rfl rfl ?_
  have f4 := ((P1.ext E1).other W3 (Or.inl (Nat.ne_of_lt (by omega))))
  refine ggetF (host := "") hx (Or.inl (ow hw 104 rfl)) Via.refl f4 17 (hb hby d842) rfl ?_
  refine ginfo fun _ _ O5 => ?_
  refine gcallS (y := mn778) hx (ow hw 143 rfl) (ow hw 144 rfl) (ow hw 145 rfl) (ow hw 146 rfl) (by decide) (fun hZ H hEL => Pay.of_met (W := 3) (own_bval l Z a0 cx [] (pf) vm h3 O5 (by first | assumption | decide | omega)) (ow hw 146 rfl) (ow hw 145 rfl) (by decide) (by decide) hZ H hEL) 20 (argsL := [(.int pf)]) (rest := [(.int (1 : Int32)), (.ref b1), (.ref b1)]) (lenOf own_pd844 rfl) rfl rfl (Nat.le_of_eq rfl) (by rw [hml]; rfl) (hb hby d843) rfl (by decide) (by decide) ?_
  rintro _ vm5 h5 C5 ⟨r5, rfl, rfl, q5_0, q5_1⟩
  have z5 := C5.2.1
  have lt_r5 : h3.size > r5 := q5_0.lt
  refine gat1 ?_
  refine gstR hx V3 ⟨by decide, by decide⟩ (i := 1) rfl (Nat.le_of_ble_eq_true rfl) (Arv.sto V3 O1 (Ins.of_exa q5_0 (ow hw 148 rfl))) rfl n1 21 (hb hby d845) rfl ?_
  intro h6 W6 C6 V6
  have z6 := C6.2.1
  replace V6 : Arv Z h6 b1 k1 (.object c11_) (3 : Int32) [(.ref ui), (.ref r5), .null] .null := V6
  refine uD 22 hx hby d846 rfl rfl ?_
  refine uKc 23 (2 : Int32) hx hby d847 rfl rfl ?_
  refine uAN 24 hx hby d848 rfl rfl rfl ?_
  have f7 := (((P2.ext E1).other W3 (Or.inl (Nat.ne_of_lt (by omega)))).other W6 (Or.inl (Nat.ne_of_lt (by omega))))
  refine ggetF (host := "") hx (Or.inl (ow hw 134 rfl)) Via.refl f7 27 (hb hby d849) rfl ?_
  have f9 := (((P4.ext E1).wr W3).wr W6)
  refine gstR hx V6 ⟨by decide, by decide⟩ (i := 2) rfl (Nat.le_of_ble_eq_true rfl) (Arv.sto V6 O1 (Ins.of_exa f9 (ow hw 349 rfl))) rfl n1 28 (hb hby d850) rfl ?_
  intro h8 W8 C8 V8
  have z8 := C8.2.1
  replace V8 : Arv Z h8 b1 k1 (.object c11_) (3 : Int32) [(.ref ui), (.ref r5), (.ref r)] .null := V8
  have f11 := ((q5_0.wr W6).wr W8)
  have f12 := (((A1.wr W3).wr W6).wr W8)
  have f13 := ((q5_1.other W6 (Or.inl (ne_exa f11 f12 (by decide)))).other W8 (Or.inl (ne_exa f11 f12 (by decide))))
  have f14 := (f9.wr W8)
  have f15 := ((((P5.ext E1).other W3 (Or.inl (Nat.ne_of_lt (by omega)))).other W6 (Or.inl (Nat.ne_of_lt (by omega)))).other W8 (Or.inl (Nat.ne_of_lt (by omega))))
  have f16 := ((((P6.ext E1).other W3 (Or.inl (Nat.ne_of_lt (by omega)))).other W6 (Or.inl (Nat.ne_of_lt (by omega)))).other W8 (Or.inl (Nat.ne_of_lt (by omega))))
  have f17 := ((((P7.ext E1).other W3 (Nat.ne_of_lt (by omega)) (Nat.ne_of_lt (by omega))).other W6 (Nat.ne_of_lt (by omega)) (Nat.ne_of_lt (by omega))).other W8 (Nat.ne_of_lt (by omega)) (Nat.ne_of_lt (by omega)))
  have f18 := ((((P8.ext E1).other W3 (Or.inl (Nat.ne_of_lt (by omega)))).other W6 (Or.inl (Nat.ne_of_lt (by omega)))).other W8 (Or.inl (Nat.ne_of_lt (by omega))))
  have f19 := ((((P9.ext E1).other W3 (Or.inl (Nat.ne_of_lt (by omega)))).other W6 (Or.inl (Nat.ne_of_lt (by omega)))).other W8 (Or.inl (Nat.ne_of_lt (by omega))))
  have f20 := (C8.safe (show h6.size > s0_ by omega) (C6.safe (show h3.size > s0_ by omega) (C5.safe (show h3.size > s0_ by omega) (C3.safe (show h1.size > s0_ by omega) (C1.safe (show h0.size > s0_ by omega) L11)))))
  have f21 := ((((P12.ext E1).wr W3).wr W6).wr W8)
  have f22 := ((((P13.ext E1).other W3 (Nat.ne_of_lt (by omega)) (Nat.ne_of_lt (by omega))).other W6 (Nat.ne_of_lt (by omega)) (Nat.ne_of_lt (by omega))).other W8 (Nat.ne_of_lt (by omega)) (Nat.ne_of_lt (by omega)))
  have f23 := ((((P14.ext E1).other W3 (Or.inl (Nat.ne_of_lt (by omega)))).other W6 (Or.inl (Nat.ne_of_lt (by omega)))).other W8 (Or.inl (Nat.ne_of_lt (by omega))))
  have f24 := ((((P15.ext E1).other W3 (Or.inl (Nat.ne_of_lt (by omega)))).other W6 (Or.inl (Nat.ne_of_lt (by omega)))).other W8 (Or.inl (Nat.ne_of_lt (by omega))))
  have f25 := (C8.safe (show h6.size > ui by omega) (C6.safe (show h3.size > ui by omega) (C5.safe (show h3.size > ui by omega) (C3.safe (show h1.size > ui by omega) (C1.safe (show h0.size > ui by omega) L17)))))
  have f26 := ((((P18.ext E1).wr W3).wr W6).wr W8)
  refine ginfo fun _ _ O10 => ?_
  refine gcallS (y := mn831) hx (ow hw 150 rfl) (ow hw 151 rfl) (ow hw 152 rfl) (ow hw 153 rfl) (by decide) (fun hZ H hEL => Pay.of_met (W := 0) (own_oh1_1 l Z a0 cx [] (b1) (k1) (r5) (pf) (r) (s0_) (t0_) (b0_) (x0_) (ui) (tu) (bu) (xu) (dz) (el) (ee) (em) (mr) (kd) (ke) vm5 h8 O10 V8 f11 f13 f14 f15 f16 f17 f18 f19 P10 f20 f21 f22 f23 f24 P16 f25 f26 (by first | assumption | decide | omega) (by first | assumption | decide | omega)) (ow hw 153 rfl) (ow hw 152 rfl) (by decide) (by decide) hZ H hEL) 31 (argsL := [(.ref b1)]) (rest := []) (lenOf own_pd829 rfl) rfl rfl (Nat.le_of_eq rfl) (by rw [hml]; rfl) (hb hby d851) rfl (by decide) (by decide) ?_
  rintro _ vm10 h10 C10 ⟨rfl, K10⟩
  have z10 := C10.2.1
  refine gat1 ?_
  exact gretI hx hret (hb hby d852) (by decide) (by decide) (fun vq Cq => ⟨rfl, ((((((Keep.refl h0 [ui, s0_]).ext E1).wr W3 (Or.inr (by omega))).wr W6 (Or.inr (by omega))).wr W8 (Or.inr (by omega))).trans K10 (allS (Or.inl (List.mem_of_getElem? (i := 0) rfl)) (allS (Or.inl (List.mem_of_getElem? (i := 1) rfl)) all0)))⟩)
theorem own_lhash2 (l : Launch) (Z : State) (a0 : Array Value) (cx : Ctx Z a0) (ws : List Jvm.Cond) (r : Addr) (s0_ : Addr) (t0_ : Addr) (b0_ : Int32) (x0_ : Int32) (s1_ : Addr) (t1_ : Addr) (b1_ : Int32) (x1_ : Int32) (dz : Addr) (el : Addr) (ee : Addr) (em : Addr) (mr : Addr) (kd : ClassId) (ke : ClassId) (vm0 : Vm) (h0 : Heap) (X00 : Ext Z.heap h0) (P0 : Exa Z h0 r c17_) (P1 : Fld Z h0 r c17_ "e0" c0_ (.ref s0_)) (P2 : Fld Z h0 r c17_ "e1" c0_ (.ref s1_)) (P3 : Str Z h0 s0_ t0_ ((own_fst x0_) :: (own_tl b0_ x0_))) (P4 : Fld Z h0 s0_ c12_ "hash" "I" (.int (0 : Int32))) (P5 : Fld Z h0 s0_ c12_ c8_ "Z" (.int (0 : Int32))) (P6 : Z.heap.size ≤ s0_) (P7 : Safe Z ([] : List (String × Nat)) vm0 h0 s0_) (P8 : Exa Z h0 t0_ "[B") (P9 : Str Z h0 s1_ t1_ ((own_fst x1_) :: (own_tl b1_ x1_))) (P10 : Fld Z h0 s1_ c12_ "hash" "I" (.int (0 : Int32))) (P11 : Fld Z h0 s1_ c12_ c8_ "Z" (.int (0 : Int32))) (P12 : Z.heap.size ≤ s1_) (P13 : Safe Z ([] : List (String × Nat)) vm0 h0 s1_) (P14 : Exa Z h0 t1_ "[B") (hne01 : (s0_ ≠ s1_)) (hL : (OwnL Z dz el ee em mr kd ke)) :
    Met l mn792 y40_ 4 (some .int) ws ({ frames := 5, cells := 0, slots := 0, locals := 71 } : Room) Z ([] : List (String × Nat)) vm0 h0 #[(.ref r)] (fun rv vm h => rv = some (.int (((31 : Int32) * ((31 : Int32) + (own_h b0_ x0_))) + (own_h b1_ x1_))) ∧ Keep h0 h [s0_, s1_]) := by
  obtain ⟨hw, hEL, ⟨zc, Scs, hzc⟩, ⟨fm, Sfm, hfm⟩, hL0, hB0, hO0⟩ := id cx
  refine Met.of_walk (a0 := a0) #[vr r, un, un, un] (plainFor_of_name own_pn214) X00 hEL (fun m => by first | (simp [entryFrame, mkF, argsToLocals, Value.category]; done) | rfl) ?_
  intro p e s m below meth c vm hx hby hml hret hnm hC0 hW0
  have lt_r : h0.size > r := P0.lt
  have lt_s0_ : h0.size > s0_ := P3.1.lt
  have lt_t0_ : h0.size > t0_ := P3.tlt
  have L7 := hC0.safe lt_s0_ P7
  have lt_s1_ : h0.size > s1_ := P9.1.lt
  have lt_t1_ : h0.size > t1_ := P9.tlt
  have L13 := hC0.safe lt_s1_ P13
  obtain ⟨Sdz, Edz, Vdz, Sel, Eel, Fee, Vee, Fan, Sem, Eem, Mmr⟩ := id hL
  refine uKc 1 (1 : Int32) hx hby d779 rfl rfl ?_
  refine uSIN 2 #[vr r, vi (1 : Int32), un, un] hx hby d780 rfl rfl ?_
  refine uKc 3 (0 : Int32) hx hby d781 rfl rfl ?_
  refine uSIN 4 #[vr r, vi (1 : Int32), vi (0 : Int32), un] hx hby d782 rfl rfl ?_
  refine uAN 5 hx hby d783 rfl rfl rfl ?_
  refine ginfo fun _ _ O1 => ?_
  refine gcallVU (y := mn785) (z := mn344) (owner := "java/util/AbstractCollection") hx (ow hw 173 rfl) (ow hw 174 rfl) (ow hw 175 rfl) (ow hw 370 rfl) (ow hw 371 rfl) (by decide) (fun hZ H hEL => Pay.of_met (W := 0) (own_lsize2 l Z a0 cx [] (r) (s0_) (s1_) (dz) (el) (ee) (em) (mr) (kd) (ke) vm h0 O1 P0 P1 P2 P3.1 P9.1 (by first | assumption | decide | omega)) (ow hw 372 rfl) (ow hw 323 rfl) (by decide) (by decide) hZ H hEL) 8 (argsL := []) (rest := []) P0 (lenOf own_pd84 rfl) rfl rfl (Nat.le_of_eq rfl) (by rw [hml]; rfl) (hb hby d784) rfl (by decide) (by decide) ?_
  rintro _ vm1 h1 C1 ⟨rfl, rfl⟩
  have z1 := C1.2.1
  refine gat1 ?_
  refine uSIN 9 #[vr r, vi (1 : Int32), vi (0 : Int32), vi (2 : Int32)] hx hby d786 rfl rfl ?_
  refine uIN 10 hx hby d787 rfl rfl ?_
  refine uIN 11 hx hby d788 rfl rfl ?_
  refine uNc 14 hx hby d789 rfl (tlt (by decide)).2.1 ?_
  refine uKb 16 (31 : Int32) hx hby d854 rfl rfl ?_
  refine uIN 17 hx hby d855 rfl rfl ?_
  refine uimul 18 (31 : Int32) hx hby d856 rfl (by decide) ?_
  refine uAN 19 hx hby d857 rfl rfl rfl ?_
  refine uIN 20 hx hby d858 rfl rfl ?_
  refine ginfo fun _ _ O2 => ?_
  refine gcallVU (y := mn861) (z := mn350) (owner := c19_) hx (ow hw 373 rfl) (ow hw 374 rfl) (ow hw 375 rfl) (ow hw 376 rfl) (ow hw 377 rfl) (by decide) (fun hZ H hEL => Pay.of_met (W := 1) (own_lget2_0 l Z a0 cx [] (r) (s0_) (s1_) (dz) (el) (ee) (em) (mr) (kd) (ke) vm1 h0 O2 P0 P1 P2 P3.1 P9.1 (by first | assumption | decide | omega)) (ow hw 378 rfl) (ow hw 323 rfl) (by decide) (by decide) hZ H hEL) 23 (argsL := [(.int (0 : Int32))]) (rest := [(.int (31 : Int32))]) P0 (lenOf own_pd860 rfl) rfl rfl (Nat.le_of_eq rfl) (by rw [hml]; rfl) (hb hby d859) rfl (by decide) (by decide) ?_
  rintro _ vm2 h2 C2 ⟨rfl, rfl⟩
  have z2 := C2.2.1
  refine gat1 ?_
  have f4 := (C2.safe (show h0.size > s0_ by omega) (C1.safe (show h0.size > s0_ by omega) L7))
  refine ginfo fun _ _ O3 => ?_
  refine gcallS (y := mn757) hx (ow hw 379 rfl) (ow hw 380 rfl) (ow hw 152 rfl) (ow hw 381 rfl) (by decide) (fun hZ H hEL => Pay.of_met (W := 1) (own_ohash l Z a0 cx [] (s0_) (t0_) (b0_) (x0_) vm2 h0 O3 P3 P4 P5 P6 f4 P8) (ow hw 381 rfl) (ow hw 152 rfl) (by decide) (by decide) hZ H hEL) 26 (argsL := [(.ref s0_)]) (rest := [(.int (31 : Int32))]) (lenOf own_pd863 rfl) rfl rfl (Nat.le_of_eq rfl) (by rw [hml]; rfl) (hb hby d862) rfl (by decide) (by decide) ?_
  rintro _ vm3 h3 C3 ⟨rfl, K3⟩
  have z3 := C3.2.1
  refine gat1 ?_
  refine uiadd 27 ((31 : Int32) + (own_h b0_ x0_)) hx hby d864 rfl rfl ?_
  refine uSIN 28 #[vr r, vi ((31 : Int32) + (own_h b0_ x0_)), vi (0 : Int32), vi (2 : Int32)] hx hby d865 rfl rfl ?_
  refine uInc 31 #[vr r, vi ((31 : Int32) + (own_h b0_ x0_)), vi (1 : Int32), vi (2 : Int32)] hx hby d866 rfl rfl rfl ?_
  refine uG 9 hx hby d867 (by decide) (by decide) ?_
  refine uIN 10 hx hby d787 rfl rfl ?_
  refine uIN 11 hx hby d788 rfl rfl ?_
  refine uNc 14 hx hby d789 rfl (tlt (by decide)).2.1 ?_
  refine uKb 16 (31 : Int32) hx hby d854 rfl rfl ?_
  refine uIN 17 hx hby d855 rfl rfl ?_
  refine uimul 18 ((31 : Int32) * ((31 : Int32) + (own_h b0_ x0_))) hx hby d856 rfl rfl ?_
  refine uAN 19 hx hby d857 rfl rfl rfl ?_
  refine uIN 20 hx hby d858 rfl rfl ?_
  have f6 := (P0.keep K3)
  have f7 := (P1.keep K3 (ninS (ne_exa f6 (P3.1.keep K3) (by decide)) nin0))
  have f8 := (P2.keep K3 (ninS (ne_exa f6 (P3.1.keep K3) (by decide)) nin0))
  refine ginfo fun _ _ O5 => ?_
  refine gcallVU (y := mn861) (z := mn350) (owner := c19_) hx (ow hw 373 rfl) (ow hw 374 rfl) (ow hw 375 rfl) (ow hw 376 rfl) (ow hw 377 rfl) (by decide) (fun hZ H hEL => Pay.of_met (W := 1) (own_lget2_1 l Z a0 cx [] (r) (s0_) (s1_) (dz) (el) (ee) (em) (mr) (kd) (ke) vm3 h3 O5 f6 f7 f8 (P3.1.keep K3) (P9.1.keep K3) (by first | assumption | decide | omega)) (ow hw 378 rfl) (ow hw 323 rfl) (by decide) (by decide) hZ H hEL) 23 (argsL := [(.int (1 : Int32))]) (rest := [(.int ((31 : Int32) * ((31 : Int32) + (own_h b0_ x0_))))]) f6 (lenOf own_pd860 rfl) rfl rfl (Nat.le_of_eq rfl) (by rw [hml]; rfl) (hb hby d859) rfl (by decide) (by decide) ?_
  rintro _ vm5 h5 C5 ⟨rfl, rfl⟩
  have z5 := C5.2.1
  refine gat1 ?_
  have f10 := (P14.keep K3)
  have f11 := (P9.keep K3 (ninS (Ne.symm hne01) nin0) (ninS (ne_exa f10 (P3.1.keep K3) (by decide)) nin0))
  have f12 := (P10.keep K3 (ninS (Ne.symm hne01) nin0))
  have f13 := (P11.keep K3 (ninS (Ne.symm hne01) nin0))
  have f14 := (C5.safe (show h3.size > s1_ by omega) (C3.safe (show h0.size > s1_ by omega) (C2.safe (show h0.size > s1_ by omega) (C1.safe (show h0.size > s1_ by omega) L13))))
  refine ginfo fun _ _ O9 => ?_
  refine gcallS (y := mn757) hx (ow hw 379 rfl) (ow hw 380 rfl) (ow hw 152 rfl) (ow hw 381 rfl) (by decide) (fun hZ H hEL => Pay.of_met (W := 1) (own_ohash l Z a0 cx [] (s1_) (t1_) (b1_) (x1_) vm5 h3 O9 f11 f12 f13 P12 f14 f10) (ow hw 381 rfl) (ow hw 152 rfl) (by decide) (by decide) hZ H hEL) 26 (argsL := [(.ref s1_)]) (rest := [(.int ((31 : Int32) * ((31 : Int32) + (own_h b0_ x0_))))]) (lenOf own_pd863 rfl) rfl rfl (Nat.le_of_eq rfl) (by rw [hml]; rfl) (hb hby d862) rfl (by decide) (by decide) ?_
  rintro _ vm9 h9 C9 ⟨rfl, K9⟩
  have z9 := C9.2.1
  refine gat1 ?_
  refine uiadd 27 (((31 : Int32) * ((31 : Int32) + (own_h b0_ x0_))) + (own_h b1_ x1_)) hx hby d864 rfl rfl ?_
  refine uSIN 28 #[vr r, vi (((31 : Int32) * ((31 : Int32) + (own_h b0_ x0_))) + (own_h b1_ x1_)), vi (1 : Int32), vi (2 : Int32)] hx hby d865 rfl rfl ?_
  refine uInc 31 #[vr r, vi (((31 : Int32) * ((31 : Int32) + (own_h b0_ x0_))) + (own_h b1_ x1_)), vi (2 : Int32), vi (2 : Int32)] hx hby d866 rfl rfl rfl ?_
  refine uG 9 hx hby d867 (by decide) (by decide) ?_
  refine uIN 10 hx hby d787 rfl rfl ?_
  refine uIN 11 hx hby d788 rfl rfl ?_
  refine uYc 34 hx hby d789 (flt (by decide)).2.1 (by decide) (by decide) ?_
  refine uIN 35 hx hby d790 rfl rfl ?_
  exact gretI hx hret (hb hby d791) (by decide) (by decide) (fun vq Cq => ⟨rfl, (((Keep.refl h0 [s0_, s1_]).trans K3 (allS (Or.inl (List.mem_of_getElem? (i := 0) rfl)) all0)).trans K9 (allS (Or.inl (List.mem_of_getElem? (i := 1) rfl)) all0))⟩)
theorem own_ahash0_2 (l : Launch) (Z : State) (a0 : Array Value) (cx : Ctx Z a0) (ws : List Jvm.Cond) (a : Addr) (ka : ClassId) (bo : Addr) (pf : Int32) (r : Addr) (s0_ : Addr) (t0_ : Addr) (b0_ : Int32) (x0_ : Int32) (s1_ : Addr) (t1_ : Addr) (b1_ : Int32) (x1_ : Int32) (dz : Addr) (el : Addr) (ee : Addr) (em : Addr) (mr : Addr) (kd : ClassId) (ke : ClassId) (vm0 : Vm) (h0 : Heap) (X00 : Ext Z.heap h0) (P0 : Arv Z h0 a ka (.object c11_) (3 : Int32) [.null, (.ref bo), (.ref r)] .null) (P1 : Exa Z h0 bo c9_) (P2 : Fld Z h0 bo c9_ "value" "Z" (.int pf)) (P3 : Exa Z h0 r c17_) (P4 : Fld Z h0 r c17_ "e0" c0_ (.ref s0_)) (P5 : Fld Z h0 r c17_ "e1" c0_ (.ref s1_)) (P6 : Str Z h0 s0_ t0_ ((own_fst x0_) :: (own_tl b0_ x0_))) (P7 : Fld Z h0 s0_ c12_ "hash" "I" (.int (0 : Int32))) (P8 : Fld Z h0 s0_ c12_ c8_ "Z" (.int (0 : Int32))) (P9 : Z.heap.size ≤ s0_) (P10 : Safe Z ([] : List (String × Nat)) vm0 h0 s0_) (P11 : Exa Z h0 t0_ "[B") (P12 : Str Z h0 s1_ t1_ ((own_fst x1_) :: (own_tl b1_ x1_))) (P13 : Fld Z h0 s1_ c12_ "hash" "I" (.int (0 : Int32))) (P14 : Fld Z h0 s1_ c12_ c8_ "Z" (.int (0 : Int32))) (P15 : Z.heap.size ≤ s1_) (P16 : Safe Z ([] : List (String × Nat)) vm0 h0 s1_) (P17 : Exa Z h0 t1_ "[B") (hne01 : (s0_ ≠ s1_)) (hL : (OwnL Z dz el ee em mr kd ke)) :
    Met l mn826 y55_ 6 (some .int) ws ({ frames := 6, cells := 0, slots := 0, locals := 87 } : Room) Z ([] : List (String × Nat)) vm0 h0 #[(.ref a)] (fun rv vm h => rv = some (.int (((31 : Int32) * ((961 : Int32) + (own_bh pf))) + (((31 : Int32) * ((31 : Int32) + (own_h b0_ x0_))) + (own_h b1_ x1_)))) ∧ Keep h0 h [s0_, s1_]) := by
  obtain ⟨hw, hEL, ⟨zc, Scs, hzc⟩, ⟨fm, Sfm, hfm⟩, hL0, hB0, hO0⟩ := id cx
  refine Met.of_walk (a0 := a0) #[vr a, un, un, un, un, un] (plainFor_of_name own_pn266) X00 hEL (fun m => by first | (simp [entryFrame, mkF, argsToLocals, Value.category]; done) | rfl) ?_
  intro p e s m below meth c vm hx hby hml hret hnm hC0 hW0
  have lt_a : h0.size > a := P0.lt
  have lt_bo : h0.size > bo := P1.lt
  have lt_r : h0.size > r := P3.lt
  have lt_s0_ : h0.size > s0_ := P6.1.lt
  have lt_t0_ : h0.size > t0_ := P6.tlt
  have L10 := hC0.safe lt_s0_ P10
  have lt_s1_ : h0.size > s1_ := P12.1.lt
  have lt_t1_ : h0.size > t1_ := P12.tlt
  have L16 := hC0.safe lt_s1_ P16
  obtain ⟨Sdz, Edz, Vdz, Sel, Eel, Fee, Vee, Fan, Sem, Eem, Mmr⟩ := id hL
  refine uAN 1 hx hby d793 rfl rfl rfl ?_
  refine uY1 6 hx hby d794 (by decide) (by decide) ?_
  refine uKc 7 (1 : Int32) hx hby d795 rfl rfl ?_
  refine uSIN 8 #[vr a, vi (1 : Int32), un, un, un, un] hx hby d796 rfl rfl ?_
  refine uAN 9 hx hby d797 rfl rfl rfl ?_
  refine uSAN 10 #[vr a, vi (1 : Int32), vr a, un, un, un] hx hby d798 rfl rfl rfl ?_
  refine uAN 11 hx hby d799 rfl rfl rfl ?_
  refine glen hx P0 12 (hb hby d800) rfl ?_
  refine uSIN 13 #[vr a, vi (1 : Int32), vr a, vi (3 : Int32), un, un] hx hby d801 rfl rfl ?_
  refine uKc 14 (0 : Int32) hx hby d802 rfl rfl ?_
  refine uSI 16 #[vr a, vi (1 : Int32), vr a, vi (3 : Int32), vi (0 : Int32), un] hx hby d803 rfl rfl ?_
  refine uI 18 hx hby d804 rfl rfl ?_
  refine uIN 19 hx hby d805 rfl rfl ?_
  refine uNc 22 hx hby d806 rfl (tlt (by decide)).2.1 ?_
  refine uAN 23 hx hby d807 rfl rfl rfl ?_
  refine uI 25 hx hby d808 rfl rfl ?_
  refine gldR hx P0 ⟨by decide, by decide⟩ (i := 0) rfl (v := .null) rfl 26 (hb hby d809) rfl ?_
  refine uSA 28 #[vr a, vi (1 : Int32), vr a, vi (3 : Int32), vi (0 : Int32), .val .null] hx hby d810 rfl rfl rfl ?_
  refine uKb 30 (31 : Int32) hx hby d811 rfl rfl ?_
  refine uIN 31 hx hby d812 rfl rfl ?_
  refine uimul 32 (31 : Int32) hx hby d813 rfl (by decide) ?_
  refine uA 34 hx hby d814 rfl rfl rfl ?_
  refine uN1 37 hx hby d815 rfl ?_
  refine uKc 38 (0 : Int32) hx hby d816 rfl rfl ?_
  refine uG 46 hx hby d817 (by decide) (by decide) ?_
  refine uiadd 47 (31 : Int32) hx hby d818 rfl (by decide) ?_
  refine uSIN 48 #[vr a, vi (31 : Int32), vr a, vi (3 : Int32), vi (0 : Int32), .val .null] hx hby d819 rfl rfl ?_
  refine uInc 51 #[vr a, vi (31 : Int32), vr a, vi (3 : Int32), vi (1 : Int32), .val .null] hx hby d820 rfl rfl rfl ?_
  refine uG 16 hx hby d821 (by decide) (by decide) ?_
  refine uI 18 hx hby d804 rfl rfl ?_
  refine uIN 19 hx hby d805 rfl rfl ?_
  refine uNc 22 hx hby d806 rfl (tlt (by decide)).2.1 ?_
  refine uAN 23 hx hby d807 rfl rfl rfl ?_
  refine uI 25 hx hby d808 rfl rfl ?_
  refine gldR hx P0 ⟨by decide, by decide⟩ (i := 1) rfl (v := (.ref bo)) rfl 26 (hb hby d809) rfl ?_
  refine uSA 28 #[vr a, vi (31 : Int32), vr a, vi (3 : Int32), vi (1 : Int32), vr bo] hx hby d810 rfl rfl rfl ?_
  refine uKb 30 (31 : Int32) hx hby d811 rfl rfl ?_
  refine uIN 31 hx hby d812 rfl rfl ?_
  refine uimul 32 (961 : Int32) hx hby d813 rfl (by decide) ?_
  refine uA 34 hx hby d814 rfl rfl rfl ?_
  refine uY1 41 hx hby d815 (by decide) (by decide) ?_
  refine uA 43 hx hby d822 rfl rfl rfl ?_
  refine ginfo fun _ _ O1 => ?_
  refine gcallV (y := mn753) (z := mn771) hx (ow hw 158 rfl) (ow hw 159 rfl) (nfSame (y' := mn754) (ow hw 303 rfl) (ow hw 302 rfl) rfl) (ow hw 161 rfl) (ow hw 162 rfl) (by decide) (fun hZ H hEL => Pay.of_met (W := 1) (own_bho l Z a0 cx [] (bo) (pf) vm h0 O1 P1 P2) (ow hw 163 rfl) (ow hw 145 rfl) (by decide) (by decide) hZ H hEL) 46 (argsL := []) (rest := [(.int (961 : Int32))]) P1 (lenOf own_pd84 rfl) rfl rfl (Nat.le_of_eq rfl) (by rw [hml]; rfl) (hb hby d823) rfl (by decide) (by decide) ?_
  rintro _ vm1 h1 C1 ⟨rfl, rfl⟩
  have z1 := C1.2.1
  refine gat1 ?_
  refine uiadd 47 ((961 : Int32) + (own_bh pf)) hx hby d818 rfl rfl ?_
  refine uSIN 48 #[vr a, vi ((961 : Int32) + (own_bh pf)), vr a, vi (3 : Int32), vi (1 : Int32), vr bo] hx hby d819 rfl rfl ?_
  refine uInc 51 #[vr a, vi ((961 : Int32) + (own_bh pf)), vr a, vi (3 : Int32), vi (2 : Int32), vr bo] hx hby d820 rfl rfl rfl ?_
  refine uG 16 hx hby d821 (by decide) (by decide) ?_
  refine uI 18 hx hby d804 rfl rfl ?_
  refine uIN 19 hx hby d805 rfl rfl ?_
  refine uNc 22 hx hby d806 rfl (tlt (by decide)).2.1 ?_
  refine uAN 23 hx hby d807 rfl rfl rfl ?_
  refine uI 25 hx hby d808 rfl rfl ?_
  refine gldR hx P0 ⟨by decide, by decide⟩ (i := 2) rfl (v := (.ref r)) rfl 26 (hb hby d809) rfl ?_
  refine uSA 28 #[vr a, vi ((961 : Int32) + (own_bh pf)), vr a, vi (3 : Int32), vi (2 : Int32), vr r] hx hby d810 rfl rfl rfl ?_
  refine uKb 30 (31 : Int32) hx hby d811 rfl rfl ?_
  refine uIN 31 hx hby d812 rfl rfl ?_
  refine uimul 32 ((31 : Int32) * ((961 : Int32) + (own_bh pf))) hx hby d813 rfl rfl ?_
  refine uA 34 hx hby d814 rfl rfl rfl ?_
  refine uY1 41 hx hby d815 (by decide) (by decide) ?_
  refine uA 43 hx hby d822 rfl rfl rfl ?_
  have f3 := (C1.safe (show h0.size > s0_ by omega) L10)
  have f4 := (C1.safe (show h0.size > s1_ by omega) L16)
  refine ginfo fun _ _ O2 => ?_
  refine gcallV (y := mn753) (z := mn792) hx (ow hw 158 rfl) (ow hw 159 rfl) (nfSame (y' := mn754) (ow hw 303 rfl) (ow hw 302 rfl) rfl) (ow hw 369 rfl) (ow hw 170 rfl) (by decide) (fun hZ H hEL => Pay.of_met (W := 1) (own_lhash2 l Z a0 cx [] (r) (s0_) (t0_) (b0_) (x0_) (s1_) (t1_) (b1_) (x1_) (dz) (el) (ee) (em) (mr) (kd) (ke) vm1 h0 O2 P3 P4 P5 P6 P7 P8 P9 f3 P11 P12 P13 P14 P15 f4 P17 (by first | assumption | decide | omega) (by first | assumption | decide | omega)) (ow hw 172 rfl) (ow hw 171 rfl) (by decide) (by decide) hZ H hEL) 46 (argsL := []) (rest := [(.int ((31 : Int32) * ((961 : Int32) + (own_bh pf))))]) P3 (lenOf own_pd84 rfl) rfl rfl (Nat.le_of_eq rfl) (by rw [hml]; rfl) (hb hby d823) rfl (by decide) (by decide) ?_
  rintro _ vm2 h2 C2 ⟨rfl, K2⟩
  have z2 := C2.2.1
  refine gat1 ?_
  refine uiadd 47 (((31 : Int32) * ((961 : Int32) + (own_bh pf))) + (((31 : Int32) * ((31 : Int32) + (own_h b0_ x0_))) + (own_h b1_ x1_))) hx hby d818 rfl rfl ?_
  refine uSIN 48 #[vr a, vi (((31 : Int32) * ((961 : Int32) + (own_bh pf))) + (((31 : Int32) * ((31 : Int32) + (own_h b0_ x0_))) + (own_h b1_ x1_))), vr a, vi (3 : Int32), vi (2 : Int32), vr r] hx hby d819 rfl rfl ?_
  refine uInc 51 #[vr a, vi (((31 : Int32) * ((961 : Int32) + (own_bh pf))) + (((31 : Int32) * ((31 : Int32) + (own_h b0_ x0_))) + (own_h b1_ x1_))), vr a, vi (3 : Int32), vi (3 : Int32), vr r] hx hby d820 rfl rfl rfl ?_
  refine uG 16 hx hby d821 (by decide) (by decide) ?_
  refine uI 18 hx hby d804 rfl rfl ?_
  refine uIN 19 hx hby d805 rfl rfl ?_
  refine uYc 54 hx hby d806 (flt (by decide)).2.1 (by decide) (by decide) ?_
  refine uIN 55 hx hby d824 rfl rfl ?_
  exact gretI hx hret (hb hby d825) (by decide) (by decide) (fun vq Cq => ⟨rfl, ((Keep.refl h0 [s0_, s1_]).trans K2 (allS (Or.inl (List.mem_of_getElem? (i := 0) rfl)) (allS (Or.inl (List.mem_of_getElem? (i := 1) rfl)) all0)))⟩)
theorem own_oh0_2 (l : Launch) (Z : State) (a0 : Array Value) (cx : Ctx Z a0) (ws : List Jvm.Cond) (a : Addr) (ka : ClassId) (bo : Addr) (pf : Int32) (r : Addr) (s0_ : Addr) (t0_ : Addr) (b0_ : Int32) (x0_ : Int32) (s1_ : Addr) (t1_ : Addr) (b1_ : Int32) (x1_ : Int32) (dz : Addr) (el : Addr) (ee : Addr) (em : Addr) (mr : Addr) (kd : ClassId) (ke : ClassId) (vm0 : Vm) (h0 : Heap) (X00 : Ext Z.heap h0) (P0 : Arv Z h0 a ka (.object c11_) (3 : Int32) [.null, (.ref bo), (.ref r)] .null) (P1 : Exa Z h0 bo c9_) (P2 : Fld Z h0 bo c9_ "value" "Z" (.int pf)) (P3 : Exa Z h0 r c17_) (P4 : Fld Z h0 r c17_ "e0" c0_ (.ref s0_)) (P5 : Fld Z h0 r c17_ "e1" c0_ (.ref s1_)) (P6 : Str Z h0 s0_ t0_ ((own_fst x0_) :: (own_tl b0_ x0_))) (P7 : Fld Z h0 s0_ c12_ "hash" "I" (.int (0 : Int32))) (P8 : Fld Z h0 s0_ c12_ c8_ "Z" (.int (0 : Int32))) (P9 : Z.heap.size ≤ s0_) (P10 : Safe Z ([] : List (String × Nat)) vm0 h0 s0_) (P11 : Exa Z h0 t0_ "[B") (P12 : Str Z h0 s1_ t1_ ((own_fst x1_) :: (own_tl b1_ x1_))) (P13 : Fld Z h0 s1_ c12_ "hash" "I" (.int (0 : Int32))) (P14 : Fld Z h0 s1_ c12_ c8_ "Z" (.int (0 : Int32))) (P15 : Z.heap.size ≤ s1_) (P16 : Safe Z ([] : List (String × Nat)) vm0 h0 s1_) (P17 : Exa Z h0 t1_ "[B") (hne01 : (s0_ ≠ s1_)) (hL : (OwnL Z dz el ee em mr kd ke)) :
    Met l mn831 y10_ 1 (some .int) ws ({ frames := 7, cells := 0, slots := 0, locals := 104 } : Room) Z ([] : List (String × Nat)) vm0 h0 #[(.ref a)] (fun rv vm h => rv = some (.int (((31 : Int32) * ((961 : Int32) + (own_bh pf))) + (((31 : Int32) * ((31 : Int32) + (own_h b0_ x0_))) + (own_h b1_ x1_)))) ∧ Keep h0 h [s0_, s1_]) := by
  obtain ⟨hw, hEL, ⟨zc, Scs, hzc⟩, ⟨fm, Sfm, hfm⟩, hL0, hB0, hO0⟩ := id cx
  refine Met.of_walk (a0 := a0) #[vr a] (plainFor_of_name own_pn204) X00 hEL (fun m => by first | (simp [entryFrame, mkF, argsToLocals, Value.category]; done) | rfl) ?_
  intro p e s m below meth c vm hx hby hml hret hnm hC0 hW0
  have lt_a : h0.size > a := P0.lt
  have lt_bo : h0.size > bo := P1.lt
  have lt_r : h0.size > r := P3.lt
  have lt_s0_ : h0.size > s0_ := P6.1.lt
  have lt_t0_ : h0.size > t0_ := P6.tlt
  have L10 := hC0.safe lt_s0_ P10
  have lt_s1_ : h0.size > s1_ := P12.1.lt
  have lt_t1_ : h0.size > t1_ := P12.tlt
  have L16 := hC0.safe lt_s1_ P16
  obtain ⟨Sdz, Edz, Vdz, Sel, Eel, Fee, Vee, Fan, Sem, Eem, Mmr⟩ := id hL
  refine uAN 1 hx hby d827 rfl rfl rfl ?_
  refine ginfo fun _ _ O1 => ?_
  refine gcallS (y := mn826) hx (ow hw 154 rfl) (ow hw 155 rfl) (ow hw 156 rfl) (ow hw 157 rfl) (by decide) (fun hZ H hEL => Pay.of_met (W := 0) (own_ahash0_2 l Z a0 cx [] (a) (ka) (bo) (pf) (r) (s0_) (t0_) (b0_) (x0_) (s1_) (t1_) (b1_) (x1_) (dz) (el) (ee) (em) (mr) (kd) (ke) vm h0 O1 P0 P1 P2 P3 P4 P5 P6 P7 P8 P9 L10 P11 P12 P13 P14 P15 L16 P17 (by first | assumption | decide | omega) (by first | assumption | decide | omega)) (ow hw 157 rfl) (ow hw 156 rfl) (by decide) (by decide) hZ H hEL) 4 (argsL := [(.ref a)]) (rest := []) (lenOf own_pd829 rfl) rfl rfl (Nat.le_of_eq rfl) (by rw [hml]; rfl) (hb hby d828) rfl (by decide) (by decide) ?_
  rintro _ vm1 h1 C1 ⟨rfl, K1⟩
  have z1 := C1.2.1
  refine gat1 ?_
  exact gretI hx hret (hb hby d830) (by decide) (by decide) (fun vq Cq => ⟨rfl, ((Keep.refl h0 [s0_, s1_]).trans K1 (allS (Or.inl (List.mem_of_getElem? (i := 0) rfl)) (allS (Or.inl (List.mem_of_getElem? (i := 1) rfl)) all0)))⟩)
theorem own_chash0_2 (l : Launch) (Z : State) (a0 : Array Value) (cx : Ctx Z a0) (ws : List Jvm.Cond) (y : Addr) (pf : Int32) (r : Addr) (s0_ : Addr) (t0_ : Addr) (b0_ : Int32) (x0_ : Int32) (s1_ : Addr) (t1_ : Addr) (b1_ : Int32) (x1_ : Int32) (dz : Addr) (el : Addr) (ee : Addr) (em : Addr) (mr : Addr) (kd : ClassId) (ke : ClassId) (vm0 : Vm) (h0 : Heap) (X00 : Ext Z.heap h0) (P0 : Fld Z h0 y c5_ "ui" c1_ .null) (P1 : Fld Z h0 y c5_ "preferred" "Z" (.int pf)) (P2 : Fld Z h0 y c5_ "terms" c3_ (.ref r)) (b_pf : (pf = 0 ∨ pf = 1)) (P4 : Exa Z h0 r c17_) (P5 : Fld Z h0 r c17_ "e0" c0_ (.ref s0_)) (P6 : Fld Z h0 r c17_ "e1" c0_ (.ref s1_)) (P7 : Str Z h0 s0_ t0_ ((own_fst x0_) :: (own_tl b0_ x0_))) (P8 : Fld Z h0 s0_ c12_ "hash" "I" (.int (0 : Int32))) (P9 : Fld Z h0 s0_ c12_ c8_ "Z" (.int (0 : Int32))) (P10 : Z.heap.size ≤ s0_) (P11 : Safe Z ([] : List (String × Nat)) vm0 h0 s0_) (P12 : Exa Z h0 t0_ "[B") (P13 : Str Z h0 s1_ t1_ ((own_fst x1_) :: (own_tl b1_ x1_))) (P14 : Fld Z h0 s1_ c12_ "hash" "I" (.int (0 : Int32))) (P15 : Fld Z h0 s1_ c12_ c8_ "Z" (.int (0 : Int32))) (P16 : Z.heap.size ≤ s1_) (P17 : Safe Z ([] : List (String × Nat)) vm0 h0 s1_) (P18 : Exa Z h0 t1_ "[B") (hne01 : (s0_ ≠ s1_)) (hL : (OwnL Z dz el ee em mr kd ke)) :
    Met l mn853 y61_ 1 (some .int) ws ({ frames := 8, cells := 1, slots := 3, locals := 116 } : Room) Z ([] : List (String × Nat)) vm0 h0 #[(.ref y)] (fun rv vm h => rv = some (.int (((31 : Int32) * ((961 : Int32) + (own_bh pf))) + (((31 : Int32) * ((31 : Int32) + (own_h b0_ x0_))) + (own_h b1_ x1_)))) ∧ Keep h0 h [s0_, s1_]) := by
  obtain ⟨hw, hEL, ⟨zc, Scs, hzc⟩, ⟨fm, Sfm, hfm⟩, hL0, hB0, hO0⟩ := id cx
  refine Met.of_walk (a0 := a0) #[vr y] (plainFor_of_name own_pn461) X00 hEL (fun m => by first | (simp [entryFrame, mkF, argsToLocals, Value.category]; done) | rfl) ?_
  intro p e s m below meth c vm hx hby hml hret hnm hC0 hW0
  have lt_y : h0.size > y := P0.lt
  have lt_r : h0.size > r := P4.lt
  have lt_s0_ : h0.size > s0_ := P7.1.lt
  have lt_t0_ : h0.size > t0_ := P7.tlt
  have L11 := hC0.safe lt_s0_ P11
  have lt_s1_ : h0.size > s1_ := P13.1.lt
  have lt_t1_ : h0.size > t1_ := P13.tlt
  have L17 := hC0.safe lt_s1_ P17
  obtain ⟨Sdz, Edz, Vdz, Sel, Eel, Fee, Vee, Fan, Sem, Eem, Mmr⟩ := id hL
  refine uKc 1 (3 : Int32) hx hby d832 rfl rfl ?_
  refine gnewR hx (ow hw 141 rfl) (ow hw 142 rfl) (n := (3 : Int32)) (by decide) (cap := 3) (by decide) (by decide) (ad := c4_) (by decide) 4 (hb hby d833) rfl (by decide) (by decide) ?_
  intro b1 h1 k1 g1 E1 C1 V1 A1 O1 n1 L1
  have z1 := C1.2.1
  have V1 : Arv Z h1 b1 k1 (.object c11_) (3 : Int32) [.null, .null, .null] .null := V1.pad (pad_rep [] .null 3)
  have lt_b1 : h1.size > b1 := V1.lt
  refine uD 5 hx hby d834 rfl rfl ?_
  refine uKc 6 (0 : Int32) hx hby d835 rfl rfl ?_
  refine uAN 7 hx hby d836 rfl rfl rfl ?_
  have f2 := (P0.ext E1)
  refine ggetF (host := "") hx (Or.inl (ow hw 102 rfl)) Via.refl f2 10 (hb hby d837) rfl ?_
  refine gstR hx V1 ⟨by decide, by decide⟩ (i := 0) rfl (Nat.le_of_ble_eq_true rfl) (Or.inl rfl) rfl n1 11 (hb hby d838) rfl ?_
  intro h3 W3 C3 V3
  have z3 := C3.2.1
  replace V3 : Arv Z h3 b1 k1 (.object c11_) (3 : Int32) [.null, .null, .null] .null := V3
  refine uD 12 hx hby d839 rfl rfl ?_
  refine uKc 13 (1 : Int32) hx hby d840 rfl rfl ?_
  refine uAN 14 hx hby d841 rfl rfl rfl ?_
  have f4 := ((P1.ext E1).other W3 (Or.inl (Nat.ne_of_lt (by omega))))
  refine ggetF (host := "") hx (Or.inl (ow hw 104 rfl)) Via.refl f4 17 (hb hby d842) rfl ?_
  refine ginfo fun _ _ O5 => ?_
  refine gcallS (y := mn778) hx (ow hw 143 rfl) (ow hw 144 rfl) (ow hw 145 rfl) (ow hw 146 rfl) (by decide) (fun hZ H hEL => Pay.of_met (W := 3) (own_bval l Z a0 cx [] (pf) vm h3 O5 (by first | assumption | decide | omega)) (ow hw 146 rfl) (ow hw 145 rfl) (by decide) (by decide) hZ H hEL) 20 (argsL := [(.int pf)]) (rest := [(.int (1 : Int32)), (.ref b1), (.ref b1)]) (lenOf own_pd844 rfl) rfl rfl (Nat.le_of_eq rfl) (by rw [hml]; rfl) (hb hby d843) rfl (by decide) (by decide) ?_
  rintro _ vm5 h5 C5 ⟨r5, rfl, rfl, q5_0, q5_1⟩
  have z5 := C5.2.1
  have lt_r5 : h3.size > r5 := q5_0.lt
  refine gat1 ?_
  refine gstR hx V3 ⟨by decide, by decide⟩ (i := 1) rfl (Nat.le_of_ble_eq_true rfl) (Arv.sto V3 O1 (Ins.of_exa q5_0 (ow hw 148 rfl))) rfl n1 21 (hb hby d845) rfl ?_
  intro h6 W6 C6 V6
  have z6 := C6.2.1
  replace V6 : Arv Z h6 b1 k1 (.object c11_) (3 : Int32) [.null, (.ref r5), .null] .null := V6
  refine uD 22 hx hby d846 rfl rfl ?_
  refine uKc 23 (2 : Int32) hx hby d847 rfl rfl ?_
  refine uAN 24 hx hby d848 rfl rfl rfl ?_
  have f7 := (((P2.ext E1).other W3 (Or.inl (Nat.ne_of_lt (by omega)))).other W6 (Or.inl (Nat.ne_of_lt (by omega))))
  refine ggetF (host := "") hx (Or.inl (ow hw 134 rfl)) Via.refl f7 27 (hb hby d849) rfl ?_
  have f9 := (((P4.ext E1).wr W3).wr W6)
  refine gstR hx V6 ⟨by decide, by decide⟩ (i := 2) rfl (Nat.le_of_ble_eq_true rfl) (Arv.sto V6 O1 (Ins.of_exa f9 (ow hw 349 rfl))) rfl n1 28 (hb hby d850) rfl ?_
  intro h8 W8 C8 V8
  have z8 := C8.2.1
  replace V8 : Arv Z h8 b1 k1 (.object c11_) (3 : Int32) [.null, (.ref r5), (.ref r)] .null := V8
  have f11 := ((q5_0.wr W6).wr W8)
  have f12 := (((A1.wr W3).wr W6).wr W8)
  have f13 := ((q5_1.other W6 (Or.inl (ne_exa f11 f12 (by decide)))).other W8 (Or.inl (ne_exa f11 f12 (by decide))))
  have f14 := (f9.wr W8)
  have f15 := ((((P5.ext E1).other W3 (Or.inl (Nat.ne_of_lt (by omega)))).other W6 (Or.inl (Nat.ne_of_lt (by omega)))).other W8 (Or.inl (Nat.ne_of_lt (by omega))))
  have f16 := ((((P6.ext E1).other W3 (Or.inl (Nat.ne_of_lt (by omega)))).other W6 (Or.inl (Nat.ne_of_lt (by omega)))).other W8 (Or.inl (Nat.ne_of_lt (by omega))))
  have f17 := ((((P7.ext E1).other W3 (Nat.ne_of_lt (by omega)) (Nat.ne_of_lt (by omega))).other W6 (Nat.ne_of_lt (by omega)) (Nat.ne_of_lt (by omega))).other W8 (Nat.ne_of_lt (by omega)) (Nat.ne_of_lt (by omega)))
  have f18 := ((((P8.ext E1).other W3 (Or.inl (Nat.ne_of_lt (by omega)))).other W6 (Or.inl (Nat.ne_of_lt (by omega)))).other W8 (Or.inl (Nat.ne_of_lt (by omega))))
  have f19 := ((((P9.ext E1).other W3 (Or.inl (Nat.ne_of_lt (by omega)))).other W6 (Or.inl (Nat.ne_of_lt (by omega)))).other W8 (Or.inl (Nat.ne_of_lt (by omega))))
  have f20 := (C8.safe (show h6.size > s0_ by omega) (C6.safe (show h3.size > s0_ by omega) (C5.safe (show h3.size > s0_ by omega) (C3.safe (show h1.size > s0_ by omega) (C1.safe (show h0.size > s0_ by omega) L11)))))
  have f21 := ((((P12.ext E1).wr W3).wr W6).wr W8)
  have f22 := ((((P13.ext E1).other W3 (Nat.ne_of_lt (by omega)) (Nat.ne_of_lt (by omega))).other W6 (Nat.ne_of_lt (by omega)) (Nat.ne_of_lt (by omega))).other W8 (Nat.ne_of_lt (by omega)) (Nat.ne_of_lt (by omega)))
  have f23 := ((((P14.ext E1).other W3 (Or.inl (Nat.ne_of_lt (by omega)))).other W6 (Or.inl (Nat.ne_of_lt (by omega)))).other W8 (Or.inl (Nat.ne_of_lt (by omega))))
  have f24 := ((((P15.ext E1).other W3 (Or.inl (Nat.ne_of_lt (by omega)))).other W6 (Or.inl (Nat.ne_of_lt (by omega)))).other W8 (Or.inl (Nat.ne_of_lt (by omega))))
  have f25 := (C8.safe (show h6.size > s1_ by omega) (C6.safe (show h3.size > s1_ by omega) (C5.safe (show h3.size > s1_ by omega) (C3.safe (show h1.size > s1_ by omega) (C1.safe (show h0.size > s1_ by omega) L17)))))
  have f26 := ((((P18.ext E1).wr W3).wr W6).wr W8)
  refine ginfo fun _ _ O10 => ?_
  refine gcallS (y := mn831) hx (ow hw 150 rfl) (ow hw 151 rfl) (ow hw 152 rfl) (ow hw 153 rfl) (by decide) (fun hZ H hEL => Pay.of_met (W := 0) (own_oh0_2 l Z a0 cx [] (b1) (k1) (r5) (pf) (r) (s0_) (t0_) (b0_) (x0_) (s1_) (t1_) (b1_) (x1_) (dz) (el) (ee) (em) (mr) (kd) (ke) vm5 h8 O10 V8 f11 f13 f14 f15 f16 f17 f18 f19 P10 f20 f21 f22 f23 f24 P16 f25 f26 (by first | assumption | decide | omega) (by first | assumption | decide | omega)) (ow hw 153 rfl) (ow hw 152 rfl) (by decide) (by decide) hZ H hEL) 31 (argsL := [(.ref b1)]) (rest := []) (lenOf own_pd829 rfl) rfl rfl (Nat.le_of_eq rfl) (by rw [hml]; rfl) (hb hby d851) rfl (by decide) (by decide) ?_
  rintro _ vm10 h10 C10 ⟨rfl, K10⟩
  have z10 := C10.2.1
  refine gat1 ?_
  exact gretI hx hret (hb hby d852) (by decide) (by decide) (fun vq Cq => ⟨rfl, ((((((Keep.refl h0 [s0_, s1_]).ext E1).wr W3 (Or.inr (by omega))).wr W6 (Or.inr (by omega))).wr W8 (Or.inr (by omega))).trans K10 (allS (Or.inl (List.mem_of_getElem? (i := 0) rfl)) (allS (Or.inl (List.mem_of_getElem? (i := 1) rfl)) all0)))⟩)
theorem own_ahash1_2 (l : Launch) (Z : State) (a0 : Array Value) (cx : Ctx Z a0) (ws : List Jvm.Cond) (a : Addr) (ka : ClassId) (bo : Addr) (pf : Int32) (r : Addr) (s0_ : Addr) (t0_ : Addr) (b0_ : Int32) (x0_ : Int32) (s1_ : Addr) (t1_ : Addr) (b1_ : Int32) (x1_ : Int32) (ui : Addr) (tu : Addr) (bu : Int32) (xu : Int32) (dz : Addr) (el : Addr) (ee : Addr) (em : Addr) (mr : Addr) (kd : ClassId) (ke : ClassId) (vm0 : Vm) (h0 : Heap) (X00 : Ext Z.heap h0) (P0 : Arv Z h0 a ka (.object c11_) (3 : Int32) [(.ref ui), (.ref bo), (.ref r)] .null) (P1 : Exa Z h0 bo c9_) (P2 : Fld Z h0 bo c9_ "value" "Z" (.int pf)) (P3 : Exa Z h0 r c17_) (P4 : Fld Z h0 r c17_ "e0" c0_ (.ref s0_)) (P5 : Fld Z h0 r c17_ "e1" c0_ (.ref s1_)) (P6 : Str Z h0 s0_ t0_ ((own_fst x0_) :: (own_tl b0_ x0_))) (P7 : Fld Z h0 s0_ c12_ "hash" "I" (.int (0 : Int32))) (P8 : Fld Z h0 s0_ c12_ c8_ "Z" (.int (0 : Int32))) (P9 : Z.heap.size ≤ s0_) (P10 : Safe Z ([] : List (String × Nat)) vm0 h0 s0_) (P11 : Exa Z h0 t0_ "[B") (P12 : Str Z h0 s1_ t1_ ((own_fst x1_) :: (own_tl b1_ x1_))) (P13 : Fld Z h0 s1_ c12_ "hash" "I" (.int (0 : Int32))) (P14 : Fld Z h0 s1_ c12_ c8_ "Z" (.int (0 : Int32))) (P15 : Z.heap.size ≤ s1_) (P16 : Safe Z ([] : List (String × Nat)) vm0 h0 s1_) (P17 : Exa Z h0 t1_ "[B") (hne01 : (s0_ ≠ s1_)) (P19 : Str Z h0 ui tu ((own_fst xu) :: (own_tl bu xu))) (P20 : Fld Z h0 ui c12_ "hash" "I" (.int (0 : Int32))) (P21 : Fld Z h0 ui c12_ c8_ "Z" (.int (0 : Int32))) (P22 : Z.heap.size ≤ ui) (P23 : Safe Z ([] : List (String × Nat)) vm0 h0 ui) (P24 : Exa Z h0 tu "[B") (hnu0 : (ui ≠ s0_)) (hnu1 : (ui ≠ s1_)) (hL : (OwnL Z dz el ee em mr kd ke)) :
    Met l mn826 y55_ 6 (some .int) ws ({ frames := 6, cells := 0, slots := 0, locals := 87 } : Room) Z ([] : List (String × Nat)) vm0 h0 #[(.ref a)] (fun rv vm h => rv = some (.int (((31 : Int32) * (((31 : Int32) * ((31 : Int32) + (own_h bu xu))) + (own_bh pf))) + (((31 : Int32) * ((31 : Int32) + (own_h b0_ x0_))) + (own_h b1_ x1_)))) ∧ Keep h0 h [ui, s0_, s1_]) := by
  obtain ⟨hw, hEL, ⟨zc, Scs, hzc⟩, ⟨fm, Sfm, hfm⟩, hL0, hB0, hO0⟩ := id cx
  refine Met.of_walk (a0 := a0) #[vr a, un, un, un, un, un] (plainFor_of_name own_pn266) X00 hEL (fun m => by first | (simp [entryFrame, mkF, argsToLocals, Value.category]; done) | rfl) ?_
  intro p e s m below meth c vm hx hby hml hret hnm hC0 hW0
  have lt_a : h0.size > a := P0.lt
  have lt_bo : h0.size > bo := P1.lt
  have lt_r : h0.size > r := P3.lt
  have lt_s0_ : h0.size > s0_ := P6.1.lt
  have lt_t0_ : h0.size > t0_ := P6.tlt
  have L10 := hC0.safe lt_s0_ P10
  have lt_s1_ : h0.size > s1_ := P12.1.lt
  have lt_t1_ : h0.size > t1_ := P12.tlt
  have L16 := hC0.safe lt_s1_ P16
  have lt_ui : h0.size > ui := P19.1.lt
  have lt_tu : h0.size > tu := P19.tlt
  have L23 := hC0.safe lt_ui P23
  obtain ⟨Sdz, Edz, Vdz, Sel, Eel, Fee, Vee, Fan, Sem, Eem, Mmr⟩ := id hL
  refine uAN 1 hx hby d793 rfl rfl rfl ?_
  refine uY1 6 hx hby d794 (by decide) (by decide) ?_
  refine uKc 7 (1 : Int32) hx hby d795 rfl rfl ?_
  refine uSIN 8 #[vr a, vi (1 : Int32), un, un, un, un] hx hby d796 rfl rfl ?_
  refine uAN 9 hx hby d797 rfl rfl rfl ?_
  refine uSAN 10 #[vr a, vi (1 : Int32), vr a, un, un, un] hx hby d798 rfl rfl rfl ?_
  refine uAN 11 hx hby d799 rfl rfl rfl ?_
  refine glen hx P0 12 (hb hby d800) rfl ?_
  refine uSIN 13 #[vr a, vi (1 : Int32), vr a, vi (3 : Int32), un, un] hx hby d801 rfl rfl ?_
  refine uKc 14 (0 : Int32) hx hby d802 rfl rfl ?_
  refine uSI 16 #[vr a, vi (1 : Int32), vr a, vi (3 : Int32), vi (0 : Int32), un] hx hby d803 rfl rfl ?_
  refine uI 18 hx hby d804 rfl rfl ?_
  refine uIN 19 hx hby d805 rfl rfl ?_
  refine uNc 22 hx hby d806 rfl (tlt (by decide)).2.1 ?_
  refine uAN 23 hx hby d807 rfl rfl rfl ?_
  refine uI 25 hx hby d808 rfl rfl ?_
  refine gldR hx P0 ⟨by decide, by decide⟩ (i := 0) rfl (v := (.ref ui)) rfl 26 (hb hby d809) rfl ?_
  refine uSA 28 #[vr a, vi (1 : Int32), vr a, vi (3 : Int32), vi (0 : Int32), vr ui] hx hby d810 rfl rfl rfl ?_
  refine uKb 30 (31 : Int32) hx hby d811 rfl rfl ?_
  refine uIN 31 hx hby d812 rfl rfl ?_
  refine uimul 32 (31 : Int32) hx hby d813 rfl (by decide) ?_
  refine uA 34 hx hby d814 rfl rfl rfl ?_
  refine uY1 41 hx hby d815 (by decide) (by decide) ?_
  refine uA 43 hx hby d822 rfl rfl rfl ?_
  refine ginfo fun _ _ O1 => ?_
  refine gcallV (y := mn753) (z := mn748) hx (ow hw 158 rfl) (ow hw 159 rfl) (nfSame (y' := mn754) (ow hw 303 rfl) (ow hw 302 rfl) rfl) (ow hw 350 rfl) (ow hw 351 rfl) (by decide) (fun hZ H hEL => Pay.of_met (W := 1) (own_shash l Z a0 cx [] (ui) (tu) (bu) (xu) vm h0 O1 P19 P20 P21 P22 L23 P24) (ow hw 352 rfl) (ow hw 9 rfl) (by decide) (by decide) hZ H hEL) 46 (argsL := []) (rest := [(.int (31 : Int32))]) P19.1 (lenOf own_pd84 rfl) rfl rfl (Nat.le_of_eq rfl) (by rw [hml]; rfl) (hb hby d823) rfl (by decide) (by decide) ?_
  rintro _ vm1 h1 C1 ⟨rfl, K1⟩
  have z1 := C1.2.1
  refine gat1 ?_
  refine uiadd 47 ((31 : Int32) + (own_h bu xu)) hx hby d818 rfl rfl ?_
  refine uSIN 48 #[vr a, vi ((31 : Int32) + (own_h bu xu)), vr a, vi (3 : Int32), vi (0 : Int32), vr ui] hx hby d819 rfl rfl ?_
  refine uInc 51 #[vr a, vi ((31 : Int32) + (own_h bu xu)), vr a, vi (3 : Int32), vi (1 : Int32), vr ui] hx hby d820 rfl rfl rfl ?_
  refine uG 16 hx hby d821 (by decide) (by decide) ?_
  refine uI 18 hx hby d804 rfl rfl ?_
  refine uIN 19 hx hby d805 rfl rfl ?_
  refine uNc 22 hx hby d806 rfl (tlt (by decide)).2.1 ?_
  refine uAN 23 hx hby d807 rfl rfl rfl ?_
  refine uI 25 hx hby d808 rfl rfl ?_
  have f2 := (P0.keep K1 (ninS (Ne.symm (Exa.neArv P19.1 P0 (ow hw 17 rfl))) nin0))
  refine gldR hx f2 ⟨by decide, by decide⟩ (i := 1) rfl (v := (.ref bo)) rfl 26 (hb hby d809) rfl ?_
  refine uSA 28 #[vr a, vi ((31 : Int32) + (own_h bu xu)), vr a, vi (3 : Int32), vi (1 : Int32), vr bo] hx hby d810 rfl rfl rfl ?_
  refine uKb 30 (31 : Int32) hx hby d811 rfl rfl ?_
  refine uIN 31 hx hby d812 rfl rfl ?_
  refine uimul 32 ((31 : Int32) * ((31 : Int32) + (own_h bu xu))) hx hby d813 rfl rfl ?_
  refine uA 34 hx hby d814 rfl rfl rfl ?_
  refine uY1 41 hx hby d815 (by decide) (by decide) ?_
  refine uA 43 hx hby d822 rfl rfl rfl ?_
  have f4 := (P1.keep K1)
  have f5 := (P2.keep K1 (ninS (ne_exa f4 (P19.1.keep K1) (by decide)) nin0))
  refine ginfo fun _ _ O3 => ?_
  refine gcallV (y := mn753) (z := mn771) hx (ow hw 158 rfl) (ow hw 159 rfl) (nfSame (y' := mn754) (ow hw 303 rfl) (ow hw 302 rfl) rfl) (ow hw 161 rfl) (ow hw 162 rfl) (by decide) (fun hZ H hEL => Pay.of_met (W := 1) (own_bho l Z a0 cx [] (bo) (pf) vm1 h1 O3 f4 f5) (ow hw 163 rfl) (ow hw 145 rfl) (by decide) (by decide) hZ H hEL) 46 (argsL := []) (rest := [(.int ((31 : Int32) * ((31 : Int32) + (own_h bu xu))))]) f4 (lenOf own_pd84 rfl) rfl rfl (Nat.le_of_eq rfl) (by rw [hml]; rfl) (hb hby d823) rfl (by decide) (by decide) ?_
  rintro _ vm3 h3 C3 ⟨rfl, rfl⟩
  have z3 := C3.2.1
  refine gat1 ?_
  refine uiadd 47 (((31 : Int32) * ((31 : Int32) + (own_h bu xu))) + (own_bh pf)) hx hby d818 rfl rfl ?_
  refine uSIN 48 #[vr a, vi (((31 : Int32) * ((31 : Int32) + (own_h bu xu))) + (own_bh pf)), vr a, vi (3 : Int32), vi (1 : Int32), vr bo] hx hby d819 rfl rfl ?_
  refine uInc 51 #[vr a, vi (((31 : Int32) * ((31 : Int32) + (own_h bu xu))) + (own_bh pf)), vr a, vi (3 : Int32), vi (2 : Int32), vr bo] hx hby d820 rfl rfl rfl ?_
  refine uG 16 hx hby d821 (by decide) (by decide) ?_
  refine uI 18 hx hby d804 rfl rfl ?_
  refine uIN 19 hx hby d805 rfl rfl ?_
  refine uNc 22 hx hby d806 rfl (tlt (by decide)).2.1 ?_
  refine uAN 23 hx hby d807 rfl rfl rfl ?_
  refine uI 25 hx hby d808 rfl rfl ?_
  refine gldR hx f2 ⟨by decide, by decide⟩ (i := 2) rfl (v := (.ref r)) rfl 26 (hb hby d809) rfl ?_
  refine uSA 28 #[vr a, vi (((31 : Int32) * ((31 : Int32) + (own_h bu xu))) + (own_bh pf)), vr a, vi (3 : Int32), vi (2 : Int32), vr r] hx hby d810 rfl rfl rfl ?_
  refine uKb 30 (31 : Int32) hx hby d811 rfl rfl ?_
  refine uIN 31 hx hby d812 rfl rfl ?_
  refine uimul 32 ((31 : Int32) * (((31 : Int32) * ((31 : Int32) + (own_h bu xu))) + (own_bh pf))) hx hby d813 rfl rfl ?_
  refine uA 34 hx hby d814 rfl rfl rfl ?_
  refine uY1 41 hx hby d815 (by decide) (by decide) ?_
  refine uA 43 hx hby d822 rfl rfl rfl ?_
  have f7 := (P3.keep K1)
  have f8 := (P4.keep K1 (ninS (ne_exa f7 (P19.1.keep K1) (by decide)) nin0))
  have f9 := (P5.keep K1 (ninS (ne_exa f7 (P19.1.keep K1) (by decide)) nin0))
  have f10 := (P11.keep K1)
  have f11 := (P6.keep K1 (ninS (Ne.symm hnu0) nin0) (ninS (ne_exa f10 (P19.1.keep K1) (by decide)) nin0))
  have f12 := (P7.keep K1 (ninS (Ne.symm hnu0) nin0))
  have f13 := (P8.keep K1 (ninS (Ne.symm hnu0) nin0))
  have f14 := (C3.safe (show h1.size > s0_ by omega) (C1.safe (show h0.size > s0_ by omega) L10))
  have f15 := (P17.keep K1)
  have f16 := (P12.keep K1 (ninS (Ne.symm hnu1) nin0) (ninS (ne_exa f15 (P19.1.keep K1) (by decide)) nin0))
  have f17 := (P13.keep K1 (ninS (Ne.symm hnu1) nin0))
  have f18 := (P14.keep K1 (ninS (Ne.symm hnu1) nin0))
  have f19 := (C3.safe (show h1.size > s1_ by omega) (C1.safe (show h0.size > s1_ by omega) L16))
  refine ginfo fun _ _ O6 => ?_
  refine gcallV (y := mn753) (z := mn792) hx (ow hw 158 rfl) (ow hw 159 rfl) (nfSame (y' := mn754) (ow hw 303 rfl) (ow hw 302 rfl) rfl) (ow hw 369 rfl) (ow hw 170 rfl) (by decide) (fun hZ H hEL => Pay.of_met (W := 1) (own_lhash2 l Z a0 cx [] (r) (s0_) (t0_) (b0_) (x0_) (s1_) (t1_) (b1_) (x1_) (dz) (el) (ee) (em) (mr) (kd) (ke) vm3 h1 O6 f7 f8 f9 f11 f12 f13 P9 f14 f10 f16 f17 f18 P15 f19 f15 (by first | assumption | decide | omega) (by first | assumption | decide | omega)) (ow hw 172 rfl) (ow hw 171 rfl) (by decide) (by decide) hZ H hEL) 46 (argsL := []) (rest := [(.int ((31 : Int32) * (((31 : Int32) * ((31 : Int32) + (own_h bu xu))) + (own_bh pf))))]) f7 (lenOf own_pd84 rfl) rfl rfl (Nat.le_of_eq rfl) (by rw [hml]; rfl) (hb hby d823) rfl (by decide) (by decide) ?_
  rintro _ vm6 h6 C6 ⟨rfl, K6⟩
  have z6 := C6.2.1
  refine gat1 ?_
  refine uiadd 47 (((31 : Int32) * (((31 : Int32) * ((31 : Int32) + (own_h bu xu))) + (own_bh pf))) + (((31 : Int32) * ((31 : Int32) + (own_h b0_ x0_))) + (own_h b1_ x1_))) hx hby d818 rfl rfl ?_
  refine uSIN 48 #[vr a, vi (((31 : Int32) * (((31 : Int32) * ((31 : Int32) + (own_h bu xu))) + (own_bh pf))) + (((31 : Int32) * ((31 : Int32) + (own_h b0_ x0_))) + (own_h b1_ x1_))), vr a, vi (3 : Int32), vi (2 : Int32), vr r] hx hby d819 rfl rfl ?_
  refine uInc 51 #[vr a, vi (((31 : Int32) * (((31 : Int32) * ((31 : Int32) + (own_h bu xu))) + (own_bh pf))) + (((31 : Int32) * ((31 : Int32) + (own_h b0_ x0_))) + (own_h b1_ x1_))), vr a, vi (3 : Int32), vi (3 : Int32), vr r] hx hby d820 rfl rfl rfl ?_
  refine uG 16 hx hby d821 (by decide) (by decide) ?_
  refine uI 18 hx hby d804 rfl rfl ?_
  refine uIN 19 hx hby d805 rfl rfl ?_
  refine uYc 54 hx hby d806 (flt (by decide)).2.1 (by decide) (by decide) ?_
  refine uIN 55 hx hby d824 rfl rfl ?_
  exact gretI hx hret (hb hby d825) (by decide) (by decide) (fun vq Cq => ⟨rfl, (((Keep.refl h0 [ui, s0_, s1_]).trans K1 (allS (Or.inl (List.mem_of_getElem? (i := 0) rfl)) all0)).trans K6 (allS (Or.inl (List.mem_of_getElem? (i := 1) rfl)) (allS (Or.inl (List.mem_of_getElem? (i := 2) rfl)) all0)))⟩)
theorem own_oh1_2 (l : Launch) (Z : State) (a0 : Array Value) (cx : Ctx Z a0) (ws : List Jvm.Cond) (a : Addr) (ka : ClassId) (bo : Addr) (pf : Int32) (r : Addr) (s0_ : Addr) (t0_ : Addr) (b0_ : Int32) (x0_ : Int32) (s1_ : Addr) (t1_ : Addr) (b1_ : Int32) (x1_ : Int32) (ui : Addr) (tu : Addr) (bu : Int32) (xu : Int32) (dz : Addr) (el : Addr) (ee : Addr) (em : Addr) (mr : Addr) (kd : ClassId) (ke : ClassId) (vm0 : Vm) (h0 : Heap) (X00 : Ext Z.heap h0) (P0 : Arv Z h0 a ka (.object c11_) (3 : Int32) [(.ref ui), (.ref bo), (.ref r)] .null) (P1 : Exa Z h0 bo c9_) (P2 : Fld Z h0 bo c9_ "value" "Z" (.int pf)) (P3 : Exa Z h0 r c17_) (P4 : Fld Z h0 r c17_ "e0" c0_ (.ref s0_)) (P5 : Fld Z h0 r c17_ "e1" c0_ (.ref s1_)) (P6 : Str Z h0 s0_ t0_ ((own_fst x0_) :: (own_tl b0_ x0_))) (P7 : Fld Z h0 s0_ c12_ "hash" "I" (.int (0 : Int32))) (P8 : Fld Z h0 s0_ c12_ c8_ "Z" (.int (0 : Int32))) (P9 : Z.heap.size ≤ s0_) (P10 : Safe Z ([] : List (String × Nat)) vm0 h0 s0_) (P11 : Exa Z h0 t0_ "[B") (P12 : Str Z h0 s1_ t1_ ((own_fst x1_) :: (own_tl b1_ x1_))) (P13 : Fld Z h0 s1_ c12_ "hash" "I" (.int (0 : Int32))) (P14 : Fld Z h0 s1_ c12_ c8_ "Z" (.int (0 : Int32))) (P15 : Z.heap.size ≤ s1_) (P16 : Safe Z ([] : List (String × Nat)) vm0 h0 s1_) (P17 : Exa Z h0 t1_ "[B") (hne01 : (s0_ ≠ s1_)) (P19 : Str Z h0 ui tu ((own_fst xu) :: (own_tl bu xu))) (P20 : Fld Z h0 ui c12_ "hash" "I" (.int (0 : Int32))) (P21 : Fld Z h0 ui c12_ c8_ "Z" (.int (0 : Int32))) (P22 : Z.heap.size ≤ ui) (P23 : Safe Z ([] : List (String × Nat)) vm0 h0 ui) (P24 : Exa Z h0 tu "[B") (hnu0 : (ui ≠ s0_)) (hnu1 : (ui ≠ s1_)) (hL : (OwnL Z dz el ee em mr kd ke)) :
    Met l mn831 y10_ 1 (some .int) ws ({ frames := 7, cells := 0, slots := 0, locals := 104 } : Room) Z ([] : List (String × Nat)) vm0 h0 #[(.ref a)] (fun rv vm h => rv = some (.int (((31 : Int32) * (((31 : Int32) * ((31 : Int32) + (own_h bu xu))) + (own_bh pf))) + (((31 : Int32) * ((31 : Int32) + (own_h b0_ x0_))) + (own_h b1_ x1_)))) ∧ Keep h0 h [ui, s0_, s1_]) := by
  obtain ⟨hw, hEL, ⟨zc, Scs, hzc⟩, ⟨fm, Sfm, hfm⟩, hL0, hB0, hO0⟩ := id cx
  refine Met.of_walk (a0 := a0) #[vr a] (plainFor_of_name own_pn204) X00 hEL (fun m => by first | (simp [entryFrame, mkF, argsToLocals, Value.category]; done) | rfl) ?_
  intro p e s m below meth c vm hx hby hml hret hnm hC0 hW0
  have lt_a : h0.size > a := P0.lt
  have lt_bo : h0.size > bo := P1.lt
  have lt_r : h0.size > r := P3.lt
  have lt_s0_ : h0.size > s0_ := P6.1.lt
  have lt_t0_ : h0.size > t0_ := P6.tlt
  have L10 := hC0.safe lt_s0_ P10
  have lt_s1_ : h0.size > s1_ := P12.1.lt
  have lt_t1_ : h0.size > t1_ := P12.tlt
  have L16 := hC0.safe lt_s1_ P16
  have lt_ui : h0.size > ui := P19.1.lt
  have lt_tu : h0.size > tu := P19.tlt
  have L23 := hC0.safe lt_ui P23
  obtain ⟨Sdz, Edz, Vdz, Sel, Eel, Fee, Vee, Fan, Sem, Eem, Mmr⟩ := id hL
  refine uAN 1 hx hby d827 rfl rfl rfl ?_
  refine ginfo fun _ _ O1 => ?_
  refine gcallS (y := mn826) hx (ow hw 154 rfl) (ow hw 155 rfl) (ow hw 156 rfl) (ow hw 157 rfl) (by decide) (fun hZ H hEL => Pay.of_met (W := 0) (own_ahash1_2 l Z a0 cx [] (a) (ka) (bo) (pf) (r) (s0_) (t0_) (b0_) (x0_) (s1_) (t1_) (b1_) (x1_) (ui) (tu) (bu) (xu) (dz) (el) (ee) (em) (mr) (kd) (ke) vm h0 O1 P0 P1 P2 P3 P4 P5 P6 P7 P8 P9 L10 P11 P12 P13 P14 P15 L16 P17 (by first | assumption | decide | omega) P19 P20 P21 P22 L23 P24 (by first | assumption | decide | omega) (by first | assumption | decide | omega) (by first | assumption | decide | omega)) (ow hw 157 rfl) (ow hw 156 rfl) (by decide) (by decide) hZ H hEL) 4 (argsL := [(.ref a)]) (rest := []) (lenOf own_pd829 rfl) rfl rfl (Nat.le_of_eq rfl) (by rw [hml]; rfl) (hb hby d828) rfl (by decide) (by decide) ?_
  rintro _ vm1 h1 C1 ⟨rfl, K1⟩
  have z1 := C1.2.1
  refine gat1 ?_
  exact gretI hx hret (hb hby d830) (by decide) (by decide) (fun vq Cq => ⟨rfl, ((Keep.refl h0 [ui, s0_, s1_]).trans K1 (allS (Or.inl (List.mem_of_getElem? (i := 0) rfl)) (allS (Or.inl (List.mem_of_getElem? (i := 1) rfl)) (allS (Or.inl (List.mem_of_getElem? (i := 2) rfl)) all0))))⟩)
theorem own_chash1_2 (l : Launch) (Z : State) (a0 : Array Value) (cx : Ctx Z a0) (ws : List Jvm.Cond) (y : Addr) (pf : Int32) (r : Addr) (s0_ : Addr) (t0_ : Addr) (b0_ : Int32) (x0_ : Int32) (s1_ : Addr) (t1_ : Addr) (b1_ : Int32) (x1_ : Int32) (ui : Addr) (tu : Addr) (bu : Int32) (xu : Int32) (dz : Addr) (el : Addr) (ee : Addr) (em : Addr) (mr : Addr) (kd : ClassId) (ke : ClassId) (vm0 : Vm) (h0 : Heap) (X00 : Ext Z.heap h0) (P0 : Fld Z h0 y c5_ "ui" c1_ (.ref ui)) (P1 : Fld Z h0 y c5_ "preferred" "Z" (.int pf)) (P2 : Fld Z h0 y c5_ "terms" c3_ (.ref r)) (b_pf : (pf = 0 ∨ pf = 1)) (P4 : Exa Z h0 r c17_) (P5 : Fld Z h0 r c17_ "e0" c0_ (.ref s0_)) (P6 : Fld Z h0 r c17_ "e1" c0_ (.ref s1_)) (P7 : Str Z h0 s0_ t0_ ((own_fst x0_) :: (own_tl b0_ x0_))) (P8 : Fld Z h0 s0_ c12_ "hash" "I" (.int (0 : Int32))) (P9 : Fld Z h0 s0_ c12_ c8_ "Z" (.int (0 : Int32))) (P10 : Z.heap.size ≤ s0_) (P11 : Safe Z ([] : List (String × Nat)) vm0 h0 s0_) (P12 : Exa Z h0 t0_ "[B") (P13 : Str Z h0 s1_ t1_ ((own_fst x1_) :: (own_tl b1_ x1_))) (P14 : Fld Z h0 s1_ c12_ "hash" "I" (.int (0 : Int32))) (P15 : Fld Z h0 s1_ c12_ c8_ "Z" (.int (0 : Int32))) (P16 : Z.heap.size ≤ s1_) (P17 : Safe Z ([] : List (String × Nat)) vm0 h0 s1_) (P18 : Exa Z h0 t1_ "[B") (hne01 : (s0_ ≠ s1_)) (P20 : Str Z h0 ui tu ((own_fst xu) :: (own_tl bu xu))) (P21 : Fld Z h0 ui c12_ "hash" "I" (.int (0 : Int32))) (P22 : Fld Z h0 ui c12_ c8_ "Z" (.int (0 : Int32))) (P23 : Z.heap.size ≤ ui) (P24 : Safe Z ([] : List (String × Nat)) vm0 h0 ui) (P25 : Exa Z h0 tu "[B") (hnu0 : (ui ≠ s0_)) (hnu1 : (ui ≠ s1_)) (hL : (OwnL Z dz el ee em mr kd ke)) :
    Met l mn853 y61_ 1 (some .int) ws ({ frames := 8, cells := 1, slots := 3, locals := 116 } : Room) Z ([] : List (String × Nat)) vm0 h0 #[(.ref y)] (fun rv vm h => rv = some (.int (((31 : Int32) * (((31 : Int32) * ((31 : Int32) + (own_h bu xu))) + (own_bh pf))) + (((31 : Int32) * ((31 : Int32) + (own_h b0_ x0_))) + (own_h b1_ x1_)))) ∧ Keep h0 h [ui, s0_, s1_]) := by
  obtain ⟨hw, hEL, ⟨zc, Scs, hzc⟩, ⟨fm, Sfm, hfm⟩, hL0, hB0, hO0⟩ := id cx
  refine Met.of_walk (a0 := a0) #[vr y] (plainFor_of_name own_pn461) X00 hEL (fun m => by first | (simp [entryFrame, mkF, argsToLocals, Value.category]; done) | rfl) ?_
  intro p e s m below meth c vm hx hby hml hret hnm hC0 hW0
  have lt_y : h0.size > y := P0.lt
  have lt_r : h0.size > r := P4.lt
  have lt_s0_ : h0.size > s0_ := P7.1.lt
  have lt_t0_ : h0.size > t0_ := P7.tlt
  have L11 := hC0.safe lt_s0_ P11
  have lt_s1_ : h0.size > s1_ := P13.1.lt
  have lt_t1_ : h0.size > t1_ := P13.tlt
  have L17 := hC0.safe lt_s1_ P17
  have lt_ui : h0.size > ui := P20.1.lt
  have lt_tu : h0.size > tu := P20.tlt
  have L24 := hC0.safe lt_ui P24
  obtain ⟨Sdz, Edz, Vdz, Sel, Eel, Fee, Vee, Fan, Sem, Eem, Mmr⟩ := id hL
  refine uKc 1 (3 : Int32) hx hby d832 rfl rfl ?_
  refine gnewR hx (ow hw 141 rfl) (ow hw 142 rfl) (n := (3 : Int32)) (by decide) (cap := 3) (by decide) (by decide) (ad := c4_) (by decide) 4 (hb hby d833) rfl (by decide) (by decide) ?_
  intro b1 h1 k1 g1 E1 C1 V1 A1 O1 n1 L1
  have z1 := C1.2.1
  have V1 : Arv Z h1 b1 k1 (.object c11_) (3 : Int32) [.null, .null, .null] .null := V1.pad (pad_rep [] .null 3)
  have lt_b1 : h1.size > b1 := V1.lt
  refine uD 5 hx hby d834 rfl rfl ?_
  refine uKc 6 (0 : Int32) hx hby d835 rfl rfl ?_
  refine uAN 7 hx hby d836 rfl rfl rfl ?_
  have f2 := (P0.ext E1)
  refine ggetF (host := "") hx (Or.inl (ow hw 102 rfl)) Via.refl f2 10 (hb hby d837) rfl ?_
  refine gstR hx V1 ⟨by decide, by decide⟩ (i := 0) rfl (Nat.le_of_ble_eq_true rfl) (Arv.sto V1 O1 (Ins.of_exa (P20.1.ext E1) (ow hw 229 rfl))) rfl n1 11 (hb hby d838) rfl ?_
  intro h3 W3 C3 V3
  have z3 := C3.2.1
  replace V3 : Arv Z h3 b1 k1 (.object c11_) (3 : Int32) [(.ref ui), .null, .null] .null := V3
  refine uD 12 hx hby d839 rfl rfl ?_
  refine uKc 13 (1 : Int32) hx hby d840 rfl rfl ?_
  refine uAN 14 hx hby d841 rfl rfl rfl ?_
  have f4 := ((P1.ext E1).other W3 (Or.inl (Nat.ne_of_lt (by omega))))
  refine ggetF (host := "") hx (Or.inl (ow hw 104 rfl)) Via.refl f4 17 (hb hby d842) rfl ?_
  refine ginfo fun _ _ O5 => ?_
  refine gcallS (y := mn778) hx (ow hw 143 rfl) (ow hw 144 rfl) (ow hw 145 rfl) (ow hw 146 rfl) (by decide) (fun hZ H hEL => Pay.of_met (W := 3) (own_bval l Z a0 cx [] (pf) vm h3 O5 (by first | assumption | decide | omega)) (ow hw 146 rfl) (ow hw 145 rfl) (by decide) (by decide) hZ H hEL) 20 (argsL := [(.int pf)]) (rest := [(.int (1 : Int32)), (.ref b1), (.ref b1)]) (lenOf own_pd844 rfl) rfl rfl (Nat.le_of_eq rfl) (by rw [hml]; rfl) (hb hby d843) rfl (by decide) (by decide) ?_
  rintro _ vm5 h5 C5 ⟨r5, rfl, rfl, q5_0, q5_1⟩
  have z5 := C5.2.1
  have lt_r5 : h3.size > r5 := q5_0.lt
  refine gat1 ?_
  refine gstR hx V3 ⟨by decide, by decide⟩ (i := 1) rfl (Nat.le_of_ble_eq_true rfl) (Arv.sto V3 O1 (Ins.of_exa q5_0 (ow hw 148 rfl))) rfl n1 21 (hb hby d845) rfl ?_
  intro h6 W6 C6 V6
  have z6 := C6.2.1
  replace V6 : Arv Z h6 b1 k1 (.object c11_) (3 : Int32) [(.ref ui), (.ref r5), .null] .null := V6
  refine uD 22 hx hby d846 rfl rfl ?_
  refine uKc 23 (2 : Int32) hx hby d847 rfl rfl ?_
  refine uAN 24 hx hby d848 rfl rfl rfl ?_
  have f7 := (((P2.ext E1).other W3 (Or.inl (Nat.ne_of_lt (by omega)))).other W6 (Or.inl (Nat.ne_of_lt (by omega))))
  refine ggetF (host := "") hx (Or.inl (ow hw 134 rfl)) Via.refl f7 27 (hb hby d849) rfl ?_
  have f9 := (((P4.ext E1).wr W3).wr W6)
  refine gstR hx V6 ⟨by decide, by decide⟩ (i := 2) rfl (Nat.le_of_ble_eq_true rfl) (Arv.sto V6 O1 (Ins.of_exa f9 (ow hw 349 rfl))) rfl n1 28 (hb hby d850) rfl ?_
  intro h8 W8 C8 V8
  have z8 := C8.2.1
  replace V8 : Arv Z h8 b1 k1 (.object c11_) (3 : Int32) [(.ref ui), (.ref r5), (.ref r)] .null := V8
  have f11 := ((q5_0.wr W6).wr W8)
  have f12 := (((A1.wr W3).wr W6).wr W8)
  have f13 := ((q5_1.other W6 (Or.inl (ne_exa f11 f12 (by decide)))).other W8 (Or.inl (ne_exa f11 f12 (by decide))))
  have f14 := (f9.wr W8)
  have f15 := ((((P5.ext E1).other W3 (Or.inl (Nat.ne_of_lt (by omega)))).other W6 (Or.inl (Nat.ne_of_lt (by omega)))).other W8 (Or.inl (Nat.ne_of_lt (by omega))))
  have f16 := ((((P6.ext E1).other W3 (Or.inl (Nat.ne_of_lt (by omega)))).other W6 (Or.inl (Nat.ne_of_lt (by omega)))).other W8 (Or.inl (Nat.ne_of_lt (by omega))))
  have f17 := ((((P7.ext E1).other W3 (Nat.ne_of_lt (by omega)) (Nat.ne_of_lt (by omega))).other W6 (Nat.ne_of_lt (by omega)) (Nat.ne_of_lt (by omega))).other W8 (Nat.ne_of_lt (by omega)) (Nat.ne_of_lt (by omega)))
  have f18 := ((((P8.ext E1).other W3 (Or.inl (Nat.ne_of_lt (by omega)))).other W6 (Or.inl (Nat.ne_of_lt (by omega)))).other W8 (Or.inl (Nat.ne_of_lt (by omega))))
  have f19 := ((((P9.ext E1).other W3 (Or.inl (Nat.ne_of_lt (by omega)))).other W6 (Or.inl (Nat.ne_of_lt (by omega)))).other W8 (Or.inl (Nat.ne_of_lt (by omega))))
  have f20 := (C8.safe (show h6.size > s0_ by omega) (C6.safe (show h3.size > s0_ by omega) (C5.safe (show h3.size > s0_ by omega) (C3.safe (show h1.size > s0_ by omega) (C1.safe (show h0.size > s0_ by omega) L11)))))
  have f21 := ((((P12.ext E1).wr W3).wr W6).wr W8)
  have f22 := ((((P13.ext E1).other W3 (Nat.ne_of_lt (by omega)) (Nat.ne_of_lt (by omega))).other W6 (Nat.ne_of_lt (by omega)) (Nat.ne_of_lt (by omega))).other W8 (Nat.ne_of_lt (by omega)) (Nat.ne_of_lt (by omega)))
  have f23 := ((((P14.ext E1).other W3 (Or.inl (Nat.ne_of_lt (by omega)))).other W6 (Or.inl (Nat.ne_of_lt (by omega)))).other W8 (Or.inl (Nat.ne_of_lt (by omega))))
  have f24 := ((((P15.ext E1).other W3 (Or.inl (Nat.ne_of_lt (by omega)))).other W6 (Or.inl (Nat.ne_of_lt (by omega)))).other W8 (Or.inl (Nat.ne_of_lt (by omega))))
  have f25 := (C8.safe (show h6.size > s1_ by omega) (C6.safe (show h3.size > s1_ by omega) (C5.safe (show h3.size > s1_ by omega) (C3.safe (show h1.size > s1_ by omega) (C1.safe (show h0.size > s1_ by omega) L17)))))
  have f26 := ((((P18.ext E1).wr W3).wr W6).wr W8)
  have f27 := ((((P20.ext E1).other W3 (Nat.ne_of_lt (by omega)) (Nat.ne_of_lt (by omega))).other W6 (Nat.ne_of_lt (by omega)) (Nat.ne_of_lt (by omega))).other W8 (Nat.ne_of_lt (by omega)) (Nat.ne_of_lt (by omega)))
  have f28 := ((((P21.ext E1).other W3 (Or.inl (Nat.ne_of_lt (by omega)))).other W6 (Or.inl (Nat.ne_of_lt (by omega)))).other W8 (Or.inl (Nat.ne_of_lt (by omega))))
  have f29 := ((((P22.ext E1).other W3 (Or.inl (Nat.ne_of_lt (by omega)))).other W6 (Or.inl (Nat.ne_of_lt (by omega)))).other W8 (Or.inl (Nat.ne_of_lt (by omega))))
  have f30 := (C8.safe (show h6.size > ui by omega) (C6.safe (show h3.size > ui by omega) (C5.safe (show h3.size > ui by omega) (C3.safe (show h1.size > ui by omega) (C1.safe (show h0.size > ui by omega) L24)))))
  have f31 := ((((P25.ext E1).wr W3).wr W6).wr W8)
  refine ginfo fun _ _ O10 => ?_
  refine gcallS (y := mn831) hx (ow hw 150 rfl) (ow hw 151 rfl) (ow hw 152 rfl) (ow hw 153 rfl) (by decide) (fun hZ H hEL => Pay.of_met (W := 0) (own_oh1_2 l Z a0 cx [] (b1) (k1) (r5) (pf) (r) (s0_) (t0_) (b0_) (x0_) (s1_) (t1_) (b1_) (x1_) (ui) (tu) (bu) (xu) (dz) (el) (ee) (em) (mr) (kd) (ke) vm5 h8 O10 V8 f11 f13 f14 f15 f16 f17 f18 f19 P10 f20 f21 f22 f23 f24 P16 f25 f26 (by first | assumption | decide | omega) f27 f28 f29 P23 f30 f31 (by first | assumption | decide | omega) (by first | assumption | decide | omega) (by first | assumption | decide | omega)) (ow hw 153 rfl) (ow hw 152 rfl) (by decide) (by decide) hZ H hEL) 31 (argsL := [(.ref b1)]) (rest := []) (lenOf own_pd829 rfl) rfl rfl (Nat.le_of_eq rfl) (by rw [hml]; rfl) (hb hby d851) rfl (by decide) (by decide) ?_
  rintro _ vm10 h10 C10 ⟨rfl, K10⟩
  have z10 := C10.2.1
  refine gat1 ?_
  exact gretI hx hret (hb hby d852) (by decide) (by decide) (fun vq Cq => ⟨rfl, ((((((Keep.refl h0 [ui, s0_, s1_]).ext E1).wr W3 (Or.inr (by omega))).wr W6 (Or.inr (by omega))).wr W8 (Or.inr (by omega))).trans K10 (allS (Or.inl (List.mem_of_getElem? (i := 0) rfl)) (allS (Or.inl (List.mem_of_getElem? (i := 1) rfl)) (allS (Or.inl (List.mem_of_getElem? (i := 2) rfl)) all0))))⟩)
theorem own_n3 (x : Int32) : ((((x.toUInt32 >>> ((3 : Int32) &&& 31).toUInt32).toInt32) &&& (3 : Int32)) % (3 : Int32)) = (0 : Int32) ∨ ((((x.toUInt32 >>> ((3 : Int32) &&& 31).toUInt32).toInt32) &&& (3 : Int32)) % (3 : Int32)) = (1 : Int32) ∨ ((((x.toUInt32 >>> ((3 : Int32) &&& 31).toUInt32).toInt32) &&& (3 : Int32)) % (3 : Int32)) = (2 : Int32) := by
  have h1 := c_mask ((x.toUInt32 >>> ((3 : Int32) &&& 31).toUInt32).toInt32) 3 2 (by decide) (by decide)
  generalize (((x.toUInt32 >>> ((3 : Int32) &&& 31).toUInt32).toInt32) &&& (3 : Int32)) = y at *
  have h2 := c_irem y 3 3 rfl
  have h0 : (0 : Int32).toInt = 0 := rfl
  have e1 : (1 : Int32).toInt = 1 := rfl
  have e2 : (2 : Int32).toInt = 2 := rfl
  rw [← Int32.toInt_inj, ← Int32.toInt_inj, ← Int32.toInt_inj, h0, e1, e2]
  have h3 : 0 ≤ y.toInt := by rw [h1]; omega
  have h4 := h2.1 h3
  omega
theorem own_eq1 (h b t : Int32) : (((31 : Int32) * (((31 : Int32) * ((31 : Int32) + h)) + b)) + t) = ((((((31 : Int32) + h) * (31 : Int32)) + b) * (31 : Int32)) + t) := by
  rw [Int32.mul_comm (31 : Int32) ((31 : Int32) + h), Int32.mul_comm (31 : Int32)]
theorem own_eq0 (b t : Int32) : (((31 : Int32) * ((961 : Int32) + b)) + t) = ((((961 : Int32) + b) * (31 : Int32)) + t) := by
  rw [Int32.mul_comm (31 : Int32)]
theorem own_pd868 : parseMethodDescriptor "(IZ)Ljava/lang/String;" = some ⟨[.int, .boolean], some (.object "java/lang/String")⟩ := by decide +kernel
theorem own_pd869 : parseMethodDescriptor "(Ljava/lang/String;ZLjava/util/List;)V" = some ⟨[(.object "java/lang/String"), .boolean, (.object "java/util/List")], none⟩ := by decide +kernel
theorem own_pd870 : parseMethodDescriptor "(IZ)I" = some ⟨[.int, .boolean], some .int⟩ := by decide +kernel
theorem own_pd871 : parseMethodDescriptor "(Ljava/lang/Object;)Z" = some ⟨[(.object "java/lang/Object")], some .boolean⟩ := by decide +kernel
theorem own_law (l : Launch) (Z : State) (a0 : Array Value) (cx : Ctx Z a0) (ws : List Jvm.Cond) (x0 : Int32) (x1 : Int32) (x2 : Int32) (x3 : Int32) (vm0 : Vm) (h0 : Heap) (X00 : Ext Z.heap h0)  :
    Met l x code maxLocals ret ws room_1 Z ([] : List (String × Nat)) vm0 h0 #[(.int x0), (.int x1), (.int x2), (.int x3)] (fun rv vm h => rv = some (.int (1 : Int32)) ∧ Keep h0 h []) := by
  obtain ⟨hw, hEL, ⟨zc, Scs, hzc⟩, ⟨fm, Sfm, hfm⟩, hL0, hB0, hO0⟩ := id cx
  refine Met.of_walk (a0 := a0) #[vi x0, vi x1, vi x2, vi x3, un, un, un, un, un, un, un, un, un, un, un, un, un, un, un, un] (plainFor_of_name own_pn574) X00 hEL (fun m => by first | (simp [entryFrame, mkF, argsToLocals, Value.category, maxLocals]; done) | rfl) ?_
  intro p e s m below meth c vm hx hby hml hret hnm hC0 hW0
  obtain ⟨dz, el, ee, em, mr, kd, ke, hL1⟩ := hL0
  have hL : OwnL Z dz el ee em mr kd ke := hL1
  obtain ⟨Sdz, Edz, Vdz, Sel, Eel, Fee, Vee, Fan, Sem, Eem, Mmr⟩ := id hL
  obtain ⟨cdi, ca, kA, hB1⟩ := hB0
  have hB : OwnB Z cdi ca kA := hB1
  refine gjoin (fun vmJ hJ gJ => ∃ (fg4_1 : Int32), gJ = (mkF m 11 #[vi x0, vi x1, vi x2, vi x3, un, un, un, un, un, un, un, un, un, un, un, un, un, un, un, un] [(.int fg4_1)]) ∧ Keep h0 hJ [] ∧ CHq Z ([] : List (String × Nat)) vm h0 vmJ hJ ∧ (fg4_1 = 0 ∨ fg4_1 = 1)) 0 0 ?_ ?_
  · rintro vm1 h1 _ ⟨fg4_1, rfl, K1, C1, q1_0⟩
    have z1 := C1.2.1
    refine uSI 13 #[vi x0, vi x1, vi x2, vi x3, vi fg4_1, un, un, un, un, un, un, un, un, un, un, un, un, un, un, un] hx hby at_11 rfl rfl ?_
    refine gjoin (fun vmJ hJ gJ => ∃ (fg5_2 : Int32), gJ = (mkF m 24 #[vi x0, vi x1, vi x2, vi x3, vi fg4_1, un, un, un, un, un, un, un, un, un, un, un, un, un, un, un] [(.int fg5_2)]) ∧ Keep h1 hJ [] ∧ CHq Z ([] : List (String × Nat)) vm1 h1 vmJ hJ ∧ (fg5_2 = 0 ∨ fg5_2 = 1)) 0 0 ?_ ?_
    · rintro vm2 h2 _ ⟨fg5_2, rfl, K2, C2, q2_0⟩
      have z2 := C2.2.1
      refine uSI 26 #[vi x0, vi x1, vi x2, vi x3, vi fg4_1, vi fg5_2, un, un, un, un, un, un, un, un, un, un, un, un, un, un] hx hby at_24 rfl rfl ?_
      refine gjoin (fun vmJ hJ gJ => ∃ (fg6_3 : Int32), gJ = (mkF m 37 #[vi x0, vi x1, vi x2, vi x3, vi fg4_1, vi fg5_2, un, un, un, un, un, un, un, un, un, un, un, un, un, un] [(.int fg6_3)]) ∧ Keep h2 hJ [] ∧ CHq Z ([] : List (String × Nat)) vm2 h2 vmJ hJ ∧ (fg6_3 = 0 ∨ fg6_3 = 1)) 0 0 ?_ ?_
      · rintro vm3 h3 _ ⟨fg6_3, rfl, K3, C3, q3_0⟩
        have z3 := C3.2.1
        refine uSI 39 #[vi x0, vi x1, vi x2, vi x3, vi fg4_1, vi fg5_2, vi fg6_3, un, un, un, un, un, un, un, un, un, un, un, un, un] hx hby at_37 rfl rfl ?_
        refine uIN 40 hx hby at_39 rfl rfl ?_
        refine uKc 41 (3 : Int32) hx hby at_40 rfl rfl ?_
        refine gs (mkF m 42 #[vi x0, vi x1, vi x2, vi x3, vi fg4_1, vi fg5_2, vi fg6_3, un, un, un, un, un, un, un, un, un, un, un, un, un] [(.int ((x3.toUInt32 >>> ((3 : Int32) &&& 31).toUInt32).toInt32))]) (fun _ _ A kq => XS.iushr A hx rfl (hb hby at_41) rfl kq) ?_
        refine uKc 43 (3 : Int32) hx hby at_42 rfl rfl ?_
        refine uiand 44 (((x3.toUInt32 >>> ((3 : Int32) &&& 31).toUInt32).toInt32) &&& (3 : Int32)) hx hby at_43 rfl rfl ?_
        refine uKc 45 (3 : Int32) hx hby at_44 rfl rfl ?_
        refine gx (mkF m 46 #[vi x0, vi x1, vi x2, vi x3, vi fg4_1, vi fg5_2, vi fg6_3, un, un, un, un, un, un, un, un, un, un, un, un, un] [(.int ((((x3.toUInt32 >>> ((3 : Int32) &&& 31).toUInt32).toInt32) &&& (3 : Int32)) % (3 : Int32)))]) (fun T locs X _ _ _ _ kq => iremM X hx rfl (hb hby at_45) rfl (by decide) kq) ?_
        refine uSI 48 #[vi x0, vi x1, vi x2, vi x3, vi fg4_1, vi fg5_2, vi fg6_3, vi ((((x3.toUInt32 >>> ((3 : Int32) &&& 31).toUInt32).toInt32) &&& (3 : Int32)) % (3 : Int32)), un, un, un, un, un, un, un, un, un, un, un, un] hx hby at_46 rfl rfl ?_
        refine gjoin (fun vmJ hJ gJ => ∃ (fg8_4 : Int32), gJ = (mkF m 60 #[vi x0, vi x1, vi x2, vi x3, vi fg4_1, vi fg5_2, vi fg6_3, vi ((((x3.toUInt32 >>> ((3 : Int32) &&& 31).toUInt32).toInt32) &&& (3 : Int32)) % (3 : Int32)), un, un, un, un, un, un, un, un, un, un, un, un] [(.int fg8_4)]) ∧ Keep h3 hJ [] ∧ CHq Z ([] : List (String × Nat)) vm3 h3 vmJ hJ ∧ (fg8_4 = 0 ∨ fg8_4 = 1)) 0 0 ?_ ?_
        · rintro vm4 h4 _ ⟨fg8_4, rfl, K4, C4, q4_0⟩
          have z4 := C4.2.1
          refine uSI 62 #[vi x0, vi x1, vi x2, vi x3, vi fg4_1, vi fg5_2, vi fg6_3, vi ((((x3.toUInt32 >>> ((3 : Int32) &&& 31).toUInt32).toInt32) &&& (3 : Int32)) % (3 : Int32)), vi fg8_4, un, un, un, un, un, un, un, un, un, un, un] hx hby at_60 rfl rfl ?_
          refine gjoin (fun vmJ hJ gJ => ∃ (fg9_5 : Int32), gJ = (mkF m 74 #[vi x0, vi x1, vi x2, vi x3, vi fg4_1, vi fg5_2, vi fg6_3, vi ((((x3.toUInt32 >>> ((3 : Int32) &&& 31).toUInt32).toInt32) &&& (3 : Int32)) % (3 : Int32)), vi fg8_4, un, un, un, un, un, un, un, un, un, un, un] [(.int fg9_5)]) ∧ Keep h4 hJ [] ∧ CHq Z ([] : List (String × Nat)) vm4 h4 vmJ hJ ∧ (fg9_5 = 0 ∨ fg9_5 = 1)) 0 0 ?_ ?_
          · rintro vm5 h5 _ ⟨fg9_5, rfl, K5, C5, q5_0⟩
            have z5 := C5.2.1
            refine uSI 76 #[vi x0, vi x1, vi x2, vi x3, vi fg4_1, vi fg5_2, vi fg6_3, vi ((((x3.toUInt32 >>> ((3 : Int32) &&& 31).toUInt32).toInt32) &&& (3 : Int32)) % (3 : Int32)), vi fg8_4, vi fg9_5, un, un, un, un, un, un, un, un, un, un] hx hby at_74 rfl rfl ?_
            refine uI 78 hx hby at_76 rfl rfl ?_
            by_cases e4 : fg4_1 = (0 : Int32)
            · refine uY 85 hx hby at_78 ((if0 _ _).trans (teq e4).1) (by decide) (by decide) ?_
              refine uIN 86 hx hby at_85 rfl rfl ?_
              refine uI 88 hx hby at_86 rfl rfl ?_
              refine ginfo fun _ _ O6 => ?_
              refine gcallS (y := mn653) hx (ow hw 0 rfl) (ow hw 1 rfl) (ow hw 2 rfl) (ow hw 3 rfl) (by decide) (fun hZ H hEL => Pay.of_met (W := 0) (own_mk l Z a0 cx [] (x0) (fg5_2) vm5 h5 O6 ) (ow hw 3 rfl) (ow hw 2 rfl) (by decide) (by decide) hZ H hEL) 91 (argsL := [(.int x0), (.int fg5_2)]) (rest := []) (lenOf own_pd868 rfl) rfl rfl (Nat.le_of_eq rfl) (by rw [hml]; rfl) (hb hby at_88) rfl (by decide) (by decide) ?_
              rintro _ vm6 h6 C6 ⟨r6, t6, rfl, K6, q6_0, q6_1, q6_2, q6_3, q6_4, q6_5, q6_6⟩
              have z6 := C6.2.1
              have lt_r6 : h6.size > r6 := q6_1.1.lt
              have lt_t6 : h6.size > t6 := q6_1.tlt
              refine gat1 ?_
              refine uSA 93 #[vi x0, vi x1, vi x2, vi x3, vi fg4_1, vi fg5_2, vi fg6_3, vi ((((x3.toUInt32 >>> ((3 : Int32) &&& 31).toUInt32).toInt32) &&& (3 : Int32)) % (3 : Int32)), vi fg8_4, vi fg9_5, vr r6, un, un, un, un, un, un, un, un, un] hx hby at_91 rfl rfl rfl ?_
              refine uIN 94 hx hby at_93 rfl rfl ?_
              refine uI 96 hx hby at_94 rfl rfl ?_
              refine ginfo fun _ _ O7 => ?_
              refine gcallS (y := mn653) hx (ow hw 0 rfl) (ow hw 1 rfl) (ow hw 2 rfl) (ow hw 3 rfl) (by decide) (fun hZ H hEL => Pay.of_met (W := 0) (own_mk l Z a0 cx [] (x1) (fg8_4) vm6 h6 O7 ) (ow hw 3 rfl) (ow hw 2 rfl) (by decide) (by decide) hZ H hEL) 99 (argsL := [(.int x1), (.int fg8_4)]) (rest := []) (lenOf own_pd868 rfl) rfl rfl (Nat.le_of_eq rfl) (by rw [hml]; rfl) (hb hby at_96) rfl (by decide) (by decide) ?_
              rintro _ vm7 h7 C7 ⟨r7, t7, rfl, K7, q7_0, q7_1, q7_2, q7_3, q7_4, q7_5, q7_6⟩
              have z7 := C7.2.1
              have lt_r7 : h7.size > r7 := q7_1.1.lt
              have lt_t7 : h7.size > t7 := q7_1.tlt
              refine gat1 ?_
              refine uSA 101 #[vi x0, vi x1, vi x2, vi x3, vi fg4_1, vi fg5_2, vi fg6_3, vi ((((x3.toUInt32 >>> ((3 : Int32) &&& 31).toUInt32).toInt32) &&& (3 : Int32)) % (3 : Int32)), vi fg8_4, vi fg9_5, vr r6, vr r7, un, un, un, un, un, un, un, un] hx hby at_99 rfl rfl rfl ?_
              refine uIN 102 hx hby at_101 rfl rfl ?_
              refine uI 104 hx hby at_102 rfl rfl ?_
              refine ginfo fun _ _ O8 => ?_
              refine gcallS (y := mn653) hx (ow hw 0 rfl) (ow hw 1 rfl) (ow hw 2 rfl) (ow hw 3 rfl) (by decide) (fun hZ H hEL => Pay.of_met (W := 0) (own_mk l Z a0 cx [] (x2) (fg9_5) vm7 h7 O8 ) (ow hw 3 rfl) (ow hw 2 rfl) (by decide) (by decide) hZ H hEL) 107 (argsL := [(.int x2), (.int fg9_5)]) (rest := []) (lenOf own_pd868 rfl) rfl rfl (Nat.le_of_eq rfl) (by rw [hml]; rfl) (hb hby at_104) rfl (by decide) (by decide) ?_
              rintro _ vm8 h8 C8 ⟨r8, t8, rfl, K8, q8_0, q8_1, q8_2, q8_3, q8_4, q8_5, q8_6⟩
              have z8 := C8.2.1
              have lt_r8 : h8.size > r8 := q8_1.1.lt
              have lt_t8 : h8.size > t8 := q8_1.tlt
              refine gat1 ?_
              refine uSA 109 #[vi x0, vi x1, vi x2, vi x3, vi fg4_1, vi fg5_2, vi fg6_3, vi ((((x3.toUInt32 >>> ((3 : Int32) &&& 31).toUInt32).toInt32) &&& (3 : Int32)) % (3 : Int32)), vi fg8_4, vi fg9_5, vr r6, vr r7, vr r8, un, un, un, un, un, un, un] hx hby at_107 rfl rfl rfl ?_
              refine gnewO hx (ow hw 33 rfl) (ow hw 34 rfl) (ow hw 35 rfl) 112 (hb hby at_109) rfl (by decide) (by decide) ?_
              intro b9 h9 g9 E9 C9 A9 D9 n9 L9
              have z9 := C9.2.1
              have lt_b9 : h9.size > b9 := A9.lt
              have F9_modCount : Fld Z h9 b9 c13_ "modCount" "I" (.int (0 : Int32)) := D9 (Or.inl (ow hw 53 rfl)) (ty := .int) (by decide)
              have F9_elementData : Fld Z h9 b9 c14_ c6_ c4_ .null := D9 (Or.inl (ow hw 56 rfl)) (ty := (.array (.object c11_))) (by decide)
              have F9_size : Fld Z h9 b9 c14_ "size" "I" (.int (0 : Int32)) := D9 (Or.inl (ow hw 101 rfl)) (ty := .int) (by decide)
              refine uD 113 hx hby at_112 rfl rfl ?_
              refine ginfo fun _ _ O10 => ?_
              refine gcallI (y := mn112) hx rfl (ow hw 36 rfl) (ow hw 37 rfl) (ow hw 38 rfl) (by decide) (fun hZ H hEL => Pay.of_met (W := 1) (own_alinit l Z a0 cx [] (b9) (.null) (dz) (el) (ee) (em) (mr) (kd) (ke) vm8 h9 O10 A9 F9_modCount F9_elementData F9_size n9 (by first | assumption | decide | omega)) (ow hw 38 rfl) (ow hw 35 rfl) (by decide) (by decide) hZ H hEL) (a := b9) 116 (argsL := []) (rest := [(.ref b9)]) (lenOf own_pd99 rfl) rfl rfl (Nat.le_of_eq rfl) (by rw [hml]; rfl) (hb hby at_113) rfl (by decide) (by decide) ?_
              rintro _ vm10 h10 C10 ⟨rfl, K10, q10_0, q10_1, q10_2⟩
              have z10 := C10.2.1
              refine gat0 ?_
              refine uSA 118 #[vi x0, vi x1, vi x2, vi x3, vi fg4_1, vi fg5_2, vi fg6_3, vi ((((x3.toUInt32 >>> ((3 : Int32) &&& 31).toUInt32).toInt32) &&& (3 : Int32)) % (3 : Int32)), vi fg8_4, vi fg9_5, vr r6, vr r7, vr r8, vr b9, un, un, un, un, un, un] hx hby at_116 rfl rfl rfl ?_
              rcases own_n3 x3 with nq | nq | nq
              · refine gat (mkF m 118 #[vi x0, vi x1, vi x2, vi x3, vi fg4_1, vi fg5_2, vi fg6_3, vi (0 : Int32), vi fg8_4, vi fg9_5, vr r6, vr r7, vr r8, vr b9, un, un, un, un, un, un] []) (by rw [nq]) ?_
                refine uI 120 hx hby at_118 rfl rfl ?_
                refine uKc 121 (1 : Int32) hx hby at_120 rfl rfl ?_
                refine uYc 132 hx hby at_121 (tlt (by decide)).1 (by decide) (by decide) ?_
                refine uI 134 hx hby at_132 rfl rfl ?_
                refine uKc 135 (2 : Int32) hx hby at_134 rfl rfl ?_
                refine uYc 146 hx hby at_135 (tlt (by decide)).1 (by decide) (by decide) ?_
                refine gnewO hx (ow hw 57 rfl) (ow hw 58 rfl) (ow hw 59 rfl) 149 (hb hby at_146) rfl (by decide) (by decide) ?_
                intro b11 h11 g11 E11 C11 A11 D11 n11 L11
                have z11 := C11.2.1
                have lt_b11 : h11.size > b11 := A11.lt
                have F11_ui : Fld Z h11 b11 c5_ "ui" c1_ .null := D11 (Or.inr (ow hw 103 rfl)) (ty := (.object c12_)) (by decide)
                have F11_preferred : Fld Z h11 b11 c5_ "preferred" "Z" (.int (0 : Int32)) := D11 (Or.inr (ow hw 105 rfl)) (ty := .boolean) (by decide)
                have F11_terms : Fld Z h11 b11 c5_ "terms" c3_ .null := D11 (Or.inr (ow hw 135 rfl)) (ty := (.object c19_)) (by decide)
                refine uD 150 hx hby at_149 rfl rfl ?_
                refine uA 152 hx hby at_150 rfl rfl rfl ?_
                refine uI 154 hx hby at_152 rfl rfl ?_
                refine uA 156 hx hby at_154 rfl rfl rfl ?_
                have f13 := (q10_2.ext E11)
                have f14 := ((A9.keep K10).ext E11)
                have f15 := (q10_0.ext E11)
                have f16 := (q10_1.ext E11)
                have f17 := (((((q6_1.keep K7 nin0 nin0).keep K8 nin0 nin0).ext E9).keep K10 (ninS (Nat.ne_of_lt (by omega)) nin0) (ninS (Nat.ne_of_lt (by omega)) nin0)).ext E11)
                refine ginfo fun _ _ O12 => ?_
                refine gcallI (y := mn460) hx rfl (ow hw 60 rfl) (ow hw 61 rfl) (ow hw 62 rfl) (by decide) (fun hZ H hEL => Pay.of_met (W := 1) (own_cc1_0 l Z a0 cx [] (b11) (fg6_3) (b9) ((0 : Int32)) (.null) ((0 : Int32)) (.null) (r6) (t6) ((own_fst x0)) ((own_tl fg5_2 x0)) (cdi) (ca) (kA) (dz) (el) (ee) (em) (mr) (kd) (ke) vm10 h11 O12 A11 F11_ui F11_preferred F11_terms n11 (by first | assumption | decide | omega) f13 f14 f15 f16 f17 (own_fstB _).1 (own_fstB _).2 (own_hpos _ _) (by first | assumption | decide | omega) (by first | assumption | decide | omega)) (ow hw 62 rfl) (ow hw 59 rfl) (by decide) (by decide) hZ H hEL) (a := b11) 159 (argsL := [(.ref r6), (.int fg6_3), (.ref b9)]) (rest := [(.ref b11)]) (lenOf own_pd869 rfl) rfl rfl (Nat.le_of_eq rfl) (by rw [hml]; rfl) (hb hby at_156) rfl (by decide) (by decide) ?_
                rintro _ vm12 h12 C12 ⟨rfl, K12, q12_0, q12_1, q12_2⟩
                have z12 := C12.2.1
                refine gat0 ?_
                refine uSA 161 #[vi x0, vi x1, vi x2, vi x3, vi fg4_1, vi fg5_2, vi fg6_3, vi (0 : Int32), vi fg8_4, vi fg9_5, vr r6, vr r7, vr r8, vr b9, vr b11, un, un, un, un, un] hx hby at_159 rfl rfl rfl ?_
                refine uA 163 hx hby at_161 rfl rfl rfl ?_
                have f19 := (f17.keep K12 (ninS (Nat.ne_of_lt (by omega)) nin0) (ninS (Nat.ne_of_lt (by omega)) nin0))
                have f20 := ((((((q6_4.keep K7 nin0).keep K8 nin0).ext E9).keep K10 (ninS (Nat.ne_of_lt (by omega)) nin0)).ext E11).keep K12 (ninS (Nat.ne_of_lt (by omega)) nin0))
                have f21 := ((((((q6_5.keep K7 nin0).keep K8 nin0).ext E9).keep K10 (ninS (Nat.ne_of_lt (by omega)) nin0)).ext E11).keep K12 (ninS (Nat.ne_of_lt (by omega)) nin0))
                have f22 := (C12.safe (show h11.size > r6 by omega) (C11.safe (show h10.size > r6 by omega) (C10.safe (show h9.size > r6 by omega) (C9.safe (show h8.size > r6 by omega) (C8.safe (show h7.size > r6 by omega) (C7.safe (show h6.size > r6 by omega) q6_3))))))
                have f23 := ((((((q6_6.keep K7).keep K8).ext E9).keep K10).ext E11).keep K12)
                refine ginfo fun _ _ O18 => ?_
                have f24 := (A11.keep K12)
                refine gcallV (y := mn853) (z := mn853) hx (ow hw 136 rfl) (ow hw 137 rfl) (nfSel (ow hw 139 rfl)) (ow hw 139 rfl) (ow hw 138 rfl) (by decide) (fun hZ H hEL => Pay.of_met (W := 0) (own_chash1_0 l Z a0 cx [] (b11) (fg6_3) (r6) (t6) (fg5_2) (x0) (dz) (el) (ee) (em) (mr) (kd) (ke) vm12 h12 O18 q12_0 q12_1 q12_2 (by first | assumption | decide | omega) f19 f20 f21 q6_2 f22 f23 (by first | assumption | decide | omega)) (ow hw 140 rfl) (ow hw 59 rfl) (by decide) (by decide) hZ H hEL) 166 (argsL := []) (rest := []) f24 (lenOf own_pd84 rfl) rfl rfl (Nat.le_of_eq rfl) (by rw [hml]; rfl) (hb hby at_163) rfl (by decide) (by decide) ?_
                rintro _ vm18 h18 C18 ⟨rfl, K18⟩
                have z18 := C18.2.1
                refine gat1 ?_
                refine uSI 168 #[vi x0, vi x1, vi x2, vi x3, vi fg4_1, vi fg5_2, vi fg6_3, vi (0 : Int32), vi fg8_4, vi fg9_5, vr r6, vr r7, vr r8, vr b9, vr b11, vi (((31 : Int32) * (((31 : Int32) * ((31 : Int32) + (own_h fg5_2 x0))) + (own_bh fg6_3))) + (1 : Int32)), un, un, un, un] hx hby at_166 rfl rfl ?_
                refine uI 170 hx hby at_168 rfl rfl ?_
                refine uY 177 hx hby at_170 ((if0 _ _).trans (teq e4).1) (by decide) (by decide) ?_
                refine uIN 178 hx hby at_177 rfl rfl ?_
                refine uI 180 hx hby at_178 rfl rfl ?_
                refine ginfo fun _ _ O25 => ?_
                refine gcallS (y := mn668) hx (ow hw 383 rfl) (ow hw 384 rfl) (ow hw 2 rfl) (ow hw 385 rfl) (by decide) (fun hZ H hEL => Pay.of_met (W := 0) (own_hashOf l Z a0 cx [] (x0) (fg5_2) vm18 h18 O25 ) (ow hw 385 rfl) (ow hw 2 rfl) (by decide) (by decide) hZ H hEL) 183 (argsL := [(.int x0), (.int fg5_2)]) (rest := []) (lenOf own_pd870 rfl) rfl rfl (Nat.le_of_eq rfl) (by rw [hml]; rfl) (hb hby at_180) rfl (by decide) (by decide) ?_
                rintro _ vm25 h25 C25 ⟨rfl, rfl⟩
                have z25 := C25.2.1
                refine gat1 ?_
                refine uSI 185 #[vi x0, vi x1, vi x2, vi x3, vi fg4_1, vi fg5_2, vi fg6_3, vi (0 : Int32), vi fg8_4, vi fg9_5, vr r6, vr r7, vr r8, vr b9, vr b11, vi (((31 : Int32) * (((31 : Int32) * ((31 : Int32) + (own_h fg5_2 x0))) + (own_bh fg6_3))) + (1 : Int32)), vi (own_h fg5_2 x0), un, un, un] hx hby at_183 rfl rfl ?_
                refine gjoin (fun vmJ hJ gJ => ∃ (qh26 : Int32), gJ = (mkF m 199 #[vi x0, vi x1, vi x2, vi x3, vi fg4_1, vi fg5_2, vi fg6_3, vi (0 : Int32), vi fg8_4, vi fg9_5, vr r6, vr r7, vr r8, vr b9, vr b11, vi (((31 : Int32) * (((31 : Int32) * ((31 : Int32) + (own_h fg5_2 x0))) + (own_bh fg6_3))) + (1 : Int32)), vi (own_h fg5_2 x0), un, un, un] [(.int qh26)]) ∧ Keep h18 hJ [] ∧ CHq Z ([] : List (String × Nat)) vm25 h18 vmJ hJ ∧ (qh26 = (own_bh fg6_3))) 13 37 ?_ ?_
                · rintro vm26 h26 _ ⟨qh26, rfl, K26, C26, q26_0⟩
                  have z26 := C26.2.1
                  refine uSI 201 #[vi x0, vi x1, vi x2, vi x3, vi fg4_1, vi fg5_2, vi fg6_3, vi (0 : Int32), vi fg8_4, vi fg9_5, vr r6, vr r7, vr r8, vr b9, vr b11, vi (((31 : Int32) * (((31 : Int32) * ((31 : Int32) + (own_h fg5_2 x0))) + (own_bh fg6_3))) + (1 : Int32)), vi (own_h fg5_2 x0), vi qh26, un, un] hx hby at_199 rfl rfl ?_
                  refine gat (mkF m 201 #[vi x0, vi x1, vi x2, vi x3, vi fg4_1, vi fg5_2, vi fg6_3, vi (0 : Int32), vi fg8_4, vi fg9_5, vr r6, vr r7, vr r8, vr b9, vr b11, vi (((31 : Int32) * (((31 : Int32) * ((31 : Int32) + (own_h fg5_2 x0))) + (own_bh fg6_3))) + (1 : Int32)), vi (own_h fg5_2 x0), vi (own_bh fg6_3), un, un] []) (by rw [q26_0]) ?_
                  refine uKc 202 (1 : Int32) hx hby at_201 rfl rfl ?_
                  refine uSI 204 #[vi x0, vi x1, vi x2, vi x3, vi fg4_1, vi fg5_2, vi fg6_3, vi (0 : Int32), vi fg8_4, vi fg9_5, vr r6, vr r7, vr r8, vr b9, vr b11, vi (((31 : Int32) * (((31 : Int32) * ((31 : Int32) + (own_h fg5_2 x0))) + (own_bh fg6_3))) + (1 : Int32)), vi (own_h fg5_2 x0), vi (own_bh fg6_3), vi (1 : Int32), un] hx hby at_202 rfl rfl ?_
                  refine uI 206 hx hby at_204 rfl rfl ?_
                  refine uKc 207 (1 : Int32) hx hby at_206 rfl rfl ?_
                  refine uYc 224 hx hby at_207 (tlt (by decide)).1 (by decide) (by decide) ?_
                  refine uI 226 hx hby at_224 rfl rfl ?_
                  refine uKc 227 (2 : Int32) hx hby at_226 rfl rfl ?_
                  refine uYc 244 hx hby at_227 (tlt (by decide)).1 (by decide) (by decide) ?_
                  refine uKb 246 (31 : Int32) hx hby at_244 rfl rfl ?_
                  refine uI 248 hx hby at_246 rfl rfl ?_
                  refine uiadd 249 ((31 : Int32) + (own_h fg5_2 x0)) hx hby at_248 rfl rfl ?_
                  refine uKb 251 (31 : Int32) hx hby at_249 rfl rfl ?_
                  refine uimul 252 (((31 : Int32) + (own_h fg5_2 x0)) * (31 : Int32)) hx hby at_251 rfl rfl ?_
                  refine uI 254 hx hby at_252 rfl rfl ?_
                  refine uiadd 255 ((((31 : Int32) + (own_h fg5_2 x0)) * (31 : Int32)) + (own_bh fg6_3)) hx hby at_254 rfl rfl ?_
                  refine uKb 257 (31 : Int32) hx hby at_255 rfl rfl ?_
                  refine uimul 258 (((((31 : Int32) + (own_h fg5_2 x0)) * (31 : Int32)) + (own_bh fg6_3)) * (31 : Int32)) hx hby at_257 rfl rfl ?_
                  refine uI 260 hx hby at_258 rfl rfl ?_
                  refine uiadd 261 ((((((31 : Int32) + (own_h fg5_2 x0)) * (31 : Int32)) + (own_bh fg6_3)) * (31 : Int32)) + (1 : Int32)) hx hby at_260 rfl rfl ?_
                  refine uSI 263 #[vi x0, vi x1, vi x2, vi x3, vi fg4_1, vi fg5_2, vi fg6_3, vi (0 : Int32), vi fg8_4, vi fg9_5, vr r6, vr r7, vr r8, vr b9, vr b11, vi (((31 : Int32) * (((31 : Int32) * ((31 : Int32) + (own_h fg5_2 x0))) + (own_bh fg6_3))) + (1 : Int32)), vi (own_h fg5_2 x0), vi (own_bh fg6_3), vi (1 : Int32), vi ((((((31 : Int32) + (own_h fg5_2 x0)) * (31 : Int32)) + (own_bh fg6_3)) * (31 : Int32)) + (1 : Int32))] hx hby at_261 rfl rfl ?_
                  refine uI 265 hx hby at_263 rfl rfl ?_
                  refine uI 267 hx hby at_265 rfl rfl ?_
                  refine uNc 270 hx hby at_267 rfl (teq (own_eq1 _ _ _)).2 ?_
                  refine uKc 271 (1 : Int32) hx hby at_270 rfl rfl ?_
                  refine uG 275 hx hby at_271 (by decide) (by decide) ?_
                  exact gretN (t := .boolean) hx hret (by simp) (hb hby at_275) (by decide) (by decide) (fun vq Cq => ⟨rfl, (((((((((((((((Keep.refl h0 []).trans K1 all0).trans K2 all0).trans K3 all0).trans K4 all0).trans K5 all0).trans K6 all0).trans K7 all0).trans K8 all0).ext E9).trans K10 (allS (Or.inr (by omega)) all0)).ext E11).trans K12 (allS (Or.inr (by omega)) all0)).trans K18 (allS (Or.inr (by omega)) all0)).trans K26 all0)⟩)
                · intro J26
                  refine uI 187 hx hby at_185 rfl rfl ?_
                  by_cases e6 : fg6_3 = (0 : Int32)
                  · refine uY 196 hx hby at_187 ((if0 _ _).trans (teq e6).1) (by decide) (by decide) ?_
                    refine uKs 199 (1237 : Int32) hx hby at_196 rfl rfl ?_
                    refine ginfo fun _ Hq _ => ?_
                    exact gmono (by decide) (by decide) (J26 _ _ _ ⟨(1237 : Int32), rfl, (Keep.refl h18 []), (CHq.refl Hq), (by rw [own_bh, if_pos e6])⟩)
                  · refine uN 190 hx hby at_187 rfl ((if0 _ _).trans (feq e6).1) ?_
                    refine uKs 193 (1231 : Int32) hx hby at_190 rfl rfl ?_
                    refine uG 199 hx hby at_193 (by decide) (by decide) ?_
                    refine ginfo fun _ Hq _ => ?_
                    exact gmono (by decide) (by decide) (J26 _ _ _ ⟨(1231 : Int32), rfl, (Keep.refl h18 []), (CHq.refl Hq), (by rw [own_bh, if_neg e6])⟩)
              · refine gat (mkF m 118 #[vi x0, vi x1, vi x2, vi x3, vi fg4_1, vi fg5_2, vi fg6_3, vi (1 : Int32), vi fg8_4, vi fg9_5, vr r6, vr r7, vr r8, vr b9, un, un, un, un, un, un] []) (by rw [nq]) ?_
                refine uI 120 hx hby at_118 rfl rfl ?_
                refine uKc 121 (1 : Int32) hx hby at_120 rfl rfl ?_
                refine uNc 124 hx hby at_121 rfl (flt (by decide)).1 ?_
                refine uA 126 hx hby at_124 rfl rfl rfl ?_
                refine uA 128 hx hby at_126 rfl rfl rfl ?_
                have f29 := (A9.keep K10)
                refine ginfo fun _ _ O28 => ?_
                refine gcallV (y := mn186) (z := mn186) hx (ow hw 203 rfl) (ow hw 204 rfl) (nfSel (ow hw 206 rfl)) (ow hw 206 rfl) (ow hw 205 rfl) (by decide) (fun hZ H hEL => Pay.of_met (W := 0) (own_add0 l Z a0 cx [] (b9) (r7) ((0 : Int32)) (dz) (el) (ee) (em) (mr) (kd) (ke) vm10 h10 O28 f29 q10_0 q10_1 n9 (((q7_1.1.keep K8).ext E9).keep K10) q10_2 (by first | assumption | decide | omega)) (ow hw 207 rfl) (ow hw 35 rfl) (by decide) (by decide) hZ H hEL) 131 (argsL := [(.ref r7)]) (rest := []) f29 (lenOf own_pd871 rfl) rfl rfl (Nat.le_of_eq rfl) (by rw [hml]; rfl) (hb hby at_128) rfl (by decide) (by decide) ?_
                rintro _ vm28 h28 C28 ⟨d28, kc28, rfl, K28, q28_0, q28_1, q28_2, q28_3, q28_4, q28_5, q28_6, q28_7⟩
                have z28 := C28.2.1
                have lt_d28 : h28.size > d28 := q28_2.lt
                refine gat1 ?_
                refine uP 132 hx hby at_131 rfl rfl ?_
                refine uI 134 hx hby at_132 rfl rfl ?_
                refine uKc 135 (2 : Int32) hx hby at_134 rfl rfl ?_
                refine uYc 146 hx hby at_135 (tlt (by decide)).1 (by decide) (by decide) ?_
                refine gnewO hx (ow hw 57 rfl) (ow hw 58 rfl) (ow hw 59 rfl) 149 (hb hby at_146) rfl (by decide) (by decide) ?_
                intro b30 h30 g30 E30 C30 A30 D30 n30 L30
                have z30 := C30.2.1
                have lt_b30 : h30.size > b30 := A30.lt
                have F30_ui : Fld Z h30 b30 c5_ "ui" c1_ .null := D30 (Or.inr (ow hw 103 rfl)) (ty := (.object c12_)) (by decide)
                have F30_preferred : Fld Z h30 b30 c5_ "preferred" "Z" (.int (0 : Int32)) := D30 (Or.inr (ow hw 105 rfl)) (ty := .boolean) (by decide)
                have F30_terms : Fld Z h30 b30 c5_ "terms" c3_ .null := D30 (Or.inr (ow hw 135 rfl)) (ty := (.object c19_)) (by decide)
                refine uD 150 hx hby at_149 rfl rfl ?_
                refine uA 152 hx hby at_150 rfl rfl rfl ?_
                refine uI 154 hx hby at_152 rfl rfl ?_
                refine uA 156 hx hby at_154 rfl rfl rfl ?_
                have f32 := (q28_7.ext E30)
                have f33 := ((f29.keep K28).ext E30)
                have f34 := (q28_0.ext E30)
                have f35 := (q28_1.ext E30)
                have f36 := (q28_2.ext E30)
                have f37 := (q28_5.ext E30)
                have f38 := (((((q7_1.keep K8 nin0 nin0).ext E9).keep K10 (ninS (Nat.ne_of_lt (by omega)) nin0) (ninS (Nat.ne_of_lt (by omega)) nin0)).keep K28 (ninS (Nat.ne_of_lt (by omega)) nin0) (ninS (Nat.ne_of_lt (by omega)) nin0)).ext E30)
                have f39 := ((((((q6_1.keep K7 nin0 nin0).keep K8 nin0 nin0).ext E9).keep K10 (ninS (Nat.ne_of_lt (by omega)) nin0) (ninS (Nat.ne_of_lt (by omega)) nin0)).keep K28 (ninS (Nat.ne_of_lt (by omega)) nin0) (ninS (Nat.ne_of_lt (by omega)) nin0)).ext E30)
                refine ginfo fun _ _ O31 => ?_
                refine gcallI (y := mn460) hx rfl (ow hw 60 rfl) (ow hw 61 rfl) (ow hw 62 rfl) (by decide) (fun hZ H hEL => Pay.of_met (W := 1) (own_cc1_1 l Z a0 cx [] (b30) (fg6_3) (b9) (((0 : Int32) + (1 : Int32))) (.null) ((0 : Int32)) (.null) (r6) (t6) ((own_fst x0)) ((own_tl fg5_2 x0)) (d28) (kc28) (r7) (t7) ((own_fst x1)) ((own_tl fg8_4 x1)) (cdi) (ca) (kA) (dz) (el) (ee) (em) (mr) (kd) (ke) vm28 h30 O31 A30 F30_ui F30_preferred F30_terms n30 (by first | assumption | decide | omega) f32 f33 f34 f35 f36 f37 (by first | assumption | decide | omega) f38 (own_fstB _).1 (own_fstB _).2 (own_hpos _ _) f39 (own_fstB _).1 (own_fstB _).2 (own_hpos _ _) (by first | assumption | decide | omega) (by first | assumption | decide | omega)) (ow hw 62 rfl) (ow hw 59 rfl) (by decide) (by decide) hZ H hEL) (a := b30) 159 (argsL := [(.ref r6), (.int fg6_3), (.ref b9)]) (rest := [(.ref b30)]) (lenOf own_pd869 rfl) rfl rfl (Nat.le_of_eq rfl) (by rw [hml]; rfl) (hb hby at_156) rfl (by decide) (by decide) ?_
                rintro _ vm31 h31 C31 ⟨r31, rfl, K31, q31_0, q31_1, q31_2, q31_3, q31_4, q31_5⟩
                have z31 := C31.2.1
                have lt_r31 : h31.size > r31 := q31_3.lt
                refine gat0 ?_
                refine uSA 161 #[vi x0, vi x1, vi x2, vi x3, vi fg4_1, vi fg5_2, vi fg6_3, vi (1 : Int32), vi fg8_4, vi fg9_5, vr r6, vr r7, vr r8, vr b9, vr b30, un, un, un, un, un] hx hby at_159 rfl rfl rfl ?_
                refine uA 163 hx hby at_161 rfl rfl rfl ?_
                have f41 := (f38.keep K31 (ninS (Nat.ne_of_lt (by omega)) nin0) (ninS (Nat.ne_of_lt (by omega)) nin0))
                have f42 := ((((((q7_4.keep K8 nin0).ext E9).keep K10 (ninS (Nat.ne_of_lt (by omega)) nin0)).keep K28 (ninS (Nat.ne_of_lt (by omega)) nin0)).ext E30).keep K31 (ninS (Nat.ne_of_lt (by omega)) nin0))
                have f43 := ((((((q7_5.keep K8 nin0).ext E9).keep K10 (ninS (Nat.ne_of_lt (by omega)) nin0)).keep K28 (ninS (Nat.ne_of_lt (by omega)) nin0)).ext E30).keep K31 (ninS (Nat.ne_of_lt (by omega)) nin0))
                have f44 := (C31.safe (show h30.size > r7 by omega) (C30.safe (show h28.size > r7 by omega) (C28.safe (show h10.size > r7 by omega) (C10.safe (show h9.size > r7 by omega) (C9.safe (show h8.size > r7 by omega) (C8.safe (show h7.size > r7 by omega) q7_3))))))
                have f45 := ((((((q7_6.keep K8).ext E9).keep K10).keep K28).ext E30).keep K31)
                have f46 := (f39.keep K31 (ninS (Nat.ne_of_lt (by omega)) nin0) (ninS (Nat.ne_of_lt (by omega)) nin0))
                have f47 := (((((((q6_4.keep K7 nin0).keep K8 nin0).ext E9).keep K10 (ninS (Nat.ne_of_lt (by omega)) nin0)).keep K28 (ninS (Nat.ne_of_lt (by omega)) nin0)).ext E30).keep K31 (ninS (Nat.ne_of_lt (by omega)) nin0))
                have f48 := (((((((q6_5.keep K7 nin0).keep K8 nin0).ext E9).keep K10 (ninS (Nat.ne_of_lt (by omega)) nin0)).keep K28 (ninS (Nat.ne_of_lt (by omega)) nin0)).ext E30).keep K31 (ninS (Nat.ne_of_lt (by omega)) nin0))
                have f49 := (C31.safe (show h30.size > r6 by omega) (C30.safe (show h28.size > r6 by omega) (C28.safe (show h10.size > r6 by omega) (C10.safe (show h9.size > r6 by omega) (C9.safe (show h8.size > r6 by omega) (C8.safe (show h7.size > r6 by omega) (C7.safe (show h6.size > r6 by omega) q6_3)))))))
                have f50 := (((((((q6_6.keep K7).keep K8).ext E9).keep K10).keep K28).ext E30).keep K31)
                refine ginfo fun _ _ O40 => ?_
                have f51 := (A30.keep K31)
                refine gcallV (y := mn853) (z := mn853) hx (ow hw 136 rfl) (ow hw 137 rfl) (nfSel (ow hw 139 rfl)) (ow hw 139 rfl) (ow hw 138 rfl) (by decide) (fun hZ H hEL => Pay.of_met (W := 0) (own_chash1_1 l Z a0 cx [] (b30) (fg6_3) (r31) (r7) (t7) (fg8_4) (x1) (r6) (t6) (fg5_2) (x0) (dz) (el) (ee) (em) (mr) (kd) (ke) vm31 h31 O40 q31_0 q31_1 q31_2 (by first | assumption | decide | omega) q31_3 q31_4 q31_5 f41 f42 f43 q7_2 f44 f45 f46 f47 f48 q6_2 f49 f50 (Nat.ne_of_lt (by omega)) (by first | assumption | decide | omega)) (ow hw 140 rfl) (ow hw 59 rfl) (by decide) (by decide) hZ H hEL) 166 (argsL := []) (rest := []) f51 (lenOf own_pd84 rfl) rfl rfl (Nat.le_of_eq rfl) (by rw [hml]; rfl) (hb hby at_163) rfl (by decide) (by decide) ?_
                rintro _ vm40 h40 C40 ⟨rfl, K40⟩
                have z40 := C40.2.1
                refine gat1 ?_
                refine uSI 168 #[vi x0, vi x1, vi x2, vi x3, vi fg4_1, vi fg5_2, vi fg6_3, vi (1 : Int32), vi fg8_4, vi fg9_5, vr r6, vr r7, vr r8, vr b9, vr b30, vi (((31 : Int32) * (((31 : Int32) * ((31 : Int32) + (own_h fg5_2 x0))) + (own_bh fg6_3))) + ((31 : Int32) + (own_h fg8_4 x1))), un, un, un, un] hx hby at_166 rfl rfl ?_
                refine uI 170 hx hby at_168 rfl rfl ?_
                refine uY 177 hx hby at_170 ((if0 _ _).trans (teq e4).1) (by decide) (by decide) ?_
                refine uIN 178 hx hby at_177 rfl rfl ?_
                refine uI 180 hx hby at_178 rfl rfl ?_
                refine ginfo fun _ _ O52 => ?_
                refine gcallS (y := mn668) hx (ow hw 383 rfl) (ow hw 384 rfl) (ow hw 2 rfl) (ow hw 385 rfl) (by decide) (fun hZ H hEL => Pay.of_met (W := 0) (own_hashOf l Z a0 cx [] (x0) (fg5_2) vm40 h40 O52 ) (ow hw 385 rfl) (ow hw 2 rfl) (by decide) (by decide) hZ H hEL) 183 (argsL := [(.int x0), (.int fg5_2)]) (rest := []) (lenOf own_pd870 rfl) rfl rfl (Nat.le_of_eq rfl) (by rw [hml]; rfl) (hb hby at_180) rfl (by decide) (by decide) ?_
                rintro _ vm52 h52 C52 ⟨rfl, rfl⟩
                have z52 := C52.2.1
                refine gat1 ?_
                refine uSI 185 #[vi x0, vi x1, vi x2, vi x3, vi fg4_1, vi fg5_2, vi fg6_3, vi (1 : Int32), vi fg8_4, vi fg9_5, vr r6, vr r7, vr r8, vr b9, vr b30, vi (((31 : Int32) * (((31 : Int32) * ((31 : Int32) + (own_h fg5_2 x0))) + (own_bh fg6_3))) + ((31 : Int32) + (own_h fg8_4 x1))), vi (own_h fg5_2 x0), un, un, un] hx hby at_183 rfl rfl ?_
                refine gjoin (fun vmJ hJ gJ => ∃ (qh53 : Int32), gJ = (mkF m 199 #[vi x0, vi x1, vi x2, vi x3, vi fg4_1, vi fg5_2, vi fg6_3, vi (1 : Int32), vi fg8_4, vi fg9_5, vr r6, vr r7, vr r8, vr b9, vr b30, vi (((31 : Int32) * (((31 : Int32) * ((31 : Int32) + (own_h fg5_2 x0))) + (own_bh fg6_3))) + ((31 : Int32) + (own_h fg8_4 x1))), vi (own_h fg5_2 x0), un, un, un] [(.int qh53)]) ∧ Keep h40 hJ [] ∧ CHq Z ([] : List (String × Nat)) vm52 h40 vmJ hJ ∧ (qh53 = (own_bh fg6_3))) 16 50 ?_ ?_
                · rintro vm53 h53 _ ⟨qh53, rfl, K53, C53, q53_0⟩
                  have z53 := C53.2.1
                  refine uSI 201 #[vi x0, vi x1, vi x2, vi x3, vi fg4_1, vi fg5_2, vi fg6_3, vi (1 : Int32), vi fg8_4, vi fg9_5, vr r6, vr r7, vr r8, vr b9, vr b30, vi (((31 : Int32) * (((31 : Int32) * ((31 : Int32) + (own_h fg5_2 x0))) + (own_bh fg6_3))) + ((31 : Int32) + (own_h fg8_4 x1))), vi (own_h fg5_2 x0), vi qh53, un, un] hx hby at_199 rfl rfl ?_
                  refine gat (mkF m 201 #[vi x0, vi x1, vi x2, vi x3, vi fg4_1, vi fg5_2, vi fg6_3, vi (1 : Int32), vi fg8_4, vi fg9_5, vr r6, vr r7, vr r8, vr b9, vr b30, vi (((31 : Int32) * (((31 : Int32) * ((31 : Int32) + (own_h fg5_2 x0))) + (own_bh fg6_3))) + ((31 : Int32) + (own_h fg8_4 x1))), vi (own_h fg5_2 x0), vi (own_bh fg6_3), un, un] []) (by rw [q53_0]) ?_
                  refine uKc 202 (1 : Int32) hx hby at_201 rfl rfl ?_
                  refine uSI 204 #[vi x0, vi x1, vi x2, vi x3, vi fg4_1, vi fg5_2, vi fg6_3, vi (1 : Int32), vi fg8_4, vi fg9_5, vr r6, vr r7, vr r8, vr b9, vr b30, vi (((31 : Int32) * (((31 : Int32) * ((31 : Int32) + (own_h fg5_2 x0))) + (own_bh fg6_3))) + ((31 : Int32) + (own_h fg8_4 x1))), vi (own_h fg5_2 x0), vi (own_bh fg6_3), vi (1 : Int32), un] hx hby at_202 rfl rfl ?_
                  refine uI 206 hx hby at_204 rfl rfl ?_
                  refine uKc 207 (1 : Int32) hx hby at_206 rfl rfl ?_
                  refine uNc 210 hx hby at_207 rfl (flt (by decide)).1 ?_
                  refine uKb 212 (31 : Int32) hx hby at_210 rfl rfl ?_
                  refine uI 214 hx hby at_212 rfl rfl ?_
                  refine uimul 215 (31 : Int32) hx hby at_214 rfl (by decide) ?_
                  refine uIN 216 hx hby at_215 rfl rfl ?_
                  refine uI 218 hx hby at_216 rfl rfl ?_
                  refine ginfo fun _ _ O54 => ?_
                  refine gcallS (y := mn668) hx (ow hw 383 rfl) (ow hw 384 rfl) (ow hw 2 rfl) (ow hw 385 rfl) (by decide) (fun hZ H hEL => Pay.of_met (W := 1) (own_hashOf l Z a0 cx [] (x1) (fg8_4) vm53 h53 O54 ) (ow hw 385 rfl) (ow hw 2 rfl) (by decide) (by decide) hZ H hEL) 221 (argsL := [(.int x1), (.int fg8_4)]) (rest := [(.int (31 : Int32))]) (lenOf own_pd870 rfl) rfl rfl (Nat.le_of_eq rfl) (by rw [hml]; rfl) (hb hby at_218) rfl (by decide) (by decide) ?_
                  rintro _ vm54 h54 C54 ⟨rfl, rfl⟩
                  have z54 := C54.2.1
                  refine gat1 ?_
                  refine uiadd 222 ((31 : Int32) + (own_h fg8_4 x1)) hx hby at_221 rfl rfl ?_
                  refine uSI 224 #[vi x0, vi x1, vi x2, vi x3, vi fg4_1, vi fg5_2, vi fg6_3, vi (1 : Int32), vi fg8_4, vi fg9_5, vr r6, vr r7, vr r8, vr b9, vr b30, vi (((31 : Int32) * (((31 : Int32) * ((31 : Int32) + (own_h fg5_2 x0))) + (own_bh fg6_3))) + ((31 : Int32) + (own_h fg8_4 x1))), vi (own_h fg5_2 x0), vi (own_bh fg6_3), vi ((31 : Int32) + (own_h fg8_4 x1)), un] hx hby at_222 rfl rfl ?_
                  refine uI 226 hx hby at_224 rfl rfl ?_
                  refine uKc 227 (2 : Int32) hx hby at_226 rfl rfl ?_
                  refine uYc 244 hx hby at_227 (tlt (by decide)).1 (by decide) (by decide) ?_
                  refine uKb 246 (31 : Int32) hx hby at_244 rfl rfl ?_
                  refine uI 248 hx hby at_246 rfl rfl ?_
                  refine uiadd 249 ((31 : Int32) + (own_h fg5_2 x0)) hx hby at_248 rfl rfl ?_
                  refine uKb 251 (31 : Int32) hx hby at_249 rfl rfl ?_
                  refine uimul 252 (((31 : Int32) + (own_h fg5_2 x0)) * (31 : Int32)) hx hby at_251 rfl rfl ?_
                  refine uI 254 hx hby at_252 rfl rfl ?_
                  refine uiadd 255 ((((31 : Int32) + (own_h fg5_2 x0)) * (31 : Int32)) + (own_bh fg6_3)) hx hby at_254 rfl rfl ?_
                  refine uKb 257 (31 : Int32) hx hby at_255 rfl rfl ?_
                  refine uimul 258 (((((31 : Int32) + (own_h fg5_2 x0)) * (31 : Int32)) + (own_bh fg6_3)) * (31 : Int32)) hx hby at_257 rfl rfl ?_
                  refine uI 260 hx hby at_258 rfl rfl ?_
                  refine uiadd 261 ((((((31 : Int32) + (own_h fg5_2 x0)) * (31 : Int32)) + (own_bh fg6_3)) * (31 : Int32)) + ((31 : Int32) + (own_h fg8_4 x1))) hx hby at_260 rfl rfl ?_
                  refine uSI 263 #[vi x0, vi x1, vi x2, vi x3, vi fg4_1, vi fg5_2, vi fg6_3, vi (1 : Int32), vi fg8_4, vi fg9_5, vr r6, vr r7, vr r8, vr b9, vr b30, vi (((31 : Int32) * (((31 : Int32) * ((31 : Int32) + (own_h fg5_2 x0))) + (own_bh fg6_3))) + ((31 : Int32) + (own_h fg8_4 x1))), vi (own_h fg5_2 x0), vi (own_bh fg6_3), vi ((31 : Int32) + (own_h fg8_4 x1)), vi ((((((31 : Int32) + (own_h fg5_2 x0)) * (31 : Int32)) + (own_bh fg6_3)) * (31 : Int32)) + ((31 : Int32) + (own_h fg8_4 x1)))] hx hby at_261 rfl rfl ?_
                  refine uI 265 hx hby at_263 rfl rfl ?_
                  refine uI 267 hx hby at_265 rfl rfl ?_
                  refine uNc 270 hx hby at_267 rfl (teq (own_eq1 _ _ _)).2 ?_
                  refine uKc 271 (1 : Int32) hx hby at_270 rfl rfl ?_
                  refine uG 275 hx hby at_271 (by decide) (by decide) ?_
                  exact gretN (t := .boolean) hx hret (by simp) (hb hby at_275) (by decide) (by decide) (fun vq Cq => ⟨rfl, ((((((((((((((((Keep.refl h0 []).trans K1 all0).trans K2 all0).trans K3 all0).trans K4 all0).trans K5 all0).trans K6 all0).trans K7 all0).trans K8 all0).ext E9).trans K10 (allS (Or.inr (by omega)) all0)).trans K28 (allS (Or.inr (by omega)) all0)).ext E30).trans K31 (allS (Or.inr (by omega)) all0)).trans K40 (allS (Or.inr (by omega)) (allS (Or.inr (by omega)) all0))).trans K53 all0)⟩)
                · intro J53
                  refine uI 187 hx hby at_185 rfl rfl ?_
                  by_cases e6 : fg6_3 = (0 : Int32)
                  · refine uY 196 hx hby at_187 ((if0 _ _).trans (teq e6).1) (by decide) (by decide) ?_
                    refine uKs 199 (1237 : Int32) hx hby at_196 rfl rfl ?_
                    refine ginfo fun _ Hq _ => ?_
                    exact gmono (by decide) (by decide) (J53 _ _ _ ⟨(1237 : Int32), rfl, (Keep.refl h40 []), (CHq.refl Hq), (by rw [own_bh, if_pos e6])⟩)
                  · refine uN 190 hx hby at_187 rfl ((if0 _ _).trans (feq e6).1) ?_
                    refine uKs 193 (1231 : Int32) hx hby at_190 rfl rfl ?_
                    refine uG 199 hx hby at_193 (by decide) (by decide) ?_
                    refine ginfo fun _ Hq _ => ?_
                    exact gmono (by decide) (by decide) (J53 _ _ _ ⟨(1231 : Int32), rfl, (Keep.refl h40 []), (CHq.refl Hq), (by rw [own_bh, if_neg e6])⟩)
              · refine gat (mkF m 118 #[vi x0, vi x1, vi x2, vi x3, vi fg4_1, vi fg5_2, vi fg6_3, vi (2 : Int32), vi fg8_4, vi fg9_5, vr r6, vr r7, vr r8, vr b9, un, un, un, un, un, un] []) (by rw [nq]) ?_
                refine uI 120 hx hby at_118 rfl rfl ?_
                refine uKc 121 (1 : Int32) hx hby at_120 rfl rfl ?_
                refine uNc 124 hx hby at_121 rfl (flt (by decide)).1 ?_
                refine uA 126 hx hby at_124 rfl rfl rfl ?_
                refine uA 128 hx hby at_126 rfl rfl rfl ?_
                have f57 := (A9.keep K10)
                refine ginfo fun _ _ O56 => ?_
                refine gcallV (y := mn186) (z := mn186) hx (ow hw 203 rfl) (ow hw 204 rfl) (nfSel (ow hw 206 rfl)) (ow hw 206 rfl) (ow hw 205 rfl) (by decide) (fun hZ H hEL => Pay.of_met (W := 0) (own_add0 l Z a0 cx [] (b9) (r7) ((0 : Int32)) (dz) (el) (ee) (em) (mr) (kd) (ke) vm10 h10 O56 f57 q10_0 q10_1 n9 (((q7_1.1.keep K8).ext E9).keep K10) q10_2 (by first | assumption | decide | omega)) (ow hw 207 rfl) (ow hw 35 rfl) (by decide) (by decide) hZ H hEL) 131 (argsL := [(.ref r7)]) (rest := []) f57 (lenOf own_pd871 rfl) rfl rfl (Nat.le_of_eq rfl) (by rw [hml]; rfl) (hb hby at_128) rfl (by decide) (by decide) ?_
                rintro _ vm56 h56 C56 ⟨d56, kc56, rfl, K56, q56_0, q56_1, q56_2, q56_3, q56_4, q56_5, q56_6, q56_7⟩
                have z56 := C56.2.1
                have lt_d56 : h56.size > d56 := q56_2.lt
                refine gat1 ?_
                refine uP 132 hx hby at_131 rfl rfl ?_
                refine uI 134 hx hby at_132 rfl rfl ?_
                refine uKc 135 (2 : Int32) hx hby at_134 rfl rfl ?_
                refine uNc 138 hx hby at_135 rfl (flt (by decide)).1 ?_
                refine uA 140 hx hby at_138 rfl rfl rfl ?_
                refine uA 142 hx hby at_140 rfl rfl rfl ?_
                have f59 := (f57.keep K56)
                refine ginfo fun _ _ O58 => ?_
                refine gcallV (y := mn186) (z := mn186) hx (ow hw 203 rfl) (ow hw 204 rfl) (nfSel (ow hw 206 rfl)) (ow hw 206 rfl) (ow hw 205 rfl) (by decide) (fun hZ H hEL => Pay.of_met (W := 0) (own_add1 l Z a0 cx [] (b9) (r8) (d56) (kc56) (r7) (((0 : Int32) + (1 : Int32))) (dz) (el) (ee) (em) (mr) (kd) (ke) vm56 h56 O58 f59 q56_0 q56_1 q56_2 q56_5 (by first | assumption | decide | omega) n9 (((q8_1.1.ext E9).keep K10).keep K56) q56_4 q56_7 (by first | assumption | decide | omega)) (ow hw 207 rfl) (ow hw 35 rfl) (by decide) (by decide) hZ H hEL) 145 (argsL := [(.ref r8)]) (rest := []) f59 (lenOf own_pd871 rfl) rfl rfl (Nat.le_of_eq rfl) (by rw [hml]; rfl) (hb hby at_142) rfl (by decide) (by decide) ?_
                rintro _ vm58 h58 C58 ⟨rfl, K58, q58_0, q58_1, q58_2, q58_3⟩
                have z58 := C58.2.1
                refine gat1 ?_
                refine uP 146 hx hby at_145 rfl rfl ?_
                refine gnewO hx (ow hw 57 rfl) (ow hw 58 rfl) (ow hw 59 rfl) 149 (hb hby at_146) rfl (by decide) (by decide) ?_
                intro b60 h60 g60 E60 C60 A60 D60 n60 L60
                have z60 := C60.2.1
                have lt_b60 : h60.size > b60 := A60.lt
                have F60_ui : Fld Z h60 b60 c5_ "ui" c1_ .null := D60 (Or.inr (ow hw 103 rfl)) (ty := (.object c12_)) (by decide)
                have F60_preferred : Fld Z h60 b60 c5_ "preferred" "Z" (.int (0 : Int32)) := D60 (Or.inr (ow hw 105 rfl)) (ty := .boolean) (by decide)
                have F60_terms : Fld Z h60 b60 c5_ "terms" c3_ .null := D60 (Or.inr (ow hw 135 rfl)) (ty := (.object c19_)) (by decide)
                refine uD 150 hx hby at_149 rfl rfl ?_
                refine uA 152 hx hby at_150 rfl rfl rfl ?_
                refine uI 154 hx hby at_152 rfl rfl ?_
                refine uA 156 hx hby at_154 rfl rfl rfl ?_
                have f62 := (q58_3.ext E60)
                have f63 := ((f59.keep K58).ext E60)
                have f64 := (q58_0.ext E60)
                have f65 := (q58_1.ext E60)
                have f66 := (q58_2.ext E60)
                have f67 := ((q56_5.keep K58).ext E60)
                have f68 := ((((((q7_1.keep K8 nin0 nin0).ext E9).keep K10 (ninS (Nat.ne_of_lt (by omega)) nin0) (ninS (Nat.ne_of_lt (by omega)) nin0)).keep K56 (ninS (Nat.ne_of_lt (by omega)) nin0) (ninS (Nat.ne_of_lt (by omega)) nin0)).keep K58 (ninS (Nat.ne_of_lt (by omega)) (ninS (Nat.ne_of_lt (by omega)) nin0)) (ninS (Nat.ne_of_lt (by omega)) (ninS (Nat.ne_of_lt (by omega)) nin0))).ext E60)
                have f69 := (((((q8_1.ext E9).keep K10 (ninS (Nat.ne_of_lt (by omega)) nin0) (ninS (Nat.ne_of_lt (by omega)) nin0)).keep K56 (ninS (Nat.ne_of_lt (by omega)) nin0) (ninS (Nat.ne_of_lt (by omega)) nin0)).keep K58 (ninS (Nat.ne_of_lt (by omega)) (ninS (Nat.ne_of_lt (by omega)) nin0)) (ninS (Nat.ne_of_lt (by omega)) (ninS (Nat.ne_of_lt (by omega)) nin0))).ext E60)
                have f70 := (((((((q6_1.keep K7 nin0 nin0).keep K8 nin0 nin0).ext E9).keep K10 (ninS (Nat.ne_of_lt (by omega)) nin0) (ninS (Nat.ne_of_lt (by omega)) nin0)).keep K56 (ninS (Nat.ne_of_lt (by omega)) nin0) (ninS (Nat.ne_of_lt (by omega)) nin0)).keep K58 (ninS (Nat.ne_of_lt (by omega)) (ninS (Nat.ne_of_lt (by omega)) nin0)) (ninS (Nat.ne_of_lt (by omega)) (ninS (Nat.ne_of_lt (by omega)) nin0))).ext E60)
                refine ginfo fun _ _ O61 => ?_
                refine gcallI (y := mn460) hx rfl (ow hw 60 rfl) (ow hw 61 rfl) (ow hw 62 rfl) (by decide) (fun hZ H hEL => Pay.of_met (W := 1) (own_cc1_2 l Z a0 cx [] (b60) (fg6_3) (b9) ((((0 : Int32) + (1 : Int32)) + (1 : Int32))) (.null) ((0 : Int32)) (.null) (r6) (t6) ((own_fst x0)) ((own_tl fg5_2 x0)) (d56) (kc56) (r7) (r8) (t7) ((own_fst x1)) ((own_tl fg8_4 x1)) (t8) ((own_fst x2)) ((own_tl fg9_5 x2)) (cdi) (ca) (kA) (dz) (el) (ee) (em) (mr) (kd) (ke) vm58 h60 O61 A60 F60_ui F60_preferred F60_terms n60 (by first | assumption | decide | omega) f62 f63 f64 f65 f66 f67 (by first | assumption | decide | omega) f68 (own_fstB _).1 (own_fstB _).2 (own_hpos _ _) f69 (own_fstB _).1 (own_fstB _).2 (own_hpos _ _) f70 (own_fstB _).1 (own_fstB _).2 (own_hpos _ _) (by first | assumption | decide | omega) (by first | assumption | decide | omega)) (ow hw 62 rfl) (ow hw 59 rfl) (by decide) (by decide) hZ H hEL) (a := b60) 159 (argsL := [(.ref r6), (.int fg6_3), (.ref b9)]) (rest := [(.ref b60)]) (lenOf own_pd869 rfl) rfl rfl (Nat.le_of_eq rfl) (by rw [hml]; rfl) (hb hby at_156) rfl (by decide) (by decide) ?_
                rintro _ vm61 h61 C61 ⟨r61, rfl, K61, q61_0, q61_1, q61_2, q61_3, q61_4, q61_5⟩
                have z61 := C61.2.1
                have lt_r61 : h61.size > r61 := q61_3.lt
                refine gat0 ?_
                refine uSA 161 #[vi x0, vi x1, vi x2, vi x3, vi fg4_1, vi fg5_2, vi fg6_3, vi (2 : Int32), vi fg8_4, vi fg9_5, vr r6, vr r7, vr r8, vr b9, vr b60, un, un, un, un, un] hx hby at_159 rfl rfl rfl ?_
                refine uA 163 hx hby at_161 rfl rfl rfl ?_
                have f72 := (f68.keep K61 (ninS (Nat.ne_of_lt (by omega)) nin0) (ninS (Nat.ne_of_lt (by omega)) nin0))
                have f73 := (((((((q7_4.keep K8 nin0).ext E9).keep K10 (ninS (Nat.ne_of_lt (by omega)) nin0)).keep K56 (ninS (Nat.ne_of_lt (by omega)) nin0)).keep K58 (ninS (Nat.ne_of_lt (by omega)) (ninS (Nat.ne_of_lt (by omega)) nin0))).ext E60).keep K61 (ninS (Nat.ne_of_lt (by omega)) nin0))
                have f74 := (((((((q7_5.keep K8 nin0).ext E9).keep K10 (ninS (Nat.ne_of_lt (by omega)) nin0)).keep K56 (ninS (Nat.ne_of_lt (by omega)) nin0)).keep K58 (ninS (Nat.ne_of_lt (by omega)) (ninS (Nat.ne_of_lt (by omega)) nin0))).ext E60).keep K61 (ninS (Nat.ne_of_lt (by omega)) nin0))
                have f75 := (C61.safe (show h60.size > r7 by omega) (C60.safe (show h58.size > r7 by omega) (C58.safe (show h56.size > r7 by omega) (C56.safe (show h10.size > r7 by omega) (C10.safe (show h9.size > r7 by omega) (C9.safe (show h8.size > r7 by omega) (C8.safe (show h7.size > r7 by omega) q7_3)))))))
                have f76 := (((((((q7_6.keep K8).ext E9).keep K10).keep K56).keep K58).ext E60).keep K61)
                have f77 := (f69.keep K61 (ninS (Nat.ne_of_lt (by omega)) nin0) (ninS (Nat.ne_of_lt (by omega)) nin0))
                have f78 := ((((((q8_4.ext E9).keep K10 (ninS (Nat.ne_of_lt (by omega)) nin0)).keep K56 (ninS (Nat.ne_of_lt (by omega)) nin0)).keep K58 (ninS (Nat.ne_of_lt (by omega)) (ninS (Nat.ne_of_lt (by omega)) nin0))).ext E60).keep K61 (ninS (Nat.ne_of_lt (by omega)) nin0))
                have f79 := ((((((q8_5.ext E9).keep K10 (ninS (Nat.ne_of_lt (by omega)) nin0)).keep K56 (ninS (Nat.ne_of_lt (by omega)) nin0)).keep K58 (ninS (Nat.ne_of_lt (by omega)) (ninS (Nat.ne_of_lt (by omega)) nin0))).ext E60).keep K61 (ninS (Nat.ne_of_lt (by omega)) nin0))
                have f80 := (C61.safe (show h60.size > r8 by omega) (C60.safe (show h58.size > r8 by omega) (C58.safe (show h56.size > r8 by omega) (C56.safe (show h10.size > r8 by omega) (C10.safe (show h9.size > r8 by omega) (C9.safe (show h8.size > r8 by omega) q8_3))))))
                have f81 := ((((((q8_6.ext E9).keep K10).keep K56).keep K58).ext E60).keep K61)
                have f82 := (f70.keep K61 (ninS (Nat.ne_of_lt (by omega)) nin0) (ninS (Nat.ne_of_lt (by omega)) nin0))
                have f83 := ((((((((q6_4.keep K7 nin0).keep K8 nin0).ext E9).keep K10 (ninS (Nat.ne_of_lt (by omega)) nin0)).keep K56 (ninS (Nat.ne_of_lt (by omega)) nin0)).keep K58 (ninS (Nat.ne_of_lt (by omega)) (ninS (Nat.ne_of_lt (by omega)) nin0))).ext E60).keep K61 (ninS (Nat.ne_of_lt (by omega)) nin0))
                have f84 := ((((((((q6_5.keep K7 nin0).keep K8 nin0).ext E9).keep K10 (ninS (Nat.ne_of_lt (by omega)) nin0)).keep K56 (ninS (Nat.ne_of_lt (by omega)) nin0)).keep K58 (ninS (Nat.ne_of_lt (by omega)) (ninS (Nat.ne_of_lt (by omega)) nin0))).ext E60).keep K61 (ninS (Nat.ne_of_lt (by omega)) nin0))
                have f85 := (C61.safe (show h60.size > r6 by omega) (C60.safe (show h58.size > r6 by omega) (C58.safe (show h56.size > r6 by omega) (C56.safe (show h10.size > r6 by omega) (C10.safe (show h9.size > r6 by omega) (C9.safe (show h8.size > r6 by omega) (C8.safe (show h7.size > r6 by omega) (C7.safe (show h6.size > r6 by omega) q6_3))))))))
                have f86 := ((((((((q6_6.keep K7).keep K8).ext E9).keep K10).keep K56).keep K58).ext E60).keep K61)
                refine ginfo fun _ _ O71 => ?_
                have f87 := (A60.keep K61)
                refine gcallV (y := mn853) (z := mn853) hx (ow hw 136 rfl) (ow hw 137 rfl) (nfSel (ow hw 139 rfl)) (ow hw 139 rfl) (ow hw 138 rfl) (by decide) (fun hZ H hEL => Pay.of_met (W := 0) (own_chash1_2 l Z a0 cx [] (b60) (fg6_3) (r61) (r7) (t7) (fg8_4) (x1) (r8) (t8) (fg9_5) (x2) (r6) (t6) (fg5_2) (x0) (dz) (el) (ee) (em) (mr) (kd) (ke) vm61 h61 O71 q61_0 q61_1 q61_2 (by first | assumption | decide | omega) q61_3 q61_4 q61_5 f72 f73 f74 q7_2 f75 f76 f77 f78 f79 q8_2 f80 f81 (Nat.ne_of_lt (by omega)) f82 f83 f84 q6_2 f85 f86 (Nat.ne_of_lt (by omega)) (Nat.ne_of_lt (by omega)) (by first | assumption | decide | omega)) (ow hw 140 rfl) (ow hw 59 rfl) (by decide) (by decide) hZ H hEL) 166 (argsL := []) (rest := []) f87 (lenOf own_pd84 rfl) rfl rfl (Nat.le_of_eq rfl) (by rw [hml]; rfl) (hb hby at_163) rfl (by decide) (by decide) ?_
                rintro _ vm71 h71 C71 ⟨rfl, K71⟩
                have z71 := C71.2.1
                refine gat1 ?_
                refine uSI 168 #[vi x0, vi x1, vi x2, vi x3, vi fg4_1, vi fg5_2, vi fg6_3, vi (2 : Int32), vi fg8_4, vi fg9_5, vr r6, vr r7, vr r8, vr b9, vr b60, vi (((31 : Int32) * (((31 : Int32) * ((31 : Int32) + (own_h fg5_2 x0))) + (own_bh fg6_3))) + (((31 : Int32) * ((31 : Int32) + (own_h fg8_4 x1))) + (own_h fg9_5 x2))), un, un, un, un] hx hby at_166 rfl rfl ?_
                refine uI 170 hx hby at_168 rfl rfl ?_
                refine uY 177 hx hby at_170 ((if0 _ _).trans (teq e4).1) (by decide) (by decide) ?_
                refine uIN 178 hx hby at_177 rfl rfl ?_
                refine uI 180 hx hby at_178 rfl rfl ?_
                refine ginfo fun _ _ O88 => ?_
                refine gcallS (y := mn668) hx (ow hw 383 rfl) (ow hw 384 rfl) (ow hw 2 rfl) (ow hw 385 rfl) (by decide) (fun hZ H hEL => Pay.of_met (W := 0) (own_hashOf l Z a0 cx [] (x0) (fg5_2) vm71 h71 O88 ) (ow hw 385 rfl) (ow hw 2 rfl) (by decide) (by decide) hZ H hEL) 183 (argsL := [(.int x0), (.int fg5_2)]) (rest := []) (lenOf own_pd870 rfl) rfl rfl (Nat.le_of_eq rfl) (by rw [hml]; rfl) (hb hby at_180) rfl (by decide) (by decide) ?_
                rintro _ vm88 h88 C88 ⟨rfl, rfl⟩
                have z88 := C88.2.1
                refine gat1 ?_
                refine uSI 185 #[vi x0, vi x1, vi x2, vi x3, vi fg4_1, vi fg5_2, vi fg6_3, vi (2 : Int32), vi fg8_4, vi fg9_5, vr r6, vr r7, vr r8, vr b9, vr b60, vi (((31 : Int32) * (((31 : Int32) * ((31 : Int32) + (own_h fg5_2 x0))) + (own_bh fg6_3))) + (((31 : Int32) * ((31 : Int32) + (own_h fg8_4 x1))) + (own_h fg9_5 x2))), vi (own_h fg5_2 x0), un, un, un] hx hby at_183 rfl rfl ?_
                refine gjoin (fun vmJ hJ gJ => ∃ (qh89 : Int32), gJ = (mkF m 199 #[vi x0, vi x1, vi x2, vi x3, vi fg4_1, vi fg5_2, vi fg6_3, vi (2 : Int32), vi fg8_4, vi fg9_5, vr r6, vr r7, vr r8, vr b9, vr b60, vi (((31 : Int32) * (((31 : Int32) * ((31 : Int32) + (own_h fg5_2 x0))) + (own_bh fg6_3))) + (((31 : Int32) * ((31 : Int32) + (own_h fg8_4 x1))) + (own_h fg9_5 x2))), vi (own_h fg5_2 x0), un, un, un] [(.int qh89)]) ∧ Keep h71 hJ [] ∧ CHq Z ([] : List (String × Nat)) vm88 h71 vmJ hJ ∧ (qh89 = (own_bh fg6_3))) 16 51 ?_ ?_
                · rintro vm89 h89 _ ⟨qh89, rfl, K89, C89, q89_0⟩
                  have z89 := C89.2.1
                  refine uSI 201 #[vi x0, vi x1, vi x2, vi x3, vi fg4_1, vi fg5_2, vi fg6_3, vi (2 : Int32), vi fg8_4, vi fg9_5, vr r6, vr r7, vr r8, vr b9, vr b60, vi (((31 : Int32) * (((31 : Int32) * ((31 : Int32) + (own_h fg5_2 x0))) + (own_bh fg6_3))) + (((31 : Int32) * ((31 : Int32) + (own_h fg8_4 x1))) + (own_h fg9_5 x2))), vi (own_h fg5_2 x0), vi qh89, un, un] hx hby at_199 rfl rfl ?_
                  refine gat (mkF m 201 #[vi x0, vi x1, vi x2, vi x3, vi fg4_1, vi fg5_2, vi fg6_3, vi (2 : Int32), vi fg8_4, vi fg9_5, vr r6, vr r7, vr r8, vr b9, vr b60, vi (((31 : Int32) * (((31 : Int32) * ((31 : Int32) + (own_h fg5_2 x0))) + (own_bh fg6_3))) + (((31 : Int32) * ((31 : Int32) + (own_h fg8_4 x1))) + (own_h fg9_5 x2))), vi (own_h fg5_2 x0), vi (own_bh fg6_3), un, un] []) (by rw [q89_0]) ?_
                  refine uKc 202 (1 : Int32) hx hby at_201 rfl rfl ?_
                  refine uSI 204 #[vi x0, vi x1, vi x2, vi x3, vi fg4_1, vi fg5_2, vi fg6_3, vi (2 : Int32), vi fg8_4, vi fg9_5, vr r6, vr r7, vr r8, vr b9, vr b60, vi (((31 : Int32) * (((31 : Int32) * ((31 : Int32) + (own_h fg5_2 x0))) + (own_bh fg6_3))) + (((31 : Int32) * ((31 : Int32) + (own_h fg8_4 x1))) + (own_h fg9_5 x2))), vi (own_h fg5_2 x0), vi (own_bh fg6_3), vi (1 : Int32), un] hx hby at_202 rfl rfl ?_
                  refine uI 206 hx hby at_204 rfl rfl ?_
                  refine uKc 207 (1 : Int32) hx hby at_206 rfl rfl ?_
                  refine uNc 210 hx hby at_207 rfl (flt (by decide)).1 ?_
                  refine uKb 212 (31 : Int32) hx hby at_210 rfl rfl ?_
                  refine uI 214 hx hby at_212 rfl rfl ?_
                  refine uimul 215 (31 : Int32) hx hby at_214 rfl (by decide) ?_
                  refine uIN 216 hx hby at_215 rfl rfl ?_
                  refine uI 218 hx hby at_216 rfl rfl ?_
                  refine ginfo fun _ _ O90 => ?_
                  refine gcallS (y := mn668) hx (ow hw 383 rfl) (ow hw 384 rfl) (ow hw 2 rfl) (ow hw 385 rfl) (by decide) (fun hZ H hEL => Pay.of_met (W := 1) (own_hashOf l Z a0 cx [] (x1) (fg8_4) vm89 h89 O90 ) (ow hw 385 rfl) (ow hw 2 rfl) (by decide) (by decide) hZ H hEL) 221 (argsL := [(.int x1), (.int fg8_4)]) (rest := [(.int (31 : Int32))]) (lenOf own_pd870 rfl) rfl rfl (Nat.le_of_eq rfl) (by rw [hml]; rfl) (hb hby at_218) rfl (by decide) (by decide) ?_
                  rintro _ vm90 h90 C90 ⟨rfl, rfl⟩
                  have z90 := C90.2.1
                  refine gat1 ?_
                  refine uiadd 222 ((31 : Int32) + (own_h fg8_4 x1)) hx hby at_221 rfl rfl ?_
                  refine uSI 224 #[vi x0, vi x1, vi x2, vi x3, vi fg4_1, vi fg5_2, vi fg6_3, vi (2 : Int32), vi fg8_4, vi fg9_5, vr r6, vr r7, vr r8, vr b9, vr b60, vi (((31 : Int32) * (((31 : Int32) * ((31 : Int32) + (own_h fg5_2 x0))) + (own_bh fg6_3))) + (((31 : Int32) * ((31 : Int32) + (own_h fg8_4 x1))) + (own_h fg9_5 x2))), vi (own_h fg5_2 x0), vi (own_bh fg6_3), vi ((31 : Int32) + (own_h fg8_4 x1)), un] hx hby at_222 rfl rfl ?_
                  refine uI 226 hx hby at_224 rfl rfl ?_
                  refine uKc 227 (2 : Int32) hx hby at_226 rfl rfl ?_
                  refine uNc 230 hx hby at_227 rfl (flt (by decide)).1 ?_
                  refine uKb 232 (31 : Int32) hx hby at_230 rfl rfl ?_
                  refine uI 234 hx hby at_232 rfl rfl ?_
                  refine uimul 235 ((31 : Int32) * ((31 : Int32) + (own_h fg8_4 x1))) hx hby at_234 rfl rfl ?_
                  refine uIN 236 hx hby at_235 rfl rfl ?_
                  refine uI 238 hx hby at_236 rfl rfl ?_
                  refine ginfo fun _ _ O91 => ?_
                  refine gcallS (y := mn668) hx (ow hw 383 rfl) (ow hw 384 rfl) (ow hw 2 rfl) (ow hw 385 rfl) (by decide) (fun hZ H hEL => Pay.of_met (W := 1) (own_hashOf l Z a0 cx [] (x2) (fg9_5) vm90 h89 O91 ) (ow hw 385 rfl) (ow hw 2 rfl) (by decide) (by decide) hZ H hEL) 241 (argsL := [(.int x2), (.int fg9_5)]) (rest := [(.int ((31 : Int32) * ((31 : Int32) + (own_h fg8_4 x1))))]) (lenOf own_pd870 rfl) rfl rfl (Nat.le_of_eq rfl) (by rw [hml]; rfl) (hb hby at_238) rfl (by decide) (by decide) ?_
                  rintro _ vm91 h91 C91 ⟨rfl, rfl⟩
                  have z91 := C91.2.1
                  refine gat1 ?_
                  refine uiadd 242 (((31 : Int32) * ((31 : Int32) + (own_h fg8_4 x1))) + (own_h fg9_5 x2)) hx hby at_241 rfl rfl ?_
                  refine uSI 244 #[vi x0, vi x1, vi x2, vi x3, vi fg4_1, vi fg5_2, vi fg6_3, vi (2 : Int32), vi fg8_4, vi fg9_5, vr r6, vr r7, vr r8, vr b9, vr b60, vi (((31 : Int32) * (((31 : Int32) * ((31 : Int32) + (own_h fg5_2 x0))) + (own_bh fg6_3))) + (((31 : Int32) * ((31 : Int32) + (own_h fg8_4 x1))) + (own_h fg9_5 x2))), vi (own_h fg5_2 x0), vi (own_bh fg6_3), vi (((31 : Int32) * ((31 : Int32) + (own_h fg8_4 x1))) + (own_h fg9_5 x2)), un] hx hby at_242 rfl rfl ?_
                  refine uKb 246 (31 : Int32) hx hby at_244 rfl rfl ?_
                  refine uI 248 hx hby at_246 rfl rfl ?_
                  refine uiadd 249 ((31 : Int32) + (own_h fg5_2 x0)) hx hby at_248 rfl rfl ?_
                  refine uKb 251 (31 : Int32) hx hby at_249 rfl rfl ?_
                  refine uimul 252 (((31 : Int32) + (own_h fg5_2 x0)) * (31 : Int32)) hx hby at_251 rfl rfl ?_
                  refine uI 254 hx hby at_252 rfl rfl ?_
                  refine uiadd 255 ((((31 : Int32) + (own_h fg5_2 x0)) * (31 : Int32)) + (own_bh fg6_3)) hx hby at_254 rfl rfl ?_
                  refine uKb 257 (31 : Int32) hx hby at_255 rfl rfl ?_
                  refine uimul 258 (((((31 : Int32) + (own_h fg5_2 x0)) * (31 : Int32)) + (own_bh fg6_3)) * (31 : Int32)) hx hby at_257 rfl rfl ?_
                  refine uI 260 hx hby at_258 rfl rfl ?_
                  refine uiadd 261 ((((((31 : Int32) + (own_h fg5_2 x0)) * (31 : Int32)) + (own_bh fg6_3)) * (31 : Int32)) + (((31 : Int32) * ((31 : Int32) + (own_h fg8_4 x1))) + (own_h fg9_5 x2))) hx hby at_260 rfl rfl ?_
                  refine uSI 263 #[vi x0, vi x1, vi x2, vi x3, vi fg4_1, vi fg5_2, vi fg6_3, vi (2 : Int32), vi fg8_4, vi fg9_5, vr r6, vr r7, vr r8, vr b9, vr b60, vi (((31 : Int32) * (((31 : Int32) * ((31 : Int32) + (own_h fg5_2 x0))) + (own_bh fg6_3))) + (((31 : Int32) * ((31 : Int32) + (own_h fg8_4 x1))) + (own_h fg9_5 x2))), vi (own_h fg5_2 x0), vi (own_bh fg6_3), vi (((31 : Int32) * ((31 : Int32) + (own_h fg8_4 x1))) + (own_h fg9_5 x2)), vi ((((((31 : Int32) + (own_h fg5_2 x0)) * (31 : Int32)) + (own_bh fg6_3)) * (31 : Int32)) + (((31 : Int32) * ((31 : Int32) + (own_h fg8_4 x1))) + (own_h fg9_5 x2)))] hx hby at_261 rfl rfl ?_
                  refine uI 265 hx hby at_263 rfl rfl ?_
                  refine uI 267 hx hby at_265 rfl rfl ?_
                  refine uNc 270 hx hby at_267 rfl (teq (own_eq1 _ _ _)).2 ?_
                  refine uKc 271 (1 : Int32) hx hby at_270 rfl rfl ?_
                  refine uG 275 hx hby at_271 (by decide) (by decide) ?_
                  exact gretN (t := .boolean) hx hret (by simp) (hb hby at_275) (by decide) (by decide) (fun vq Cq => ⟨rfl, (((((((((((((((((Keep.refl h0 []).trans K1 all0).trans K2 all0).trans K3 all0).trans K4 all0).trans K5 all0).trans K6 all0).trans K7 all0).trans K8 all0).ext E9).trans K10 (allS (Or.inr (by omega)) all0)).trans K56 (allS (Or.inr (by omega)) all0)).trans K58 (allS (Or.inr (by omega)) (allS (Or.inr (by omega)) all0))).ext E60).trans K61 (allS (Or.inr (by omega)) all0)).trans K71 (allS (Or.inr (by omega)) (allS (Or.inr (by omega)) (allS (Or.inr (by omega)) all0)))).trans K89 all0)⟩)
                · intro J89
                  refine uI 187 hx hby at_185 rfl rfl ?_
                  by_cases e6 : fg6_3 = (0 : Int32)
                  · refine uY 196 hx hby at_187 ((if0 _ _).trans (teq e6).1) (by decide) (by decide) ?_
                    refine uKs 199 (1237 : Int32) hx hby at_196 rfl rfl ?_
                    refine ginfo fun _ Hq _ => ?_
                    exact gmono (by decide) (by decide) (J89 _ _ _ ⟨(1237 : Int32), rfl, (Keep.refl h71 []), (CHq.refl Hq), (by rw [own_bh, if_pos e6])⟩)
                  · refine uN 190 hx hby at_187 rfl ((if0 _ _).trans (feq e6).1) ?_
                    refine uKs 193 (1231 : Int32) hx hby at_190 rfl rfl ?_
                    refine uG 199 hx hby at_193 (by decide) (by decide) ?_
                    refine ginfo fun _ Hq _ => ?_
                    exact gmono (by decide) (by decide) (J89 _ _ _ ⟨(1231 : Int32), rfl, (Keep.refl h71 []), (CHq.refl Hq), (by rw [own_bh, if_neg e6])⟩)
            · refine uN 81 hx hby at_78 rfl ((if0 _ _).trans (feq e4).1) ?_
              refine uU 82 hx hby at_81 rfl ?_
              refine uG 91 hx hby at_82 (by decide) (by decide) ?_
              refine uSA 93 #[vi x0, vi x1, vi x2, vi x3, vi fg4_1, vi fg5_2, vi fg6_3, vi ((((x3.toUInt32 >>> ((3 : Int32) &&& 31).toUInt32).toInt32) &&& (3 : Int32)) % (3 : Int32)), vi fg8_4, vi fg9_5, .val .null, un, un, un, un, un, un, un, un, un] hx hby at_91 rfl rfl rfl ?_
              refine uIN 94 hx hby at_93 rfl rfl ?_
              refine uI 96 hx hby at_94 rfl rfl ?_
              refine ginfo fun _ _ O93 => ?_
              refine gcallS (y := mn653) hx (ow hw 0 rfl) (ow hw 1 rfl) (ow hw 2 rfl) (ow hw 3 rfl) (by decide) (fun hZ H hEL => Pay.of_met (W := 0) (own_mk l Z a0 cx [] (x1) (fg8_4) vm5 h5 O93 ) (ow hw 3 rfl) (ow hw 2 rfl) (by decide) (by decide) hZ H hEL) 99 (argsL := [(.int x1), (.int fg8_4)]) (rest := []) (lenOf own_pd868 rfl) rfl rfl (Nat.le_of_eq rfl) (by rw [hml]; rfl) (hb hby at_96) rfl (by decide) (by decide) ?_
              rintro _ vm93 h93 C93 ⟨r93, t93, rfl, K93, q93_0, q93_1, q93_2, q93_3, q93_4, q93_5, q93_6⟩
              have z93 := C93.2.1
              have lt_r93 : h93.size > r93 := q93_1.1.lt
              have lt_t93 : h93.size > t93 := q93_1.tlt
              refine gat1 ?_
              refine uSA 101 #[vi x0, vi x1, vi x2, vi x3, vi fg4_1, vi fg5_2, vi fg6_3, vi ((((x3.toUInt32 >>> ((3 : Int32) &&& 31).toUInt32).toInt32) &&& (3 : Int32)) % (3 : Int32)), vi fg8_4, vi fg9_5, .val .null, vr r93, un, un, un, un, un, un, un, un] hx hby at_99 rfl rfl rfl ?_
              refine uIN 102 hx hby at_101 rfl rfl ?_
              refine uI 104 hx hby at_102 rfl rfl ?_
              refine ginfo fun _ _ O94 => ?_
              refine gcallS (y := mn653) hx (ow hw 0 rfl) (ow hw 1 rfl) (ow hw 2 rfl) (ow hw 3 rfl) (by decide) (fun hZ H hEL => Pay.of_met (W := 0) (own_mk l Z a0 cx [] (x2) (fg9_5) vm93 h93 O94 ) (ow hw 3 rfl) (ow hw 2 rfl) (by decide) (by decide) hZ H hEL) 107 (argsL := [(.int x2), (.int fg9_5)]) (rest := []) (lenOf own_pd868 rfl) rfl rfl (Nat.le_of_eq rfl) (by rw [hml]; rfl) (hb hby at_104) rfl (by decide) (by decide) ?_
              rintro _ vm94 h94 C94 ⟨r94, t94, rfl, K94, q94_0, q94_1, q94_2, q94_3, q94_4, q94_5, q94_6⟩
              have z94 := C94.2.1
              have lt_r94 : h94.size > r94 := q94_1.1.lt
              have lt_t94 : h94.size > t94 := q94_1.tlt
              refine gat1 ?_
              refine uSA 109 #[vi x0, vi x1, vi x2, vi x3, vi fg4_1, vi fg5_2, vi fg6_3, vi ((((x3.toUInt32 >>> ((3 : Int32) &&& 31).toUInt32).toInt32) &&& (3 : Int32)) % (3 : Int32)), vi fg8_4, vi fg9_5, .val .null, vr r93, vr r94, un, un, un, un, un, un, un] hx hby at_107 rfl rfl rfl ?_
              refine gnewO hx (ow hw 33 rfl) (ow hw 34 rfl) (ow hw 35 rfl) 112 (hb hby at_109) rfl (by decide) (by decide) ?_
              intro b95 h95 g95 E95 C95 A95 D95 n95 L95
              have z95 := C95.2.1
              have lt_b95 : h95.size > b95 := A95.lt
              have F95_modCount : Fld Z h95 b95 c13_ "modCount" "I" (.int (0 : Int32)) := D95 (Or.inl (ow hw 53 rfl)) (ty := .int) (by decide)
              have F95_elementData : Fld Z h95 b95 c14_ c6_ c4_ .null := D95 (Or.inl (ow hw 56 rfl)) (ty := (.array (.object c11_))) (by decide)
              have F95_size : Fld Z h95 b95 c14_ "size" "I" (.int (0 : Int32)) := D95 (Or.inl (ow hw 101 rfl)) (ty := .int) (by decide)
              refine uD 113 hx hby at_112 rfl rfl ?_
              refine ginfo fun _ _ O96 => ?_
              refine gcallI (y := mn112) hx rfl (ow hw 36 rfl) (ow hw 37 rfl) (ow hw 38 rfl) (by decide) (fun hZ H hEL => Pay.of_met (W := 1) (own_alinit l Z a0 cx [] (b95) (.null) (dz) (el) (ee) (em) (mr) (kd) (ke) vm94 h95 O96 A95 F95_modCount F95_elementData F95_size n95 (by first | assumption | decide | omega)) (ow hw 38 rfl) (ow hw 35 rfl) (by decide) (by decide) hZ H hEL) (a := b95) 116 (argsL := []) (rest := [(.ref b95)]) (lenOf own_pd99 rfl) rfl rfl (Nat.le_of_eq rfl) (by rw [hml]; rfl) (hb hby at_113) rfl (by decide) (by decide) ?_
              rintro _ vm96 h96 C96 ⟨rfl, K96, q96_0, q96_1, q96_2⟩
              have z96 := C96.2.1
              refine gat0 ?_
              refine uSA 118 #[vi x0, vi x1, vi x2, vi x3, vi fg4_1, vi fg5_2, vi fg6_3, vi ((((x3.toUInt32 >>> ((3 : Int32) &&& 31).toUInt32).toInt32) &&& (3 : Int32)) % (3 : Int32)), vi fg8_4, vi fg9_5, .val .null, vr r93, vr r94, vr b95, un, un, un, un, un, un] hx hby at_116 rfl rfl rfl ?_
              rcases own_n3 x3 with nq | nq | nq
              · refine gat (mkF m 118 #[vi x0, vi x1, vi x2, vi x3, vi fg4_1, vi fg5_2, vi fg6_3, vi (0 : Int32), vi fg8_4, vi fg9_5, .val .null, vr r93, vr r94, vr b95, un, un, un, un, un, un] []) (by rw [nq]) ?_
                refine uI 120 hx hby at_118 rfl rfl ?_
                refine uKc 121 (1 : Int32) hx hby at_120 rfl rfl ?_
                refine uYc 132 hx hby at_121 (tlt (by decide)).1 (by decide) (by decide) ?_
                refine uI 134 hx hby at_132 rfl rfl ?_
                refine uKc 135 (2 : Int32) hx hby at_134 rfl rfl ?_
                refine uYc 146 hx hby at_135 (tlt (by decide)).1 (by decide) (by decide) ?_
                refine gnewO hx (ow hw 57 rfl) (ow hw 58 rfl) (ow hw 59 rfl) 149 (hb hby at_146) rfl (by decide) (by decide) ?_
                intro b97 h97 g97 E97 C97 A97 D97 n97 L97
                have z97 := C97.2.1
                have lt_b97 : h97.size > b97 := A97.lt
                have F97_ui : Fld Z h97 b97 c5_ "ui" c1_ .null := D97 (Or.inr (ow hw 103 rfl)) (ty := (.object c12_)) (by decide)
                have F97_preferred : Fld Z h97 b97 c5_ "preferred" "Z" (.int (0 : Int32)) := D97 (Or.inr (ow hw 105 rfl)) (ty := .boolean) (by decide)
                have F97_terms : Fld Z h97 b97 c5_ "terms" c3_ .null := D97 (Or.inr (ow hw 135 rfl)) (ty := (.object c19_)) (by decide)
                refine uD 150 hx hby at_149 rfl rfl ?_
                refine uA 152 hx hby at_150 rfl rfl rfl ?_
                refine uI 154 hx hby at_152 rfl rfl ?_
                refine uA 156 hx hby at_154 rfl rfl rfl ?_
                have f99 := (q96_2.ext E97)
                have f100 := ((A95.keep K96).ext E97)
                have f101 := (q96_0.ext E97)
                have f102 := (q96_1.ext E97)
                refine ginfo fun _ _ O98 => ?_
                refine gcallI (y := mn460) hx rfl (ow hw 60 rfl) (ow hw 61 rfl) (ow hw 62 rfl) (by decide) (fun hZ H hEL => Pay.of_met (W := 1) (own_cc0_0 l Z a0 cx [] (b97) (fg6_3) (b95) ((0 : Int32)) (.null) ((0 : Int32)) (.null) (cdi) (ca) (kA) (dz) (el) (ee) (em) (mr) (kd) (ke) vm96 h97 O98 A97 F97_ui F97_preferred F97_terms n97 (by first | assumption | decide | omega) f99 f100 f101 f102 (by first | assumption | decide | omega) (by first | assumption | decide | omega)) (ow hw 62 rfl) (ow hw 59 rfl) (by decide) (by decide) hZ H hEL) (a := b97) 159 (argsL := [.null, (.int fg6_3), (.ref b95)]) (rest := [(.ref b97)]) (lenOf own_pd869 rfl) rfl rfl (Nat.le_of_eq rfl) (by rw [hml]; rfl) (hb hby at_156) rfl (by decide) (by decide) ?_
                rintro _ vm98 h98 C98 ⟨rfl, K98, q98_0, q98_1, q98_2⟩
                have z98 := C98.2.1
                refine gat0 ?_
                refine uSA 161 #[vi x0, vi x1, vi x2, vi x3, vi fg4_1, vi fg5_2, vi fg6_3, vi (0 : Int32), vi fg8_4, vi fg9_5, .val .null, vr r93, vr r94, vr b95, vr b97, un, un, un, un, un] hx hby at_159 rfl rfl rfl ?_
                refine uA 163 hx hby at_161 rfl rfl rfl ?_
                refine ginfo fun _ _ O103 => ?_
                have f104 := (A97.keep K98)
                refine gcallV (y := mn853) (z := mn853) hx (ow hw 136 rfl) (ow hw 137 rfl) (nfSel (ow hw 139 rfl)) (ow hw 139 rfl) (ow hw 138 rfl) (by decide) (fun hZ H hEL => Pay.of_met (W := 0) (own_chash0_0 l Z a0 cx [] (b97) (fg6_3) (dz) (el) (ee) (em) (mr) (kd) (ke) vm98 h98 O103 q98_0 q98_1 q98_2 (by first | assumption | decide | omega) (by first | assumption | decide | omega)) (ow hw 140 rfl) (ow hw 59 rfl) (by decide) (by decide) hZ H hEL) 166 (argsL := []) (rest := []) f104 (lenOf own_pd84 rfl) rfl rfl (Nat.le_of_eq rfl) (by rw [hml]; rfl) (hb hby at_163) rfl (by decide) (by decide) ?_
                rintro _ vm103 h103 C103 ⟨rfl, K103⟩
                have z103 := C103.2.1
                refine gat1 ?_
                refine uSI 168 #[vi x0, vi x1, vi x2, vi x3, vi fg4_1, vi fg5_2, vi fg6_3, vi (0 : Int32), vi fg8_4, vi fg9_5, .val .null, vr r93, vr r94, vr b95, vr b97, vi (((31 : Int32) * ((961 : Int32) + (own_bh fg6_3))) + (1 : Int32)), un, un, un, un] hx hby at_166 rfl rfl ?_
                refine uI 170 hx hby at_168 rfl rfl ?_
                refine uN 173 hx hby at_170 rfl ((if0 _ _).trans (feq e4).1) ?_
                refine uKc 174 (0 : Int32) hx hby at_173 rfl rfl ?_
                refine uG 183 hx hby at_174 (by decide) (by decide) ?_
                refine uSI 185 #[vi x0, vi x1, vi x2, vi x3, vi fg4_1, vi fg5_2, vi fg6_3, vi (0 : Int32), vi fg8_4, vi fg9_5, .val .null, vr r93, vr r94, vr b95, vr b97, vi (((31 : Int32) * ((961 : Int32) + (own_bh fg6_3))) + (1 : Int32)), vi (0 : Int32), un, un, un] hx hby at_183 rfl rfl ?_
                refine gjoin (fun vmJ hJ gJ => ∃ (qh105 : Int32), gJ = (mkF m 199 #[vi x0, vi x1, vi x2, vi x3, vi fg4_1, vi fg5_2, vi fg6_3, vi (0 : Int32), vi fg8_4, vi fg9_5, .val .null, vr r93, vr r94, vr b95, vr b97, vi (((31 : Int32) * ((961 : Int32) + (own_bh fg6_3))) + (1 : Int32)), vi (0 : Int32), un, un, un] [(.int qh105)]) ∧ Keep h103 hJ [] ∧ CHq Z ([] : List (String × Nat)) vm103 h103 vmJ hJ ∧ (qh105 = (own_bh fg6_3))) 10 29 ?_ ?_
                · rintro vm105 h105 _ ⟨qh105, rfl, K105, C105, q105_0⟩
                  have z105 := C105.2.1
                  refine uSI 201 #[vi x0, vi x1, vi x2, vi x3, vi fg4_1, vi fg5_2, vi fg6_3, vi (0 : Int32), vi fg8_4, vi fg9_5, .val .null, vr r93, vr r94, vr b95, vr b97, vi (((31 : Int32) * ((961 : Int32) + (own_bh fg6_3))) + (1 : Int32)), vi (0 : Int32), vi qh105, un, un] hx hby at_199 rfl rfl ?_
                  refine gat (mkF m 201 #[vi x0, vi x1, vi x2, vi x3, vi fg4_1, vi fg5_2, vi fg6_3, vi (0 : Int32), vi fg8_4, vi fg9_5, .val .null, vr r93, vr r94, vr b95, vr b97, vi (((31 : Int32) * ((961 : Int32) + (own_bh fg6_3))) + (1 : Int32)), vi (0 : Int32), vi (own_bh fg6_3), un, un] []) (by rw [q105_0]) ?_
                  refine uKc 202 (1 : Int32) hx hby at_201 rfl rfl ?_
                  refine uSI 204 #[vi x0, vi x1, vi x2, vi x3, vi fg4_1, vi fg5_2, vi fg6_3, vi (0 : Int32), vi fg8_4, vi fg9_5, .val .null, vr r93, vr r94, vr b95, vr b97, vi (((31 : Int32) * ((961 : Int32) + (own_bh fg6_3))) + (1 : Int32)), vi (0 : Int32), vi (own_bh fg6_3), vi (1 : Int32), un] hx hby at_202 rfl rfl ?_
                  refine uI 206 hx hby at_204 rfl rfl ?_
                  refine uKc 207 (1 : Int32) hx hby at_206 rfl rfl ?_
                  refine uYc 224 hx hby at_207 (tlt (by decide)).1 (by decide) (by decide) ?_
                  refine uI 226 hx hby at_224 rfl rfl ?_
                  refine uKc 227 (2 : Int32) hx hby at_226 rfl rfl ?_
                  refine uYc 244 hx hby at_227 (tlt (by decide)).1 (by decide) (by decide) ?_
                  refine uKb 246 (31 : Int32) hx hby at_244 rfl rfl ?_
                  refine uI 248 hx hby at_246 rfl rfl ?_
                  refine uiadd 249 (31 : Int32) hx hby at_248 rfl (by decide) ?_
                  refine uKb 251 (31 : Int32) hx hby at_249 rfl rfl ?_
                  refine uimul 252 (961 : Int32) hx hby at_251 rfl (by decide) ?_
                  refine uI 254 hx hby at_252 rfl rfl ?_
                  refine uiadd 255 ((961 : Int32) + (own_bh fg6_3)) hx hby at_254 rfl rfl ?_
                  refine uKb 257 (31 : Int32) hx hby at_255 rfl rfl ?_
                  refine uimul 258 (((961 : Int32) + (own_bh fg6_3)) * (31 : Int32)) hx hby at_257 rfl rfl ?_
                  refine uI 260 hx hby at_258 rfl rfl ?_
                  refine uiadd 261 ((((961 : Int32) + (own_bh fg6_3)) * (31 : Int32)) + (1 : Int32)) hx hby at_260 rfl rfl ?_
                  refine uSI 263 #[vi x0, vi x1, vi x2, vi x3, vi fg4_1, vi fg5_2, vi fg6_3, vi (0 : Int32), vi fg8_4, vi fg9_5, .val .null, vr r93, vr r94, vr b95, vr b97, vi (((31 : Int32) * ((961 : Int32) + (own_bh fg6_3))) + (1 : Int32)), vi (0 : Int32), vi (own_bh fg6_3), vi (1 : Int32), vi ((((961 : Int32) + (own_bh fg6_3)) * (31 : Int32)) + (1 : Int32))] hx hby at_261 rfl rfl ?_
                  refine uI 265 hx hby at_263 rfl rfl ?_
                  refine uI 267 hx hby at_265 rfl rfl ?_
                  refine uNc 270 hx hby at_267 rfl (teq (own_eq0 _ _)).2 ?_
                  refine uKc 271 (1 : Int32) hx hby at_270 rfl rfl ?_
                  refine uG 275 hx hby at_271 (by decide) (by decide) ?_
                  exact gretN (t := .boolean) hx hret (by simp) (hb hby at_275) (by decide) (by decide) (fun vq Cq => ⟨rfl, ((((((((((((((Keep.refl h0 []).trans K1 all0).trans K2 all0).trans K3 all0).trans K4 all0).trans K5 all0).trans K93 all0).trans K94 all0).ext E95).trans K96 (allS (Or.inr (by omega)) all0)).ext E97).trans K98 (allS (Or.inr (by omega)) all0)).trans K103 all0).trans K105 all0)⟩)
                · intro J105
                  refine uI 187 hx hby at_185 rfl rfl ?_
                  by_cases e6 : fg6_3 = (0 : Int32)
                  · refine uY 196 hx hby at_187 ((if0 _ _).trans (teq e6).1) (by decide) (by decide) ?_
                    refine uKs 199 (1237 : Int32) hx hby at_196 rfl rfl ?_
                    refine ginfo fun _ Hq _ => ?_
                    exact gmono (by decide) (by decide) (J105 _ _ _ ⟨(1237 : Int32), rfl, (Keep.refl h103 []), (CHq.refl Hq), (by rw [own_bh, if_pos e6])⟩)
                  · refine uN 190 hx hby at_187 rfl ((if0 _ _).trans (feq e6).1) ?_
                    refine uKs 193 (1231 : Int32) hx hby at_190 rfl rfl ?_
                    refine uG 199 hx hby at_193 (by decide) (by decide) ?_
                    refine ginfo fun _ Hq _ => ?_
                    exact gmono (by decide) (by decide) (J105 _ _ _ ⟨(1231 : Int32), rfl, (Keep.refl h103 []), (CHq.refl Hq), (by rw [own_bh, if_neg e6])⟩)
              · refine gat (mkF m 118 #[vi x0, vi x1, vi x2, vi x3, vi fg4_1, vi fg5_2, vi fg6_3, vi (1 : Int32), vi fg8_4, vi fg9_5, .val .null, vr r93, vr r94, vr b95, un, un, un, un, un, un] []) (by rw [nq]) ?_
                refine uI 120 hx hby at_118 rfl rfl ?_
                refine uKc 121 (1 : Int32) hx hby at_120 rfl rfl ?_
                refine uNc 124 hx hby at_121 rfl (flt (by decide)).1 ?_
                refine uA 126 hx hby at_124 rfl rfl rfl ?_
                refine uA 128 hx hby at_126 rfl rfl rfl ?_
                have f108 := (A95.keep K96)
                refine ginfo fun _ _ O107 => ?_
                refine gcallV (y := mn186) (z := mn186) hx (ow hw 203 rfl) (ow hw 204 rfl) (nfSel (ow hw 206 rfl)) (ow hw 206 rfl) (ow hw 205 rfl) (by decide) (fun hZ H hEL => Pay.of_met (W := 0) (own_add0 l Z a0 cx [] (b95) (r93) ((0 : Int32)) (dz) (el) (ee) (em) (mr) (kd) (ke) vm96 h96 O107 f108 q96_0 q96_1 n95 (((q93_1.1.keep K94).ext E95).keep K96) q96_2 (by first | assumption | decide | omega)) (ow hw 207 rfl) (ow hw 35 rfl) (by decide) (by decide) hZ H hEL) 131 (argsL := [(.ref r93)]) (rest := []) f108 (lenOf own_pd871 rfl) rfl rfl (Nat.le_of_eq rfl) (by rw [hml]; rfl) (hb hby at_128) rfl (by decide) (by decide) ?_
                rintro _ vm107 h107 C107 ⟨d107, kc107, rfl, K107, q107_0, q107_1, q107_2, q107_3, q107_4, q107_5, q107_6, q107_7⟩
                have z107 := C107.2.1
                have lt_d107 : h107.size > d107 := q107_2.lt
                refine gat1 ?_
                refine uP 132 hx hby at_131 rfl rfl ?_
                refine uI 134 hx hby at_132 rfl rfl ?_
                refine uKc 135 (2 : Int32) hx hby at_134 rfl rfl ?_
                refine uYc 146 hx hby at_135 (tlt (by decide)).1 (by decide) (by decide) ?_
                refine gnewO hx (ow hw 57 rfl) (ow hw 58 rfl) (ow hw 59 rfl) 149 (hb hby at_146) rfl (by decide) (by decide) ?_
                intro b109 h109 g109 E109 C109 A109 D109 n109 L109
                have z109 := C109.2.1
                have lt_b109 : h109.size > b109 := A109.lt
                have F109_ui : Fld Z h109 b109 c5_ "ui" c1_ .null := D109 (Or.inr (ow hw 103 rfl)) (ty := (.object c12_)) (by decide)
                have F109_preferred : Fld Z h109 b109 c5_ "preferred" "Z" (.int (0 : Int32)) := D109 (Or.inr (ow hw 105 rfl)) (ty := .boolean) (by decide)
                have F109_terms : Fld Z h109 b109 c5_ "terms" c3_ .null := D109 (Or.inr (ow hw 135 rfl)) (ty := (.object c19_)) (by decide)
                refine uD 150 hx hby at_149 rfl rfl ?_
                refine uA 152 hx hby at_150 rfl rfl rfl ?_
                refine uI 154 hx hby at_152 rfl rfl ?_
                refine uA 156 hx hby at_154 rfl rfl rfl ?_
                have f111 := (q107_7.ext E109)
                have f112 := ((f108.keep K107).ext E109)
                have f113 := (q107_0.ext E109)
                have f114 := (q107_1.ext E109)
                have f115 := (q107_2.ext E109)
                have f116 := (q107_5.ext E109)
                have f117 := (((((q93_1.keep K94 nin0 nin0).ext E95).keep K96 (ninS (Nat.ne_of_lt (by omega)) nin0) (ninS (Nat.ne_of_lt (by omega)) nin0)).keep K107 (ninS (Nat.ne_of_lt (by omega)) nin0) (ninS (Nat.ne_of_lt (by omega)) nin0)).ext E109)
                refine ginfo fun _ _ O110 => ?_
                refine gcallI (y := mn460) hx rfl (ow hw 60 rfl) (ow hw 61 rfl) (ow hw 62 rfl) (by decide) (fun hZ H hEL => Pay.of_met (W := 1) (own_cc0_1 l Z a0 cx [] (b109) (fg6_3) (b95) (((0 : Int32) + (1 : Int32))) (.null) ((0 : Int32)) (.null) (d107) (kc107) (r93) (t93) ((own_fst x1)) ((own_tl fg8_4 x1)) (cdi) (ca) (kA) (dz) (el) (ee) (em) (mr) (kd) (ke) vm107 h109 O110 A109 F109_ui F109_preferred F109_terms n109 (by first | assumption | decide | omega) f111 f112 f113 f114 f115 f116 (by first | assumption | decide | omega) f117 (own_fstB _).1 (own_fstB _).2 (own_hpos _ _) (by first | assumption | decide | omega) (by first | assumption | decide | omega)) (ow hw 62 rfl) (ow hw 59 rfl) (by decide) (by decide) hZ H hEL) (a := b109) 159 (argsL := [.null, (.int fg6_3), (.ref b95)]) (rest := [(.ref b109)]) (lenOf own_pd869 rfl) rfl rfl (Nat.le_of_eq rfl) (by rw [hml]; rfl) (hb hby at_156) rfl (by decide) (by decide) ?_
                rintro _ vm110 h110 C110 ⟨r110, rfl, K110, q110_0, q110_1, q110_2, q110_3, q110_4, q110_5⟩
                have z110 := C110.2.1
                have lt_r110 : h110.size > r110 := q110_3.lt
                refine gat0 ?_
                refine uSA 161 #[vi x0, vi x1, vi x2, vi x3, vi fg4_1, vi fg5_2, vi fg6_3, vi (1 : Int32), vi fg8_4, vi fg9_5, .val .null, vr r93, vr r94, vr b95, vr b109, un, un, un, un, un] hx hby at_159 rfl rfl rfl ?_
                refine uA 163 hx hby at_161 rfl rfl rfl ?_
                have f119 := (f117.keep K110 (ninS (Nat.ne_of_lt (by omega)) nin0) (ninS (Nat.ne_of_lt (by omega)) nin0))
                have f120 := ((((((q93_4.keep K94 nin0).ext E95).keep K96 (ninS (Nat.ne_of_lt (by omega)) nin0)).keep K107 (ninS (Nat.ne_of_lt (by omega)) nin0)).ext E109).keep K110 (ninS (Nat.ne_of_lt (by omega)) nin0))
                have f121 := ((((((q93_5.keep K94 nin0).ext E95).keep K96 (ninS (Nat.ne_of_lt (by omega)) nin0)).keep K107 (ninS (Nat.ne_of_lt (by omega)) nin0)).ext E109).keep K110 (ninS (Nat.ne_of_lt (by omega)) nin0))
                have f122 := (C110.safe (show h109.size > r93 by omega) (C109.safe (show h107.size > r93 by omega) (C107.safe (show h96.size > r93 by omega) (C96.safe (show h95.size > r93 by omega) (C95.safe (show h94.size > r93 by omega) (C94.safe (show h93.size > r93 by omega) q93_3))))))
                have f123 := ((((((q93_6.keep K94).ext E95).keep K96).keep K107).ext E109).keep K110)
                refine ginfo fun _ _ O118 => ?_
                have f124 := (A109.keep K110)
                refine gcallV (y := mn853) (z := mn853) hx (ow hw 136 rfl) (ow hw 137 rfl) (nfSel (ow hw 139 rfl)) (ow hw 139 rfl) (ow hw 138 rfl) (by decide) (fun hZ H hEL => Pay.of_met (W := 0) (own_chash0_1 l Z a0 cx [] (b109) (fg6_3) (r110) (r93) (t93) (fg8_4) (x1) (dz) (el) (ee) (em) (mr) (kd) (ke) vm110 h110 O118 q110_0 q110_1 q110_2 (by first | assumption | decide | omega) q110_3 q110_4 q110_5 f119 f120 f121 q93_2 f122 f123 (by first | assumption | decide | omega)) (ow hw 140 rfl) (ow hw 59 rfl) (by decide) (by decide) hZ H hEL) 166 (argsL := []) (rest := []) f124 (lenOf own_pd84 rfl) rfl rfl (Nat.le_of_eq rfl) (by rw [hml]; rfl) (hb hby at_163) rfl (by decide) (by decide) ?_
                rintro _ vm118 h118 C118 ⟨rfl, K118⟩
                have z118 := C118.2.1
                refine gat1 ?_
                refine uSI 168 #[vi x0, vi x1, vi x2, vi x3, vi fg4_1, vi fg5_2, vi fg6_3, vi (1 : Int32), vi fg8_4, vi fg9_5, .val .null, vr r93, vr r94, vr b95, vr b109, vi (((31 : Int32) * ((961 : Int32) + (own_bh fg6_3))) + ((31 : Int32) + (own_h fg8_4 x1))), un, un, un, un] hx hby at_166 rfl rfl ?_
                refine uI 170 hx hby at_168 rfl rfl ?_
                refine uN 173 hx hby at_170 rfl ((if0 _ _).trans (feq e4).1) ?_
                refine uKc 174 (0 : Int32) hx hby at_173 rfl rfl ?_
                refine uG 183 hx hby at_174 (by decide) (by decide) ?_
                refine uSI 185 #[vi x0, vi x1, vi x2, vi x3, vi fg4_1, vi fg5_2, vi fg6_3, vi (1 : Int32), vi fg8_4, vi fg9_5, .val .null, vr r93, vr r94, vr b95, vr b109, vi (((31 : Int32) * ((961 : Int32) + (own_bh fg6_3))) + ((31 : Int32) + (own_h fg8_4 x1))), vi (0 : Int32), un, un, un] hx hby at_183 rfl rfl ?_
                refine gjoin (fun vmJ hJ gJ => ∃ (qh125 : Int32), gJ = (mkF m 199 #[vi x0, vi x1, vi x2, vi x3, vi fg4_1, vi fg5_2, vi fg6_3, vi (1 : Int32), vi fg8_4, vi fg9_5, .val .null, vr r93, vr r94, vr b95, vr b109, vi (((31 : Int32) * ((961 : Int32) + (own_bh fg6_3))) + ((31 : Int32) + (own_h fg8_4 x1))), vi (0 : Int32), un, un, un] [(.int qh125)]) ∧ Keep h118 hJ [] ∧ CHq Z ([] : List (String × Nat)) vm118 h118 vmJ hJ ∧ (qh125 = (own_bh fg6_3))) 13 42 ?_ ?_
                · rintro vm125 h125 _ ⟨qh125, rfl, K125, C125, q125_0⟩
                  have z125 := C125.2.1
                  refine uSI 201 #[vi x0, vi x1, vi x2, vi x3, vi fg4_1, vi fg5_2, vi fg6_3, vi (1 : Int32), vi fg8_4, vi fg9_5, .val .null, vr r93, vr r94, vr b95, vr b109, vi (((31 : Int32) * ((961 : Int32) + (own_bh fg6_3))) + ((31 : Int32) + (own_h fg8_4 x1))), vi (0 : Int32), vi qh125, un, un] hx hby at_199 rfl rfl ?_
                  refine gat (mkF m 201 #[vi x0, vi x1, vi x2, vi x3, vi fg4_1, vi fg5_2, vi fg6_3, vi (1 : Int32), vi fg8_4, vi fg9_5, .val .null, vr r93, vr r94, vr b95, vr b109, vi (((31 : Int32) * ((961 : Int32) + (own_bh fg6_3))) + ((31 : Int32) + (own_h fg8_4 x1))), vi (0 : Int32), vi (own_bh fg6_3), un, un] []) (by rw [q125_0]) ?_
                  refine uKc 202 (1 : Int32) hx hby at_201 rfl rfl ?_
                  refine uSI 204 #[vi x0, vi x1, vi x2, vi x3, vi fg4_1, vi fg5_2, vi fg6_3, vi (1 : Int32), vi fg8_4, vi fg9_5, .val .null, vr r93, vr r94, vr b95, vr b109, vi (((31 : Int32) * ((961 : Int32) + (own_bh fg6_3))) + ((31 : Int32) + (own_h fg8_4 x1))), vi (0 : Int32), vi (own_bh fg6_3), vi (1 : Int32), un] hx hby at_202 rfl rfl ?_
                  refine uI 206 hx hby at_204 rfl rfl ?_
                  refine uKc 207 (1 : Int32) hx hby at_206 rfl rfl ?_
                  refine uNc 210 hx hby at_207 rfl (flt (by decide)).1 ?_
                  refine uKb 212 (31 : Int32) hx hby at_210 rfl rfl ?_
                  refine uI 214 hx hby at_212 rfl rfl ?_
                  refine uimul 215 (31 : Int32) hx hby at_214 rfl (by decide) ?_
                  refine uIN 216 hx hby at_215 rfl rfl ?_
                  refine uI 218 hx hby at_216 rfl rfl ?_
                  refine ginfo fun _ _ O126 => ?_
                  refine gcallS (y := mn668) hx (ow hw 383 rfl) (ow hw 384 rfl) (ow hw 2 rfl) (ow hw 385 rfl) (by decide) (fun hZ H hEL => Pay.of_met (W := 1) (own_hashOf l Z a0 cx [] (x1) (fg8_4) vm125 h125 O126 ) (ow hw 385 rfl) (ow hw 2 rfl) (by decide) (by decide) hZ H hEL) 221 (argsL := [(.int x1), (.int fg8_4)]) (rest := [(.int (31 : Int32))]) (lenOf own_pd870 rfl) rfl rfl (Nat.le_of_eq rfl) (by rw [hml]; rfl) (hb hby at_218) rfl (by decide) (by decide) ?_
                  rintro _ vm126 h126 C126 ⟨rfl, rfl⟩
                  have z126 := C126.2.1
                  refine gat1 ?_
                  refine uiadd 222 ((31 : Int32) + (own_h fg8_4 x1)) hx hby at_221 rfl rfl ?_
                  refine uSI 224 #[vi x0, vi x1, vi x2, vi x3, vi fg4_1, vi fg5_2, vi fg6_3, vi (1 : Int32), vi fg8_4, vi fg9_5, .val .null, vr r93, vr r94, vr b95, vr b109, vi (((31 : Int32) * ((961 : Int32) + (own_bh fg6_3))) + ((31 : Int32) + (own_h fg8_4 x1))), vi (0 : Int32), vi (own_bh fg6_3), vi ((31 : Int32) + (own_h fg8_4 x1)), un] hx hby at_222 rfl rfl ?_
                  refine uI 226 hx hby at_224 rfl rfl ?_
                  refine uKc 227 (2 : Int32) hx hby at_226 rfl rfl ?_
                  refine uYc 244 hx hby at_227 (tlt (by decide)).1 (by decide) (by decide) ?_
                  refine uKb 246 (31 : Int32) hx hby at_244 rfl rfl ?_
                  refine uI 248 hx hby at_246 rfl rfl ?_
                  refine uiadd 249 (31 : Int32) hx hby at_248 rfl (by decide) ?_
                  refine uKb 251 (31 : Int32) hx hby at_249 rfl rfl ?_
                  refine uimul 252 (961 : Int32) hx hby at_251 rfl (by decide) ?_
                  refine uI 254 hx hby at_252 rfl rfl ?_
                  refine uiadd 255 ((961 : Int32) + (own_bh fg6_3)) hx hby at_254 rfl rfl ?_
                  refine uKb 257 (31 : Int32) hx hby at_255 rfl rfl ?_
                  refine uimul 258 (((961 : Int32) + (own_bh fg6_3)) * (31 : Int32)) hx hby at_257 rfl rfl ?_
                  refine uI 260 hx hby at_258 rfl rfl ?_
                  refine uiadd 261 ((((961 : Int32) + (own_bh fg6_3)) * (31 : Int32)) + ((31 : Int32) + (own_h fg8_4 x1))) hx hby at_260 rfl rfl ?_
                  refine uSI 263 #[vi x0, vi x1, vi x2, vi x3, vi fg4_1, vi fg5_2, vi fg6_3, vi (1 : Int32), vi fg8_4, vi fg9_5, .val .null, vr r93, vr r94, vr b95, vr b109, vi (((31 : Int32) * ((961 : Int32) + (own_bh fg6_3))) + ((31 : Int32) + (own_h fg8_4 x1))), vi (0 : Int32), vi (own_bh fg6_3), vi ((31 : Int32) + (own_h fg8_4 x1)), vi ((((961 : Int32) + (own_bh fg6_3)) * (31 : Int32)) + ((31 : Int32) + (own_h fg8_4 x1)))] hx hby at_261 rfl rfl ?_
                  refine uI 265 hx hby at_263 rfl rfl ?_
                  refine uI 267 hx hby at_265 rfl rfl ?_
                  refine uNc 270 hx hby at_267 rfl (teq (own_eq0 _ _)).2 ?_
                  refine uKc 271 (1 : Int32) hx hby at_270 rfl rfl ?_
                  refine uG 275 hx hby at_271 (by decide) (by decide) ?_
                  exact gretN (t := .boolean) hx hret (by simp) (hb hby at_275) (by decide) (by decide) (fun vq Cq => ⟨rfl, (((((((((((((((Keep.refl h0 []).trans K1 all0).trans K2 all0).trans K3 all0).trans K4 all0).trans K5 all0).trans K93 all0).trans K94 all0).ext E95).trans K96 (allS (Or.inr (by omega)) all0)).trans K107 (allS (Or.inr (by omega)) all0)).ext E109).trans K110 (allS (Or.inr (by omega)) all0)).trans K118 (allS (Or.inr (by omega)) all0)).trans K125 all0)⟩)
                · intro J125
                  refine uI 187 hx hby at_185 rfl rfl ?_
                  by_cases e6 : fg6_3 = (0 : Int32)
                  · refine uY 196 hx hby at_187 ((if0 _ _).trans (teq e6).1) (by decide) (by decide) ?_
                    refine uKs 199 (1237 : Int32) hx hby at_196 rfl rfl ?_
                    refine ginfo fun _ Hq _ => ?_
                    exact gmono (by decide) (by decide) (J125 _ _ _ ⟨(1237 : Int32), rfl, (Keep.refl h118 []), (CHq.refl Hq), (by rw [own_bh, if_pos e6])⟩)
                  · refine uN 190 hx hby at_187 rfl ((if0 _ _).trans (feq e6).1) ?_
                    refine uKs 193 (1231 : Int32) hx hby at_190 rfl rfl ?_
                    refine uG 199 hx hby at_193 (by decide) (by decide) ?_
                    refine ginfo fun _ Hq _ => ?_
                    exact gmono (by decide) (by decide) (J125 _ _ _ ⟨(1231 : Int32), rfl, (Keep.refl h118 []), (CHq.refl Hq), (by rw [own_bh, if_neg e6])⟩)
              · refine gat (mkF m 118 #[vi x0, vi x1, vi x2, vi x3, vi fg4_1, vi fg5_2, vi fg6_3, vi (2 : Int32), vi fg8_4, vi fg9_5, .val .null, vr r93, vr r94, vr b95, un, un, un, un, un, un] []) (by rw [nq]) ?_
                refine uI 120 hx hby at_118 rfl rfl ?_
                refine uKc 121 (1 : Int32) hx hby at_120 rfl rfl ?_
                refine uNc 124 hx hby at_121 rfl (flt (by decide)).1 ?_
                refine uA 126 hx hby at_124 rfl rfl rfl ?_
                refine uA 128 hx hby at_126 rfl rfl rfl ?_
                have f129 := (A95.keep K96)
                refine ginfo fun _ _ O128 => ?_
                refine gcallV (y := mn186) (z := mn186) hx (ow hw 203 rfl) (ow hw 204 rfl) (nfSel (ow hw 206 rfl)) (ow hw 206 rfl) (ow hw 205 rfl) (by decide) (fun hZ H hEL => Pay.of_met (W := 0) (own_add0 l Z a0 cx [] (b95) (r93) ((0 : Int32)) (dz) (el) (ee) (em) (mr) (kd) (ke) vm96 h96 O128 f129 q96_0 q96_1 n95 (((q93_1.1.keep K94).ext E95).keep K96) q96_2 (by first | assumption | decide | omega)) (ow hw 207 rfl) (ow hw 35 rfl) (by decide) (by decide) hZ H hEL) 131 (argsL := [(.ref r93)]) (rest := []) f129 (lenOf own_pd871 rfl) rfl rfl (Nat.le_of_eq rfl) (by rw [hml]; rfl) (hb hby at_128) rfl (by decide) (by decide) ?_
                rintro _ vm128 h128 C128 ⟨d128, kc128, rfl, K128, q128_0, q128_1, q128_2, q128_3, q128_4, q128_5, q128_6, q128_7⟩
                have z128 := C128.2.1
                have lt_d128 : h128.size > d128 := q128_2.lt
                refine gat1 ?_
                refine uP 132 hx hby at_131 rfl rfl ?_
                refine uI 134 hx hby at_132 rfl rfl ?_
                refine uKc 135 (2 : Int32) hx hby at_134 rfl rfl ?_
                refine uNc 138 hx hby at_135 rfl (flt (by decide)).1 ?_
                refine uA 140 hx hby at_138 rfl rfl rfl ?_
                refine uA 142 hx hby at_140 rfl rfl rfl ?_
                have f131 := (f129.keep K128)
                refine ginfo fun _ _ O130 => ?_
                refine gcallV (y := mn186) (z := mn186) hx (ow hw 203 rfl) (ow hw 204 rfl) (nfSel (ow hw 206 rfl)) (ow hw 206 rfl) (ow hw 205 rfl) (by decide) (fun hZ H hEL => Pay.of_met (W := 0) (own_add1 l Z a0 cx [] (b95) (r94) (d128) (kc128) (r93) (((0 : Int32) + (1 : Int32))) (dz) (el) (ee) (em) (mr) (kd) (ke) vm128 h128 O130 f131 q128_0 q128_1 q128_2 q128_5 (by first | assumption | decide | omega) n95 (((q94_1.1.ext E95).keep K96).keep K128) q128_4 q128_7 (by first | assumption | decide | omega)) (ow hw 207 rfl) (ow hw 35 rfl) (by decide) (by decide) hZ H hEL) 145 (argsL := [(.ref r94)]) (rest := []) f131 (lenOf own_pd871 rfl) rfl rfl (Nat.le_of_eq rfl) (by rw [hml]; rfl) (hb hby at_142) rfl (by decide) (by decide) ?_
                rintro _ vm130 h130 C130 ⟨rfl, K130, q130_0, q130_1, q130_2, q130_3⟩
                have z130 := C130.2.1
                refine gat1 ?_
                refine uP 146 hx hby at_145 rfl rfl ?_
                refine gnewO hx (ow hw 57 rfl) (ow hw 58 rfl) (ow hw 59 rfl) 149 (hb hby at_146) rfl (by decide) (by decide) ?_
                intro b132 h132 g132 E132 C132 A132 D132 n132 L132
                have z132 := C132.2.1
                have lt_b132 : h132.size > b132 := A132.lt
                have F132_ui : Fld Z h132 b132 c5_ "ui" c1_ .null := D132 (Or.inr (ow hw 103 rfl)) (ty := (.object c12_)) (by decide)
                have F132_preferred : Fld Z h132 b132 c5_ "preferred" "Z" (.int (0 : Int32)) := D132 (Or.inr (ow hw 105 rfl)) (ty := .boolean) (by decide)
                have F132_terms : Fld Z h132 b132 c5_ "terms" c3_ .null := D132 (Or.inr (ow hw 135 rfl)) (ty := (.object c19_)) (by decide)
                refine uD 150 hx hby at_149 rfl rfl ?_
                refine uA 152 hx hby at_150 rfl rfl rfl ?_
                refine uI 154 hx hby at_152 rfl rfl ?_
                refine uA 156 hx hby at_154 rfl rfl rfl ?_
                have f134 := (q130_3.ext E132)
                have f135 := ((f131.keep K130).ext E132)
                have f136 := (q130_0.ext E132)
                have f137 := (q130_1.ext E132)
                have f138 := (q130_2.ext E132)
                have f139 := ((q128_5.keep K130).ext E132)
                have f140 := ((((((q93_1.keep K94 nin0 nin0).ext E95).keep K96 (ninS (Nat.ne_of_lt (by omega)) nin0) (ninS (Nat.ne_of_lt (by omega)) nin0)).keep K128 (ninS (Nat.ne_of_lt (by omega)) nin0) (ninS (Nat.ne_of_lt (by omega)) nin0)).keep K130 (ninS (Nat.ne_of_lt (by omega)) (ninS (Nat.ne_of_lt (by omega)) nin0)) (ninS (Nat.ne_of_lt (by omega)) (ninS (Nat.ne_of_lt (by omega)) nin0))).ext E132)
                have f141 := (((((q94_1.ext E95).keep K96 (ninS (Nat.ne_of_lt (by omega)) nin0) (ninS (Nat.ne_of_lt (by omega)) nin0)).keep K128 (ninS (Nat.ne_of_lt (by omega)) nin0) (ninS (Nat.ne_of_lt (by omega)) nin0)).keep K130 (ninS (Nat.ne_of_lt (by omega)) (ninS (Nat.ne_of_lt (by omega)) nin0)) (ninS (Nat.ne_of_lt (by omega)) (ninS (Nat.ne_of_lt (by omega)) nin0))).ext E132)
                refine ginfo fun _ _ O133 => ?_
                refine gcallI (y := mn460) hx rfl (ow hw 60 rfl) (ow hw 61 rfl) (ow hw 62 rfl) (by decide) (fun hZ H hEL => Pay.of_met (W := 1) (own_cc0_2 l Z a0 cx [] (b132) (fg6_3) (b95) ((((0 : Int32) + (1 : Int32)) + (1 : Int32))) (.null) ((0 : Int32)) (.null) (d128) (kc128) (r93) (r94) (t93) ((own_fst x1)) ((own_tl fg8_4 x1)) (t94) ((own_fst x2)) ((own_tl fg9_5 x2)) (cdi) (ca) (kA) (dz) (el) (ee) (em) (mr) (kd) (ke) vm130 h132 O133 A132 F132_ui F132_preferred F132_terms n132 (by first | assumption | decide | omega) f134 f135 f136 f137 f138 f139 (by first | assumption | decide | omega) f140 (own_fstB _).1 (own_fstB _).2 (own_hpos _ _) f141 (own_fstB _).1 (own_fstB _).2 (own_hpos _ _) (by first | assumption | decide | omega) (by first | assumption | decide | omega)) (ow hw 62 rfl) (ow hw 59 rfl) (by decide) (by decide) hZ H hEL) (a := b132) 159 (argsL := [.null, (.int fg6_3), (.ref b95)]) (rest := [(.ref b132)]) (lenOf own_pd869 rfl) rfl rfl (Nat.le_of_eq rfl) (by rw [hml]; rfl) (hb hby at_156) rfl (by decide) (by decide) ?_
                rintro _ vm133 h133 C133 ⟨r133, rfl, K133, q133_0, q133_1, q133_2, q133_3, q133_4, q133_5⟩
                have z133 := C133.2.1
                have lt_r133 : h133.size > r133 := q133_3.lt
                refine gat0 ?_
                refine uSA 161 #[vi x0, vi x1, vi x2, vi x3, vi fg4_1, vi fg5_2, vi fg6_3, vi (2 : Int32), vi fg8_4, vi fg9_5, .val .null, vr r93, vr r94, vr b95, vr b132, un, un, un, un, un] hx hby at_159 rfl rfl rfl ?_
                refine uA 163 hx hby at_161 rfl rfl rfl ?_
                have f143 := (f140.keep K133 (ninS (Nat.ne_of_lt (by omega)) nin0) (ninS (Nat.ne_of_lt (by omega)) nin0))
                have f144 := (((((((q93_4.keep K94 nin0).ext E95).keep K96 (ninS (Nat.ne_of_lt (by omega)) nin0)).keep K128 (ninS (Nat.ne_of_lt (by omega)) nin0)).keep K130 (ninS (Nat.ne_of_lt (by omega)) (ninS (Nat.ne_of_lt (by omega)) nin0))).ext E132).keep K133 (ninS (Nat.ne_of_lt (by omega)) nin0))
                have f145 := (((((((q93_5.keep K94 nin0).ext E95).keep K96 (ninS (Nat.ne_of_lt (by omega)) nin0)).keep K128 (ninS (Nat.ne_of_lt (by omega)) nin0)).keep K130 (ninS (Nat.ne_of_lt (by omega)) (ninS (Nat.ne_of_lt (by omega)) nin0))).ext E132).keep K133 (ninS (Nat.ne_of_lt (by omega)) nin0))
                have f146 := (C133.safe (show h132.size > r93 by omega) (C132.safe (show h130.size > r93 by omega) (C130.safe (show h128.size > r93 by omega) (C128.safe (show h96.size > r93 by omega) (C96.safe (show h95.size > r93 by omega) (C95.safe (show h94.size > r93 by omega) (C94.safe (show h93.size > r93 by omega) q93_3)))))))
                have f147 := (((((((q93_6.keep K94).ext E95).keep K96).keep K128).keep K130).ext E132).keep K133)
                have f148 := (f141.keep K133 (ninS (Nat.ne_of_lt (by omega)) nin0) (ninS (Nat.ne_of_lt (by omega)) nin0))
                have f149 := ((((((q94_4.ext E95).keep K96 (ninS (Nat.ne_of_lt (by omega)) nin0)).keep K128 (ninS (Nat.ne_of_lt (by omega)) nin0)).keep K130 (ninS (Nat.ne_of_lt (by omega)) (ninS (Nat.ne_of_lt (by omega)) nin0))).ext E132).keep K133 (ninS (Nat.ne_of_lt (by omega)) nin0))
                have f150 := ((((((q94_5.ext E95).keep K96 (ninS (Nat.ne_of_lt (by omega)) nin0)).keep K128 (ninS (Nat.ne_of_lt (by omega)) nin0)).keep K130 (ninS (Nat.ne_of_lt (by omega)) (ninS (Nat.ne_of_lt (by omega)) nin0))).ext E132).keep K133 (ninS (Nat.ne_of_lt (by omega)) nin0))
                have f151 := (C133.safe (show h132.size > r94 by omega) (C132.safe (show h130.size > r94 by omega) (C130.safe (show h128.size > r94 by omega) (C128.safe (show h96.size > r94 by omega) (C96.safe (show h95.size > r94 by omega) (C95.safe (show h94.size > r94 by omega) q94_3))))))
                have f152 := ((((((q94_6.ext E95).keep K96).keep K128).keep K130).ext E132).keep K133)
                refine ginfo fun _ _ O142 => ?_
                have f153 := (A132.keep K133)
                refine gcallV (y := mn853) (z := mn853) hx (ow hw 136 rfl) (ow hw 137 rfl) (nfSel (ow hw 139 rfl)) (ow hw 139 rfl) (ow hw 138 rfl) (by decide) (fun hZ H hEL => Pay.of_met (W := 0) (own_chash0_2 l Z a0 cx [] (b132) (fg6_3) (r133) (r93) (t93) (fg8_4) (x1) (r94) (t94) (fg9_5) (x2) (dz) (el) (ee) (em) (mr) (kd) (ke) vm133 h133 O142 q133_0 q133_1 q133_2 (by first | assumption | decide | omega) q133_3 q133_4 q133_5 f143 f144 f145 q93_2 f146 f147 f148 f149 f150 q94_2 f151 f152 (Nat.ne_of_lt (by omega)) (by first | assumption | decide | omega)) (ow hw 140 rfl) (ow hw 59 rfl) (by decide) (by decide) hZ H hEL) 166 (argsL := []) (rest := []) f153 (lenOf own_pd84 rfl) rfl rfl (Nat.le_of_eq rfl) (by rw [hml]; rfl) (hb hby at_163) rfl (by decide) (by decide) ?_
                rintro _ vm142 h142 C142 ⟨rfl, K142⟩
                have z142 := C142.2.1
                refine gat1 ?_
                refine uSI 168 #[vi x0, vi x1, vi x2, vi x3, vi fg4_1, vi fg5_2, vi fg6_3, vi (2 : Int32), vi fg8_4, vi fg9_5, .val .null, vr r93, vr r94, vr b95, vr b132, vi (((31 : Int32) * ((961 : Int32) + (own_bh fg6_3))) + (((31 : Int32) * ((31 : Int32) + (own_h fg8_4 x1))) + (own_h fg9_5 x2))), un, un, un, un] hx hby at_166 rfl rfl ?_
                refine uI 170 hx hby at_168 rfl rfl ?_
                refine uN 173 hx hby at_170 rfl ((if0 _ _).trans (feq e4).1) ?_
                refine uKc 174 (0 : Int32) hx hby at_173 rfl rfl ?_
                refine uG 183 hx hby at_174 (by decide) (by decide) ?_
                refine uSI 185 #[vi x0, vi x1, vi x2, vi x3, vi fg4_1, vi fg5_2, vi fg6_3, vi (2 : Int32), vi fg8_4, vi fg9_5, .val .null, vr r93, vr r94, vr b95, vr b132, vi (((31 : Int32) * ((961 : Int32) + (own_bh fg6_3))) + (((31 : Int32) * ((31 : Int32) + (own_h fg8_4 x1))) + (own_h fg9_5 x2))), vi (0 : Int32), un, un, un] hx hby at_183 rfl rfl ?_
                refine gjoin (fun vmJ hJ gJ => ∃ (qh154 : Int32), gJ = (mkF m 199 #[vi x0, vi x1, vi x2, vi x3, vi fg4_1, vi fg5_2, vi fg6_3, vi (2 : Int32), vi fg8_4, vi fg9_5, .val .null, vr r93, vr r94, vr b95, vr b132, vi (((31 : Int32) * ((961 : Int32) + (own_bh fg6_3))) + (((31 : Int32) * ((31 : Int32) + (own_h fg8_4 x1))) + (own_h fg9_5 x2))), vi (0 : Int32), un, un, un] [(.int qh154)]) ∧ Keep h142 hJ [] ∧ CHq Z ([] : List (String × Nat)) vm142 h142 vmJ hJ ∧ (qh154 = (own_bh fg6_3))) 13 43 ?_ ?_
                · rintro vm154 h154 _ ⟨qh154, rfl, K154, C154, q154_0⟩
                  have z154 := C154.2.1
                  refine uSI 201 #[vi x0, vi x1, vi x2, vi x3, vi fg4_1, vi fg5_2, vi fg6_3, vi (2 : Int32), vi fg8_4, vi fg9_5, .val .null, vr r93, vr r94, vr b95, vr b132, vi (((31 : Int32) * ((961 : Int32) + (own_bh fg6_3))) + (((31 : Int32) * ((31 : Int32) + (own_h fg8_4 x1))) + (own_h fg9_5 x2))), vi (0 : Int32), vi qh154, un, un] hx hby at_199 rfl rfl ?_
                  refine gat (mkF m 201 #[vi x0, vi x1, vi x2, vi x3, vi fg4_1, vi fg5_2, vi fg6_3, vi (2 : Int32), vi fg8_4, vi fg9_5, .val .null, vr r93, vr r94, vr b95, vr b132, vi (((31 : Int32) * ((961 : Int32) + (own_bh fg6_3))) + (((31 : Int32) * ((31 : Int32) + (own_h fg8_4 x1))) + (own_h fg9_5 x2))), vi (0 : Int32), vi (own_bh fg6_3), un, un] []) (by rw [q154_0]) ?_
                  refine uKc 202 (1 : Int32) hx hby at_201 rfl rfl ?_
                  refine uSI 204 #[vi x0, vi x1, vi x2, vi x3, vi fg4_1, vi fg5_2, vi fg6_3, vi (2 : Int32), vi fg8_4, vi fg9_5, .val .null, vr r93, vr r94, vr b95, vr b132, vi (((31 : Int32) * ((961 : Int32) + (own_bh fg6_3))) + (((31 : Int32) * ((31 : Int32) + (own_h fg8_4 x1))) + (own_h fg9_5 x2))), vi (0 : Int32), vi (own_bh fg6_3), vi (1 : Int32), un] hx hby at_202 rfl rfl ?_
                  refine uI 206 hx hby at_204 rfl rfl ?_
                  refine uKc 207 (1 : Int32) hx hby at_206 rfl rfl ?_
                  refine uNc 210 hx hby at_207 rfl (flt (by decide)).1 ?_
                  refine uKb 212 (31 : Int32) hx hby at_210 rfl rfl ?_
                  refine uI 214 hx hby at_212 rfl rfl ?_
                  refine uimul 215 (31 : Int32) hx hby at_214 rfl (by decide) ?_
                  refine uIN 216 hx hby at_215 rfl rfl ?_
                  refine uI 218 hx hby at_216 rfl rfl ?_
                  refine ginfo fun _ _ O155 => ?_
                  refine gcallS (y := mn668) hx (ow hw 383 rfl) (ow hw 384 rfl) (ow hw 2 rfl) (ow hw 385 rfl) (by decide) (fun hZ H hEL => Pay.of_met (W := 1) (own_hashOf l Z a0 cx [] (x1) (fg8_4) vm154 h154 O155 ) (ow hw 385 rfl) (ow hw 2 rfl) (by decide) (by decide) hZ H hEL) 221 (argsL := [(.int x1), (.int fg8_4)]) (rest := [(.int (31 : Int32))]) (lenOf own_pd870 rfl) rfl rfl (Nat.le_of_eq rfl) (by rw [hml]; rfl) (hb hby at_218) rfl (by decide) (by decide) ?_
                  rintro _ vm155 h155 C155 ⟨rfl, rfl⟩
                  have z155 := C155.2.1
                  refine gat1 ?_
                  refine uiadd 222 ((31 : Int32) + (own_h fg8_4 x1)) hx hby at_221 rfl rfl ?_
                  refine uSI 224 #[vi x0, vi x1, vi x2, vi x3, vi fg4_1, vi fg5_2, vi fg6_3, vi (2 : Int32), vi fg8_4, vi fg9_5, .val .null, vr r93, vr r94, vr b95, vr b132, vi (((31 : Int32) * ((961 : Int32) + (own_bh fg6_3))) + (((31 : Int32) * ((31 : Int32) + (own_h fg8_4 x1))) + (own_h fg9_5 x2))), vi (0 : Int32), vi (own_bh fg6_3), vi ((31 : Int32) + (own_h fg8_4 x1)), un] hx hby at_222 rfl rfl ?_
                  refine uI 226 hx hby at_224 rfl rfl ?_
                  refine uKc 227 (2 : Int32) hx hby at_226 rfl rfl ?_
                  refine uNc 230 hx hby at_227 rfl (flt (by decide)).1 ?_
                  refine uKb 232 (31 : Int32) hx hby at_230 rfl rfl ?_
                  refine uI 234 hx hby at_232 rfl rfl ?_
                  refine uimul 235 ((31 : Int32) * ((31 : Int32) + (own_h fg8_4 x1))) hx hby at_234 rfl rfl ?_
                  refine uIN 236 hx hby at_235 rfl rfl ?_
                  refine uI 238 hx hby at_236 rfl rfl ?_
                  refine ginfo fun _ _ O156 => ?_
                  refine gcallS (y := mn668) hx (ow hw 383 rfl) (ow hw 384 rfl) (ow hw 2 rfl) (ow hw 385 rfl) (by decide) (fun hZ H hEL => Pay.of_met (W := 1) (own_hashOf l Z a0 cx [] (x2) (fg9_5) vm155 h154 O156 ) (ow hw 385 rfl) (ow hw 2 rfl) (by decide) (by decide) hZ H hEL) 241 (argsL := [(.int x2), (.int fg9_5)]) (rest := [(.int ((31 : Int32) * ((31 : Int32) + (own_h fg8_4 x1))))]) (lenOf own_pd870 rfl) rfl rfl (Nat.le_of_eq rfl) (by rw [hml]; rfl) (hb hby at_238) rfl (by decide) (by decide) ?_
                  rintro _ vm156 h156 C156 ⟨rfl, rfl⟩
                  have z156 := C156.2.1
                  refine gat1 ?_
                  refine uiadd 242 (((31 : Int32) * ((31 : Int32) + (own_h fg8_4 x1))) + (own_h fg9_5 x2)) hx hby at_241 rfl rfl ?_
                  refine uSI 244 #[vi x0, vi x1, vi x2, vi x3, vi fg4_1, vi fg5_2, vi fg6_3, vi (2 : Int32), vi fg8_4, vi fg9_5, .val .null, vr r93, vr r94, vr b95, vr b132, vi (((31 : Int32) * ((961 : Int32) + (own_bh fg6_3))) + (((31 : Int32) * ((31 : Int32) + (own_h fg8_4 x1))) + (own_h fg9_5 x2))), vi (0 : Int32), vi (own_bh fg6_3), vi (((31 : Int32) * ((31 : Int32) + (own_h fg8_4 x1))) + (own_h fg9_5 x2)), un] hx hby at_242 rfl rfl ?_
                  refine uKb 246 (31 : Int32) hx hby at_244 rfl rfl ?_
                  refine uI 248 hx hby at_246 rfl rfl ?_
                  refine uiadd 249 (31 : Int32) hx hby at_248 rfl (by decide) ?_
                  refine uKb 251 (31 : Int32) hx hby at_249 rfl rfl ?_
                  refine uimul 252 (961 : Int32) hx hby at_251 rfl (by decide) ?_
                  refine uI 254 hx hby at_252 rfl rfl ?_
                  refine uiadd 255 ((961 : Int32) + (own_bh fg6_3)) hx hby at_254 rfl rfl ?_
                  refine uKb 257 (31 : Int32) hx hby at_255 rfl rfl ?_
                  refine uimul 258 (((961 : Int32) + (own_bh fg6_3)) * (31 : Int32)) hx hby at_257 rfl rfl ?_
                  refine uI 260 hx hby at_258 rfl rfl ?_
                  refine uiadd 261 ((((961 : Int32) + (own_bh fg6_3)) * (31 : Int32)) + (((31 : Int32) * ((31 : Int32) + (own_h fg8_4 x1))) + (own_h fg9_5 x2))) hx hby at_260 rfl rfl ?_
                  refine uSI 263 #[vi x0, vi x1, vi x2, vi x3, vi fg4_1, vi fg5_2, vi fg6_3, vi (2 : Int32), vi fg8_4, vi fg9_5, .val .null, vr r93, vr r94, vr b95, vr b132, vi (((31 : Int32) * ((961 : Int32) + (own_bh fg6_3))) + (((31 : Int32) * ((31 : Int32) + (own_h fg8_4 x1))) + (own_h fg9_5 x2))), vi (0 : Int32), vi (own_bh fg6_3), vi (((31 : Int32) * ((31 : Int32) + (own_h fg8_4 x1))) + (own_h fg9_5 x2)), vi ((((961 : Int32) + (own_bh fg6_3)) * (31 : Int32)) + (((31 : Int32) * ((31 : Int32) + (own_h fg8_4 x1))) + (own_h fg9_5 x2)))] hx hby at_261 rfl rfl ?_
                  refine uI 265 hx hby at_263 rfl rfl ?_
                  refine uI 267 hx hby at_265 rfl rfl ?_
                  refine uNc 270 hx hby at_267 rfl (teq (own_eq0 _ _)).2 ?_
                  refine uKc 271 (1 : Int32) hx hby at_270 rfl rfl ?_
                  refine uG 275 hx hby at_271 (by decide) (by decide) ?_
                  exact gretN (t := .boolean) hx hret (by simp) (hb hby at_275) (by decide) (by decide) (fun vq Cq => ⟨rfl, ((((((((((((((((Keep.refl h0 []).trans K1 all0).trans K2 all0).trans K3 all0).trans K4 all0).trans K5 all0).trans K93 all0).trans K94 all0).ext E95).trans K96 (allS (Or.inr (by omega)) all0)).trans K128 (allS (Or.inr (by omega)) all0)).trans K130 (allS (Or.inr (by omega)) (allS (Or.inr (by omega)) all0))).ext E132).trans K133 (allS (Or.inr (by omega)) all0)).trans K142 (allS (Or.inr (by omega)) (allS (Or.inr (by omega)) all0))).trans K154 all0)⟩)
                · intro J154
                  refine uI 187 hx hby at_185 rfl rfl ?_
                  by_cases e6 : fg6_3 = (0 : Int32)
                  · refine uY 196 hx hby at_187 ((if0 _ _).trans (teq e6).1) (by decide) (by decide) ?_
                    refine uKs 199 (1237 : Int32) hx hby at_196 rfl rfl ?_
                    refine ginfo fun _ Hq _ => ?_
                    exact gmono (by decide) (by decide) (J154 _ _ _ ⟨(1237 : Int32), rfl, (Keep.refl h142 []), (CHq.refl Hq), (by rw [own_bh, if_pos e6])⟩)
                  · refine uN 190 hx hby at_187 rfl ((if0 _ _).trans (feq e6).1) ?_
                    refine uKs 193 (1231 : Int32) hx hby at_190 rfl rfl ?_
                    refine uG 199 hx hby at_193 (by decide) (by decide) ?_
                    refine ginfo fun _ Hq _ => ?_
                    exact gmono (by decide) (by decide) (J154 _ _ _ ⟨(1231 : Int32), rfl, (Keep.refl h142 []), (CHq.refl Hq), (by rw [own_bh, if_neg e6])⟩)
          · intro J5
            refine uIN 63 hx hby at_62 rfl rfl ?_
            refine uKb 65 (64 : Int32) hx hby at_63 rfl rfl ?_
            refine uiand 66 (x3 &&& (64 : Int32)) hx hby at_65 rfl rfl ?_
            by_cases e0 : (x3 &&& (64 : Int32)) = (0 : Int32)
            · refine uY 73 hx hby at_66 ((if0 _ _).trans (teq e0).1) (by decide) (by decide) ?_
              refine uKc 74 (0 : Int32) hx hby at_73 rfl rfl ?_
              refine ginfo fun _ Hq _ => ?_
              exact gmono (by decide) (by decide) (J5 _ _ _ ⟨(0 : Int32), rfl, (Keep.refl h4 []), (CHq.refl Hq), (by first | assumption | rfl | decide | exact Or.inl rfl | exact Or.inr (by assumption) | omega)⟩)
            · refine uN 69 hx hby at_66 rfl ((if0 _ _).trans (feq e0).1) ?_
              refine uKc 70 (1 : Int32) hx hby at_69 rfl rfl ?_
              refine uG 74 hx hby at_70 (by decide) (by decide) ?_
              refine ginfo fun _ Hq _ => ?_
              exact gmono (by decide) (by decide) (J5 _ _ _ ⟨(1 : Int32), rfl, (Keep.refl h4 []), (CHq.refl Hq), (by first | assumption | rfl | decide | exact Or.inl rfl | exact Or.inr (by assumption) | omega)⟩)
        · intro J4
          refine uIN 49 hx hby at_48 rfl rfl ?_
          refine uKb 51 (32 : Int32) hx hby at_49 rfl rfl ?_
          refine uiand 52 (x3 &&& (32 : Int32)) hx hby at_51 rfl rfl ?_
          by_cases e0 : (x3 &&& (32 : Int32)) = (0 : Int32)
          · refine uY 59 hx hby at_52 ((if0 _ _).trans (teq e0).1) (by decide) (by decide) ?_
            refine uKc 60 (0 : Int32) hx hby at_59 rfl rfl ?_
            refine ginfo fun _ Hq _ => ?_
            exact gmono (by decide) (by decide) (J4 _ _ _ ⟨(0 : Int32), rfl, (Keep.refl h3 []), (CHq.refl Hq), (by first | assumption | rfl | decide | exact Or.inl rfl | exact Or.inr (by assumption) | omega)⟩)
          · refine uN 55 hx hby at_52 rfl ((if0 _ _).trans (feq e0).1) ?_
            refine uKc 56 (1 : Int32) hx hby at_55 rfl rfl ?_
            refine uG 60 hx hby at_56 (by decide) (by decide) ?_
            refine ginfo fun _ Hq _ => ?_
            exact gmono (by decide) (by decide) (J4 _ _ _ ⟨(1 : Int32), rfl, (Keep.refl h3 []), (CHq.refl Hq), (by first | assumption | rfl | decide | exact Or.inl rfl | exact Or.inr (by assumption) | omega)⟩)
      · intro J3
        refine uIN 27 hx hby at_26 rfl rfl ?_
        refine uKc 28 (4 : Int32) hx hby at_27 rfl rfl ?_
        refine uiand 29 (x3 &&& (4 : Int32)) hx hby at_28 rfl rfl ?_
        by_cases e0 : (x3 &&& (4 : Int32)) = (0 : Int32)
        · refine uY 36 hx hby at_29 ((if0 _ _).trans (teq e0).1) (by decide) (by decide) ?_
          refine uKc 37 (0 : Int32) hx hby at_36 rfl rfl ?_
          refine ginfo fun _ Hq _ => ?_
          exact gmono (by decide) (by decide) (J3 _ _ _ ⟨(0 : Int32), rfl, (Keep.refl h2 []), (CHq.refl Hq), (by first | assumption | rfl | decide | exact Or.inl rfl | exact Or.inr (by assumption) | omega)⟩)
        · refine uN 32 hx hby at_29 rfl ((if0 _ _).trans (feq e0).1) ?_
          refine uKc 33 (1 : Int32) hx hby at_32 rfl rfl ?_
          refine uG 37 hx hby at_33 (by decide) (by decide) ?_
          refine ginfo fun _ Hq _ => ?_
          exact gmono (by decide) (by decide) (J3 _ _ _ ⟨(1 : Int32), rfl, (Keep.refl h2 []), (CHq.refl Hq), (by first | assumption | rfl | decide | exact Or.inl rfl | exact Or.inr (by assumption) | omega)⟩)
    · intro J2
      refine uIN 14 hx hby at_13 rfl rfl ?_
      refine uKc 15 (2 : Int32) hx hby at_14 rfl rfl ?_
      refine uiand 16 (x3 &&& (2 : Int32)) hx hby at_15 rfl rfl ?_
      by_cases e0 : (x3 &&& (2 : Int32)) = (0 : Int32)
      · refine uY 23 hx hby at_16 ((if0 _ _).trans (teq e0).1) (by decide) (by decide) ?_
        refine uKc 24 (0 : Int32) hx hby at_23 rfl rfl ?_
        refine ginfo fun _ Hq _ => ?_
        exact gmono (by decide) (by decide) (J2 _ _ _ ⟨(0 : Int32), rfl, (Keep.refl h1 []), (CHq.refl Hq), (by first | assumption | rfl | decide | exact Or.inl rfl | exact Or.inr (by assumption) | omega)⟩)
      · refine uN 19 hx hby at_16 rfl ((if0 _ _).trans (feq e0).1) ?_
        refine uKc 20 (1 : Int32) hx hby at_19 rfl rfl ?_
        refine uG 24 hx hby at_20 (by decide) (by decide) ?_
        refine ginfo fun _ Hq _ => ?_
        exact gmono (by decide) (by decide) (J2 _ _ _ ⟨(1 : Int32), rfl, (Keep.refl h1 []), (CHq.refl Hq), (by first | assumption | rfl | decide | exact Or.inl rfl | exact Or.inr (by assumption) | omega)⟩)
  · intro J1
    refine uIN 1 hx hby at_0 rfl rfl ?_
    refine uKc 2 (1 : Int32) hx hby at_1 rfl rfl ?_
    refine uiand 3 (x3 &&& (1 : Int32)) hx hby at_2 rfl rfl ?_
    by_cases e0 : (x3 &&& (1 : Int32)) = (0 : Int32)
    · refine uY 10 hx hby at_3 ((if0 _ _).trans (teq e0).1) (by decide) (by decide) ?_
      refine uKc 11 (0 : Int32) hx hby at_10 rfl rfl ?_
      refine ginfo fun _ Hq _ => ?_
      exact gmono (by decide) (by decide) (J1 _ _ _ ⟨(0 : Int32), rfl, (Keep.refl h0 []), (CHq.refl Hq), (by first | assumption | rfl | decide | exact Or.inl rfl | exact Or.inr (by assumption) | omega)⟩)
    · refine uN 6 hx hby at_3 rfl ((if0 _ _).trans (feq e0).1) ?_
      refine uKc 7 (1 : Int32) hx hby at_6 rfl rfl ?_
      refine uG 11 hx hby at_7 (by decide) (by decide) ?_
      refine ginfo fun _ Hq _ => ?_
      exact gmono (by decide) (by decide) (J1 _ _ _ ⟨(1 : Int32), rfl, (Keep.refl h0 []), (CHq.refl Hq), (by first | assumption | rfl | decide | exact Or.inl rfl | exact Or.inr (by assumption) | omega)⟩)
theorem comes_1 {Post : Tables → Env → Array Value → State → Outcome → State → Prop} (hpost : ∀ tb e args s v u, (limb_1_1.after args s (.returned v) u = true ∧ limb_1_2.after args s (.returned v) u = true ∧ True) → Jvm.D.Framed s (.returned v) u (Jvm.fieldLocs frame_1_writes args s ++ Jvm.arrayLocs frame_1_arrays args s ++ Jvm.staticLocs frame_1_statics s) 40 192 → Post tb e args s (.returned v) u) :
    ArmFor flags0 classFile x code maxLocals ret World_1 tables_1 room_1 Calls_1 rest_1 Pre_1 Post := by
  intro l hfl _ _ p e ha hc hk s m args below hf hA hF happ hP
  obtain ⟨hcalls, hrest, hpre⟩ := hP
  obtain ⟨-, -, -, hnamed, -, -, -, hat⟩ := (Spec.applies_iff hf).mp happ
  obtain ⟨hg, hn⟩ := and_e (Cond.before_iff.mp (show (Jvm.Cond.and given_1 narrow_1).before args s = true from hpre))
  obtain ⟨gc, g0⟩ := and_e hg
  obtain ⟨ga0, g1⟩ := and_e g0
  obtain ⟨ga1, g2⟩ := and_e g1
  obtain ⟨ga2, g3⟩ := and_e g2
  have ga3 := g3
  obtain ⟨w0, w1, w2, w3, rfl⟩ : ∃ w0 w1 w2 w3 : Value, args = #[w0, w1, w2, w3] := by
    have hs : args.size = 4 := by simpa [Cond.value, given_1] using gc
    obtain ⟨L⟩ := args
    match L, hs with
    | [w0, w1, w2, w3], _ => exact ⟨w0, w1, w2, w3, rfl⟩
  have hw := fun d (hd : d ∈ tables_1) => atoms_spec (ws := Jvm.Cond.code x code maxLocals ret :: tables_1) hat d (List.mem_cons_of_mem _ hd)
  have hfit : Fit s := fun {y c} hc i hi => by
    obtain ⟨ha, rfl⟩ := Array.getElem?_eq_some_iff.mp hc
    have q := List.all_eq_true.mp ((Array.all_eq_true_iff_forall_mem.mp hF) _ (Array.getElem_mem ha)) i (List.mem_range.mpr hi)
    simpa [Array.getElem?_eq_getElem hi] using q
  obtain ⟨hsets, hown0⟩ := atoms_of _ (rest_1_c_eq ▸ (show rest_1_c.before _ s = true from hrest))
  obtain ⟨i0, ei0⟩ := is_v ga0
  obtain rfl : w0 = (.int i0) := Option.some.inj ei0
  obtain ⟨i1, ei1⟩ := is_v ga1
  obtain rfl : w1 = (.int i1) := Option.some.inj ei1
  obtain ⟨i2, ei2⟩ := is_v ga2
  obtain rfl : w2 = (.int i2) := Option.some.inj ei2
  obtain ⟨i3, ei3⟩ := is_v ga3
  obtain rfl : w3 = (.int i3) := Option.some.inj ei3
  obtain ⟨zc, eG⟩ := is_v (Cond.before_iff.mp (hsets _ (List.mem_of_getElem? (i := 1) rfl)))
  have Scs := Sta.start eG (Or.inl (hsets _ (List.mem_of_getElem? (i := 0) rfl)))
  have hcw := hsets _ (List.mem_of_getElem? (i := 2) rfl)
  have hzc : ¬ zc = 0 := by
    have q := not_v (Cond.before_iff.mp hcw)
    intro z
    have q2 := eq_i (x := .int zc) (y := .int 0) eG (Term.int_eval (0)) (by rw [z])
    rw [q2] at q; cases q
  obtain ⟨fm, eF, hfm⟩ := isR_v (Cond.before_iff.mp (hsets _ (List.mem_of_getElem? (i := 8) rfl)))
  have Sfm := Sta.start eF (Or.inl (hsets _ (List.mem_of_getElem? (i := 7) rfl)))
  have hEL : EW s _ ([] : List (String × Nat)) := EW.nil (a0 := #[(.int i0), (.int i1), (.int i2), (.int i3)])
  have hCH : CHv s ([] : List (String × Nat)) s.vm s.heap := fun _ hp => by cases hp
  have ja_dz := (Cond.before_iff.mp (hsets _ (List.mem_of_getElem? (i := 15) rfl)))
  obtain ⟨dz, e_dz⟩ := arr_v ja_dz
  obtain ⟨c_dz, A_dz⟩ := Arr.start e_dz ja_dz
  have hA_dz : s.arrayAt? dz = some c_dz := A_dz.fin (Vm.Alike.refl _)
  obtain ⟨l_dz, m_dz⟩ := lenI (Cond.before_iff.mp (hsets _ (List.mem_of_getElem? (i := 17) rfl))) e_dz hA_dz
  have V_dz : Arv s s.heap dz c_dz.cls (.object c11_) (0 : Int32) [] .null := Arv.start hfit A_dz l_dz m_dz (by decide) rfl trivial
  have je := (Cond.before_iff.mp (hsets _ (List.mem_of_getElem? (i := 20) rfl)))
  obtain ⟨el, e_el⟩ := exa_v je
  have ja_ee := (Cond.before_iff.mp (hsets _ (List.mem_of_getElem? (i := 21) rfl)))
  obtain ⟨ee, e_ee⟩ := arr_v ja_ee
  obtain ⟨c_ee, A_ee⟩ := Arr.start e_ee ja_ee
  have hA_ee : s.arrayAt? ee = some c_ee := A_ee.fin (Vm.Alike.refl _)
  obtain ⟨l_ee, m_ee⟩ := lenI (Cond.before_iff.mp (hsets _ (List.mem_of_getElem? (i := 23) rfl))) e_ee hA_ee
  have V_ee : Arv s s.heap ee c_ee.cls (.object c11_) (0 : Int32) [] .null := Arv.start hfit A_ee l_ee m_ee (by decide) rfl trivial
  have jm := (Cond.before_iff.mp (hsets _ (List.mem_of_getElem? (i := 295) rfl)))
  obtain ⟨em, e_em⟩ := exa_v jm
  obtain ⟨mc, mk, mr, M1, M2, M3, mcell, M4, M5⟩ := hcalls.1
  have hL0 : (∃ dz el ee em mr : Addr, ∃ kd ke : ClassId, Sta s s.heap c14_ "DEFAULTCAPACITY_EMPTY_ELEMENTDATA" c4_ (.ref dz) ∧ Exa s s.heap dz c4_ ∧ Arv s s.heap dz kd (.object c11_) (0 : Int32) [] .null ∧ Sta s s.heap c16_ "EMPTY_LIST" "Ljava/util/ImmutableCollections$ListN;" (.ref el) ∧ Exa s s.heap el c18_ ∧ Fld s s.heap el c18_ "elements" c4_ (.ref ee) ∧ Arv s s.heap ee ke (.object c11_) (0 : Int32) [] .null ∧ Fld s s.heap el c18_ "allowNulls" "Z" (.int (0 : Int32)) ∧ Sta s s.heap c16_ "EMPTY" c0_ (.ref em) ∧ Exa s s.heap em c11_ ∧ Mir s c4_ mr) := ⟨dz, el, ee, em, mr, c_dz.cls, c_ee.cls, Sta.start e_dz (Or.inr ⟨ow hw 35 rfl, (hsets _ (List.mem_of_getElem? (i := 11) rfl))⟩), Exa.start e_dz (Cond.before_iff.mp (hsets _ (List.mem_of_getElem? (i := 16) rfl))), V_dz, Sta.start e_el (Or.inl (hsets _ (List.mem_of_getElem? (i := 19) rfl))), Exa.start e_el je, Fld.start ((fld_at e_el).symm.trans e_ee), V_ee, fldI e_el (Cond.before_iff.mp (hsets _ (List.mem_of_getElem? (i := 24) rfl))), Sta.start e_em (Or.inl (hsets _ (List.mem_of_getElem? (i := 294) rfl))), Exa.start e_em jm, ⟨mc, mk, M1, M2, M3, mcell, M4, M5⟩⟩
  have jA := (Cond.before_iff.mp (hsets _ (List.mem_of_getElem? (i := 34) rfl)))
  obtain ⟨ca, eca⟩ := arr_v jA
  obtain ⟨cca, Aca⟩ := Arr.start eca jA
  have hAca : s.arrayAt? ca = some cca := Aca.fin (Vm.Alike.refl _)
  obtain ⟨lA1, lA2⟩ := lenI (Cond.before_iff.mp (hsets _ (List.mem_of_getElem? (i := 36) rfl))) eca hAca
  have Vca : Arv s s.heap ca cca.cls .int (256 : Int32) (own_tabI.map Value.int) (.int (0 : Int32)) := Arv.start hfit Aca lA1 lA2 (by decide) (by decide) (own_has eca Aca.1 hsets)
  have jI := (Cond.before_iff.mp (hsets _ (List.mem_of_getElem? (i := 31) rfl)))
  obtain ⟨cdi, ecdi⟩ := exa_v jI
  have hB0 : (∃ cdi ca : Addr, ∃ kA : ClassId, Sta s s.heap c10_ "instance" "Ljava/lang/CharacterDataLatin1;" (.ref cdi) ∧ Exa s s.heap cdi c10_ ∧ Sta s s.heap c10_ "A" "[I" (.ref ca) ∧ Arv s s.heap ca kA .int (256 : Int32) (own_tabI.map Value.int) (.int (0 : Int32))) := ⟨cdi, ca, cca.cls, Sta.start ecdi (Or.inl (hsets _ (List.mem_of_getElem? (i := 30) rfl))), Exa.start ecdi jI, Sta.start eca (Or.inl (hsets _ (List.mem_of_getElem? (i := 33) rfl))), Vca⟩
  have j_bt := (Cond.before_iff.mp (hsets _ (List.mem_of_getElem? (i := 304) rfl)))
  obtain ⟨bt, e_bt⟩ := exa_v j_bt
  have j_bf := (Cond.before_iff.mp (hsets _ (List.mem_of_getElem? (i := 27) rfl)))
  obtain ⟨bf, e_bf⟩ := exa_v j_bf
  have hO0 : (∃ bt bf : Addr, Sta s s.heap c9_ "TRUE" "Ljava/lang/Boolean;" (.ref bt) ∧ Exa s s.heap bt c9_ ∧ Fld s s.heap bt c9_ "value" "Z" (.int (1 : Int32)) ∧ Sta s s.heap c9_ "FALSE" "Ljava/lang/Boolean;" (.ref bf) ∧ Exa s s.heap bf c9_ ∧ Fld s s.heap bf c9_ "value" "Z" (.int (0 : Int32))) := ⟨bt, bf, Sta.start e_bt (Or.inl (hsets _ (List.mem_of_getElem? (i := 303) rfl))), Exa.start e_bt j_bt, fldI e_bt (Cond.before_iff.mp (hsets _ (List.mem_of_getElem? (i := 305) rfl))), Sta.start e_bf (Or.inl (hsets _ (List.mem_of_getElem? (i := 26) rfl))), Exa.start e_bf j_bf, fldI e_bf (Cond.before_iff.mp (hsets _ (List.mem_of_getElem? (i := 28) rfl)))⟩
  have cx : Ctx s _ := ⟨hw, hEL, ⟨zc, Scs, hzc⟩, ⟨fm, Sfm, hfm⟩, hL0, hB0, hO0⟩
  obtain ⟨n, o, h1, h2, h3, _, L, rfl, ⟨N, ⟨rfl, -⟩⟩, hCq, hq⟩ := own_law l s _ cx tables_1 i0 i1 i2 i3 s.vm s.heap ⟨Nat.le_refl _, fun _ _ q => q⟩ p e ha hc hk s m _ below hf ((Spec.applies_iff_loose hf).mp happ).1 ⟨rfl, State.Warmed39.refl s, rfl, CHq.refl hCH, State.Warmed39.of_rootvm (s := s) rfl (State.Warmed39.refl s)⟩ trivial
  refine ⟨n, _, h1, h2, h3, hpost _ _ _ _ _ _ ⟨Cond.after_iff.mpr rfl, Cond.after_iff.mpr (eq_i res_at (Term.int_eval (1)) rfl), trivial⟩ ⟨hq.1, hCq.2.2.2, (hq.2.2.2.sift fun y hy => Or.inr (N y hy)).mono (by decide) (by decide)⟩⟩
theorem main_1_1 : Claimed_1_1 := comes_1 fun _ _ _ _ _ _ h hF => ⟨h.1, hF⟩
theorem main_1_2 : Claimed_1_2 := comes_1 fun _ _ _ _ _ _ h hF => ⟨h.2.1, hF⟩
end Jvm.Pilot.@@N@@
namespace Jvm.Pilot.@@N@@
open Jvm Jvm.ClassFile Sem Op Lib Jvm.Free Jvm.Stand Jvm.Pilot.@@N@@.Jvm.D
/-! MADE BY PROGRAM (witnessworld.py) out of the Statement's table words and the real class files: 44 classes; the members and pool entries that the words name. The judged class is class 1, her method 5. -/
namespace start1
open Jvm.ClassFile
def u (s : String) : CpInfo := .utf8 (stringToUtf16 s)
/-- a pool by its gaps: so many unusable entries, then the entry; so many at the end -/
def gap : Nat → List CpInfo → List CpInfo
  | 0, r => r
  | n + 1, r => .unusable :: gap n r
def poolList (es : List (Nat × CpInfo)) (last : Nat) : List CpInfo := es.foldr (fun e r => gap e.1 (e.2 :: r)) (gap last [])
def pool (es : List (Nat × CpInfo)) (last : Nat) : Array CpInfo := ⟨poolList es last⟩
def fileOf (pool : Array CpInfo) (this : Nat) (attrs : Array Attribute := #[]) (ms : Array MethodInfo := #[]) (fl : Nat := 33) (sup : Nat := 0) (ifs : Array Nat := #[]) (fds : Array FieldInfo := #[]) : ClassFile where
  minorVersion := 0
  majorVersion := 65
  constantPool := pool
  accessFlags := fl
  thisClass := this
  superClass := sup
  interfaces := ifs
  fields := fds
  methods := ms
  attributes := attrs
def plain (name : String) (sup : Option ClassId) : Class where
  name := name
  kind := .ordinary
  loader := none
  accessFlags := 33
  super := sup
  interfaces := #[]
  cf := none
  fields := #[]
  methods := #[]
  instanceTypes := #[]
  staticTypes := #[]
  resolved := #[]
  callSites := []
  init := .initialized
  statics := none
  mirror := none

def pool0 : Array CpInfo := pool [(5, u "<init>"), (0, u "()V"), (1, .class_ 10), (1, u "java/lang/Object"), (0, u "getClass"), (0, u "()Ljava/lang/Class;"), (14, u "hashCode"), (0, u "()I")] 95

def k0c0 : Code := { maxStack := 0, maxLocals := 1, code := object_method_1_code, exceptionTable := #[], attributes := #[] }
def k0m0 : Method := { name := "<init>", desc := "()V", sig := { parameters := [], returnType := none }, accessFlags := 1, code := some k0c0 }
def k0m1 : Method := { name := "getClass", desc := "()Ljava/lang/Class;", sig := { parameters := [], returnType := some (.object "java/lang/Class") }, accessFlags := 273, code := none }
def k0m2 : Method := { name := "hashCode", desc := "()I", sig := { parameters := [], returnType := some .int }, accessFlags := 257, code := none }
/-- java/lang/Object -/
def k0 : Class := { plain "java/lang/Object" none with
  accessFlags := 33
  interfaces := #[]
  cf := some (fileOf pool0 8 #[] #[{ accessFlags := 1, nameIndex := 5, descriptorIndex := 6, attributes := #[] }, { accessFlags := 273, nameIndex := 11, descriptorIndex := 12, attributes := #[] }, { accessFlags := 257, nameIndex := 27, descriptorIndex := 28, attributes := #[] }] 33 0 #[] #[])
  fields := #[]
  methods := #[k0m0, k0m1, k0m2]
  instanceTypes := #[]
  staticTypes := #[]
  resolved := Array.replicate 124 none
  statics := none }

def pool1 : Array CpInfo := pool [(2, .class_ 4), (0, .nameAndType 5 6), (0, u "java/lang/Object"), (0, u "<init>"), (0, u "()V"), (0, .methodref 8 9), (0, .class_ 10), (0, .nameAndType 11 12), (0, u "com/example/headings_from_text/headingsfromtext/vocabulary/ConceptHashCodePinLaw"), (0, u "first"), (0, u "(I)C"), (0, .methodref 8 14), (0, .nameAndType 15 12), (0, u "second"), (0, .class_ 17), (0, u "java/lang/String"), (0, .methodref 16 19), (0, .nameAndType 5 20), (0, u "([C)V"), (0, .methodref 16 22), (0, .nameAndType 23 24), (0, u "valueOf"), (0, u "(C)Ljava/lang/String;"), (0, .methodref 8 26), (0, .nameAndType 27 28), (0, u "mk"), (0, u "(IZ)Ljava/lang/String;"), (0, .class_ 30), (0, u "java/util/ArrayList"), (0, .methodref 29 3), (0, .methodref 29 33), (0, .nameAndType 34 35), (0, u "add"), (0, u "(Ljava/lang/Object;)Z"), (0, .class_ 37), (0, u "com/example/headings_from_text/headingsfromtext/vocabulary/Concept"), (0, .methodref 36 39), (0, .nameAndType 5 40), (0, u "(Ljava/lang/String;ZLjava/util/List;)V"), (0, .methodref 36 42), (0, .nameAndType 43 44), (0, u "hashCode"), (0, u "()I"), (0, .methodref 8 46), (0, .nameAndType 47 48), (0, u "hashOf"), (0, u "(IZ)I"), (3, u "law"), (0, u "(IIII)Z")] 2

def k1m0 : Method := { name := "<init>", desc := "()V", sig := { parameters := [], returnType := none }, accessFlags := 1, code := none }
def k1c1 : Code := { maxStack := 2, maxLocals := 2, code := method_2_code, exceptionTable := #[], attributes := #[] }
def k1m1 : Method := { name := "first", desc := "(I)C", sig := { parameters := [.int], returnType := some .char }, accessFlags := 10, code := some k1c1 }
def k1c2 : Code := { maxStack := 2, maxLocals := 1, code := method_3_code, exceptionTable := #[], attributes := #[] }
def k1m2 : Method := { name := "second", desc := "(I)C", sig := { parameters := [.int], returnType := some .char }, accessFlags := 10, code := some k1c2 }
def k1c3 : Code := { maxStack := 3, maxLocals := 4, code := method_4_code, exceptionTable := #[], attributes := #[] }
def k1m3 : Method := { name := "mk", desc := "(IZ)Ljava/lang/String;", sig := { parameters := [.int, .boolean], returnType := some (.object "java/lang/String") }, accessFlags := 10, code := some k1c3 }
def k1c4 : Code := { maxStack := 2, maxLocals := 3, code := method_5_code, exceptionTable := #[], attributes := #[] }
def k1m4 : Method := { name := "hashOf", desc := "(IZ)I", sig := { parameters := [.int, .boolean], returnType := some .int }, accessFlags := 10, code := some k1c4 }
def k1c5 : Code := { maxStack := 5, maxLocals := 20, code := code, exceptionTable := #[], attributes := #[] }
def k1m5 : Method := { name := "law", desc := "(IIII)Z", sig := { parameters := [.int, .int, .int, .int], returnType := some .boolean }, accessFlags := 9, code := some k1c5 }
/-- com/example/headings_from_text/headingsfromtext/vocabulary/ConceptHashCodePinLaw -/
def k1 : Class := { plain "com/example/headings_from_text/headingsfromtext/vocabulary/ConceptHashCodePinLaw" (some 0) with
  accessFlags := 49
  interfaces := #[]
  cf := some (fileOf pool1 8 #[] #[{ accessFlags := 1, nameIndex := 5, descriptorIndex := 6, attributes := #[] }, { accessFlags := 10, nameIndex := 11, descriptorIndex := 12, attributes := #[] }, { accessFlags := 10, nameIndex := 15, descriptorIndex := 12, attributes := #[] }, { accessFlags := 10, nameIndex := 27, descriptorIndex := 28, attributes := #[] }, { accessFlags := 10, nameIndex := 47, descriptorIndex := 48, attributes := #[] }, { accessFlags := 9, nameIndex := 52, descriptorIndex := 53, attributes := #[] }] 49 2 #[] #[])
  fields := #[]
  methods := #[k1m0, k1m1, k1m2, k1m3, k1m4, k1m5]
  instanceTypes := #[]
  staticTypes := #[]
  resolved := Array.replicate 56 none
  statics := none }

def pool2 : Array CpInfo := pool [(1, .class_ 2), (0, u "java/io/Serializable"), (0, .class_ 4), (0, u "java/lang/Object")] 2

/-- java/io/Serializable -/
def k2 : Class := { plain "java/io/Serializable" (some 0) with
  accessFlags := 1537
  interfaces := #[]
  cf := some (fileOf pool2 1 #[] #[] 1537 3 #[] #[])
  fields := #[]
  methods := #[]
  instanceTypes := #[]
  staticTypes := #[]
  resolved := Array.replicate 7 none
  statics := none }

def pool3 : Array CpInfo := pool [(1, .class_ 2), (0, u "java/lang/Comparable"), (0, .class_ 4), (0, u "java/lang/Object")] 7

/-- java/lang/Comparable -/
def k3 : Class := { plain "java/lang/Comparable" (some 0) with
  accessFlags := 1537
  interfaces := #[]
  cf := some (fileOf pool3 1 #[] #[] 1537 3 #[] #[])
  fields := #[]
  methods := #[]
  instanceTypes := #[]
  staticTypes := #[]
  resolved := Array.replicate 12 none
  statics := none }

def pool4 : Array CpInfo := pool [(2, .class_ 4), (1, u "java/lang/CharSequence"), (42, .class_ 48), (0, u "java/lang/CharSequence$1CodePointIterator"), (10, .class_ 60), (0, u "java/lang/CharSequence$1CharIterator"), (5, .class_ 67), (0, u "java/lang/Object")] 63

/-- java/lang/CharSequence -/
def k4 : Class := { plain "java/lang/CharSequence" (some 0) with
  accessFlags := 1537
  interfaces := #[]
  cf := some (fileOf pool4 2 #[.nestMembers #[47, 59]] #[] 1537 66 #[] #[])
  fields := #[]
  methods := #[]
  instanceTypes := #[]
  staticTypes := #[]
  resolved := Array.replicate 131 none
  statics := none }

def pool5 : Array CpInfo := pool [(1, .class_ 2), (0, u "java/lang/constant/Constable"), (0, .class_ 4), (0, u "java/lang/Object")] 6

/-- java/lang/constant/Constable -/
def k5 : Class := { plain "java/lang/constant/Constable" (some 0) with
  accessFlags := 1537
  interfaces := #[]
  cf := some (fileOf pool5 1 #[] #[] 1537 3 #[] #[])
  fields := #[]
  methods := #[]
  instanceTypes := #[]
  staticTypes := #[]
  resolved := Array.replicate 11 none
  statics := none }

def pool6 : Array CpInfo := pool [(1, .class_ 2), (0, u "java/lang/constant/ConstantDesc"), (0, .class_ 4), (0, u "java/lang/Object")] 32

/-- java/lang/constant/ConstantDesc -/
def k6 : Class := { plain "java/lang/constant/ConstantDesc" (some 0) with
  accessFlags := 1537
  interfaces := #[]
  cf := some (fileOf pool6 1 #[] #[] 1537 3 #[] #[])
  fields := #[]
  methods := #[]
  instanceTypes := #[]
  staticTypes := #[]
  resolved := Array.replicate 37 none
  statics := none }

def pool7 : Array CpInfo := pool [(1, .methodref 2 3), (0, .class_ 4), (0, .nameAndType 5 6), (0, u "java/lang/Object"), (0, u "<init>"), (0, u "()V"), (2, .fieldref 10 11), (0, .class_ 12), (0, .nameAndType 13 14), (0, u "java/lang/String"), (0, u "value"), (0, u "[B"), (0, .fieldref 10 16), (0, .nameAndType 17 18), (0, u "coder"), (0, u "B"), (0, .fieldref 10 20), (0, .nameAndType 21 22), (0, u "hash"), (0, u "I"), (0, .fieldref 10 24), (0, .nameAndType 25 26), (0, u "hashIsZero"), (0, u "Z"), (0, .methodref 10 28), (0, .nameAndType 5 29), (0, u "([CIILjava/lang/Void;)V"), (8, .fieldref 10 39), (0, .nameAndType 40 26), (0, u "COMPACT_STRINGS"), (1, .class_ 44), (1, u "java/lang/StringUTF16"), (0, u "compress"), (1, .methodref 42 48), (0, .nameAndType 49 50), (0, u "coderFromArrayLen"), (0, u "([BI)B"), (2, u "toBytes"), (53, .class_ 109), (1, u "java/lang/StringLatin1"), (32, u "()Z"), (34, .methodref 42 178), (0, .nameAndType 45 179), (0, u "([CII)[B"), (29, .methodref 10 210), (0, .nameAndType 5 211), (0, u "([BB)V"), (122, u "()I"), (0, .methodref 10 336), (0, .nameAndType 17 337), (0, u "()B"), (31, u "(C)Z"), (122, .methodref 10 493), (0, .nameAndType 494 142), (0, u "isLatin1"), (10, .methodref 10 506), (0, .nameAndType 507 334), (0, u "length"), (67, .class_ 576), (0, u "java/lang/CharSequence"), (22, u "CASE_INSENSITIVE_ORDER"), (0, u "Ljava/util/Comparator;"), (27, .methodref 107 629), (0, .nameAndType 630 631), (0, u "hashCode"), (0, u "([B)I"), (150, u "valueOf"), (0, u "(C)Ljava/lang/String;"), (92, .methodref 10 877), (0, .nameAndType 878 334), (0, u "indexOfNonWhitespace"), (45, .methodref 107 925), (0, .nameAndType 878 631), (26, u "isBlank"), (57, u "([C)V"), (4, .methodref 107 1016), (0, .nameAndType 1017 369), (0, u "canEncode"), (0, .methodref 107 1019), (0, .nameAndType 53 1020), (0, u "(C)[B"), (80, u "serialPersistentFields"), (0, u "[Ljava/io/ObjectStreamField;"), (0, .class_ 1104), (0, u "java/lang/String$CaseInsensitiveComparator"), (1, .class_ 1107), (0, u "java/io/Serializable"), (0, .class_ 1109), (0, u "java/lang/Comparable"), (0, .class_ 1111), (0, u "java/lang/constant/Constable"), (0, .class_ 1113), (0, u "java/lang/constant/ConstantDesc"), (2, u "serialVersionUID"), (0, u "J"), (3, u "REPL"), (0, u "C"), (2, u "LATIN1"), (1, u "UTF16")] 323

def k7m0 : Method := { name := "<init>", desc := "()V", sig := { parameters := [], returnType := none }, accessFlags := 1, code := none }
def k7c1 : Code := { maxStack := 5, maxLocals := 2, code := jdk_42_method_3_code, exceptionTable := #[], attributes := #[] }
def k7m1 : Method := { name := "<init>", desc := "([C)V", sig := { parameters := [(.array .char)], returnType := none }, accessFlags := 1, code := some k7c1 }
def k7c2 : Code := { maxStack := 2, maxLocals := 1, code := jdk_42_method_54_code, exceptionTable := #[], attributes := #[] }
def k7m2 : Method := { name := "length", desc := "()I", sig := { parameters := [], returnType := some .int }, accessFlags := 1, code := some k7c2 }
def k7c3 : Code := { maxStack := 2, maxLocals := 2, code := jdk_42_method_78_code, exceptionTable := #[], attributes := #[] }
def k7m3 : Method := { name := "hashCode", desc := "()I", sig := { parameters := [], returnType := some .int }, accessFlags := 1, code := some k7c3 }
def k7c4 : Code := { maxStack := 2, maxLocals := 1, code := jdk_42_method_117_code, exceptionTable := #[], attributes := #[] }
def k7m4 : Method := { name := "isBlank", desc := "()Z", sig := { parameters := [], returnType := some .boolean }, accessFlags := 1, code := some k7c4 }
def k7c5 : Code := { maxStack := 1, maxLocals := 1, code := jdk_42_method_120_code, exceptionTable := #[], attributes := #[] }
def k7m5 : Method := { name := "indexOfNonWhitespace", desc := "()I", sig := { parameters := [], returnType := some .int }, accessFlags := 2, code := some k7c5 }
def k7c6 : Code := { maxStack := 4, maxLocals := 1, code := jdk_42_method_139_code, exceptionTable := #[], attributes := #[] }
def k7m6 : Method := { name := "valueOf", desc := "(C)Ljava/lang/String;", sig := { parameters := [.char], returnType := some (.object "java/lang/String") }, accessFlags := 9, code := some k7c6 }
def k7c7 : Code := { maxStack := 4, maxLocals := 6, code := jdk_42_method_149_code, exceptionTable := #[], attributes := #[] }
def k7m7 : Method := { name := "<init>", desc := "([CIILjava/lang/Void;)V", sig := { parameters := [(.array .char), .int, .int, (.object "java/lang/Void")], returnType := none }, accessFlags := 2, code := some k7c7 }
def k7c8 : Code := { maxStack := 2, maxLocals := 3, code := jdk_42_method_151_code, exceptionTable := #[], attributes := #[] }
def k7m8 : Method := { name := "<init>", desc := "([BB)V", sig := { parameters := [(.array .byte), .byte], returnType := none }, accessFlags := 0, code := some k7c8 }
def k7c9 : Code := { maxStack := 1, maxLocals := 1, code := jdk_42_method_152_code, exceptionTable := #[], attributes := #[] }
def k7m9 : Method := { name := "coder", desc := "()B", sig := { parameters := [], returnType := some .byte }, accessFlags := 0, code := some k7c9 }
def k7c10 : Code := { maxStack := 1, maxLocals := 1, code := jdk_42_method_154_code, exceptionTable := #[], attributes := #[] }
def k7m10 : Method := { name := "isLatin1", desc := "()Z", sig := { parameters := [], returnType := some .boolean }, accessFlags := 0, code := some k7c10 }
/-- java/lang/String -/
def k7 : Class := { plain "java/lang/String" (some 0) with
  accessFlags := 49
  interfaces := #[2, 3, 4, 5, 6]
  cf := some (fileOf pool7 10 #[.nestMembers #[1103]] #[{ accessFlags := 1, nameIndex := 5, descriptorIndex := 6, attributes := #[] }, { accessFlags := 1, nameIndex := 5, descriptorIndex := 1010, attributes := #[] }, { accessFlags := 1, nameIndex := 507, descriptorIndex := 334, attributes := #[] }, { accessFlags := 1, nameIndex := 630, descriptorIndex := 334, attributes := #[] }, { accessFlags := 1, nameIndex := 952, descriptorIndex := 142, attributes := #[] }, { accessFlags := 2, nameIndex := 878, descriptorIndex := 334, attributes := #[] }, { accessFlags := 9, nameIndex := 782, descriptorIndex := 783, attributes := #[] }, { accessFlags := 2, nameIndex := 5, descriptorIndex := 29, attributes := #[] }, { accessFlags := 0, nameIndex := 5, descriptorIndex := 211, attributes := #[] }, { accessFlags := 0, nameIndex := 17, descriptorIndex := 337, attributes := #[] }, { accessFlags := 0, nameIndex := 494, descriptorIndex := 142, attributes := #[] }] 49 2 #[1106, 1108, 575, 1110, 1112] #[{ accessFlags := 18, nameIndex := 13, descriptorIndex := 14, attributes := #[] }, { accessFlags := 18, nameIndex := 17, descriptorIndex := 18, attributes := #[] }, { accessFlags := 2, nameIndex := 21, descriptorIndex := 22, attributes := #[] }, { accessFlags := 2, nameIndex := 25, descriptorIndex := 26, attributes := #[] }, { accessFlags := 26, nameIndex := 1116, descriptorIndex := 1117, attributes := #[] }, { accessFlags := 24, nameIndex := 40, descriptorIndex := 26, attributes := #[] }, { accessFlags := 26, nameIndex := 1101, descriptorIndex := 1102, attributes := #[] }, { accessFlags := 26, nameIndex := 1121, descriptorIndex := 1122, attributes := #[] }, { accessFlags := 25, nameIndex := 599, descriptorIndex := 600, attributes := #[] }, { accessFlags := 24, nameIndex := 1125, descriptorIndex := 18, attributes := #[] }, { accessFlags := 24, nameIndex := 1127, descriptorIndex := 18, attributes := #[] }])
  fields := #[{ name := "value", type := (.array .byte), accessFlags := 18, slot := 0, constantValue := 0 }, { name := "coder", type := .byte, accessFlags := 18, slot := 1, constantValue := 0 }, { name := "hash", type := .int, accessFlags := 2, slot := 2, constantValue := 0 }, { name := "hashIsZero", type := .boolean, accessFlags := 2, slot := 3, constantValue := 0 }, { name := "serialVersionUID", type := .long, accessFlags := 26, slot := 0, constantValue := 0 }, { name := "COMPACT_STRINGS", type := .boolean, accessFlags := 24, slot := 1, constantValue := 0 }, { name := "serialPersistentFields", type := (.array (.object "java/io/ObjectStreamField")), accessFlags := 26, slot := 2, constantValue := 0 }, { name := "REPL", type := .char, accessFlags := 26, slot := 3, constantValue := 0 }, { name := "CASE_INSENSITIVE_ORDER", type := (.object "java/util/Comparator"), accessFlags := 25, slot := 4, constantValue := 0 }, { name := "LATIN1", type := .byte, accessFlags := 24, slot := 5, constantValue := 0 }, { name := "UTF16", type := .byte, accessFlags := 24, slot := 6, constantValue := 0 }]
  methods := #[k7m0, k7m1, k7m2, k7m3, k7m4, k7m5, k7m6, k7m7, k7m8, k7m9, k7m10]
  instanceTypes := #[(.array .byte), .byte, .int, .boolean]
  staticTypes := #[.long, .boolean, (.array (.object "java/io/ObjectStreamField")), .char, (.object "java/util/Comparator"), .byte, .byte]
  resolved := Array.replicate 1451 none
  statics := some 0 }

def pool8 : Array CpInfo := pool [(4, .class_ 6), (1, u "java/lang/Object"), (0, u "<init>"), (0, u "()V"), (5, .class_ 16), (1, u "java/lang/StringLatin1"), (28, .class_ 47), (1, u "jdk/internal/util/ArraysSupport"), (2, .methodref 14 51), (0, .nameAndType 52 53), (0, u "getChar"), (0, u "([BI)C"), (3, u "([B)I"), (8, .fieldref 67 68), (0, .class_ 69), (0, .nameAndType 70 71), (0, u "java/lang/CharacterDataLatin1"), (0, u "instance"), (0, u "Ljava/lang/CharacterDataLatin1;"), (12, .methodref 45 85), (0, .nameAndType 86 87), (0, u "vectorizedHashCode"), (0, u "(Ljava/lang/Object;IIII)I"), (2, u "canEncode"), (0, u "(I)Z"), (13, u "(C)Z"), (15, u "$assertionsDisabled"), (0, u "Z"), (88, .methodref 67 212), (0, .nameAndType 213 91), (0, u "isWhitespace"), (2, u "indexOfNonWhitespace"), (4, .class_ 223), (1, u "java/lang/StringLatin1$LinesSpliterator"), (74, u "hashCode"), (81, u "toBytes"), (1, u "(C)[B"), (7, .class_ 391), (0, u "java/lang/StringLatin1$CharsSpliterator")] 3

def k8m0 : Method := { name := "<init>", desc := "()V", sig := { parameters := [], returnType := none }, accessFlags := 0, code := none }
def k8c1 : Code := { maxStack := 2, maxLocals := 1, code := jdk_43_method_3_code, exceptionTable := #[], attributes := #[] }
def k8m1 : Method := { name := "canEncode", desc := "(C)Z", sig := { parameters := [.char], returnType := some .boolean }, accessFlags := 9, code := some k8c1 }
def k8c2 : Code := { maxStack := 5, maxLocals := 1, code := jdk_43_method_21_code, exceptionTable := #[], attributes := #[] }
def k8m2 : Method := { name := "hashCode", desc := "([B)I", sig := { parameters := [(.array .byte)], returnType := some .int }, accessFlags := 9, code := some k8c2 }
def k8c3 : Code := { maxStack := 2, maxLocals := 4, code := jdk_43_method_37_code, exceptionTable := #[], attributes := #[] }
def k8m3 : Method := { name := "indexOfNonWhitespace", desc := "([B)I", sig := { parameters := [(.array .byte)], returnType := some .int }, accessFlags := 9, code := some k8c3 }
def k8c4 : Code := { maxStack := 2, maxLocals := 2, code := jdk_43_method_44_code, exceptionTable := #[], attributes := #[] }
def k8m4 : Method := { name := "getChar", desc := "([BI)C", sig := { parameters := [(.array .byte), .int], returnType := some .char }, accessFlags := 9, code := some k8c4 }
def k8c5 : Code := { maxStack := 4, maxLocals := 1, code := jdk_43_method_46_code, exceptionTable := #[], attributes := #[] }
def k8m5 : Method := { name := "toBytes", desc := "(C)[B", sig := { parameters := [.char], returnType := some (.array .byte) }, accessFlags := 9, code := some k8c5 }
/-- java/lang/StringLatin1 -/
def k8 : Class := { plain "java/lang/StringLatin1" (some 0) with
  accessFlags := 48
  interfaces := #[]
  cf := some (fileOf pool8 14 #[.nestMembers #[390, 221]] #[{ accessFlags := 0, nameIndex := 7, descriptorIndex := 8, attributes := #[] }, { accessFlags := 9, nameIndex := 90, descriptorIndex := 105, attributes := #[] }, { accessFlags := 9, nameIndex := 298, descriptorIndex := 57, attributes := #[] }, { accessFlags := 9, nameIndex := 216, descriptorIndex := 57, attributes := #[] }, { accessFlags := 9, nameIndex := 52, descriptorIndex := 53, attributes := #[] }, { accessFlags := 9, nameIndex := 380, descriptorIndex := 382, attributes := #[] }] 48 4 #[] #[{ accessFlags := 4120, nameIndex := 121, descriptorIndex := 122, attributes := #[] }])
  fields := #[{ name := "$assertionsDisabled", type := .boolean, accessFlags := 4120, slot := 0, constantValue := 0 }]
  methods := #[k8m0, k8m1, k8m2, k8m3, k8m4, k8m5]
  instanceTypes := #[]
  staticTypes := #[.boolean]
  resolved := Array.replicate 395 none
  statics := none }

def pool9 : Array CpInfo := pool [(8, .class_ 10), (1, u "java/lang/Iterable"), (24, .class_ 36), (0, u "java/lang/Object")] 25

/-- java/lang/Iterable -/
def k9 : Class := { plain "java/lang/Iterable" (some 0) with
  accessFlags := 1537
  interfaces := #[]
  cf := some (fileOf pool9 8 #[] #[] 1537 35 #[] #[])
  fields := #[]
  methods := #[]
  instanceTypes := #[]
  staticTypes := #[]
  resolved := Array.replicate 62 none
  statics := none }

def pool10 : Array CpInfo := pool [(10, .class_ 12), (1, u "java/util/Collection"), (0, u "toArray"), (16, u "()Z"), (29, .class_ 61), (0, u "java/lang/Object"), (0, .class_ 63), (0, u "java/lang/Iterable"), (2, u "isEmpty"), (3, u "()[Ljava/lang/Object;")] 44

def k10m0 : Method := { name := "isEmpty", desc := "()Z", sig := { parameters := [], returnType := some .boolean }, accessFlags := 1025, code := none }
def k10m1 : Method := { name := "toArray", desc := "()[Ljava/lang/Object;", sig := { parameters := [], returnType := some (.array (.object "java/lang/Object")) }, accessFlags := 1025, code := none }
/-- java/util/Collection -/
def k10 : Class := { plain "java/util/Collection" (some 0) with
  accessFlags := 1537
  interfaces := #[9]
  cf := some (fileOf pool10 10 #[] #[{ accessFlags := 1025, nameIndex := 66, descriptorIndex := 30, attributes := #[] }, { accessFlags := 1025, nameIndex := 13, descriptorIndex := 70, attributes := #[] }] 1537 60 #[62] #[])
  fields := #[]
  methods := #[k10m0, k10m1]
  instanceTypes := #[]
  staticTypes := #[]
  resolved := Array.replicate 115 none
  statics := none }

def pool11 : Array CpInfo := pool [(1, .methodref 2 3), (0, .class_ 4), (0, .nameAndType 5 6), (0, u "java/lang/Object"), (0, u "<init>"), (0, u "()V"), (1, .class_ 10), (1, u "java/util/AbstractCollection"), (0, u "size"), (0, u "()I"), (64, .class_ 78), (0, u "java/util/Collection")] 81

def k11c0 : Code := { maxStack := 1, maxLocals := 1, code := jdk_22_method_1_code, exceptionTable := #[], attributes := #[] }
def k11m0 : Method := { name := "<init>", desc := "()V", sig := { parameters := [], returnType := none }, accessFlags := 4, code := some k11c0 }
def k11m1 : Method := { name := "size", desc := "()I", sig := { parameters := [], returnType := some .int }, accessFlags := 1025, code := none }
/-- java/util/AbstractCollection -/
def k11 : Class := { plain "java/util/AbstractCollection" (some 0) with
  accessFlags := 1057
  interfaces := #[10]
  cf := some (fileOf pool11 8 #[] #[{ accessFlags := 4, nameIndex := 5, descriptorIndex := 6, attributes := #[] }, { accessFlags := 1025, nameIndex := 11, descriptorIndex := 12, attributes := #[] }] 1057 2 #[77] #[])
  fields := #[]
  methods := #[k11m0, k11m1]
  instanceTypes := #[]
  staticTypes := #[]
  resolved := Array.replicate 160 none
  statics := none }

def pool12 : Array CpInfo := pool [(8, .class_ 10), (1, u "java/util/SequencedCollection"), (15, .class_ 27), (0, u "java/lang/Object"), (0, .class_ 29), (0, u "java/util/Collection")] 27

/-- java/util/SequencedCollection -/
def k12 : Class := { plain "java/util/SequencedCollection" (some 0) with
  accessFlags := 1537
  interfaces := #[10]
  cf := some (fileOf pool12 8 #[] #[] 1537 26 #[28] #[])
  fields := #[]
  methods := #[]
  instanceTypes := #[]
  staticTypes := #[]
  resolved := Array.replicate 57 none
  statics := none }

def pool13 : Array CpInfo := pool [(8, .class_ 10), (1, u "java/util/List"), (20, u "(Ljava/lang/Object;)V"), (16, u "<init>"), (26, u "get"), (0, u "(I)Ljava/lang/Object;"), (11, u "of"), (1, .fieldref 91 92), (0, .class_ 93), (0, .nameAndType 94 95), (0, u "java/util/ImmutableCollections"), (0, u "EMPTY_LIST"), (0, u "Ljava/util/ImmutableCollections$ListN;"), (0, .class_ 97), (0, u "java/util/ImmutableCollections$List12"), (0, .methodref 96 99), (0, .nameAndType 48 31), (0, .methodref 96 101), (0, .nameAndType 48 102), (0, u "(Ljava/lang/Object;Ljava/lang/Object;)V"), (0, .class_ 104), (0, u "java/lang/Object"), (3, u "([Ljava/lang/Object;)Ljava/util/List;"), (3, .methodref 91 113), (0, .nameAndType 114 115), (0, u "listCopy"), (0, u "(Ljava/util/Collection;)Ljava/util/List;"), (3, u "()Ljava/util/List;"), (0, .class_ 121), (0, u "java/util/SequencedCollection"), (1, u "iterator"), (0, u "()Ljava/util/Iterator;"), (109, u "copyOf")] 16

def k13m0 : Method := { name := "iterator", desc := "()Ljava/util/Iterator;", sig := { parameters := [], returnType := some (.object "java/util/Iterator") }, accessFlags := 1025, code := none }
def k13m1 : Method := { name := "get", desc := "(I)Ljava/lang/Object;", sig := { parameters := [.int], returnType := some (.object "java/lang/Object") }, accessFlags := 1025, code := none }
def k13c2 : Code := { maxStack := 1, maxLocals := 0, code := jdk_40_method_36_code, exceptionTable := #[], attributes := #[] }
def k13m2 : Method := { name := "of", desc := "()Ljava/util/List;", sig := { parameters := [], returnType := some (.object "java/util/List") }, accessFlags := 9, code := some k13c2 }
def k13c3 : Code := { maxStack := 5, maxLocals := 2, code := jdk_40_method_47_code, exceptionTable := #[], attributes := #[] }
def k13m3 : Method := { name := "of", desc := "([Ljava/lang/Object;)Ljava/util/List;", sig := { parameters := [(.array (.object "java/lang/Object"))], returnType := some (.object "java/util/List") }, accessFlags := 137, code := some k13c3 }
def k13c4 : Code := { maxStack := 1, maxLocals := 1, code := jdk_40_method_48_code, exceptionTable := #[], attributes := #[] }
def k13m4 : Method := { name := "copyOf", desc := "(Ljava/util/Collection;)Ljava/util/List;", sig := { parameters := [(.object "java/util/Collection")], returnType := some (.object "java/util/List") }, accessFlags := 9, code := some k13c4 }
/-- java/util/List -/
def k13 : Class := { plain "java/util/List" (some 0) with
  accessFlags := 1537
  interfaces := #[12]
  cf := some (fileOf pool13 8 #[] #[{ accessFlags := 1025, nameIndex := 123, descriptorIndex := 124, attributes := #[] }, { accessFlags := 1025, nameIndex := 75, descriptorIndex := 76, attributes := #[] }, { accessFlags := 9, nameIndex := 88, descriptorIndex := 119, attributes := #[] }, { accessFlags := 137, nameIndex := 88, descriptorIndex := 108, attributes := #[] }, { accessFlags := 9, nameIndex := 234, descriptorIndex := 115, attributes := #[] }] 1537 103 #[120] #[])
  fields := #[]
  methods := #[k13m0, k13m1, k13m2, k13m3, k13m4]
  instanceTypes := #[]
  staticTypes := #[]
  resolved := Array.replicate 251 none
  statics := none }

def pool14 : Array CpInfo := pool [(1, .methodref 2 3), (0, .class_ 4), (0, .nameAndType 5 6), (0, u "java/util/AbstractCollection"), (0, u "<init>"), (0, u "()V"), (0, .fieldref 8 9), (0, .class_ 10), (0, .nameAndType 11 12), (0, u "java/util/AbstractList"), (0, u "modCount"), (0, u "I"), (64, .class_ 78), (0, u "java/util/AbstractList$Itr"), (3, .class_ 83), (0, u "java/util/AbstractList$ListItr"), (9, .class_ 94), (0, u "java/util/AbstractList$RandomAccessSubList"), (3, .class_ 99), (0, u "java/util/AbstractList$SubList"), (33, .class_ 134), (0, u "java/util/List"), (73, .class_ 209), (0, u "java/util/AbstractList$SubList$1"), (0, .class_ 211), (0, u "java/util/AbstractList$RandomAccessSpliterator")] 6

def k14c0 : Code := { maxStack := 2, maxLocals := 1, code := jdk_39_method_1_code, exceptionTable := #[], attributes := #[] }
def k14m0 : Method := { name := "<init>", desc := "()V", sig := { parameters := [], returnType := none }, accessFlags := 4, code := some k14c0 }
/-- java/util/AbstractList -/
def k14 : Class := { plain "java/util/AbstractList" (some 11) with
  accessFlags := 1057
  interfaces := #[13]
  cf := some (fileOf pool14 8 #[.nestMembers #[93, 98, 208, 210, 82, 77]] #[{ accessFlags := 4, nameIndex := 5, descriptorIndex := 6, attributes := #[] }] 1057 2 #[133] #[{ accessFlags := 132, nameIndex := 11, descriptorIndex := 12, attributes := #[] }])
  fields := #[{ name := "modCount", type := .int, accessFlags := 132, slot := 0, constantValue := 0 }]
  methods := #[k14m0]
  instanceTypes := #[.int]
  staticTypes := #[]
  resolved := Array.replicate 218 none
  statics := none }

def pool15 : Array CpInfo := pool [(1, .class_ 2), (0, u "java/util/RandomAccess"), (0, .class_ 4), (0, u "java/lang/Object")] 2

/-- java/util/RandomAccess -/
def k15 : Class := { plain "java/util/RandomAccess" (some 0) with
  accessFlags := 1537
  interfaces := #[]
  cf := some (fileOf pool15 1 #[] #[] 1537 3 #[] #[])
  fields := #[]
  methods := #[]
  instanceTypes := #[]
  staticTypes := #[]
  resolved := Array.replicate 7 none
  statics := none }

def pool16 : Array CpInfo := pool [(1, .class_ 2), (0, u "java/lang/Cloneable"), (0, .class_ 4), (0, u "java/lang/Object")] 2

/-- java/lang/Cloneable -/
def k16 : Class := { plain "java/lang/Cloneable" (some 0) with
  accessFlags := 1537
  interfaces := #[]
  cf := some (fileOf pool16 1 #[] #[] 1537 3 #[] #[])
  fields := #[]
  methods := #[]
  instanceTypes := #[]
  staticTypes := #[]
  resolved := Array.replicate 7 none
  statics := none }

def pool17 : Array CpInfo := pool [(1, .methodref 2 3), (0, .class_ 4), (0, .nameAndType 5 6), (0, u "java/util/AbstractList"), (0, u "<init>"), (0, u "()V"), (0, .class_ 8), (0, u "java/lang/Object"), (0, .fieldref 10 11), (0, .class_ 12), (0, .nameAndType 13 14), (0, u "java/util/ArrayList"), (0, u "elementData"), (0, u "[Ljava/lang/Object;"), (2, u "EMPTY_ELEMENTDATA"), (21, .fieldref 10 40), (0, .nameAndType 41 14), (0, u "DEFAULTCAPACITY_EMPTY_ELEMENTDATA"), (4, u "toArray"), (0, u "()[Ljava/lang/Object;"), (0, .fieldref 10 49), (0, .nameAndType 50 51), (0, u "size"), (0, u "I"), (6, .class_ 60), (1, u "java/util/Arrays"), (0, u "copyOf"), (1, .fieldref 10 64), (0, .nameAndType 65 51), (0, u "modCount"), (0, .methodref 58 67), (0, .nameAndType 61 68), (0, u "([Ljava/lang/Object;I)[Ljava/lang/Object;"), (0, .methodref 10 70), (0, .nameAndType 71 72), (0, u "grow"), (0, u "(I)[Ljava/lang/Object;"), (6, .methodref 80 81), (0, .class_ 82), (0, .nameAndType 83 84), (0, u "java/lang/Math"), (0, u "max"), (0, u "(II)I"), (11, u "(Ljava/lang/Object;)Z"), (32, .methodref 10 130), (0, .nameAndType 71 47), (0, .methodref 10 132), (0, .nameAndType 133 134), (0, u "add"), (0, u "(Ljava/lang/Object;[Ljava/lang/Object;I)V"), (13, .class_ 149), (0, u "java/util/List"), (16, u "iterator"), (0, u "()Ljava/util/Iterator;"), (5, u "()Z"), (88, .class_ 263), (0, u "java/util/ArrayList$ListItr"), (3, .class_ 268), (0, u "java/util/ArrayList$Itr"), (0, .methodref 267 270), (0, .nameAndType 5 271), (0, u "(Ljava/util/ArrayList;)V"), (4, .class_ 277), (0, u "java/util/ArrayList$SubList"), (12, .class_ 291), (0, u "java/util/ArrayList$ArrayListSpliterator"), (37, .class_ 330), (0, u "java/util/RandomAccess"), (0, .class_ 332), (0, u "java/lang/Cloneable"), (0, .class_ 334), (0, u "java/io/Serializable"), (0, u "serialVersionUID"), (0, u "J"), (3, u "DEFAULT_CAPACITY"), (22, u "isEmpty"), (136, .class_ 501), (0, u "java/util/ArrayList$SubList$2"), (0, .class_ 503), (0, u "java/util/ArrayList$SubList$1")] 5

def k17c0 : Code := { maxStack := 2, maxLocals := 1, code := jdk_38_method_2_code, exceptionTable := #[], attributes := #[] }
def k17m0 : Method := { name := "<init>", desc := "()V", sig := { parameters := [], returnType := none }, accessFlags := 1, code := some k17c0 }
def k17c1 : Code := { maxStack := 4, maxLocals := 4, code := jdk_38_method_6_code, exceptionTable := #[], attributes := #[] }
def k17m1 : Method := { name := "grow", desc := "(I)[Ljava/lang/Object;", sig := { parameters := [.int], returnType := some (.array (.object "java/lang/Object")) }, accessFlags := 2, code := some k17c1 }
def k17c2 : Code := { maxStack := 3, maxLocals := 1, code := jdk_38_method_7_code, exceptionTable := #[], attributes := #[] }
def k17m2 : Method := { name := "grow", desc := "()[Ljava/lang/Object;", sig := { parameters := [], returnType := some (.array (.object "java/lang/Object")) }, accessFlags := 2, code := some k17c2 }
def k17c3 : Code := { maxStack := 1, maxLocals := 1, code := jdk_38_method_9_code, exceptionTable := #[], attributes := #[] }
def k17m3 : Method := { name := "isEmpty", desc := "()Z", sig := { parameters := [], returnType := some .boolean }, accessFlags := 1, code := some k17c3 }
def k17c4 : Code := { maxStack := 2, maxLocals := 1, code := jdk_38_method_16_code, exceptionTable := #[], attributes := #[] }
def k17m4 : Method := { name := "toArray", desc := "()[Ljava/lang/Object;", sig := { parameters := [], returnType := some (.array (.object "java/lang/Object")) }, accessFlags := 1, code := some k17c4 }
def k17c5 : Code := { maxStack := 3, maxLocals := 4, code := jdk_38_method_24_code, exceptionTable := #[], attributes := #[] }
def k17m5 : Method := { name := "add", desc := "(Ljava/lang/Object;[Ljava/lang/Object;I)V", sig := { parameters := [(.object "java/lang/Object"), (.array (.object "java/lang/Object")), .int], returnType := none }, accessFlags := 2, code := some k17c5 }
def k17c6 : Code := { maxStack := 4, maxLocals := 2, code := jdk_38_method_25_code, exceptionTable := #[], attributes := #[] }
def k17m6 : Method := { name := "add", desc := "(Ljava/lang/Object;)Z", sig := { parameters := [(.object "java/lang/Object")], returnType := some .boolean }, accessFlags := 1, code := some k17c6 }
def k17c7 : Code := { maxStack := 3, maxLocals := 1, code := jdk_38_method_55_code, exceptionTable := #[], attributes := #[] }
def k17m7 : Method := { name := "iterator", desc := "()Ljava/util/Iterator;", sig := { parameters := [], returnType := some (.object "java/util/Iterator") }, accessFlags := 1, code := some k17c7 }
/-- java/util/ArrayList -/
def k17 : Class := { plain "java/util/ArrayList" (some 14) with
  accessFlags := 33
  interfaces := #[13, 15, 16, 2]
  cf := some (fileOf pool17 10 #[.nestMembers #[290, 276, 500, 502, 262, 267]] #[{ accessFlags := 1, nameIndex := 5, descriptorIndex := 6, attributes := #[] }, { accessFlags := 2, nameIndex := 71, descriptorIndex := 72, attributes := #[] }, { accessFlags := 2, nameIndex := 71, descriptorIndex := 47, attributes := #[] }, { accessFlags := 1, nameIndex := 363, descriptorIndex := 173, attributes := #[] }, { accessFlags := 1, nameIndex := 46, descriptorIndex := 47, attributes := #[] }, { accessFlags := 2, nameIndex := 133, descriptorIndex := 134, attributes := #[] }, { accessFlags := 1, nameIndex := 133, descriptorIndex := 96, attributes := #[] }, { accessFlags := 1, nameIndex := 166, descriptorIndex := 167, attributes := #[] }] 33 2 #[148, 329, 331, 333] #[{ accessFlags := 26, nameIndex := 335, descriptorIndex := 336, attributes := #[] }, { accessFlags := 26, nameIndex := 340, descriptorIndex := 51, attributes := #[] }, { accessFlags := 26, nameIndex := 17, descriptorIndex := 14, attributes := #[] }, { accessFlags := 26, nameIndex := 41, descriptorIndex := 14, attributes := #[] }, { accessFlags := 128, nameIndex := 13, descriptorIndex := 14, attributes := #[] }, { accessFlags := 2, nameIndex := 50, descriptorIndex := 51, attributes := #[] }])
  fields := #[{ name := "serialVersionUID", type := .long, accessFlags := 26, slot := 0, constantValue := 0 }, { name := "DEFAULT_CAPACITY", type := .int, accessFlags := 26, slot := 1, constantValue := 0 }, { name := "EMPTY_ELEMENTDATA", type := (.array (.object "java/lang/Object")), accessFlags := 26, slot := 2, constantValue := 0 }, { name := "DEFAULTCAPACITY_EMPTY_ELEMENTDATA", type := (.array (.object "java/lang/Object")), accessFlags := 26, slot := 3, constantValue := 0 }, { name := "elementData", type := (.array (.object "java/lang/Object")), accessFlags := 128, slot := 1, constantValue := 0 }, { name := "size", type := .int, accessFlags := 2, slot := 2, constantValue := 0 }]
  methods := #[k17m0, k17m1, k17m2, k17m3, k17m4, k17m5, k17m6, k17m7]
  instanceTypes := #[.int, (.array (.object "java/lang/Object")), .int]
  staticTypes := #[.long, .int, (.array (.object "java/lang/Object")), (.array (.object "java/lang/Object"))]
  resolved := Array.replicate 509 none
  statics := some 1 }

def pool18 : Array CpInfo := pool [(1, .methodref 2 3), (0, .class_ 4), (0, .nameAndType 5 6), (0, u "java/lang/Object"), (0, u "<init>"), (0, u "()V"), (0, .methodref 8 9), (0, .class_ 10), (0, .nameAndType 11 12), (0, u "java/lang/String"), (0, u "isBlank"), (0, u "()Z"), (7, .interfaceMethodref 21 22), (0, .class_ 23), (0, .nameAndType 24 25), (0, u "java/util/List"), (0, u "iterator"), (0, u "()Ljava/util/Iterator;"), (0, .interfaceMethodref 27 28), (0, .class_ 29), (0, .nameAndType 30 12), (0, u "java/util/Iterator"), (0, u "hasNext"), (0, .interfaceMethodref 27 32), (0, .nameAndType 33 34), (0, u "next"), (0, u "()Ljava/lang/Object;"), (2, .fieldref 38 39), (0, .class_ 40), (0, .nameAndType 41 42), (0, u "com/example/headings_from_text/headingsfromtext/vocabulary/Concept"), (0, u "ui"), (0, u "Ljava/lang/String;"), (0, .fieldref 38 44), (0, .nameAndType 45 46), (0, u "preferred"), (0, u "Z"), (0, .interfaceMethodref 21 48), (0, .nameAndType 49 50), (0, u "copyOf"), (0, u "(Ljava/util/Collection;)Ljava/util/List;"), (0, .fieldref 38 52), (0, .nameAndType 53 54), (0, u "terms"), (0, u "Ljava/util/List;"), (1, .class_ 58), (1, u "java/util/Objects"), (5, .methodref 65 66), (0, .class_ 67), (0, .nameAndType 68 69), (0, u "java/lang/Boolean"), (0, u "valueOf"), (0, u "(Z)Ljava/lang/Boolean;"), (0, .methodref 56 71), (0, .nameAndType 72 73), (0, u "hash"), (0, u "([Ljava/lang/Object;)I"), (14, u "(Ljava/lang/String;ZLjava/util/List;)V"), (7, u "hashCode"), (0, u "()I")] 20

def k18c0 : Code := { maxStack := 3, maxLocals := 6, code := prog_32_method_1_code, exceptionTable := #[], attributes := #[] }
def k18m0 : Method := { name := "<init>", desc := "(Ljava/lang/String;ZLjava/util/List;)V", sig := { parameters := [(.object "java/lang/String"), .boolean, (.object "java/util/List")], returnType := none }, accessFlags := 1, code := some k18c0 }
def k18c1 : Code := { maxStack := 4, maxLocals := 1, code := prog_32_method_6_code, exceptionTable := #[], attributes := #[] }
def k18m1 : Method := { name := "hashCode", desc := "()I", sig := { parameters := [], returnType := some .int }, accessFlags := 1, code := some k18c1 }
/-- com/example/headings_from_text/headingsfromtext/vocabulary/Concept -/
def k18 : Class := { plain "com/example/headings_from_text/headingsfromtext/vocabulary/Concept" (some 0) with
  accessFlags := 33
  interfaces := #[]
  cf := some (fileOf pool18 38 #[] #[{ accessFlags := 1, nameIndex := 5, descriptorIndex := 88, attributes := #[] }, { accessFlags := 1, nameIndex := 96, descriptorIndex := 97, attributes := #[] }] 33 2 #[] #[{ accessFlags := 18, nameIndex := 41, descriptorIndex := 42, attributes := #[] }, { accessFlags := 18, nameIndex := 45, descriptorIndex := 46, attributes := #[] }, { accessFlags := 18, nameIndex := 53, descriptorIndex := 54, attributes := #[] }])
  fields := #[{ name := "ui", type := (.object "java/lang/String"), accessFlags := 18, slot := 0, constantValue := 0 }, { name := "preferred", type := .boolean, accessFlags := 18, slot := 1, constantValue := 0 }, { name := "terms", type := (.object "java/util/List"), accessFlags := 18, slot := 2, constantValue := 0 }]
  methods := #[k18m0, k18m1]
  instanceTypes := #[(.object "java/lang/String"), .boolean, (.object "java/util/List")]
  staticTypes := #[]
  resolved := Array.replicate 118 none
  statics := none }

def pool19 : Array CpInfo := pool [(16, .class_ 18), (1, u "java/util/Iterator"), (0, u "hasNext"), (0, u "()Z"), (2, u "next"), (0, u "()Ljava/lang/Object;"), (6, .class_ 32), (0, u "java/lang/Object")] 20

def k19m0 : Method := { name := "hasNext", desc := "()Z", sig := { parameters := [], returnType := some .boolean }, accessFlags := 1025, code := none }
def k19m1 : Method := { name := "next", desc := "()Ljava/lang/Object;", sig := { parameters := [], returnType := some (.object "java/lang/Object") }, accessFlags := 1025, code := none }
/-- java/util/Iterator -/
def k19 : Class := { plain "java/util/Iterator" (some 0) with
  accessFlags := 1537
  interfaces := #[]
  cf := some (fileOf pool19 16 #[] #[{ accessFlags := 1025, nameIndex := 19, descriptorIndex := 20, attributes := #[] }, { accessFlags := 1025, nameIndex := 23, descriptorIndex := 24, attributes := #[] }] 1537 31 #[] #[])
  fields := #[]
  methods := #[k19m0, k19m1]
  instanceTypes := #[]
  staticTypes := #[]
  resolved := Array.replicate 53 none
  statics := none }

def pool20 : Array CpInfo := pool [(1, .fieldref 2 3), (0, .class_ 4), (0, .nameAndType 5 6), (0, u "java/util/ArrayList$Itr"), (0, u "this$0"), (0, u "Ljava/util/ArrayList;"), (0, .methodref 8 9), (0, .class_ 10), (0, .nameAndType 11 12), (0, u "java/lang/Object"), (0, u "<init>"), (0, u "()V"), (0, .fieldref 2 14), (0, .nameAndType 15 16), (0, u "lastRet"), (0, u "I"), (0, .fieldref 18 19), (0, .class_ 20), (0, .nameAndType 21 16), (0, u "java/util/ArrayList"), (0, u "modCount"), (0, .fieldref 2 23), (0, .nameAndType 24 16), (0, u "expectedModCount"), (0, .fieldref 2 26), (0, .nameAndType 27 16), (0, u "cursor"), (0, .fieldref 18 29), (0, .nameAndType 30 16), (0, u "size"), (0, .methodref 2 32), (0, .nameAndType 33 12), (0, u "checkForComodification"), (3, .fieldref 18 38), (0, .nameAndType 39 40), (0, u "elementData"), (0, u "[Ljava/lang/Object;"), (28, .class_ 70), (0, u "java/util/Iterator"), (0, u "(Ljava/util/ArrayList;)V"), (8, u "hasNext"), (0, u "()Z"), (1, u "next"), (0, u "()Ljava/lang/Object;")] 19

def k20c0 : Code := { maxStack := 2, maxLocals := 2, code := jdk_49_method_1_code, exceptionTable := #[], attributes := #[] }
def k20m0 : Method := { name := "<init>", desc := "(Ljava/util/ArrayList;)V", sig := { parameters := [(.object "java/util/ArrayList")], returnType := none }, accessFlags := 0, code := some k20c0 }
def k20c1 : Code := { maxStack := 2, maxLocals := 1, code := jdk_49_method_2_code, exceptionTable := #[], attributes := #[] }
def k20m1 : Method := { name := "hasNext", desc := "()Z", sig := { parameters := [], returnType := some .boolean }, accessFlags := 1, code := some k20c1 }
def k20c2 : Code := { maxStack := 4, maxLocals := 3, code := jdk_49_method_3_code, exceptionTable := #[], attributes := #[] }
def k20m2 : Method := { name := "next", desc := "()Ljava/lang/Object;", sig := { parameters := [], returnType := some (.object "java/lang/Object") }, accessFlags := 1, code := some k20c2 }
def k20c3 : Code := { maxStack := 2, maxLocals := 1, code := jdk_49_method_6_code, exceptionTable := #[], attributes := #[] }
def k20m3 : Method := { name := "checkForComodification", desc := "()V", sig := { parameters := [], returnType := none }, accessFlags := 16, code := some k20c3 }
/-- java/util/ArrayList$Itr -/
def k20 : Class := { plain "java/util/ArrayList$Itr" (some 0) with
  accessFlags := 32
  interfaces := #[19]
  cf := some (fileOf pool20 2 #[.nestHost 18] #[{ accessFlags := 0, nameIndex := 11, descriptorIndex := 71, attributes := #[] }, { accessFlags := 1, nameIndex := 80, descriptorIndex := 81, attributes := #[] }, { accessFlags := 1, nameIndex := 83, descriptorIndex := 84, attributes := #[] }, { accessFlags := 16, nameIndex := 33, descriptorIndex := 12, attributes := #[] }] 32 8 #[69] #[{ accessFlags := 0, nameIndex := 27, descriptorIndex := 16, attributes := #[] }, { accessFlags := 0, nameIndex := 15, descriptorIndex := 16, attributes := #[] }, { accessFlags := 0, nameIndex := 24, descriptorIndex := 16, attributes := #[] }, { accessFlags := 4112, nameIndex := 5, descriptorIndex := 6, attributes := #[] }])
  fields := #[{ name := "cursor", type := .int, accessFlags := 0, slot := 0, constantValue := 0 }, { name := "lastRet", type := .int, accessFlags := 0, slot := 1, constantValue := 0 }, { name := "expectedModCount", type := .int, accessFlags := 0, slot := 2, constantValue := 0 }, { name := "this$0", type := (.object "java/util/ArrayList"), accessFlags := 4112, slot := 3, constantValue := 0 }]
  methods := #[k20m0, k20m1, k20m2, k20m3]
  instanceTypes := #[.int, .int, .int, (.object "java/util/ArrayList")]
  staticTypes := #[]
  resolved := Array.replicate 104 none
  statics := none }

def pool21 : Array CpInfo := pool [(2, .class_ 4), (1, u "java/lang/Object"), (0, u "<init>"), (0, u "()V"), (3, .class_ 11), (0, u "java/util/ImmutableCollections$List12"), (0, .class_ 13), (0, u "java/util/ImmutableCollections$ListN"), (3, u "Z"), (0, .class_ 19), (0, u "java/util/List"), (0, .interfaceMethodref 21 22), (0, .class_ 23), (0, .nameAndType 24 25), (0, u "java/util/Collection"), (0, u "isEmpty"), (0, u "()Z"), (0, .interfaceMethodref 18 27), (0, .nameAndType 28 29), (0, u "of"), (0, u "()Ljava/util/List;"), (0, .interfaceMethodref 21 31), (0, .nameAndType 32 33), (0, u "toArray"), (0, u "()[Ljava/lang/Object;"), (0, .interfaceMethodref 18 35), (0, .nameAndType 28 36), (0, u "([Ljava/lang/Object;)Ljava/util/List;"), (10, .class_ 49), (1, u "java/util/ImmutableCollections"), (0, u "$assertionsDisabled"), (5, u "[Ljava/lang/Object;"), (5, u "EMPTY_LIST"), (0, u "Ljava/util/ImmutableCollections$ListN;"), (8, u "EMPTY_LIST_NULLS"), (22, u "SALT32L"), (0, u "J"), (2, u "REVERSE"), (6, u "archivedObjects"), (2, u "EMPTY"), (0, u "Ljava/lang/Object;"), (0, .class_ 112), (0, u "java/util/ImmutableCollections$SetN"), (5, u "EMPTY_SET"), (0, u "Ljava/util/ImmutableCollections$SetN;"), (0, .class_ 121), (0, u "java/util/ImmutableCollections$MapN"), (3, u "EMPTY_MAP"), (0, u "Ljava/util/ImmutableCollections$MapN;"), (4, u "EXPAND_FACTOR"), (0, u "I"), (9, u "listCopy"), (0, u "(Ljava/util/Collection;)Ljava/util/List;"), (25, .class_ 170), (0, u "java/util/ImmutableCollections$MapN$MapNIterator"), (0, .class_ 172), (0, u "java/util/ImmutableCollections$MapN$1"), (0, .class_ 174), (0, u "java/util/ImmutableCollections$Map1"), (0, .class_ 176), (0, u "java/util/ImmutableCollections$AbstractImmutableMap"), (0, .class_ 178), (0, u "java/util/ImmutableCollections$SetN$SetNIterator"), (0, .class_ 180), (0, u "java/util/ImmutableCollections$Set12"), (0, .class_ 182), (0, u "java/util/ImmutableCollections$Set12$1"), (0, .class_ 184), (0, u "java/util/ImmutableCollections$AbstractImmutableSet"), (0, .class_ 186), (0, u "java/util/ImmutableCollections$SubList"), (0, .class_ 188), (0, u "java/util/ImmutableCollections$ListItr"), (0, .class_ 190), (0, u "java/util/ImmutableCollections$AbstractImmutableList"), (0, .class_ 192), (0, u "java/util/ImmutableCollections$AbstractImmutableCollection"), (0, .class_ 194), (0, u "java/util/ImmutableCollections$Access"), (0, .class_ 196), (0, u "java/util/ImmutableCollections$Access$1")] 16

def k21m0 : Method := { name := "<init>", desc := "()V", sig := { parameters := [], returnType := none }, accessFlags := 2, code := none }
def k21c1 : Code := { maxStack := 1, maxLocals := 2, code := jdk_56_method_3_code, exceptionTable := #[], attributes := #[] }
def k21m1 : Method := { name := "listCopy", desc := "(Ljava/util/Collection;)Ljava/util/List;", sig := { parameters := [(.object "java/util/Collection")], returnType := some (.object "java/util/List") }, accessFlags := 8, code := some k21c1 }
/-- java/util/ImmutableCollections -/
def k21 : Class := { plain "java/util/ImmutableCollections" (some 0) with
  accessFlags := 32
  interfaces := #[]
  cf := some (fileOf pool21 47 #[.nestMembers #[120, 169, 171, 173, 175, 111, 177, 179, 181, 183, 12, 10, 185, 187, 189, 191, 193, 195]] #[{ accessFlags := 2, nameIndex := 5, descriptorIndex := 6, attributes := #[] }, { accessFlags := 8, nameIndex := 142, descriptorIndex := 143, attributes := #[] }] 32 2 #[] #[{ accessFlags := 26, nameIndex := 95, descriptorIndex := 96, attributes := #[] }, { accessFlags := 26, nameIndex := 99, descriptorIndex := 17, attributes := #[] }, { accessFlags := 10, nameIndex := 106, descriptorIndex := 56, attributes := #[] }, { accessFlags := 26, nameIndex := 109, descriptorIndex := 110, attributes := #[] }, { accessFlags := 24, nameIndex := 62, descriptorIndex := 63, attributes := #[] }, { accessFlags := 24, nameIndex := 72, descriptorIndex := 63, attributes := #[] }, { accessFlags := 24, nameIndex := 118, descriptorIndex := 119, attributes := #[] }, { accessFlags := 24, nameIndex := 125, descriptorIndex := 126, attributes := #[] }, { accessFlags := 24, nameIndex := 131, descriptorIndex := 132, attributes := #[] }, { accessFlags := 4120, nameIndex := 50, descriptorIndex := 17, attributes := #[] }])
  fields := #[{ name := "SALT32L", type := .long, accessFlags := 26, slot := 0, constantValue := 0 }, { name := "REVERSE", type := .boolean, accessFlags := 26, slot := 1, constantValue := 0 }, { name := "archivedObjects", type := (.array (.object "java/lang/Object")), accessFlags := 10, slot := 2, constantValue := 0 }, { name := "EMPTY", type := (.object "java/lang/Object"), accessFlags := 26, slot := 3, constantValue := 0 }, { name := "EMPTY_LIST", type := (.object "java/util/ImmutableCollections$ListN"), accessFlags := 24, slot := 4, constantValue := 0 }, { name := "EMPTY_LIST_NULLS", type := (.object "java/util/ImmutableCollections$ListN"), accessFlags := 24, slot := 5, constantValue := 0 }, { name := "EMPTY_SET", type := (.object "java/util/ImmutableCollections$SetN"), accessFlags := 24, slot := 6, constantValue := 0 }, { name := "EMPTY_MAP", type := (.object "java/util/ImmutableCollections$MapN"), accessFlags := 24, slot := 7, constantValue := 0 }, { name := "EXPAND_FACTOR", type := .int, accessFlags := 24, slot := 8, constantValue := 0 }, { name := "$assertionsDisabled", type := .boolean, accessFlags := 4120, slot := 9, constantValue := 0 }]
  methods := #[k21m0, k21m1]
  instanceTypes := #[]
  staticTypes := #[.long, .boolean, (.array (.object "java/lang/Object")), (.object "java/lang/Object"), (.object "java/util/ImmutableCollections$ListN"), (.object "java/util/ImmutableCollections$ListN"), (.object "java/util/ImmutableCollections$SetN"), (.object "java/util/ImmutableCollections$MapN"), .int, .boolean]
  resolved := Array.replicate 213 none
  statics := some 2 }

def pool22 : Array CpInfo := pool [(1, .methodref 2 3), (0, .class_ 4), (0, .nameAndType 5 6), (0, u "java/util/AbstractCollection"), (0, u "<init>"), (0, u "()V"), (1, .class_ 10), (1, u "java/util/ImmutableCollections"), (2, .class_ 14), (0, u "java/util/ImmutableCollections$AbstractImmutableCollection")] 41

def k22c0 : Code := { maxStack := 1, maxLocals := 1, code := jdk_47_method_1_code, exceptionTable := #[], attributes := #[] }
def k22m0 : Method := { name := "<init>", desc := "()V", sig := { parameters := [], returnType := none }, accessFlags := 0, code := some k22c0 }
/-- java/util/ImmutableCollections$AbstractImmutableCollection -/
def k22 : Class := { plain "java/util/ImmutableCollections$AbstractImmutableCollection" (some 11) with
  accessFlags := 1056
  interfaces := #[]
  cf := some (fileOf pool22 13 #[.nestHost 8] #[{ accessFlags := 0, nameIndex := 5, descriptorIndex := 6, attributes := #[] }] 1056 2 #[] #[])
  fields := #[]
  methods := #[k22m0]
  instanceTypes := #[]
  staticTypes := #[]
  resolved := Array.replicate 56 none
  statics := none }

def pool23 : Array CpInfo := pool [(1, .methodref 2 3), (0, .class_ 4), (0, .nameAndType 5 6), (0, u "java/util/ImmutableCollections$AbstractImmutableCollection"), (0, u "<init>"), (0, u "()V"), (1, .class_ 10), (1, u "java/util/ImmutableCollections"), (2, .methodref 14 15), (0, .class_ 16), (0, .nameAndType 17 18), (0, u "java/util/ImmutableCollections$AbstractImmutableList"), (0, u "size"), (0, u "()I"), (58, .class_ 78), (0, u "java/util/List"), (10, .methodref 14 90), (0, .nameAndType 91 92), (0, u "get"), (0, u "(I)Ljava/lang/Object;"), (5, .class_ 100), (1, u "java/util/Objects"), (2, .methodref 98 104), (0, .nameAndType 105 106), (0, u "hashCode"), (0, u "(Ljava/lang/Object;)I"), (17, .class_ 125), (0, u "java/util/RandomAccess")] 70

def k23c0 : Code := { maxStack := 1, maxLocals := 1, code := jdk_46_method_1_code, exceptionTable := #[], attributes := #[] }
def k23m0 : Method := { name := "<init>", desc := "()V", sig := { parameters := [], returnType := none }, accessFlags := 0, code := some k23c0 }
def k23c1 : Code := { maxStack := 3, maxLocals := 4, code := jdk_46_method_14_code, exceptionTable := #[], attributes := #[] }
def k23m1 : Method := { name := "hashCode", desc := "()I", sig := { parameters := [], returnType := some .int }, accessFlags := 1, code := some k23c1 }
/-- java/util/ImmutableCollections$AbstractImmutableList -/
def k23 : Class := { plain "java/util/ImmutableCollections$AbstractImmutableList" (some 22) with
  accessFlags := 1056
  interfaces := #[13, 15]
  cf := some (fileOf pool23 14 #[.nestHost 8] #[{ accessFlags := 0, nameIndex := 5, descriptorIndex := 6, attributes := #[] }, { accessFlags := 1, nameIndex := 105, descriptorIndex := 18, attributes := #[] }] 1056 2 #[77, 124] #[])
  fields := #[]
  methods := #[k23m0, k23m1]
  instanceTypes := #[]
  staticTypes := #[]
  resolved := Array.replicate 196 none
  statics := none }

def pool24 : Array CpInfo := pool [(1, .methodref 2 3), (0, .class_ 4), (0, .nameAndType 5 6), (0, u "java/util/ImmutableCollections$AbstractImmutableList"), (0, u "<init>"), (0, u "()V"), (0, .methodref 8 9), (0, .class_ 10), (0, .nameAndType 11 12), (0, u "java/util/Objects"), (0, u "requireNonNull"), (0, u "(Ljava/lang/Object;)Ljava/lang/Object;"), (0, .fieldref 14 15), (0, .class_ 16), (0, .nameAndType 17 18), (0, u "java/util/ImmutableCollections$List12"), (0, u "e0"), (0, u "Ljava/lang/Object;"), (0, .fieldref 20 21), (0, .class_ 22), (0, .nameAndType 23 18), (0, u "java/util/ImmutableCollections"), (0, u "EMPTY"), (0, .fieldref 14 25), (0, .nameAndType 26 18), (0, u "e1"), (24, u "size"), (0, u "()I"), (17, .class_ 71), (0, u "java/io/Serializable"), (4, u "(Ljava/lang/Object;)V"), (8, u "(Ljava/lang/Object;Ljava/lang/Object;)V"), (4, u "get"), (0, u "(I)Ljava/lang/Object;")] 33

def k24c0 : Code := { maxStack := 2, maxLocals := 2, code := jdk_44_method_1_code, exceptionTable := #[], attributes := #[] }
def k24m0 : Method := { name := "<init>", desc := "(Ljava/lang/Object;)V", sig := { parameters := [(.object "java/lang/Object")], returnType := none }, accessFlags := 0, code := some k24c0 }
def k24c1 : Code := { maxStack := 2, maxLocals := 3, code := jdk_44_method_2_code, exceptionTable := #[], attributes := #[] }
def k24m1 : Method := { name := "<init>", desc := "(Ljava/lang/Object;Ljava/lang/Object;)V", sig := { parameters := [(.object "java/lang/Object"), (.object "java/lang/Object")], returnType := none }, accessFlags := 0, code := some k24c1 }
def k24c2 : Code := { maxStack := 2, maxLocals := 1, code := jdk_44_method_3_code, exceptionTable := #[], attributes := #[] }
def k24m2 : Method := { name := "size", desc := "()I", sig := { parameters := [], returnType := some .int }, accessFlags := 1, code := some k24c2 }
def k24c3 : Code := { maxStack := 2, maxLocals := 2, code := jdk_44_method_5_code, exceptionTable := #[], attributes := #[] }
def k24m3 : Method := { name := "get", desc := "(I)Ljava/lang/Object;", sig := { parameters := [.int], returnType := some (.object "java/lang/Object") }, accessFlags := 1, code := some k24c3 }
/-- java/util/ImmutableCollections$List12 -/
def k24 : Class := { plain "java/util/ImmutableCollections$List12" (some 23) with
  accessFlags := 48
  interfaces := #[2]
  cf := some (fileOf pool24 14 #[.nestHost 20] #[{ accessFlags := 0, nameIndex := 5, descriptorIndex := 76, attributes := #[] }, { accessFlags := 0, nameIndex := 5, descriptorIndex := 85, attributes := #[] }, { accessFlags := 1, nameIndex := 51, descriptorIndex := 52, attributes := #[] }, { accessFlags := 1, nameIndex := 90, descriptorIndex := 91, attributes := #[] }] 48 2 #[70] #[{ accessFlags := 18, nameIndex := 17, descriptorIndex := 18, attributes := #[] }, { accessFlags := 18, nameIndex := 26, descriptorIndex := 18, attributes := #[] }])
  fields := #[{ name := "e0", type := (.object "java/lang/Object"), accessFlags := 18, slot := 0, constantValue := 0 }, { name := "e1", type := (.object "java/lang/Object"), accessFlags := 18, slot := 1, constantValue := 0 }]
  methods := #[k24m0, k24m1, k24m2, k24m3]
  instanceTypes := #[(.object "java/lang/Object"), (.object "java/lang/Object")]
  staticTypes := #[]
  resolved := Array.replicate 125 none
  statics := none }

def pool25 : Array CpInfo := pool [(2, .class_ 4), (1, u "java/util/ImmutableCollections$AbstractImmutableList"), (2, .fieldref 8 9), (0, .class_ 10), (0, .nameAndType 11 12), (0, u "java/util/ImmutableCollections$ListN"), (0, u "elements"), (0, u "[Ljava/lang/Object;"), (2, u "allowNulls"), (0, u "Z"), (42, .class_ 60), (0, u "java/io/Serializable"), (16, u "size"), (0, u "()I"), (35, .class_ 115), (0, u "java/util/ImmutableCollections")] 3

def k25c0 : Code := { maxStack := 1, maxLocals := 1, code := jdk_45_method_3_code, exceptionTable := #[], attributes := #[] }
def k25m0 : Method := { name := "size", desc := "()I", sig := { parameters := [], returnType := some .int }, accessFlags := 1, code := some k25c0 }
/-- java/util/ImmutableCollections$ListN -/
def k25 : Class := { plain "java/util/ImmutableCollections$ListN" (some 23) with
  accessFlags := 48
  interfaces := #[2]
  cf := some (fileOf pool25 8 #[.nestHost 114] #[{ accessFlags := 1, nameIndex := 77, descriptorIndex := 78, attributes := #[] }] 48 2 #[59] #[{ accessFlags := 18, nameIndex := 11, descriptorIndex := 12, attributes := #[] }, { accessFlags := 18, nameIndex := 15, descriptorIndex := 16, attributes := #[] }])
  fields := #[{ name := "elements", type := (.array (.object "java/lang/Object")), accessFlags := 18, slot := 0, constantValue := 0 }, { name := "allowNulls", type := .boolean, accessFlags := 18, slot := 1, constantValue := 0 }]
  methods := #[k25m0]
  instanceTypes := #[(.array (.object "java/lang/Object")), .boolean]
  staticTypes := #[]
  resolved := Array.replicate 119 none
  statics := none }

def pool26 : Array CpInfo := pool [(2, .class_ 4), (1, u "java/lang/Object"), (2, .fieldref 8 9), (0, .class_ 10), (0, .nameAndType 11 12), (0, u "java/lang/Boolean"), (0, u "value"), (0, u "Z"), (14, .fieldref 8 28), (0, .nameAndType 29 30), (0, u "TRUE"), (0, u "Ljava/lang/Boolean;"), (0, .fieldref 8 32), (0, .nameAndType 33 30), (0, u "FALSE"), (2, u "valueOf"), (1, .methodref 8 39), (0, .nameAndType 40 41), (0, u "hashCode"), (0, u "(Z)I"), (45, u "TYPE"), (0, u "Ljava/lang/Class;"), (0, .class_ 90), (0, u "java/io/Serializable"), (0, .class_ 92), (0, u "java/lang/Comparable"), (0, .class_ 94), (0, u "java/lang/constant/Constable"), (2, u "serialVersionUID"), (0, u "J"), (18, u "(Z)Ljava/lang/Boolean;"), (5, u "()I")] 28

def k26c0 : Code := { maxStack := 1, maxLocals := 1, code := jdk_2055_method_5_code, exceptionTable := #[], attributes := #[] }
def k26m0 : Method := { name := "valueOf", desc := "(Z)Ljava/lang/Boolean;", sig := { parameters := [.boolean], returnType := some (.object "java/lang/Boolean") }, accessFlags := 9, code := some k26c0 }
def k26c1 : Code := { maxStack := 1, maxLocals := 1, code := jdk_2055_method_9_code, exceptionTable := #[], attributes := #[] }
def k26m1 : Method := { name := "hashCode", desc := "()I", sig := { parameters := [], returnType := some .int }, accessFlags := 1, code := some k26c1 }
def k26c2 : Code := { maxStack := 1, maxLocals := 1, code := jdk_2055_method_10_code, exceptionTable := #[], attributes := #[] }
def k26m2 : Method := { name := "hashCode", desc := "(Z)I", sig := { parameters := [.boolean], returnType := some .int }, accessFlags := 9, code := some k26c2 }
/-- java/lang/Boolean -/
def k26 : Class := { plain "java/lang/Boolean" (some 0) with
  accessFlags := 49
  interfaces := #[2, 3, 5]
  cf := some (fileOf pool26 8 #[] #[{ accessFlags := 9, nameIndex := 36, descriptorIndex := 117, attributes := #[] }, { accessFlags := 1, nameIndex := 40, descriptorIndex := 123, attributes := #[] }, { accessFlags := 9, nameIndex := 40, descriptorIndex := 41, attributes := #[] }] 49 2 #[89, 91, 93] #[{ accessFlags := 25, nameIndex := 29, descriptorIndex := 30, attributes := #[] }, { accessFlags := 25, nameIndex := 33, descriptorIndex := 30, attributes := #[] }, { accessFlags := 25, nameIndex := 87, descriptorIndex := 88, attributes := #[] }, { accessFlags := 18, nameIndex := 11, descriptorIndex := 12, attributes := #[] }, { accessFlags := 26, nameIndex := 97, descriptorIndex := 98, attributes := #[] }])
  fields := #[{ name := "TRUE", type := (.object "java/lang/Boolean"), accessFlags := 25, slot := 0, constantValue := 0 }, { name := "FALSE", type := (.object "java/lang/Boolean"), accessFlags := 25, slot := 1, constantValue := 0 }, { name := "TYPE", type := (.object "java/lang/Class"), accessFlags := 25, slot := 2, constantValue := 0 }, { name := "value", type := .boolean, accessFlags := 18, slot := 0, constantValue := 0 }, { name := "serialVersionUID", type := .long, accessFlags := 26, slot := 3, constantValue := 0 }]
  methods := #[k26m0, k26m1, k26m2]
  instanceTypes := #[.boolean]
  staticTypes := #[(.object "java/lang/Boolean"), (.object "java/lang/Boolean"), (.object "java/lang/Class"), .long]
  resolved := Array.replicate 152 none
  statics := some 3 }

def pool27 : Array CpInfo := pool [(2, .class_ 4), (1, u "java/lang/Object"), (0, u "<init>"), (0, u "()V"), (12, .class_ 21), (1, u "java/util/Arrays"), (2, .methodref 2 25), (0, .nameAndType 26 27), (0, u "hashCode"), (0, u "()I"), (0, .methodref 19 29), (0, .nameAndType 26 30), (0, u "([Ljava/lang/Object;)I"), (11, .class_ 44), (1, u "java/util/Objects"), (0, u "requireNonNull"), (0, u "(Ljava/lang/Object;)Ljava/lang/Object;"), (23, u "(Ljava/lang/Object;)I"), (66, u "hash")] 46

def k27m0 : Method := { name := "<init>", desc := "()V", sig := { parameters := [], returnType := none }, accessFlags := 2, code := none }
def k27c1 : Code := { maxStack := 1, maxLocals := 1, code := jdk_31_method_4_code, exceptionTable := #[], attributes := #[] }
def k27m1 : Method := { name := "hashCode", desc := "(Ljava/lang/Object;)I", sig := { parameters := [(.object "java/lang/Object")], returnType := some .int }, accessFlags := 9, code := some k27c1 }
def k27c2 : Code := { maxStack := 1, maxLocals := 1, code := jdk_31_method_5_code, exceptionTable := #[], attributes := #[] }
def k27m2 : Method := { name := "hash", desc := "([Ljava/lang/Object;)I", sig := { parameters := [(.array (.object "java/lang/Object"))], returnType := some .int }, accessFlags := 137, code := some k27c2 }
def k27c3 : Code := { maxStack := 2, maxLocals := 1, code := jdk_31_method_10_code, exceptionTable := #[], attributes := #[] }
def k27m3 : Method := { name := "requireNonNull", desc := "(Ljava/lang/Object;)Ljava/lang/Object;", sig := { parameters := [(.object "java/lang/Object")], returnType := some (.object "java/lang/Object") }, accessFlags := 9, code := some k27c3 }
/-- java/util/Objects -/
def k27 : Class := { plain "java/util/Objects" (some 0) with
  accessFlags := 49
  interfaces := #[]
  cf := some (fileOf pool27 42 #[] #[{ accessFlags := 2, nameIndex := 5, descriptorIndex := 6, attributes := #[] }, { accessFlags := 9, nameIndex := 26, descriptorIndex := 70, attributes := #[] }, { accessFlags := 137, nameIndex := 137, descriptorIndex := 30, attributes := #[] }, { accessFlags := 9, nameIndex := 45, descriptorIndex := 46, attributes := #[] }] 49 2 #[] #[])
  fields := #[]
  methods := #[k27m0, k27m1, k27m2, k27m3]
  instanceTypes := #[]
  staticTypes := #[]
  resolved := Array.replicate 184 none
  statics := none }

def pool28 : Array CpInfo := pool [(2, .class_ 4), (1, u "java/lang/Object"), (0, u "<init>"), (0, u "()V"), (7, .class_ 16), (1, u "java/util/Arrays"), (25, u "()I"), (31, .class_ 76), (1, u "java/util/Arrays$NaturalOrder"), (9, .methodref 2 87), (0, .nameAndType 88 89), (0, u "getClass"), (0, u "()Ljava/lang/Class;"), (20, .class_ 111), (0, u "[Ljava/lang/Object;"), (1, .class_ 115), (1, u "java/util/Arrays$LegacyMergeSort"), (1, u "Z"), (32, .methodref 151 152), (0, .class_ 153), (0, .nameAndType 154 155), (0, u "java/lang/System"), (0, u "arraycopy"), (0, u "(Ljava/lang/Object;ILjava/lang/Object;II)V"), (144, .methodref 14 301), (0, .nameAndType 302 303), (0, u "copyOf"), (0, u "([Ljava/lang/Object;ILjava/lang/Class;)[Ljava/lang/Object;"), (0, .methodref 305 306), (0, .class_ 307), (0, .nameAndType 308 309), (0, u "java/lang/Math"), (0, u "min"), (0, u "(II)I"), (65, .class_ 376), (0, u "java/util/Arrays$ArrayList"), (6, .methodref 2 384), (0, .nameAndType 385 42), (0, u "hashCode"), (3, u "([Ljava/lang/Object;)I"), (55, u "$assertionsDisabled"), (269, u "MIN_ARRAY_SORT_GRAN"), (0, u "I"), (2, u "INSERTIONSORT_THRESHOLD"), (140, u "([Ljava/lang/Object;I)[Ljava/lang/Object;"), (114, .class_ 976), (0, u "java/util/Arrays$ArrayItr")] 52

def k28m0 : Method := { name := "<init>", desc := "()V", sig := { parameters := [], returnType := none }, accessFlags := 2, code := none }
def k28c1 : Code := { maxStack := 3, maxLocals := 2, code := jdk_65_method_119_code, exceptionTable := #[], attributes := #[] }
def k28m1 : Method := { name := "copyOf", desc := "([Ljava/lang/Object;I)[Ljava/lang/Object;", sig := { parameters := [(.array (.object "java/lang/Object")), .int], returnType := some (.array (.object "java/lang/Object")) }, accessFlags := 9, code := some k28c1 }
def k28c2 : Code := { maxStack := 6, maxLocals := 4, code := jdk_65_method_120_code, exceptionTable := #[], attributes := #[] }
def k28m2 : Method := { name := "copyOf", desc := "([Ljava/lang/Object;ILjava/lang/Class;)[Ljava/lang/Object;", sig := { parameters := [(.array (.object "java/lang/Object")), .int, (.object "java/lang/Class")], returnType := some (.array (.object "java/lang/Object")) }, accessFlags := 9, code := some k28c2 }
def k28c3 : Code := { maxStack := 2, maxLocals := 6, code := jdk_65_method_157_code, exceptionTable := #[], attributes := #[] }
def k28m3 : Method := { name := "hashCode", desc := "([Ljava/lang/Object;)I", sig := { parameters := [(.array (.object "java/lang/Object"))], returnType := some .int }, accessFlags := 9, code := some k28c3 }
/-- java/util/Arrays -/
def k28 : Class := { plain "java/util/Arrays" (some 0) with
  accessFlags := 49
  interfaces := #[]
  cf := some (fileOf pool28 14 #[.nestMembers #[975, 375, 113, 74]] #[{ accessFlags := 2, nameIndex := 5, descriptorIndex := 6, attributes := #[] }, { accessFlags := 9, nameIndex := 302, descriptorIndex := 860, attributes := #[] }, { accessFlags := 9, nameIndex := 302, descriptorIndex := 303, attributes := #[] }, { accessFlags := 9, nameIndex := 385, descriptorIndex := 389, attributes := #[] }] 49 2 #[] #[{ accessFlags := 26, nameIndex := 715, descriptorIndex := 716, attributes := #[] }, { accessFlags := 26, nameIndex := 719, descriptorIndex := 716, attributes := #[] }, { accessFlags := 4120, nameIndex := 445, descriptorIndex := 117, attributes := #[] }])
  fields := #[{ name := "MIN_ARRAY_SORT_GRAN", type := .int, accessFlags := 26, slot := 0, constantValue := 0 }, { name := "INSERTIONSORT_THRESHOLD", type := .int, accessFlags := 26, slot := 1, constantValue := 0 }, { name := "$assertionsDisabled", type := .boolean, accessFlags := 4120, slot := 2, constantValue := 0 }]
  methods := #[k28m0, k28m1, k28m2, k28m3]
  instanceTypes := #[]
  staticTypes := #[.int, .int, .boolean]
  resolved := Array.replicate 1029 none
  statics := none }

def pool29 : Array CpInfo := pool [(6, .class_ 8), (1, u "java/lang/Object"), (0, u "<init>"), (0, u "()V"), (1, .class_ 14), (1, u "java/lang/StringUTF16"), (31, u "$assertionsDisabled"), (0, u "Z"), (13, u "HI_BYTE_SHIFT"), (0, u "I"), (2, u "LO_BYTE_SHIFT"), (49, .methodref 12 116), (0, .nameAndType 117 118), (0, u "compress"), (0, u "([CI[BII)I"), (3, u "([CII)[B"), (138, u "coderFromArrayLen"), (0, u "([BI)B"), (106, .class_ 371), (1, u "java/lang/StringUTF16$LinesSpliterator"), (58, u "MAX_LENGTH"), (196, .class_ 628), (0, u "java/lang/StringUTF16$CodePointsSpliterator"), (0, .class_ 630), (0, u "java/lang/StringUTF16$CharsSpliterator")] 4

def k29m0 : Method := { name := "<init>", desc := "()V", sig := { parameters := [], returnType := none }, accessFlags := 0, code := none }
def k29c1 : Code := { maxStack := 2, maxLocals := 2, code := jdk_52_method_15_code, exceptionTable := #[], attributes := #[] }
def k29m1 : Method := { name := "coderFromArrayLen", desc := "([BI)B", sig := { parameters := [(.array .byte), .int], returnType := some .byte }, accessFlags := 8, code := some k29c1 }
def k29c2 : Code := { maxStack := 5, maxLocals := 6, code := jdk_52_method_16_code, exceptionTable := #[], attributes := #[] }
def k29m2 : Method := { name := "compress", desc := "([CII)[B", sig := { parameters := [(.array .char), .int, .int], returnType := some (.array .byte) }, accessFlags := 9, code := some k29c2 }
def k29c3 : Code := { maxStack := 3, maxLocals := 7, code := jdk_52_method_21_code, exceptionTable := #[], attributes := #[] }
def k29m3 : Method := { name := "compress", desc := "([CI[BII)I", sig := { parameters := [(.array .char), .int, (.array .byte), .int, .int], returnType := some .int }, accessFlags := 9, code := some k29c3 }
/-- java/lang/StringUTF16 -/
def k29 : Class := { plain "java/lang/StringUTF16" (some 0) with
  accessFlags := 48
  interfaces := #[]
  cf := some (fileOf pool29 12 #[.nestMembers #[627, 629, 369]] #[{ accessFlags := 0, nameIndex := 9, descriptorIndex := 10, attributes := #[] }, { accessFlags := 8, nameIndex := 261, descriptorIndex := 262, attributes := #[] }, { accessFlags := 9, nameIndex := 117, descriptorIndex := 122, attributes := #[] }, { accessFlags := 9, nameIndex := 117, descriptorIndex := 118, attributes := #[] }] 48 6 #[] #[{ accessFlags := 26, nameIndex := 61, descriptorIndex := 62, attributes := #[] }, { accessFlags := 26, nameIndex := 65, descriptorIndex := 62, attributes := #[] }, { accessFlags := 24, nameIndex := 430, descriptorIndex := 62, attributes := #[] }, { accessFlags := 4120, nameIndex := 46, descriptorIndex := 47, attributes := #[] }])
  fields := #[{ name := "HI_BYTE_SHIFT", type := .int, accessFlags := 26, slot := 0, constantValue := 0 }, { name := "LO_BYTE_SHIFT", type := .int, accessFlags := 26, slot := 1, constantValue := 0 }, { name := "MAX_LENGTH", type := .int, accessFlags := 24, slot := 2, constantValue := 0 }, { name := "$assertionsDisabled", type := .boolean, accessFlags := 4120, slot := 3, constantValue := 0 }]
  methods := #[k29m0, k29m1, k29m2, k29m3]
  instanceTypes := #[]
  staticTypes := #[.int, .int, .int, .boolean]
  resolved := Array.replicate 635 none
  statics := none }

def pool30 : Array CpInfo := pool [(1, .class_ 2), (0, u "java/lang/Math"), (1, .class_ 6), (1, u "java/lang/Object"), (0, u "<init>"), (0, u "()V"), (89, .class_ 100), (1, u "java/lang/Math$RandomNumberGeneratorHolder"), (71, u "negativeZeroFloatBits"), (0, u "J"), (2, u "negativeZeroDoubleBits"), (21, u "max"), (2, u "min"), (43, u "$assertionsDisabled"), (0, u "Z"), (88, u "(II)I"), (2, u "twoToTheDoubleScaleDown"), (0, u "D"), (4, u "twoToTheDoubleScaleUp"), (9, u "E"), (3, u "PI"), (2, u "TAU"), (2, u "DEGREES_TO_RADIANS"), (0, u "RADIANS_TO_DEGREES")] 94

def k30m0 : Method := { name := "<init>", desc := "()V", sig := { parameters := [], returnType := none }, accessFlags := 2, code := none }
def k30c1 : Code := { maxStack := 2, maxLocals := 2, code := jdk_29_method_65_code, exceptionTable := #[], attributes := #[] }
def k30m1 : Method := { name := "max", desc := "(II)I", sig := { parameters := [.int, .int], returnType := some .int }, accessFlags := 9, code := some k30c1 }
def k30c2 : Code := { maxStack := 2, maxLocals := 2, code := jdk_29_method_69_code, exceptionTable := #[], attributes := #[] }
def k30m2 : Method := { name := "min", desc := "(II)I", sig := { parameters := [.int, .int], returnType := some .int }, accessFlags := 9, code := some k30c2 }
/-- java/lang/Math -/
def k30 : Class := { plain "java/lang/Math" (some 0) with
  accessFlags := 49
  interfaces := #[]
  cf := some (fileOf pool30 1 #[.nestMembers #[98]] #[{ accessFlags := 2, nameIndex := 7, descriptorIndex := 8, attributes := #[] }, { accessFlags := 9, nameIndex := 198, descriptorIndex := 335, attributes := #[] }, { accessFlags := 9, nameIndex := 201, descriptorIndex := 335, attributes := #[] }] 49 4 #[] #[{ accessFlags := 25, nameIndex := 354, descriptorIndex := 339, attributes := #[] }, { accessFlags := 25, nameIndex := 358, descriptorIndex := 339, attributes := #[] }, { accessFlags := 25, nameIndex := 361, descriptorIndex := 339, attributes := #[] }, { accessFlags := 26, nameIndex := 364, descriptorIndex := 339, attributes := #[] }, { accessFlags := 26, nameIndex := 365, descriptorIndex := 339, attributes := #[] }, { accessFlags := 26, nameIndex := 172, descriptorIndex := 173, attributes := #[] }, { accessFlags := 26, nameIndex := 176, descriptorIndex := 173, attributes := #[] }, { accessFlags := 8, nameIndex := 344, descriptorIndex := 339, attributes := #[] }, { accessFlags := 8, nameIndex := 338, descriptorIndex := 339, attributes := #[] }, { accessFlags := 4120, nameIndex := 245, descriptorIndex := 246, attributes := #[] }])
  fields := #[{ name := "E", type := .double, accessFlags := 25, slot := 0, constantValue := 0 }, { name := "PI", type := .double, accessFlags := 25, slot := 1, constantValue := 0 }, { name := "TAU", type := .double, accessFlags := 25, slot := 2, constantValue := 0 }, { name := "DEGREES_TO_RADIANS", type := .double, accessFlags := 26, slot := 3, constantValue := 0 }, { name := "RADIANS_TO_DEGREES", type := .double, accessFlags := 26, slot := 4, constantValue := 0 }, { name := "negativeZeroFloatBits", type := .long, accessFlags := 26, slot := 5, constantValue := 0 }, { name := "negativeZeroDoubleBits", type := .long, accessFlags := 26, slot := 6, constantValue := 0 }, { name := "twoToTheDoubleScaleUp", type := .double, accessFlags := 8, slot := 7, constantValue := 0 }, { name := "twoToTheDoubleScaleDown", type := .double, accessFlags := 8, slot := 8, constantValue := 0 }, { name := "$assertionsDisabled", type := .boolean, accessFlags := 4120, slot := 9, constantValue := 0 }]
  methods := #[k30m0, k30m1, k30m2]
  instanceTypes := #[]
  staticTypes := #[.double, .double, .double, .double, .double, .long, .long, .double, .double, .boolean]
  resolved := Array.replicate 460 none
  statics := none }

def pool31 : Array CpInfo := pool [(2, .class_ 4), (1, u "java/lang/Object"), (0, u "<init>"), (0, u "()V"), (1, .class_ 10), (1, u "java/lang/CharacterData")] 75

def k31m0 : Method := { name := "<init>", desc := "()V", sig := { parameters := [], returnType := none }, accessFlags := 0, code := none }
/-- java/lang/CharacterData -/
def k31 : Class := { plain "java/lang/CharacterData" (some 0) with
  accessFlags := 1056
  interfaces := #[]
  cf := some (fileOf pool31 8 #[] #[{ accessFlags := 0, nameIndex := 5, descriptorIndex := 6, attributes := #[] }] 1056 2 #[] #[])
  fields := #[]
  methods := #[k31m0]
  instanceTypes := #[]
  staticTypes := #[]
  resolved := Array.replicate 86 none
  statics := none }

def pool32 : Array CpInfo := pool [(1, .fieldref 2 3), (0, .class_ 4), (0, .nameAndType 5 6), (0, u "java/lang/CharacterDataLatin1"), (0, u "A"), (0, u "[I"), (2, u "B"), (0, u "[C"), (3, u "(I)I"), (0, .methodref 2 16), (0, .nameAndType 17 14), (0, u "getProperties"), (3, u "(I)Z"), (5, u "DIGITS"), (0, u "[B"), (8, u "sharpsMap"), (1, .class_ 41), (1, u "java/lang/CharacterData"), (0, u "<init>"), (0, u "()V"), (3, u "instance"), (0, u "Ljava/lang/CharacterDataLatin1;"), (78, u "isWhitespace")] 13

def k32c0 : Code := { maxStack := 2, maxLocals := 4, code := jdk_116_method_1_code, exceptionTable := #[], attributes := #[] }
def k32m0 : Method := { name := "getProperties", desc := "(I)I", sig := { parameters := [.int], returnType := some .int }, accessFlags := 0, code := some k32c0 }
def k32c1 : Code := { maxStack := 2, maxLocals := 3, code := jdk_116_method_26_code, exceptionTable := #[], attributes := #[] }
def k32m1 : Method := { name := "isWhitespace", desc := "(I)Z", sig := { parameters := [.int], returnType := some .boolean }, accessFlags := 0, code := some k32c1 }
def k32m2 : Method := { name := "<init>", desc := "()V", sig := { parameters := [], returnType := none }, accessFlags := 2, code := none }
/-- java/lang/CharacterDataLatin1 -/
def k32 : Class := { plain "java/lang/CharacterDataLatin1" (some 31) with
  accessFlags := 32
  interfaces := #[]
  cf := some (fileOf pool32 2 #[] #[{ accessFlags := 0, nameIndex := 17, descriptorIndex := 14, attributes := #[] }, { accessFlags := 0, nameIndex := 127, descriptorIndex := 21, attributes := #[] }, { accessFlags := 2, nameIndex := 42, descriptorIndex := 43, attributes := #[] }] 32 39 #[] #[{ accessFlags := 26, nameIndex := 27, descriptorIndex := 28, attributes := #[] }, { accessFlags := 8, nameIndex := 37, descriptorIndex := 10, attributes := #[] }, { accessFlags := 24, nameIndex := 47, descriptorIndex := 48, attributes := #[] }, { accessFlags := 24, nameIndex := 5, descriptorIndex := 6, attributes := #[] }, { accessFlags := 24, nameIndex := 9, descriptorIndex := 10, attributes := #[] }])
  fields := #[{ name := "DIGITS", type := (.array .byte), accessFlags := 26, slot := 0, constantValue := 0 }, { name := "sharpsMap", type := (.array .char), accessFlags := 8, slot := 1, constantValue := 0 }, { name := "instance", type := (.object "java/lang/CharacterDataLatin1"), accessFlags := 24, slot := 2, constantValue := 0 }, { name := "A", type := (.array .int), accessFlags := 24, slot := 3, constantValue := 0 }, { name := "B", type := (.array .char), accessFlags := 24, slot := 4, constantValue := 0 }]
  methods := #[k32m0, k32m1, k32m2]
  instanceTypes := #[]
  staticTypes := #[(.array .byte), (.array .char), (.object "java/lang/CharacterDataLatin1"), (.array .int), (.array .char)]
  resolved := Array.replicate 141 none
  statics := some 4 }

def pool33 : Array CpInfo := pool [(2, .class_ 4), (1, u "java/lang/Object"), (0, u "<init>"), (0, u "()V"), (1, .class_ 10), (1, u "java/lang/System"), (0, u "allowSecurityManager"), (0, u "I"), (16, u "cons"), (0, u "Ljava/io/Console;"), (77, .class_ 110), (1, u "java/lang/System$CallersHolder"), (43, u "initialErrStream"), (0, u "Ljava/io/PrintStream;"), (19, u "security"), (0, u "Ljava/lang/SecurityManager;"), (31, .class_ 209), (0, u "java/lang/System$1"), (7, u "props"), (0, u "Ljava/util/Properties;"), (2, u "lineSeparator"), (0, u "Ljava/lang/String;"), (96, .class_ 321), (1, u "java/lang/System$LoggerFinder"), (5, .class_ 328), (0, u "java/lang/System$Logger"), (67, u "err"), (2, u "out"), (91, u "notSupportedJnuEncoding"), (15, u "in"), (17, u "initialIn"), (0, u "Ljava/io/InputStream;"), (35, u "bootLayer"), (0, u "Ljava/lang/ModuleLayer;"), (99, .class_ 664), (0, u "java/lang/System$2"), (9, u "NEVER"), (2, u "MAYBE"), (49, u "arraycopy"), (0, u "(Ljava/lang/Object;ILjava/lang/Object;II)V"), (72, .class_ 802), (0, u "java/lang/System$Logger$Level")] 31

def k33m0 : Method := { name := "<init>", desc := "()V", sig := { parameters := [], returnType := none }, accessFlags := 2, code := none }
def k33m1 : Method := { name := "arraycopy", desc := "(Ljava/lang/Object;ILjava/lang/Object;II)V", sig := { parameters := [(.object "java/lang/Object"), .int, (.object "java/lang/Object"), .int, .int], returnType := none }, accessFlags := 265, code := none }
/-- java/lang/System -/
def k33 : Class := { plain "java/lang/System" (some 0) with
  accessFlags := 49
  interfaces := #[]
  cf := some (fileOf pool33 8 #[.nestMembers #[319, 327, 801, 108, 663, 208]] #[{ accessFlags := 2, nameIndex := 5, descriptorIndex := 6, attributes := #[] }, { accessFlags := 265, nameIndex := 727, descriptorIndex := 728, attributes := #[] }] 49 2 #[] #[{ accessFlags := 25, nameIndex := 507, descriptorIndex := 526, attributes := #[] }, { accessFlags := 25, nameIndex := 399, descriptorIndex := 155, attributes := #[] }, { accessFlags := 25, nameIndex := 396, descriptorIndex := 155, attributes := #[] }, { accessFlags := 10, nameIndex := 525, descriptorIndex := 526, attributes := #[] }, { accessFlags := 26, nameIndex := 674, descriptorIndex := 12, attributes := #[] }, { accessFlags := 26, nameIndex := 677, descriptorIndex := 12, attributes := #[] }, { accessFlags := 10, nameIndex := 11, descriptorIndex := 12, attributes := #[] }, { accessFlags := 74, nameIndex := 175, descriptorIndex := 176, attributes := #[] }, { accessFlags := 10, nameIndex := 491, descriptorIndex := 222, attributes := #[] }, { accessFlags := 74, nameIndex := 29, descriptorIndex := 30, attributes := #[] }, { accessFlags := 74, nameIndex := 154, descriptorIndex := 155, attributes := #[] }, { accessFlags := 10, nameIndex := 217, descriptorIndex := 218, attributes := #[] }, { accessFlags := 10, nameIndex := 221, descriptorIndex := 222, attributes := #[] }, { accessFlags := 8, nameIndex := 562, descriptorIndex := 563, attributes := #[] }])
  fields := #[{ name := "in", type := (.object "java/io/InputStream"), accessFlags := 25, slot := 0, constantValue := 0 }, { name := "out", type := (.object "java/io/PrintStream"), accessFlags := 25, slot := 1, constantValue := 0 }, { name := "err", type := (.object "java/io/PrintStream"), accessFlags := 25, slot := 2, constantValue := 0 }, { name := "initialIn", type := (.object "java/io/InputStream"), accessFlags := 10, slot := 3, constantValue := 0 }, { name := "NEVER", type := .int, accessFlags := 26, slot := 4, constantValue := 0 }, { name := "MAYBE", type := .int, accessFlags := 26, slot := 5, constantValue := 0 }, { name := "allowSecurityManager", type := .int, accessFlags := 10, slot := 6, constantValue := 0 }, { name := "security", type := (.object "java/lang/SecurityManager"), accessFlags := 74, slot := 7, constantValue := 0 }, { name := "notSupportedJnuEncoding", type := (.object "java/lang/String"), accessFlags := 10, slot := 8, constantValue := 0 }, { name := "cons", type := (.object "java/io/Console"), accessFlags := 74, slot := 9, constantValue := 0 }, { name := "initialErrStream", type := (.object "java/io/PrintStream"), accessFlags := 74, slot := 10, constantValue := 0 }, { name := "props", type := (.object "java/util/Properties"), accessFlags := 10, slot := 11, constantValue := 0 }, { name := "lineSeparator", type := (.object "java/lang/String"), accessFlags := 10, slot := 12, constantValue := 0 }, { name := "bootLayer", type := (.object "java/lang/ModuleLayer"), accessFlags := 8, slot := 13, constantValue := 0 }]
  methods := #[k33m0, k33m1]
  instanceTypes := #[]
  staticTypes := #[(.object "java/io/InputStream"), (.object "java/io/PrintStream"), (.object "java/io/PrintStream"), (.object "java/io/InputStream"), .int, .int, .int, (.object "java/lang/SecurityManager"), (.object "java/lang/String"), (.object "java/io/Console"), (.object "java/io/PrintStream"), (.object "java/util/Properties"), (.object "java/lang/String"), (.object "java/lang/ModuleLayer")]
  resolved := Array.replicate 834 none
  statics := none }

def pool34 : Array CpInfo := pool [(9, u "<init>"), (6, .class_ 18), (1, u "java/lang/Object"), (0, u "()V"), (1, .class_ 23), (1, u "jdk/internal/util/ArraysSupport"), (0, u "LOG2_ARRAY_LONG_INDEX_SCALE"), (0, u "I"), (2, u "U"), (0, u "Ljdk/internal/misc/Unsafe;"), (8, u "BIG_ENDIAN"), (0, u "Z"), (8, u "LOG2_BYTE_BIT_SIZE"), (4, u "LOG2_ARRAY_INT_INDEX_SCALE"), (6, .class_ 61), (0, u "[B"), (0, .methodref 21 63), (0, .nameAndType 64 65), (0, u "signedHashCode"), (0, u "(I[BII)I"), (42, u "JLA"), (0, u "Ljdk/internal/access/JavaLangAccess;"), (11, u "LOG2_ARRAY_BOOLEAN_INDEX_SCALE"), (9, u "LOG2_ARRAY_BYTE_INDEX_SCALE"), (5, u "LOG2_ARRAY_CHAR_INDEX_SCALE"), (5, u "LOG2_ARRAY_SHORT_INDEX_SCALE"), (18, u "LOG2_ARRAY_FLOAT_INDEX_SCALE"), (24, u "LOG2_ARRAY_DOUBLE_INDEX_SCALE"), (89, u "T_BOOLEAN"), (2, u "T_CHAR"), (1, u "T_FLOAT"), (1, u "T_DOUBLE"), (1, u "T_BYTE"), (1, u "T_SHORT"), (1, u "T_INT"), (1, u "T_LONG"), (1, u "SOFT_MAX_ARRAY_LENGTH"), (26, u "vectorizedHashCode"), (0, u "(Ljava/lang/Object;IIII)I")] 55

def k34m0 : Method := { name := "<init>", desc := "()V", sig := { parameters := [], returnType := none }, accessFlags := 2, code := none }
def k34c1 : Code := { maxStack := 4, maxLocals := 5, code := jdk_48_method_4_code, exceptionTable := #[], attributes := #[] }
def k34m1 : Method := { name := "vectorizedHashCode", desc := "(Ljava/lang/Object;IIII)I", sig := { parameters := [(.object "java/lang/Object"), .int, .int, .int, .int], returnType := some .int }, accessFlags := 9, code := some k34c1 }
def k34c2 : Code := { maxStack := 3, maxLocals := 6, code := jdk_48_method_5_code, exceptionTable := #[], attributes := #[] }
def k34m2 : Method := { name := "signedHashCode", desc := "(I[BII)I", sig := { parameters := [.int, (.array .byte), .int, .int], returnType := some .int }, accessFlags := 10, code := some k34c2 }
/-- jdk/internal/util/ArraysSupport -/
def k34 : Class := { plain "jdk/internal/util/ArraysSupport" (some 0) with
  accessFlags := 33
  interfaces := #[]
  cf := some (fileOf pool34 21 #[] #[{ accessFlags := 2, nameIndex := 9, descriptorIndex := 19, attributes := #[] }, { accessFlags := 9, nameIndex := 321, descriptorIndex := 322, attributes := #[] }, { accessFlags := 10, nameIndex := 64, descriptorIndex := 65, attributes := #[] }] 33 16 #[] #[{ accessFlags := 24, nameIndex := 28, descriptorIndex := 29, attributes := #[] }, { accessFlags := 26, nameIndex := 38, descriptorIndex := 39, attributes := #[] }, { accessFlags := 25, nameIndex := 121, descriptorIndex := 25, attributes := #[] }, { accessFlags := 25, nameIndex := 131, descriptorIndex := 25, attributes := #[] }, { accessFlags := 25, nameIndex := 137, descriptorIndex := 25, attributes := #[] }, { accessFlags := 25, nameIndex := 143, descriptorIndex := 25, attributes := #[] }, { accessFlags := 25, nameIndex := 53, descriptorIndex := 25, attributes := #[] }, { accessFlags := 25, nameIndex := 24, descriptorIndex := 25, attributes := #[] }, { accessFlags := 25, nameIndex := 162, descriptorIndex := 25, attributes := #[] }, { accessFlags := 25, nameIndex := 187, descriptorIndex := 25, attributes := #[] }, { accessFlags := 26, nameIndex := 48, descriptorIndex := 25, attributes := #[] }, { accessFlags := 25, nameIndex := 277, descriptorIndex := 25, attributes := #[] }, { accessFlags := 25, nameIndex := 280, descriptorIndex := 25, attributes := #[] }, { accessFlags := 25, nameIndex := 282, descriptorIndex := 25, attributes := #[] }, { accessFlags := 25, nameIndex := 284, descriptorIndex := 25, attributes := #[] }, { accessFlags := 25, nameIndex := 286, descriptorIndex := 25, attributes := #[] }, { accessFlags := 25, nameIndex := 288, descriptorIndex := 25, attributes := #[] }, { accessFlags := 25, nameIndex := 290, descriptorIndex := 25, attributes := #[] }, { accessFlags := 25, nameIndex := 292, descriptorIndex := 25, attributes := #[] }, { accessFlags := 26, nameIndex := 108, descriptorIndex := 109, attributes := #[] }, { accessFlags := 25, nameIndex := 294, descriptorIndex := 25, attributes := #[] }])
  fields := #[{ name := "U", type := (.object "jdk/internal/misc/Unsafe"), accessFlags := 24, slot := 0, constantValue := 0 }, { name := "BIG_ENDIAN", type := .boolean, accessFlags := 26, slot := 1, constantValue := 0 }, { name := "LOG2_ARRAY_BOOLEAN_INDEX_SCALE", type := .int, accessFlags := 25, slot := 2, constantValue := 0 }, { name := "LOG2_ARRAY_BYTE_INDEX_SCALE", type := .int, accessFlags := 25, slot := 3, constantValue := 0 }, { name := "LOG2_ARRAY_CHAR_INDEX_SCALE", type := .int, accessFlags := 25, slot := 4, constantValue := 0 }, { name := "LOG2_ARRAY_SHORT_INDEX_SCALE", type := .int, accessFlags := 25, slot := 5, constantValue := 0 }, { name := "LOG2_ARRAY_INT_INDEX_SCALE", type := .int, accessFlags := 25, slot := 6, constantValue := 0 }, { name := "LOG2_ARRAY_LONG_INDEX_SCALE", type := .int, accessFlags := 25, slot := 7, constantValue := 0 }, { name := "LOG2_ARRAY_FLOAT_INDEX_SCALE", type := .int, accessFlags := 25, slot := 8, constantValue := 0 }, { name := "LOG2_ARRAY_DOUBLE_INDEX_SCALE", type := .int, accessFlags := 25, slot := 9, constantValue := 0 }, { name := "LOG2_BYTE_BIT_SIZE", type := .int, accessFlags := 26, slot := 10, constantValue := 0 }, { name := "T_BOOLEAN", type := .int, accessFlags := 25, slot := 11, constantValue := 0 }, { name := "T_CHAR", type := .int, accessFlags := 25, slot := 12, constantValue := 0 }, { name := "T_FLOAT", type := .int, accessFlags := 25, slot := 13, constantValue := 0 }, { name := "T_DOUBLE", type := .int, accessFlags := 25, slot := 14, constantValue := 0 }, { name := "T_BYTE", type := .int, accessFlags := 25, slot := 15, constantValue := 0 }, { name := "T_SHORT", type := .int, accessFlags := 25, slot := 16, constantValue := 0 }, { name := "T_INT", type := .int, accessFlags := 25, slot := 17, constantValue := 0 }, { name := "T_LONG", type := .int, accessFlags := 25, slot := 18, constantValue := 0 }, { name := "JLA", type := (.object "jdk/internal/access/JavaLangAccess"), accessFlags := 26, slot := 19, constantValue := 0 }, { name := "SOFT_MAX_ARRAY_LENGTH", type := .int, accessFlags := 25, slot := 20, constantValue := 0 }]
  methods := #[k34m0, k34m1, k34m2]
  instanceTypes := #[]
  staticTypes := #[(.object "jdk/internal/misc/Unsafe"), .boolean, .int, .int, .int, .int, .int, .int, .int, .int, .int, .int, .int, .int, .int, .int, .int, .int, .int, (.object "jdk/internal/access/JavaLangAccess"), .int]
  resolved := Array.replicate 378 none
  statics := none }

def pool35 : Array CpInfo := pool [(2, .class_ 4), (1, u "java/lang/Object"), (0, u "<init>"), (0, u "()V"), (17, .class_ 26), (1, u "jdk/internal/util/Preconditions"), (28, .class_ 56), (0, u "jdk/internal/util/Preconditions$4"), (57, .class_ 115), (0, u "jdk/internal/util/Preconditions$1"), (7, u "SIOOBE_FORMATTER"), (0, u "Ljava/util/function/BiFunction;"), (0, .class_ 126), (0, u "jdk/internal/util/Preconditions$2"), (3, u "AIOOBE_FORMATTER"), (0, .class_ 132), (0, u "jdk/internal/util/Preconditions$3"), (3, u "IOOBE_FORMATTER")] 57

def k35m0 : Method := { name := "<init>", desc := "()V", sig := { parameters := [], returnType := none }, accessFlags := 1, code := none }
/-- jdk/internal/util/Preconditions -/
def k35 : Class := { plain "jdk/internal/util/Preconditions" (some 0) with
  accessFlags := 33
  interfaces := #[]
  cf := some (fileOf pool35 24 #[.nestMembers #[55, 131, 125, 114]] #[{ accessFlags := 1, nameIndex := 5, descriptorIndex := 6, attributes := #[] }] 33 2 #[] #[{ accessFlags := 25, nameIndex := 123, descriptorIndex := 124, attributes := #[] }, { accessFlags := 25, nameIndex := 130, descriptorIndex := 124, attributes := #[] }, { accessFlags := 25, nameIndex := 136, descriptorIndex := 124, attributes := #[] }])
  fields := #[{ name := "SIOOBE_FORMATTER", type := (.object "java/util/function/BiFunction"), accessFlags := 25, slot := 0, constantValue := 0 }, { name := "AIOOBE_FORMATTER", type := (.object "java/util/function/BiFunction"), accessFlags := 25, slot := 1, constantValue := 0 }, { name := "IOOBE_FORMATTER", type := (.object "java/util/function/BiFunction"), accessFlags := 25, slot := 2, constantValue := 0 }]
  methods := #[k35m0]
  instanceTypes := #[]
  staticTypes := #[(.object "java/util/function/BiFunction"), (.object "java/util/function/BiFunction"), (.object "java/util/function/BiFunction")]
  resolved := Array.replicate 194 none
  statics := some 5 }

def pool36 : Array CpInfo := pool [(1, u "java/lang/Class"), (0, .class_ 1), (0, u "java/lang/Object"), (0, .class_ 3)] 0

/-- java/lang/Class -/
def k36 : Class := { plain "java/lang/Class" (some 0) with
  accessFlags := 49
  interfaces := #[]
  cf := some (fileOf pool36 2 #[] #[] 49 4 #[] #[])
  fields := #[]
  methods := #[]
  instanceTypes := #[]
  staticTypes := #[]
  resolved := Array.replicate 5 none
  statics := none }

/-- the primitive byte -/
def k37 : Class := { plain "byte" none with kind := .primitive 'B', accessFlags := 0x411 }
/-- [B -/
def k38 : Class := { plain "[B" (some 0) with kind := .array 37 .byte, interfaces := #[16, 2], accessFlags := 1041 }

/-- the primitive char -/
def k39 : Class := { plain "char" none with kind := .primitive 'C', accessFlags := 0x411 }
/-- [C -/
def k40 : Class := { plain "[C" (some 0) with kind := .array 39 .char, interfaces := #[16, 2], accessFlags := 1041 }

/-- the primitive int -/
def k41 : Class := { plain "int" none with kind := .primitive 'I', accessFlags := 0x411 }
/-- [I -/
def k42 : Class := { plain "[I" (some 0) with kind := .array 41 .int, interfaces := #[16, 2], accessFlags := 1041 }

/-- [Ljava/lang/Object; -/
def k43 : Class := { plain "[Ljava/lang/Object;" (some 0) with kind := .array 0 (.object "java/lang/Object"), interfaces := #[16, 2], accessFlags := 1041, mirror := some 6 }

def heap : Heap := #[{ cls := 7, slots := #[.long 0, .int 1, .null, .int 0, .null, .int 0, .int 0], vm := .statics 7 },
  { cls := 17, slots := #[.long 0, .int 0, .ref 13, .ref 14], vm := .statics 17 },
  { cls := 21, slots := #[.long 0, .int 0, .null, .ref 15, .ref 8, .null, .null, .null, .int 0, .int 1], vm := .statics 21 },
  { cls := 26, slots := #[.ref 11, .ref 12, .null, .long 0], vm := .statics 26 },
  { cls := 32, slots := #[.null, .null, .ref 10, .ref 9, .null], vm := .statics 32 },
  { cls := 35, slots := #[.null, .null, .null], vm := .statics 35 },
  { cls := 36, slots := #[], vm := .mirror 43 },
  { cls := 43, slots := #[], vm := .none },
  { cls := 25, slots := #[.ref 7, .int 0], vm := .none },
  { cls := 42, slots := #[.int (1207963663), .int (1207963663), .int (1207963663), .int (1207963663), .int (1207963663), .int (1207963663), .int (1207963663), .int (1207963663), .int (1207963663), .int (1476411407), .int (1342193679), .int (1476411407), .int (1610629135), .int (1342193679), .int (1207963663), .int (1207963663), .int (1207963663), .int (1207963663), .int (1207963663), .int (1207963663), .int (1207963663), .int (1207963663), .int (1207963663), .int (1207963663), .int (1207963663), .int (1207963663), .int (1207963663), .int (1207963663), .int (1342193679), .int (1342193679), .int (1342193679), .int (1476411407), .int (1610629132), .int (1744830488), .int (1744830488), .int (671088664), .int (671113242), .int (671088664), .int (1744830488), .int (1744830488), .int (-402653163), .int (-402653162), .int (1744830488), .int (536870937), .int (939524120), .int (536870932), .int (939524120), .int (939524120), .int (402667017), .int (402667017), .int (402667017), .int (402667017), .int (402667017), .int (402667017), .int (402667017), .int (402667017), .int (402667017), .int (402667017), .int (939524120), .int (1744830488), .int (-402653159), .int (1744830489), .int (-402653159), .int (1744830488), .int (1744830488), .int (8552417), .int (8552417), .int (8552417), .int (8552417), .int (8552417), .int (8552417), .int (8552417), .int (8552417), .int (8552417), .int (8552417), .int (8552417), .int (8552417), .int (8552417), .int (8552417), .int (8552417), .int (8552417), .int (8552417), .int (8552417), .int (8552417), .int (8552417), .int (8552417), .int (8552417), .int (8552417), .int (8552417), .int (8552417), .int (8552417), .int (-402653163), .int (1744830488), .int (-402653162), .int (1744830491), .int (1744850967), .int (1744830491), .int (8486882), .int (8486882), .int (8486882), .int (8486882), .int (8486882), .int (8486882), .int (8486882), .int (8486882), .int (8486882), .int (8486882), .int (8486882), .int (8486882), .int (8486882), .int (8486882), .int (8486882), .int (8486882), .int (8486882), .int (8486882), .int (8486882), .int (8486882), .int (8486882), .int (8486882), .int (8486882), .int (8486882), .int (8486882), .int (8486882), .int (-402653163), .int (1744830489), .int (-402653162), .int (1744830489), .int (1207963663), .int (1207963663), .int (1207963663), .int (1207963663), .int (1207963663), .int (1207963663), .int (1342181391), .int (1207963663), .int (1207963663), .int (1207963663), .int (1207963663), .int (1207963663), .int (1207963663), .int (1207963663), .int (1207963663), .int (1207963663), .int (1207963663), .int (1207963663), .int (1207963663), .int (1207963663), .int (1207963663), .int (1207963663), .int (1207963663), .int (1207963663), .int (1207963663), .int (1207963663), .int (1207963663), .int (1207963663), .int (1207963663), .int (1207963663), .int (1207963663), .int (1207963663), .int (1207963663), .int (939524108), .int (1744830488), .int (671113242), .int (671113242), .int (671113242), .int (671113242), .int (1744830492), .int (1744830488), .int (1744830491), .int (1744830492), .int (28677), .int (-402653155), .int (1744830489), .int (1207963664), .int (1744830492), .int (1744830491), .int (671088668), .int (671088665), .int (402654731), .int (402654731), .int (1744830491), .int (134049794), .int (1744830488), .int (1744830488), .int (1744830491), .int (402654475), .int (28677), .int (-402653154), .int (1744832523), .int (1744832523), .int (1744832523), .int (1744830488), .int (8548353), .int (8548353), .int (8548353), .int (8548353), .int (8548353), .int (8548353), .int (8548353), .int (8548353), .int (8548353), .int (8548353), .int (8548353), .int (8548353), .int (8548353), .int (8548353), .int (8548353), .int (8548353), .int (8548353), .int (8548353), .int (8548353), .int (8548353), .int (8548353), .int (8548353), .int (8548353), .int (1744830489), .int (8548353), .int (8548353), .int (8548353), .int (8548353), .int (8548353), .int (8548353), .int (8548353), .int (134049794), .int (8482818), .int (8482818), .int (8482818), .int (8482818), .int (8482818), .int (8482818), .int (8482818), .int (8482818), .int (8482818), .int (8482818), .int (8482818), .int (8482818), .int (8482818), .int (8482818), .int (8482818), .int (8482818), .int (8482818), .int (8482818), .int (8482818), .int (8482818), .int (8482818), .int (8482818), .int (8482818), .int (1744830489), .int (8482818), .int (8482818), .int (8482818), .int (8482818), .int (8482818), .int (8482818), .int (8482818), .int (102592514)], vm := .none },
  { cls := 32, slots := #[], vm := .none },
  { cls := 26, slots := #[.int 1], vm := .none },
  { cls := 26, slots := #[.int 0], vm := .none },
  { cls := 43, slots := #[], vm := .none },
  { cls := 43, slots := #[], vm := .none },
  { cls := 0, slots := #[], vm := .none }]
def classes : Array Class := #[k0, k1, k2, k3, k4, k5, k6, k7, k8, k9, k10, k11, k12, k13, k14, k15, k16, k17, k18, k19, k20, k21, k22, k23, k24, k25, k26, k27, k28, k29, k30, k31, k32, k33, k34, k35, k36, k37, k38, k39, k40, k41, k42, k43]
def interned : List (Array UInt16 × Addr) := []
def slotsUsed : Nat := 293
def theMethod : MethodId := ⟨1, 5⟩
def args0 : Array Value := #[.int 65, .int 66, .int 67, .int 8]
def aboutOver (below : List Frame) : State where
  vm := { classes := classes, interned := interned.toArray }
  heap := heap
  slotsUsed := slotsUsed
  threads := #[{ frames := .invoking theMethod args0 :: below }]
def below0 : List Frame := [.native { method := ⟨0, 0⟩, args := #[] }]
def about1 : State := aboutOver below0
def p0 : Program := .bare "" "" ""
def e0 : Env := launch0.env 0 0 0
theorem w_frames : about1.frames = Frame.invoking theMethod args0 :: below0 := rfl
set_option maxRecDepth 65536 in
theorem w_args : argsFit about1.vm theMethod args0 = true := by decide +kernel
set_option maxRecDepth 65536 in
theorem w_heap : heapFits about1 = true := by decide +kernel
set_option maxRecDepth 65536 in
theorem w_runnable : about1.curStatus? = some .runnable := by decide +kernel
set_option maxRecDepth 65536 in
theorem w_alone : about1.alone = true := by decide +kernel
set_option maxRecDepth 65536 in
theorem w_named : about1.methodNamed? x = some theMethod := by decide +kernel
set_option maxRecDepth 65536 in
theorem w_hears : about1.hears theMethod below0 = true := by decide +kernel
set_option maxRecDepth 65536 in
theorem w_ripe : about1.ripe theMethod args0 below0 = true := by decide +kernel
theorem w_running : about1.status = .running := rfl
set_option maxRecDepth 65536 in
theorem w_room : about1.hasRoom e0.platform room_1 = true :=
  launch0.hasRoom_least _ room_1 (by decide +kernel) (by decide +kernel) (by decide +kernel) (by decide +kernel) (by decide +kernel) (by decide +kernel)
theorem allAtoms_all (ts : List Jvm.Cond) (a : Array Jvm.Value) (st : Jvm.State) : (allAtoms ts).before a st = ts.all (fun c => c.before a st) := by
  induction ts with
  | nil => rfl
  | cons c t ih =>
    show (Jvm.Cond.and c (allAtoms t)).before a st = _
    rw [Jvm.Cond.before_and, ih, List.all_cons]
def words1 : List Jvm.Cond := Jvm.Cond.code x code maxLocals ret :: tables_1
/-- a 'code' word, met by the world's own term for the bytes: nothing is compared byte by byte -/
theorem code_word {y : MethodName} {bytes : ByteArray} {mx : Nat} {rt : Option FieldType} {a : Array Value} {s : State} {m : MethodId} {meth : Method} {c : Code} (h1 : s.methodNamed? y = some m) (h2 : s.vm.method? m = some meth) (h3 : meth.code = some c) (h4 : c.code = bytes)
    (h5 : (c.maxLocals == mx && c.exceptionTable.isEmpty && decide (c.maxStack ≤ mostOperands) && decide (meth.sig.returnType = rt) && !meth.locks && decide (parseMethodDescriptor y.desc = some meth.sig)) = true) : (Jvm.Cond.code y bytes mx rt).before a s = true := by
  simp only [Bool.and_eq_true, beq_iff_eq, Bool.not_eq_true', decide_eq_true_eq] at h5
  obtain ⟨⟨⟨⟨⟨g1, g2⟩, g3⟩, g4⟩, g5⟩, g6⟩ := h5
  simp [Cond.before, Cond.holds, Cond.value, h1, h2, h3, h4, g1, g2, g3, g4, g5, g6]
def isCode : Jvm.Cond → Bool
  | .code _ _ _ _ => true
  | _ => false
theorem all_split {L : List Jvm.Cond} {P : Jvm.Cond → Bool} (h1 : L.all (fun c => isCode c || P c) = true) (h2 : ∀ c ∈ L.filter isCode, P c = true) : L.all P = true := by
  refine List.all_eq_true.mpr fun c hc => ?_
  have h := List.all_eq_true.mp h1 c hc
  rcases Bool.eq_false_or_eq_true (isCode c) with hi | hi
  · exact h2 c (List.mem_filter.mpr ⟨hc, hi⟩)
  · simpa [hi] using h
set_option maxRecDepth 65536 in
theorem w_c0 : (Jvm.Cond.code x code maxLocals ret).before args0 about1 = true := code_word (m := ⟨1, 5⟩) (meth := k1m5) (c := k1c5) (by decide +kernel) rfl rfl rfl (by decide +kernel)
set_option maxRecDepth 65536 in
theorem w_c1 : (Jvm.Cond.code ({ cls := "com/example/headings_from_text/headingsfromtext/vocabulary/ConceptHashCodePinLaw", name := "mk", desc := "(IZ)Ljava/lang/String;" } : Jvm.MethodName) method_4_code (4 : Nat) (Option.some (Jvm.ClassFile.FieldType.object "java/lang/String"))).before args0 about1 = true := code_word (m := ⟨1, 3⟩) (meth := k1m3) (c := k1c3) (by decide +kernel) rfl rfl rfl (by decide +kernel)
set_option maxRecDepth 65536 in
theorem w_c2 : (Jvm.Cond.code ({ cls := "com/example/headings_from_text/headingsfromtext/vocabulary/ConceptHashCodePinLaw", name := "first", desc := "(I)C" } : Jvm.MethodName) method_2_code (2 : Nat) (Option.some Jvm.ClassFile.FieldType.char)).before args0 about1 = true := code_word (m := ⟨1, 1⟩) (meth := k1m1) (c := k1c1) (by decide +kernel) rfl rfl rfl (by decide +kernel)
set_option maxRecDepth 65536 in
theorem w_c3 : (Jvm.Cond.code ({ cls := "java/lang/String", name := "valueOf", desc := "(C)Ljava/lang/String;" } : Jvm.MethodName) jdk_42_method_139_code (1 : Nat) (Option.some (Jvm.ClassFile.FieldType.object "java/lang/String"))).before args0 about1 = true := code_word (m := ⟨7, 6⟩) (meth := k7m6) (c := k7c6) (by decide +kernel) rfl rfl rfl (by decide +kernel)
set_option maxRecDepth 65536 in
theorem w_c4 : (Jvm.Cond.code ({ cls := "java/lang/StringLatin1", name := "canEncode", desc := "(C)Z" } : Jvm.MethodName) jdk_43_method_3_code (1 : Nat) (Option.some Jvm.ClassFile.FieldType.boolean)).before args0 about1 = true := code_word (m := ⟨8, 1⟩) (meth := k8m1) (c := k8c1) (by decide +kernel) rfl rfl rfl (by decide +kernel)
set_option maxRecDepth 65536 in
theorem w_c5 : (Jvm.Cond.code ({ cls := "java/lang/StringLatin1", name := "toBytes", desc := "(C)[B" } : Jvm.MethodName) jdk_43_method_46_code (1 : Nat) (Option.some (Jvm.ClassFile.FieldType.array Jvm.ClassFile.FieldType.byte))).before args0 about1 = true := code_word (m := ⟨8, 5⟩) (meth := k8m5) (c := k8c5) (by decide +kernel) rfl rfl rfl (by decide +kernel)
set_option maxRecDepth 65536 in
theorem w_c6 : (Jvm.Cond.code ({ cls := "java/lang/String", name := "<init>", desc := "([BB)V" } : Jvm.MethodName) jdk_42_method_151_code (3 : Nat) (Option.none : Option Jvm.ClassFile.FieldType)).before args0 about1 = true := code_word (m := ⟨7, 8⟩) (meth := k7m8) (c := k7c8) (by decide +kernel) rfl rfl rfl (by decide +kernel)
set_option maxRecDepth 65536 in
theorem w_c7 : (Jvm.Cond.code ({ cls := "java/lang/Object", name := "<init>", desc := "()V" } : Jvm.MethodName) object_method_1_code (1 : Nat) (Option.none : Option Jvm.ClassFile.FieldType)).before args0 about1 = true := code_word (m := ⟨0, 0⟩) (meth := k0m0) (c := k0c0) (by decide +kernel) rfl rfl rfl (by decide +kernel)
set_option maxRecDepth 65536 in
theorem w_c8 : (Jvm.Cond.code ({ cls := "java/util/ArrayList", name := "<init>", desc := "()V" } : Jvm.MethodName) jdk_38_method_2_code (1 : Nat) (Option.none : Option Jvm.ClassFile.FieldType)).before args0 about1 = true := code_word (m := ⟨17, 0⟩) (meth := k17m0) (c := k17c0) (by decide +kernel) rfl rfl rfl (by decide +kernel)
set_option maxRecDepth 65536 in
theorem w_c9 : (Jvm.Cond.code ({ cls := "java/util/AbstractList", name := "<init>", desc := "()V" } : Jvm.MethodName) jdk_39_method_1_code (1 : Nat) (Option.none : Option Jvm.ClassFile.FieldType)).before args0 about1 = true := code_word (m := ⟨14, 0⟩) (meth := k14m0) (c := k14c0) (by decide +kernel) rfl rfl rfl (by decide +kernel)
set_option maxRecDepth 65536 in
theorem w_c10 : (Jvm.Cond.code ({ cls := "java/util/AbstractCollection", name := "<init>", desc := "()V" } : Jvm.MethodName) jdk_22_method_1_code (1 : Nat) (Option.none : Option Jvm.ClassFile.FieldType)).before args0 about1 = true := code_word (m := ⟨11, 0⟩) (meth := k11m0) (c := k11c0) (by decide +kernel) rfl rfl rfl (by decide +kernel)
set_option maxRecDepth 65536 in
theorem w_c11 : (Jvm.Cond.code ({ cls := "com/example/headings_from_text/headingsfromtext/vocabulary/Concept", name := "<init>", desc := "(Ljava/lang/String;ZLjava/util/List;)V" } : Jvm.MethodName) prog_32_method_1_code (6 : Nat) (Option.none : Option Jvm.ClassFile.FieldType)).before args0 about1 = true := code_word (m := ⟨18, 0⟩) (meth := k18m0) (c := k18c0) (by decide +kernel) rfl rfl rfl (by decide +kernel)
set_option maxRecDepth 65536 in
theorem w_c12 : (Jvm.Cond.code ({ cls := "java/util/ArrayList", name := "iterator", desc := "()Ljava/util/Iterator;" } : Jvm.MethodName) jdk_38_method_55_code (1 : Nat) (Option.some (Jvm.ClassFile.FieldType.object "java/util/Iterator"))).before args0 about1 = true := code_word (m := ⟨17, 7⟩) (meth := k17m7) (c := k17c7) (by decide +kernel) rfl rfl rfl (by decide +kernel)
set_option maxRecDepth 65536 in
theorem w_c13 : (Jvm.Cond.code ({ cls := "java/util/ArrayList$Itr", name := "<init>", desc := "(Ljava/util/ArrayList;)V" } : Jvm.MethodName) jdk_49_method_1_code (2 : Nat) (Option.none : Option Jvm.ClassFile.FieldType)).before args0 about1 = true := code_word (m := ⟨20, 0⟩) (meth := k20m0) (c := k20c0) (by decide +kernel) rfl rfl rfl (by decide +kernel)
set_option maxRecDepth 65536 in
theorem w_c14 : (Jvm.Cond.code ({ cls := "java/util/ArrayList$Itr", name := "hasNext", desc := "()Z" } : Jvm.MethodName) jdk_49_method_2_code (1 : Nat) (Option.some Jvm.ClassFile.FieldType.boolean)).before args0 about1 = true := code_word (m := ⟨20, 1⟩) (meth := k20m1) (c := k20c1) (by decide +kernel) rfl rfl rfl (by decide +kernel)
set_option maxRecDepth 65536 in
theorem w_c15 : (Jvm.Cond.code ({ cls := "java/util/List", name := "copyOf", desc := "(Ljava/util/Collection;)Ljava/util/List;" } : Jvm.MethodName) jdk_40_method_48_code (1 : Nat) (Option.some (Jvm.ClassFile.FieldType.object "java/util/List"))).before args0 about1 = true := code_word (m := ⟨13, 4⟩) (meth := k13m4) (c := k13c4) (by decide +kernel) rfl rfl rfl (by decide +kernel)
set_option maxRecDepth 65536 in
theorem w_c16 : (Jvm.Cond.code ({ cls := "java/util/ImmutableCollections", name := "listCopy", desc := "(Ljava/util/Collection;)Ljava/util/List;" } : Jvm.MethodName) jdk_56_method_3_code (2 : Nat) (Option.some (Jvm.ClassFile.FieldType.object "java/util/List"))).before args0 about1 = true := code_word (m := ⟨21, 1⟩) (meth := k21m1) (c := k21c1) (by decide +kernel) rfl rfl rfl (by decide +kernel)
set_option maxRecDepth 65536 in
theorem w_c17 : (Jvm.Cond.code ({ cls := "java/util/ArrayList", name := "isEmpty", desc := "()Z" } : Jvm.MethodName) jdk_38_method_9_code (1 : Nat) (Option.some Jvm.ClassFile.FieldType.boolean)).before args0 about1 = true := code_word (m := ⟨17, 3⟩) (meth := k17m3) (c := k17c3) (by decide +kernel) rfl rfl rfl (by decide +kernel)
set_option maxRecDepth 65536 in
theorem w_c18 : (Jvm.Cond.code ({ cls := "java/util/List", name := "of", desc := "()Ljava/util/List;" } : Jvm.MethodName) jdk_40_method_36_code (0 : Nat) (Option.some (Jvm.ClassFile.FieldType.object "java/util/List"))).before args0 about1 = true := code_word (m := ⟨13, 2⟩) (meth := k13m2) (c := k13c2) (by decide +kernel) rfl rfl rfl (by decide +kernel)
set_option maxRecDepth 65536 in
theorem w_c19 : (Jvm.Cond.code ({ cls := "com/example/headings_from_text/headingsfromtext/vocabulary/Concept", name := "hashCode", desc := "()I" } : Jvm.MethodName) prog_32_method_6_code (1 : Nat) (Option.some Jvm.ClassFile.FieldType.int)).before args0 about1 = true := code_word (m := ⟨18, 1⟩) (meth := k18m1) (c := k18c1) (by decide +kernel) rfl rfl rfl (by decide +kernel)
set_option maxRecDepth 65536 in
theorem w_c20 : (Jvm.Cond.code ({ cls := "java/lang/Boolean", name := "valueOf", desc := "(Z)Ljava/lang/Boolean;" } : Jvm.MethodName) jdk_2055_method_5_code (1 : Nat) (Option.some (Jvm.ClassFile.FieldType.object "java/lang/Boolean"))).before args0 about1 = true := code_word (m := ⟨26, 0⟩) (meth := k26m0) (c := k26c0) (by decide +kernel) rfl rfl rfl (by decide +kernel)
set_option maxRecDepth 65536 in
theorem w_c21 : (Jvm.Cond.code ({ cls := "java/util/Objects", name := "hash", desc := "([Ljava/lang/Object;)I" } : Jvm.MethodName) jdk_31_method_5_code (1 : Nat) (Option.some Jvm.ClassFile.FieldType.int)).before args0 about1 = true := code_word (m := ⟨27, 2⟩) (meth := k27m2) (c := k27c2) (by decide +kernel) rfl rfl rfl (by decide +kernel)
set_option maxRecDepth 65536 in
theorem w_c22 : (Jvm.Cond.code ({ cls := "java/util/Arrays", name := "hashCode", desc := "([Ljava/lang/Object;)I" } : Jvm.MethodName) jdk_65_method_157_code (6 : Nat) (Option.some Jvm.ClassFile.FieldType.int)).before args0 about1 = true := code_word (m := ⟨28, 3⟩) (meth := k28m3) (c := k28c3) (by decide +kernel) rfl rfl rfl (by decide +kernel)
set_option maxRecDepth 65536 in
theorem w_c23 : (Jvm.Cond.code ({ cls := "java/lang/Boolean", name := "hashCode", desc := "()I" } : Jvm.MethodName) jdk_2055_method_9_code (1 : Nat) (Option.some Jvm.ClassFile.FieldType.int)).before args0 about1 = true := code_word (m := ⟨26, 1⟩) (meth := k26m1) (c := k26c1) (by decide +kernel) rfl rfl rfl (by decide +kernel)
set_option maxRecDepth 65536 in
theorem w_c24 : (Jvm.Cond.code ({ cls := "java/lang/Boolean", name := "hashCode", desc := "(Z)I" } : Jvm.MethodName) jdk_2055_method_10_code (1 : Nat) (Option.some Jvm.ClassFile.FieldType.int)).before args0 about1 = true := code_word (m := ⟨26, 2⟩) (meth := k26m2) (c := k26c2) (by decide +kernel) rfl rfl rfl (by decide +kernel)
set_option maxRecDepth 65536 in
theorem w_c25 : (Jvm.Cond.code ({ cls := "java/util/ImmutableCollections$AbstractImmutableList", name := "hashCode", desc := "()I" } : Jvm.MethodName) jdk_46_method_14_code (4 : Nat) (Option.some Jvm.ClassFile.FieldType.int)).before args0 about1 = true := code_word (m := ⟨23, 1⟩) (meth := k23m1) (c := k23c1) (by decide +kernel) rfl rfl rfl (by decide +kernel)
set_option maxRecDepth 65536 in
theorem w_c26 : (Jvm.Cond.code ({ cls := "java/util/ImmutableCollections$ListN", name := "size", desc := "()I" } : Jvm.MethodName) jdk_45_method_3_code (1 : Nat) (Option.some Jvm.ClassFile.FieldType.int)).before args0 about1 = true := code_word (m := ⟨25, 0⟩) (meth := k25m0) (c := k25c0) (by decide +kernel) rfl rfl rfl (by decide +kernel)
set_option maxRecDepth 65536 in
theorem w_c27 : (Jvm.Cond.code ({ cls := "com/example/headings_from_text/headingsfromtext/vocabulary/ConceptHashCodePinLaw", name := "second", desc := "(I)C" } : Jvm.MethodName) method_3_code (1 : Nat) (Option.some Jvm.ClassFile.FieldType.char)).before args0 about1 = true := code_word (m := ⟨1, 2⟩) (meth := k1m2) (c := k1c2) (by decide +kernel) rfl rfl rfl (by decide +kernel)
set_option maxRecDepth 65536 in
theorem w_c28 : (Jvm.Cond.code ({ cls := "java/lang/String", name := "<init>", desc := "([C)V" } : Jvm.MethodName) jdk_42_method_3_code (2 : Nat) (Option.none : Option Jvm.ClassFile.FieldType)).before args0 about1 = true := code_word (m := ⟨7, 1⟩) (meth := k7m1) (c := k7c1) (by decide +kernel) rfl rfl rfl (by decide +kernel)
set_option maxRecDepth 65536 in
theorem w_c29 : (Jvm.Cond.code ({ cls := "java/lang/String", name := "<init>", desc := "([CIILjava/lang/Void;)V" } : Jvm.MethodName) jdk_42_method_149_code (6 : Nat) (Option.none : Option Jvm.ClassFile.FieldType)).before args0 about1 = true := code_word (m := ⟨7, 7⟩) (meth := k7m7) (c := k7c7) (by decide +kernel) rfl rfl rfl (by decide +kernel)
set_option maxRecDepth 65536 in
theorem w_c30 : (Jvm.Cond.code ({ cls := "java/lang/StringUTF16", name := "compress", desc := "([CII)[B" } : Jvm.MethodName) jdk_52_method_16_code (6 : Nat) (Option.some (Jvm.ClassFile.FieldType.array Jvm.ClassFile.FieldType.byte))).before args0 about1 = true := code_word (m := ⟨29, 2⟩) (meth := k29m2) (c := k29c2) (by decide +kernel) rfl rfl rfl (by decide +kernel)
set_option maxRecDepth 65536 in
theorem w_c31 : (Jvm.Cond.code ({ cls := "java/lang/StringUTF16", name := "compress", desc := "([CI[BII)I" } : Jvm.MethodName) jdk_52_method_21_code (7 : Nat) (Option.some Jvm.ClassFile.FieldType.int)).before args0 about1 = true := code_word (m := ⟨29, 3⟩) (meth := k29m3) (c := k29c3) (by decide +kernel) rfl rfl rfl (by decide +kernel)
set_option maxRecDepth 65536 in
theorem w_c32 : (Jvm.Cond.code ({ cls := "java/lang/StringUTF16", name := "coderFromArrayLen", desc := "([BI)B" } : Jvm.MethodName) jdk_52_method_15_code (2 : Nat) (Option.some Jvm.ClassFile.FieldType.byte)).before args0 about1 = true := code_word (m := ⟨29, 1⟩) (meth := k29m1) (c := k29c1) (by decide +kernel) rfl rfl rfl (by decide +kernel)
set_option maxRecDepth 65536 in
theorem w_c33 : (Jvm.Cond.code ({ cls := "java/util/ArrayList", name := "add", desc := "(Ljava/lang/Object;)Z" } : Jvm.MethodName) jdk_38_method_25_code (2 : Nat) (Option.some Jvm.ClassFile.FieldType.boolean)).before args0 about1 = true := code_word (m := ⟨17, 6⟩) (meth := k17m6) (c := k17c6) (by decide +kernel) rfl rfl rfl (by decide +kernel)
set_option maxRecDepth 65536 in
theorem w_c34 : (Jvm.Cond.code ({ cls := "java/util/ArrayList", name := "add", desc := "(Ljava/lang/Object;[Ljava/lang/Object;I)V" } : Jvm.MethodName) jdk_38_method_24_code (4 : Nat) (Option.none : Option Jvm.ClassFile.FieldType)).before args0 about1 = true := code_word (m := ⟨17, 5⟩) (meth := k17m5) (c := k17c5) (by decide +kernel) rfl rfl rfl (by decide +kernel)
set_option maxRecDepth 65536 in
theorem w_c35 : (Jvm.Cond.code ({ cls := "java/util/ArrayList", name := "grow", desc := "()[Ljava/lang/Object;" } : Jvm.MethodName) jdk_38_method_7_code (1 : Nat) (Option.some (Jvm.ClassFile.FieldType.array (Jvm.ClassFile.FieldType.object "java/lang/Object")))).before args0 about1 = true := code_word (m := ⟨17, 2⟩) (meth := k17m2) (c := k17c2) (by decide +kernel) rfl rfl rfl (by decide +kernel)
set_option maxRecDepth 65536 in
theorem w_c36 : (Jvm.Cond.code ({ cls := "java/util/ArrayList", name := "grow", desc := "(I)[Ljava/lang/Object;" } : Jvm.MethodName) jdk_38_method_6_code (4 : Nat) (Option.some (Jvm.ClassFile.FieldType.array (Jvm.ClassFile.FieldType.object "java/lang/Object")))).before args0 about1 = true := code_word (m := ⟨17, 1⟩) (meth := k17m1) (c := k17c1) (by decide +kernel) rfl rfl rfl (by decide +kernel)
set_option maxRecDepth 65536 in
theorem w_c37 : (Jvm.Cond.code ({ cls := "java/lang/Math", name := "max", desc := "(II)I" } : Jvm.MethodName) jdk_29_method_65_code (2 : Nat) (Option.some Jvm.ClassFile.FieldType.int)).before args0 about1 = true := code_word (m := ⟨30, 1⟩) (meth := k30m1) (c := k30c1) (by decide +kernel) rfl rfl rfl (by decide +kernel)
set_option maxRecDepth 65536 in
theorem w_c38 : (Jvm.Cond.code ({ cls := "java/lang/String", name := "isBlank", desc := "()Z" } : Jvm.MethodName) jdk_42_method_117_code (1 : Nat) (Option.some Jvm.ClassFile.FieldType.boolean)).before args0 about1 = true := code_word (m := ⟨7, 4⟩) (meth := k7m4) (c := k7c4) (by decide +kernel) rfl rfl rfl (by decide +kernel)
set_option maxRecDepth 65536 in
theorem w_c39 : (Jvm.Cond.code ({ cls := "java/lang/String", name := "indexOfNonWhitespace", desc := "()I" } : Jvm.MethodName) jdk_42_method_120_code (1 : Nat) (Option.some Jvm.ClassFile.FieldType.int)).before args0 about1 = true := code_word (m := ⟨7, 5⟩) (meth := k7m5) (c := k7c5) (by decide +kernel) rfl rfl rfl (by decide +kernel)
set_option maxRecDepth 65536 in
theorem w_c40 : (Jvm.Cond.code ({ cls := "java/lang/String", name := "isLatin1", desc := "()Z" } : Jvm.MethodName) jdk_42_method_154_code (1 : Nat) (Option.some Jvm.ClassFile.FieldType.boolean)).before args0 about1 = true := code_word (m := ⟨7, 10⟩) (meth := k7m10) (c := k7c10) (by decide +kernel) rfl rfl rfl (by decide +kernel)
set_option maxRecDepth 65536 in
theorem w_c41 : (Jvm.Cond.code ({ cls := "java/lang/StringLatin1", name := "indexOfNonWhitespace", desc := "([B)I" } : Jvm.MethodName) jdk_43_method_37_code (4 : Nat) (Option.some Jvm.ClassFile.FieldType.int)).before args0 about1 = true := code_word (m := ⟨8, 3⟩) (meth := k8m3) (c := k8c3) (by decide +kernel) rfl rfl rfl (by decide +kernel)
set_option maxRecDepth 65536 in
theorem w_c42 : (Jvm.Cond.code ({ cls := "java/lang/StringLatin1", name := "getChar", desc := "([BI)C" } : Jvm.MethodName) jdk_43_method_44_code (2 : Nat) (Option.some Jvm.ClassFile.FieldType.char)).before args0 about1 = true := code_word (m := ⟨8, 4⟩) (meth := k8m4) (c := k8c4) (by decide +kernel) rfl rfl rfl (by decide +kernel)
set_option maxRecDepth 65536 in
theorem w_c43 : (Jvm.Cond.code ({ cls := "java/lang/CharacterDataLatin1", name := "isWhitespace", desc := "(I)Z" } : Jvm.MethodName) jdk_116_method_26_code (3 : Nat) (Option.some Jvm.ClassFile.FieldType.boolean)).before args0 about1 = true := code_word (m := ⟨32, 1⟩) (meth := k32m1) (c := k32c1) (by decide +kernel) rfl rfl rfl (by decide +kernel)
set_option maxRecDepth 65536 in
theorem w_c44 : (Jvm.Cond.code ({ cls := "java/lang/CharacterDataLatin1", name := "getProperties", desc := "(I)I" } : Jvm.MethodName) jdk_116_method_1_code (4 : Nat) (Option.some Jvm.ClassFile.FieldType.int)).before args0 about1 = true := code_word (m := ⟨32, 0⟩) (meth := k32m0) (c := k32c0) (by decide +kernel) rfl rfl rfl (by decide +kernel)
set_option maxRecDepth 65536 in
theorem w_c45 : (Jvm.Cond.code ({ cls := "java/lang/String", name := "length", desc := "()I" } : Jvm.MethodName) jdk_42_method_54_code (1 : Nat) (Option.some Jvm.ClassFile.FieldType.int)).before args0 about1 = true := code_word (m := ⟨7, 2⟩) (meth := k7m2) (c := k7c2) (by decide +kernel) rfl rfl rfl (by decide +kernel)
set_option maxRecDepth 65536 in
theorem w_c46 : (Jvm.Cond.code ({ cls := "java/lang/String", name := "coder", desc := "()B" } : Jvm.MethodName) jdk_42_method_152_code (1 : Nat) (Option.some Jvm.ClassFile.FieldType.byte)).before args0 about1 = true := code_word (m := ⟨7, 9⟩) (meth := k7m9) (c := k7c9) (by decide +kernel) rfl rfl rfl (by decide +kernel)
set_option maxRecDepth 65536 in
theorem w_c47 : (Jvm.Cond.code ({ cls := "java/util/ArrayList$Itr", name := "next", desc := "()Ljava/lang/Object;" } : Jvm.MethodName) jdk_49_method_3_code (3 : Nat) (Option.some (Jvm.ClassFile.FieldType.object "java/lang/Object"))).before args0 about1 = true := code_word (m := ⟨20, 2⟩) (meth := k20m2) (c := k20c2) (by decide +kernel) rfl rfl rfl (by decide +kernel)
set_option maxRecDepth 65536 in
theorem w_c48 : (Jvm.Cond.code ({ cls := "java/util/ArrayList$Itr", name := "checkForComodification", desc := "()V" } : Jvm.MethodName) jdk_49_method_6_code (1 : Nat) (Option.none : Option Jvm.ClassFile.FieldType)).before args0 about1 = true := code_word (m := ⟨20, 3⟩) (meth := k20m3) (c := k20c3) (by decide +kernel) rfl rfl rfl (by decide +kernel)
set_option maxRecDepth 65536 in
theorem w_c49 : (Jvm.Cond.code ({ cls := "java/util/ArrayList", name := "toArray", desc := "()[Ljava/lang/Object;" } : Jvm.MethodName) jdk_38_method_16_code (1 : Nat) (Option.some (Jvm.ClassFile.FieldType.array (Jvm.ClassFile.FieldType.object "java/lang/Object")))).before args0 about1 = true := code_word (m := ⟨17, 4⟩) (meth := k17m4) (c := k17c4) (by decide +kernel) rfl rfl rfl (by decide +kernel)
set_option maxRecDepth 65536 in
theorem w_c50 : (Jvm.Cond.code ({ cls := "java/util/Arrays", name := "copyOf", desc := "([Ljava/lang/Object;I)[Ljava/lang/Object;" } : Jvm.MethodName) jdk_65_method_119_code (2 : Nat) (Option.some (Jvm.ClassFile.FieldType.array (Jvm.ClassFile.FieldType.object "java/lang/Object")))).before args0 about1 = true := code_word (m := ⟨28, 1⟩) (meth := k28m1) (c := k28c1) (by decide +kernel) rfl rfl rfl (by decide +kernel)
set_option maxRecDepth 65536 in
theorem w_c51 : (Jvm.Cond.code ({ cls := "java/util/Arrays", name := "copyOf", desc := "([Ljava/lang/Object;ILjava/lang/Class;)[Ljava/lang/Object;" } : Jvm.MethodName) jdk_65_method_120_code (4 : Nat) (Option.some (Jvm.ClassFile.FieldType.array (Jvm.ClassFile.FieldType.object "java/lang/Object")))).before args0 about1 = true := code_word (m := ⟨28, 2⟩) (meth := k28m2) (c := k28c2) (by decide +kernel) rfl rfl rfl (by decide +kernel)
set_option maxRecDepth 65536 in
theorem w_c52 : (Jvm.Cond.code ({ cls := "java/lang/Math", name := "min", desc := "(II)I" } : Jvm.MethodName) jdk_29_method_69_code (2 : Nat) (Option.some Jvm.ClassFile.FieldType.int)).before args0 about1 = true := code_word (m := ⟨30, 2⟩) (meth := k30m2) (c := k30c2) (by decide +kernel) rfl rfl rfl (by decide +kernel)
set_option maxRecDepth 65536 in
theorem w_c53 : (Jvm.Cond.code ({ cls := "java/util/List", name := "of", desc := "([Ljava/lang/Object;)Ljava/util/List;" } : Jvm.MethodName) jdk_40_method_47_code (2 : Nat) (Option.some (Jvm.ClassFile.FieldType.object "java/util/List"))).before args0 about1 = true := code_word (m := ⟨13, 3⟩) (meth := k13m3) (c := k13c3) (by decide +kernel) rfl rfl rfl (by decide +kernel)
set_option maxRecDepth 65536 in
theorem w_c54 : (Jvm.Cond.code ({ cls := "java/util/ImmutableCollections$List12", name := "<init>", desc := "(Ljava/lang/Object;)V" } : Jvm.MethodName) jdk_44_method_1_code (2 : Nat) (Option.none : Option Jvm.ClassFile.FieldType)).before args0 about1 = true := code_word (m := ⟨24, 0⟩) (meth := k24m0) (c := k24c0) (by decide +kernel) rfl rfl rfl (by decide +kernel)
set_option maxRecDepth 65536 in
theorem w_c55 : (Jvm.Cond.code ({ cls := "java/util/ImmutableCollections$AbstractImmutableList", name := "<init>", desc := "()V" } : Jvm.MethodName) jdk_46_method_1_code (1 : Nat) (Option.none : Option Jvm.ClassFile.FieldType)).before args0 about1 = true := code_word (m := ⟨23, 0⟩) (meth := k23m0) (c := k23c0) (by decide +kernel) rfl rfl rfl (by decide +kernel)
set_option maxRecDepth 65536 in
theorem w_c56 : (Jvm.Cond.code ({ cls := "java/util/ImmutableCollections$AbstractImmutableCollection", name := "<init>", desc := "()V" } : Jvm.MethodName) jdk_47_method_1_code (1 : Nat) (Option.none : Option Jvm.ClassFile.FieldType)).before args0 about1 = true := code_word (m := ⟨22, 0⟩) (meth := k22m0) (c := k22c0) (by decide +kernel) rfl rfl rfl (by decide +kernel)
set_option maxRecDepth 65536 in
theorem w_c57 : (Jvm.Cond.code ({ cls := "java/util/Objects", name := "requireNonNull", desc := "(Ljava/lang/Object;)Ljava/lang/Object;" } : Jvm.MethodName) jdk_31_method_10_code (1 : Nat) (Option.some (Jvm.ClassFile.FieldType.object "java/lang/Object"))).before args0 about1 = true := code_word (m := ⟨27, 3⟩) (meth := k27m3) (c := k27c3) (by decide +kernel) rfl rfl rfl (by decide +kernel)
set_option maxRecDepth 65536 in
theorem w_c58 : (Jvm.Cond.code ({ cls := "java/lang/String", name := "hashCode", desc := "()I" } : Jvm.MethodName) jdk_42_method_78_code (2 : Nat) (Option.some Jvm.ClassFile.FieldType.int)).before args0 about1 = true := code_word (m := ⟨7, 3⟩) (meth := k7m3) (c := k7c3) (by decide +kernel) rfl rfl rfl (by decide +kernel)
set_option maxRecDepth 65536 in
theorem w_c59 : (Jvm.Cond.code ({ cls := "java/lang/StringLatin1", name := "hashCode", desc := "([B)I" } : Jvm.MethodName) jdk_43_method_21_code (1 : Nat) (Option.some Jvm.ClassFile.FieldType.int)).before args0 about1 = true := code_word (m := ⟨8, 2⟩) (meth := k8m2) (c := k8c2) (by decide +kernel) rfl rfl rfl (by decide +kernel)
set_option maxRecDepth 65536 in
theorem w_c60 : (Jvm.Cond.code ({ cls := "jdk/internal/util/ArraysSupport", name := "vectorizedHashCode", desc := "(Ljava/lang/Object;IIII)I" } : Jvm.MethodName) jdk_48_method_4_code (5 : Nat) (Option.some Jvm.ClassFile.FieldType.int)).before args0 about1 = true := code_word (m := ⟨34, 1⟩) (meth := k34m1) (c := k34c1) (by decide +kernel) rfl rfl rfl (by decide +kernel)
set_option maxRecDepth 65536 in
theorem w_c61 : (Jvm.Cond.code ({ cls := "jdk/internal/util/ArraysSupport", name := "signedHashCode", desc := "(I[BII)I" } : Jvm.MethodName) jdk_48_method_5_code (6 : Nat) (Option.some Jvm.ClassFile.FieldType.int)).before args0 about1 = true := code_word (m := ⟨34, 2⟩) (meth := k34m2) (c := k34c2) (by decide +kernel) rfl rfl rfl (by decide +kernel)
set_option maxRecDepth 65536 in
theorem w_c62 : (Jvm.Cond.code ({ cls := "java/util/ImmutableCollections$List12", name := "size", desc := "()I" } : Jvm.MethodName) jdk_44_method_3_code (1 : Nat) (Option.some Jvm.ClassFile.FieldType.int)).before args0 about1 = true := code_word (m := ⟨24, 2⟩) (meth := k24m2) (c := k24c2) (by decide +kernel) rfl rfl rfl (by decide +kernel)
set_option maxRecDepth 65536 in
theorem w_c63 : (Jvm.Cond.code ({ cls := "java/util/ImmutableCollections$List12", name := "get", desc := "(I)Ljava/lang/Object;" } : Jvm.MethodName) jdk_44_method_5_code (2 : Nat) (Option.some (Jvm.ClassFile.FieldType.object "java/lang/Object"))).before args0 about1 = true := code_word (m := ⟨24, 3⟩) (meth := k24m3) (c := k24c3) (by decide +kernel) rfl rfl rfl (by decide +kernel)
set_option maxRecDepth 65536 in
theorem w_c64 : (Jvm.Cond.code ({ cls := "java/util/Objects", name := "hashCode", desc := "(Ljava/lang/Object;)I" } : Jvm.MethodName) jdk_31_method_4_code (1 : Nat) (Option.some Jvm.ClassFile.FieldType.int)).before args0 about1 = true := code_word (m := ⟨27, 1⟩) (meth := k27m1) (c := k27c1) (by decide +kernel) rfl rfl rfl (by decide +kernel)
set_option maxRecDepth 65536 in
theorem w_c65 : (Jvm.Cond.code ({ cls := "com/example/headings_from_text/headingsfromtext/vocabulary/ConceptHashCodePinLaw", name := "hashOf", desc := "(IZ)I" } : Jvm.MethodName) method_5_code (3 : Nat) (Option.some Jvm.ClassFile.FieldType.int)).before args0 about1 = true := code_word (m := ⟨1, 4⟩) (meth := k1m4) (c := k1c4) (by decide +kernel) rfl rfl rfl (by decide +kernel)
set_option maxRecDepth 65536 in
theorem w_c66 : (Jvm.Cond.code ({ cls := "java/util/ImmutableCollections$List12", name := "<init>", desc := "(Ljava/lang/Object;Ljava/lang/Object;)V" } : Jvm.MethodName) jdk_44_method_2_code (3 : Nat) (Option.none : Option Jvm.ClassFile.FieldType)).before args0 about1 = true := code_word (m := ⟨24, 1⟩) (meth := k24m1) (c := k24c1) (by decide +kernel) rfl rfl rfl (by decide +kernel)
def codes1 : List Jvm.Cond := [Jvm.Cond.code x code maxLocals ret, Jvm.Cond.code ({ cls := "com/example/headings_from_text/headingsfromtext/vocabulary/ConceptHashCodePinLaw", name := "mk", desc := "(IZ)Ljava/lang/String;" } : Jvm.MethodName) method_4_code (4 : Nat) (Option.some (Jvm.ClassFile.FieldType.object "java/lang/String")), Jvm.Cond.code ({ cls := "com/example/headings_from_text/headingsfromtext/vocabulary/ConceptHashCodePinLaw", name := "first", desc := "(I)C" } : Jvm.MethodName) method_2_code (2 : Nat) (Option.some Jvm.ClassFile.FieldType.char), Jvm.Cond.code ({ cls := "java/lang/String", name := "valueOf", desc := "(C)Ljava/lang/String;" } : Jvm.MethodName) jdk_42_method_139_code (1 : Nat) (Option.some (Jvm.ClassFile.FieldType.object "java/lang/String")), Jvm.Cond.code ({ cls := "java/lang/StringLatin1", name := "canEncode", desc := "(C)Z" } : Jvm.MethodName) jdk_43_method_3_code (1 : Nat) (Option.some Jvm.ClassFile.FieldType.boolean), Jvm.Cond.code ({ cls := "java/lang/StringLatin1", name := "toBytes", desc := "(C)[B" } : Jvm.MethodName) jdk_43_method_46_code (1 : Nat) (Option.some (Jvm.ClassFile.FieldType.array Jvm.ClassFile.FieldType.byte)), Jvm.Cond.code ({ cls := "java/lang/String", name := "<init>", desc := "([BB)V" } : Jvm.MethodName) jdk_42_method_151_code (3 : Nat) (Option.none : Option Jvm.ClassFile.FieldType), Jvm.Cond.code ({ cls := "java/lang/Object", name := "<init>", desc := "()V" } : Jvm.MethodName) object_method_1_code (1 : Nat) (Option.none : Option Jvm.ClassFile.FieldType), Jvm.Cond.code ({ cls := "java/util/ArrayList", name := "<init>", desc := "()V" } : Jvm.MethodName) jdk_38_method_2_code (1 : Nat) (Option.none : Option Jvm.ClassFile.FieldType), Jvm.Cond.code ({ cls := "java/util/AbstractList", name := "<init>", desc := "()V" } : Jvm.MethodName) jdk_39_method_1_code (1 : Nat) (Option.none : Option Jvm.ClassFile.FieldType), Jvm.Cond.code ({ cls := "java/util/AbstractCollection", name := "<init>", desc := "()V" } : Jvm.MethodName) jdk_22_method_1_code (1 : Nat) (Option.none : Option Jvm.ClassFile.FieldType), Jvm.Cond.code ({ cls := "com/example/headings_from_text/headingsfromtext/vocabulary/Concept", name := "<init>", desc := "(Ljava/lang/String;ZLjava/util/List;)V" } : Jvm.MethodName) prog_32_method_1_code (6 : Nat) (Option.none : Option Jvm.ClassFile.FieldType), Jvm.Cond.code ({ cls := "java/util/ArrayList", name := "iterator", desc := "()Ljava/util/Iterator;" } : Jvm.MethodName) jdk_38_method_55_code (1 : Nat) (Option.some (Jvm.ClassFile.FieldType.object "java/util/Iterator")), Jvm.Cond.code ({ cls := "java/util/ArrayList$Itr", name := "<init>", desc := "(Ljava/util/ArrayList;)V" } : Jvm.MethodName) jdk_49_method_1_code (2 : Nat) (Option.none : Option Jvm.ClassFile.FieldType), Jvm.Cond.code ({ cls := "java/util/ArrayList$Itr", name := "hasNext", desc := "()Z" } : Jvm.MethodName) jdk_49_method_2_code (1 : Nat) (Option.some Jvm.ClassFile.FieldType.boolean), Jvm.Cond.code ({ cls := "java/util/List", name := "copyOf", desc := "(Ljava/util/Collection;)Ljava/util/List;" } : Jvm.MethodName) jdk_40_method_48_code (1 : Nat) (Option.some (Jvm.ClassFile.FieldType.object "java/util/List")), Jvm.Cond.code ({ cls := "java/util/ImmutableCollections", name := "listCopy", desc := "(Ljava/util/Collection;)Ljava/util/List;" } : Jvm.MethodName) jdk_56_method_3_code (2 : Nat) (Option.some (Jvm.ClassFile.FieldType.object "java/util/List")), Jvm.Cond.code ({ cls := "java/util/ArrayList", name := "isEmpty", desc := "()Z" } : Jvm.MethodName) jdk_38_method_9_code (1 : Nat) (Option.some Jvm.ClassFile.FieldType.boolean), Jvm.Cond.code ({ cls := "java/util/List", name := "of", desc := "()Ljava/util/List;" } : Jvm.MethodName) jdk_40_method_36_code (0 : Nat) (Option.some (Jvm.ClassFile.FieldType.object "java/util/List")), Jvm.Cond.code ({ cls := "com/example/headings_from_text/headingsfromtext/vocabulary/Concept", name := "hashCode", desc := "()I" } : Jvm.MethodName) prog_32_method_6_code (1 : Nat) (Option.some Jvm.ClassFile.FieldType.int), Jvm.Cond.code ({ cls := "java/lang/Boolean", name := "valueOf", desc := "(Z)Ljava/lang/Boolean;" } : Jvm.MethodName) jdk_2055_method_5_code (1 : Nat) (Option.some (Jvm.ClassFile.FieldType.object "java/lang/Boolean")), Jvm.Cond.code ({ cls := "java/util/Objects", name := "hash", desc := "([Ljava/lang/Object;)I" } : Jvm.MethodName) jdk_31_method_5_code (1 : Nat) (Option.some Jvm.ClassFile.FieldType.int), Jvm.Cond.code ({ cls := "java/util/Arrays", name := "hashCode", desc := "([Ljava/lang/Object;)I" } : Jvm.MethodName) jdk_65_method_157_code (6 : Nat) (Option.some Jvm.ClassFile.FieldType.int), Jvm.Cond.code ({ cls := "java/lang/Boolean", name := "hashCode", desc := "()I" } : Jvm.MethodName) jdk_2055_method_9_code (1 : Nat) (Option.some Jvm.ClassFile.FieldType.int), Jvm.Cond.code ({ cls := "java/lang/Boolean", name := "hashCode", desc := "(Z)I" } : Jvm.MethodName) jdk_2055_method_10_code (1 : Nat) (Option.some Jvm.ClassFile.FieldType.int), Jvm.Cond.code ({ cls := "java/util/ImmutableCollections$AbstractImmutableList", name := "hashCode", desc := "()I" } : Jvm.MethodName) jdk_46_method_14_code (4 : Nat) (Option.some Jvm.ClassFile.FieldType.int), Jvm.Cond.code ({ cls := "java/util/ImmutableCollections$ListN", name := "size", desc := "()I" } : Jvm.MethodName) jdk_45_method_3_code (1 : Nat) (Option.some Jvm.ClassFile.FieldType.int), Jvm.Cond.code ({ cls := "com/example/headings_from_text/headingsfromtext/vocabulary/ConceptHashCodePinLaw", name := "second", desc := "(I)C" } : Jvm.MethodName) method_3_code (1 : Nat) (Option.some Jvm.ClassFile.FieldType.char), Jvm.Cond.code ({ cls := "java/lang/String", name := "<init>", desc := "([C)V" } : Jvm.MethodName) jdk_42_method_3_code (2 : Nat) (Option.none : Option Jvm.ClassFile.FieldType), Jvm.Cond.code ({ cls := "java/lang/String", name := "<init>", desc := "([CIILjava/lang/Void;)V" } : Jvm.MethodName) jdk_42_method_149_code (6 : Nat) (Option.none : Option Jvm.ClassFile.FieldType), Jvm.Cond.code ({ cls := "java/lang/StringUTF16", name := "compress", desc := "([CII)[B" } : Jvm.MethodName) jdk_52_method_16_code (6 : Nat) (Option.some (Jvm.ClassFile.FieldType.array Jvm.ClassFile.FieldType.byte)), Jvm.Cond.code ({ cls := "java/lang/StringUTF16", name := "compress", desc := "([CI[BII)I" } : Jvm.MethodName) jdk_52_method_21_code (7 : Nat) (Option.some Jvm.ClassFile.FieldType.int), Jvm.Cond.code ({ cls := "java/lang/StringUTF16", name := "coderFromArrayLen", desc := "([BI)B" } : Jvm.MethodName) jdk_52_method_15_code (2 : Nat) (Option.some Jvm.ClassFile.FieldType.byte), Jvm.Cond.code ({ cls := "java/util/ArrayList", name := "add", desc := "(Ljava/lang/Object;)Z" } : Jvm.MethodName) jdk_38_method_25_code (2 : Nat) (Option.some Jvm.ClassFile.FieldType.boolean), Jvm.Cond.code ({ cls := "java/util/ArrayList", name := "add", desc := "(Ljava/lang/Object;[Ljava/lang/Object;I)V" } : Jvm.MethodName) jdk_38_method_24_code (4 : Nat) (Option.none : Option Jvm.ClassFile.FieldType), Jvm.Cond.code ({ cls := "java/util/ArrayList", name := "grow", desc := "()[Ljava/lang/Object;" } : Jvm.MethodName) jdk_38_method_7_code (1 : Nat) (Option.some (Jvm.ClassFile.FieldType.array (Jvm.ClassFile.FieldType.object "java/lang/Object"))), Jvm.Cond.code ({ cls := "java/util/ArrayList", name := "grow", desc := "(I)[Ljava/lang/Object;" } : Jvm.MethodName) jdk_38_method_6_code (4 : Nat) (Option.some (Jvm.ClassFile.FieldType.array (Jvm.ClassFile.FieldType.object "java/lang/Object"))), Jvm.Cond.code ({ cls := "java/lang/Math", name := "max", desc := "(II)I" } : Jvm.MethodName) jdk_29_method_65_code (2 : Nat) (Option.some Jvm.ClassFile.FieldType.int), Jvm.Cond.code ({ cls := "java/lang/String", name := "isBlank", desc := "()Z" } : Jvm.MethodName) jdk_42_method_117_code (1 : Nat) (Option.some Jvm.ClassFile.FieldType.boolean), Jvm.Cond.code ({ cls := "java/lang/String", name := "indexOfNonWhitespace", desc := "()I" } : Jvm.MethodName) jdk_42_method_120_code (1 : Nat) (Option.some Jvm.ClassFile.FieldType.int), Jvm.Cond.code ({ cls := "java/lang/String", name := "isLatin1", desc := "()Z" } : Jvm.MethodName) jdk_42_method_154_code (1 : Nat) (Option.some Jvm.ClassFile.FieldType.boolean), Jvm.Cond.code ({ cls := "java/lang/StringLatin1", name := "indexOfNonWhitespace", desc := "([B)I" } : Jvm.MethodName) jdk_43_method_37_code (4 : Nat) (Option.some Jvm.ClassFile.FieldType.int), Jvm.Cond.code ({ cls := "java/lang/StringLatin1", name := "getChar", desc := "([BI)C" } : Jvm.MethodName) jdk_43_method_44_code (2 : Nat) (Option.some Jvm.ClassFile.FieldType.char), Jvm.Cond.code ({ cls := "java/lang/CharacterDataLatin1", name := "isWhitespace", desc := "(I)Z" } : Jvm.MethodName) jdk_116_method_26_code (3 : Nat) (Option.some Jvm.ClassFile.FieldType.boolean), Jvm.Cond.code ({ cls := "java/lang/CharacterDataLatin1", name := "getProperties", desc := "(I)I" } : Jvm.MethodName) jdk_116_method_1_code (4 : Nat) (Option.some Jvm.ClassFile.FieldType.int), Jvm.Cond.code ({ cls := "java/lang/String", name := "length", desc := "()I" } : Jvm.MethodName) jdk_42_method_54_code (1 : Nat) (Option.some Jvm.ClassFile.FieldType.int), Jvm.Cond.code ({ cls := "java/lang/String", name := "coder", desc := "()B" } : Jvm.MethodName) jdk_42_method_152_code (1 : Nat) (Option.some Jvm.ClassFile.FieldType.byte), Jvm.Cond.code ({ cls := "java/util/ArrayList$Itr", name := "next", desc := "()Ljava/lang/Object;" } : Jvm.MethodName) jdk_49_method_3_code (3 : Nat) (Option.some (Jvm.ClassFile.FieldType.object "java/lang/Object")), Jvm.Cond.code ({ cls := "java/util/ArrayList$Itr", name := "checkForComodification", desc := "()V" } : Jvm.MethodName) jdk_49_method_6_code (1 : Nat) (Option.none : Option Jvm.ClassFile.FieldType), Jvm.Cond.code ({ cls := "java/util/ArrayList", name := "toArray", desc := "()[Ljava/lang/Object;" } : Jvm.MethodName) jdk_38_method_16_code (1 : Nat) (Option.some (Jvm.ClassFile.FieldType.array (Jvm.ClassFile.FieldType.object "java/lang/Object"))), Jvm.Cond.code ({ cls := "java/util/Arrays", name := "copyOf", desc := "([Ljava/lang/Object;I)[Ljava/lang/Object;" } : Jvm.MethodName) jdk_65_method_119_code (2 : Nat) (Option.some (Jvm.ClassFile.FieldType.array (Jvm.ClassFile.FieldType.object "java/lang/Object"))), Jvm.Cond.code ({ cls := "java/util/Arrays", name := "copyOf", desc := "([Ljava/lang/Object;ILjava/lang/Class;)[Ljava/lang/Object;" } : Jvm.MethodName) jdk_65_method_120_code (4 : Nat) (Option.some (Jvm.ClassFile.FieldType.array (Jvm.ClassFile.FieldType.object "java/lang/Object"))), Jvm.Cond.code ({ cls := "java/lang/Math", name := "min", desc := "(II)I" } : Jvm.MethodName) jdk_29_method_69_code (2 : Nat) (Option.some Jvm.ClassFile.FieldType.int), Jvm.Cond.code ({ cls := "java/util/List", name := "of", desc := "([Ljava/lang/Object;)Ljava/util/List;" } : Jvm.MethodName) jdk_40_method_47_code (2 : Nat) (Option.some (Jvm.ClassFile.FieldType.object "java/util/List")), Jvm.Cond.code ({ cls := "java/util/ImmutableCollections$List12", name := "<init>", desc := "(Ljava/lang/Object;)V" } : Jvm.MethodName) jdk_44_method_1_code (2 : Nat) (Option.none : Option Jvm.ClassFile.FieldType), Jvm.Cond.code ({ cls := "java/util/ImmutableCollections$AbstractImmutableList", name := "<init>", desc := "()V" } : Jvm.MethodName) jdk_46_method_1_code (1 : Nat) (Option.none : Option Jvm.ClassFile.FieldType), Jvm.Cond.code ({ cls := "java/util/ImmutableCollections$AbstractImmutableCollection", name := "<init>", desc := "()V" } : Jvm.MethodName) jdk_47_method_1_code (1 : Nat) (Option.none : Option Jvm.ClassFile.FieldType), Jvm.Cond.code ({ cls := "java/util/Objects", name := "requireNonNull", desc := "(Ljava/lang/Object;)Ljava/lang/Object;" } : Jvm.MethodName) jdk_31_method_10_code (1 : Nat) (Option.some (Jvm.ClassFile.FieldType.object "java/lang/Object")), Jvm.Cond.code ({ cls := "java/lang/String", name := "hashCode", desc := "()I" } : Jvm.MethodName) jdk_42_method_78_code (2 : Nat) (Option.some Jvm.ClassFile.FieldType.int), Jvm.Cond.code ({ cls := "java/lang/StringLatin1", name := "hashCode", desc := "([B)I" } : Jvm.MethodName) jdk_43_method_21_code (1 : Nat) (Option.some Jvm.ClassFile.FieldType.int), Jvm.Cond.code ({ cls := "jdk/internal/util/ArraysSupport", name := "vectorizedHashCode", desc := "(Ljava/lang/Object;IIII)I" } : Jvm.MethodName) jdk_48_method_4_code (5 : Nat) (Option.some Jvm.ClassFile.FieldType.int), Jvm.Cond.code ({ cls := "jdk/internal/util/ArraysSupport", name := "signedHashCode", desc := "(I[BII)I" } : Jvm.MethodName) jdk_48_method_5_code (6 : Nat) (Option.some Jvm.ClassFile.FieldType.int), Jvm.Cond.code ({ cls := "java/util/ImmutableCollections$List12", name := "size", desc := "()I" } : Jvm.MethodName) jdk_44_method_3_code (1 : Nat) (Option.some Jvm.ClassFile.FieldType.int), Jvm.Cond.code ({ cls := "java/util/ImmutableCollections$List12", name := "get", desc := "(I)Ljava/lang/Object;" } : Jvm.MethodName) jdk_44_method_5_code (2 : Nat) (Option.some (Jvm.ClassFile.FieldType.object "java/lang/Object")), Jvm.Cond.code ({ cls := "java/util/Objects", name := "hashCode", desc := "(Ljava/lang/Object;)I" } : Jvm.MethodName) jdk_31_method_4_code (1 : Nat) (Option.some Jvm.ClassFile.FieldType.int), Jvm.Cond.code ({ cls := "com/example/headings_from_text/headingsfromtext/vocabulary/ConceptHashCodePinLaw", name := "hashOf", desc := "(IZ)I" } : Jvm.MethodName) method_5_code (3 : Nat) (Option.some Jvm.ClassFile.FieldType.int), Jvm.Cond.code ({ cls := "java/util/ImmutableCollections$List12", name := "<init>", desc := "(Ljava/lang/Object;Ljava/lang/Object;)V" } : Jvm.MethodName) jdk_44_method_2_code (3 : Nat) (Option.none : Option Jvm.ClassFile.FieldType)]
set_option maxRecDepth 65536 in
theorem codes_eq : words1.filter isCode = codes1 := rfl
theorem w_codes : ∀ c ∈ words1.filter isCode, c.before args0 about1 = true := by
  rw [codes_eq]
  intro c hc
  simp only [codes1, List.mem_cons, List.not_mem_nil, or_false] at hc
  rcases hc with rfl | rfl | rfl | rfl | rfl | rfl | rfl | rfl | rfl | rfl | rfl | rfl | rfl | rfl | rfl | rfl | rfl | rfl | rfl | rfl | rfl | rfl | rfl | rfl | rfl | rfl | rfl | rfl | rfl | rfl | rfl | rfl | rfl | rfl | rfl | rfl | rfl | rfl | rfl | rfl | rfl | rfl | rfl | rfl | rfl | rfl | rfl | rfl | rfl | rfl | rfl | rfl | rfl | rfl | rfl | rfl | rfl | rfl | rfl | rfl | rfl | rfl | rfl | rfl | rfl | rfl | rfl
  · exact w_c0
  · exact w_c1
  · exact w_c2
  · exact w_c3
  · exact w_c4
  · exact w_c5
  · exact w_c6
  · exact w_c7
  · exact w_c8
  · exact w_c9
  · exact w_c10
  · exact w_c11
  · exact w_c12
  · exact w_c13
  · exact w_c14
  · exact w_c15
  · exact w_c16
  · exact w_c17
  · exact w_c18
  · exact w_c19
  · exact w_c20
  · exact w_c21
  · exact w_c22
  · exact w_c23
  · exact w_c24
  · exact w_c25
  · exact w_c26
  · exact w_c27
  · exact w_c28
  · exact w_c29
  · exact w_c30
  · exact w_c31
  · exact w_c32
  · exact w_c33
  · exact w_c34
  · exact w_c35
  · exact w_c36
  · exact w_c37
  · exact w_c38
  · exact w_c39
  · exact w_c40
  · exact w_c41
  · exact w_c42
  · exact w_c43
  · exact w_c44
  · exact w_c45
  · exact w_c46
  · exact w_c47
  · exact w_c48
  · exact w_c49
  · exact w_c50
  · exact w_c51
  · exact w_c52
  · exact w_c53
  · exact w_c54
  · exact w_c55
  · exact w_c56
  · exact w_c57
  · exact w_c58
  · exact w_c59
  · exact w_c60
  · exact w_c61
  · exact w_c62
  · exact w_c63
  · exact w_c64
  · exact w_c65
  · exact w_c66
set_option maxRecDepth 65536 in
theorem w_t1 : (words1.take 24).all (fun c => isCode c || c.before args0 about1) = true := by decide +kernel
set_option maxRecDepth 65536 in
theorem w_t2 : ((words1.drop 24).take 24).all (fun c => isCode c || c.before args0 about1) = true := by decide +kernel
set_option maxRecDepth 65536 in
theorem w_t3 : (((words1.drop 24).drop 24).take 24).all (fun c => isCode c || c.before args0 about1) = true := by decide +kernel
set_option maxRecDepth 65536 in
theorem w_t4 : ((((words1.drop 24).drop 24).drop 24).take 24).all (fun c => isCode c || c.before args0 about1) = true := by decide +kernel
set_option maxRecDepth 65536 in
theorem w_t5 : (((((words1.drop 24).drop 24).drop 24).drop 24).take 24).all (fun c => isCode c || c.before args0 about1) = true := by decide +kernel
set_option maxRecDepth 65536 in
theorem w_t6 : ((((((words1.drop 24).drop 24).drop 24).drop 24).drop 24).take 24).all (fun c => isCode c || c.before args0 about1) = true := by decide +kernel
set_option maxRecDepth 65536 in
theorem w_t7 : (((((((words1.drop 24).drop 24).drop 24).drop 24).drop 24).drop 24).take 24).all (fun c => isCode c || c.before args0 about1) = true := by decide +kernel
set_option maxRecDepth 65536 in
theorem w_t8 : ((((((((words1.drop 24).drop 24).drop 24).drop 24).drop 24).drop 24).drop 24).take 24).all (fun c => isCode c || c.before args0 about1) = true := by decide +kernel
set_option maxRecDepth 65536 in
theorem w_t9 : (((((((((words1.drop 24).drop 24).drop 24).drop 24).drop 24).drop 24).drop 24).drop 24).take 24).all (fun c => isCode c || c.before args0 about1) = true := by decide +kernel
set_option maxRecDepth 65536 in
theorem w_t10 : ((((((((((words1.drop 24).drop 24).drop 24).drop 24).drop 24).drop 24).drop 24).drop 24).drop 24).take 24).all (fun c => isCode c || c.before args0 about1) = true := by decide +kernel
set_option maxRecDepth 65536 in
theorem w_t11 : (((((((((((words1.drop 24).drop 24).drop 24).drop 24).drop 24).drop 24).drop 24).drop 24).drop 24).drop 24).take 24).all (fun c => isCode c || c.before args0 about1) = true := by decide +kernel
set_option maxRecDepth 65536 in
theorem w_t12 : ((((((((((((words1.drop 24).drop 24).drop 24).drop 24).drop 24).drop 24).drop 24).drop 24).drop 24).drop 24).drop 24).take 24).all (fun c => isCode c || c.before args0 about1) = true := by decide +kernel
set_option maxRecDepth 65536 in
theorem w_t13 : (((((((((((((words1.drop 24).drop 24).drop 24).drop 24).drop 24).drop 24).drop 24).drop 24).drop 24).drop 24).drop 24).drop 24).take 24).all (fun c => isCode c || c.before args0 about1) = true := by decide +kernel
set_option maxRecDepth 65536 in
theorem w_t14 : ((((((((((((((words1.drop 24).drop 24).drop 24).drop 24).drop 24).drop 24).drop 24).drop 24).drop 24).drop 24).drop 24).drop 24).drop 24).take 24).all (fun c => isCode c || c.before args0 about1) = true := by decide +kernel
set_option maxRecDepth 65536 in
theorem w_t15 : (((((((((((((((words1.drop 24).drop 24).drop 24).drop 24).drop 24).drop 24).drop 24).drop 24).drop 24).drop 24).drop 24).drop 24).drop 24).drop 24).take 24).all (fun c => isCode c || c.before args0 about1) = true := by decide +kernel
set_option maxRecDepth 65536 in
theorem w_t16 : ((((((((((((((((words1.drop 24).drop 24).drop 24).drop 24).drop 24).drop 24).drop 24).drop 24).drop 24).drop 24).drop 24).drop 24).drop 24).drop 24).drop 24).take 24).all (fun c => isCode c || c.before args0 about1) = true := by decide +kernel
set_option maxRecDepth 65536 in
theorem w_t17 : ((((((((((((((((words1.drop 24).drop 24).drop 24).drop 24).drop 24).drop 24).drop 24).drop 24).drop 24).drop 24).drop 24).drop 24).drop 24).drop 24).drop 24).drop 24).all (fun c => isCode c || c.before args0 about1) = true := by decide +kernel
theorem w_tables : (allAtoms (Jvm.Cond.code x code maxLocals ret :: tables_1)).before args0 about1 = true := by
  rw [allAtoms_all]
  show words1.all (fun c => c.before args0 about1) = true
  refine all_split ?_ w_codes
  rw [← List.take_append_drop 24 words1, List.all_append, w_t1, ← List.take_append_drop 24 (words1.drop 24), List.all_append, w_t2, ← List.take_append_drop 24 ((words1.drop 24).drop 24), List.all_append, w_t3, ← List.take_append_drop 24 (((words1.drop 24).drop 24).drop 24), List.all_append, w_t4, ← List.take_append_drop 24 ((((words1.drop 24).drop 24).drop 24).drop 24), List.all_append, w_t5, ← List.take_append_drop 24 (((((words1.drop 24).drop 24).drop 24).drop 24).drop 24), List.all_append, w_t6, ← List.take_append_drop 24 ((((((words1.drop 24).drop 24).drop 24).drop 24).drop 24).drop 24), List.all_append, w_t7, ← List.take_append_drop 24 (((((((words1.drop 24).drop 24).drop 24).drop 24).drop 24).drop 24).drop 24), List.all_append, w_t8, ← List.take_append_drop 24 ((((((((words1.drop 24).drop 24).drop 24).drop 24).drop 24).drop 24).drop 24).drop 24), List.all_append, w_t9, ← List.take_append_drop 24 (((((((((words1.drop 24).drop 24).drop 24).drop 24).drop 24).drop 24).drop 24).drop 24).drop 24), List.all_append, w_t10, ← List.take_append_drop 24 ((((((((((words1.drop 24).drop 24).drop 24).drop 24).drop 24).drop 24).drop 24).drop 24).drop 24).drop 24), List.all_append, w_t11, ← List.take_append_drop 24 (((((((((((words1.drop 24).drop 24).drop 24).drop 24).drop 24).drop 24).drop 24).drop 24).drop 24).drop 24).drop 24), List.all_append, w_t12, ← List.take_append_drop 24 ((((((((((((words1.drop 24).drop 24).drop 24).drop 24).drop 24).drop 24).drop 24).drop 24).drop 24).drop 24).drop 24).drop 24), List.all_append, w_t13, ← List.take_append_drop 24 (((((((((((((words1.drop 24).drop 24).drop 24).drop 24).drop 24).drop 24).drop 24).drop 24).drop 24).drop 24).drop 24).drop 24).drop 24), List.all_append, w_t14, ← List.take_append_drop 24 ((((((((((((((words1.drop 24).drop 24).drop 24).drop 24).drop 24).drop 24).drop 24).drop 24).drop 24).drop 24).drop 24).drop 24).drop 24).drop 24), List.all_append, w_t15, ← List.take_append_drop 24 (((((((((((((((words1.drop 24).drop 24).drop 24).drop 24).drop 24).drop 24).drop 24).drop 24).drop 24).drop 24).drop 24).drop 24).drop 24).drop 24).drop 24), List.all_append, w_t16, w_t17]
  rfl
set_option maxRecDepth 65536 in
theorem w_rest : rest_1_c.before args0 about1 = true := by decide +kernel
set_option maxRecDepth 65536 in
theorem w_case : (Jvm.Cond.and given_1 narrow_1).before args0 about1 = true := by decide +kernel
theorem w_applies : (headSpec (Jvm.Cond.code x code maxLocals ret :: tables_1) room_1).applies x e0.platform about1 = true :=
  (Spec.applies_iff w_frames).mpr ⟨w_running, w_runnable, w_alone, w_named, w_hears, w_ripe, w_room, w_tables⟩
theorem atStart : AtStart classFile x code maxLocals ret World_1 tables_1 room_1 Calls_1 rest_1 Pre_1 launch0 p0 e0 about1 theMethod args0 below0 :=
  ⟨lists_1, trivial, launch0.admits_env _ _ _, launch0.least_env, fairChoices_fair.cas, fairChoices_fair.clock, w_frames, w_args, w_heap, w_applies, ⟨⟨43, k43, 6, by decide +kernel, rfl, rfl, _, rfl, rfl⟩, trivial⟩, w_rest, w_case⟩
end start1
theorem witness_1 : WitnessClaimed_1 := ⟨start1.p0, start1.e0, start1.about1, start1.theMethod, start1.args0, start1.below0, start1.atStart⟩
end Jvm.Pilot.@@N@@
